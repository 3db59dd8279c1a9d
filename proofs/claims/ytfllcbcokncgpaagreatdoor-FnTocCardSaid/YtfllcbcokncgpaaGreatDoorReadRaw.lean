/-
  impl.ReadRawPostings: what bytes are, read as postings.
-/
import Derived.Test.YtfllcbcokncgpaaGreatDoorRawDec
import Derived.Test.YtfllcbcokncgpaaGreatDoorAwakeX
namespace Go.Proofs.YtfllcbcokncgpaaGreatDoor
set_option linter.unusedSimpArgs false
set_option linter.unusedVariables false
open Go.RowKit

theorem BB.set_other {w : World} {B q : Nat} {v y : Value} {l : List UInt8} {t : TypeId} (h : BB w B v l) (k : Blk w q [y] t) (hy : ∀ z, y ≠ .int .u8 z) (u : Value) : BB (w.setCell ⟨q, 0, none⟩ u) B v l := by
  obtain ⟨a, c, h1, h2, h3, h4⟩ := h
  refine ⟨a, c, h1, h2, h3, ?_⟩
  rcases h4 with h4 | ⟨b, o, h4, h5, h6, h7⟩
  · exact .inl h4
  · refine .inr ⟨b, o, h4, h5, by rw [size_set]; exact h6, fun i hi => ?_⟩
    have hne : ¬ b = q := by
      rintro rfl
      have h8 := h7 i hi
      rw [k.cell] at h8
      have h9 : (o + i) = 0 := by
        rcases Nat.eq_zero_or_pos (o + i) with h9 | h9
        · exact h9
        · rw [List.getElem?_eq_none (by simp; omega)] at h8; cases h8
      rw [h9] at h8
      simp at h8
      exact hy _ h8
    exact cell_chg (chg_set w q 0 u) (h7 i hi) hne
theorem BP.set_other {g B0 B q : Nat} {w : World} {r : List UInt8} {c : Int} (h : BP g B0 B w r c) {y : Value} {t : TypeId} (k : Blk w q [y] t) (hy : ∀ z, y ≠ .int .u8 z) (hq : q < B0) (u : Value) : BP g B0 B (w.setCell ⟨q, 0, none⟩ u) r c := by
  obtain ⟨v, h1, h2, h3, h4⟩ := h
  exact ⟨v, h1.chg (chg_set w q 0 u) (by omega), h2.set_other k hy u, h3, h4⟩

set_option maxRecDepth 100000 in
set_option maxHeartbeats 2000000 in
theorem readF_ok (v : Value) (b0 b1 b2 b3 : UInt8) (r : List UInt8) (q0 q1 q2 q3 : Nat) (w : World) (h : Bytes w v (b0 :: b1 :: b2 :: b3 :: r)) (hr : r.length = 4 * Lib.beNat [b0, b1, b2, b3]) (hl : (b0 :: b1 :: b2 :: b3 :: r).length ≤ 2147483647)
    (k0 : Blk w q0 [v] 27) (k1 : Blk w q1 [.int .i64 0] 3) (k2 : Blk w q2 [.slice none 0 0] 30) (k3 : Blk w q3 [.bool false] 4) (h12 : q1 ≠ q2) (h13 : q1 ≠ q3) (h23 : q2 ≠ q3) :
    Calls Tryz.prog 40 #[.pointer (some ⟨q0, 0, none⟩), .pointer (some ⟨q1, 0, none⟩), .pointer (some ⟨q2, 0, none⟩), .pointer (some ⟨q3, 0, none⟩)] w fun e w' => e = .returned (.tuple #[]) ∧ (∃ x, Blk w' q1 [.int .i64 (Lib.beNat [b0, b1, b2, b3] : Nat)] 3 ∧ Blk w' q2 [x] 30 ∧ Blk w' q3 [.bool true] 4 ∧ w'.ownsRow w.heap.size 28 1 x (Lib.beNat [b0, b1, b2, b3]) ((nums4 r).map (Value.int .u64))) ∧ Chg (fun k => k = q1 ∨ k = q2 ∨ k = q3) w w' := by
  have hnl := nums4_length _ r hr
  obtain ⟨v2, w2, hr2, ho2, hb2, g2, gc2, rfl⟩ := copy_bytes w v _ h hl
  have hd := decodeRaw_ok _ b0 b1 b2 b3 r w2 (Bytes.own ho2) hr
  have hHR := Lib.hid hr
  have HN := Lib.hid hnl
  have HR := Lib.hid hr2
  have c0 := ((below_new w (.cells #[] 5)).cell (p := ⟨q0, 0, none⟩) k0.lt).trans (k0.cell 0)
  have p1 := k1.lt
  have p2 := k2.lt
  have p3 := k3.lt
  have hz2 := hb2.size
  have hq1 : q1 < w2.heap.size := by omega
  have hx : Lib.beNat [b0, b1, b2, b3] < 4294967296 := by have := beNat_lt [b0, b1, b2, b3]; simpa using this
  have hxl : (nums4 r).length ≤ 2147483646 := by rw [hnl]; simp only [List.length_cons] at hl; omega
  obtain ⟨ao, cap, rfl, _, _⟩ := h.form
  clear hr hr2 hnl hl h ho2
  generalize (b0 :: b1 :: b2 :: b3 :: r).length = n at *
  generalize Lib.beNat [b0, b1, b2, b3] = x at *
  go_enter Tryz.func40, Tryz.ntmps40
  go_wp2_with (first
    | (at_builtin; refine list_run 27 27 rfl (.tmp 8) (.tmp 9) rfl rfl rfl rfl HR.out ?_)
    | (go_at_call 41; refine hd.mono ?_; rintro e w3 ⟨g, rfl, hBP, hb3⟩; have hb13 := bnx hb2 hb3; have kk1 := k1.chg (Chg.ofBelow hb13) (by omega); have z1 := kk1.free 0; have e1 := kk1.cell 0)
    | (go_at_call 42; refine (expanded_any (bp_iter g w2.heap.size w3.heap.size) (nums4 r) (w3.setCell ⟨q1, 0, none⟩ (.int .i64 x)) ⟨r, 0, hHR.out.trans (by rw [HN.out]), rfl, hBP.set_other kk1 (fun z hz => by cases hz) hq1 _, fun y hy => by cases hy⟩ hb3.size (size_set _ _ _) hxl).mono ?_; rintro e w4 ⟨x4, rfl, ho4, hc4⟩; obtain ⟨xa, xc, rfl⟩ := own_form ho4; have hz3 := hb3.size; have s2 := ((k2.chg (Chg.ofBelow hb13) (by omega)).chg (chg_set w3 q1 0 (.int .i64 x)) (by omega)).chg hc4 (by omega); have s3 := ((k3.chg (Chg.ofBelow hb13) (by omega)).chg (chg_set w3 q1 0 (.int .i64 x)) (by omega)).chg hc4 (by omega); have s1 := (kk1.set 0 (.int .i64 x)).chg hc4 (by omega); have z2 := s2.free 0; have z3 := s3.free 0; have e2 := s2.cell 0; have e3 := s3.cell 0; have y3 := (s3.chg (chg_set w4 q2 0 (.slice xa (nums4 r).length xc)) (by omega)).free 0; have x3 := (s3.chg (chg_set w4 q2 0 (.slice xa (nums4 r).length xc)) (by omega)).cell 0)
    | fail)
  go_end0
  have hcc : Chg (fun k => k = q1 ∨ k = q2 ∨ k = q3) w w4 := by
    have hca : Chg (fun k => k = q1 ∨ w.heap.size ≤ k) w w4 := ((Chg.ofBelow hb13).mono (fun k hk => .inr hk)).trans (((chg_set w3 q1 0 (.int .i64 x)).mono (fun k hk => .inl hk)).trans (hc4.mono (fun k hk => .inr (by omega))))
    exact ⟨hca.os, hca.tape, hca.output, hca.size, fun k hk hn => hca.block k hk (by omega)⟩
  refine ⟨rfl, ⟨_, (s1.chg (chg_set w4 q2 0 _) (by omega)).chg (chg_set _ q3 0 _) (by omega), (s2.set 0 _).chg (chg_set _ q3 0 _) (by omega), (s3.chg (chg_set w4 q2 0 _) (by omega)).set 0 _, ?_⟩, (hcc.setCell ⟨q2, 0, none⟩ (.inr (.inl rfl)) _).setCell ⟨q3, 0, none⟩ (.inr (.inr rfl)) _⟩
  have ho5 := own_chg (own_chg (own_base ho4 (by omega : w.heap.size ≤ w3.heap.size)) (chg_set w4 q2 0 (.slice xa (nums4 r).length xc)) (fun g h _ => by omega)) (chg_set _ q3 0 (.bool true)) (fun g h _ => by omega)
  rw [HN.out] at ho5
  rw [HN.out]
  exact ho5

set_option maxRecDepth 100000 in
set_option maxHeartbeats 2000000 in
theorem readF_bad (v : Value) (l : List UInt8) (q0 q1 q2 q3 : Nat) (w : World) (t : TypeId) (u : Value) (hE : w.cell? ⟨EG, 0, none⟩ = some (.iface t u)) (h : Bytes w v l) (hr : rawIs l = false) (hl : l.length ≤ 2147483647) (k0 : Blk w q0 [v] 27) :
    Calls Tryz.prog 40 #[.pointer (some ⟨q0, 0, none⟩), .pointer (some ⟨q1, 0, none⟩), .pointer (some ⟨q2, 0, none⟩), .pointer (some ⟨q3, 0, none⟩)] w fun e w' => e = .returned (.tuple #[]) ∧ Below w.heap.size w w' := by
  have hEl := cell_lt hE
  obtain ⟨v2, w2, hr2, ho2, hb2, g2, gc2, rfl⟩ := copy_bytes w v _ h hl
  have hd := decodeRaw_bad _ l w2 t u ((hb2.cell (p := ⟨EG, 0, none⟩) hEl).trans hE) (Bytes.own ho2) hr
  have HR := Lib.hid hr2
  have c0 := ((below_new w (.cells #[] 5)).cell (p := ⟨q0, 0, none⟩) k0.lt).trans (k0.cell 0)
  obtain ⟨ao, cap, rfl, _, _⟩ := h.form
  clear hr hr2 hl h ho2
  go_enter Tryz.func40, Tryz.ntmps40
  go_wp2_with (first
    | (at_builtin; refine list_run 27 27 rfl (.tmp 8) (.tmp 9) rfl rfl rfl rfl HR.out ?_)
    | (go_at_call 41; refine hd.mono ?_; rintro e w3 ⟨⟨t3, u3, rfl⟩, hb3⟩)
    | fail)
  go_end0
  exact ⟨rfl, bnx hb2 hb3⟩

theorem three_set {w : World} {q1 q2 q3 : Nat} {t1 t2 t3 : TypeId} {x1 x2 x3 : Value} (k1 : Blk w q1 [x1] t1) (k2 : Blk w q2 [x2] t2) (k3 : Blk w q3 [x3] t3) (h12 : q1 ≠ q2) (h13 : q1 ≠ q3) (h23 : q2 ≠ q3) (A B C : Value) :
    (((w.setCell ⟨q1, 0, none⟩ A).setCell ⟨q2, 0, none⟩ B).setCell ⟨q3, 0, none⟩ C).cell? ⟨q1, 0, none⟩ = some A ∧ (((w.setCell ⟨q1, 0, none⟩ A).setCell ⟨q2, 0, none⟩ B).setCell ⟨q3, 0, none⟩ C).cell? ⟨q2, 0, none⟩ = some B ∧
    (((w.setCell ⟨q1, 0, none⟩ A).setCell ⟨q2, 0, none⟩ B).setCell ⟨q3, 0, none⟩ C).cell? ⟨q3, 0, none⟩ = some C ∧ Chg (fun k => k = q1 ∨ k = q2 ∨ k = q3) w (((w.setCell ⟨q1, 0, none⟩ A).setCell ⟨q2, 0, none⟩ B).setCell ⟨q3, 0, none⟩ C) :=
  ⟨(((k1.set 0 A).chg (chg_set _ q2 0 B) h12).chg (chg_set _ q3 0 C) h13).cell 0, (((k2.chg (chg_set w q1 0 A) (fun h => h12 h.symm)).set 0 B).chg (chg_set _ q3 0 C) h23).cell 0,
    (((k3.chg (chg_set w q1 0 A) (fun h => h13 h.symm)).chg (chg_set _ q2 0 B) (fun h => h23 h.symm)).set 0 C).cell 0,
    (((Chg.refl (fun k => k = q1 ∨ k = q2 ∨ k = q3) w).setCell ⟨q1, 0, none⟩ (.inl rfl) A).setCell ⟨q2, 0, none⟩ (.inr (.inl rfl)) B).setCell ⟨q3, 0, none⟩ (.inr (.inr rfl)) C⟩
/-- the cells that the closure has -/
theorem four_cells (w : World) (v : Value) : ∃ W, W = (((w.alloc (.cells #[v] 27)).alloc (.cells #[.int .i64 0] 3)).alloc (.cells #[.slice none 0 0] 30)).alloc (.cells #[.bool false] 4) ∧
    Blk W w.heap.size [v] 27 ∧ Blk W (w.heap.size + 1) [.int .i64 0] 3 ∧ Blk W (w.heap.size + 1 + 1) [.slice none 0 0] 30 ∧ Blk W (w.heap.size + 1 + 1 + 1) [.bool false] 4 ∧ W.heap.size = w.heap.size + 4 ∧ Below w.heap.size w W := by
  refine ⟨_, rfl, (((Blk.new w [v] _).alloc _).alloc _).alloc _, ?_, ?_, ?_, by simp, (((below_new w _).alloc (by simp) _).alloc (by simp; omega) _).alloc (by simp; omega) _⟩
  · have := ((Blk.new (w.alloc (.cells #[v] 27)) [.int .i64 0] 3).alloc (.cells #[.slice none 0 0] 30)).alloc (.cells #[.bool false] 4)
    simpa using this
  · have := (Blk.new ((w.alloc (.cells #[v] 27)).alloc (.cells #[.int .i64 0] 3)) [.slice none 0 0] 30).alloc (.cells #[.bool false] 4)
    simpa using this
  · have := Blk.new (((w.alloc (.cells #[v] 27)).alloc (.cells #[.int .i64 0] 3)).alloc (.cells #[.slice none 0 0] 30)) [.bool false] 4
    simpa using this

set_option maxRecDepth 100000 in
set_option maxHeartbeats 2000000 in
theorem readRaw_bad (v : Value) (l : List UInt8) (w : World) (t : TypeId) (u : Value) (hE : w.cell? ⟨EG, 0, none⟩ = some (.iface t u)) (h : Bytes w v l) (hr : rawIs l = false) (hl : l.length ≤ 2147483647) :
    Calls Tryz.prog 17 #[v] w fun e w' => e = .returned (.tuple #[.int .i64 0, .slice none 0 0, .bool false]) ∧ Below w.heap.size w w' := by
  have hmf := hmk
  have hEl := cell_lt hE
  obtain ⟨ao, cap, rfl, _, _⟩ := h.form
  obtain ⟨W0, hW0, k0, k1, k2, k3, hsz, hbW⟩ := four_cells w (.slice ao l.length cap)
  have hW := Lib.hid hW0.symm
  clear hW0
  go_enter Tryz.func17, Tryz.ntmps17
  go_wp2_with fail
  rw [hW.out]
  have n1 := below_new W0 (.cells #[.bool false] 4)
  have hF := readF_bad (.slice ao l.length cap) l w.heap.size (w.heap.size + 1) (w.heap.size + 1 + 1) (w.heap.size + 1 + 1 + 1) (W0.alloc (.cells #[.bool false] 4)) t u (((hbW.trans (n1.mono (by omega))).cell (p := ⟨EG, 0, none⟩) hEl).trans hE) ((h.up hbW).up n1) hr hl (k0.alloc _)
  refine (safe_ok 40 _ W0 (fun _ => True) (fun _ => False) (fun _ => by kernel_rfl) (fun h => h) (hF.mono ?_)).mono ?_
  · rintro e w' ⟨he, hb⟩
    exact ⟨he, trivial, (Chg.refl _ _).calls hb⟩
  rintro e w2 ⟨rfl, w1, -, hc1, hc2⟩
  have hc : Chg (fun k => k = W0.heap.size) W0 w2 := (((Chg.refl _ W0).alloc (.cells #[.bool false] 4)).trans (hc1.mono fun k hk => hk.elim)).trans hc2
  have b1 := k1.chg hc (by omega)
  have b2 := k2.chg hc (by omega)
  have b3 := k3.chg hc (by omega)
  have e1 := b1.cell 0
  have e2 := b2.cell 0
  have e3 := b3.cell 0
  have z1 := b1.free 0
  have z2 := b2.free 0
  have z3 := b3.free 0
  go_wp2_with fail
  obtain ⟨r1, r2, r3, hcs⟩ := three_set b1 b2 b3 (by omega) (by omega) (by omega) (.int .i64 0) (.slice none 0 0) (.bool false)
  refine bodyPost_ret (v := .tuple #[.int .i64 0, .slice none 0 0, .bool false]) (by simp [results, Tryz.results17, go_sem, r1, r2, r3]) rfl ⟨rfl, ?_⟩
  exact (hbW.trans (hc.below _ (by omega) (fun k hk => by omega))).trans (hcs.below _ (by have := hc.size; omega) (fun k hk => by omega))

set_option maxRecDepth 100000 in
set_option maxHeartbeats 2000000 in
theorem readRaw_ok (v : Value) (b0 b1 b2 b3 : UInt8) (r : List UInt8) (w : World) (h : Bytes w v (b0 :: b1 :: b2 :: b3 :: r)) (hr : r.length = 4 * Lib.beNat [b0, b1, b2, b3]) (hl : (b0 :: b1 :: b2 :: b3 :: r).length ≤ 2147483647) :
    Calls Tryz.prog 17 #[v] w fun e w' => ∃ x, e = .returned (.tuple #[.int .i64 (Lib.beNat [b0, b1, b2, b3] : Nat), x, .bool true]) ∧ w'.ownsRow w.heap.size 28 1 x (Lib.beNat [b0, b1, b2, b3]) ((nums4 r).map (Value.int .u64)) ∧ Below w.heap.size w w' := by
  have hmf := hmk
  obtain ⟨ao, cap, rfl, _, _⟩ := h.form
  obtain ⟨W0, hW0, k0, k1, k2, k3, hsz, hbW⟩ := four_cells w (.slice ao (b0 :: b1 :: b2 :: b3 :: r).length cap)
  have hW := Lib.hid hW0.symm
  have n1 := below_new W0 (.cells #[.bool false] 4)
  have hF := readF_ok _ b0 b1 b2 b3 r w.heap.size (w.heap.size + 1) (w.heap.size + 1 + 1) (w.heap.size + 1 + 1 + 1) (W0.alloc (.cells #[.bool false] 4)) ((h.up hbW).up n1) hr hl (k0.alloc _) (k1.alloc _) (k2.alloc _) (k3.alloc _) (by omega) (by omega) (by omega)
  clear hW0 hr h hl
  generalize (b0 :: b1 :: b2 :: b3 :: r).length = n at *
  generalize Lib.beNat [b0, b1, b2, b3] = y at *
  go_enter Tryz.func17, Tryz.ntmps17
  go_wp2_with fail
  rw [hW.out]
  refine (safe_ok 40 _ W0 (fun w' => ∃ x, Blk w' (w.heap.size + 1) [.int .i64 (y : Nat)] 3 ∧ Blk w' (w.heap.size + 1 + 1) [x] 30 ∧ Blk w' (w.heap.size + 1 + 1 + 1) [.bool true] 4 ∧ w'.ownsRow (W0.heap.size + 1) 28 1 x y ((nums4 r).map (Value.int .u64))) (fun k => k = w.heap.size + 1 ∨ k = w.heap.size + 1 + 1 ∨ k = w.heap.size + 1 + 1 + 1) (fun _ => by kernel_rfl) (by omega) (hF.mono ?_)).mono ?_
  · rintro e w' ⟨he, ⟨x, a1, a2, a3, ho⟩, hc⟩
    exact ⟨he, ⟨x, a1, a2, a3, own_base ho (by simp)⟩, hc⟩
  rintro e w2 ⟨rfl, w1, ⟨x, a1, a2, a3, ho⟩, hc1, hc2⟩
  obtain ⟨xa, xc, rfl⟩ := own_form ho
  have b1 := a1.chg hc2 (by omega)
  have b2 := a2.chg hc2 (by omega)
  have b3 := a3.chg hc2 (by omega)
  have ho2 := own_chg ho hc2 (fun g h _ => by omega)
  have e1 := b1.cell 0
  have e2 := b2.cell 0
  have e3 := b3.cell 0
  have z1 := b1.free 0
  have z2 := b2.free 0
  have z3 := b3.free 0
  go_wp2_with fail
  have d1 := b1.drew.cell 0
  have d2 := b2.drew.cell 0
  have d3 := b3.drew.cell 0
  have f1 := b1.drew.free 0
  have f2 := b2.drew.free 0
  have f3 := b3.drew.free 0
  go_region
  go_wp2_with fail
  obtain ⟨r1, r2, r3, hcs⟩ := three_set b1 b2 b3 (by omega) (by omega) (by omega) (.int .i64 (y : Nat)) (.slice xa y xc) (.bool true)
  have r1' : ((((w2.setCell ⟨w.heap.size + 1, 0, none⟩ (.int .i64 (y : Nat))).setCell ⟨w.heap.size + 1 + 1, 0, none⟩ (.slice xa y xc)).setCell ⟨w.heap.size + 1 + 1 + 1, 0, none⟩ (.bool true)).drew).cell? ⟨w.heap.size + 1, 0, none⟩ = some (.int .i64 (y : Nat)) := r1
  have r2' : ((((w2.setCell ⟨w.heap.size + 1, 0, none⟩ (.int .i64 (y : Nat))).setCell ⟨w.heap.size + 1 + 1, 0, none⟩ (.slice xa y xc)).setCell ⟨w.heap.size + 1 + 1 + 1, 0, none⟩ (.bool true)).drew).cell? ⟨w.heap.size + 1 + 1, 0, none⟩ = some (.slice xa y xc) := r2
  have r3' : ((((w2.setCell ⟨w.heap.size + 1, 0, none⟩ (.int .i64 (y : Nat))).setCell ⟨w.heap.size + 1 + 1, 0, none⟩ (.slice xa y xc)).setCell ⟨w.heap.size + 1 + 1 + 1, 0, none⟩ (.bool true)).drew).cell? ⟨w.heap.size + 1 + 1 + 1, 0, none⟩ = some (.bool true) := r3
  have hsz1 := hc1.size
  simp at hsz1
  have hsz2 := hc2.size
  refine bodyPost_ret (v := .tuple #[.int .i64 (y : Nat), .slice xa y xc, .bool true]) (by simp [results, Tryz.results17, go_sem, r1', r2', r3']) rfl ⟨_, rfl, ?_, ?_⟩
  · exact own_base (own_drew (own_chg ho2 hcs (fun g h _ => by omega))) (by omega)
  · exact (((hbW.trans ((n1.mono (by omega)).trans (hc1.below _ (by simp; omega) (fun k hk => by omega)))).trans (hc2.below _ (by omega) (fun k hk => by omega))).trans (hcs.below _ (by omega) (fun k hk => by omega))).drew
end Go.Proofs.YtfllcbcokncgpaaGreatDoor
