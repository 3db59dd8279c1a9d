/-
  impl.Toc.
-/
import Derived.Test.YtfllcbcokncgpaaGreatDoorToc1
import Derived.Test.YtfllcbcokncgpaaGreatDoorReadRaw
import Derived.StillTailTactics
namespace Go.Proofs.YtfllcbcokncgpaaGreatDoor
set_option linter.unusedSimpArgs false
set_option linter.unusedVariables false
open Go.RowKit

abbrev T6 : TypeId := 51
abbrev zero6 : List Value := [.int .u64 0, .int .u64 0, .int .u64 0, .int .u64 0, .int .u64 0, .int .u64 0]
theorem zz_any (a : Option Addr) (n c : Nat) (w : World) :
    Calls Tryz.prog 56 #[.slice a n c] w fun e w' => e = .returned (.iface 145 (.slice a n c)) ∧ w = w' := by
  go_enter Tryz.func56, Tryz.ntmps56
  go_wp2_with fail
  go_ret
  exact ⟨rfl, rfl⟩

theorem six_set {w : World} {q : Nat} {t : TypeId} {x0 x1 x2 x3 x4 x5 : Value} (k : Blk w q [x0, x1, x2, x3, x4, x5] t) (a0 a1 a2 a3 a4 a5 : Value) :
    Blk ((((((w.setCell ⟨q, 0, none⟩ a0).setCell ⟨q, 1, none⟩ a1).setCell ⟨q, 2, none⟩ a2).setCell ⟨q, 3, none⟩ a3).setCell ⟨q, 4, none⟩ a4).setCell ⟨q, 5, none⟩ a5) q [a0, a1, a2, a3, a4, a5] t ∧ Chg (fun k => k = q) w ((((((w.setCell ⟨q, 0, none⟩ a0).setCell ⟨q, 1, none⟩ a1).setCell ⟨q, 2, none⟩ a2).setCell ⟨q, 3, none⟩ a3).setCell ⟨q, 4, none⟩ a4).setCell ⟨q, 5, none⟩ a5) :=
  ⟨(((((k.set 0 a0).set 1 a1).set 2 a2).set 3 a3).set 4 a4).set 5 a5, ((((((Chg.refl (fun k => k = q) w).setCell ⟨q, 0, none⟩ rfl a0).setCell ⟨q, 1, none⟩ rfl a1).setCell ⟨q, 2, none⟩ rfl a2).setCell ⟨q, 3, none⟩ rfl a3).setCell ⟨q, 4, none⟩ rfl a4).setCell ⟨q, 5, none⟩ rfl a5⟩

set_option maxRecDepth 100000 in
set_option maxHeartbeats 4000000 in
theorem tocF_ok (v : Value) (m : List UInt8) (s q0 q1 q2 : Nat) (w : World) (h : Bytes w v m) (hm : m.length = s + 52) (hs : s ≤ 2147483595) (hq : Lib.beNat ((m.drop s).drop 48) = crcOf ((m.drop s).take 48))
    (k0 : Blk w q0 [v] 27) (k1 : Blk w q1 zero6 T6) (k2 : Blk w q2 [.bool false] 4) (h12 : q1 ≠ q2) :
    Calls Tryz.prog 54 #[.pointer (some ⟨q0, 0, none⟩), .pointer (some ⟨q1, 0, none⟩), .pointer (some ⟨q2, 0, none⟩)] w fun e w' => e = .returned (.tuple #[]) ∧ (Blk w' q1 (tocCells (m.drop s)) T6 ∧ Blk w' q2 [.bool true] 4) ∧ Chg (fun k => k = q1 ∨ k = q2) w w' := by
  obtain ⟨v2, w2, hr2, ho2, hb2, g2, gc2, rfl⟩ := copy_bytes w v _ h (by omega)
  have hB2 := Bytes.own ho2
  obtain ⟨a', c', e', hc1, hc2⟩ := hB2.form
  injection e' with e1 _ e3
  subst e1 e3
  rw [hm] at hc1 hB2 hr2
  have hd := newToc_ok g2 0 s gc2 m w2 hB2 hm hc1 hc2 (by omega) hq
  have HR := Lib.hid hr2
  have c0 := ((below_new w (.cells #[] 5)).cell (p := ⟨q0, 0, none⟩) k0.lt).trans (k0.cell 0)
  have p1 := k1.lt
  have p2 := k2.lt
  have hz2 := hb2.size
  obtain ⟨ao, cap, rfl, _, _⟩ := h.form
  clear hr2 h ho2 hB2 hm hq
  generalize m.length = n at *
  go_enter Tryz.func54, Tryz.ntmps54
  go_wp2_with (first
    | (at_builtin; refine list_run 27 27 rfl (.tmp 6) (.tmp 7) rfl rfl rfl rfl HR.out ?_)
    | (go_at_call 56; refine (zz_any _ _ _ _).mono ?_; rintro e w' ⟨rfl, rfl⟩)
    | (go_at_call 55; refine hd.mono ?_; rintro e w3 ⟨t, rfl, hT, ht, hb3⟩; have hb13 := bnx hb2 hb3; have kk1 := k1.chg (Chg.ofBelow hb13) (by omega); have kk2 := k2.chg (Chg.ofBelow hb13) (by omega))
    | fail)
  generalize hTN : tocN (m.drop s) = N at *
  clear hTN
  have d0 := hT.drew.cell 0
  have d1 := hT.drew.cell 1
  have d2 := hT.drew.cell 2
  have d3 := hT.drew.cell 3
  have d4 := hT.drew.cell 4
  have d5 := hT.drew.cell 5
  go_still_tail 25, (by kernel_rfl)
  change wpList _ _ _ _ _ w3.drew
  have K1 := kk1.drew
  have K2 := kk2.drew
  have hcc : Chg (fun k => k = q1 ∨ k = q2) w w3.drew := ((Chg.refl _ w).calls hb13).drew
  generalize w3.drew = W at *
  have f0 := K1.free 0
  have g0 := K1.cell 0
  have f1 := K1.free 1
  have g1 := K1.cell 1
  have f2 := K1.free 2
  have g2 := K1.cell 2
  have f3 := K1.free 3
  have g3 := K1.cell 3
  have f4 := K1.free 4
  have g4 := K1.cell 4
  have f5 := K1.free 5
  have g5 := K1.cell 5
  have f6 := K2.free 0
  have g6 := K2.cell 0
  go_wp2_with fail
  go_end0
  obtain ⟨m1, c1⟩ := six_set K1 (.int .u64 (tocN (m.drop s) 0)) (.int .u64 (tocN (m.drop s) 1)) (.int .u64 (tocN (m.drop s) 2)) (.int .u64 (tocN (m.drop s) 3)) (.int .u64 (tocN (m.drop s) 4)) (.int .u64 (tocN (m.drop s) 5))
  exact ⟨rfl, ⟨m1.chg (chg_set _ q2 0 _) (by omega), (K2.chg c1 (by omega)).set 0 _⟩, (hcc.trans (c1.mono fun k hk => .inl hk)).setCell ⟨q2, 0, none⟩ (.inr rfl) _⟩

set_option maxRecDepth 100000 in
set_option maxHeartbeats 4000000 in
theorem tocF_bad (v : Value) (m : List UInt8) (q0 q1 q2 : Nat) (w : World) (t : TypeId) (u : Value) (hE : w.cell? ⟨EG, 0, none⟩ = some (.iface t u)) (h : Bytes w v m) (hl : m.length ≤ 2147483647)
    (hq : m.length < 52 ∨ ∃ s, m.length = s + 52 ∧ ¬ Lib.beNat ((m.drop s).drop 48) = crcOf ((m.drop s).take 48)) (k0 : Blk w q0 [v] 27) :
    Calls Tryz.prog 54 #[.pointer (some ⟨q0, 0, none⟩), .pointer (some ⟨q1, 0, none⟩), .pointer (some ⟨q2, 0, none⟩)] w fun e w' => e = .returned (.tuple #[]) ∧ Below w.heap.size w w' := by
  have hEl := cell_lt hE
  obtain ⟨v2, w2, hr2, ho2, hb2, g2, gc2, rfl⟩ := copy_bytes w v _ h hl
  have hB2 := Bytes.own ho2
  obtain ⟨a', c', e', hc1, hc2⟩ := hB2.form
  injection e' with e1 _ e3
  subst e1 e3
  have hd : Calls Tryz.prog 55 #[.iface 145 (.slice (some ⟨g2, 0, none⟩) m.length gc2)] w2 fun e w' => (∃ t u, e = .returned (.tuple #[.pointer none, .iface t u])) ∧ Below w2.heap.size w2 w' := by
    rcases hq with hq | ⟨s, hm, hq⟩
    · exact newToc_short _ _ _ _ t u ((hb2.cell (p := ⟨EG, 0, none⟩) hEl).trans hE) hq
    · rw [hm] at hc1 hB2 ⊢
      exact newToc_sum g2 0 s gc2 m w2 hB2 hm hc1 hc2 (by omega) hq
  have HR := Lib.hid hr2
  have c0 := ((below_new w (.cells #[] 5)).cell (p := ⟨q0, 0, none⟩) k0.lt).trans (k0.cell 0)
  obtain ⟨ao, cap, rfl, _, _⟩ := h.form
  clear hr2 h ho2 hB2 hq
  generalize m.length = n at *
  go_enter Tryz.func54, Tryz.ntmps54
  go_wp2_with (first
    | (at_builtin; refine list_run 27 27 rfl (.tmp 6) (.tmp 7) rfl rfl rfl rfl HR.out ?_)
    | (go_at_call 56; refine (zz_any _ _ _ _).mono ?_; rintro e w' ⟨rfl, rfl⟩)
    | (go_at_call 55; refine hd.mono ?_; rintro e w3 ⟨⟨t3, u3, rfl⟩, hb3⟩)
    | fail)
  go_end0
  exact ⟨rfl, bnx hb2 hb3⟩

/-- the cells that the closure has -/
theorem three_cells (w : World) (v : Value) : ∃ W, W = ((w.alloc (.cells #[v] 27)).alloc (.cells zero6.toArray T6)).alloc (.cells #[.bool false] 4) ∧
    Blk W w.heap.size [v] 27 ∧ Blk W (w.heap.size + 1) zero6 T6 ∧ Blk W (w.heap.size + 1 + 1) [.bool false] 4 ∧ W.heap.size = w.heap.size + 3 ∧ Below w.heap.size w W := by
  refine ⟨_, rfl, ((Blk.new w [v] _).alloc _).alloc _, ?_, ?_, by simp, ((below_new w _).alloc (by simp) _).alloc (by simp; omega) _⟩
  · have := (Blk.new (w.alloc (.cells #[v] 27)) zero6 T6).alloc (.cells #[.bool false] 4)
    simpa using this
  · have := Blk.new ((w.alloc (.cells #[v] 27)).alloc (.cells zero6.toArray T6)) [.bool false] 4
    simpa using this

set_option maxRecDepth 100000 in
set_option maxHeartbeats 4000000 in
theorem toc_ok (v : Value) (m : List UInt8) (s : Nat) (w : World) (h : Bytes w v m) (hm : m.length = s + 52) (hs : s ≤ 2147483595) (hq : Lib.beNat ((m.drop s).drop 48) = crcOf ((m.drop s).take 48)) :
    Calls Tryz.prog 28 #[v] w fun e w' => e = .returned (.tuple #[.agg (tocCells (m.drop s)).toArray, .bool true]) ∧ Below w.heap.size w w' := by
  have hmf := hmk
  obtain ⟨ao, cap, rfl, _, _⟩ := h.form
  obtain ⟨W0, hW0, k0, k1, k2, hsz, hbW⟩ := three_cells w (.slice ao m.length cap)
  have hW := Lib.hid hW0.symm
  have n1 := below_new W0 (.cells #[.bool false] 4)
  have hF := tocF_ok _ m s w.heap.size (w.heap.size + 1) (w.heap.size + 1 + 1) (W0.alloc (.cells #[.bool false] 4)) ((h.up hbW).up n1) hm hs hq (k0.alloc _) (k1.alloc _) (k2.alloc _) (by omega)
  clear hW0 hm h hq
  generalize m.drop s = T at *
  generalize m.length = n at *
  go_enter Tryz.func28, Tryz.ntmps28
  go_wp2_with fail
  rw [hW.out]
  refine (safe_ok 54 _ W0 (fun w' => Blk w' (w.heap.size + 1) (tocCells T) T6 ∧ Blk w' (w.heap.size + 1 + 1) [.bool true] 4) (fun k => k = w.heap.size + 1 ∨ k = w.heap.size + 1 + 1) (fun _ => by kernel_rfl) (by omega) hF).mono ?_
  rintro e w2 ⟨rfl, w1, ⟨a1, a2⟩, hc1, hc2⟩
  have b1 := a1.chg hc2 (by omega)
  have b2 := a2.chg hc2 (by omega)
  have e0 := b1.cell 0
  have e1 := b1.cell 1
  have e2 := b1.cell 2
  have e3 := b1.cell 3
  have e4 := b1.cell 4
  have e5 := b1.cell 5
  have f0 := b1.free 0
  have f1 := b1.free 1
  have f2 := b1.free 2
  have f3 := b1.free 3
  have f4 := b1.free 4
  have f5 := b1.free 5
  have e6 := b2.cell 0
  have f6 := b2.free 0
  go_wp2_with fail
  obtain ⟨m1, c1⟩ := six_set b1 (.int .u64 (tocN T 0)) (.int .u64 (tocN T 1)) (.int .u64 (tocN T 2)) (.int .u64 (tocN T 3)) (.int .u64 (tocN T 4)) (.int .u64 (tocN T 5))
  have m2 := m1.chg (chg_set _ (w.heap.size + 1 + 1) 0 (.bool true)) (by omega)
  have m3 := (b2.chg c1 (by omega)).set 0 (.bool true)
  have r0 := m2.cell 0
  have r1 := m2.cell 1
  have r2 := m2.cell 2
  have r3 := m2.cell 3
  have r4 := m2.cell 4
  have r5 := m2.cell 5
  have r6 := m3.cell 0
  have hsz1 := hc1.size
  simp at hsz1
  have hsz2 := hc2.size
  have hcs := (c1.mono (T := fun k => w.heap.size ≤ k) (fun k hk => by omega)).setCell ⟨w.heap.size + 1 + 1, 0, none⟩ (show w.heap.size ≤ w.heap.size + 1 + 1 by omega) (.bool true)
  refine bodyPost_ret (v := .tuple #[.agg (tocCells T).toArray, .bool true]) (by simp [results, Tryz.results28, go_sem, r0, r1, r2, r3, r4, r5, r6]) rfl ⟨rfl, ?_⟩
  exact (hbW.trans ((n1.mono (by omega)).trans (hc1.below _ (by simp; omega) (fun k hk => by omega)))).trans ((hc2.below _ (by omega) (fun k hk => by omega)).trans (hcs.below _ (by omega) (fun k hk => by omega)))

set_option maxRecDepth 100000 in
set_option maxHeartbeats 4000000 in
theorem toc_bad (v : Value) (m : List UInt8) (w : World) (t : TypeId) (u : Value) (hE : w.cell? ⟨EG, 0, none⟩ = some (.iface t u)) (h : Bytes w v m) (hl : m.length ≤ 2147483647)
    (hq : m.length < 52 ∨ ∃ s, m.length = s + 52 ∧ ¬ Lib.beNat ((m.drop s).drop 48) = crcOf ((m.drop s).take 48)) :
    Calls Tryz.prog 28 #[v] w fun e w' => e = .returned (.tuple #[.agg zero6.toArray, .bool false]) ∧ Below w.heap.size w w' := by
  have hmf := hmk
  have hEl := cell_lt hE
  obtain ⟨ao, cap, rfl, _, _⟩ := h.form
  obtain ⟨W0, hW0, k0, k1, k2, hsz, hbW⟩ := three_cells w (.slice ao m.length cap)
  have hW := Lib.hid hW0.symm
  have n1 := below_new W0 (.cells #[.bool false] 4)
  have hF := tocF_bad _ m w.heap.size (w.heap.size + 1) (w.heap.size + 1 + 1) (W0.alloc (.cells #[.bool false] 4)) t u (((hbW.trans (n1.mono (by omega))).cell (p := ⟨EG, 0, none⟩) hEl).trans hE) ((h.up hbW).up n1) hl hq (k0.alloc _)
  clear hW0 h hq hl
  generalize m.length = n at *
  go_enter Tryz.func28, Tryz.ntmps28
  go_wp2_with fail
  rw [hW.out]
  refine (safe_ok 54 _ W0 (fun _ => True) (fun _ => False) (fun _ => by kernel_rfl) (fun h => h) (hF.mono ?_)).mono ?_
  · rintro e w' ⟨he, hb⟩
    exact ⟨he, trivial, (Chg.refl _ _).calls hb⟩
  rintro e w2 ⟨rfl, w1, -, hc1, hc2⟩
  have hc : Chg (fun k => k = W0.heap.size) W0 w2 := (((Chg.refl _ W0).alloc (.cells #[.bool false] 4)).trans (hc1.mono fun k hk => hk.elim)).trans hc2
  have b1 := k1.chg hc (by omega)
  have b2 := k2.chg hc (by omega)
  have e0 := b1.cell 0
  have e1 := b1.cell 1
  have e2 := b1.cell 2
  have e3 := b1.cell 3
  have e4 := b1.cell 4
  have e5 := b1.cell 5
  have f0 := b1.free 0
  have f1 := b1.free 1
  have f2 := b1.free 2
  have f3 := b1.free 3
  have f4 := b1.free 4
  have f5 := b1.free 5
  have e6 := b2.cell 0
  have f6 := b2.free 0
  go_wp2_with fail
  obtain ⟨m1, c1⟩ := six_set b1 (.int .u64 0) (.int .u64 0) (.int .u64 0) (.int .u64 0) (.int .u64 0) (.int .u64 0)
  have m2 := m1.chg (chg_set _ (w.heap.size + 1 + 1) 0 (.bool false)) (by omega)
  have m3 := (b2.chg c1 (by omega)).set 0 (.bool false)
  have r0 := m2.cell 0
  have r1 := m2.cell 1
  have r2 := m2.cell 2
  have r3 := m2.cell 3
  have r4 := m2.cell 4
  have r5 := m2.cell 5
  have r6 := m3.cell 0
  have hsz2 := hc.size
  have hcs := (c1.mono (T := fun k => w.heap.size ≤ k) (fun k hk => by omega)).setCell ⟨w.heap.size + 1 + 1, 0, none⟩ (show w.heap.size ≤ w.heap.size + 1 + 1 by omega) (.bool false)
  refine bodyPost_ret (v := .tuple #[.agg zero6.toArray, .bool false]) (by simp [results, Tryz.results28, go_sem, r0, r1, r2, r3, r4, r5, r6]) rfl ⟨rfl, ?_⟩
  exact (hbW.trans (hc.below _ (by omega) (fun k hk => by omega))).trans ((hcs.below _ (by omega) (fun k hk => by omega)))
end Go.Proofs.YtfllcbcokncgpaaGreatDoor
