/-
  impl.DecodeAt.
-/
import Derived.Test.YthcmpkpbdgnfpaaGreatDoorDecFn
import Derived.Test.YthcmpkpbdgnfpaaGreatDoorDecAt2
import Derived.Test.YthcmpkpbdgnfpaaGreatDoorDecVar
namespace Go.Proofs.YthcmpkpbdgnfpaaGreatDoor
set_option linter.unusedSimpArgs false
set_option linter.unusedVariables false
open Go.RowKit

/-- the cells that the closure has -/
theorem five_cells (w : World) (v : Value) (t : Nat) (uv : Bool) : ∃ W, W = ((((w.alloc (.cells #[v] 22)).alloc (.cells #[.int .i64 t] 3)).alloc (.cells #[.bool uv] 4)).alloc (.cells #[.slice none 0 0] 22)).alloc (.cells #[.int .i64 0] 3) ∧
    Blk W w.heap.size [v] 22 ∧ Blk W (w.heap.size + 1) [.int .i64 t] 3 ∧ Blk W (w.heap.size + 1 + 1) [.bool uv] 4 ∧ Blk W (w.heap.size + 1 + 1 + 1) [.slice none 0 0] 22 ∧ Blk W (w.heap.size + 1 + 1 + 1 + 1) [.int .i64 0] 3 ∧ W.heap.size = w.heap.size + 5 ∧ Below w.heap.size w W := by
  refine ⟨_, rfl, ((((Blk.new w [v] _).alloc _).alloc _).alloc _).alloc _, ?_, ?_, ?_, ?_, by simp, ((((below_new w _).alloc (by simp) _).alloc (by simp; omega) _).alloc (by simp; omega) _).alloc (by simp; omega) _⟩
  · have := (((Blk.new (w.alloc (.cells #[v] 22)) [.int .i64 t] 3).alloc (.cells #[.bool uv] 4)).alloc (.cells #[.slice none 0 0] 22)).alloc (.cells #[.int .i64 0] 3)
    simpa using this
  · have := ((Blk.new ((w.alloc (.cells #[v] 22)).alloc (.cells #[.int .i64 t] 3)) [.bool uv] 4).alloc (.cells #[.slice none 0 0] 22)).alloc (.cells #[.int .i64 0] 3)
    simpa using this
  · have := (Blk.new (((w.alloc (.cells #[v] 22)).alloc (.cells #[.int .i64 t] 3)).alloc (.cells #[.bool uv] 4)) [.slice none 0 0] 22).alloc (.cells #[.int .i64 0] 3)
    simpa using this
  · have := Blk.new ((((w.alloc (.cells #[v] 22)).alloc (.cells #[.int .i64 t] 3)).alloc (.cells #[.bool uv] 4)).alloc (.cells #[.slice none 0 0] 22)) [.int .i64 0] 3
    simpa using this

set_option maxRecDepth 100000 in
set_option maxHeartbeats 4000000 in
theorem decode_of (va : Option Addr) (vn vc t : Nat) (uv : Bool) (how : Int) (L : List UInt8) (w : World)
    (hF : ∀ (q0 q1 q2 q3 q4 : Nat) (W : World), Below w.heap.size w W → Blk W q0 [.bool uv] 4 → Blk W q1 [.slice va vn vc] 22 → Blk W q2 [.int .i64 t] 3 → Blk W q3 [.slice none 0 0] 22 → Blk W q4 [.int .i64 3] 3 → q3 ≠ q4 →
      Calls Tryz.prog 26 #[.pointer (some ⟨q0, 0, none⟩), .pointer (some ⟨q1, 0, none⟩), .pointer (some ⟨q2, 0, none⟩), .pointer (some ⟨q3, 0, none⟩), .pointer (some ⟨q4, 0, none⟩)] W fun e w' => e = .returned (.tuple #[]) ∧ (∃ a k c, Blk w' q3 [.slice a k c] 22 ∧ Blk w' q4 [.int .i64 how] 3 ∧ (how = 0 → w'.ownsRow W.heap.size 5 1 (.slice a k c) L.length (Lib.byteCells L))) ∧ Chg (fun k => k = q3 ∨ k = q4) W w') :
    Calls Tryz.prog 11 #[.slice va vn vc, .int .i64 t, .bool uv] w fun e w' => ∃ a k c, e = .returned (.tuple #[.slice a k c, .int .i64 how]) ∧ (how = 0 → Bytes w' (.slice a k c) L) ∧ Below w.heap.size w w' := by
  have hmf := hmk
  obtain ⟨W0, hW0, k1, k2, k0, k3, k4, hsz, hbW⟩ := five_cells w (.slice va vn vc) t uv
  have hW := Lib.hid hW0.symm
  have f4 := k4.free 0
  have e4 := k4.cell 0
  clear hW0
  go_enter Tryz.func11, Tryz.ntmps11
  go_upto_region 1 with fail
  rw [hW.out]
  go_upto_region 2 with fail
  have n4 := k4.set 0 (.int .i64 3)
  have d1 := chg_set W0 (w.heap.size + 1 + 1 + 1 + 1) 0 (.int .i64 3)
  have n0 := k0.chg d1 (by omega)
  have n1 := k1.chg d1 (by omega)
  have n2 := k2.chg d1 (by omega)
  have n3 := k3.chg d1 (by omega)
  have hz1 := d1.size
  have hz2 : (W0.setCell ⟨w.heap.size + 1 + 1 + 1 + 1, 0, none⟩ (.int .i64 3)).heap.size = W0.heap.size := size_set _ _ _
  have hbV := hbW.trans (d1.below w.heap.size (by omega) (fun k hk => by omega))
  generalize W0.setCell ⟨w.heap.size + 1 + 1 + 1 + 1, 0, none⟩ (.int .i64 3) = V at *
  have nb := below_new V (.cells #[.bool false] 4)
  have hF1 := hF (w.heap.size + 1 + 1) w.heap.size (w.heap.size + 1) (w.heap.size + 1 + 1 + 1) (w.heap.size + 1 + 1 + 1 + 1) (V.alloc (.cells #[.bool false] 4)) (hbV.trans (nb.mono (by omega))) (n0.alloc _) (n1.alloc _) (n2.alloc _) (n3.alloc _) (n4.alloc _) (by omega)
  go_wp2_with fail
  refine (safe_ok 26 _ V (fun w' => ∃ a k c, Blk w' (w.heap.size + 1 + 1 + 1) [.slice a k c] 22 ∧ Blk w' (w.heap.size + 1 + 1 + 1 + 1) [.int .i64 how] 3 ∧ (how = 0 → w'.ownsRow (V.alloc (.cells #[.bool false] 4)).heap.size 5 1 (.slice a k c) L.length (Lib.byteCells L))) (fun k => k = w.heap.size + 1 + 1 + 1 ∨ k = w.heap.size + 1 + 1 + 1 + 1) (fun _ => by kernel_rfl) (by omega) hF1).mono ?_
  rintro e w2 ⟨rfl, w1, ⟨a, k, c, a3, a4, hL⟩, hc1, hc2⟩
  have b3 := a3.chg hc2 (by omega)
  have b4 := a4.chg hc2 (by omega)
  have hz3 := hc1.size
  simp at hz3
  have hz4 := hc2.size
  go_wp2_with fail
  have c3 := b3.drew.cell 0
  have c4 := b4.drew.cell 0
  have g3 := b3.drew.free 0
  have g4 := b4.drew.free 0
  have y3 := b3.cell 0
  have y4 := b4.cell 0
  have z3 := b3.free 0
  have z4 := b4.free 0
  go_region
  all_goals
    go_wp2_with fail
    have r3 : (((w2.setCell ⟨w.heap.size + 1 + 1 + 1, 0, none⟩ (.slice a k c)).setCell ⟨w.heap.size + 1 + 1 + 1 + 1, 0, none⟩ (.int .i64 how)).drew).cell? ⟨w.heap.size + 1 + 1 + 1, 0, none⟩ = some (.slice a k c) := ((b3.set 0 (.slice a k c)).chg (chg_set _ (w.heap.size + 1 + 1 + 1 + 1) 0 (.int .i64 how)) (by omega)).cell 0
    have r4 : (((w2.setCell ⟨w.heap.size + 1 + 1 + 1, 0, none⟩ (.slice a k c)).setCell ⟨w.heap.size + 1 + 1 + 1 + 1, 0, none⟩ (.int .i64 how)).drew).cell? ⟨w.heap.size + 1 + 1 + 1 + 1, 0, none⟩ = some (.int .i64 how) := ((b4.chg (chg_set w2 (w.heap.size + 1 + 1 + 1) 0 (.slice a k c)) (by omega)).set 0 (.int .i64 how)).cell 0
    have hcs : Chg (fun k => w.heap.size ≤ k ∧ k < V.heap.size) w2 ((w2.setCell ⟨w.heap.size + 1 + 1 + 1, 0, none⟩ (.slice a k c)).setCell ⟨w.heap.size + 1 + 1 + 1 + 1, 0, none⟩ (.int .i64 how)).drew := (((Chg.refl (fun k => w.heap.size ≤ k ∧ k < V.heap.size) w2).setCell ⟨w.heap.size + 1 + 1 + 1, 0, none⟩ ⟨by simp only; omega, by simp only; omega⟩ _).setCell ⟨w.heap.size + 1 + 1 + 1 + 1, 0, none⟩ ⟨by simp only; omega, by simp only; omega⟩ _).drew
    refine bodyPost_ret (v := .tuple #[.slice a k c, .int .i64 how]) (by simp [results, Tryz.results11, go_sem, r3, r4]) rfl ⟨a, k, c, rfl, fun h => ?_, ?_⟩
    · exact Bytes.own (own_chg (own_chg (hL h) hc2 (fun g h _ => by simp at h; omega)) hcs (fun g h _ => by simp at h; omega))
    · exact ((hbV.trans (nb.mono (by omega))).trans (hc1.below _ (by simp; omega) (fun k hk => by omega))).trans ((hc2.below _ (by omega) (fun k hk => by omega)).trans (hcs.below _ (by omega) (fun k hk => by omega)))

def RunsTo (how : Int) (L : List UInt8) (w : World) (e : Ending) (w' : World) : Prop := ∃ a k c, e = .returned (.tuple #[.slice a k c, .int .i64 how]) ∧ (how = 0 → Bytes w' (.slice a k c) L) ∧ Below w.heap.size w w'
theorem plain_how {q3 q4 : Nat} {how : Int} {L : List UInt8} {n : Nat} {w' : World} (h : Blk w' q3 [.slice none 0 0] 22 ∧ Blk w' q4 [.int .i64 how] 3) (hne : how ≠ 0) : ∃ a k c, Blk w' q3 [.slice a k c] 22 ∧ Blk w' q4 [.int .i64 how] 3 ∧ (how = 0 → w'.ownsRow n 5 1 (.slice a k c) L.length (Lib.byteCells L)) :=
  ⟨none, 0, 0, h.1, h.2, fun hh => absurd hh hne⟩
theorem decodeAt_any (v : Value) (l : List UInt8) (t : Nat) (w : World) (ea eb : Addr) (he : Errs2 w ea eb) (h : Bytes w v l) (ht : t ≤ 65535) (hl : l.length ≤ 2147483647) :
    Calls Tryz.prog 11 #[v, .int .i64 t, .bool false] w (RunsTo (sealHow l t) (sealGot l t) w) := by
  obtain ⟨va, cap, rfl, h1, h2⟩ := h.form
  refine decode_of va l.length cap t false _ _ w fun q0 q1 q2 q3 q4 W hW k0 k1 k2 k3 k4 hne => ?_
  have heW := he.up hW
  unfold sealHow
  by_cases hs : l.length < t + 4
  · rw [if_pos hs]
    refine (decFn_size va l.length cap t ea eb q0 q1 q2 q3 q4 W heW (fun W' T hb hT => newAt_short va l.length cap t T W' ea (heW.up hb).size ht hs) k0 k1 k2 k3 k4 hne).mono ?_
    rintro e w' ⟨a, b, c⟩
    exact ⟨a, plain_how b (by decide), c⟩
  rw [if_neg hs]
  obtain ⟨b, off, rfl, _, _⟩ := h.at_ (by omega)
  have hB := fun W' (hb : Below W.heap.size W W') => (h.up hW).up hb
  unfold endHow
  rw [List.length_drop]
  by_cases h3 : l.length - (t + 4) < Lib.beNat ((l.drop t).take 4) + 4
  · rw [if_pos h3]
    refine (decFn_size _ l.length cap t ea eb q0 q1 q2 q3 q4 W heW (fun W' T hb hT => newAt_size b off l.length cap t _ T l W' ea (heW.up hb).size (hB W' hb) rfl ht (by omega) h1 h2 rfl (by omega)) k0 k1 k2 k3 k4 hne).mono ?_
    rintro e w' ⟨a, b, c⟩
    exact ⟨a, plain_how b (by decide), c⟩
  rw [if_neg h3]
  by_cases h4 : Lib.beNat (((l.drop (t + 4)).drop (Lib.beNat ((l.drop t).take 4))).take 4) = crcOf ((l.drop (t + 4)).take (Lib.beNat ((l.drop t).take 4)))
  · rw [if_pos h4]
    refine (decFn_fine _ l.length cap t ea eb (sealGot l t) (by unfold sealGot; rw [List.length_take, List.length_drop]; omega) q0 q1 q2 q3 q4 W heW (fun W' T hb hT => newAt_fine b off l.length cap t _ T l W' (hB W' hb) rfl ht (by omega) h1 h2 hl rfl (by omega) hT h4) k0 k1 k2 k3 k4 hne).mono ?_
    rintro e w' ⟨a, ⟨x, y, z, b1, b2, b3⟩, c⟩
    exact ⟨a, ⟨x, y, z, b1, b2, fun _ => b3⟩, c⟩
  · rw [if_neg h4]
    refine (decFn_sum _ l.length cap t ea eb q0 q1 q2 q3 q4 W heW (fun W' T hb hT => newAt_sum b off l.length cap t _ T l W' eb (heW.up hb).sum (hB W' hb) rfl ht (by omega) h1 h2 hl rfl (by omega) hT h4) k0 k1 k2 k3 k4 hne).mono ?_
    rintro e w' ⟨a, b, c⟩
    exact ⟨a, plain_how b (by decide), c⟩
theorem decodeVar_any (v : Value) (l : List UInt8) (t : Nat) (w : World) (ea eb : Addr) (he : Errs2 w ea eb) (h : Bytes w v l) (ht : t ≤ 65535) (hl : l.length ≤ 2147483647) :
    Calls Tryz.prog 11 #[v, .int .i64 t, .bool true] w (RunsTo (varHow l t) (varGot l t) w) := by
  obtain ⟨va, cap, rfl, h1, h2⟩ := h.form
  refine decode_of va l.length cap t true _ _ w fun q0 q1 q2 q3 q4 W hW k0 k1 k2 k3 k4 hne => ?_
  have heW := he.up hW
  unfold varHow varGot
  by_cases hs : l.length < t + 5
  · rw [if_pos hs]
    refine (decFn_sizeV va l.length cap t ea eb q0 q1 q2 q3 q4 W heW (fun W' T hb hT => newVar_short va l.length cap t T W' ea (heW.up hb).size ht hs) k0 k1 k2 k3 k4 hne).mono ?_
    rintro e w' ⟨a, b, c⟩
    exact ⟨a, plain_how b (by decide), c⟩
  rw [if_neg hs]
  obtain ⟨b, off, rfl, _, _⟩ := h.at_ (by omega)
  have hB := fun W' (hb : Below W.heap.size W W') => (h.up hW).up hb
  have hu5 := uvar_le ((l.drop t).take 5)
  rw [List.length_take, List.length_drop, show min 5 (l.length - t) = 5 by omega] at hu5
  obtain ⟨n, u, hnu⟩ : ∃ n u, uvar ((l.drop t).take 5) = (n, u) := ⟨_, _, rfl⟩
  rw [hnu] at hu5 ⊢
  simp only at hu5 ⊢
  by_cases hu : u = 0
  · rw [if_pos hu]
    refine (decFn_otherV _ l.length cap t ea eb q0 q1 q2 q3 q4 W heW (fun W' T hb hT => newVar_other b off l.length cap t n u T l W' (hB W' hb) rfl ht (by omega) h1 h2 hl hnu hu) k0 k1 k2 k3 k4 hne).mono ?_
    rintro e w' ⟨a, b, c⟩
    exact ⟨a, plain_how b (by decide), c⟩
  rw [if_neg hu]
  unfold endHow
  rw [List.length_drop]
  by_cases h3 : l.length - (t + u) < n + 4
  · rw [if_pos h3]
    refine (decFn_sizeV _ l.length cap t ea eb q0 q1 q2 q3 q4 W heW (fun W' T hb hT => newVar_size b off l.length cap t n u T l W' ea (heW.up hb).size (hB W' hb) rfl ht (by omega) h1 h2 hl hnu (by omega) (by omega)) k0 k1 k2 k3 k4 hne).mono ?_
    rintro e w' ⟨a, b, c⟩
    exact ⟨a, plain_how b (by decide), c⟩
  rw [if_neg h3]
  by_cases h4 : Lib.beNat (((l.drop (t + u)).drop n).take 4) = crcOf ((l.drop (t + u)).take n)
  · rw [if_pos h4]
    refine (decFn_fineV _ l.length cap t ea eb ((l.drop (t + u)).take n) (by rw [List.length_take, List.length_drop]; omega) q0 q1 q2 q3 q4 W heW (fun W' T hb hT => newVar_fine b off l.length cap t n u T l W' (hB W' hb) rfl ht (by omega) h1 h2 hl hnu (by omega) (by omega) hT h4) k0 k1 k2 k3 k4 hne).mono ?_
    rintro e w' ⟨a, ⟨x, y, z, b1, b2, b3⟩, c⟩
    exact ⟨a, ⟨x, y, z, b1, b2, fun _ => b3⟩, c⟩
  · rw [if_neg h4]
    refine (decFn_sumV _ l.length cap t ea eb q0 q1 q2 q3 q4 W heW (fun W' T hb hT => newVar_sum b off l.length cap t n u T l W' eb (heW.up hb).sum (hB W' hb) rfl ht (by omega) h1 h2 hl hnu (by omega) (by omega) hT h4) k0 k1 k2 k3 k4 hne).mono ?_
    rintro e w' ⟨a, b, c⟩
    exact ⟨a, plain_how b (by decide), c⟩
end Go.Proofs.YthcmpkpbdgnfpaaGreatDoor
