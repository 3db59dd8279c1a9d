/-
  The walk of FnMock.
-/
import Derived.Test.YtmnfojolielnlaaIter
namespace Go.Proofs.Ytmnfojolielnlaa
set_option linter.unusedSimpArgs false
set_option linter.unusedVariables false
open Go.RowKit

theorem made_at (n i : Nat) (hi : i < n * 2) : (madeCells #[.bool false, .int .i64 0] (n * 2))[i]? = some (if i % 2 = 0 then .bool ((List.replicate n (false, (0 : Int))).getD (i / 2) (false, 0)).1 else .int .i64 ((List.replicate n (false, (0 : Int))).getD (i / 2) (false, 0)).2) := by
  have h2 : i / 2 < n := by omega
  have hm : i % 2 = 0 ∨ i % 2 = 1 := by omega
  rcases hm with hm | hm <;> simp [madeCells, hi, hm, h2]
theorem steps_made (w : World) (n : Nat) (hn : n ≤ maxLen) : Steps (w.alloc (.cells (madeCells #[.bool false, .int .i64 0] (n * 2)) 26)) (w.alloc (.cells (madeCells #[.bool false, .int .i64 0] (n * 2)) 26)).heap.size (.slice (some ⟨w.heap.size, 0, none⟩) n n) (List.replicate n (false, 0)) := by
  unfold Steps
  rw [List.length_replicate]
  refine ⟨some ⟨w.heap.size, 0, none⟩, n, rfl, Nat.le_refl _, hn, .inr ⟨w.heap.size, 0, rfl, by simp, Nat.le_refl _, fun i hi => ?_⟩⟩
  rw [Nat.zero_add, World.cell?_alloc_new]
  exact made_at n i hi
theorem pairs_one (w : World) (a b : Int) (t : TypeId) : Pairs (w.alloc (.cells #[.int .i64 a, .int .u64 b] t)) (w.alloc (.cells #[.int .i64 a, .int .u64 b] t)).heap.size .i64 .u64 (.slice (some ⟨w.heap.size, 0, none⟩) 1 1) [(a, b)] := by
  refine ⟨some ⟨w.heap.size, 0, none⟩, 1, rfl, Nat.le_refl _, by decide, .inr ⟨w.heap.size, 0, rfl, by simp, Nat.le_refl _, fun i hi => ?_⟩⟩
  rw [Nat.zero_add, World.cell?_alloc_new]
  have : i = 0 ∨ i = 1 := by simp at hi; omega
  rcases this with rfl | rfl <;> rfl
theorem Sl.up {w w' : World} {size : Nat} {v : Value} {n : Nat} {f : Nat → Value} (h : Sl w w.heap.size size v n f) (hb : Below w.heap.size w w') : Sl w' w'.heap.size size v n f := (h.below hb (Nat.le_refl _)).mono hb.size (Nat.le_refl _)
theorem Pairs.up {w w' : World} {j k : IntKind} {v : Value} {l : List (Int × Int)} (h : Pairs w w.heap.size j k v l) (hb : Below w.heap.size w w') : Pairs w' w'.heap.size j k v l := Sl.up h hb
theorem Steps.up {w w' : World} {v : Value} {l : List (Bool × Int)} (h : Steps w w.heap.size v l) (hb : Below w.heap.size w w') : Steps w' w'.heap.size v l := Sl.up h hb
theorem Answers.up {w w' : World} {v : Value} {l : List Ans} (h : Answers w w.heap.size v l) (hb : Below w.heap.size w w') : Answers w' w'.heap.size v l := Sl.up h hb
theorem below_new (w : World) (o : Obj) : Below w.heap.size w (w.alloc o) := (Below.refl _ _).alloc (Nat.le_refl _) o
theorem below_newd (w : World) (o : Obj) : Below w.heap.size w (w.alloc o).drew := (below_new w o).drew
theorem bnx {B : Nat} {w w1 w2 : World} (h : Below B w w1) (h2 : Below w1.heap.size w1 w2) (hB : B ≤ w.heap.size := by exact Nat.le_refl _) : Below B w w2 := h.trans (h2.mono (Nat.le_trans hB h.size))
theorem rep_false (n : Nat) : ∀ x ∈ List.replicate n (false, (0 : Int)), x = (false, 0) := fun x hx => List.eq_of_mem_replicate hx
theorem length_ansL (l : List (Int × Nat)) (m : Nat) : (ansL l m).length ≤ l.length + 1 := by
  unfold ansL
  rw [List.length_append, List.length_map, List.length_take]
  split <;> simp <;> omega
theorem made_run (w : World) (n : Nat) (hn : n ≤ 100000) : (Instr.makeSlice 22 (.int .i64 (n : Int)) (.int .i64 (n : Int))).run Try.prog w = .ok (.slice (some ⟨w.heap.size, 0, none⟩) n n) (w.alloc (.cells (madeCells #[.bool false, .int .i64 0] (n * 2)) 26)) := by
  obtain ⟨i0, hi, hz0, hz1, hz2⟩ := info_parts infoStep
  have := run_make (P := Try.prog) w 22 26 i0 _ Try.underlying22 hi hz0 .i64 .i64 n n (by omega) (by omega) (by rw [hz2]; omega) (by omega)
  rw [this, hz1]
  rfl

set_option maxRecDepth 100000 in
set_option maxHeartbeats 4000000 in
theorem wMock (v : Value) (z : List (Int × Int)) (m : Int) (W : World) (h : Pairs W W.heap.size .i64 .u64 v z ∧ ∀ y ∈ z, (Lit.int .i64 y.1).wf = true ∧ (Lit.int .u64 y.2).wf = true) (hm : (Lit.int .u8 m).wf = true) :
    Calls Try.prog 4 #[v, .int .u8 m] W fun e w' => e = .returned (.bool true) ∧ Below W.heap.size W w' := by
  obtain ⟨hL, hz⟩ := h
  have hzs : z = zs (z.map fun y => (y.1, y.2.toNat)) := by
    unfold zs
    rw [List.map_map]
    conv => lhs; rw [← List.map_id z]
    refine List.map_congr_left fun y hy => ?_
    have := (hz y hy).2
    simp [Lit.wf, IntKind.min, IntKind.max, IntKind.signed, IntKind.bits] at this
    show y = (y.1, (y.2.toNat : Int))
    rw [Int.toNat_of_nonneg (by omega)]
  generalize (z.map fun y => (y.1, y.2.toNat)) = l at hzs
  subst hzs
  clear hz
  have hmb : 0 ≤ m ∧ m ≤ 255 := by
    simp [Lit.wf, IntKind.min, IntKind.max, IntKind.signed, IntKind.bits] at hm; omega
  obtain ⟨m0, m1⟩ := hmb
  clear hm
  obtain ⟨lo, lc, rfl, hl1, hl2⟩ := hL.form
  simp only [List.length_map] at *
  go_enter Try.func4, Try.ntmps4
  by_cases c1 : 2147483647 < l.length
  · have c1' : (2147483647 : Int) < (l.length : Int) := by omega
    go_wp2_with fail
    go_ret
    exact ⟨rfl, Below.refl _ _⟩
  · by_cases c2 : 200 < l.length
    · have c2' : (200 : Int) < (l.length : Int) := by omega
      have e0 : 1 + m % 4 = ((1 + m % 4).toNat : Int) := by omega
      have hn0 : (1 + m % 4).toNat ≤ 1000 := by omega
      have hmk1 : ∀ w : World, (Instr.makeSlice 22 (.int .i64 (1 + m % 4)) (.int .i64 (1 + m % 4))).run Try.prog w = .ok (.slice (some ⟨w.heap.size, 0, none⟩) (1 + m % 4).toNat (1 + m % 4).toNat) (w.alloc (.cells (madeCells #[.bool false, .int .i64 0] ((1 + m % 4).toNat * 2)) 26)) := fun w => by
        have := made_run w (1 + m % 4).toNat (by omega)
        rw [← e0] at this
        exact this
      generalize hN : (1 + m % 4).toNat = N at *
      clear e0 hN
      go_wp2_with fail
      have hOne := pairs_one (W.alloc (.cells (madeCells #[.bool false, .int .i64 0] (N * 2)) 26)) 3 7 31
      have hSv := (steps_made W N (by unfold maxLen; omega)).up (below_new _ (.cells #[.int .i64 3, .int .u64 7] 31))
      have hb1 := bnx (below_new W (.cells (madeCells #[.bool false, .int .i64 0] (N * 2)) 26)) (below_new _ (.cells #[.int .i64 3, .int .u64 7] 31))
      have hL1 : Pairs _ _ .i64 .u64 (.slice none 0 0) (zs ([])) := Pairs.up (Sl.nil _ _ _ _) hb1
      have ez : (W.alloc (.cells (madeCells #[.bool false, .int .i64 0] (N * 2)) 26)).heap.size = W.heap.size + 1 := by simp
      rw [ez] at hOne
      clear ez hL hmk1
      have hmk2 : ∀ w : World, (Instr.makeSlice 22 (.int .i64 2) (.int .i64 2)).run Try.prog w = .ok (.slice (some ⟨w.heap.size, 0, none⟩) 2 2) (w.alloc (.cells (madeCells #[.bool false, .int .i64 0] 4) 26)) := fun w => made_run w 2 (by omega)
      generalize (W.alloc _).alloc _ = W1 at *
      have hSa : Steps (W1.alloc (.cells (madeCells #[.bool false, .int .i64 0] 4) 26)) (W1.alloc (.cells (madeCells #[.bool false, .int .i64 0] 4) 26)).heap.size (.slice (some ⟨W1.heap.size, 0, none⟩) 2 2) (List.replicate 2 (false, 0)) := steps_made W1 2 (by decide)
      have hSb : Steps ((W1.alloc (.cells (madeCells #[.bool false, .int .i64 0] 4) 26)).alloc (.cells (madeCells #[.bool false, .int .i64 0] 4) 26)) ((W1.alloc (.cells (madeCells #[.bool false, .int .i64 0] 4) 26)).alloc (.cells (madeCells #[.bool false, .int .i64 0] 4) 26)).heap.size (.slice (some ⟨(W1.alloc (.cells (madeCells #[.bool false, .int .i64 0] 4) 26)).heap.size, 0, none⟩) 2 2) (List.replicate 2 (false, 0)) := steps_made (W1.alloc (.cells (madeCells #[.bool false, .int .i64 0] 4) 26)) 2 (by decide)
      have ez : (W1.alloc (.cells (madeCells #[.bool false, .int .i64 0] 4) 26)).heap.size = W1.heap.size + 1 := by simp
      have hS1 := hSa.up (Below.refl _ _).drew
      have hSa := hSa.up (bnx (below_new (W1.alloc (.cells (madeCells #[.bool false, .int .i64 0] 4) 26)) (.cells (madeCells #[.bool false, .int .i64 0] 4) 26)) (Below.refl _ _).drew)
      rw [ez] at hSb
      have hSb := hSb.up (Below.refl _ _).drew
      have hX := bnx (below_new W1 (.cells (madeCells #[.bool false, .int .i64 0] 4) 26)) (below_newd _ (.cells (madeCells #[.bool false, .int .i64 0] 4) 26))
      clear ez
      have tok1 : True := trivial
      go_region_held3 (fun _ => True) (trivial)
        (first
          | (go_at_call 7; have _t := tok1; ((with_reducible refine (mockPlay_any _ _ [(3, 7)] (List.replicate 2 (false, 0)) _ _ (hOne.up (below_newd W1 (.cells (madeCells #[.bool false, .int .i64 0] 4) 26))) hS1 (Nat.le_refl _) (rep_false 2) (by decide) (by decide)).mono ?_)); rintro e w1 ⟨x1, rfl, ha1, hw1⟩; clear tok1; have tok2 : True := trivial; have hB1 := bnx (below_newd W1 (.cells (madeCells #[.bool false, .int .i64 0] 4) 26)) hw1)
          | (go_at_call 7; have _t := tok1; ((with_reducible refine (mockPlay_any _ _ [(3, 7)] (List.replicate 2 (false, 0)) _ _ (hOne.up hX) hSa (Nat.le_refl _) (rep_false 2) (by decide) (by decide)).mono ?_)); rintro e w1 ⟨x1, rfl, ha1, hw1⟩; clear tok1; have tok2 : True := trivial; have hB1 := bnx hX hw1)
          | (go_at_call 7; have _t := tok1; ((with_reducible refine (mockPlay_any _ _ [(3, 7)] (List.replicate 2 (false, 0)) _ _ (hOne.up hX) hSb (Nat.le_refl _) (rep_false 2) (by decide) (by decide)).mono ?_)); rintro e w1 ⟨x1, rfl, ha1, hw1⟩; clear tok1; have tok2 : True := trivial; have hB1 := bnx hX hw1)
          | (go_at_call 8; have _t := tok2; have hS2 : Steps (w1.alloc (.cells (madeCells #[.bool false, .int .i64 0] 4) 26)) (w1.alloc (.cells (madeCells #[.bool false, .int .i64 0] 4) 26)).heap.size (.slice (some ⟨w1.heap.size, 0, none⟩) 2 2) (List.replicate 2 (false, 0)) := steps_made w1 2 (by decide); ((with_reducible refine (iterated_any _ _ [(3, 7)] (List.replicate 2 (false, 0)) _ _ (hOne.up (bnx hB1 (below_new w1 (.cells (madeCells #[.bool false, .int .i64 0] 4) 26)))) hS2 (Nat.le_refl _) (rep_false 2) (by decide) (by decide)).mono ?_)); rintro e w2 ⟨x2, rfl, ha2, hw2⟩; clear tok2; have tok3 : True := trivial; have hB2 := bnx (below_new w1 (.cells (madeCells #[.bool false, .int .i64 0] 4) 26)) hw2)
          | (go_at_call 8; have _t := tok2; ((with_reducible refine (iterated_any _ _ [(3, 7)] (List.replicate 2 (false, 0)) _ _ (hOne.up hB1) (hSb.up hw1) (Nat.le_refl _) (rep_false 2) (by decide) (by decide)).mono ?_)); rintro e w2 ⟨x2, rfl, ha2, hw2⟩; clear tok2; have tok3 : True := trivial; have hB2 := hw2)
          | (go_at_call 8; have _t := tok2; ((with_reducible refine (iterated_any _ _ [(3, 7)] (List.replicate 2 (false, 0)) _ _ (hOne.up hB1) (hSa.up hw1) (Nat.le_refl _) (rep_false 2) (by decide) (by decide)).mono ?_)); rintro e w2 ⟨x2, rfl, ha2, hw2⟩; clear tok2; have tok3 : True := trivial; have hB2 := hw2)
          | (go_at_call 6; have _t := tok3; refine (sameAnswers_eq _ _ _ _ _ (Nat.le_refl _) (ha1.up hB2) ha2 (Nat.le_trans (length_ansL _ _) (by decide))).mono ?_; rintro e w3 ⟨rfl, hw3⟩; clear tok3; have tok4 : True := trivial; have hB3 := bnx (bnx hB1 hB2) hw3)
          | (go_at_call 7; have _t := tok4; refine (mockPlay_any _ _ ([]) (List.replicate N (false, 0)) _ _ (hL1.up hB3) (hSv.up hB3) (Nat.le_refl _) (rep_false N) (by first | omega | decide) (by rw [List.length_replicate]; omega)).mono ?_; rintro e w4 ⟨x4, rfl, ha4, hw4⟩; clear tok4; have tok5 : True := trivial; have hB4 := bnx hB3 hw4)
          | (go_at_call 8; have _t := tok5; refine (iterated_any _ _ ([]) (List.replicate N (false, 0)) _ _ (hL1.up hB4) (hSv.up hB4) (Nat.le_refl _) (rep_false N) (by first | omega | decide) (by rw [List.length_replicate]; omega)).mono ?_; rintro e w5 ⟨x5, rfl, ha5, hw5⟩; clear tok5; have tok6 : True := trivial; have hB5 := bnx hB4 hw5)
          | (go_at_call 6; have _t := tok6; refine (sameAnswers_eq _ _ _ _ _ (Nat.le_refl _) (ha4.up hw5) ha5 (Nat.le_trans (length_ansL _ _) (by first | omega | decide))).mono ?_; rintro e w6 ⟨rfl, hw6⟩; clear tok6; have hB6 := bnx hB5 hw6)
          | fail)
      all_goals
        go_wp2_with fail
        go_ret
        exact ⟨rfl, bnx hb1 hB6⟩
    · have c2' : ¬ (200 : Int) < (l.length : Int) := by omega
      have e0 : (l.length : Int) + 1 + m % 4 = (((l.length : Int) + 1 + m % 4).toNat : Int) := by omega
      have hn0 : ((l.length : Int) + 1 + m % 4).toNat ≤ 1000 := by omega
      have hmk1 : ∀ w : World, (Instr.makeSlice 22 (.int .i64 ((l.length : Int) + 1 + m % 4)) (.int .i64 ((l.length : Int) + 1 + m % 4))).run Try.prog w = .ok (.slice (some ⟨w.heap.size, 0, none⟩) ((l.length : Int) + 1 + m % 4).toNat ((l.length : Int) + 1 + m % 4).toNat) (w.alloc (.cells (madeCells #[.bool false, .int .i64 0] (((l.length : Int) + 1 + m % 4).toNat * 2)) 26)) := fun w => by
        have := made_run w ((l.length : Int) + 1 + m % 4).toNat (by omega)
        rw [← e0] at this
        exact this
      generalize hN : ((l.length : Int) + 1 + m % 4).toNat = N at *
      clear e0 hN
      go_wp2_with fail
      have hOne := pairs_one (W.alloc (.cells (madeCells #[.bool false, .int .i64 0] (N * 2)) 26)) 3 7 31
      have hSv := (steps_made W N (by unfold maxLen; omega)).up (below_new _ (.cells #[.int .i64 3, .int .u64 7] 31))
      have hb1 := bnx (below_new W (.cells (madeCells #[.bool false, .int .i64 0] (N * 2)) 26)) (below_new _ (.cells #[.int .i64 3, .int .u64 7] 31))
      have hL1 : Pairs _ _ .i64 .u64 (.slice lo l.length lc) (zs (l)) := Pairs.up (hL) hb1
      have ez : (W.alloc (.cells (madeCells #[.bool false, .int .i64 0] (N * 2)) 26)).heap.size = W.heap.size + 1 := by simp
      rw [ez] at hOne
      clear ez hL hmk1
      have hmk2 : ∀ w : World, (Instr.makeSlice 22 (.int .i64 2) (.int .i64 2)).run Try.prog w = .ok (.slice (some ⟨w.heap.size, 0, none⟩) 2 2) (w.alloc (.cells (madeCells #[.bool false, .int .i64 0] 4) 26)) := fun w => made_run w 2 (by omega)
      generalize (W.alloc _).alloc _ = W1 at *
      have hSa : Steps (W1.alloc (.cells (madeCells #[.bool false, .int .i64 0] 4) 26)) (W1.alloc (.cells (madeCells #[.bool false, .int .i64 0] 4) 26)).heap.size (.slice (some ⟨W1.heap.size, 0, none⟩) 2 2) (List.replicate 2 (false, 0)) := steps_made W1 2 (by decide)
      have hSb : Steps ((W1.alloc (.cells (madeCells #[.bool false, .int .i64 0] 4) 26)).alloc (.cells (madeCells #[.bool false, .int .i64 0] 4) 26)) ((W1.alloc (.cells (madeCells #[.bool false, .int .i64 0] 4) 26)).alloc (.cells (madeCells #[.bool false, .int .i64 0] 4) 26)).heap.size (.slice (some ⟨(W1.alloc (.cells (madeCells #[.bool false, .int .i64 0] 4) 26)).heap.size, 0, none⟩) 2 2) (List.replicate 2 (false, 0)) := steps_made (W1.alloc (.cells (madeCells #[.bool false, .int .i64 0] 4) 26)) 2 (by decide)
      have ez : (W1.alloc (.cells (madeCells #[.bool false, .int .i64 0] 4) 26)).heap.size = W1.heap.size + 1 := by simp
      have hS1 := hSa.up (Below.refl _ _).drew
      have hSa := hSa.up (bnx (below_new (W1.alloc (.cells (madeCells #[.bool false, .int .i64 0] 4) 26)) (.cells (madeCells #[.bool false, .int .i64 0] 4) 26)) (Below.refl _ _).drew)
      rw [ez] at hSb
      have hSb := hSb.up (Below.refl _ _).drew
      have hX := bnx (below_new W1 (.cells (madeCells #[.bool false, .int .i64 0] 4) 26)) (below_newd _ (.cells (madeCells #[.bool false, .int .i64 0] 4) 26))
      clear ez
      have tok1 : True := trivial
      go_region_held3 (fun _ => True) (trivial)
        (first
          | (go_at_call 7; have _t := tok1; ((with_reducible refine (mockPlay_any _ _ [(3, 7)] (List.replicate 2 (false, 0)) _ _ (hOne.up (below_newd W1 (.cells (madeCells #[.bool false, .int .i64 0] 4) 26))) hS1 (Nat.le_refl _) (rep_false 2) (by decide) (by decide)).mono ?_)); rintro e w1 ⟨x1, rfl, ha1, hw1⟩; clear tok1; have tok2 : True := trivial; have hB1 := bnx (below_newd W1 (.cells (madeCells #[.bool false, .int .i64 0] 4) 26)) hw1)
          | (go_at_call 7; have _t := tok1; ((with_reducible refine (mockPlay_any _ _ [(3, 7)] (List.replicate 2 (false, 0)) _ _ (hOne.up hX) hSa (Nat.le_refl _) (rep_false 2) (by decide) (by decide)).mono ?_)); rintro e w1 ⟨x1, rfl, ha1, hw1⟩; clear tok1; have tok2 : True := trivial; have hB1 := bnx hX hw1)
          | (go_at_call 7; have _t := tok1; ((with_reducible refine (mockPlay_any _ _ [(3, 7)] (List.replicate 2 (false, 0)) _ _ (hOne.up hX) hSb (Nat.le_refl _) (rep_false 2) (by decide) (by decide)).mono ?_)); rintro e w1 ⟨x1, rfl, ha1, hw1⟩; clear tok1; have tok2 : True := trivial; have hB1 := bnx hX hw1)
          | (go_at_call 8; have _t := tok2; have hS2 : Steps (w1.alloc (.cells (madeCells #[.bool false, .int .i64 0] 4) 26)) (w1.alloc (.cells (madeCells #[.bool false, .int .i64 0] 4) 26)).heap.size (.slice (some ⟨w1.heap.size, 0, none⟩) 2 2) (List.replicate 2 (false, 0)) := steps_made w1 2 (by decide); ((with_reducible refine (iterated_any _ _ [(3, 7)] (List.replicate 2 (false, 0)) _ _ (hOne.up (bnx hB1 (below_new w1 (.cells (madeCells #[.bool false, .int .i64 0] 4) 26)))) hS2 (Nat.le_refl _) (rep_false 2) (by decide) (by decide)).mono ?_)); rintro e w2 ⟨x2, rfl, ha2, hw2⟩; clear tok2; have tok3 : True := trivial; have hB2 := bnx (below_new w1 (.cells (madeCells #[.bool false, .int .i64 0] 4) 26)) hw2)
          | (go_at_call 8; have _t := tok2; ((with_reducible refine (iterated_any _ _ [(3, 7)] (List.replicate 2 (false, 0)) _ _ (hOne.up hB1) (hSb.up hw1) (Nat.le_refl _) (rep_false 2) (by decide) (by decide)).mono ?_)); rintro e w2 ⟨x2, rfl, ha2, hw2⟩; clear tok2; have tok3 : True := trivial; have hB2 := hw2)
          | (go_at_call 8; have _t := tok2; ((with_reducible refine (iterated_any _ _ [(3, 7)] (List.replicate 2 (false, 0)) _ _ (hOne.up hB1) (hSa.up hw1) (Nat.le_refl _) (rep_false 2) (by decide) (by decide)).mono ?_)); rintro e w2 ⟨x2, rfl, ha2, hw2⟩; clear tok2; have tok3 : True := trivial; have hB2 := hw2)
          | (go_at_call 6; have _t := tok3; refine (sameAnswers_eq _ _ _ _ _ (Nat.le_refl _) (ha1.up hB2) ha2 (Nat.le_trans (length_ansL _ _) (by decide))).mono ?_; rintro e w3 ⟨rfl, hw3⟩; clear tok3; have tok4 : True := trivial; have hB3 := bnx (bnx hB1 hB2) hw3)
          | (go_at_call 7; have _t := tok4; refine (mockPlay_any _ _ (l) (List.replicate N (false, 0)) _ _ (hL1.up hB3) (hSv.up hB3) (Nat.le_refl _) (rep_false N) (by first | omega | decide) (by rw [List.length_replicate]; omega)).mono ?_; rintro e w4 ⟨x4, rfl, ha4, hw4⟩; clear tok4; have tok5 : True := trivial; have hB4 := bnx hB3 hw4)
          | (go_at_call 8; have _t := tok5; refine (iterated_any _ _ (l) (List.replicate N (false, 0)) _ _ (hL1.up hB4) (hSv.up hB4) (Nat.le_refl _) (rep_false N) (by first | omega | decide) (by rw [List.length_replicate]; omega)).mono ?_; rintro e w5 ⟨x5, rfl, ha5, hw5⟩; clear tok5; have tok6 : True := trivial; have hB5 := bnx hB4 hw5)
          | (go_at_call 6; have _t := tok6; refine (sameAnswers_eq _ _ _ _ _ (Nat.le_refl _) (ha4.up hw5) ha5 (Nat.le_trans (length_ansL _ _) (by first | omega | decide))).mono ?_; rintro e w6 ⟨rfl, hw6⟩; clear tok6; have hB6 := bnx hB5 hw6)
          | fail)
      all_goals
        go_wp2_with fail
        go_ret
        exact ⟨rfl, bnx hb1 hB6⟩
end Go.Proofs.Ytmnfojolielnlaa
