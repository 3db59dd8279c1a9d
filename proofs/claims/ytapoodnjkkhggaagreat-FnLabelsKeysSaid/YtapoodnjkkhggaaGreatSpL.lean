/-
  The reference's words on labels: sizes, LabelsRight, Find, ValueOf, SameLabels, Before.
-/
import Derived.Test.YtapoodnjkkhggaaGreatLs
import Derived.BigQuiet
namespace Go.Proofs.YtapoodnjkkhggaaGreat
set_option linter.unusedSimpArgs false
set_option linter.unusedVariables false
open Go.RowKit

def lbB (x : Lb) : Bool := decide (x.1.size ≤ 2147483647) && decide (x.2.size ≤ 2147483647)
set_option maxRecDepth 100000 in
theorem fits11_any (x : Lb) (w : World) : Calls Tryz.prog 38 #[.agg #[.string x.1, .string x.2]] w fun e w' => e = .returned (.bool (lbB x)) ∧ Below w.heap.size w w' := by
  obtain ⟨x1, x2⟩ := x
  have hb := below_new w (.cells #[.string x1, .string x2] 59)
  by_cases c1 : x1.size ≤ 2147483647
  · have k1 : ¬ (2147483647 : Int) < (x1.size : Int) := by omega
    by_cases c2 : x2.size ≤ 2147483647
    · have k2 : ¬ (2147483647 : Int) < (x2.size : Int) := by omega
      have HC := Lib.hid (show true = lbB (x1, x2) by simp [lbB, c1, c2])
      clear c1 c2
      go_enter Tryz.func38, Tryz.ntmps38
      go_wp2_with fail
      go_ret
      exact ⟨eqb HC.out, hb⟩
    · have k2 : (2147483647 : Int) < (x2.size : Int) := by omega
      have HC := Lib.hid (show false = lbB (x1, x2) by simp [lbB, c1, c2])
      clear c1 c2
      go_enter Tryz.func38, Tryz.ntmps38
      go_wp2_with fail
      go_ret
      exact ⟨eqb HC.out, hb⟩
  · have k1 : (2147483647 : Int) < (x1.size : Int) := by omega
    have HC := Lib.hid (show false = lbB (x1, x2) by simp [lbB, c1])
    clear c1
    go_enter Tryz.func38, Tryz.ntmps38
    go_wp2_with fail
    go_ret
    exact ⟨eqb HC.out, hb⟩
set_option maxRecDepth 100000 in
set_option maxHeartbeats 2000000 in
theorem fits10_any (v : Value) (l : List Lb) (c : Bool) (w : World) (h : Ls w v l) (hc : (decide (l.length ≤ 2147483647) && l.all lbB) = c) :
    Calls Tryz.prog 11 #[v] w fun e w' => e = .returned (.bool c) ∧ Below w.heap.size w w' := by
  obtain ⟨ao, cap, rfl, h1, h2⟩ := h.form
  by_cases c1 : 2147483647 < l.length
  · have c1' : (2147483647 : Int) < (l.length : Int) := by omega
    have HC := Lib.hid (show false = c by rw [← hc, decide_eq_false (by omega)]; rfl)
    clear hc
    go_enter Tryz.func11, Tryz.ntmps11
    go_wp2_with fail
    go_ret
    exact ⟨eqb HC.out, Below.refl _ _⟩
  · have c1' : ¬ (2147483647 : Int) < (l.length : Int) := by omega
    have HC := Lib.hid (show l.all lbB = c by rw [← hc, decide_eq_true (show l.length ≤ 2147483647 by omega)]; simp)
    clear hc
    go_enter Tryz.func11, Tryz.ntmps11
    go_wp2_with fail
    go_loopw [10] (fun i wr => ∃ k : Nat, k ≤ l.length ∧ i = .int .i64 k ∧ Hid ((l.take k).all lbB = true) ∧ Below w.heap.size w wr) (fun i _ => l.length - (intOf i).toNat)
    case atStart => exact ⟨0, Nat.zero_le _, rfl, Lib.hid (by simp), Below.refl _ _⟩
    case round => as_aux_lemma =>
      obtain ⟨k, hk, rfl, hall, hbel⟩ := hrel
      by_cases hlt : k < l.length
      · obtain ⟨b, off, rfl, hbB, hcc⟩ := h.at_ (by omega)
        obtain ⟨d0, d1⟩ := hcc k hlt
        have c2 := (hbel.cell (p := ⟨b, off + k * 2, none⟩) hbB).trans d0
        have c3 := (hbel.cell (p := ⟨b, off + k * 2 + 1, none⟩) hbB).trans d1
        have i0' : (0 : Int) ≤ (k : Int) := by omega
        have i1 : (k : Int) < (l.length : Int) := by omega
        have HA := Lib.hid (show (l.take (k + 1)).all lbB = ((l.take k).all lbB && lbB l[k]) by rw [take_next hlt, List.all_append]; simp)
        have HM := Lib.hid (List.getElem_mem hlt)
        clear hcc d0 d1
        generalize l[k] = x at *
        obtain ⟨x1, x2⟩ := x
        simp only at c2 c3
        have hF := fits11_any (x1, x2)
        simp only at hF
        have hb2 := hbel.alloc hbel.size (.cells #[.string x1, .string x2] 59)
        cases q : lbB (x1, x2)
        · have HX := Lib.hid q
          rw [q] at hF
          clear q
          go_wp2_with ((with_reducible refine (hF _).mono ?_); rintro e w1 ⟨rfl, hb1⟩)
          go_ret
          exact ⟨eqb (by rw [← HC.out]; symm; rw [List.all_eq_false]; exact ⟨_, HM.out, by rw [HX.out]; simp⟩), bnx hb2 hb1⟩
        · have HX := Lib.hid q
          rw [q] at hF
          clear q
          go_wp2_with ((with_reducible refine (hF _).mono ?_); rintro e w1 ⟨rfl, hb1⟩)
          go_roundw
          case rel => exact ⟨k + 1, by omega, by simp, Lib.hid (by rw [HA.out, hall.out, HX.out]; rfl), bnx hb2 hb1⟩
          case measure => simp [intOf]; omega
      · obtain rfl : k = l.length := by omega
        go_wp2_with fail
        go_ret
        have := hall.out
        rw [List.take_length] at this
        exact ⟨eqb (by rw [← HC.out, this]), hbel⟩
end Go.Proofs.YtapoodnjkkhggaaGreat
