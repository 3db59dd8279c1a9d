/-
  The reference's intervals: Real, SameIntervals, Cover, Covers.
-/
import Derived.Test.YtfllcbcokncgpaaGreatDoorAwake
namespace Go.Proofs.YtfllcbcokncgpaaGreatDoor
set_option linter.unusedSimpArgs false
set_option linter.unusedVariables false
open Go.RowKit

def realB (r : Int × Int) : Bool := decide (r.1 ≤ r.2) && !decide (r.2 = 9223372036854775807)
set_option maxRecDepth 100000 in
set_option maxHeartbeats 2000000 in
theorem real_any (v : Value) (l : List (Int × Int)) (c : Bool) (w : World) (h : Pairs w w.heap.size .i64 .i64 v l) (hl : l.length ≤ 2147483646) (hc : l.all realB = c) :
    Calls Tryz.prog 11 #[v] w fun e w' => e = .returned (.bool c) ∧ Below w.heap.size w w' := by
  obtain ⟨ao, cap, rfl, h1, h2⟩ := h.form
  have HC := Lib.hid hc
  clear hc
  go_enter Tryz.func11, Tryz.ntmps11
  go_wp2_with fail
  go_loopw [3] (fun i wr => ∃ k : Nat, k ≤ l.length ∧ i = .int .i64 k ∧ Hid ((l.take k).all realB = true) ∧ Below w.heap.size w wr) (fun i _ => l.length - (intOf i).toNat)
  case atStart => exact ⟨0, Nat.zero_le _, rfl, Lib.hid (by simp), Below.refl _ _⟩
  case round => as_aux_lemma =>
    obtain ⟨k, hk, rfl, hall, hbel⟩ := hrel
    have hz := hbel.size
    by_cases hlt : k < l.length
    · obtain ⟨b, off, rfl, hbB, hBw, hcc⟩ := h.at_ (by omega)
      have c2 := (hbel.cell (p := ⟨b, off + k * 2, none⟩) hbB).trans (hcc k hlt).1
      have c3 := (hbel.cell (p := ⟨b, off + k * 2 + 1, none⟩) hbB).trans (hcc k hlt).2
      clear hcc
      have i0' : (0 : Int) ≤ (k : Int) := by omega
      have i1 : (k : Int) < (l.length : Int) := by omega
      have HA := Lib.hid (show (l.take (k + 1)).all realB = ((l.take k).all realB && realB l[k]) by rw [take_next hlt, List.all_append]; simp)
      have HM := Lib.hid (List.getElem_mem hlt)
      generalize l[k] = x at *
      obtain ⟨r0, r1⟩ := x
      by_cases q0 : r1 < r0
      · have q0d : decide (r1 < r0) = true := decide_eq_true q0
        go_wp2_with fail
        go_quiet (fail)
        go_wp2_with fail
        go_ret
        exact ⟨eqb (by rw [← HC.out]; symm; rw [List.all_eq_false]; exact ⟨_, HM.out, by simp [realB]; omega⟩), below_drewN hbel nq⟩
      · have q0d : decide (r1 < r0) = false := decide_eq_false q0
        by_cases q1 : r1 = 9223372036854775807
        · have q1d : (r1 == 9223372036854775807) = true := by rw [beq_iff_eq]; exact q1
          have Q1 := Lib.hid q1
          clear q1 q0
          go_wp2_with fail
          go_quiet (fail)
          go_wp2_with fail
          go_ret
          exact ⟨eqb (by rw [← HC.out]; symm; rw [List.all_eq_false]; exact ⟨_, HM.out, by simp [realB, Q1.out]⟩), below_drewN hbel nq⟩
        · have q1d : (r1 == 9223372036854775807) = false := by rw [beq_eq_false_iff_ne]; exact q1
          have HR := Lib.hid (show realB (r0, r1) = true by simp [realB, q1]; omega)
          clear q1 q0
          go_wp2_with fail
          go_quiet (fail)
          go_wp2_with fail
          go_roundw
          case rel => exact ⟨k + 1, by omega, by simp, Lib.hid (by rw [HA.out, hall.out, HR.out]; rfl), below_drewN hbel nq⟩
          case measure => simp [intOf]; omega
    · obtain rfl : k = l.length := by omega
      go_wp2_with fail
      go_ret
      have := hall.out
      rw [List.take_length] at this
      exact ⟨eqb (by rw [← HC.out, this]), hbel⟩

set_option maxRecDepth 100000 in
set_option maxHeartbeats 4000000 in
theorem sameIntervals_eq (va vb : Value) (l : List (Int × Int)) (w : World) (ha : Pairs w w.heap.size .i64 .i64 va l) (hb : Pairs w w.heap.size .i64 .i64 vb l) (hl : l.length ≤ 2147483646) :
    Calls Tryz.prog 13 #[va, vb] w fun e w' => e = .returned (.bool true) ∧ Below w.heap.size w w' := by
  obtain ⟨ao, cap, rfl, h1, h2⟩ := ha.form
  obtain ⟨bo, bcap, rfl, g1, g2⟩ := hb.form
  go_enter Tryz.func13, Tryz.ntmps13
  go_wp2_with fail
  go_loopw [5] (fun i wr => ∃ k : Nat, k ≤ l.length ∧ i = .int .i64 k ∧ Below w.heap.size w wr) (fun i _ => l.length - (intOf i).toNat)
  case atStart => exact ⟨0, Nat.zero_le _, rfl, Below.refl _ _⟩
  case round => as_aux_lemma =>
    obtain ⟨k, hk, rfl, hbel⟩ := hrel
    by_cases hlt : k < l.length
    · obtain ⟨x, xo, rfl, hx1, hx2, hxc⟩ := ha.at_ (by omega)
      obtain ⟨y, yo, rfl, hy1, hy2, hyc⟩ := hb.at_ (by omega)
      have c0 := (hbel.cell (p := ⟨x, xo + k * 2, none⟩) hx1).trans (hxc k hlt).1
      have c1 := (hbel.cell (p := ⟨x, xo + k * 2 + 1, none⟩) hx1).trans (hxc k hlt).2
      have c3 := (hbel.cell (p := ⟨y, yo + k * 2, none⟩) hy1).trans (hyc k hlt).1
      have c4 := (hbel.cell (p := ⟨y, yo + k * 2 + 1, none⟩) hy1).trans (hyc k hlt).2
      clear hxc hyc ha hb
      generalize l[k] = q at *
      obtain ⟨q0, q1⟩ := q
      have i0 : (0 : Int) ≤ (k : Int) := by omega
      have i1 : (k : Int) < (l.length : Int) := by omega
      go_wp2_with fail
      go_quiet (fail)
      go_wp2_with fail
      go_roundw
      case rel => exact ⟨k + 1, by omega, by simp, below_drewN hbel nq⟩
      case measure => simp [intOf]; omega
    · obtain rfl : k = l.length := by omega
      go_wp2_with fail
      go_ret
      exact ⟨rfl, hbel⟩
end Go.Proofs.YtfllcbcokncgpaaGreatDoor
