/-
  SameLabels, Before.
-/
import Derived.Test.YtapoodnjkkhggaaGreatSpR
namespace Go.Proofs.YtapoodnjkkhggaaGreat
set_option linter.unusedSimpArgs false
set_option linter.unusedVariables false
open Go.RowKit

set_option maxRecDepth 100000 in
set_option maxHeartbeats 4000000 in
theorem sameLabels_any (va vb : Value) (l m : List Lb) (w : World) (ha : Ls w va l) (hb : Ls w vb m) (hl : l.length ≤ 1000000) (hm : m.length ≤ 1000000) :
    Calls Tryz.prog 25 #[va, vb] w fun e w' => e = .returned (.bool (decide (l = m))) ∧ Below w.heap.size w w' := by
  obtain ⟨ao, cap, rfl, h1, h2⟩ := ha.form
  obtain ⟨bo, bcap, rfl, g1, g2⟩ := hb.form
  by_cases hlen : l.length = m.length
  · have HL := Lib.hid hlen
    rw [hlen]
    clear hlen
    go_enter Tryz.func25, Tryz.ntmps25
    go_wp2_with fail
    go_loopw [5] (fun i wr => ∃ k : Nat, k ≤ m.length ∧ i = .int .i64 k ∧ Hid (l.take k = m.take k) ∧ Below w.heap.size w wr) (fun i _ => m.length - (intOf i).toNat)
    case atStart => exact ⟨0, Nat.zero_le _, rfl, Lib.hid rfl, Below.refl _ _⟩
    case round => as_aux_lemma =>
      obtain ⟨k, hk, rfl, heq, hbel⟩ := hrel
      by_cases hlt : k < m.length
      · have hlt' : k < l.length := by rw [HL.out]; exact hlt
        obtain ⟨x, xo, rfl, hx1, hxc⟩ := ha.at_ (by have := HL.out; omega)
        obtain ⟨y, yo, rfl, hy1, hyc⟩ := hb.at_ (by omega)
        have c0 := (hbel.cell (p := ⟨x, xo + k * 2, none⟩) hx1).trans (hxc k hlt').1
        have c1 := (hbel.cell (p := ⟨x, xo + k * 2 + 1, none⟩) hx1).trans (hxc k hlt').2
        have c3 := (hbel.cell (p := ⟨y, yo + k * 2, none⟩) hy1).trans (hyc k hlt).1
        have c4 := (hbel.cell (p := ⟨y, yo + k * 2 + 1, none⟩) hy1).trans (hyc k hlt).2
        have i0 : (0 : Int) ≤ (k : Int) := by omega
        have i1 : (k : Int) < (m.length : Int) := by omega
        have HN := Lib.hid (show l[k] = m[k] → l.take (k + 1) = m.take (k + 1) from fun e => by rw [take_next hlt', take_next hlt, heq.out, e])
        have HF := Lib.hid (show l[k] ≠ m[k] → false = decide (l = m) from fun e => by
          rw [decide_eq_false]
          intro c
          subst c
          exact e rfl)
        clear hxc hyc ha hb
        generalize l[k] = q at *
        generalize m[k] = r at *
        obtain ⟨q0, q1⟩ := q
        obtain ⟨r0, r1⟩ := r
        simp only at c0 c1 c3 c4
        by_cases e0 : q0 = r0
        · by_cases e1 : q1 = r1
          · have HG := Lib.hid (HN.out (by rw [e0, e1]))
            subst e0
            subst e1
            go_wp2_with fail
            go_quiet (fail)
            go_wp2_with fail
            go_roundw
            case rel => exact ⟨k + 1, by omega, by simp, HG, below_drewN hbel nq⟩
            case measure => simp [intOf]; omega
          · have HG := Lib.hid (HF.out (fun c => e1 (congrArg (·.2) c)))
            subst e0
            have e1' := str_ne e1
            go_wp2_with fail
            go_quiet (fail)
            go_wp2_with fail
            go_ret
            exact ⟨eqb HG.out, below_drewN hbel nq⟩
        · have HG := Lib.hid (HF.out (fun c => e0 (congrArg (·.1) c)))
          have e0' := str_ne e0
          go_wp2_with fail
          go_quiet (fail)
          go_wp2_with fail
          go_ret
          exact ⟨eqb HG.out, below_drewN hbel nq⟩
      · obtain rfl : k = m.length := by omega
        have HE := Lib.hid (show true = decide (l = m) by
          have := heq.out
          rw [← HL.out, List.take_length, HL.out, List.take_length] at this
          rw [decide_eq_true this])
        go_wp2_with fail
        go_ret
        exact ⟨eqb HE.out, hbel⟩
  · have hl0 : ((l.length : Int) == (m.length : Int)) = false := by rw [beq_eq_false_iff_ne]; omega
    have HE := Lib.hid (show false = decide (l = m) by rw [decide_eq_false]; intro c; subst c; exact hlen rfl)
    clear hlen
    go_enter Tryz.func25, Tryz.ntmps25
    go_wp2_with fail
    go_ret
    exact ⟨eqb HE.out, Below.refl _ _⟩
end Go.Proofs.YtapoodnjkkhggaaGreat
