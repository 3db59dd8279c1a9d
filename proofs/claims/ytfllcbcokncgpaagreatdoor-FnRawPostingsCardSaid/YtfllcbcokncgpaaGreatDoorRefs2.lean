/-
  SameRefs (for FnRawPostings).
-/
import Derived.Test.YtfllcbcokncgpaaGreatDoorAwake
namespace Go.Proofs.YtfllcbcokncgpaaGreatDoor
set_option linter.unusedSimpArgs false
set_option linter.unusedVariables false
open Go.RowKit

set_option maxRecDepth 100000 in
set_option maxHeartbeats 4000000 in
theorem sameRefs_eq (va vb : Value) (l : List Int) (w : World) (ha : Ints w w.heap.size .u64 va l) (hb : Ints w w.heap.size .u64 vb l) (hl : l.length ≤ 2147483646) :
    Calls Tryz.prog 24 #[va, vb] w fun e w' => e = .returned (.bool true) ∧ Below w.heap.size w w' := by
  obtain ⟨ao, cap, rfl, h1, h2⟩ := ha.form
  obtain ⟨bo, bcap, rfl, g1, g2⟩ := hb.form
  go_enter Tryz.func24, Tryz.ntmps24
  go_wp2_with fail
  go_loopw [5] (fun i wr => ∃ k : Nat, k ≤ l.length ∧ i = .int .i64 k ∧ Below w.heap.size w wr) (fun i _ => l.length - (intOf i).toNat)
  case atStart => exact ⟨0, Nat.zero_le _, rfl, Below.refl _ _⟩
  case round => as_aux_lemma =>
    obtain ⟨k, hk, rfl, hbel⟩ := hrel
    by_cases hlt : k < l.length
    · obtain ⟨x, xo, rfl, hx1, _, hxc⟩ := ha.at_ (by omega)
      obtain ⟨y, yo, rfl, hy1, _, hyc⟩ := hb.at_ (by omega)
      have c0 := (hbel.cell (p := ⟨x, xo + k, none⟩) hx1).trans (hxc k hlt)
      have c3 := (hbel.cell (p := ⟨y, yo + k, none⟩) hy1).trans (hyc k hlt)
      clear hxc hyc ha hb
      generalize l[k] = q at *
      have i0 : (0 : Int) ≤ (k : Int) := by omega
      have i1 : (k : Int) < (l.length : Int) := by omega
      go_wp2_with fail
      go_quiet (fail)
      go_wp2_with fail
      go_roundw
      case rel => exact ⟨k + 1, by omega, by simp, below_drewN hbel nq⟩
      case measure => simp [intOf]; omega
    · obtain rfl : k = l.length := by omega
      go_wp2_with fail
      go_ret
      exact ⟨rfl, hbel⟩
end Go.Proofs.YtfllcbcokncgpaaGreatDoor
