/-
  spec.Zag, spec.wide.
-/
import Derived.Test.YtkbkggamfkadnaaGreatDoorDy3
import Derived.Test.YtkbkggamfkadnaaGreatDoorBig
namespace Go.Proofs.YtkbkggamfkadnaaGreatDoor
set_option linter.unusedSimpArgs false
set_option linter.unusedVariables false
open Go.RowKit

theorem xor_all (y : Nat) (h : y < 9223372036854775808) : bits .xor .u64 (y : Int) 18446744073709551615 = 18446744073709551615 - (y : Int) := by
  have := u64_xor_nat y 18446744073709551615 (by omega) (by omega)
  rw [show (((18446744073709551615 : Nat)) : Int) = 18446744073709551615 from rfl] at this
  rw [this]
  have e : y ^^^ 18446744073709551615 = 18446744073709551615 - y := by
    have h1 := BitVec.toNat_xor (BitVec.ofNat 64 y) (BitVec.allOnes 64)
    rw [BitVec.xor_allOnes, BitVec.toNat_not, BitVec.toNat_ofNat, BitVec.toNat_allOnes, Nat.mod_eq_of_lt (by omega)] at h1
    have : (2 : Nat) ^ 64 - 1 = 18446744073709551615 := by decide
    rw [this] at h1
    exact h1.symm
  rw [e]
  omega
set_option maxRecDepth 100000 in
set_option maxHeartbeats 2000000 in
theorem specZag_any (X : Nat) (hX : X < 18446744073709551616) (w : World) :
    Calls Tryz.prog 21 #[.int .u64 X] w fun e w' => e = .returned (.int .u64 (IntKind.u64.wrap (zagI X))) ∧ w = w' := by
  have hA := and1 X hX
  have hXo := xor_all (X / 2) (by omega)
  rw [Int.natCast_ediv] at hXo
  rw [show ((2 : Nat) : Int) = 2 from rfl] at hXo
  have n5 : (0 : Int) ≤ (X : Int) := by omega
  by_cases hodd : X % 2 = 1
  · rw [hodd] at hA
    have HZ : Hid (IntKind.u64.wrap (zagI X) = 18446744073709551615 - (X : Int) / 2) := Lib.hid (by unfold zagI; rw [if_pos hodd, IntKind.wrap_u64]; omega)
    clear hodd hX
    generalize (X : Int) = Z at *
    go_enter Tryz.func21, Tryz.ntmps21
    go_wp2_with fail
    go_ret
    exact ⟨by rw [HZ.out]; rfl, rfl⟩
  · rw [show X % 2 = 0 by omega] at hA
    have HZ : Hid (IntKind.u64.wrap (zagI X) = (X : Int) / 2) := Lib.hid (by unfold zagI; rw [if_neg hodd, IntKind.wrap_u64]; omega)
    clear hodd hX hXo
    generalize (X : Int) = Z at *
    go_enter Tryz.func21, Tryz.ntmps21
    go_wp2_with fail
    go_ret
    exact ⟨by rw [HZ.out]; rfl, rfl⟩
/-- how many bytes a kind has that always has as many -/
def wd : Nat → Nat
  | 0 => 1
  | 1 => 4
  | 2 => 8
  | 3 => 4
  | 4 => 8
  | 5 => 8
  | _ => 0
set_option maxRecDepth 100000 in
set_option maxHeartbeats 2000000 in
theorem specWide_any (k : Nat) (hk : k ≤ 12) (w : World) : Calls Tryz.prog 19 #[.int .i64 k] w fun e w' => e = .returned (.int .i64 (wd k)) ∧ w = w' := by
  have : k = 0 ∨ k = 1 ∨ k = 2 ∨ k = 3 ∨ k = 4 ∨ k = 5 ∨ k = 6 ∨ k = 7 ∨ k = 8 ∨ k = 9 ∨ k = 10 ∨ k = 11 ∨ k = 12 := by omega
  rcases this with rfl | rfl | rfl | rfl | rfl | rfl | rfl | rfl | rfl | rfl | rfl | rfl | rfl
  all_goals
    go_enter Tryz.func19, Tryz.ntmps19
    go_wp2_with fail
    go_ret
    exact ⟨rfl, rfl⟩
end Go.Proofs.YtkbkggamfkadnaaGreatDoor
