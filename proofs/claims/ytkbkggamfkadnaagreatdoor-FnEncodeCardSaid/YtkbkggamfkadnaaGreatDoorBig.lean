/-
  spec.Big: a number with the highest byte first.
-/
import Derived.Test.YtkbkggamfkadnaaGreatDoorRawLaw
import Derived.Test.YtkbkggamfkadnaaGreatDoorAwakeE
import Derived.Laws.BitsAllLaws
import Derived.Lib.EndianBits
namespace Go.Proofs.YtkbkggamfkadnaaGreatDoor
set_option linter.unusedSimpArgs false
set_option linter.unusedVariables false
open Go.RowKit

theorem big_step (n : Nat) (b : UInt8) (hn : n < 72057594037927936) : bits .or .u64 ((n : Int) * 256) (IntKind.u64.wrap (b.toNat : Int)) = ((n * 256 + b.toNat : Nat) : Int) := by
  have hb := b.toNat_lt
  have hw : IntKind.u64.wrap (b.toNat : Int) = (b.toNat : Int) := wraps_u64 _ (by omega) (by omega)
  rw [hw]
  have := u64_or_nat (n * 256) b.toNat (by omega) (by omega)
  rw [Int.natCast_mul] at this
  rw [show ((256 : Nat) : Int) = 256 from rfl] at this
  rw [this]
  congr 1
  have := nat_join 8 (n * 256) b.toNat (by omega) (by omega)
  exact this

set_option maxRecDepth 100000 in
set_option maxHeartbeats 1000000 in
theorem big_any (v : Value) (l : List UInt8) (w : World) (h : Bytes w v l) (hl : l.length ≤ 8) :
    Calls Tryz.prog 22 #[v] w fun e w' => e = .returned (.int .u64 (Lib.beNat l : Nat)) ∧ w = w' := by
  obtain ⟨ao, cap, rfl, h1, h2⟩ := h.form
  go_enter Tryz.func22, Tryz.ntmps22
  go_wp2_with fail
  go_loopw [3, 4] (fun n i wr => ∃ k : Nat, k ≤ l.length ∧ i = .int .i64 k ∧ n = .int .u64 (Lib.beNat (l.take k) : Nat) ∧ w = wr) (fun _ i _ => l.length - (intOf i).toNat)
  case atStart => exact ⟨0, Nat.zero_le _, rfl, rfl, rfl⟩
  case round => as_aux_lemma =>
    obtain ⟨k, hk, rfl, rfl, rfl⟩ := hrel
    by_cases hlt : k < l.length
    · obtain ⟨b, off, rfl, hb, hc⟩ := h.at_ (by omega)
      have c0 := hc k hlt
      have hT := beNat_snoc (l.take k) l[k]
      rw [← take_next hlt] at hT
      have hL := beNat_lt (l.take k)
      rw [List.length_take] at hL
      have hq : Lib.beNat (l.take k) < 72057594037927936 := Nat.lt_of_lt_of_le hL (Nat.pow_le_pow_right (by decide) (show min k l.length ≤ 7 by omega))
      have hS := big_step (Lib.beNat (l.take k)) l[k] hq
      have HT := Lib.hid hT
      have HS := Lib.hid hS
      clear hT hL hc hS
      generalize Lib.beNat (l.take k) = n at *
      generalize l[k] = y at *
      have i0 : (0 : Int) ≤ (k : Int) := by omega
      have i1 : (k : Int) < (l.length : Int) := by omega
      go_wp2_with fail
      go_roundw
      case rel => exact ⟨k + 1, by omega, by simp, by rw [HT.out, HS.out], trivial⟩
      case measure => simp [intOf]; omega
    · obtain rfl : k = l.length := by omega
      rw [List.take_length]
      go_wp2_with fail
      go_ret
      exact ⟨rfl, rfl⟩
end Go.Proofs.YtkbkggamfkadnaaGreatDoor
