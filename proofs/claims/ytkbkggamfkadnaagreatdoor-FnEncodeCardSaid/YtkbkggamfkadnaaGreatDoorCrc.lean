/-
  The sum of Castagnoli: the reference's and the program's own.
-/
import Derived.Test.YtkbkggamfkadnaaGreatDoorDec
import Derived.Laws.BitsAllLaws
namespace Go.Proofs.YtkbkggamfkadnaaGreatDoor
set_option linter.unusedSimpArgs false
set_option linter.unusedVariables false
open Go.RowKit

def crcBit (c : Nat) : Nat := if c % 2 = 1 then (c / 2) ^^^ 2197175160 else c / 2
def crcIter : Nat → Nat → Nat
  | 0, c => c
  | k + 1, c => crcBit (crcIter k c)
def crcAll (c : Nat) (l : List UInt8) : Nat := l.foldl (fun c b => crcIter 8 (c ^^^ b.toNat)) c
def crcOf (l : List UInt8) : Nat := 4294967295 ^^^ crcAll 4294967295 l
theorem crcBit_lt {c : Nat} (h : c < 4294967296) : crcBit c < 4294967296 := by
  unfold crcBit
  split
  · exact Nat.xor_lt_two_pow (n := 32) (by omega) (by omega)
  · omega
theorem crcIter_lt {c : Nat} (h : c < 4294967296) : ∀ k, crcIter k c < 4294967296
  | 0 => h
  | k + 1 => crcBit_lt (crcIter_lt h k)
theorem crcXor_lt {c : Nat} (h : c < 4294967296) (b : UInt8) : c ^^^ b.toNat < 4294967296 := Nat.xor_lt_two_pow (n := 32) h (by have := b.toNat_lt; omega)
theorem crcAll_lt : ∀ (l : List UInt8) {c : Nat}, c < 4294967296 → crcAll c l < 4294967296
  | [], _, h => h
  | b :: l, _, h => crcAll_lt l (crcIter_lt (crcXor_lt h b) 8)
theorem crcAll_snoc (c : Nat) (l : List UInt8) (b : UInt8) : crcAll c (l ++ [b]) = crcIter 8 (crcAll c l ^^^ b.toNat) := by simp [crcAll]
theorem crcOf_lt (l : List UInt8) : crcOf l < 4294967296 := Nat.xor_lt_two_pow (n := 32) (by omega) (crcAll_lt l (by omega))
theorem crc_not {l : List UInt8} {z : Int} (hz : z = (crcAll 4294967295 l : Nat)) : bits .xor .u32 IntKind.u32.max z = ((crcOf l : Nat) : Int) := by
  have hl := crcAll_lt l (c := 4294967295) (by omega)
  subst hz
  have := u32_xor_nat 4294967295 (crcAll 4294967295 l) (by omega) hl
  rw [show IntKind.u32.max = ((4294967295 : Nat) : Int) by decide]
  exact this

theorem crc_and {c : Nat} (h : c < 4294967296) : bits .and .u32 (c : Int) 1 = ((c % 2 : Nat) : Int) := by
  have := u32_and_nat c 1 h (by omega)
  rw [nat_mask1] at this
  exact this
theorem crc_xor {c : Nat} (h : c < 4294967296) : bits .xor .u32 ((c : Int) / 2) 2197175160 = (((c / 2) ^^^ 2197175160 : Nat) : Int) := u32_xor_nat (c / 2) 2197175160 (by omega) (by omega)
theorem crc_xorb {c : Nat} (h : c < 4294967296) (b : UInt8) : bits .xor .u32 (c : Int) ((b.toNat : Int) % 4294967296) = ((c ^^^ b.toNat : Nat) : Int) := by
  have hb := b.toNat_lt
  rw [show ((b.toNat : Int) % 4294967296) = (b.toNat : Int) by omega]
  exact u32_xor_nat c b.toNat h (by omega)

set_option maxRecDepth 100000 in
set_option maxHeartbeats 2000000 in
theorem castagnoli_any (v : Value) (l : List UInt8) (w : World) (h : Bytes w v l) (hl : l.length ≤ 2147483647) :
    Calls Tryz.prog 80 #[v] w fun e w' => e = .returned (.int .u32 (crcOf l : Nat)) ∧ w = w' := by
  obtain ⟨ao, cap, rfl, h1, h2⟩ := h.form
  go_enter Tryz.func80, Tryz.ntmps80
  go_wp2_with fail
  go_loopw [3, 4] (fun c i wr => ∃ k : Nat, k ≤ l.length ∧ i = .int .i64 k ∧ c = .int .u32 (crcAll 4294967295 (l.take k) : Nat) ∧ w = wr) (fun _ i _ => l.length - (intOf i).toNat)
  case atStart => exact ⟨0, Nat.zero_le _, rfl, rfl, rfl⟩
  case round => as_aux_lemma =>
    obtain ⟨k, hk, rfl, rfl, rfl⟩ := hrel
    have hL := crcAll_lt (l.take k) (c := 4294967295) (by omega)
    by_cases hlt : k < l.length
    · obtain ⟨b, off, rfl, hb, hc⟩ := h.at_ (by omega)
      have c0 := hc k hlt
      have hT := crcAll_snoc 4294967295 (l.take k) l[k]
      rw [← take_next hlt] at hT
      have hX := crc_xorb hL l[k]
      have hXl := crcXor_lt hL l[k]
      have HT := Lib.hid hT
      have HX := Lib.hid hX
      clear hT hX hc
      generalize crcAll 4294967295 (l.take k) = c at *
      generalize l[k] = y at *
      have i0 : (0 : Int) ≤ (k : Int) := by omega
      have i1 : (k : Int) < (l.length : Int) := by omega
      have i2 : (c : Int) < 4294967296 := by omega
      go_wp2_with fail
      go_loopw [3, 5] (fun c' j wr => ∃ m : Nat, m ≤ 8 ∧ j = .int .i64 m ∧ c' = .int .u32 (crcIter m (c ^^^ y.toNat) : Nat) ∧ w = wr) (fun _ j _ => 8 - (intOf j).toNat)
      case atStart => exact ⟨0, Nat.zero_le _, rfl, by rw [HX.out]; rfl, rfl⟩
      case round =>
        obtain ⟨m, hm, rfl, rfl, rfl⟩ := hrel
        have hIl := crcIter_lt hXl m
        by_cases hlm : m < 8
        · have hA := crc_and hIl
          have hS := crc_xor hIl
          have hB : crcIter (m + 1) (c ^^^ y.toNat) = crcBit (crcIter m (c ^^^ y.toNat)) := rfl
          have HB := Lib.hid hB
          have HS := Lib.hid hS
          clear hB hS
          generalize crcIter m (c ^^^ y.toNat) = q at *
          have j0 : (0 : Int) ≤ (m : Int) := by omega
          have j1 : (m : Int) < 8 := by omega
          have j2 : (q : Int) < 4294967296 := by omega
          by_cases hp : q % 2 = 1
          · rw [hp] at hA
            have HC : Hid (crcBit q = (q / 2) ^^^ 2197175160) := Lib.hid (by unfold crcBit; rw [if_pos hp])
            clear hp
            go_wp2_with fail
            go_roundw
            case rel => exact ⟨m + 1, by omega, by simp, by rw [HB.out, HC.out, HS.out], trivial⟩
            case measure => simp [intOf]; omega
          · rw [show q % 2 = 0 by omega] at hA
            have HC : Hid (crcBit q = q / 2) := Lib.hid (by unfold crcBit; rw [if_neg hp])
            clear hp
            go_wp2_with fail
            go_roundw
            case rel => exact ⟨m + 1, by omega, by simp, by rw [HB.out, HC.out]; rfl, trivial⟩
            case measure => simp [intOf]; omega
        · obtain rfl : m = 8 := by omega
          go_wp2_with fail
          go_roundw
          case rel => exact ⟨k + 1, by omega, by simp, by rw [HT.out], trivial⟩
          case measure => simp [intOf]; omega
    · obtain rfl : k = l.length := by omega
      rw [List.take_length] at hL
      rw [List.take_length]
      obtain ⟨z, hz⟩ : ∃ z : Int, z = ((crcAll 4294967295 l : Nat) : Int) := ⟨_, rfl⟩
      have HZ := Lib.hid hz
      have i2 : z < 4294967296 := by omega
      have i3 : 0 ≤ z := by omega
      rw [← hz]
      clear hz hL
      go_wp2_with fail
      go_ret
      exact ⟨by rw [← crc_not HZ.out]; rfl, rfl⟩
set_option maxRecDepth 100000 in
set_option maxHeartbeats 2000000 in
theorem update_any (v : Value) (l : List UInt8) (T : Nat) (w : World) (h : Bytes w v l) (hl : l.length ≤ 2147483647) (hT : Blk w T [.int .u32 2197175160] 112) :
    Calls Tryz.prog 108 #[.int .u32 0, .pointer (some ⟨T, 0, none⟩), v] w fun e w' => e = .returned (.int .u32 (crcOf l : Nat)) ∧ w = w' := by
  obtain ⟨ao, cap, rfl, h1, h2⟩ := h.form
  have t0 := hT.cell 0
  have hBy := h
  go_enter Tryz.func108, Tryz.ntmps108
  go_wp2_with fail
  go_loopw [0, 13] (fun c i wr => ∃ k : Nat, k ≤ l.length ∧ i = .int .i64 k ∧ c = .int .u32 (crcAll 4294967295 (l.take k) : Nat) ∧ w = wr) (fun _ i _ => l.length - (intOf i).toNat)
  case atStart => exact ⟨0, Nat.zero_le _, rfl, rfl, rfl⟩
  case round => as_aux_lemma =>
    obtain ⟨k, hk, rfl, rfl, rfl⟩ := hrel
    have hL := crcAll_lt (l.take k) (c := 4294967295) (by omega)
    by_cases hlt : k < l.length
    · obtain ⟨b, off, rfl, hb, hc⟩ := hBy.at_ (by omega)
      have c0 := hc k hlt
      have hT := crcAll_snoc 4294967295 (l.take k) l[k]
      rw [← take_next hlt] at hT
      have hX := crc_xorb hL l[k]
      have hXl := crcXor_lt hL l[k]
      have HT := Lib.hid hT
      have HX := Lib.hid hX
      clear hT hX hc
      generalize crcAll 4294967295 (l.take k) = c at *
      generalize l[k] = y at *
      have i0 : (0 : Int) ≤ (k : Int) := by omega
      have i1 : (k : Int) < (l.length : Int) := by omega
      have i2 : (c : Int) < 4294967296 := by omega
      go_wp2_with fail
      go_loopw [0, 21] (fun c' j wr => ∃ m : Nat, m ≤ 8 ∧ j = .int .i64 m ∧ c' = .int .u32 (crcIter m (c ^^^ y.toNat) : Nat) ∧ w = wr) (fun _ j _ => 8 - (intOf j).toNat)
      case atStart => exact ⟨0, Nat.zero_le _, rfl, by rw [HX.out]; rfl, rfl⟩
      case round =>
        obtain ⟨m, hm, rfl, rfl, rfl⟩ := hrel
        have hIl := crcIter_lt hXl m
        by_cases hlm : m < 8
        · have hA := crc_and hIl
          have hS := crc_xor hIl
          have hB : crcIter (m + 1) (c ^^^ y.toNat) = crcBit (crcIter m (c ^^^ y.toNat)) := rfl
          have HB := Lib.hid hB
          have HS := Lib.hid hS
          clear hB hS
          generalize crcIter m (c ^^^ y.toNat) = q at *
          have j0 : (0 : Int) ≤ (m : Int) := by omega
          have j1 : (m : Int) < 8 := by omega
          have j2 : (q : Int) < 4294967296 := by omega
          by_cases hp : q % 2 = 1
          · rw [hp] at hA
            have HC : Hid (crcBit q = (q / 2) ^^^ 2197175160) := Lib.hid (by unfold crcBit; rw [if_pos hp])
            clear hp
            go_wp2_with fail
            go_roundw
            case rel => exact ⟨m + 1, by omega, by simp, by rw [HB.out, HC.out, HS.out], trivial⟩
            case measure => simp [intOf]; omega
          · rw [show q % 2 = 0 by omega] at hA
            have HC : Hid (crcBit q = q / 2) := Lib.hid (by unfold crcBit; rw [if_neg hp])
            clear hp
            go_wp2_with fail
            go_roundw
            case rel => exact ⟨m + 1, by omega, by simp, by rw [HB.out, HC.out]; rfl, trivial⟩
            case measure => simp [intOf]; omega
        · obtain rfl : m = 8 := by omega
          go_wp2_with fail
          go_roundw
          case rel => exact ⟨k + 1, by omega, by simp, by rw [HT.out], trivial⟩
          case measure => simp [intOf]; omega
    · obtain rfl : k = l.length := by omega
      rw [List.take_length] at hL
      rw [List.take_length]
      obtain ⟨z, hz⟩ : ∃ z : Int, z = ((crcAll 4294967295 l : Nat) : Int) := ⟨_, rfl⟩
      have HZ := Lib.hid hz
      have i2 : z < 4294967296 := by omega
      have i3 : 0 ≤ z := by omega
      rw [← hz]
      clear hz hL
      go_wp2_with fail
      go_ret
      exact ⟨by rw [← crc_not HZ.out]; rfl, rfl⟩
end Go.Proofs.YtkbkggamfkadnaaGreatDoor
