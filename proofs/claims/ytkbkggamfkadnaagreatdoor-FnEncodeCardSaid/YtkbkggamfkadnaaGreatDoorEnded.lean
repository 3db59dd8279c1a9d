/-
  spec.ended, spec.Sealed.
-/
import Derived.Test.YtkbkggamfkadnaaGreatDoorSealP
import Derived.Test.YtkbkggamfkadnaaGreatDoorBig
import Derived.BigQuiet
namespace Go.Proofs.YtkbkggamfkadnaaGreatDoor
set_option linter.unusedSimpArgs false
set_option linter.unusedVariables false
open Go.RowKit

theorem BB.from_ {w : World} {B b off n cap : Nat} {m : List UInt8} (h : BB w B (.slice (some ⟨b, off, none⟩) n cap) m) (i k : Nat) (hk : i + k ≤ m.length) : BB w B (.slice (some ⟨b, off + i, none⟩) k (cap - i)) ((m.drop i).take k) := by
  obtain ⟨ao', cap', hv, h1, h2, h3⟩ := h
  cases hv
  have hl : ((m.drop i).take k).length = k := by rw [List.length_take, List.length_drop]; omega
  refine ⟨_, cap - i, by rw [hl], by rw [hl]; omega, by omega, ?_⟩
  rw [hl]
  rcases h3 with h3 | ⟨b', off', e, hb, hB, hc⟩
  · left; omega
  · cases e
    refine .inr ⟨b, off + i, rfl, hb, hB, fun j hj => ?_⟩
    have := hc (i + j) (by omega)
    rw [show off + i + j = off + (i + j) by omega, this]
    have hj' : j < k := by omega
    simp [List.getD_eq_getElem?_getD, List.getElem?_take, hj']

set_option maxRecDepth 100000 in
set_option maxHeartbeats 2000000 in
theorem ended_size (v : Value) (l : List UInt8) (n : Nat) (w : World) (h : Bytes w v l) (hl : l.length ≤ 2147483647) (hn : n < 18446744073709551616) (hs : l.length < n + 4) :
    Calls Tryz.prog 46 #[v, .int .u64 n] w fun e w' => e = .returned (.tuple #[.slice none 0 0, .int .i64 1]) ∧ w = w' := by
  obtain ⟨ao, cap, rfl, h1, h2⟩ := h.form
  clear h
  generalize l.length = m at *
  have n0 : (0 : Int) ≤ (m : Int) := by omega
  have n1 : (m : Int) ≤ 2147483647 := by omega
  by_cases c1 : m < 4
  · have n2 : (m : Int) < 4 := by omega
    go_enter Tryz.func46, Tryz.ntmps46
    go_wp2_with fail
    go_ret2
    exact ⟨rfl, rfl⟩
  · have n2 : ¬ (m : Int) < 4 := by omega
    have n3 : (m : Int) - 4 < (n : Int) := by omega
    have n4 : (0 : Int) ≤ (m : Int) - 4 := by omega
    go_enter Tryz.func46, Tryz.ntmps46
    go_wp2_with fail
    go_ret2
    exact ⟨rfl, rfl⟩

set_option maxRecDepth 100000 in
set_option maxHeartbeats 2000000 in
theorem ended_fine (b off c m : Nat) (l : List UInt8) (n : Nat) (w : World) (h : Bytes w (.slice (some ⟨b, off, none⟩) m c) l) (hm : l.length = m) (hl : m ≤ 2147483647) (hs : n + 4 ≤ m) (hc : m ≤ c) (hc2 : c ≤ maxLen) (hq : Lib.beNat ((l.drop n).take 4) = crcOf (l.take n)) :
    Calls Tryz.prog 46 #[.slice (some ⟨b, off, none⟩) m c, .int .u64 n] w fun e w' => e = .returned (.tuple #[.slice (some ⟨b, off, none⟩) n c, .int .i64 0]) ∧ ∃ q, w' = w.drewN q := by
  have i6 : Bytes w (.slice (some ⟨b, off + n, none⟩) 4 (c - n)) ((l.drop n).take 4) := BB.from_ h n 4 (by omega)
  have i7 : Bytes w (.slice (some ⟨b, off, none⟩) n c) (l.take n) := by
    have : BB w w.heap.size (.slice (some ⟨b, off, none⟩) n c) (l.take n) := by simpa using BB.from_ h 0 n (by omega)
    exact this
  have g6 := fun q => big_any _ _ (w.drewN q) (i6.up (below_drewN (Below.refl _ _) q)) (by rw [List.length_take]; omega)
  have g7 := fun q => castagnoli_any _ _ (w.drewN q) (i7.up (below_drewN (Below.refl _ _) q)) (by rw [List.length_take]; omega)
  have hlt := crcOf_lt (l.take n)
  have l0 : (0 : Int) ≤ ((crcOf (l.take n) : Nat) : Int) := by omega
  have l1 : ((crcOf (l.take n) : Nat) : Int) < 4294967296 := by omega
  rw [hq] at g6
  generalize ((crcOf (l.take n) : Nat) : Int) = z at *
  clear hq hlt i6 i7 h hm
  have n0 : (0 : Int) ≤ (m : Int) := by omega
  have n1 : (m : Int) ≤ 2147483647 := by omega
  have n2 : ¬ (m : Int) < 4 := by omega
  have n3 : ¬ (m : Int) - 4 < (n : Int) := by omega
  have n4 : (0 : Int) ≤ (m : Int) - 4 := by omega
  have n5 : (0 : Int) ≤ (n : Int) := by omega
  have n6 : (n : Int) + 4 ≤ (c : Int) := by omega
  have n7 : (n : Int) ≤ (n : Int) + 4 := by omega
  have n8 : n + 4 - n = 4 := by omega
  have n9 : ¬ c = n := by omega
  have n10 : (n : Int) ≤ 2147483647 := by omega
  have n11 : (n : Int) ≤ (c : Int) := by omega
  go_enter Tryz.func46, Tryz.ntmps46
  go_wp2_with fail
  go_quiet (first
    | (go_at_call 22; refine (g6 _).mono ?_; rintro e w' ⟨rfl, rfl⟩; exact ⟨rfl, _, rfl⟩)
    | (go_at_call 80; refine (g7 _).mono ?_; rintro e w' ⟨rfl, rfl⟩; exact ⟨rfl, _, rfl⟩)
    | fail)
  go_wp2_with fail
  go_ret2
  exact ⟨rfl, nq, rfl⟩
set_option maxRecDepth 100000 in
set_option maxHeartbeats 2000000 in
theorem ended_sum (b off c m : Nat) (l : List UInt8) (n : Nat) (w : World) (h : Bytes w (.slice (some ⟨b, off, none⟩) m c) l) (hm : l.length = m) (hl : m ≤ 2147483647) (hs : n + 4 ≤ m) (hc : m ≤ c) (hc2 : c ≤ maxLen) (hq : ¬ Lib.beNat ((l.drop n).take 4) = crcOf (l.take n)) :
    Calls Tryz.prog 46 #[.slice (some ⟨b, off, none⟩) m c, .int .u64 n] w fun e w' => e = .returned (.tuple #[.slice none 0 0, .int .i64 2]) ∧ ∃ q, w' = w.drewN q := by
  have i6 : Bytes w (.slice (some ⟨b, off + n, none⟩) 4 (c - n)) ((l.drop n).take 4) := BB.from_ h n 4 (by omega)
  have i7 : Bytes w (.slice (some ⟨b, off, none⟩) n c) (l.take n) := by
    have : BB w w.heap.size (.slice (some ⟨b, off, none⟩) n c) (l.take n) := by simpa using BB.from_ h 0 n (by omega)
    exact this
  have g6 := fun q => big_any _ _ (w.drewN q) (i6.up (below_drewN (Below.refl _ _) q)) (by rw [List.length_take]; omega)
  have g7 := fun q => castagnoli_any _ _ (w.drewN q) (i7.up (below_drewN (Below.refl _ _) q)) (by rw [List.length_take]; omega)
  have hlt := crcOf_lt (l.take n)
  have l0 : (0 : Int) ≤ ((crcOf (l.take n) : Nat) : Int) := by omega
  have l1 : ((crcOf (l.take n) : Nat) : Int) < 4294967296 := by omega
  have hne : (((Lib.beNat ((l.drop n).take 4) : Nat) : Int) == ((crcOf (l.take n) : Nat) : Int)) = false := by rw [beq_eq_false_iff_ne]; omega
  generalize ((crcOf (l.take n) : Nat) : Int) = z at *
  generalize ((Lib.beNat ((l.drop n).take 4) : Nat) : Int) = y at *
  clear hq hlt i6 i7 h hm
  have n0 : (0 : Int) ≤ (m : Int) := by omega
  have n1 : (m : Int) ≤ 2147483647 := by omega
  have n2 : ¬ (m : Int) < 4 := by omega
  have n3 : ¬ (m : Int) - 4 < (n : Int) := by omega
  have n4 : (0 : Int) ≤ (m : Int) - 4 := by omega
  have n5 : (0 : Int) ≤ (n : Int) := by omega
  have n6 : (n : Int) + 4 ≤ (c : Int) := by omega
  have n7 : (n : Int) ≤ (n : Int) + 4 := by omega
  have n8 : n + 4 - n = 4 := by omega
  have n9 : ¬ c = n := by omega
  have n10 : (n : Int) ≤ 2147483647 := by omega
  have n11 : (n : Int) ≤ (c : Int) := by omega
  go_enter Tryz.func46, Tryz.ntmps46
  go_wp2_with fail
  go_quiet (first
    | (go_at_call 22; refine (g6 _).mono ?_; rintro e w' ⟨rfl, rfl⟩; exact ⟨rfl, _, rfl⟩)
    | (go_at_call 80; refine (g7 _).mono ?_; rintro e w' ⟨rfl, rfl⟩; exact ⟨rfl, _, rfl⟩)
    | fail)
  go_wp2_with fail
  go_ret2
  exact ⟨rfl, nq, rfl⟩
end Go.Proofs.YtkbkggamfkadnaaGreatDoor
