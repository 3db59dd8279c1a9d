/-
  Data got one behind the other: plain.
-/
import Derived.Test.YtkbkggamfkadnaaGreatDoorDxB
namespace Go.Proofs.YtkbkggamfkadnaaGreatDoor
set_option linter.unusedSimpArgs false
set_option linter.unusedVariables false
open Go.RowKit

/-- the data so far, how many bytes are left behind each one; what is left, if there was no error -/
abbrev DSts := List ((Int × List UInt8) × Nat) × Option (List UInt8)
def stepD (st : DSts) (kn : Nat × Nat) : DSts :=
  match st.2 with
  | none => st
  | some m => match decD kn.1 kn.2 m with
    | some (d, r) => (st.1 ++ [(d, r.length)], some r)
    | none => (st.1, none)
def runD (K : List (Nat × Nat)) (m : List UInt8) : DSts := K.foldl stepD ([], some m)
theorem runD_snoc (K : List (Nat × Nat)) (x : Nat × Nat) (m : List UInt8) : runD (K ++ [x]) m = stepD (runD K m) x := by unfold runD; rw [List.foldl_append]; rfl
theorem decB_len {k : Nat} {m r : List UInt8} {x : Nat} (h : decB k m = some (x, r)) : r.length ≤ m.length := (decB_lt h).2
theorem decU_len {m r : List UInt8} {x : Nat} (h : decU m = some (x, r)) : r.length ≤ m.length := by
  obtain ⟨_, _, rfl⟩ := decU_some h
  rw [List.length_drop]
  omega
theorem decS_len2 {m s r : List UInt8} (h : decS m = some (s, r)) : r.length ≤ m.length := by
  unfold decS at h
  split at h
  · cases h
  · rename_i X r' hd
    split at h
    · injection h with h
      injection h with h1 h2
      subst h2
      have := decU_len hd
      rw [List.length_drop]
      omega
    · cases h
theorem map_some {α β : Type} {o : Option α} {f : α → β} {y : β} (h : o.map f = some y) : ∃ x, o = some x ∧ f x = y := by
  cases o with
  | none => cases h
  | some x => exact ⟨x, rfl, by simpa using h⟩
theorem decD_len {k N : Nat} {m r : List UInt8} {d : Int × List UInt8} (h : decD k N m = some (d, r)) : r.length ≤ m.length := by
  match k, h with
  | 0, h => obtain ⟨x, hx, he⟩ := map_some h; cases he; exact decB_len hx
  | 1, h => obtain ⟨x, hx, he⟩ := map_some h; cases he; exact decB_len hx
  | 2, h => obtain ⟨x, hx, he⟩ := map_some h; cases he; exact decB_len hx
  | 3, h => obtain ⟨x, hx, he⟩ := map_some h; cases he; exact decB_len hx
  | 4, h => obtain ⟨x, hx, he⟩ := map_some h; cases he; exact decB_len hx
  | 5, h => obtain ⟨x, hx, he⟩ := map_some h; cases he; exact decB_len hx
  | 6, h => obtain ⟨x, hx, he⟩ := map_some h; cases he; exact decU_len hx
  | 7, h => obtain ⟨x, hx, he⟩ := map_some h; cases he; exact decU_len hx
  | 8, h => obtain ⟨x, hx, he⟩ := map_some h; cases he; exact decU_len hx
  | 9, h => obtain ⟨x, hx, he⟩ := map_some h; cases he; exact decU_len hx
  | 10, h => obtain ⟨x, hx, he⟩ := map_some h; cases he; exact decS_len2 hx
  | 11, h => obtain ⟨x, hx, he⟩ := map_some h; cases he; exact decS_len2 hx
  | 12, h =>
    simp only [decD] at h
    split at h
    · injection h with h
      injection h with _ h
      subst h
      rw [List.length_drop]
      omega
    · cases h
  | k + 13, h => cases h
/-- data that are read: kind, number, bytes (as a value) -/
def Dats (w : World) (B : Nat) (v : Value) (K : List (Int × Int × Value)) : Prop :=
  Sl w B 3 v K.length fun i => if i % 3 = 0 then .int .i64 (K.getD (i / 3) (0, 0, undef)).1 else if i % 3 = 1 then .int .u64 (K.getD (i / 3) (0, 0, undef)).2.1 else (K.getD (i / 3) (0, 0, undef)).2.2
theorem Dats.form {w : World} {B : Nat} {v : Value} {K : List (Int × Int × Value)} (h : Dats w B v K) : ∃ ao cap, v = .slice ao K.length cap ∧ K.length ≤ cap ∧ cap ≤ maxLen := Sl.form h
theorem Dats.at_ {w : World} {B : Nat} {ao : Option Addr} {n cap : Nat} {K : List (Int × Int × Value)} (h : Dats w B (.slice ao n cap) K) (hn : 0 < K.length) :
    ∃ b off, ao = some ⟨b, off, none⟩ ∧ b < B ∧ B ≤ w.heap.size ∧ ∀ i (hi : i < K.length), w.cell? ⟨b, off + i * 3, none⟩ = some (.int .i64 K[i].1) ∧ w.cell? ⟨b, off + i * 3 + 1, none⟩ = some (.int .u64 K[i].2.1) ∧ w.cell? ⟨b, off + i * 3 + 2, none⟩ = some K[i].2.2 := by
  obtain ⟨b, off, h1, h2, h2', h3⟩ := Sl.at_ h hn
  refine ⟨b, off, h1, h2, h2', fun i hi => ⟨?_, ?_, ?_⟩⟩
  · rw [h3 (i * 3) (by omega)]
    have e1 : i * 3 % 3 = 0 := by omega
    have e2 : i * 3 / 3 = i := by omega
    simp [e1, e2, hi]
  · rw [Nat.add_assoc, h3 (i * 3 + 1) (by omega)]
    have e1 : (i * 3 + 1) % 3 = 1 := by omega
    have e2 : (i * 3 + 1) / 3 = i := by omega
    simp [e1, e2, hi]
  · rw [Nat.add_assoc, h3 (i * 3 + 2) (by omega)]
    have e1 : (i * 3 + 2) % 3 = 2 := by omega
    have e2 : (i * 3 + 2) / 3 = i := by omega
    simp [e1, e2, hi]
/-- kinds of data: a kind that there is, a number that is not too great, a slice -/
def KindsOk (K : List (Int × Int × Value)) : Prop := ∀ x ∈ K, 0 ≤ x.1 ∧ x.1 ≤ 12 ∧ 0 ≤ x.2.1 ∧ x.2.1 ≤ 4294967296 ∧ ∃ a n c, x.2.2 = .slice a n c
def kn (x : Int × Int × Value) : Nat × Nat := (x.1.toNat, x.2.1.toNat)
/-- no length of 2^31 bytes or more is told -/
def NoHuge (K : List (Nat × Nat)) (m0 : List UInt8) : Prop := ∀ k (hk : k < K.length) m, (runD (K.take k) m0).2 = some m → K[k].1 = 10 ∨ K[k].1 = 11 → ∀ X r, decU m = some (X, r) → X < 2147483648
end Go.Proofs.YtkbkggamfkadnaaGreatDoor
