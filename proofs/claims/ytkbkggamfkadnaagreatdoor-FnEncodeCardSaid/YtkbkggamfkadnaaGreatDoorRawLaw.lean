/-
  Numbers of four bytes: what is put, and what is read.
-/
import Derived.Lib.Endian
import Derived.Test.YtkbkggamfkadnaaGreatDoorProg
namespace Go.Proofs.YtkbkggamfkadnaaGreatDoor
set_option linter.unusedSimpArgs false
set_option linter.unusedVariables false
theorem beFrom_append (a : Nat) : ∀ (l m : List UInt8), Lib.beFrom a (l ++ m) = Lib.beFrom (Lib.beFrom a l) m
  | [], _ => rfl
  | b :: l, m => by simp only [List.cons_append, Lib.beFrom]; exact beFrom_append _ l m
theorem beFrom_mono : ∀ (l : List UInt8) (a : Nat), Lib.beFrom a l = a * 256 ^ l.length + Lib.beNat l
  | [], a => by simp [Lib.beFrom, Lib.beNat]
  | b :: l, a => by
    simp only [Lib.beFrom, Lib.beNat, List.length_cons]
    rw [beFrom_mono l (a * 256 + b.toNat), beFrom_mono l (0 * 256 + b.toNat), Nat.pow_succ, Nat.add_mul, Nat.zero_mul, Nat.zero_add, Nat.mul_assoc, Nat.mul_comm 256 (256 ^ l.length)]
    omega
theorem beNat_snoc (l : List UInt8) (b : UInt8) : Lib.beNat (l ++ [b]) = Lib.beNat l * 256 + b.toNat := by
  unfold Lib.beNat
  rw [beFrom_append]; rfl
theorem beNat_cons (l : List UInt8) (b : UInt8) : Lib.beNat (b :: l) = b.toNat * 256 ^ l.length + Lib.beNat l := by
  show Lib.beFrom (0 * 256 + b.toNat) l = _
  rw [beFrom_mono]; simp
theorem beNat_lt : ∀ (l : List UInt8), Lib.beNat l < 256 ^ l.length
  | [] => by decide
  | b :: l => by
    rw [beNat_cons, List.length_cons, Nat.pow_succ]
    have h := beNat_lt l
    have hb := b.toNat_lt
    have := Nat.mul_le_mul_right (256 ^ l.length) (show b.toNat ≤ 255 by omega)
    omega
theorem beBytes4 (v : Nat) : Lib.beBytes 4 v = [(v / 256 / 256 / 256 % 256).toUInt8, (v / 256 / 256 % 256).toUInt8, (v / 256 % 256).toUInt8, (v % 256).toUInt8] := by
  simp [Lib.beBytes, Lib.leBytes]
theorem beNat4 (b0 b1 b2 b3 : UInt8) : Lib.beNat [b0, b1, b2, b3] = ((b0.toNat * 256 + b1.toNat) * 256 + b2.toNat) * 256 + b3.toNat := by
  simp [Lib.beNat, Lib.beFrom]
theorem beNat_beBytes4 (v : Nat) (h : v < 4294967296) : Lib.beNat (Lib.beBytes 4 v) = v := by
  rw [beBytes4, beNat4]
  simp only [Lib.toUInt8_mod]
  omega
/-- numbers of four bytes each -/
def nums4 : List UInt8 → List Int
  | b0 :: b1 :: b2 :: b3 :: l => (Lib.beNat [b0, b1, b2, b3] : Nat) :: nums4 l
  | _ => []
theorem nums4_length : ∀ (n : Nat) (l : List UInt8), l.length = 4 * n → (nums4 l).length = n
  | 0, l, h => by
    have : l = [] := List.length_eq_zero_iff.1 h
    subst this; rfl
  | n + 1, l, h => by
    match l, h with
    | b0 :: b1 :: b2 :: b3 :: l, h =>
      simp only [nums4, List.length_cons] at *
      rw [nums4_length n l (by omega)]
theorem nums4_cons {l : List UInt8} (h : 4 ≤ l.length) : ∃ b0 b1 b2 b3, l = b0 :: b1 :: b2 :: b3 :: l.drop 4 ∧ nums4 l = ((Lib.beNat [b0, b1, b2, b3] : Nat) : Int) :: nums4 (l.drop 4) := by
  match l, h with
  | b0 :: b1 :: b2 :: b3 :: l, _ => exact ⟨b0, b1, b2, b3, rfl, rfl⟩
theorem nums4_get : ∀ (i : Nat) (l : List UInt8), 4 * i + 4 ≤ l.length → (nums4 l)[i]? = some ((Lib.beNat ((l.drop (4 * i)).take 4) : Nat) : Int)
  | 0, l, h => by
    obtain ⟨b0, b1, b2, b3, e, e2⟩ := nums4_cons (l := l) (by omega)
    rw [e2]
    rw [e]
    rfl
  | i + 1, l, h => by
    obtain ⟨b0, b1, b2, b3, e, e2⟩ := nums4_cons (l := l) (by omega)
    rw [e2, List.getElem?_cons_succ, nums4_get i (l.drop 4) (by rw [List.length_drop]; omega), List.drop_drop, show 4 + 4 * i = 4 * (i + 1) by omega]
def raw4 (l : List Nat) : List UInt8 := l.flatMap (Lib.beBytes 4)
theorem raw4_length (l : List Nat) : (raw4 l).length = 4 * l.length := by
  induction l with
  | nil => rfl
  | cons x l ih =>
    unfold raw4 at *
    rw [List.flatMap_cons, List.length_append, ih, Lib.beBytes_length, List.length_cons]
    omega
theorem nums4_raw : ∀ (l : List Nat), (∀ x ∈ l, x < 4294967296) → nums4 (raw4 l) = l.map Int.ofNat
  | [], _ => rfl
  | x :: l, h => by
    have e : raw4 (x :: l) = Lib.beBytes 4 x ++ raw4 l := by simp [raw4]
    have e2 := beNat_beBytes4 x (h x (by simp))
    rw [beBytes4] at e e2
    rw [e]
    simp only [List.cons_append, List.nil_append, nums4, List.map_cons]
    rw [e2, nums4_raw l (fun y hy => h y (by simp [hy]))]
    rfl
theorem raw4_snoc (l : List Nat) (x : Nat) : raw4 (l ++ [x]) = raw4 l ++ Lib.beBytes 4 x := by simp [raw4]
/-- bytes are numbers of four bytes, with their number ahead -/
def rawIs (l : List UInt8) : Bool := decide (4 ≤ l.length) && decide (l.length - 4 = 4 * Lib.beNat (l.take 4))
theorem raw_is (l : List Nat) (hl : l.length < 4294967296) : rawIs (Lib.beBytes 4 l.length ++ raw4 l) = true := by
  unfold rawIs
  have h : (Lib.beBytes 4 l.length).length = 4 := Lib.beBytes_length _ _
  rw [List.length_append, h, raw4_length, List.take_left' h, beNat_beBytes4 _ hl]
  simp
end Go.Proofs.YtkbkggamfkadnaaGreatDoor
