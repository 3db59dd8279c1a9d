/-
  Plain facts on binary floating point: where a product lies, and when a number has a whole part within 64 bits.
-/
import Derived.Laws.FloatArith
import Derived.Laws.BitsAllLaws
namespace Go.Proofs.Ytdinjpemofkdaaa.Flt
open Ieee

/-- what a word of 64 bits reads as -/
theorem read_cases (b : Nat) :
    (b % 2 ^ 63 < 2 ^ 52 ∧ double.read b = .number (b / 2 ^ 63 % 2 == 1) (b % 2 ^ 63) (-1074)) ∨
    (2 ^ 52 ≤ b % 2 ^ 63 ∧ b % 2 ^ 63 < 2047 * 2 ^ 52 ∧ double.read b = .number (b / 2 ^ 63 % 2 == 1) (2 ^ 52 + b % 2 ^ 63 % 2 ^ 52) (-1074 + ((b % 2 ^ 63 / 2 ^ 52 - 1 : Nat) : Int))) ∨
    (b % 2 ^ 63 = 2047 * 2 ^ 52 ∧ double.read b = .infinity (b / 2 ^ 63 % 2 == 1)) ∨
    (2047 * 2 ^ 52 < b % 2 ^ 63 ∧ ∃ f, double.read b = .nan (b / 2 ^ 63 % 2 == 1) f) := by
  have hb : double.binade = 2 ^ 52 := rfl
  have hs : double.signWeight = 2 ^ 63 := rfl
  have hi : double.infRung = 2047 * 2 ^ 52 := rfl
  have hl : double.leastPlace = -1074 := rfl
  unfold Format.read
  simp only [hb, hs, hi, hl]
  by_cases h1 : b % 2 ^ 63 < 2 ^ 52
  · exact .inl ⟨h1, by rw [if_pos h1]⟩
  by_cases h2 : b % 2 ^ 63 < 2047 * 2 ^ 52
  · exact .inr (.inl ⟨by omega, h2, by rw [if_neg h1, if_pos h2]⟩)
  by_cases h3 : b % 2 ^ 63 = 2047 * 2 ^ 52
  · exact .inr (.inr (.inl ⟨h3, by rw [if_neg h1, if_neg h2, if_pos h3]⟩))
  · exact .inr (.inr (.inr ⟨by omega, _, by rw [if_neg h1, if_neg h2, if_neg h3]⟩))

/-- a word whose exponent is small has a whole part of at most 53 digits -/
theorem toInt_small (c : Nat) (h : c % 2 ^ 63 < 1075 * 2 ^ 52) : ∃ n : Int, floatToIntVal .f64 c .i64 = some n := by
  have hd : FloatKind.f64.decode c = double.read c := rfl
  have key : ∀ s m (i : Int), m < 2 ^ 53 → i ≤ 0 → ∃ n : Int, (Datum.number s m i).toInt .zero = some n ∧ -2 ^ 53 ≤ n ∧ n ≤ 2 ^ 53 := by
    intro s m i hm hi
    have h0 : i.toNat = 0 := by omega
    refine ⟨_, rfl, ?_⟩
    simp only [h0, Nat.shiftLeft_zero, Toward.cut, Bool.toNat_false, Nat.add_zero, signed]
    have : m / (1 <<< min (-i).toNat (m.log2 + 2)) ≤ m := Nat.div_le_self _ _
    generalize m / (1 <<< min (-i).toNat (m.log2 + 2)) = q at *
    split <;> omega
  unfold floatToIntVal
  rw [hd]
  rcases read_cases c with ⟨h1, h2⟩ | ⟨h1, h2, h3⟩ | ⟨h1, _⟩ | ⟨h1, _⟩
  · rw [h2]
    obtain ⟨n, e, l, u⟩ := key _ _ _ (show c % 2 ^ 63 < 2 ^ 53 by omega) (show (-1074 : Int) ≤ 0 by omega)
    rw [e]
    refine ⟨n, ?_⟩
    have : IntKind.i64.min ≤ n ∧ n ≤ IntKind.i64.max := by
      simp [IntKind.min, IntKind.max, IntKind.signed, IntKind.bits]; omega
    simp only [this, and_self, if_true]
  · rw [h3]
    obtain ⟨n, e, l, u⟩ := key _ _ _ (show 2 ^ 52 + c % 2 ^ 63 % 2 ^ 52 < 2 ^ 53 by omega) (show (-1074 + ((c % 2 ^ 63 / 2 ^ 52 - 1 : Nat) : Int)) ≤ 0 by omega)
    rw [e]
    refine ⟨n, ?_⟩
    have : IntKind.i64.min ≤ n ∧ n ≤ IntKind.i64.max := by
      simp [IntKind.min, IntKind.max, IntKind.signed, IntKind.bits]; omega
    simp only [this, and_self, if_true]
  · omega
  · omega

theorem cut_even_le (s : Bool) (n drop : Nat) (k : Nat) (h : n < 2 ^ (k + drop)) : Toward.even.cut s n drop ≤ 2 ^ k := by
  unfold Toward.cut
  simp only
  generalize hg : (1 <<< min drop (n.log2 + 2) : Nat) = gap
  have hgap : gap = 2 ^ min drop (n.log2 + 2) := by rw [← hg, Nat.one_shiftLeft]
  have hpos : 0 < gap := by rw [hgap]; exact Nat.two_pow_pos _
  have hlow : n / gap < 2 ^ k := by
    rcases Nat.le_total drop (n.log2 + 2) with hd | hd
    · rw [hgap, Nat.min_eq_left hd]
      rw [Nat.div_lt_iff_lt_mul (Nat.two_pow_pos _), ← Nat.pow_add]
      exact h
    · have : n < gap := by
        rw [hgap, Nat.min_eq_right hd]
        exact Nat.lt_of_lt_of_le Nat.lt_log2_self (Nat.pow_le_pow_right (by omega) (by omega))
      rw [Nat.div_eq_of_lt this]
      exact Nat.two_pow_pos _
  have : (decide (gap < 2 * (n % gap)) || gap == 2 * (n % gap) && n / gap % 2 == 1).toNat ≤ 1 := Bool.toNat_le _
  omega

theorem word_mod (s : Bool) (r : Nat) (h : r < 2 ^ 63) : double.word s r % 2 ^ 63 = r := by
  have hs : double.signWeight = 2 ^ 63 := rfl
  unfold Format.word
  rw [hs]
  split <;> omega

/-- a number below 2^50 is written below the exponent 1075 -/
theorem nearest_small (s : Bool) (m : Nat) (p : Int) (h : m = 0 ∨ p + m.log2 < 50) : double.nearest s m p % 2 ^ 63 ≤ 1073 * 2 ^ 52 := by
  have hb : double.binade = 2 ^ 52 := rfl
  have hl : double.leastPlace = -1074 := rfl
  have hf : (double.fractionBits : Int) = 52 := rfl
  have hi : double.infRung = 2047 * 2 ^ 52 := rfl
  unfold Format.nearest
  by_cases hm : m = 0
  · rw [if_pos hm, word_mod _ _ (Nat.two_pow_pos 63)]
    exact Nat.zero_le _
  have h : p + m.log2 < 50 := h.resolve_left hm
  rw [if_neg hm]
  simp only [hb, hl, hf, hi]
  generalize hlast : max (p + m.log2 - 52) (-1074 : Int) = last
  have hcut : Toward.even.cut s (m <<< (p - last).toNat) (last - p).toNat ≤ 2 ^ 53 := by
    refine cut_even_le s _ _ 53 ?_
    rw [Nat.shiftLeft_eq]
    have h1 : m < 2 ^ (m.log2 + 1) := Nat.lt_log2_self
    have h2 : m * 2 ^ (p - last).toNat < 2 ^ (m.log2 + 1) * 2 ^ (p - last).toNat := Nat.mul_lt_mul_of_pos_right h1 (Nat.two_pow_pos _)
    rw [← Nat.pow_add] at h2
    refine Nat.lt_of_lt_of_le h2 (Nat.pow_le_pow_right (by omega) ?_)
    omega
  generalize Toward.even.cut s (m <<< (p - last).toNat) (last - p).toNat = q at *
  have hl3 : (last - -1074).toNat ≤ 1071 := by omega
  generalize (last - -1074).toNat = z at *
  have hz : z * 2 ^ 52 ≤ 1071 * 2 ^ 52 := Nat.mul_le_mul_right _ hl3
  have hq : q ≤ 2 * 2 ^ 52 := hcut
  have hr : min (z * 2 ^ 52 + q) (2047 * 2 ^ 52) ≤ 1073 * 2 ^ 52 := Nat.le_trans (Nat.min_le_left _ _) (Nat.le_trans (Nat.add_le_add hz hq) (by decide))
  rw [word_mod _ _ (Nat.lt_of_le_of_lt hr (by decide))]
  exact hr
end Go.Proofs.Ytdinjpemofkdaaa.Flt
