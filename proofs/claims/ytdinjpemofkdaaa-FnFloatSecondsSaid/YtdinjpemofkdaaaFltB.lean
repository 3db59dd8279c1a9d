/-
  A number of at most 2^40 in size, times 1000, is a number of a small exponent; and so is what rounding makes of it.
-/
import Derived.Test.YtdinjpemofkdaaaFlt
namespace Go.Proofs.Ytdinjpemofkdaaa.Flt
open Ieee Go.RowKit

def up40 : Nat := 4787326403894837248
def down40 : Nat := 14010698440749613056
def thousand : Nat := 4652007308841189376

theorem read_up40 : double.read up40 = .number false (2 ^ 52) (-12) := by decide +kernel
theorem read_down40 : double.read down40 = .number true (2 ^ 52) (-12) := by decide +kernel
theorem read_thousand : double.read thousand = .number false (1000 * 2 ^ 43) (-43) := by decide +kernel

theorem cmp_le {a b : Int} (h : (some (compare a b) == some Ordering.lt || some (compare a b) == some Ordering.eq) = true) : a ≤ b := by
  rcases Int.lt_trichotomy a b with g | g | g
  · omega
  · omega
  · have : compare a b = .gt := by rw [Int.compare_eq_gt]; exact g
    rw [this] at h
    simp at h

theorem cmp_ge {a b : Int} (h : (some (compare a b) == some Ordering.gt || some (compare a b) == some Ordering.eq) = true) : b ≤ a := by
  rcases Int.lt_trichotomy a b with g | g | g
  · have : compare a b = .lt := by rw [Int.compare_eq_lt]; exact g
    rw [this] at h
    simp at h
  · omega
  · omega

theorem mul_small (x : Nat) (h1 : (double.order x up40 == some .lt || double.order x up40 == some .eq) = true)
    (h2 : (double.order x down40 == some .gt || double.order x down40 == some .eq) = true) :
    ∃ r, double.mul x thousand = some r ∧ r % 2 ^ 63 ≤ 1073 * 2 ^ 52 := by
  unfold Format.order at h1 h2
  rw [read_up40] at h1
  rw [read_down40] at h2
  unfold Format.mul
  rw [read_thousand]
  cases hx : double.read x with
  | nan s t => rw [hx] at h1; simp [Datum.order] at h1
  | infinity s => rw [hx] at h1 h2; cases s <;> simp [Datum.order] at h1 h2
  | number s m i =>
    rw [hx] at h1 h2
    simp only [Datum.order] at h1 h2
    have g1 := cmp_le h1
    have g2 := cmp_ge h2
    clear h1 h2 hx
    refine ⟨_, rfl, nearest_small _ _ _ ?_⟩
    by_cases hm : m * (1000 * 2 ^ 43) = 0
    · exact .inl hm
    right
    generalize ha : (i - min i (-12)).toNat = a at *
    generalize hb : ((-12 : Int) - min i (-12)).toNat = b at *
    have g3 : m * 2 ^ a ≤ 2 ^ 52 * 2 ^ b := by
      simp only [signed, Nat.shiftLeft_eq, Bool.false_eq_true, if_false, if_true] at g1 g2
      cases s
      · simp only [Bool.false_eq_true, if_false] at g1
        exact Int.ofNat_le.1 g1
      · simp only [if_true] at g2
        exact Int.ofNat_le.1 (Int.neg_le_neg_iff.1 g2)
    have g4 : 2 ^ (m * (1000 * 2 ^ 43)).log2 ≤ m * (1000 * 2 ^ 43) := Nat.log2_self_le hm
    have g5 : 2 ^ ((m * (1000 * 2 ^ 43)).log2 + a) < 2 ^ (105 + b) := by
      rw [Nat.pow_add]
      calc 2 ^ (m * (1000 * 2 ^ 43)).log2 * 2 ^ a ≤ m * (1000 * 2 ^ 43) * 2 ^ a := Nat.mul_le_mul_right _ g4
        _ = (m * 2 ^ a) * (1000 * 2 ^ 43) := by rw [Nat.mul_assoc, Nat.mul_comm (1000 * 2 ^ 43), ← Nat.mul_assoc]
        _ ≤ (2 ^ 52 * 2 ^ b) * (1000 * 2 ^ 43) := Nat.mul_le_mul_right _ g3
        _ < (2 ^ 52 * 2 ^ b) * (2 ^ 53) := Nat.mul_lt_mul_of_pos_left (by decide) (Nat.mul_pos (by decide) (Nat.two_pow_pos _))
        _ = 2 ^ (105 + b) := by rw [Nat.mul_right_comm, ← Nat.pow_add, ← Nat.pow_add]
    have g6 : (m * (1000 * 2 ^ 43)).log2 + a < 105 + b := (Nat.pow_lt_pow_iff_right (by decide)).1 g5
    omega

/-- what math.Round makes of a word -/
def rnd (b : Nat) : Nat :=
  if bits .and .u64 (↑b / 4503599627370496) 2047 < 1023 then
    (if (bits .and .u64 (↑b / 4503599627370496) 2047 == 1022) = true then (bits .or .u64 (bits .and .u64 ↑b 9223372036854775808) 4607182418800017408).toNat
     else (bits .and .u64 ↑b 9223372036854775808).toNat)
  else if bits .and .u64 (↑b / 4503599627370496) 2047 < 1075 then
    (bits .andNot .u64 (IntKind.u64.wrap (↑b + 2251799813685248 / 2 ^ (bits .and .u64 (↑b / 4503599627370496) 2047 - 1023).toNat)) (4503599627370495 / 2 ^ (bits .and .u64 (↑b / 4503599627370496) 2047 - 1023).toNat)).toNat
  else b

theorem rnd_small (b : Nat) (hb : b < 18446744073709551616) (h : b % 2 ^ 63 ≤ 1073 * 2 ^ 52) : rnd b % 2 ^ 63 < 1075 * 2 ^ 52 := by
  have hs : bits .and .u64 (↑b) 9223372036854775808 = ((b / 2 ^ 63 % 2 * 2 ^ 63 : Nat) : Int) := by
    have e := u64_and_nat b 9223372036854775808 hb (by decide)
    rw [show (9223372036854775808 : Nat) = 2 ^ 63 from rfl, nat_bit] at e
    exact e
  have hz : b / 2 ^ 63 % 2 * 2 ^ 63 < 18446744073709551616 := by omega
  unfold rnd
  split
  · split
    · rw [hs]
      have e := u64_or_nat (b / 2 ^ 63 % 2 * 2 ^ 63) 4607182418800017408 hz (by decide)
      have e' : bits .or .u64 ((b / 2 ^ 63 % 2 * 2 ^ 63 : Nat) : Int) 4607182418800017408 = _ := e
      rw [e', Int.toNat_natCast, Nat.or_mod_two_pow, Nat.mul_mod_left, Nat.zero_or]
      decide
    · rw [hs, Int.toNat_natCast, Nat.mul_mod_left]
      decide
  · split
    · generalize (bits .and .u64 (↑b / 4503599627370496) 2047 - 1023).toNat = k
      have h1 : (2251799813685248 / 2 ^ k : Int) = ((2251799813685248 / 2 ^ k : Nat) : Int) := by rw [Int.natCast_ediv]; simp
      have h2 : (4503599627370495 / 2 ^ k : Int) = ((4503599627370495 / 2 ^ k : Nat) : Int) := by rw [Int.natCast_ediv]; simp
      have l1 : 2251799813685248 / 2 ^ k ≤ 2251799813685248 := Nat.div_le_self _ _
      have l2 : 4503599627370495 / 2 ^ k ≤ 4503599627370495 := Nat.div_le_self _ _
      rw [h1, h2]
      generalize 2251799813685248 / 2 ^ k = p at *
      generalize 4503599627370495 / 2 ^ k = q at *
      have h3 : IntKind.u64.wrap (↑b + ↑p) = ((b + p : Nat) : Int) := by
        rw [IntKind.wrap_u64]; omega
      rw [h3, u64_andNot_nat _ _ (by omega) (by omega), Int.toNat_natCast, Nat.and_mod_two_pow]
      refine Nat.lt_of_le_of_lt Nat.and_le_left ?_
      omega
    · omega
end Go.Proofs.Ytdinjpemofkdaaa.Flt
