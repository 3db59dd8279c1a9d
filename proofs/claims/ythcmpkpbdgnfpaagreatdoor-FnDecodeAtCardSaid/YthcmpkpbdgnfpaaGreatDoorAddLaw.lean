/-
  Plain law: Add covers what the intervals and the new one cover.
-/
import Derived.Test.YthcmpkpbdgnfpaaGreatDoorAdd6
namespace Go.Proofs.YthcmpkpbdgnfpaaGreatDoor
set_option linter.unusedSimpArgs false
set_option linter.unusedVariables false

def coverL : List (Int × Int) → Int → Int → List (Int × Int)
  | [], a, b => [(a, b)]
  | y :: l, a, b => if y.2 < a - 1 then y :: coverL l a b else if b + 1 < y.1 then (a, b) :: y :: l else coverL l (min a y.1) (max b y.2)

def mR : List (Int × Int) → Int → Nat
  | [], _ => 0
  | y :: l, a => if y.2 < a - 1 then mR l a + 1 else 0
def kR : List (Int × Int) → Int → Nat
  | [], _ => 0
  | y :: l, b => if b + 1 < y.1 then 0 else kR l b + 1

theorem countP_getD {α : Type} (d : α) (f : α → Bool) : ∀ l : List α, (List.range l.length).countP (fun i => f (l.getD i d)) = l.countP f
  | [] => rfl
  | x :: l => by
    rw [List.length_cons, List.range_succ_eq_map, List.countP_cons, List.countP_map, List.countP_cons]
    have := countP_getD d f l
    rw [← this]
    rfl
theorem cLo_eq (l : List (Int × Int)) (a : Int) : cLo l a = l.countP fun y => decide (y.2 < a - 1) := by
  rw [← countP_getD (0, 0)]
  unfold cLo pLo
  congr 1
  funext i
  rw [Bool.eq_iff_iff]
  simp
theorem cHi_eq (l : List (Int × Int)) (b : Int) (m : Nat) : cHi l b m = (l.drop m).countP fun y => !decide (b + 1 < y.1) := by
  rw [← countP_getD (0, 0)]
  unfold cHi pHi
  rw [List.length_drop]
  congr 1
  funext i
  simp [List.getD_eq_getElem?_getD]
theorem mR_eq : ∀ {l : List (Int × Int)}, Rise l → ∀ a, (l.countP fun y => decide (y.2 < a - 1)) = mR l a
  | [], _, _ => rfl
  | y :: l, h, a => by
    rw [List.countP_cons, mR]
    by_cases hy : y.2 < a - 1
    · rw [if_pos hy, mR_eq h.2.2.2.2 a]
      simp [hy]
    · rw [if_neg hy]
      have : (l.countP fun y => decide (y.2 < a - 1)) = 0 := by
        rw [List.countP_eq_zero]
        intro z hz
        have h1 := h.2.2.2.1 z hz
        obtain ⟨i, hi, rfl⟩ := List.getElem_of_mem hz
        have h2 := (h.2.2.2.2.at_ i hi).1
        simp
        omega
      rw [this]
      simp [hy]
theorem kR_eq : ∀ {l : List (Int × Int)}, Rise l → ∀ b, (l.countP fun y => !decide (b + 1 < y.1)) = kR l b
  | [], _, _ => rfl
  | y :: l, h, b => by
    rw [List.countP_cons, kR]
    by_cases hy : b + 1 < y.1
    · rw [if_pos hy]
      have : (l.countP fun y => !decide (b + 1 < y.1)) = 0 := by
        rw [List.countP_eq_zero]
        intro z hz
        have h1 := h.2.2.2.1 z hz
        have h2 := h.1
        simp
        omega
      rw [this]
      simp [hy]
    · rw [if_neg hy, kR_eq h.2.2.2.2 b]
      simp [hy]
theorem Rise.drop : ∀ {l : List (Int × Int)}, Rise l → ∀ m, Rise (l.drop m)
  | [], _, m => by simp [Rise]
  | x :: l, h, 0 => h
  | x :: l, h, m + 1 => Rise.drop h.2.2.2.2 m
theorem mOf_eq {l : List (Int × Int)} (h : Rise l) (a : Int) : mOf l a = mR l a := by
  unfold mOf
  split
  · rename_i e
    subst e
    cases l with
    | nil => rfl
    | cons y l =>
      rw [mR, if_neg]
      have := h.1
      have := h.2.1
      omega
  · rw [cLo_eq, mR_eq h]
theorem cHi_kR {l : List (Int × Int)} (h : Rise l) (b : Int) (m : Nat) : cHi l b m = kR (l.drop m) b := by rw [cHi_eq, kR_eq (h.drop m)]

/-- joined with the first ones -/
theorem cover_join : ∀ (l : List (Int × Int)) (a b : Int), Rise l → (∀ y ∈ l, a - 1 ≤ y.2) → a ≤ b →
    coverL l a b = if kR l b = 0 then (a, b) :: l else (min a (l.getD 0 (0, 0)).1, max b (l.getD (kR l b - 1) (0, 0)).2) :: l.drop (kR l b)
  | [], a, b, _, _, _ => by simp [coverL, kR]
  | y :: l, a, b, h, hy, hab => by
    have h0 := hy y (by simp)
    rw [coverL, if_neg (by omega), kR]
    by_cases hb : b + 1 < y.1
    · rw [if_pos hb, if_pos hb]
      simp
    · rw [if_neg hb, if_neg hb, if_neg (by omega)]
      have hyy := h.1
      have ih := cover_join l (min a y.1) (max b y.2) h.2.2.2.2 (fun z hz => by
        have h1 := h.2.2.2.1 z hz
        obtain ⟨i, hi, rfl⟩ := List.getElem_of_mem hz
        have h2 := (h.2.2.2.2.at_ i hi).1
        omega) (by omega)
      rw [ih]
      have hk : kR l (max b y.2) = kR l b := by
        cases l with
        | nil => rfl
        | cons z l =>
          have h1 := h.2.2.2.1 z (by simp)
          by_cases hz : b + 1 < z.1
          · rw [kR, kR, if_pos hz, if_pos (by omega)]
          · have : max b y.2 = b := by omega
            rw [this]
      rw [hk]
      cases hkr : kR l b with
      | zero => simp
      | succ k =>
        rw [if_neg (by omega)]
        have hkl : k < l.length := by
          have : kR l b ≤ l.length := by
            rw [← kR_eq h.2.2.2.2]
            exact List.countP_le_length
          omega
        have e1 : k + 1 + 1 - 1 = k + 1 := by omega
        have e2 : k + 1 - 1 = k := by omega
        rw [e1, e2]
        simp only [List.getD_cons_zero, List.getD_cons_succ, List.drop_succ_cons]
        congr 1
        have h3 := h.2.2.2.1 _ (List.getElem_mem (show 0 < l.length by omega))
        rw [getD_at (show 0 < l.length by omega), getD_at hkl]
        have h4 := h.2.2.2.1 _ (List.getElem_mem hkl)
        have h5 := (h.2.2.2.2.at_ k hkl).1
        congr 1 <;> omega
theorem addL_cover : ∀ (l : List (Int × Int)) (a b : Int), Rise l → a ≤ b → addL l a b = coverL l a b := by
  intro l a b h hab
  unfold addL
  rw [mOf_eq h, cHi_kR h]
  induction l with
  | nil => simp [mR, coverL]
  | cons y l ih =>
    by_cases hy : y.2 < a - 1
    · have := ih h.2.2.2.2
      rw [coverL, if_pos hy, ← this]
      have em : mR (y :: l) a = mR l a + 1 := by rw [mR, if_pos hy]
      rw [em]
      simp only [List.length_cons, Nat.add_right_cancel_iff, List.drop_succ_cons, List.take_succ_cons, List.getD_cons_succ]
      split
      · simp
      · split
        · simp
        · rename_i hk
          have e1 : mR l a + 1 + kR (l.drop (mR l a)) b - 1 = mR l a + kR (l.drop (mR l a)) b - 1 + 1 := by omega
          have e2 : mR l a + 1 + kR (l.drop (mR l a)) b = mR l a + kR (l.drop (mR l a)) b + 1 := by omega
          rw [e1, e2]
          simp
    · have em : mR (y :: l) a = 0 := by rw [mR, if_neg hy]
      rw [em, if_neg (by simp), cover_join (y :: l) a b h (fun z hz => by
        rcases List.mem_cons.1 hz with rfl | hz
        · omega
        · have h1 := h.2.2.2.1 z hz
          obtain ⟨i, hi, rfl⟩ := List.getElem_of_mem hz
          have h2 := (h.2.2.2.2.at_ i hi).1
          have h0 := h.1
          omega) hab]
      simp only [List.drop_zero, List.take_zero, List.nil_append, Nat.zero_add, List.singleton_append]
/-- and these rise, too -/
theorem cover_above : ∀ (l : List (Int × Int)) (a b c : Int), c < a → (∀ y ∈ l, c < y.1) → ∀ z ∈ coverL l a b, c < z.1
  | [], a, b, c, ha, _, z, hz => by
    simp [coverL] at hz
    subst hz
    exact ha
  | y :: l, a, b, c, ha, hy, z, hz => by
    have h0 := hy y (by simp)
    have hy' : ∀ y ∈ l, c < y.1 := fun y h => hy y (by simp [h])
    rw [coverL] at hz
    split at hz
    · rcases List.mem_cons.1 hz with rfl | hz
      · exact h0
      · exact cover_above l a b c ha hy' z hz
    · split at hz
      · rcases List.mem_cons.1 hz with rfl | hz
        · exact ha
        · exact hy z hz
      · exact cover_above l _ _ c (by omega) hy' z hz
theorem cover_rise : ∀ (l : List (Int × Int)) (a b : Int), Rise l → a ≤ b → -9223372036854775808 ≤ a → b < 9223372036854775807 → Rise (coverL l a b)
  | [], a, b, _, hab, ha, hb => by
    simp [coverL, Rise]
    omega
  | y :: l, a, b, h, hab, ha, hb => by
    have h1 := h.1
    have h2 := h.2.1
    have h3 := h.2.2.1
    have h4 := h.2.2.2.1
    rw [coverL]
    split
    · exact ⟨h1, h2, h3, fun z hz => cover_above l a b _ (by omega) h4 z hz, cover_rise l a b h.2.2.2.2 hab ha hb⟩
    · split
      · refine ⟨hab, ha, hb, fun z hz => ?_, h⟩
        rcases List.mem_cons.1 hz with rfl | hz
        · assumption
        · have := h4 z hz
          show b + 1 < z.1
          omega
      · exact cover_rise l _ _ h.2.2.2.2 (by omega) (by omega) (by omega)
theorem cover_len : ∀ (l : List (Int × Int)) (a b : Int), (coverL l a b).length ≤ l.length + 1
  | [], a, b => by simp [coverL]
  | y :: l, a, b => by
    rw [coverL]
    split
    · simp only [List.length_cons]; have := cover_len l a b; omega
    · split
      · simp
      · have := cover_len l (min a y.1) (max b y.2); simp only [List.length_cons]; omega

/-- one behind the other -/
def covers (l : List (Int × Int)) : List (Int × Int) := l.foldl (fun acc x => coverL acc x.1 x.2) []
def RealL (l : List (Int × Int)) : Prop := ∀ x ∈ l, x.1 ≤ x.2 ∧ -9223372036854775808 ≤ x.1 ∧ x.2 < 9223372036854775807
theorem covers_snoc (l : List (Int × Int)) (x : Int × Int) : covers (l ++ [x]) = coverL (covers l) x.1 x.2 := by simp [covers]
theorem covers_rise (l : List (Int × Int)) (h : RealL l) : Rise (covers l) ∧ (covers l).length ≤ l.length := by
  have : ∀ n, n ≤ l.length → Rise (covers (l.take n)) ∧ (covers (l.take n)).length ≤ n := by
    intro n
    induction n with
    | zero => intro _; simp [covers, Rise]
    | succ n ih =>
      intro hn
      obtain ⟨h1, h2⟩ := ih (by omega)
      rw [take_next (show n < l.length by omega), covers_snoc]
      obtain ⟨g1, g2, g3⟩ := h _ (List.getElem_mem (show n < l.length by omega))
      refine ⟨cover_rise _ _ _ h1 g1 g2 g3, ?_⟩
      have := cover_len (covers (l.take n)) l[n].1 l[n].2
      omega
  have h0 := this l.length (Nat.le_refl _)
  rwa [List.take_length] at h0
end Go.Proofs.YthcmpkpbdgnfpaaGreatDoor
