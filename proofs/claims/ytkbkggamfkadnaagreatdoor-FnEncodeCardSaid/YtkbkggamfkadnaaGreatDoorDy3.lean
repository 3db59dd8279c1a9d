/-
  spec.Var of any bytes.
-/
import Derived.Test.YtkbkggamfkadnaaGreatDoorDyA
namespace Go.Proofs.YtkbkggamfkadnaaGreatDoor
set_option linter.unusedSimpArgs false
set_option linter.unusedVariables false
open Go.RowKit

/-- the number of the first k bytes, seven bits each -/
def pvl : List UInt8 → Nat → Nat
  | _, 0 => 0
  | [], _ + 1 => 0
  | b :: r, k + 1 => b.toNat % 128 + 128 * pvl r k
theorem pvl_snoc : ∀ (l : List UInt8) (k : Nat) (hk : k < l.length), pvl l (k + 1) = pvl l k + l[k].toNat % 128 * 128 ^ k
  | [], k, hk => by simp at hk
  | b :: r, 0, _ => by cases r <;> simp [pvl]
  | b :: r, k + 1, hk => by
    have ih := pvl_snoc r k (by simpa using hk)
    rw [pvl, ih, pvl, Nat.pow_succ]
    simp only [List.getElem_cons_succ]
    rw [Nat.mul_add, Nat.add_assoc]
    congr 2
    rw [Nat.mul_comm 128, Nat.mul_assoc]
theorem pvl_lt : ∀ (l : List UInt8) (k : Nat), pvl l k < 128 ^ k
  | _, 0 => by simp [pvl]
  | [], k + 1 => by simp [pvl]; exact Nat.pow_pos (by decide)
  | b :: r, k + 1 => by
    have ih := pvl_lt r k
    rw [pvl, Nat.pow_succ]
    omega
theorem uvar_at : ∀ (l : List UInt8) (k : Nat) (hk : k < l.length), (∀ j (hj : j < k), ¬ (l[j]'(by omega)).toNat < 128) → l[k].toNat < 128 → uvar l = (pvl l k + l[k].toNat * 128 ^ k, k + 1)
  | [], k, hk, _, _ => by simp at hk
  | b :: r, 0, _, _, h => by
    have h : b.toNat < 128 := h
    have e : pvl (b :: r) 0 = 0 := by cases r <;> rfl
    rw [uvar, if_pos h, e]
    simp
  | b :: r, k + 1, hk, h1, h2 => by
    have hb : ¬ b.toNat < 128 := h1 0 (by omega)
    have ih := uvar_at r k (by simpa using hk) (fun j hj => h1 (j + 1) (by omega)) h2
    rw [uvar, if_neg hb, ih]
    simp only [Nat.add_eq_zero_iff, Nat.one_ne_zero, and_false, if_false, List.getElem_cons_succ, pvl, Nat.pow_succ]
    refine Prod.ext ?_ rfl
    simp only
    rw [Nat.mul_add, Nat.add_assoc]
    congr 2
    rw [Nat.mul_comm 128, Nat.mul_assoc]
theorem uvar_none : ∀ (l : List UInt8), (∀ j (hj : j < l.length), ¬ l[j].toNat < 128) → uvar l = (0, 0)
  | [], _ => rfl
  | b :: r, h => by
    have hb : ¬ b.toNat < 128 := h 0 (by simp)
    have ih := uvar_none r (fun j hj => h (j + 1) (by simpa using hj))
    rw [uvar, if_neg hb, ih]
    simp
theorem or_add (a b k : Nat) (ha : a < 128 ^ k) : a ||| b * 128 ^ k = a + b * 128 ^ k := by
  have e : (128 : Nat) ^ k = 2 ^ (7 * k) := by rw [Nat.pow_mul]
  rw [e] at ha ⊢
  rw [Nat.or_comm, Nat.mul_comm b, ← Nat.two_pow_add_eq_or_of_lt ha, Nat.add_comm]

theorem or_step (P x k : Nat) (hP : P < 128 ^ k) (hx : P + x % 128 * 128 ^ k < 18446744073709551616) : bits .or .u64 (P : Int) (IntKind.u64.wrap ((x : Int) % 128 * 2 ^ (7 * k))) = ((P + x % 128 * 128 ^ k : Nat) : Int) := by
  have e : (x : Int) % 128 * 2 ^ (7 * k) = ((x % 128 * 128 ^ k : Nat) : Int) := by
    have : (128 : Nat) ^ k = 2 ^ (7 * k) := by rw [Nat.pow_mul]
    rw [this]
    simp
  have hw : IntKind.u64.wrap ((x % 128 * 128 ^ k : Nat) : Int) = ((x % 128 * 128 ^ k : Nat) : Int) := by
    rw [IntKind.wrap_u64]
    generalize x % 128 * 128 ^ k = y at *
    omega
  rw [e, hw, u64_or_nat P (x % 128 * 128 ^ k) (by omega) (by omega), or_add _ _ _ hP]
theorem uOk_small {l : List UInt8} {k : Nat} (hk : k < l.length) (h9 : k ≤ 9) (hall : ∀ j (hj : j < k) (hl : j < l.length), ¬ l[j].toNat < 128) (hx : l[k].toNat < 128) (hx9 : k = 9 → l[k].toNat ≤ 1) : uOk l = true ∧ (uvar (l.take 10)).1 = pvl l k + l[k].toNat * 128 ^ k ∧ (uvar (l.take 10)).2 = k + 1 := by
  have hl : k < (l.take 10).length := by rw [List.length_take]; omega
  have e := uvar_at (l.take 10) k hl (fun j hj => by rw [List.getElem_take]; exact hall j hj (by omega)) (by rw [List.getElem_take]; exact hx)
  rw [List.getElem_take] at e
  have ep : ∀ (l : List UInt8) (k n : Nat), k ≤ n → pvl (l.take n) k = pvl l k := by
    intro l
    induction l with
    | nil => intro k n _; simp
    | cons b r ih =>
      intro k n hkn
      cases k with
      | zero => cases n <;> simp [pvl]
      | succ k =>
        obtain ⟨n, rfl⟩ : ∃ m, n = m + 1 := ⟨n - 1, by omega⟩
        rw [List.take_succ_cons, pvl, pvl, ih k n (by omega)]
  rw [ep l k 10 (by omega)] at e
  refine ⟨?_, by rw [e], by rw [e]⟩
  unfold uOk
  rw [e]
  simp only [Nat.add_eq_zero_iff, Nat.one_ne_zero, and_false, not_false_eq_true, ne_eq, decide_true, Bool.true_and]
  by_cases h : k = 9
  · subst h
    have := hx9 rfl
    simp [List.getD_eq_getElem?_getD, hk]
    omega
  · have : ¬ k + 1 = 10 := by omega
    simp [this]
theorem uOk_big9 {l : List UInt8} (hk : 9 < l.length) (hall : ∀ j (hj : j < 9) (hl : j < l.length), ¬ l[j].toNat < 128) (hx : 1 < l[9].toNat) : uOk l = false := by
  by_cases hx2 : l[9].toNat < 128
  · have hl : 9 < (l.take 10).length := by rw [List.length_take]; omega
    have e := uvar_at (l.take 10) 9 hl (fun j hj => by rw [List.getElem_take]; exact hall j hj (by omega)) (by rw [List.getElem_take]; exact hx2)
    unfold uOk
    rw [e]
    simp [List.getD_eq_getElem?_getD, hk]
    omega
  · have e := uvar_none (l.take 10) (fun j hj => by
      rw [List.getElem_take]
      rw [List.length_take] at hj
      by_cases h : j < 9
      · exact hall j h (by omega)
      · obtain rfl : j = 9 := by omega
        exact hx2)
    unfold uOk
    rw [e]
    simp
theorem uOk_end {l : List UInt8} (hl : l.length ≤ 9) (hall : ∀ j (hj : j < l.length) (hl : j < l.length), ¬ l[j].toNat < 128) : uOk l = false := by
  have e := uvar_none (l.take 10) (fun j hj => by
    rw [List.getElem_take]
    rw [List.length_take] at hj
    exact hall j (by omega) (by omega))
  unfold uOk
  rw [e]
  simp

set_option maxRecDepth 100000 in
set_option maxHeartbeats 4000000 in
theorem specVar_any (v : Value) (l : List UInt8) (w : World) (h : Bytes w v l) (hl : l.length ≤ 2147483647) :
    Calls Tryz.prog 20 #[v] w (fun e w' => ∃ x u : Int, e = .returned (.tuple #[.int .u64 x, .int .i64 u]) ∧ w = w' ∧ (uOk l = true → x = ((uvar (l.take 10)).1 : Nat) ∧ u = ((uvar (l.take 10)).2 : Nat)) ∧ (uOk l = false → u ≤ 0)) := by
  obtain ⟨ao, cap, rfl, h1, h2⟩ := h.form
  go_enter Tryz.func20, Tryz.ntmps20
  go_wp2_with fail
  go_loop [4, 5] (fun n i => ∃ k : Nat, k ≤ l.length ∧ k ≤ 9 ∧ i = .int .i64 k ∧ n = .int .u64 (pvl l k : Nat) ∧ (∀ j (hj : j < k) (hl : j < l.length), ¬ l[j].toNat < 128)) (fun _ i => l.length - (intOf i).toNat)
  case atStart => exact ⟨0, Nat.zero_le _, Nat.zero_le _, rfl, by cases l <;> rfl, fun j hj => absurd hj (by omega)⟩
  case round => as_aux_lemma =>
    obtain ⟨k, hk, hk9, rfl, rfl, hall⟩ := hrel
    by_cases hlt : k < l.length
    · obtain ⟨b, off, rfl, hb, hc⟩ := h.at_ (by omega)
      have c0 := hc k hlt
      have ha := and127 l[k]
      have hbt := l[k].toNat_lt
      have q1 : (k : Int) < (l.length : Int) := by omega
      have q4 : (0 : Int) ≤ 7 * (k : Int) := by omega
      have q5 : 7 * (k : Int) ≤ 63 := by omega
      have hpl := pvl_lt l k
      by_cases hx : l[k].toNat < 128
      · by_cases hx1 : k = 9 → l[k].toNat ≤ 1
        · have hu := uOk_small hlt hk9 hall hx hx1
          have hlim : pvl l k + l[k].toNat % 128 * 128 ^ k < 18446744073709551616 := by
            have := uOk_lt hu.1
            rw [hu.2.1] at this
            rw [Nat.mod_eq_of_lt hx]
            exact this
          have hor := or_step (pvl l k) l[k].toNat k hpl hlim
          rw [Nat.mod_eq_of_lt hx] at hor
          have HU := Lib.hid hu
          have HO := Lib.hid hor
          have q6 : (l[k].toNat : Int) < 128 := by omega
          clear hc hall hu hor hlim hpl
          by_cases h9 : k = 9
          · have q7 := hx1 h9
            subst h9
            have q8 : decide ((1 : Int) < (l[9].toNat : Int)) = false := by simp; omega
            have HX : Hid (pvl l 9 + l[9].toNat * 128 ^ 9 = pvl l 9 + l[9].toNat * 128 ^ 9) := Lib.hid rfl
            clear hx1 hx q7
            go_wp2_with fail
            go_ret2
            refine ⟨_, _, rfl, rfl, fun _ => ⟨?_, ?_⟩, fun h => ?_⟩
            · rw [HU.out.2.1]; exact HO.out
            · rw [HU.out.2.2]; rfl
            · rw [HU.out.1] at h; cases h
          · have q2 : ((k : Int) == 9) = false := by rw [beq_eq_false_iff_ne]; omega
            have q3 : ¬ (9 : Int) < (k : Int) := by omega
            clear h9 hx1 hx
            go_wp2_with fail
            go_ret2
            refine ⟨_, _, rfl, rfl, fun _ => ⟨?_, ?_⟩, fun h => ?_⟩
            · rw [HU.out.2.1]; exact HO.out
            · rw [HU.out.2.2]; rfl
            · rw [HU.out.1] at h; cases h
        · have h9 : k = 9 := Classical.byContradiction fun h => hx1 (fun h2 => absurd h2 h)
          subst h9
          have hx2 : 1 < l[9].toNat := by
            rcases Nat.lt_or_ge 1 l[9].toNat with h | h
            · exact h
            · exact absurd (fun _ => h) hx1
          have HU := Lib.hid (uOk_big9 hlt hall hx2)
          have q8 : decide ((1 : Int) < (l[9].toNat : Int)) = true := by simp; omega
          clear hc hall hx1
          go_wp2_with fail
          go_ret2
          exact ⟨_, _, rfl, rfl, fun h => by rw [HU.out] at h; (cases h), fun _ => by decide⟩
      · by_cases h9 : k = 9
        · subst h9
          have HU := Lib.hid (uOk_big9 hlt hall (by omega))
          have q8 : decide ((1 : Int) < (l[9].toNat : Int)) = true := by simp; omega
          clear hc hall
          go_wp2_with fail
          go_ret2
          exact ⟨_, _, rfl, rfl, fun h => by rw [HU.out] at h; (cases h), fun _ => by decide⟩
        · have hps := pvl_snoc l k hlt
          have hpl2 := pvl_lt l (k + 1)
          have hlim : pvl l k + l[k].toNat % 128 * 128 ^ k < 18446744073709551616 := by
            rw [← hps]
            have : 128 ^ (k + 1) ≤ 128 ^ 9 := Nat.pow_le_pow_right (by decide) (by omega)
            omega
          have hor := or_step (pvl l k) l[k].toNat k hpl hlim
          rw [← hps] at hor
          have HO := Lib.hid hor
          have q2 : ((k : Int) == 9) = false := by rw [beq_eq_false_iff_ne]; omega
          have q3 : ¬ (9 : Int) < (k : Int) := by omega
          have q6 : ¬ (l[k].toNat : Int) < 128 := by omega
          have hall2 : ∀ j (hj : j < k + 1) (hl : j < l.length), ¬ l[j].toNat < 128 := fun j hj hl => by
            by_cases h : j < k
            · exact hall j h hl
            · obtain rfl : j = k := by omega
              exact hx
          have HA := Lib.hid hall2
          clear hc hall hor hlim hpl hps hpl2 hall2 hx
          go_wp2_with fail
          go_round
          case rel => exact ⟨k + 1, by omega, by omega, by go_num, by rw [HO.out], HA.out⟩
          case measure => simp [intOf]; omega
    · obtain rfl : k = l.length := by omega
      have HU := Lib.hid (uOk_end hk9 hall)
      clear hall
      go_wp2_with fail
      go_ret2
      exact ⟨_, _, rfl, rfl, fun h => by rw [HU.out] at h; (cases h), fun _ => Int.le_refl 0⟩
end Go.Proofs.YtkbkggamfkadnaaGreatDoor
