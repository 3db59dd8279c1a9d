/-
  Words of floats that are the same, bit by bit.
-/
import Derived.Test.YtbgkoapnejnfbaaDoorLib
import Derived.Test.YtbgkoapnejnfbaaDoorWhole
namespace Go.Proofs.YtbgkoapnejnfbaaDoor
set_option linter.unusedSimpArgs false
set_option linter.unusedVariables false
open Go.RowKit
attribute [local go_sem ↓] Go.wp_at_zero Go.wp_at_succ

theorem run61 (n : Nat) (w : World) : (callFunc 54 #[.float .f64 n]).run Tryd.prog w = .ok (.value (.int .u64 n)) w :=
  run_callFunc_extern (e := Extern.MathFloatBits.float64bits) Tryd.func54 (by kernel_rfl) (by kernel_rfl) (by kernel_rfl) (by kernel_rfl) _ w

theorem ne_of_get {a b : List Nat} {k : Nat} (h1 : k < a.length) (h2 : k < b.length) (h : a[k] ≠ b[k]) : decide (a = b) = false := by
  rw [decide_eq_false_iff_not]
  intro e
  subst e
  exact h rfl
theorem eq_of_get {a b : List Nat} (hl : a.length = b.length) (h : ∀ j (h1 : j < a.length) (h2 : j < b.length), a[j] = b[j]) : decide (a = b) = true := by
  rw [decide_eq_true_iff]
  exact List.ext_getElem hl h

set_option maxRecDepth 100000 in
set_option maxHeartbeats 4000000 in
theorem sameBits_any (va vb : Value) (a b : List Nat) (B : Nat) (w : World) (ha : Ints w B .u64 va (a.map Int.ofNat)) (hb : Ints w B .u64 vb (b.map Int.ofNat)) (hal : a.length ≤ 2147483647) (hbl : b.length ≤ 2147483647) :
    Calls Tryd.prog 51 #[va, vb] w fun e w' => e = .returned (.bool (decide (a = b))) ∧ Below w.heap.size w w' := by
  obtain ⟨ao, cap, rfl, h1, h2⟩ := ha.form
  obtain ⟨bo, bcap, rfl, g1, g2⟩ := hb.form
  rw [List.length_map] at *
  go_enter Tryd.func51, Tryd.ntmps51
  by_cases hl : a.length = b.length
  · have hlb : ((a.length : Int) != b.length) = false := by simp [hl]
    have HL := Lib.hid hl
    clear hl
    go_wp2
    go_loopw [5] (fun i wr => ∃ k : Nat, k ≤ a.length ∧ i = .int .i64 k ∧ (∀ j (h1 : j < a.length) (h2 : j < b.length), j < k → a[j] = b[j]) ∧ Below w.heap.size w wr) (fun i _ => a.length - (intOf i).toNat)
    case atStart => exact ⟨0, Nat.zero_le _, rfl, fun j _ _ hj => absurd hj (by omega), Below.refl _ _⟩
    case round =>
      obtain ⟨k, hk, rfl, heq, hbel⟩ := hrel
      by_cases hlt : k < a.length
      · have hlt2 : k < b.length := by have := HL.out; omega
        obtain ⟨x, xo, rfl, hx1, hx2, hxc⟩ := ha.at_ (by simp; omega)
        obtain ⟨y, yo, rfl, hy1, hy2, hyc⟩ := hb.at_ (by simp; omega)
        have c0 := (hbel.cell (p := ⟨x, xo + k, none⟩) (show x < w.heap.size by omega)).trans (hxc k (by simpa using hlt))
        have c1 := (hbel.cell (p := ⟨y, yo + k, none⟩) (show y < w.heap.size by omega)).trans (hyc k (by simpa using hlt2))
        rw [List.getElem_map] at c0 c1
        have hne : a[k] ≠ b[k] → decide (a = b) = false := ne_of_get hlt hlt2
        have heq' : a[k] = b[k] → ∀ j (h1 : j < a.length) (h2 : j < b.length), j < k + 1 → a[j] = b[j] := by
          intro e j h1 h2 hj
          by_cases hjk : j = k
          · subst hjk; exact e
          · exact heq j h1 h2 (by omega)
        have HN := Lib.hid hne
        have HE := Lib.hid heq'
        clear hne heq' heq hxc hyc ha hb
        generalize a[k] = p at *
        generalize b[k] = q at *
        change _ = some (Value.int .u64 (p : Int)) at c0
        change _ = some (Value.int .u64 (q : Int)) at c1
        have i0 : (0 : Int) ≤ (k : Int) := by omega
        have i1 : (k : Int) < (a.length : Int) := by omega
        have i2 : (k : Int) < (b.length : Int) := by omega
        by_cases hpq : p = q
        · have hpb : ((p : Int) != q) = false := by simp [hpq]
          have HP := Lib.hid hpq
          clear hpq
          go_wp2_with fail
          go_region_held3 (fun w' => w'.cell? ⟨x, xo + k, none⟩ = some (.int .u64 p) ∧ w'.cell? ⟨y, yo + k, none⟩ = some (.int .u64 q)) (go_keep) (fail)
          go_wp2
          go_roundw
          case rel => exact ⟨k + 1, by omega, by simp, HE.out HP.out, hbel.drew⟩
          case measure => simp [intOf]; omega
        · have hpb : ((p : Int) != q) = true := by simp; omega
          have HP := Lib.hid hpq
          clear hpq
          go_wp2_with fail
          go_region_held3 (fun w' => w'.cell? ⟨x, xo + k, none⟩ = some (.int .u64 p) ∧ w'.cell? ⟨y, yo + k, none⟩ = some (.int .u64 q)) (go_keep) (fail)
          go_wp2
          go_ret
          exact ⟨by rw [HN.out HP.out]; rfl, hbel.drew⟩
      · have hkl : k = a.length := by omega
        subst hkl
        go_wp2
        go_ret
        exact ⟨by rw [eq_of_get HL.out (fun j h1 h2 => heq j h1 h2 h1)]; rfl, hbel⟩
  · have hlb : ((a.length : Int) != b.length) = true := by simp; omega
    go_wp2
    go_ret
    have : decide (a = b) = false := by rw [decide_eq_false_iff_not]; intro e; exact hl (by rw [e])
    exact ⟨by rw [this]; rfl, Below.refl _ _⟩

end Go.Proofs.YtbgkoapnejnfbaaDoor
