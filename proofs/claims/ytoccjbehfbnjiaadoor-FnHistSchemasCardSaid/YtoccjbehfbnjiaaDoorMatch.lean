/-
  Bounds that match, bit by bit.
-/
import Derived.Test.YtoccjbehfbnjiaaDoorAlive
namespace Go.Proofs.YtoccjbehfbnjiaaDoor
open Go.RowKit
attribute [local go_sem ↓] Go.wp_at_zero Go.wp_at_succ

theorem run61 (n : Nat) (w : World) : (callFunc 61 #[.float .f64 n]).run Tryd.prog w = .ok (.value (.int .u64 n)) w :=
  run_callFunc_extern (e := Extern.MathFloatBits.float64bits) Tryd.func61 (by kernel_rfl) (by kernel_rfl) (by kernel_rfl) (by kernel_rfl) _ w

theorem ne_of_get {a b : List Nat} {k : Nat} (h1 : k < a.length) (h2 : k < b.length) (h : a[k] ≠ b[k]) : decide (a = b) = false := by
  rw [decide_eq_false_iff_not]
  intro e
  subst e
  exact h rfl
theorem eq_of_get {a b : List Nat} (hl : a.length = b.length) (h : ∀ j (h1 : j < a.length) (h2 : j < b.length), a[j] = b[j]) : decide (a = b) = true := by
  rw [decide_eq_true_iff]
  exact List.ext_getElem hl h

set_option maxRecDepth 100000 in
set_option maxHeartbeats 4000000 in
theorem sameBits_any (va vb : Value) (a b : List Nat) (B : Nat) (w : World) (ha : Ints w B .u64 va (a.map Int.ofNat)) (hb : Ints w B .u64 vb (b.map Int.ofNat)) (hal : a.length ≤ 2147483647) (hbl : b.length ≤ 2147483647) :
    Calls Tryd.prog 16 #[va, vb] w fun e w' => e = .returned (.bool (decide (a = b))) ∧ Below w.heap.size w w' := by
  obtain ⟨ao, cap, rfl, h1, h2⟩ := ha.form
  obtain ⟨bo, bcap, rfl, g1, g2⟩ := hb.form
  rw [List.length_map] at *
  go_enter Tryd.func16, Tryd.ntmps16
  by_cases hl : a.length = b.length
  · have hlb : ((a.length : Int) != b.length) = false := by simp [hl]
    have HL := Lib.hid hl
    clear hl
    go_wp2
    go_loopw [5] (fun i wr => ∃ k : Nat, k ≤ a.length ∧ i = .int .i64 k ∧ (∀ j (h1 : j < a.length) (h2 : j < b.length), j < k → a[j] = b[j]) ∧ Below w.heap.size w wr) (fun i _ => a.length - (intOf i).toNat)
    case atStart => exact ⟨0, Nat.zero_le _, rfl, fun j _ _ hj => absurd hj (by omega), Below.refl _ _⟩
    case round =>
      obtain ⟨k, hk, rfl, heq, hbel⟩ := hrel
      by_cases hlt : k < a.length
      · have hlt2 : k < b.length := by have := HL.out; omega
        obtain ⟨x, xo, rfl, hx1, hx2, hxc⟩ := ha.at_ (by simp; omega)
        obtain ⟨y, yo, rfl, hy1, hy2, hyc⟩ := hb.at_ (by simp; omega)
        have c0 := (hbel.cell (p := ⟨x, xo + k, none⟩) (show x < w.heap.size by omega)).trans (hxc k (by simpa using hlt))
        have c1 := (hbel.cell (p := ⟨y, yo + k, none⟩) (show y < w.heap.size by omega)).trans (hyc k (by simpa using hlt2))
        rw [List.getElem_map] at c0 c1
        have hne : a[k] ≠ b[k] → decide (a = b) = false := ne_of_get hlt hlt2
        have heq' : a[k] = b[k] → ∀ j (h1 : j < a.length) (h2 : j < b.length), j < k + 1 → a[j] = b[j] := by
          intro e j h1 h2 hj
          by_cases hjk : j = k
          · subst hjk; exact e
          · exact heq j h1 h2 (by omega)
        have HN := Lib.hid hne
        have HE := Lib.hid heq'
        clear hne heq' heq hxc hyc ha hb
        generalize a[k] = p at *
        generalize b[k] = q at *
        change _ = some (Value.int .u64 (p : Int)) at c0
        change _ = some (Value.int .u64 (q : Int)) at c1
        have i0 : (0 : Int) ≤ (k : Int) := by omega
        have i1 : (k : Int) < (a.length : Int) := by omega
        have i2 : (k : Int) < (b.length : Int) := by omega
        by_cases hpq : p = q
        · have hpb : ((p : Int) != q) = false := by simp [hpq]
          have HP := Lib.hid hpq
          clear hpq
          go_wp2_with fail
          go_region_held3 (fun w' => w'.cell? ⟨x, xo + k, none⟩ = some (.int .u64 p) ∧ w'.cell? ⟨y, yo + k, none⟩ = some (.int .u64 q)) (go_keep) (fail)
          go_wp2
          go_roundw
          case rel => exact ⟨k + 1, by omega, by simp, HE.out HP.out, hbel.drew⟩
          case measure => simp [intOf]; omega
        · have hpb : ((p : Int) != q) = true := by simp; omega
          have HP := Lib.hid hpq
          clear hpq
          go_wp2_with fail
          go_region_held3 (fun w' => w'.cell? ⟨x, xo + k, none⟩ = some (.int .u64 p) ∧ w'.cell? ⟨y, yo + k, none⟩ = some (.int .u64 q)) (go_keep) (fail)
          go_wp2
          go_ret
          exact ⟨by rw [HN.out HP.out]; rfl, hbel.drew⟩
      · have hkl : k = a.length := by omega
        subst hkl
        go_wp2
        go_ret
        exact ⟨by rw [eq_of_get HL.out (fun j h1 h2 => heq j h1 h2 h1)]; rfl, hbel⟩
  · have hlb : ((a.length : Int) != b.length) = true := by simp; omega
    go_wp2
    go_ret
    have : decide (a = b) = false := by rw [decide_eq_false_iff_not]; intro e; exact hl (by rw [e])
    exact ⟨by rw [this]; rfl, Below.refl _ _⟩

set_option maxRecDepth 100000 in
set_option maxHeartbeats 4000000 in
theorem floatsMatch_any (va vb : Value) (a b : List Nat) (B : Nat) (w : World) (ha : Floats w B va a) (hb : Floats w B vb b) (hal : a.length ≤ 2147483647) (hbl : b.length ≤ 2147483647) :
    Calls Tryd.prog 41 #[va, vb] w fun e w' => e = .returned (.bool (decide (a = b))) ∧ Below w.heap.size w w' := by
  have hx61 := run61
  obtain ⟨ao, cap, rfl, h1, h2⟩ := ha.form
  obtain ⟨bo, bcap, rfl, g1, g2⟩ := hb.form
  go_enter Tryd.func41, Tryd.ntmps41
  by_cases hl : a.length = b.length
  · have hlb : ((a.length : Int) != b.length) = false := by simp [hl]
    have HL := Lib.hid hl
    clear hl
    go_wp2
    go_loopw [14] (fun i wr => ∃ k : Nat, k ≤ a.length ∧ i = .int .i64 k ∧ (∀ j (h1 : j < a.length) (h2 : j < b.length), j < k → a[j] = b[j]) ∧ Below w.heap.size w wr) (fun i _ => a.length - (intOf i).toNat)
    case atStart => exact ⟨0, Nat.zero_le _, rfl, fun j _ _ hj => absurd hj (by omega), Below.refl _ _⟩
    case round =>
      obtain ⟨k, hk, rfl, heq, hbel⟩ := hrel
      by_cases hlt : k < a.length
      · have hlt2 : k < b.length := by have := HL.out; omega
        obtain ⟨x, xo, rfl, hx1, hx2, hxc⟩ := ha.at_ (by omega)
        obtain ⟨y, yo, rfl, hy1, hy2, hyc⟩ := hb.at_ (by omega)
        have c0 := (hbel.cell (p := ⟨x, xo + k, none⟩) (show x < w.heap.size by omega)).trans (hxc k hlt)
        have c1 := (hbel.cell (p := ⟨y, yo + k, none⟩) (show y < w.heap.size by omega)).trans (hyc k hlt2)
        have hne : a[k] ≠ b[k] → decide (a = b) = false := ne_of_get hlt hlt2
        have heq' : a[k] = b[k] → ∀ j (h1 : j < a.length) (h2 : j < b.length), j < k + 1 → a[j] = b[j] := by
          intro e j h1 h2 hj
          by_cases hjk : j = k
          · subst hjk; exact e
          · exact heq j h1 h2 (by omega)
        have HN := Lib.hid hne
        have HE := Lib.hid heq'
        clear hne heq' heq hxc hyc ha hb
        generalize a[k] = p at *
        generalize b[k] = q at *
        have i0 : (0 : Int) ≤ (k : Int) := by omega
        have i1 : (k : Int) < (a.length : Int) := by omega
        have i2 : (k : Int) < (b.length : Int) := by omega
        by_cases hpq : p = q
        · have hpb : ((p : Int) != q) = false := by simp [hpq]
          have HP := Lib.hid hpq
          clear hpq
          go_wp2_with fail
          go_region_held3 (fun w' => w'.cell? ⟨x, xo + k, none⟩ = some (.float .f64 p) ∧ w'.cell? ⟨y, yo + k, none⟩ = some (.float .f64 q)) (go_keep) (fail)
          go_wp2
          go_roundw
          case rel => exact ⟨k + 1, by omega, by simp, HE.out HP.out, hbel.drew⟩
          case measure => simp [intOf]; omega
        · have hpb : ((p : Int) != q) = true := by simp; omega
          have HP := Lib.hid hpq
          clear hpq
          go_wp2_with fail
          go_region_held3 (fun w' => w'.cell? ⟨x, xo + k, none⟩ = some (.float .f64 p) ∧ w'.cell? ⟨y, yo + k, none⟩ = some (.float .f64 q)) (go_keep) (fail)
          go_wp2
          go_ret
          exact ⟨by rw [HN.out HP.out]; rfl, hbel.drew⟩
      · have hkl : k = a.length := by omega
        subst hkl
        go_wp2
        go_ret
        exact ⟨by rw [eq_of_get HL.out (fun j h1 h2 => heq j h1 h2 h1)]; rfl, hbel⟩
  · have hlb : ((a.length : Int) != b.length) = true := by simp; omega
    go_wp2
    go_ret
    have : decide (a = b) = false := by rw [decide_eq_false_iff_not]; intro e; exact hl (by rw [e])
    exact ⟨by rw [this]; rfl, Below.refl _ _⟩

theorem boundsMatch_any (va vb : Value) (a b : List Nat) (w : World) (ha : Ints w w.heap.size .u64 va (a.map Int.ofNat)) (hb : Ints w w.heap.size .u64 vb (b.map Int.ofNat)) (hal : a.length ≤ 2147483647) (hbl : b.length ≤ 2147483647) :
    Calls Tryd.prog 15 #[va, vb] w fun e w' => e = .returned (.bool (decide (a = b))) ∧ Below w.heap.size w w' := by
  go_enter Tryd.func15, Tryd.ntmps15
  go_wp2_with fail
  refine (floats_any va a w.heap.size w ha hal).mono ?_
  rintro e w1 ⟨x1, rfl, ho1, hb1, hn1⟩
  go_wp2_with fail
  refine (floats_any vb b w.heap.size w1 (hb.below hb1 (Nat.le_refl _)) hbl).mono ?_
  rintro e w2 ⟨x2, rfl, ho2, hb2, hn2⟩
  go_wp2_with fail
  have hA := (OwnIn.made ho1 hb1.size).below hb2 (Nat.le_refl _)
  refine (floatsMatch_any x1 x2 a b w2.heap.size w2 hA.floats (OwnIn.made ho2 hb2.size).floats hal hbl).mono ?_
  rintro e w3 ⟨rfl, hb3⟩
  go_wp2_with fail
  go_ret
  have hB2 := hb1.trans (hb2.mono hb1.size)
  exact ⟨rfl, hB2.trans (hb3.mono hB2.size)⟩

theorem kinds_any (s : Int) (w : World) : Calls Tryd.prog 14 #[.int .i32 s] w fun e w' => e = .returned (.tuple #[.bool (s == -53), .bool (decide (-4 ≤ s) && decide (s ≤ 8))]) ∧ w = w' := by
  go_enter Tryd.func14, Tryd.ntmps14
  by_cases h4 : -4 ≤ s
  · by_cases h8 : s ≤ 8
    · go_wp2
      go_ret2
      all_goals simp [h4, h8]
    · go_wp2
      go_ret2
      all_goals simp [h8]
  · go_wp2
    go_ret2
    all_goals (try simp)
    all_goals omega
end Go.Proofs.YtoccjbehfbnjiaaDoor
