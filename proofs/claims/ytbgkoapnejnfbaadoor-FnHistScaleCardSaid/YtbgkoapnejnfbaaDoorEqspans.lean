/-
  Spans, buckets, histograms that are the same are told to be the same.
-/
import Derived.Test.YtbgkoapnejnfbaaDoorOpen
import Derived.Test.YtbgkoapnejnfbaaDoorSame
import Derived.Laws.StructEq
namespace Go.Proofs.YtbgkoapnejnfbaaDoor
set_option linter.unusedSimpArgs false
set_option linter.unusedVariables false
open Go.RowKit
attribute [local go_sem ↓] Go.wp_at_zero Go.wp_at_succ

set_option maxRecDepth 100000 in
set_option maxHeartbeats 4000000 in
theorem sameSpans_eq (va vb : Value) (l : List (Int × Int)) (B : Nat) (w : World) (ha : Pairs w B .i32 .u32 va l) (hb : Pairs w B .i32 .u32 vb l) (hl : l.length ≤ 2147483647) :
    Calls Tryd.prog 44 #[va, vb] w fun e w' => e = .returned (.bool true) ∧ Below w.heap.size w w' := by
  obtain ⟨ao, cap, rfl, h1, h2⟩ := ha.form
  obtain ⟨bo, bcap, rfl, g1, g2⟩ := hb.form
  go_enter Tryd.func44, Tryd.ntmps44
  go_wp2
  go_loopw [5] (fun i wr => ∃ k : Nat, k ≤ l.length ∧ i = .int .i64 k ∧ Below w.heap.size w wr) (fun i _ => l.length - (intOf i).toNat)
  case atStart => exact ⟨0, Nat.zero_le _, rfl, Below.refl _ _⟩
  case round =>
    obtain ⟨k, hk, rfl, hbel⟩ := hrel
    by_cases hlt : k < l.length
    · obtain ⟨x, xo, rfl, hx1, hx2, hxc⟩ := ha.at_ (by omega)
      obtain ⟨y, yo, rfl, hy1, hy2, hyc⟩ := hb.at_ (by omega)
      have c0 := (hbel.cell (p := ⟨x, xo + k * 2, none⟩) (show x < w.heap.size by omega)).trans (hxc k hlt).1
      have c1 := (hbel.cell (p := ⟨x, xo + k * 2 + 1, none⟩) (show x < w.heap.size by omega)).trans (hxc k hlt).2
      have c2 := (hbel.cell (p := ⟨y, yo + k * 2, none⟩) (show y < w.heap.size by omega)).trans (hyc k hlt).1
      have c3 := (hbel.cell (p := ⟨y, yo + k * 2 + 1, none⟩) (show y < w.heap.size by omega)).trans (hyc k hlt).2
      clear hxc hyc ha hb
      generalize l[k] = q at *
      obtain ⟨q0, q1⟩ := q
      have i0 : (0 : Int) ≤ (k : Int) := by omega
      have i1 : (k : Int) < (l.length : Int) := by omega
      go_wp2_with fail
      go_region_held3 (fun w' => w'.cell? ⟨x, xo + k * 2, none⟩ = some (.int .i32 q0) ∧ w'.cell? ⟨x, xo + k * 2 + 1, none⟩ = some (.int .u32 q1) ∧ w'.cell? ⟨y, yo + k * 2, none⟩ = some (.int .i32 q0) ∧ w'.cell? ⟨y, yo + k * 2 + 1, none⟩ = some (.int .u32 q1)) (go_keep) (fail)
      go_wp2
      go_roundw
      case rel => exact ⟨k + 1, by omega, by simp, hbel.drew⟩
      case measure => simp [intOf]; omega
    · have hkl : k = l.length := by omega
      subst hkl
      go_wp2
      go_ret
      exact ⟨rfl, hbel⟩

set_option maxRecDepth 100000 in
set_option maxHeartbeats 4000000 in
theorem sameBuckets_eq (va vb : Value) (l : List (Int × Int)) (B : Nat) (w : World) (ha : Pairs w B .i64 .u64 va l) (hb : Pairs w B .i64 .u64 vb l) (hl : l.length ≤ 2147483647) :
    Calls Tryd.prog 52 #[va, vb] w fun e w' => e = .returned (.bool true) ∧ Below w.heap.size w w' := by
  obtain ⟨ao, cap, rfl, h1, h2⟩ := ha.form
  obtain ⟨bo, bcap, rfl, g1, g2⟩ := hb.form
  go_enter Tryd.func52, Tryd.ntmps52
  go_wp2
  go_loopw [5] (fun i wr => ∃ k : Nat, k ≤ l.length ∧ i = .int .i64 k ∧ Below w.heap.size w wr) (fun i _ => l.length - (intOf i).toNat)
  case atStart => exact ⟨0, Nat.zero_le _, rfl, Below.refl _ _⟩
  case round =>
    obtain ⟨k, hk, rfl, hbel⟩ := hrel
    by_cases hlt : k < l.length
    · obtain ⟨x, xo, rfl, hx1, hx2, hxc⟩ := ha.at_ (by omega)
      obtain ⟨y, yo, rfl, hy1, hy2, hyc⟩ := hb.at_ (by omega)
      have c0 := (hbel.cell (p := ⟨x, xo + k * 2, none⟩) (show x < w.heap.size by omega)).trans (hxc k hlt).1
      have c1 := (hbel.cell (p := ⟨x, xo + k * 2 + 1, none⟩) (show x < w.heap.size by omega)).trans (hxc k hlt).2
      have c2 := (hbel.cell (p := ⟨y, yo + k * 2, none⟩) (show y < w.heap.size by omega)).trans (hyc k hlt).1
      have c3 := (hbel.cell (p := ⟨y, yo + k * 2 + 1, none⟩) (show y < w.heap.size by omega)).trans (hyc k hlt).2
      clear hxc hyc ha hb
      generalize l[k] = q at *
      obtain ⟨q0, q1⟩ := q
      have i0 : (0 : Int) ≤ (k : Int) := by omega
      have i1 : (k : Int) < (l.length : Int) := by omega
      go_wp2_with fail
      go_region_held3 (fun w' => w'.cell? ⟨x, xo + k * 2, none⟩ = some (.int .i64 q0) ∧ w'.cell? ⟨x, xo + k * 2 + 1, none⟩ = some (.int .u64 q1) ∧ w'.cell? ⟨y, yo + k * 2, none⟩ = some (.int .i64 q0) ∧ w'.cell? ⟨y, yo + k * 2 + 1, none⟩ = some (.int .u64 q1)) (go_keep) (fail)
      go_wp2
      go_roundw
      case rel => exact ⟨k + 1, by omega, by simp, hbel.drew⟩
      case measure => simp [intOf]; omega
    · have hkl : k = l.length := by omega
      subst hkl
      go_wp2
      go_ret
      exact ⟨rfl, hbel⟩
end Go.Proofs.YtbgkoapnejnfbaaDoor
