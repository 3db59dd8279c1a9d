/-
  The mock iterator: its steps.
-/
import Derived.Test.YtmnfojolielnlaaArgs
import Derived.Deep.RegionHeld3
import Derived.IntWalk
namespace Go.Proofs.Ytmnfojolielnlaa
set_option linter.unusedSimpArgs false
set_option linter.unusedVariables false
open Go.RowKit

theorem run61 (n : Nat) (w : World) : (callFunc 15 #[.float .f64 n]).run Try.prog w = .ok (.value (.int .u64 n)) w := rfl
theorem run94 (n : Int) (w : World) : (callFunc 13 #[.int .u64 n]).run Try.prog w = .ok (.value (.float .f64 n.toNat)) w := rfl

theorem float_any (a : Nat) (w : World) : Calls Try.prog 10 #[.int .u64 a] w fun e w' => e = .returned (.float .f64 a) ∧ w = w' := by
  have hx := run94
  go_enter Try.func10, Try.ntmps10
  go_wp2
  go_ret
  exact ⟨rfl, rfl⟩
theorem bitsOf_any (a : Nat) (w : World) : Calls Try.prog 14 #[.float .f64 a] w fun e w' => e = .returned (.int .u64 a) ∧ w = w' := by
  have hx := run61
  go_enter Try.func14, Try.ntmps14
  go_wp2
  go_ret
  exact ⟨rfl, rfl⟩

theorem newMock_any (a1 a2 : Option Addr) (n1 c1 n2 c2 : Nat) (w : World) : Calls Try.prog 12 #[.slice a1 n1 c1, .slice a2 n2 c2] w fun e w' => e = .returned (.iface 58 (.pointer (some ⟨w.heap.size, 0, none⟩))) ∧ w' = w.alloc (.cells #[.slice a1 n1 c1, .slice a2 n2 c2, .int .i64 (-1)] 60) := by
  go_enter Try.func12, Try.ntmps12
  go_wp2
  go_ret
  exact ⟨rfl, rfl⟩

set_option maxRecDepth 100000 in
theorem mockNext_more (g n c0 : Nat) (a : Option Addr) (k : Int) (w : World) (h0 : w.cell? ⟨g, 0, none⟩ = some (.slice a n c0)) (h2 : w.cell? ⟨g, 2, none⟩ = some (.int .i64 k)) (hz : w.frozen? ⟨g, 2, none⟩ = false) (hn : n ≤ 2147483647) (h1 : -1 ≤ k) (hk : k < (n : Int) - 1) :
    Calls Try.prog 44 #[.pointer (some ⟨g, 0, none⟩)] w fun e w' => e = .returned (.int .u8 1) ∧ w' = w.drew.setCell ⟨g, 2, none⟩ (.int .i64 (k + 1)) := by
  have hS : w.drew.cell? ⟨g, 0, none⟩ = some (.slice a n c0) ∧ w.drew.cell? ⟨g, 2, none⟩ = some (.int .i64 k) := ⟨h0, h2⟩
  have d2 : w.drew.cell? ⟨g, 2, none⟩ = some (.int .i64 k) := h2
  have dz : w.drew.frozen? ⟨g, 2, none⟩ = false := hz
  have hw : IntKind.i64.wrap ((n : Int) - 1) = (n : Int) - 1 := IntWalk.i64_in _ (by omega)
  have hw2 : IntKind.i64.wrap (k + 1) = k + 1 := IntWalk.i64_in _ (by omega)
  go_enter Try.func44, Try.ntmps44
  go_wp2_with fail
  go_region_held3 (fun w' => w'.cell? ⟨g, 0, none⟩ = some (.slice a n c0) ∧ w'.cell? ⟨g, 2, none⟩ = some (.int .i64 k)) (first | (with_reducible assumption) | go_keep) (fail)
  go_wp2
  go_ret
  exact ⟨rfl, rfl⟩

set_option maxRecDepth 100000 in
theorem mockNext_none (g n c0 : Nat) (a : Option Addr) (k : Int) (w : World) (h0 : w.cell? ⟨g, 0, none⟩ = some (.slice a n c0)) (h2 : w.cell? ⟨g, 2, none⟩ = some (.int .i64 k)) (hn : n ≤ 2147483647) (h1 : -1 ≤ k) (hk : ¬ k < (n : Int) - 1) :
    Calls Try.prog 44 #[.pointer (some ⟨g, 0, none⟩)] w fun e w' => e = .returned (.int .u8 0) ∧ w' = w.drew := by
  have hS : w.drew.cell? ⟨g, 0, none⟩ = some (.slice a n c0) ∧ w.drew.cell? ⟨g, 2, none⟩ = some (.int .i64 k) := ⟨h0, h2⟩
  have hw : IntKind.i64.wrap ((n : Int) - 1) = (n : Int) - 1 := IntWalk.i64_in _ (by omega)
  go_enter Try.func44, Try.ntmps44
  go_wp2_with fail
  go_region_held3 (fun w' => w'.cell? ⟨g, 0, none⟩ = some (.slice a n c0) ∧ w'.cell? ⟨g, 2, none⟩ = some (.int .i64 k)) (first | (with_reducible assumption) | go_keep) (fail)
  go_wp2
  go_ret
  exact ⟨rfl, rfl⟩

set_option maxRecDepth 100000 in
theorem mockAt_any (g b1 o1 n1 c1 b2 o2 n2 c2 k : Nat) (t : Int) (v : Nat) (w : World) (h0 : w.cell? ⟨g, 0, none⟩ = some (.slice (some ⟨b1, o1, none⟩) n1 c1)) (h1 : w.cell? ⟨g, 1, none⟩ = some (.slice (some ⟨b2, o2, none⟩) n2 c2)) (h2 : w.cell? ⟨g, 2, none⟩ = some (.int .i64 k))
    (ht : w.cell? ⟨b1, o1 + k, none⟩ = some (.int .i64 t)) (hv : w.cell? ⟨b2, o2 + k, none⟩ = some (.float .f64 v)) (hk1 : k < n1) (hk2 : k < n2) :
    Calls Try.prog 39 #[.pointer (some ⟨g, 0, none⟩)] w fun e w' => e = .returned (.tuple #[.int .i64 t, .float .f64 v]) ∧ w' = w.drew := by
  have i0 : (0 : Int) ≤ (k : Int) := by omega
  have i1 : (k : Int) < (n1 : Int) := by omega
  have i2 : (k : Int) < (n2 : Int) := by omega
  go_enter Try.func39, Try.ntmps39
  go_wp2_with fail
  have hS : w.drew.cell? ⟨g, 0, none⟩ = some (.slice (some ⟨b1, o1, none⟩) n1 c1) ∧ w.drew.cell? ⟨g, 1, none⟩ = some (.slice (some ⟨b2, o2, none⟩) n2 c2) ∧ w.drew.cell? ⟨g, 2, none⟩ = some (.int .i64 k) ∧ w.drew.cell? ⟨b1, o1 + k, none⟩ = some (.int .i64 t) ∧ w.drew.cell? ⟨b2, o2 + k, none⟩ = some (.float .f64 v) := ⟨h0, h1, h2, ht, hv⟩
  go_region_held3 (fun w' => w'.cell? ⟨g, 0, none⟩ = some (.slice (some ⟨b1, o1, none⟩) n1 c1) ∧ w'.cell? ⟨g, 1, none⟩ = some (.slice (some ⟨b2, o2, none⟩) n2 c2) ∧ w'.cell? ⟨g, 2, none⟩ = some (.int .i64 k) ∧ w'.cell? ⟨b1, o1 + k, none⟩ = some (.int .i64 t) ∧ w'.cell? ⟨b2, o2 + k, none⟩ = some (.float .f64 v)) (first | (with_reducible assumption) | go_keep) (fail)
  go_wp2
  go_ret2
  exact ⟨rfl, rfl⟩
end Go.Proofs.Ytmnfojolielnlaa
