/-
  One value alone is the stale marker.
-/
import Derived.Test.YtdinjpemofkdaaaRows
import Derived.WalkKit
import Derived.WalkSpells
import Derived.WalkLawsBesides
import Derived.Laws.Externs
import Derived.Below
namespace Go.Proofs.Ytdinjpemofkdaaa
open Go.RowKit

theorem run40 (n : Int) (w : World) : (callFunc 40 #[.int .u64 n]).run Try.prog w = .ok (.value (.float .f64 n.toNat)) w :=
  run_callFunc_extern (e := Extern.MathFloatBits.float64frombits) Try.func40 (by kernel_rfl) (by kernel_rfl) (by kernel_rfl) (by kernel_rfl) _ w
theorem run19 (n : Nat) (w : World) : (callFunc 19 #[.float .f64 n]).run Try.prog w = .ok (.value (.int .u64 n)) w :=
  run_callFunc_extern (e := Extern.MathFloatBits.float64bits) Try.func19 (by kernel_rfl) (by kernel_rfl) (by kernel_rfl) (by kernel_rfl) _ w

set_option maxHeartbeats 400000 in
theorem float_any (a : Nat) (w : World) :
    Calls Try.prog 32 #[.int .u64 a] w fun e w' => e = .returned (.float .f64 a) ∧ w = w' := by
  have hx := run40
  go_enter Try.func32, Try.ntmps32
  go_wp2
  go_ret
  exact ⟨rfl, rfl⟩

set_option maxHeartbeats 400000 in
theorem isStale_any (a : Nat) (w : World) :
    Calls Try.prog 31 #[.float .f64 a] w fun e w' => e = .returned (.bool ((a : Int) == 9218868437227405314)) ∧ w = w' := by
  have hx := run19
  go_enter Try.func31, Try.ntmps31
  go_wp2
  go_ret
  exact ⟨rfl, rfl⟩

set_option maxHeartbeats 400000 in
theorem staleIs_any (a : Nat) (w : World) :
    Calls Try.prog 11 #[.int .u64 a] w fun e w' => e = .returned (.bool ((a : Int) == 9218868437227405314)) ∧ w = w' := by
  go_enter Try.func11, Try.ntmps11
  go_wp2_with (first | (go_at_call 32; refine (float_any _ _).mono ?_; rintro e w' ⟨rfl, rfl⟩) | (go_at_call 31; refine (isStale_any _ _).mono ?_; rintro e w' ⟨rfl, rfl⟩))
  go_ret
  exact ⟨rfl, rfl⟩

set_option maxHeartbeats 400000 in
theorem fnStale_walk (a : Int) (w : World) (h : 0 ≤ a) :
    Calls Try.prog 3 #[.int .u64 a] w fun e w' => e = .returned (.bool true) ∧ Below w.heap.size w w' := by
  obtain ⟨n, rfl⟩ := Int.eq_ofNat_of_zero_le h
  go_enter Try.func3, Try.ntmps3
  go_wp2_with (first | (go_at_call 11; refine (staleIs_any _ _).mono ?_; rintro e w' ⟨rfl, rfl⟩))
  go_ret
  exact ⟨rfl, Below.refl _ _⟩

theorem fnStale_row (a : Int) (wa : (Lit.int .u64 a).wf = true) (w : World) :
    Calls Try.prog 3 #[.int .u64 a] w fun e w' => e = .returned (.bool true) ∧ Below w.heap.size w w' :=
  fnStale_walk a w (by simp [Lit.wf, IntKind.min, IntKind.max, IntKind.signed, IntKind.bits] at wa; omega)
end Go.Proofs.Ytdinjpemofkdaaa
