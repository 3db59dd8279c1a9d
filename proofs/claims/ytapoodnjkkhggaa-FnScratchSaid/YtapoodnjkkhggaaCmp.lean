/-
  strings.Compare; the closures that compare two labels; bits.Len of a small number.
-/
import Derived.Test.YtapoodnjkkhggaaLs
namespace Go.Proofs.Ytapoodnjkkhggaa
set_option linter.unusedSimpArgs false
set_option linter.unusedVariables false
open Go.RowKit

abbrev LT : TypeId := 77
theorem run_cmpstr (x y : ByteArray) (w : World) : (callFunc 81 #[.string x, .string y]).run Try.prog w = .ok (.value (.int .i64 (Lib.compareBytes x.data.toList y.data.toList))) w := by
  rw [run_callFunc_extern Try.func81 (by kernel_rfl) (by kernel_rfl) (by kernel_rfl) (e := Extern.BytealgCompare.compare) (by kernel_rfl), Lib.run_compareString]
  rfl
theorem cmpString_any (x y : ByteArray) (w : World) :
    Calls Try.prog 66 #[.string x, .string y] w fun e w' => e = .returned (.int .i64 (Lib.compareBytes x.data.toList y.data.toList)) ∧ w = w' := by
  have hx := run_cmpstr
  go_enter Try.func66, Try.ntmps66
  go_wp2
  go_ret
  exact ⟨rfl, rfl⟩
theorem strCompare_any (x y : ByteArray) (w : World) :
    Calls Try.prog 53 #[.string x, .string y] w fun e w' => e = .returned (.int .i64 (Lib.compareBytes x.data.toList y.data.toList)) ∧ w = w' := by
  go_enter Try.func53, Try.ntmps53
  go_wp2_with (refine (cmpString_any _ _ _).mono ?_; rintro e w' ⟨rfl, rfl⟩)
  go_ret
  exact ⟨rfl, rfl⟩
/-- what a function that compares labels by their names does -/
def Cmps (g : FuncId) : Prop := (∀ args w, (callFunc g args).run Try.prog w = .ok (.enter g args) w) ∧ ∀ (x y : Lb) (w : World), Calls Try.prog g #[.agg #[.string x.1, .string x.2], .agg #[.string y.1, .string y.2]] w fun e w' => ∃ z : Int, e = .returned (.int .i64 z) ∧ decide (z < 0) = lt x.1 y.1 ∧ Below w.heap.size w w'
set_option maxRecDepth 100000 in
theorem newCmp_any (x y : Lb) (w : World) : Calls Try.prog 63 #[.agg #[.string x.1, .string x.2], .agg #[.string y.1, .string y.2]] w fun e w' => ∃ z : Int, e = .returned (.int .i64 z) ∧ decide (z < 0) = lt x.1 y.1 ∧ Below w.heap.size w w' := by
  have hb : Below w.heap.size w ((w.alloc (.cells #[.string x.1, .string x.2] LT)).alloc (.cells #[.string y.1, .string y.2] LT)) := (below_new w _).alloc (by simp) _
  go_enter Try.func63, Try.ntmps63
  go_wp2_with (refine (strCompare_any _ _ _).mono ?_; rintro e w' ⟨rfl, rfl⟩)
  go_ret
  exact ⟨_, rfl, cmpB_lt x.1 y.1, hb⟩
set_option maxRecDepth 100000 in
theorem newCmp : Cmps 63 := ⟨fun _ _ => rfl, fun x y w => newCmp_any x y w⟩
set_option maxRecDepth 100000 in
theorem len32_any (n : Nat) (w : World) (hn : n < 256) :
    Calls Try.prog 80 #[.int .u64 n] w fun e w' => ∃ z : Int, e = .returned (.int .i64 z) ∧ w = w' := by
  have h0 : (0 : Int) ≤ (n : Int) := by omega
  have h1 : ¬ (4294967296 : Int) ≤ (n : Int) := by omega
  have h2 : ¬ (65536 : Int) ≤ (n : Int) := by omega
  have h3 : ¬ (256 : Int) ≤ (n : Int) := by omega
  have h4 : (n : Int) < 256 := by omega
  go_enter Try.func80, Try.ntmps80
  go_wp2
  go_ret
  exact ⟨⟨_, rfl⟩, rfl⟩
end Go.Proofs.Ytapoodnjkkhggaa
