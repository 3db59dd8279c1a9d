/-
  strings.Compare; the closures that compare two labels; bits.Len of a small number.
-/
import Derived.Test.YtapoodnjkkhggaaGreatLs
namespace Go.Proofs.YtapoodnjkkhggaaGreat
set_option linter.unusedSimpArgs false
set_option linter.unusedVariables false
open Go.RowKit

abbrev LT : TypeId := 101
theorem run_cmpstr (x y : ByteArray) (w : World) : (callFunc 167 #[.string x, .string y]).run Tryz.prog w = .ok (.value (.int .i64 (Lib.compareBytes x.data.toList y.data.toList))) w := by
  rw [run_callFunc_extern Tryz.func167 (by kernel_rfl) (by kernel_rfl) (by kernel_rfl) (e := Extern.BytealgCompare.compare) (by kernel_rfl), Lib.run_compareString]
  rfl
theorem cmpString_any (x y : ByteArray) (w : World) :
    Calls Tryz.prog 137 #[.string x, .string y] w fun e w' => e = .returned (.int .i64 (Lib.compareBytes x.data.toList y.data.toList)) ∧ w = w' := by
  have hx := run_cmpstr
  go_enter Tryz.func137, Tryz.ntmps137
  go_wp2
  go_ret
  exact ⟨rfl, rfl⟩
theorem strCompare_any (x y : ByteArray) (w : World) :
    Calls Tryz.prog 115 #[.string x, .string y] w fun e w' => e = .returned (.int .i64 (Lib.compareBytes x.data.toList y.data.toList)) ∧ w = w' := by
  go_enter Tryz.func115, Tryz.ntmps115
  go_wp2_with (refine (cmpString_any _ _ _).mono ?_; rintro e w' ⟨rfl, rfl⟩)
  go_ret
  exact ⟨rfl, rfl⟩
/-- what a function that compares labels by their names does -/
def Cmps (g : FuncId) : Prop := (∀ args w, (callFunc g args).run Tryz.prog w = .ok (.enter g args) w) ∧ ∀ (x y : Lb) (w : World), Calls Tryz.prog g #[.agg #[.string x.1, .string x.2], .agg #[.string y.1, .string y.2]] w fun e w' => ∃ z : Int, e = .returned (.int .i64 z) ∧ decide (z < 0) = lt x.1 y.1 ∧ Below w.heap.size w w'
set_option maxRecDepth 100000 in
theorem newCmp_any (x y : Lb) (w : World) : Calls Tryz.prog 130 #[.agg #[.string x.1, .string x.2], .agg #[.string y.1, .string y.2]] w fun e w' => ∃ z : Int, e = .returned (.int .i64 z) ∧ decide (z < 0) = lt x.1 y.1 ∧ Below w.heap.size w w' := by
  have hb : Below w.heap.size w ((w.alloc (.cells #[.string x.1, .string x.2] LT)).alloc (.cells #[.string y.1, .string y.2] LT)) := (below_new w _).alloc (by simp) _
  go_enter Tryz.func130, Tryz.ntmps130
  go_wp2_with (refine (strCompare_any _ _ _).mono ?_; rintro e w' ⟨rfl, rfl⟩)
  go_ret
  exact ⟨_, rfl, cmpB_lt x.1 y.1, hb⟩
set_option maxRecDepth 100000 in
theorem newCmp : Cmps 130 := ⟨fun _ _ => rfl, fun x y w => newCmp_any x y w⟩
set_option maxRecDepth 100000 in
theorem len32_any (n : Nat) (w : World) (hn : n < 256) :
    Calls Tryz.prog 166 #[.int .u64 n] w fun e w' => ∃ z : Int, e = .returned (.int .i64 z) ∧ w = w' := by
  have h0 : (0 : Int) ≤ (n : Int) := by omega
  have h1 : ¬ (4294967296 : Int) ≤ (n : Int) := by omega
  have h2 : ¬ (65536 : Int) ≤ (n : Int) := by omega
  have h3 : ¬ (256 : Int) ≤ (n : Int) := by omega
  have h4 : (n : Int) < 256 := by omega
  go_enter Tryz.func166, Tryz.ntmps166
  go_wp2
  go_ret
  exact ⟨⟨_, rfl⟩, rfl⟩
end Go.Proofs.YtapoodnjkkhggaaGreat
