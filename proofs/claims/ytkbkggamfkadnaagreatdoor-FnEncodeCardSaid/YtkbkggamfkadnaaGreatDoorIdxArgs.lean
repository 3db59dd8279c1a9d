/-
  Arguments of the index laws, opened.
-/
import Derived.Test.YtkbkggamfkadnaaGreatDoorOwn
import Derived.ProofKit
import Derived.OpenShut
import Derived.ChangeOld
namespace Go.Proofs.YtkbkggamfkadnaaGreatDoor
set_option linter.unusedSimpArgs false
set_option linter.unusedVariables false
open Go.RowKit Go.Deep Go.ChangeShapes Go.WideShapes Go.ChangeAt

theorem rng64 {z : Int} (hz : (Lit.int .i64 z).wf = true) : -9223372036854775808 ≤ z ∧ z ≤ 9223372036854775807 := by
  have m0 : IntKind.i64.min = -9223372036854775808 := by decide
  have m1 : IntKind.i64.max = 9223372036854775807 := by decide
  simpa only [Lit.wf, Bool.and_eq_true, decide_eq_true_eq, m0, m1] using hz
set_option maxRecDepth 100000 in
theorem open_ivs {H : Type} {enc : TypeId × Value → H} {W : World} {spare : Nat → Bool} {held : Bool} {v : Value} {d : DataW H} {ps : List MemPlace} {base : Nat}
    (hval : Value.okWide Tryz.prog W .any base 46 v) (h : DataW.Trod enc Tryz.prog W 0 spare held 46 v d ps) : ∃ b : List (Int × Int), Pairs W W.heap.size .i64 .i64 v b ∧ ∀ z ∈ b, (-9223372036854775808 ≤ z.1 ∧ z.1 ≤ 9223372036854775807) ∧ -9223372036854775808 ≤ z.2 ∧ z.2 ≤ 9223372036854775807 := by
  obtain ⟨xa, xl, xc, rfl⟩ := okWide_slice Tryz.underlying46 hval
  obtain ⟨fuel, hf⟩ := h
  obtain ⟨x, l, hcs, hI, hw⟩ := open_Pairs Tryz.underlying46 Tryz.underlying49 (by kernel_rfl) Tryz.underlying2 Tryz.underlying2 (by kernel_rfl) (by kernel_rfl) rfl rfl hf
  simp [Value.cells] at hcs
  subst hcs
  exact ⟨l, hI, fun z hz => ⟨rng64 (hw z hz).1, rng64 (hw z hz).2⟩⟩
set_option maxRecDepth 100000 in
theorem open_iv {H : Type} {enc : TypeId × Value → H} {W : World} {spare : Nat → Bool} {held : Bool} {v : Value} {d : DataW H} {ps : List MemPlace}
    (h : DataW.Trod enc Tryz.prog W 0 spare held 49 v d ps) : ∃ a b : Int, v = .agg #[.int .i64 a, .int .i64 b] := by
  obtain ⟨fuel, hf⟩ := h
  obtain ⟨y0, y1, m, _, hl, t0, t1⟩ := ChangeShapes.trod_struct2 Tryz.underlying49 hf
  have hc : Tryz.prog.cellsOf 49 = 2 := by kernel_rfl
  have c0 : Tryz.prog.cellsOf 2 = 1 := by kernel_rfl
  rw [hc] at hl
  obtain ⟨z0, e0, _, w0⟩ := DataW.trod_int Tryz.underlying2 t0
  obtain ⟨z1, e1, _, w1⟩ := DataW.trod_int Tryz.underlying2 t1
  generalize ev : v.cells.toList = cs at *
  match cs, hl with
  | [a, b], _ =>
    simp [c0] at e0
    simp [c0] at e1
    subst e0
    subst e1
    refine ⟨z0, z1, ?_⟩
    cases v with
    | agg x => exact congrArg Value.agg (Array.toList_inj.1 ev)
    | _ => cases ev
end Go.Proofs.YtkbkggamfkadnaaGreatDoor
