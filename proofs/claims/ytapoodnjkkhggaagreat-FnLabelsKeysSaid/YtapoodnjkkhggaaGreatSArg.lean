/-
  An argument of strings, opened.
-/
import Derived.Test.YtapoodnjkkhggaaGreatNm
import Derived.Test.YtapoodnjkkhggaaGreatLArg
namespace Go.Proofs.YtapoodnjkkhggaaGreat
set_option linter.unusedSimpArgs false
set_option linter.unusedVariables false
open Go.RowKit Go.Deep Go.ChangeShapes Go.WideShapes Go.ChangeAt

set_option maxRecDepth 100000 in
theorem open_strs {H : Type} {enc : TypeId × Value → H} {W : World} {spare : Nat → Bool} {held : Bool} {v : Value} {d : DataW H} {ps : List MemPlace} {base : Nat}
    (hval : Value.okWide Tryz.prog W .any base 32 v) (h : DataW.Trod enc Tryz.prog W 0 spare held 32 v d ps) : ∃ b : List ByteArray, Strs W v b := by
  obtain ⟨xa, xl, xc, rfl⟩ := okWide_slice Tryz.underlying32 hval
  obtain ⟨fuel, hf⟩ := h
  obtain ⟨x, l, hcs, hI⟩ := open_sl (α := ByteArray) Tryz.underlying32 (show Tryz.prog.cellsOf 9 = 1 by kernel_rfl) (by omega) hf (fun ecs z => ecs = [.string z]) (by
    intro n cs' y hy
    obtain ⟨z, rfl, _, _⟩ := DataW.trod_string Tryz.underlying9 hy
    exact ⟨z, rfl⟩)
  simp [Value.cells] at hcs
  subst hcs
  refine ⟨l, hI _ ?_⟩
  rintro i hi ecs rfl j hj
  have : j = 0 := by omega
  subst this
  simp [List.getD_eq_getElem?_getD, hi]
end Go.Proofs.YtapoodnjkkhggaaGreat
