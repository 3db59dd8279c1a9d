/-
  An argument of labels, opened.
-/
import Derived.Test.YtapoodnjkkhggaaGreatLs
import Derived.Test.YtapoodnjkkhggaaGreatOpen
import Derived.ProofKit
import Derived.OpenShut
import Derived.ChangeOld
namespace Go.Proofs.YtapoodnjkkhggaaGreat
set_option linter.unusedSimpArgs false
set_option linter.unusedVariables false
open Go.RowKit Go.Deep Go.ChangeShapes Go.WideShapes Go.ChangeAt

section
variable {H : Type} {enc : TypeId × Value → H} {P : Program} {w : World} {base : Nat} {spare : Nat → Bool} {held : Bool}
theorem open_SS {t e : TypeId} {f0 f1 : Field} {fuel : Nat} {cs : List Value} {x : DataW H × List MemPlace} (ht : P.underlying t = some (.slice e)) (he : P.underlying e = some (.struct #[f0, f1])) (hc : P.cellsOf e = 2)
    (h0 : P.underlying f0.type = some .string) (h1 : P.underlying f1.type = some .string) (c0 : P.cellsOf f0.type = 1) (c1 : P.cellsOf f1.type = 1) (o0 : f0.offset = 0) (o1 : f1.offset = 1)
    (h : DataW.trod enc P w base spare held fuel t cs = some x) : ∃ (v : Value) (l : List Lb), cs = [v] ∧ Ls w v l := by
  obtain ⟨v, l, g1, g2⟩ := open_sl (α := Lb) ht hc (by omega) h (fun ecs z => ecs = [.string z.1, .string z.2]) (by
    intro n cs' y hy
    obtain ⟨y0, y1, m, _, hl, t0, t1⟩ := ChangeShapes.trod_struct2 he hy
    rw [hc] at hl
    obtain ⟨z0, e0, _, _⟩ := DataW.trod_string h0 t0
    obtain ⟨z1, e1, _, _⟩ := DataW.trod_string h1 t1
    match cs', hl with
    | [a, b], _ =>
      simp [o0, c0] at e0
      simp [o1, c1] at e1
      subst e0
      subst e1
      exact ⟨(z0, z1), rfl⟩)
  refine ⟨v, l, g1, ?_⟩
  unfold Ls LsB
  refine g2 _ ?_
  rintro i hi ecs rfl j hj
  have hj' : j = 0 ∨ j = 1 := by omega
  rcases hj' with rfl | rfl
  · simp [cellL, hi]
  · have e1 : (i * 2 + 1) % 2 = 1 := by omega
    have e2 : (i * 2 + 1) / 2 = i := by omega
    simp [cellL, e1, e2, hi]
end
set_option maxRecDepth 100000 in
theorem open_lbls {H : Type} {enc : TypeId × Value → H} {W : World} {spare : Nat → Bool} {held : Bool} {v : Value} {d : DataW H} {ps : List MemPlace} {base : Nat}
    (hval : Value.okWide Tryz.prog W .any base 23 v) (h : DataW.Trod enc Tryz.prog W 0 spare held 23 v d ps) : ∃ b : List Lb, Ls W v b := by
  obtain ⟨xa, xl, xc, rfl⟩ := okWide_slice Tryz.underlying23 hval
  obtain ⟨fuel, hf⟩ := h
  obtain ⟨x, l, hcs, hI⟩ := open_SS Tryz.underlying23 Tryz.underlying59 (by kernel_rfl) Tryz.underlying9 Tryz.underlying9 (by kernel_rfl) (by kernel_rfl) rfl rfl hf
  simp [Value.cells] at hcs
  subst hcs
  exact ⟨l, hI⟩
end Go.Proofs.YtapoodnjkkhggaaGreat
