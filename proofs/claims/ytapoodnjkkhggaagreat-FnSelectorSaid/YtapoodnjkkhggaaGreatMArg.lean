/-
  An argument of Matches, opened.
-/
import Derived.Test.YtapoodnjkkhggaaGreatMt
import Derived.Test.YtapoodnjkkhggaaGreatLArg
namespace Go.Proofs.YtapoodnjkkhggaaGreat
set_option linter.unusedSimpArgs false
set_option linter.unusedVariables false
open Go.RowKit Go.Deep Go.ChangeShapes Go.WideShapes Go.ChangeAt

section
variable {H : Type} {enc : TypeId × Value → H} {P : Program} {w : World} {base : Nat} {spare : Nat → Bool} {held : Bool}
theorem struct3 {t : TypeId} {f0 f1 f2 : Field} {fuel : Nat} {cs : List Value} {x : DataW H × List MemPlace} (ht : P.underlying t = some (.struct #[f0, f1, f2])) (h : DataW.trod enc P w base spare held fuel t cs = some x) :
    ∃ y0 y1 y2 n, cs.length = P.cellsOf t ∧ DataW.trod enc P w base spare held n f0.type ((cs.drop f0.offset).take (P.cellsOf f0.type)) = some y0 ∧
      DataW.trod enc P w base spare held n f1.type ((cs.drop f1.offset).take (P.cellsOf f1.type)) = some y1 ∧ DataW.trod enc P w base spare held n f2.type ((cs.drop f2.offset).take (P.cellsOf f2.type)) = some y2 := by
  obtain ⟨xs, n, _, rfl, hl, hlen, hf⟩ := DataW.trod_struct ht h
  match xs, hlen with
  | [y0, y1, y2], _ => exact ⟨y0, y1, y2, n, hl, by simpa using hf 0 f0 rfl, by simpa using hf 1 f1 rfl, by simpa using hf 2 f2 rfl⟩
theorem open_ISS {t e : TypeId} {f0 f1 f2 : Field} {fuel : Nat} {cs : List Value} {x : DataW H × List MemPlace} (ht : P.underlying t = some (.slice e)) (he : P.underlying e = some (.struct #[f0, f1, f2])) (hc : P.cellsOf e = 3)
    (h0 : P.underlying f0.type = some (.int .i64)) (h1 : P.underlying f1.type = some .string) (h2 : P.underlying f2.type = some .string) (c0 : P.cellsOf f0.type = 1) (c1 : P.cellsOf f1.type = 1) (c2 : P.cellsOf f2.type = 1) (o0 : f0.offset = 0) (o1 : f1.offset = 1) (o2 : f2.offset = 2)
    (h : DataW.trod enc P w base spare held fuel t cs = some x) : ∃ (v : Value) (l : List Mt), cs = [v] ∧ Ms w v l := by
  obtain ⟨v, l, g1, g2⟩ := open_sl (α := Mt) ht hc (by omega) h (fun ecs z => ecs = mcells z) (by
    intro n cs' y hy
    obtain ⟨y0, y1, y2, m, hl, t0, t1, t2⟩ := struct3 he hy
    rw [hc] at hl
    obtain ⟨z0, e0, _, _⟩ := DataW.trod_int h0 t0
    obtain ⟨z1, e1, _, _⟩ := DataW.trod_string h1 t1
    obtain ⟨z2, e2, _, _⟩ := DataW.trod_string h2 t2
    match cs', hl with
    | [a, b, c], _ =>
      simp [o0, c0] at e0
      simp [o1, c1] at e1
      simp [o2, c2] at e2
      subst e0
      subst e1
      subst e2
      exact ⟨(z0, z1, z2), rfl⟩)
  refine ⟨v, l, g1, ?_⟩
  unfold Ms
  refine g2 _ ?_
  rintro i hi ecs rfl j hj
  have e1 : (i * 3 + j) % 3 = j := by omega
  have e2 : (i * 3 + j) / 3 = i := by omega
  have hj' : j = 0 ∨ j = 1 ∨ j = 2 := by omega
  rcases hj' with rfl | rfl | rfl <;> simp [cellM, mcells, e1, e2, hi] <;> omega
end
set_option maxRecDepth 100000 in
theorem open_matches {H : Type} {enc : TypeId × Value → H} {W : World} {spare : Nat → Bool} {held : Bool} {v : Value} {d : DataW H} {ps : List MemPlace} {base : Nat}
    (hval : Value.okWide Tryz.prog W .any base 22 v) (h : DataW.Trod enc Tryz.prog W 0 spare held 22 v d ps) : ∃ b : List Mt, Ms W v b := by
  obtain ⟨xa, xl, xc, rfl⟩ := okWide_slice Tryz.underlying22 hval
  obtain ⟨fuel, hf⟩ := h
  obtain ⟨x, l, hcs, hI⟩ := open_ISS Tryz.underlying22 Tryz.underlying28 (by kernel_rfl) Tryz.underlying3 Tryz.underlying9 Tryz.underlying9 (by kernel_rfl) (by kernel_rfl) (by kernel_rfl) rfl rfl rfl hf
  simp [Value.cells] at hcs
  subst hcs
  exact ⟨l, hI⟩
end Go.Proofs.YtapoodnjkkhggaaGreat
