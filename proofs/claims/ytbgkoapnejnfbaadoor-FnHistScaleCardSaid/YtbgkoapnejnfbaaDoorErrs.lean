/-
  What a row's listed variables hold when the call begins: errors.
-/
import Derived.Test.YtbgkoapnejnfbaaDoorChecks
import Derived.Test.YtbgkoapnejnfbaaDoorOpen
import Derived.LaidLaws
import Derived.LaidMore
import Derived.Lay
import Derived.Stop.Joined
namespace Go.Proofs.YtbgkoapnejnfbaaDoor
set_option linter.unusedSimpArgs false
set_option linter.unusedVariables false
open Go.RowKit Go.ChangeShapes

theorem laid_mem {P : Program} {w : World} {n : String} {d : DataW Unit} : ∀ {l : List (String × DataW Unit)} {ps : List MemPlace}, DataW.LaidVars P w l ps → (n, d) ∈ l →
    ∃ g t cs fuel p, P.globalNamed n = some g ∧ (P.globals[g]?).map (·.type) = some t ∧ w.var? P n = some cs ∧ DataW.trod (fun _ => ()) P w 0 (fun _ => true) false fuel t cs.toList = some (d, p)
  | [], _, _, hm => by cases hm
  | (m, d') :: r, ps, h, hm => by
    obtain ⟨g, t, cs, fuel, p, q, h1, h2, h3, h4, h5, _⟩ := h
    rcases List.mem_cons.1 hm with e | hm
    · cases e
      exact ⟨g, t, cs, fuel, p, h1, h2, h3, h4⟩
    · exact laid_mem h5 hm

theorem errAt_of {w : World} {l : List (String × DataW Unit)} (h : laidMet Tryd.prog l w) {n nm : String} {d : DataW Unit} {g : Nat} (hm : (n, .iface nm d) ∈ l) (hg : Tryd.prog.globalNamed n = some g) (ht : (Tryd.prog.globals[g]?).map (·.type) = some 58) : ErrAt w g := by
  obtain ⟨ps, hl, _⟩ := h
  obtain ⟨g', t, cs, fuel, p, h1, h2, h3, h4⟩ := laid_mem hl hm
  obtain rfl := Option.some.inj (hg.symm.trans h1)
  obtain rfl := Option.some.inj (ht.symm.trans h2)
  obtain ⟨f', u, v, hcs, _, _⟩ := iface_of_trod Tryd.underlying58 h4
  have hc := World.var?_cell h1 h3 0
  have e : cs[0]? = some (.iface u v) := by
    rw [← Array.getElem?_toList, hcs]; rfl
  exact ⟨u, v, hc.trans e⟩

theorem errs_of {w : World} (h : laidMetH Tryd.prog Rows.fnHistHintedRow.laid w) : Errs w := by
  rw [MakeChecks.laidMetH_plain _ _ _ (by kernel_rfl)] at h
  have e0 := errAt_of h (List.mem_of_getElem? (show Rows.fnHistHintedRow.laid[0]? = some _ from rfl)) (g := 0) (by kernel_rfl) (by kernel_rfl)
  have e1 := errAt_of h (List.mem_of_getElem? (show Rows.fnHistHintedRow.laid[1]? = some _ from rfl)) (g := 1) (by kernel_rfl) (by kernel_rfl)
  have e2 := errAt_of h (List.mem_of_getElem? (show Rows.fnHistHintedRow.laid[2]? = some _ from rfl)) (g := 8) (by kernel_rfl) (by kernel_rfl)
  have e3 := errAt_of h (List.mem_of_getElem? (show Rows.fnHistHintedRow.laid[3]? = some _ from rfl)) (g := 5) (by kernel_rfl) (by kernel_rfl)
  have e4 := errAt_of h (List.mem_of_getElem? (show Rows.fnHistHintedRow.laid[4]? = some _ from rfl)) (g := 6) (by kernel_rfl) (by kernel_rfl)
  have e5 := errAt_of h (List.mem_of_getElem? (show Rows.fnHistHintedRow.laid[5]? = some _ from rfl)) (g := 7) (by kernel_rfl) (by kernel_rfl)
  have e6 := errAt_of h (List.mem_of_getElem? (show Rows.fnHistHintedRow.laid[6]? = some _ from rfl)) (g := 3) (by kernel_rfl) (by kernel_rfl)
  have e7 := errAt_of h (List.mem_of_getElem? (show Rows.fnHistHintedRow.laid[7]? = some _ from rfl)) (g := 4) (by kernel_rfl) (by kernel_rfl)
  refine ⟨e0, e1, e6, e7, e3, e4, e5, e2, ?_⟩
  obtain ⟨t, p, hc⟩ := e2
  have := (lt_of_cell hc).1
  simp only at this
  omega
theorem nats_of (l : List Int) (h : ∀ z ∈ l, (Lit.int .u64 z).wf = true) : ∃ b : List Nat, l = b.map Int.ofNat ∧ ∀ x ∈ b, x ≤ 18446744073709551615 := by
  induction l with
  | nil => exact ⟨[], rfl, by simp⟩
  | cons z l ih =>
    obtain ⟨b, hb, hx⟩ := ih fun y hy => h y (List.mem_cons_of_mem _ hy)
    have hz := h z (by simp)
    have m0 : IntKind.u64.min = 0 := by decide
    have m1 : IntKind.u64.max = 18446744073709551615 := by decide
    have h0 : 0 ≤ z ∧ z ≤ 18446744073709551615 := by
      simp only [Lit.wf, Bool.and_eq_true, decide_eq_true_eq, m0, m1] at hz
      exact hz
    refine ⟨z.toNat :: b, ?_, ?_⟩
    · rw [List.map_cons, ← hb]
      congr 1
      exact (Int.toNat_of_nonneg h0.1).symm
    · intro x hx'
      rcases List.mem_cons.1 hx' with rfl | hx'
      · omega
      · exact hx x hx'
theorem same_laid : Rows.fnHistValidRow.laid = Rows.fnHistHintedRow.laid ∧ Rows.fnHistScaleRow.laid = Rows.fnHistHintedRow.laid ∧ Rows.fnGeneratedRow.laid = Rows.fnHistHintedRow.laid ∧ Rows.fnHistCopyRow.laid = Rows.fnHistHintedRow.laid ∧ Rows.fnHistCompactRow.laid = Rows.fnHistHintedRow.laid :=
  ⟨rfl, rfl, rfl, rfl, rfl⟩
end Go.Proofs.YtbgkoapnejnfbaaDoor
