/-
  An argument that is a slice of numbers of 32 bits, opened.
-/
import Derived.Test.YtfllcbcokncgpaaGreatDoorIdxArgs
namespace Go.Proofs.YtfllcbcokncgpaaGreatDoor
set_option linter.unusedSimpArgs false
set_option linter.unusedVariables false
open Go.RowKit Go.Deep Go.ChangeShapes Go.WideShapes Go.ChangeAt

theorem nats32_of (l : List Int) (h : ∀ z ∈ l, (Lit.int .u32 z).wf = true) : ∃ b : List Nat, l = b.map Int.ofNat ∧ ∀ x ∈ b, x < 4294967296 := by
  induction l with
  | nil => exact ⟨[], rfl, by simp⟩
  | cons z l ih =>
    obtain ⟨b, hb, hx⟩ := ih fun y hy => h y (List.mem_cons_of_mem _ hy)
    have hz := h z (by simp)
    have m0 : IntKind.u32.min = 0 := by decide
    have m1 : IntKind.u32.max = 4294967295 := by decide
    have h0 : 0 ≤ z ∧ z ≤ 4294967295 := by
      simp only [Lit.wf, Bool.and_eq_true, decide_eq_true_eq, m0, m1] at hz
      exact hz
    refine ⟨z.toNat :: b, ?_, ?_⟩
    · rw [List.map_cons, ← hb]
      congr 1
      exact (Int.toNat_of_nonneg h0.1).symm
    · intro x hx'
      rcases List.mem_cons.1 hx' with rfl | hx'
      · omega
      · exact hx x hx'
set_option maxRecDepth 100000 in
theorem open_u32s {H : Type} {enc : TypeId × Value → H} {W : World} {spare : Nat → Bool} {held : Bool} {v : Value} {d : DataW H} {ps : List MemPlace} {base : Nat}
    (hval : Value.okWide Tryz.prog W .any base 40 v) (h : DataW.Trod enc Tryz.prog W 0 spare held 40 v d ps) : ∃ b : List Nat, Ints W W.heap.size .u32 v (b.map Int.ofNat) ∧ ∀ x ∈ b, x < 4294967296 := by
  obtain ⟨xa, xl, xc, rfl⟩ := okWide_slice Tryz.underlying40 hval
  obtain ⟨fuel, hf⟩ := h
  obtain ⟨x, l, hcs, hI, hwf⟩ := open_Ints Tryz.underlying40 Tryz.underlying42 (by kernel_rfl) hf
  simp [Value.cells] at hcs
  subst hcs
  obtain ⟨b, rfl, hb⟩ := nats32_of l hwf
  exact ⟨b, hI, hb⟩
end Go.Proofs.YtfllcbcokncgpaaGreatDoor
