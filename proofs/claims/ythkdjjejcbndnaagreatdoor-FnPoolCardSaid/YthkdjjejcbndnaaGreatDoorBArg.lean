/-
  An argument that is a slice of bytes, opened.
-/
import Derived.Test.YthkdjjejcbndnaaGreatDoorBy
import Derived.ProofKit
import Derived.OpenShut
import Derived.ChangeOld
namespace Go.Proofs.YthkdjjejcbndnaaGreatDoor
set_option linter.unusedSimpArgs false
set_option linter.unusedVariables false
open Go.RowKit Go.Deep Go.ChangeShapes Go.WideShapes Go.ChangeAt

theorem bytes_of (l : List Int) (h : ∀ z ∈ l, (Lit.int .u8 z).wf = true) : ∃ b : List UInt8, l = b.map fun x => (x.toNat : Int) := by
  induction l with
  | nil => exact ⟨[], rfl⟩
  | cons z l ih =>
    obtain ⟨b, hb⟩ := ih fun y hy => h y (List.mem_cons_of_mem _ hy)
    have hz := h z (by simp)
    have m0 : IntKind.u8.min = 0 := by decide
    have m1 : IntKind.u8.max = 255 := by decide
    have h0 : 0 ≤ z ∧ z ≤ 255 := by
      simpa only [Lit.wf, Bool.and_eq_true, decide_eq_true_eq, m0, m1] using hz
    refine ⟨UInt8.ofNat z.toNat :: b, ?_⟩
    rw [List.map_cons, ← hb]
    congr 1
    rw [UInt8.toNat_ofNat']
    omega
set_option maxRecDepth 100000 in
theorem open_bytes {H : Type} {enc : TypeId × Value → H} {W : World} {spare : Nat → Bool} {held : Bool} {v : Value} {d : DataW H} {ps : List MemPlace} {base : Nat}
    (hval : Value.okWide Tryz.prog W .any base 26 v) (h : DataW.Trod enc Tryz.prog W 0 spare held 26 v d ps) : ∃ b : List UInt8, Bytes W v b := by
  obtain ⟨xa, xl, xc, rfl⟩ := okWide_slice Tryz.underlying26 hval
  obtain ⟨fuel, hf⟩ := h
  obtain ⟨x, l, hcs, hI, hw⟩ := open_Ints Tryz.underlying26 Tryz.underlying5 (by kernel_rfl) hf
  simp [Value.cells] at hcs
  subst hcs
  obtain ⟨b, rfl⟩ := bytes_of l hw
  refine ⟨b, ?_⟩
  unfold Ints at hI
  rw [List.length_map] at hI
  exact Sl.congr hI fun i hi => by
    have hi' : i < b.length := by omega
    simp [List.getD_eq_getElem?_getD, hi']
end Go.Proofs.YthkdjjejcbndnaaGreatDoor
