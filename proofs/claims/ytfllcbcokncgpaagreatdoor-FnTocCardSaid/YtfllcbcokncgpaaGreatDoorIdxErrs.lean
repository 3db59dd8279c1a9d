/-
  What the laid variable holds: an error. Bytes, opened.
-/
import Derived.Test.YtfllcbcokncgpaaGreatDoorRows
import Derived.Test.YtfllcbcokncgpaaGreatDoorPad
import Derived.Test.YtfllcbcokncgpaaGreatDoorIdxArgs
import Derived.LaidLaws
import Derived.LaidMore
import Derived.Lay
import Derived.Stop.Joined
namespace Go.Proofs.YtfllcbcokncgpaaGreatDoor
set_option linter.unusedSimpArgs false
set_option linter.unusedVariables false
open Go.RowKit Go.Deep Go.ChangeShapes Go.WideShapes Go.ChangeAt

def ErrAt (w : World) (g : Nat) : Prop := ∃ t p, w.cell? ⟨g, 0, none⟩ = some (.iface t p)
abbrev Errs (w : World) : Prop := ∃ t u, w.cell? ⟨EG, 0, none⟩ = some (.iface t u)
theorem laid_mem {P : Program} {w : World} {n : String} {d : DataW Unit} : ∀ {l : List (String × DataW Unit)} {ps : List MemPlace}, DataW.LaidVars P w l ps → (n, d) ∈ l →
    ∃ g t cs fuel p, P.globalNamed n = some g ∧ (P.globals[g]?).map (·.type) = some t ∧ w.var? P n = some cs ∧ DataW.trod (fun _ => ()) P w 0 (fun _ => true) false fuel t cs.toList = some (d, p)
  | [], _, _, hm => by cases hm
  | (m, d') :: r, ps, h, hm => by
    obtain ⟨g, t, cs, fuel, p, q, h1, h2, h3, h4, h5, _⟩ := h
    rcases List.mem_cons.1 hm with e | hm
    · cases e
      exact ⟨g, t, cs, fuel, p, h1, h2, h3, h4⟩
    · exact laid_mem h5 hm

theorem errAt_of {w : World} {l : List (String × DataW Unit)} (h : laidMet Tryz.prog l w) {n nm : String} {d : DataW Unit} {g : Nat} (hm : (n, .iface nm d) ∈ l) (hg : Tryz.prog.globalNamed n = some g) (ht : (Tryz.prog.globals[g]?).map (·.type) = some 79) : ErrAt w g := by
  obtain ⟨ps, hl, _⟩ := h
  obtain ⟨g', t, cs, fuel, p, h1, h2, h3, h4⟩ := laid_mem hl hm
  obtain rfl := Option.some.inj (hg.symm.trans h1)
  obtain rfl := Option.some.inj (ht.symm.trans h2)
  obtain ⟨f', u, v, hcs, _, _⟩ := iface_of_trod Tryz.underlying79 h4
  have hc := World.var?_cell h1 h3 0
  have e : cs[0]? = some (.iface u v) := by
    rw [← Array.getElem?_toList, hcs]; rfl
  exact ⟨u, v, hc.trans e⟩


theorem errs_of {w : World} (h : laidMetH Tryz.prog Rows.fnPaddingRow.laid w) : Errs w := by
  rw [MakeChecks.laidMetH_plain _ _ _ (by kernel_rfl)] at h
  exact errAt_of h (List.mem_of_getElem? (show Rows.fnPaddingRow.laid[0]? = some _ from rfl)) (g := EG) (by kernel_rfl) (by kernel_rfl)

theorem bytes_of (l : List Int) (h : ∀ z ∈ l, (Lit.int .u8 z).wf = true) : ∃ b : List UInt8, l = b.map fun x => (x.toNat : Int) := by
  induction l with
  | nil => exact ⟨[], rfl⟩
  | cons z l ih =>
    obtain ⟨b, hb⟩ := ih fun y hy => h y (List.mem_cons_of_mem _ hy)
    have hz := h z (by simp)
    have m0 : IntKind.u8.min = 0 := by decide
    have m1 : IntKind.u8.max = 255 := by decide
    have h0 : 0 ≤ z ∧ z ≤ 255 := by
      simpa only [Lit.wf, Bool.and_eq_true, decide_eq_true_eq, m0, m1] using hz
    refine ⟨UInt8.ofNat z.toNat :: b, ?_⟩
    rw [List.map_cons, ← hb]
    congr 1
    rw [UInt8.toNat_ofNat']
    omega
set_option maxRecDepth 100000 in
theorem open_bytes {H : Type} {enc : TypeId × Value → H} {W : World} {spare : Nat → Bool} {held : Bool} {v : Value} {d : DataW H} {ps : List MemPlace} {base : Nat}
    (hval : Value.okWide Tryz.prog W .any base 27 v) (h : DataW.Trod enc Tryz.prog W 0 spare held 27 v d ps) : ∃ b : List UInt8, Bytes W v b := by
  obtain ⟨xa, xl, xc, rfl⟩ := okWide_slice Tryz.underlying27 hval
  obtain ⟨fuel, hf⟩ := h
  obtain ⟨x, l, hcs, hI, hw⟩ := open_Ints Tryz.underlying27 Tryz.underlying5 (by kernel_rfl) hf
  simp [Value.cells] at hcs
  subst hcs
  obtain ⟨b, rfl⟩ := bytes_of l hw
  refine ⟨b, ?_⟩
  unfold Ints at hI
  rw [List.length_map] at hI
  exact Sl.congr hI fun i hi => by
    have hi' : i < b.length := by omega
    simp [List.getD_eq_getElem?_getD, hi']
end Go.Proofs.YtfllcbcokncgpaaGreatDoor
