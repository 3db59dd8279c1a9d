/-
  What the two laid variables hold: errors. Bytes, opened.
-/
import Derived.Test.YtkbkggamfkadnaaGreatDoorRows
import Derived.Test.YtkbkggamfkadnaaGreatDoorPad
import Derived.Test.YtkbkggamfkadnaaGreatDoorIdxArgs
import Derived.LaidLaws
import Derived.LaidMore
import Derived.Lay
import Derived.Stop.Joined
namespace Go.Proofs.YtkbkggamfkadnaaGreatDoor
set_option linter.unusedSimpArgs false
set_option linter.unusedVariables false
open Go.RowKit Go.Deep Go.ChangeShapes Go.WideShapes Go.ChangeAt

abbrev ET : TypeId := 136
theorem laid_mem2 {P : Program} {w : World} {n : String} {d : DataW Unit} : ∀ {l : List (String × DataW Unit)} {ps : List MemPlace}, DataW.LaidVars P w l ps → (n, d) ∈ l →
    ∃ g t cs fuel p, P.globalNamed n = some g ∧ (P.globals[g]?).map (·.type) = some t ∧ w.var? P n = some cs ∧ DataW.trod (fun _ => ()) P w 0 (fun _ => true) false fuel t cs.toList = some (d, p) ∧ ∀ x ∈ MemPlace.row ⟨g, 0, none⟩ cs.size ++ p, x ∈ ps
  | [], _, _, hm => by cases hm
  | (m, d') :: r, ps, h, hm => by
    obtain ⟨g, t, cs, fuel, p, q, h1, h2, h3, h4, h5, h6⟩ := h
    rcases List.mem_cons.1 hm with e | hm
    · cases e
      exact ⟨g, t, cs, fuel, p, h1, h2, h3, h4, fun x hx => by rw [h6]; exact List.mem_append_left _ hx⟩
    · obtain ⟨g', t', cs', fuel', p', k1, k2, k3, k4, k5⟩ := laid_mem2 h5 hm
      exact ⟨g', t', cs', fuel', p', k1, k2, k3, k4, fun x hx => by rw [h6]; exact List.mem_append_right _ (k5 x hx)⟩
theorem star_name : "*errors.errorString" = "*" ++ "errors.errorString" := by decide
set_option maxRecDepth 100000 in
theorem only_ET (u : TypeId) (h : Tryz.prog.typeName? 3 u = some "*errors.errorString") : u = ET :=
  typeName_ptr_named (nm := "errors.errorString") (by rw [← star_name]; kernel_rfl) (by kernel_rfl) (by decide) u (by rw [← star_name]; exact h)
set_option maxRecDepth 100000 in
theorem sentinel_at {w : World} {l : List (String × DataW Unit)} (h : laidMet Tryz.prog l w) {n : String} {text : List UInt8} {g : Nat} (hm : (n, .iface "*errors.errorString" (.ptr (.agg [.lit (.string text)]))) ∈ l) (hg : Tryz.prog.globalNamed n = some g) (ht : (Tryz.prog.globals[g]?).map (·.type) = some 57) :
    ∃ a s, w.cell? ⟨g, 0, none⟩ = some (.iface ET (.pointer (some a))) ∧ w.cell? a = some (.string s) ∧ s.data.toList = text ∧ ∃ c t, w.heap[a.block]? = some (.cells c t (0, 0)) := by
  obtain ⟨ps, hl, _, hrows⟩ := h
  obtain ⟨g', t, cs, fuel, p, h1, h2, h3, h4, h5⟩ := laid_mem2 hl hm
  obtain rfl := Option.some.inj (hg.symm.trans h1)
  obtain rfl := Option.some.inj (ht.symm.trans h2)
  obtain ⟨l0⟩ := cs
  have ok0 : ∀ u v, l0 = [.iface u v] → Value.okWide Tryz.prog w .any 0 u v := fun u v e => by
    subst e
    exact (hrows g 0 (h5 _ (by simp [MemPlace.row]))).2 u v (by simpa using World.var?_cell h1 h3 0)
  obtain ⟨a, s, rfl, hc, hs, hz, hp⟩ := errorString_of_trod Tryz.underlying57 (only_ET) Tryz.underlying136 Tryz.underlying138 rfl rfl Tryz.underlying9 (by kernel_rfl) (by kernel_rfl) h4 ok0
  refine ⟨a, s, by simpa using World.var?_cell h1 h3 0, hc, hs, ?_⟩
  subst hp
  exact (hrows a.block (a.off + 0) (h5 _ (by simp [MemPlace.row]))).1
/-- the two errors that are told apart -/
structure Errs2 (w : World) (a b : Addr) : Prop where
  size : w.cell? ⟨EG, 0, none⟩ = some (.iface ET (.pointer (some a)))
  sum : w.cell? ⟨EC, 0, none⟩ = some (.iface ET (.pointer (some b)))
  ne : a ≠ b
  blkA : ∃ c t, w.heap[a.block]? = some (.cells c t (0, 0))
  blkB : ∃ c t, w.heap[b.block]? = some (.cells c t (0, 0))
abbrev Errs (w : World) : Prop := ∃ a b, Errs2 w a b
set_option maxRecDepth 100000 in
theorem errs_of {w : World} (h : laidMetH Tryz.prog Rows.fnDecodeAtRow.laid w) : Errs w := by
  rw [MakeChecks.laidMetH_plain _ _ _ (by kernel_rfl)] at h
  obtain ⟨a, s, a1, a2, a3, a4⟩ := sentinel_at h (List.mem_of_getElem? (show Rows.fnDecodeAtRow.laid[0]? = some ("pub-quillon/pub/prometheus/tsdb/encoding.ErrInvalidSize", .iface "*errors.errorString" (.ptr (.agg [.lit (.string [105, 110, 118, 97, 108, 105, 100, 32, 115, 105, 122, 101])]))) from rfl)) (g := EG) (by kernel_rfl) (by kernel_rfl)
  obtain ⟨b, u, b1, b2, b3, b4⟩ := sentinel_at h (List.mem_of_getElem? (show Rows.fnDecodeAtRow.laid[1]? = some ("pub-quillon/pub/prometheus/tsdb/encoding.ErrInvalidChecksum", .iface "*errors.errorString" (.ptr (.agg [.lit (.string [105, 110, 118, 97, 108, 105, 100, 32, 99, 104, 101, 99, 107, 115, 117, 109])]))) from rfl)) (g := EC) (by kernel_rfl) (by kernel_rfl)
  refine ⟨a, b, a1, b1, ?_, a4, b4⟩
  rintro rfl
  rw [a2] at b2
  injection b2 with b2
  injection b2 with b2
  subst b2
  rw [a3] at b3
  exact absurd b3 (by decide)

theorem bytes_of (l : List Int) (h : ∀ z ∈ l, (Lit.int .u8 z).wf = true) : ∃ b : List UInt8, l = b.map fun x => (x.toNat : Int) := by
  induction l with
  | nil => exact ⟨[], rfl⟩
  | cons z l ih =>
    obtain ⟨b, hb⟩ := ih fun y hy => h y (List.mem_cons_of_mem _ hy)
    have hz := h z (by simp)
    have m0 : IntKind.u8.min = 0 := by decide
    have m1 : IntKind.u8.max = 255 := by decide
    have h0 : 0 ≤ z ∧ z ≤ 255 := by
      simpa only [Lit.wf, Bool.and_eq_true, decide_eq_true_eq, m0, m1] using hz
    refine ⟨UInt8.ofNat z.toNat :: b, ?_⟩
    rw [List.map_cons, ← hb]
    congr 1
    rw [UInt8.toNat_ofNat']
    omega
set_option maxRecDepth 100000 in
theorem open_bytes {H : Type} {enc : TypeId × Value → H} {W : World} {spare : Nat → Bool} {held : Bool} {v : Value} {d : DataW H} {ps : List MemPlace} {base : Nat}
    (hval : Value.okWide Tryz.prog W .any base 22 v) (h : DataW.Trod enc Tryz.prog W 0 spare held 22 v d ps) : ∃ b : List UInt8, Bytes W v b := by
  obtain ⟨xa, xl, xc, rfl⟩ := okWide_slice Tryz.underlying22 hval
  obtain ⟨fuel, hf⟩ := h
  obtain ⟨x, l, hcs, hI, hw⟩ := open_Ints Tryz.underlying22 Tryz.underlying5 (by kernel_rfl) hf
  simp [Value.cells] at hcs
  subst hcs
  obtain ⟨b, rfl⟩ := bytes_of l hw
  refine ⟨b, ?_⟩
  unfold Ints at hI
  rw [List.length_map] at hI
  exact Sl.congr hI fun i hi => by
    have hi' : i < b.length := by omega
    simp [List.getD_eq_getElem?_getD, hi']
end Go.Proofs.YtkbkggamfkadnaaGreatDoor
