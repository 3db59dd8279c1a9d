/-
  Products and quotients mean the same by numbers: plain laws.
-/
import Derived.Test.YtbgkoapnejnfbaaDoorNearH
import Derived.Test.YtbgkoapnejnfbaaDoorScaled
namespace Go.Proofs.YtbgkoapnejnfbaaDoor
set_option linter.unusedSimpArgs false
set_option linter.unusedVariables false
open Go.RowKit

theorem inner_near {ds ds' : List Int} {cs cs' : List Nat} (hl : cs.length = cs'.length) (hn : ∀ j, nb (cs.getD j 0) = nb (cs'.getD j 0)) : ∀ (r : Nat) (s s' : Bst), s.at_ = s'.at_ → s.n = s'.n → s.out.map nbp = s'.out.map nbp →
    match inner true ds cs r s, inner true ds' cs' r s' with
    | some t, some t' => t.at_ = t'.at_ ∧ t.n = t'.n ∧ t.out.map nbp = t'.out.map nbp
    | none, none => True
    | _, _ => False
  | 0, s, s', h1, h2, h3 => ⟨h1, h2, h3⟩
  | r + 1, s, s', h1, h2, h3 => by
    rw [inner_succ, inner_succ]
    simp only [if_true, ← hl, ← h2]
    by_cases c : cs.length ≤ s.n
    · rw [if_pos c, if_pos c]; trivial
    · rw [if_neg c, if_neg c]
      refine inner_near hl hn r _ _ (by show wrap64 (s.at_ + 1) = wrap64 (s'.at_ + 1); rw [h1]) rfl ?_
      show (s.out ++ [(s.at_, Int.ofNat (cs.getD s.n 0))]).map nbp = (s'.out ++ [(s'.at_, Int.ofNat (cs'.getD s.n 0))]).map nbp
      rw [List.map_append, List.map_append, h3, h1]
      simp only [List.map_cons, List.map_nil, nbp, nbI]
      rw [show (Int.ofNat (cs.getD s.n 0)).toNat = cs.getD s.n 0 from rfl, show (Int.ofNat (cs'.getD s.n 0)).toNat = cs'.getD s.n 0 from rfl, hn]

theorem outer_near {ds ds' : List Int} {cs cs' : List Nat} (hl : cs.length = cs'.length) (hn : ∀ j, nb (cs.getD j 0) = nb (cs'.getD j 0)) : ∀ (l : List (Int × Int)) (first : Bool) (s s' : Bst), s.at_ = s'.at_ → s.n = s'.n → s.out.map nbp = s'.out.map nbp →
    match outer true ds cs first l s, outer true ds' cs' first l s' with
    | some t, some t' => t.at_ = t'.at_ ∧ t.n = t'.n ∧ t.out.map nbp = t'.out.map nbp
    | none, none => True
    | _, _ => False
  | [], _, s, s', h1, h2, h3 => ⟨h1, h2, h3⟩
  | x :: l, first, s, s', h1, h2, h3 => by
    rw [outer_cons, outer_cons]
    by_cases c : first = false ∧ x.1 < 0
    · rw [if_pos c, if_pos c]; trivial
    · rw [if_neg c, if_neg c]
      have hi := inner_near (ds := ds) (ds' := ds') hl hn x.2.toNat ⟨wrap64 (s.at_ + x.1), s.n, s.sum, s.out⟩ ⟨wrap64 (s'.at_ + x.1), s'.n, s'.sum, s'.out⟩ (by rw [h1]) h2 h3
      cases h5 : inner true ds cs x.2.toNat ⟨wrap64 (s.at_ + x.1), s.n, s.sum, s.out⟩ <;> cases h6 : inner true ds' cs' x.2.toNat ⟨wrap64 (s'.at_ + x.1), s'.n, s'.sum, s'.out⟩ <;> simp only [h5, h6] at hi ⊢
      exact outer_near hl hn l false _ _ hi.1 hi.2.1 hi.2.2

theorem bkts_near {ds ds' : List Int} {cs cs' : List Nat} (l : List (Int × Int)) (hl : cs.length = cs'.length) (hn : ∀ j, nb (cs.getD j 0) = nb (cs'.getD j 0)) : (bkts true l ds cs).1.map nbp = (bkts true l ds' cs').1.map nbp := by
  have h := outer_near (ds := ds) (ds' := ds') hl hn l true ⟨0, 0, 0, []⟩ ⟨0, 0, 0, []⟩ rfl rfl rfl
  unfold bkts
  cases h5 : outer true ds cs true l ⟨0, 0, 0, []⟩ <;> cases h6 : outer true ds' cs' true l ⟨0, 0, 0, []⟩ <;> simp only [h5, h6] at h ⊢
  exact h.2.2

theorem bkts_nonneg (l : List (Int × Int)) (ds : List Int) (cs : List Nat) : ∀ x ∈ (bkts true l ds cs).1, 0 ≤ x.2 := by
  intro x hx
  unfold bkts at hx
  cases ho : outer true ds cs true l ⟨0, 0, 0, []⟩ with
  | none => rw [ho] at hx; cases hx
  | some s =>
    rw [ho] at hx
    obtain ⟨⟨new, hr⟩, _, _⟩ := outer_read ho
    have hout := hr.out
    simp only [List.nil_append] at hout
    have hx : x ∈ s.out := hx
    rw [hout] at hx
    have hc := hr.cnts rfl
    have hm : x.2 ∈ (cs.drop 0).map Int.ofNat := by
      rw [show (cs.drop 0).map Int.ofNat = (cs.drop (⟨0, 0, 0, []⟩ : Bst).n).map Int.ofNat from rfl, ← hc]
      exact List.mem_append_left _ (List.mem_map_of_mem hx)
    obtain ⟨y, _, hy⟩ := List.mem_map.1 hm
    rw [← hy]
    exact Int.natCast_nonneg y

theorem scl_ups_near {dv : Bool} {f : Nat} {h a b : Hist} (ha : Scl dv f h a) (hb : Scl dv f h b) : (ups true a).map nbp = (ups true b).map nbp := by
  unfold Go.Proofs.YtbgkoapnejnfbaaDoor.ups
  rw [ha.same.2.2.2.1, hb.same.2.2.2.1]
  refine bkts_near _ (ha.lu.trans hb.lu.symm) fun j => ?_
  by_cases hj : j < h.fups.length
  · rw [(ha.us j hj).nb, (hb.us j hj).nb]
  · rw [List.getD_eq_getElem?_getD, List.getD_eq_getElem?_getD, List.getElem?_eq_none (by rw [ha.lu]; omega), List.getElem?_eq_none (by rw [hb.lu]; omega)]
theorem scl_downs_near {dv : Bool} {f : Nat} {h a b : Hist} (ha : Scl dv f h a) (hb : Scl dv f h b) : (downs true a).map nbp = (downs true b).map nbp := by
  unfold Go.Proofs.YtbgkoapnejnfbaaDoor.downs
  rw [ha.same.2.2.2.2.1, hb.same.2.2.2.2.1]
  refine bkts_near _ (ha.ld.trans hb.ld.symm) fun j => ?_
  by_cases hj : j < h.fdowns.length
  · rw [(ha.ds j hj).nb, (hb.ds j hj).nb]
  · rw [List.getD_eq_getElem?_getD, List.getD_eq_getElem?_getD, List.getElem?_eq_none (by rw [ha.ld]; omega), List.getElem?_eq_none (by rw [hb.ld]; omega)]
theorem nearD_of {dv : Bool} {f : Nat} {h a b : Hist} (ha : Scl dv f h a) (hb : Scl dv f h b) : NearD { a with ups := [], downs := [] } b :=
  ⟨ha.same.2.1.trans hb.same.2.1.symm, ha.same.2.2.1.trans hb.same.2.2.1.symm, ha.sum.nb.trans hb.sum.nb.symm, ha.zc.nb.trans hb.zc.nb.symm, ha.cnt.nb.trans hb.cnt.nb.symm, ha.same.2.2.2.2.2.trans hb.same.2.2.2.2.2.symm,
    (bkts_near (ds := []) (ds' := a.ups) a.pos rfl fun _ => rfl).trans (scl_ups_near ha hb), (bkts_near (ds := []) (ds' := a.downs) a.neg rfl fun _ => rfl).trans (scl_downs_near ha hb)⟩

theorem Scl.fits1 {dv : Bool} {f : Nat} {h a : Hist} (s : Scl dv f h a) (hf : Fits h) : Fits a := by
  obtain ⟨_, _, _, e1, e2, e3⟩ := s.same
  exact ⟨by rw [e1]; exact hf.pos, by rw [e2]; exact hf.neg, by rw [s.ups]; exact hf.ups, by rw [s.downs]; exact hf.downs, by rw [s.lu]; exact hf.fups, by rw [s.ld]; exact hf.fdowns, by rw [e3]; exact hf.cus⟩
theorem Scl.fits0 {dv : Bool} {f : Nat} {h a : Hist} (s : Scl dv f h a) (hf : Fits h) : Fits { a with ups := [], downs := [] } := by
  have := s.fits1 hf
  exact ⟨this.pos, this.neg, Nat.zero_le _, Nat.zero_le _, this.fups, this.fdowns, this.cus⟩
theorem Scl.wf1 {dv : Bool} {f : Nat} {h a : Hist} (s : Scl dv f h a) (hw : Wf h) : Wf a := by
  obtain ⟨_, _, _, e1, e2, e3⟩ := s.same
  exact ⟨by rw [e1]; exact hw.pos, by rw [e2]; exact hw.neg⟩
theorem Scl.wf0 {dv : Bool} {f : Nat} {h a : Hist} (s : Scl dv f h a) (hw : Wf h) : Wf { a with ups := [], downs := [] } := ⟨(s.wf1 hw).pos, (s.wf1 hw).neg⟩

/-- what is not shifted away is no 0 -/
theorem not_zero {f : Nat} (h : IntKind.u64.wrap ((f : Int) * 2) ≠ 0) : (FloatKind.f64.format.order f 0 == some .eq) = false := by
  have e1 : FloatKind.f64.format.signWeight = 9223372036854775808 := by decide
  have e2 : FloatKind.f64.format.binade = 4503599627370496 := by decide
  have e3 : FloatKind.f64.format.infRung = 9218868437227405312 := by decide
  have e4 : FloatKind.f64.format.read 0 = .number false 0 FloatKind.f64.format.leastPlace := by decide
  have hm : f % 9223372036854775808 ≠ 0 := by
    intro c
    apply h
    rw [IntKind.wrap_u64]
    omega
  have key : ∀ (s : Bool) (m : Nat) (i : Int), 0 < m → (Ieee.Datum.order (.number s m i) (.number false 0 FloatKind.f64.format.leastPlace) == some .eq) = false := by
    intro s m i hmm
    simp only [Ieee.Datum.order, Ieee.signed, Bool.false_eq_true, if_false, Nat.zero_shiftLeft]
    rw [beq_eq_false_iff_ne]
    intro c
    have c := Int.compare_eq_eq.1 (Option.some.inj c)
    have hp : ∀ k : Nat, 0 < m <<< k := fun k => by rw [Nat.shiftLeft_eq]; exact Nat.mul_pos hmm (Nat.pow_pos (by decide))
    have hq := hp (i - min i FloatKind.f64.format.leastPlace).toNat
    generalize m <<< _ = z at c hq
    cases s <;> simp at c <;> omega
  unfold Ieee.Format.order
  rw [e4]
  unfold Ieee.Format.read
  rw [e1, e2, e3]
  simp only
  split
  · exact key _ _ _ (by omega)
  · split
    · exact key _ _ _ (by omega)
    · split
      · cases (f / 9223372036854775808 % 2 == 1) <;> rfl
      · rfl
end Go.Proofs.YtbgkoapnejnfbaaDoor
