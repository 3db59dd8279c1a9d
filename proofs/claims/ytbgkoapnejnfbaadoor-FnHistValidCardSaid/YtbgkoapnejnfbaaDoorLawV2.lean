/-
  A histogram that fits is valid, if its counts add up; what is valid has buckets: plain laws.
-/
import Derived.Test.YtbgkoapnejnfbaaDoorFit
import Derived.Test.YtbgkoapnejnfbaaDoorLawV1
import Derived.Test.YtbgkoapnejnfbaaDoorHistValid
namespace Go.Proofs.YtbgkoapnejnfbaaDoor
set_option linter.unusedSimpArgs false
set_option linter.unusedVariables false
open Go.RowKit

theorem cmp_swap {a b : Int} (h : compare a b = .lt) : compare b a = .gt := by
  rw [Int.compare_eq_gt]; exact Int.compare_eq_lt.1 h

theorem order_swap {x y : Nat} (h : FloatKind.f64.format.order x y = some .lt) : FloatKind.f64.format.order y x = some .gt := by
  unfold Ieee.Format.order at *
  generalize FloatKind.f64.format.read x = a at h ⊢
  generalize FloatKind.f64.format.read y = b at h ⊢
  cases a with
  | nan s f => cases b <;> simp [Ieee.Datum.order] at h
  | infinity s =>
    cases b with
    | nan t f => simp [Ieee.Datum.order] at h
    | infinity t => cases s <;> cases t <;> first | exact absurd h (by decide) | decide
    | number t n j => cases s <;> first | rfl | (simp [Ieee.Datum.order] at h)
  | number s m i =>
    cases b with
    | nan t f => simp [Ieee.Datum.order] at h
    | infinity t => cases t <;> first | rfl | (simp [Ieee.Datum.order] at h)
    | number t n j =>
      simp only [Ieee.Datum.order] at h ⊢
      have h' := Option.some.inj h
      rw [Int.min_comm j i]
      exact congrArg some (cmp_swap h')

theorem mask2047 (a : Nat) : bits .and .u64 (a : Int) 2047 = ((a % 2048 : Nat) : Int) := by
  show IntKind.u64.wrap ((BitVec.ofInt 64 (a : Int) &&& BitVec.ofInt 64 (2047 : Int)).toNat : Int) = _
  rw [BitVec.toNat_and, BitVec.ofInt_natCast, BitVec.toNat_ofNat, show (BitVec.ofInt 64 (2047 : Int)).toNat = 2 ^ 11 - 1 by decide, Nat.and_two_pow_sub_one_eq_mod, IntKind.wrap_u64]
  omega

theorem finite_read {x : Nat} (h : finite x = true) : ∃ s m i, FloatKind.f64.format.read x = .number s m i := by
  have h1 : (x / 4503599627370496) % 2048 ≠ 2047 := by
    unfold finite at h
    rw [show ((x : Int) / 4503599627370496) = ((x / 4503599627370496 : Nat) : Int) by omega, mask2047] at h
    simp at h
    omega
  have e1 : FloatKind.f64.format.signWeight = 9223372036854775808 := by decide
  have e2 : FloatKind.f64.format.binade = 4503599627370496 := by decide
  have e3 : FloatKind.f64.format.infRung = 9218868437227405312 := by decide
  unfold Ieee.Format.read
  rw [e1, e2, e3]
  simp only
  split
  · exact ⟨_, _, _, rfl⟩
  · split
    · exact ⟨_, _, _, rfl⟩
    · exfalso; omega

theorem fin_neginf {x : Nat} (h : finite x = true) : FloatKind.f64.format.order x 18442240474082181120 = some .gt := by
  obtain ⟨s, m, i, hr⟩ := finite_read h
  unfold Ieee.Format.order
  rw [hr, show FloatKind.f64.format.read 18442240474082181120 = .infinity true by decide]
  rfl
theorem fin_inf {x : Nat} (h : finite x = true) : FloatKind.f64.format.order x 9218868437227405312 = some .lt := by
  obtain ⟨s, m, i, hr⟩ := finite_read h
  unfold Ieee.Format.order
  rw [hr, show FloatKind.f64.format.read 9218868437227405312 = .infinity false by decide]
  rfl

/-- a plain number is not below 0 -/
theorem plain_fk {x : Nat} (h : plain x = true) : (FloatKind.f64.format.order x 0 == some .lt) = false := by
  have hx : x < 9214364837600034816 := by unfold plain at h; have := of_decide_eq_true h; omega
  have e1 : FloatKind.f64.format.signWeight = 9223372036854775808 := by decide
  have e2 : FloatKind.f64.format.binade = 4503599627370496 := by decide
  have e3 : FloatKind.f64.format.infRung = 9218868437227405312 := by decide
  have e4 : FloatKind.f64.format.read 0 = .number false 0 FloatKind.f64.format.leastPlace := by decide
  obtain ⟨m, i, hr⟩ : ∃ m i, FloatKind.f64.format.read x = .number false m i := by
    unfold Ieee.Format.read
    rw [e1, e2, e3, show x / 9223372036854775808 = 0 by omega, show x % 9223372036854775808 = x by omega]
    simp only
    split
    · exact ⟨_, _, rfl⟩
    · rw [if_pos (by omega)]
      exact ⟨_, _, rfl⟩
  unfold Ieee.Format.order
  rw [hr, e4]
  simp only [Ieee.Datum.order, Ieee.signed, Bool.false_eq_true, if_false, Nat.zero_shiftLeft]
  rw [beq_eq_false_iff_ne]
  intro c
  have := Int.compare_eq_lt.1 (Option.some.inj c)
  have h0 : ∀ a : Nat, ¬ ((a : Int) < ((0 : Nat) : Int)) := fun a => by omega
  exact h0 _ this

theorem incr_go : ∀ (l : List Nat) (p : Nat), (∀ j (hj : j < l.length), finite l[j] = true ∧ (0 < j → (FloatKind.f64.format.order (l.getD (j - 1) 0) l[j] == some .lt) = true)) → (∀ h : 0 < l.length, FloatKind.f64.format.order l[0] p = some .gt) → ∃ q, incr l p = some q ∧ (q = p ∨ finite q = true)
  | [], p, _, _ => ⟨p, rfl, .inl rfl⟩
  | x :: l, p, h, hp => by
    have h0 := hp (by simp)
    simp only [List.getElem_cons_zero] at h0
    have hx := (h 0 (by simp)).1
    simp only [List.getElem_cons_zero] at hx
    unfold incr
    rw [if_neg (by unfold fle; rw [h0]; decide)]
    obtain ⟨q, hq, hq'⟩ := incr_go l x (fun j hj => by
      have := h (j + 1) (by simp; omega)
      simp only [List.getElem_cons_succ] at this
      refine ⟨this.1, fun h0 => ?_⟩
      have := this.2 (by omega)
      match j, h0 with
      | j + 1, _ => simpa using this) (fun h1 => by
      have := (h 1 (by simp; omega)).2 (by omega)
      simp only [List.getElem_cons_succ] at this
      exact order_swap (by simpa using this))
    refine ⟨q, hq, .inr ?_⟩
    rcases hq' with rfl | h
    · exact hx
    · exact h

theorem addAll_range : ∀ (l : List (Int × Int)) (t : Int), 0 ≤ t → t < 18446744073709551616 → 0 ≤ addAll t l ∧ addAll t l < 18446744073709551616
  | [], t, h, h' => ⟨h, h'⟩
  | x :: l, t, h, h' => by
    refine addAll_range l _ ?_ ?_ <;> rw [IntKind.wrap_u64] <;> omega

theorem addAll_is {t : Int} (l : List (Int × Int)) (h : 0 ≤ t) (h' : t < 18446744073709551616) : addAll t l = IntKind.u64.wrap (t + cntSum l) := by
  rw [← addAll_eq, u64_same (addAll_range l t h h').1 (addAll_range l t h h').2]

theorem countOk_eq (h : Hist) (hz : (h.zc : Int) ≤ 1125899906842624) : countOk (addAll 0 (bkts false h.neg h.downs h.fdowns).1) (addAll 0 (bkts false h.pos h.ups h.fups).1) h.zc h.cnt h.sum = countsUp h := by
  have e : IntKind.u64.wrap (IntKind.u64.wrap (addAll 0 (bkts false h.neg h.downs h.fdowns).1 + addAll 0 (bkts false h.pos h.ups h.fups).1) + h.zc) = addAll (addAll h.zc (bkts false h.pos h.ups h.fups).1) (bkts false h.neg h.downs h.fdowns).1 := by
    generalize (bkts false h.neg h.downs h.fdowns).1 = B
    generalize (bkts false h.pos h.ups h.fups).1 = A
    have hA := addAll_range A h.zc (by omega) (by omega)
    rw [addAll_is B hA.1 hA.2, addAll_is A (by omega) (by omega), addAll_is A (by omega) (by omega), addAll_is B (by omega) (by omega), u64_add, u64_add, Int.zero_add, Int.zero_add]
    rw [IntKind.wrap_u64, IntKind.wrap_u64, IntKind.wrap_u64, IntKind.wrap_u64]
    omega
  unfold countOk countsUp
  rw [e]
  by_cases c : (!(FloatKind.f64.format.order h.sum h.sum == some .eq)) = true
  · rw [if_pos c, if_pos c]
    rw [Bool.eq_iff_iff]
    simp
  · rw [if_neg c, if_neg c]

theorem spansOk_of {fl : Bool} {l : List (Int × Int)} {ds : List Int} {cs : List Nat} (h : (bkts fl l ds cs).2 = true) (hw : ∀ x ∈ l, 0 ≤ x.2) : spansOk l (if fl = true then cs.length else ds.length : Nat) = true := by
  obtain ⟨h1, h2, _, _⟩ := bkts_read h
  unfold spansOk
  rw [h2, ← lens_spanSum hw, h1]
  simp

theorem fk_of {l : List (Int × Int)} {ds : List Int} {cs : List Nat} (h : (bkts true l ds cs).2 = true) (hp : ∀ x ∈ (bkts true l ds cs).1, plain x.2 = true) : fk cs = true := by
  obtain ⟨_, _, _, h4⟩ := bkts_read h
  have h4 := h4 rfl
  unfold fk
  rw [List.all_eq_true]
  intro x hx
  have : Int.ofNat x ∈ (bkts true l ds cs).1.map (·.2) := by rw [h4]; exact List.mem_map_of_mem hx
  obtain ⟨y, hy, e⟩ := List.mem_map.1 this
  have hp := hp y hy
  rw [e] at hp
  rw [plain_fk hp]
  rfl

/-! custom bounds: the indices -/
theorem inner_first {fl : Bool} {ds : List Int} {cs : List Nat} {r : Nat} {s s' : Bst} (h : inner fl ds cs (r + 1) s = some s') : ∃ c, (s.at_, c) ∈ s'.out := by
  rw [inner_succ] at h
  by_cases h1 : (if fl = true then cs.length else ds.length) ≤ s.n
  · rw [if_pos h1] at h; cases h
  rw [if_neg h1] at h
  by_cases hf : fl = true
  · rw [if_pos hf] at h
    obtain ⟨new, hn⟩ := inner_read h
    exact ⟨Int.ofNat (cs.getD s.n 0), by rw [hn.out]; simp⟩
  · rw [if_neg hf] at h
    by_cases h2 : wrap64 (s.sum + ds.getD s.n 0) < 0
    · rw [if_pos h2] at h; cases h
    rw [if_neg h2] at h
    obtain ⟨new, hn⟩ := inner_read h
    exact ⟨IntKind.u64.wrap (wrap64 (s.sum + ds.getD s.n 0)), by rw [hn.out]; simp⟩

theorem inner_at {fl : Bool} {ds : List Int} {cs : List Nat} : ∀ {r : Nat} {s s' : Bst}, inner fl ds cs r s = some s' → wrap64 s.at_ = s.at_ → s'.at_ = wrap64 (s.at_ + r) ∧ (0 < r → ∃ a c, (a, c) ∈ s'.out ∧ s'.at_ = wrap64 (a + 1))
  | 0, s, s', h, hw => by
    obtain rfl : s = s' := Option.some.inj h
    exact ⟨by simpa using hw.symm, fun h => by omega⟩
  | r + 1, s, s', h, hw => by
    have hstep : ∃ s1 c, s1.at_ = wrap64 (s.at_ + 1) ∧ inner fl ds cs r s1 = some s' ∧ (s.at_, c) ∈ s1.out := by
      rw [inner_succ] at h
      by_cases h1 : (if fl = true then cs.length else ds.length) ≤ s.n
      · rw [if_pos h1] at h; cases h
      rw [if_neg h1] at h
      by_cases hf : fl = true
      · rw [if_pos hf] at h
        exact ⟨_, Int.ofNat (cs.getD s.n 0), rfl, h, by simp⟩
      · rw [if_neg hf] at h
        by_cases h2 : wrap64 (s.sum + ds.getD s.n 0) < 0
        · rw [if_pos h2] at h; cases h
        rw [if_neg h2] at h
        exact ⟨_, IntKind.u64.wrap (wrap64 (s.sum + ds.getD s.n 0)), rfl, h, by simp⟩
    obtain ⟨s1, c, ha, hi, hc⟩ := hstep
    obtain ⟨g1, g2⟩ := inner_at hi (by rw [ha]; exact wrap64_wrap _)
    refine ⟨by rw [g1, ha, wrap64_add]; congr 1; omega, fun _ => ?_⟩
    by_cases hr : 0 < r
    · exact g2 hr
    · have : r = 0 := by omega
      subst this
      obtain rfl : s1 = s' := Option.some.inj hi
      exact ⟨_, _, hc, ha⟩

theorem outer_at {fl : Bool} {ds : List Int} {cs : List Nat} : ∀ {l : List (Int × Int)} {first : Bool} {s s' : Bst}, outer fl ds cs first l s = some s' → wrap64 s.at_ = s.at_ → (∀ x ∈ l, 1 ≤ x.2) →
    s'.at_ = tot64 l s.at_ ∧ (l ≠ [] → ∃ a c, (a, c) ∈ s'.out ∧ s'.at_ = wrap64 (a + 1)) ∧ (∀ x ∈ l.head?, ∃ c, (wrap64 (s.at_ + x.1), c) ∈ s'.out)
  | [], first, s, s', h, hw, _ => by
    obtain rfl : s = s' := Option.some.inj h
    exact ⟨rfl, fun h => absurd rfl h, (fun _ h => by cases h)⟩
  | x :: l, first, s, s', h, hw, h1 => by
    rw [outer_cons] at h
    by_cases h2 : first = false ∧ x.1 < 0
    · rw [if_pos h2] at h; cases h
    rw [if_neg h2] at h
    cases hi : inner fl ds cs x.2.toNat ⟨wrap64 (s.at_ + x.1), s.n, s.sum, s.out⟩ with
    | none => rw [hi] at h; cases h
    | some s1 =>
      rw [hi] at h
      have hx := h1 x (by simp)
      obtain ⟨g1, g2⟩ := inner_at hi (wrap64_wrap _)
      obtain ⟨⟨new, hb⟩, _⟩ := outer_read h
      have hpos : 0 < x.2.toNat := by omega
      have hat : s1.at_ = wrap64 (s.at_ + (x.2 + x.1)) := by
        rw [g1]
        show wrap64 (wrap64 (s.at_ + x.1) + _) = _
        rw [wrap64_add]
        congr 1
        omega
      obtain ⟨k1, k2, _⟩ := outer_at h (by rw [hat]; exact wrap64_wrap _) fun y hy => h1 y (List.mem_cons_of_mem _ hy)
      refine ⟨by rw [k1, hat]; rfl, fun _ => ?_, fun y hy => ?_⟩
      · by_cases hl : l = []
        · subst hl
          obtain rfl : s1 = s' := Option.some.inj h
          exact g2 hpos
        · exact k2 hl
      · obtain rfl : x = y := Option.some.inj hy
        obtain ⟨r, hr⟩ : ∃ r, x.2.toNat = r + 1 := ⟨x.2.toNat - 1, by omega⟩
        rw [hr] at hi
        obtain ⟨c, hc⟩ := inner_first hi
        exact ⟨c, by rw [hb.out]; exact List.mem_append_left _ hc⟩

theorem custom_of {fl : Bool} {h : Hist} (hf : Fit fl h) (hw : Wf h) (hs : h.schema = -53) : customOk h.cus h.pos (if fl = true then h.fups.length else h.ups.length : Nat) = true := by
  have hcu : (h.schema == -53) = true := by rw [hs]; rfl
  obtain ⟨q, hq, hq'⟩ := incr_go h.cus 18442240474082181120 (fun j hj => ⟨(hf.bounds j hj).1, (hf.bounds j hj).2.2⟩) fun h0 => fin_neginf (hf.bounds 0 h0).1
  unfold customOk
  rw [hq]
  simp only
  obtain ⟨most, hm, hbk⟩ := hf.bk
  have hbp : ∀ x ∈ (bkts fl h.pos h.ups h.fups).1, 0 ≤ x.1 ∧ x.1 ≤ h.cus.length := fun x hx => (hbk x (List.mem_append_left _ hx)).2.2.2.2 hcu
  obtain ⟨r1, r2, _, _⟩ := bkts_read hf.pos
  have hsp : spanSum h.pos = (if fl = true then h.fups.length else h.ups.length : Nat) := by rw [← lens_spanSum fun x hx => (hw.pos x hx).2.1, r1]
  have hone : ∀ x ∈ h.pos, 1 ≤ x.2 := fun x hx => (hf.spans x (List.mem_append_left _ hx)).1
  have hfst : (!(FloatKind.f64.format.order q 9218868437227405312 == some .eq)) = true := by
    rcases hq' with rfl | hq'
    · decide
    · rw [fin_inf hq']; decide
  have hout : ∃ s, outer fl h.ups h.fups true h.pos ⟨0, 0, 0, []⟩ = some s ∧ (bkts fl h.pos h.ups h.fups).1 = s.out := by
    have hp := hf.pos
    unfold bkts at hp ⊢
    cases ho : outer fl h.ups h.fups true h.pos ⟨0, 0, 0, []⟩ with
    | none => rw [ho] at hp; cases hp
    | some s => exact ⟨s, rfl, rfl⟩
  obtain ⟨s, hso, hse⟩ := hout
  rw [hse] at hbp
  obtain ⟨k1, k2, k3⟩ := outer_at hso (by unfold wrap64; rfl) hone
  have hlen : h.cus.length ≤ 60 := hf.lens.2.2.2.2.2.2
  have htot : tot64 h.pos 0 ≤ (h.cus.length : Int) + 1 := by
    by_cases he : h.pos = []
    · rw [he]; simp [tot64]; omega
    · obtain ⟨a, c, hm, ha⟩ := k2 he
      have hr := hbp _ hm
      simp only at hr
      rw [show tot64 h.pos 0 = s.at_ from k1.symm, ha]
      unfold wrap64
      omega
  have hoffs : offs h.pos = true := by
    unfold offs
    rw [List.all_eq_true]
    intro x hx
    rw [decide_eq_true_eq]
    match hp : h.pos, hx with
    | y :: l, hx =>
      rcases List.mem_cons.1 hx with rfl | hx
      · obtain ⟨c, hc⟩ := k3 x (by rw [hp]; rfl)
        have hr := (hbp _ hc).1
        have hg := hf.spans x (List.mem_append_left _ (by rw [hp]; simp))
        simp only at hr
        unfold GoodS at hg
        unfold wrap64 at hr
        omega
      · unfold offsOk at r2
        rw [hp, List.tail_cons, List.all_eq_true] at r2
        exact of_decide_eq_true (r2 x hx)
  rw [hfst, hoffs, hsp]
  simp
  omega

theorem valid_of_fit {fl : Bool} {h : Hist} (hf : Fit fl h) (hw : Wf h) : validH fl h = (fl || countsUp h) := by
  have wp : ∀ x ∈ h.pos, 0 ≤ x.2 := fun x hx => (hw.pos x hx).2.1
  have wn : ∀ x ∈ h.neg, 0 ≤ x.2 := fun x hx => (hw.neg x hx).2.1
  have sp := spansOk_of hf.pos wp
  have sn := spansOk_of hf.neg wn
  obtain ⟨most, hm, hbk⟩ := hf.bk
  cases fl with
  | true =>
    have p1 := fk_of hf.pos fun x hx => (hbk x (List.mem_append_left _ hx)).2.2.1 rfl
    have p2 := fk_of hf.neg fun x hx => (hbk x (List.mem_append_right _ hx)).2.2.1 rfl
    simp only [if_true] at sp sn
    unfold validH validF
    simp only [if_true, Bool.true_or]
    by_cases hs : h.schema = -53
    · obtain ⟨c1, c2, c3⟩ := hf.custom hs
      have cu := custom_of hf hw hs
      simp only [if_true] at cu
      have hneg : h.neg = [] := List.length_eq_zero_iff.1 c1
      obtain ⟨r1, _, _, _⟩ := bkts_read hf.neg
      rw [hneg] at r1
      have hd : h.fdowns = [] := List.length_eq_zero_iff.1 (by simpa [lens] using r1.symm)
      have z1 : h.zc = 0 := by omega
      have z2 : h.thr = 0 := by omega
      rw [if_pos (by rw [hs]; rfl), cu, z1, z2, hneg, hd, p1]
      decide
    · obtain ⟨_, hc⟩ := hf.exp hs
      have hc' : h.cus = [] := List.length_eq_zero_iff.1 hc
      rw [if_neg (by simpa using hs), sp, sn, p1, p2, hc']
      rfl
  | false =>
    obtain ⟨_, _, p3, _⟩ := bkts_read hf.pos
    obtain ⟨_, _, n3, _⟩ := bkts_read hf.neg
    have p3 := p3 rfl 0
    have n3 := n3 rfl 0
    have hz := (hf.int rfl).2.2
    have hco := countOk_eq h hz
    simp only [Bool.false_eq_true, if_false] at sp sn
    unfold validH validI
    simp only [Bool.false_eq_true, if_false, Bool.false_or]
    by_cases hs : h.schema = -53
    · obtain ⟨c1, c2, c3⟩ := hf.custom hs
      have cu := custom_of hf hw hs
      simp only [Bool.false_eq_true, if_false] at cu
      have hneg : h.neg = [] := List.length_eq_zero_iff.1 c1
      obtain ⟨r1, _, _, _⟩ := bkts_read hf.neg
      rw [hneg] at r1
      have hd : h.downs = [] := List.length_eq_zero_iff.1 (by simpa [lens] using r1.symm)
      have z1 : h.zc = 0 := by omega
      have z2 : h.thr = 0 := by omega
      have hb0 : addAll 0 (bkts false h.neg h.downs h.fdowns).1 = 0 := by rw [hneg]; rfl
      rw [hb0] at hco
      rw [if_pos (by rw [hs]; rfl), cu, p3]
      simp only [Bool.true_and]
      rw [hco, z1, z2, hneg, hd]
      have : (FloatKind.f64.format.order 0 0 == some .eq) = true := by decide
      rw [this]
      simp
    · obtain ⟨_, hc⟩ := hf.exp hs
      have hc' : h.cus = [] := List.length_eq_zero_iff.1 hc
      rw [if_neg (by simpa using hs), sp, sn, p3, n3, hco, hc']
      simp

/-- what Validate takes has buckets -/
theorem bkts_of_valid {fl : Bool} {h : Hist} (hw : Wf h) (hs : h.schema ≠ -53) (hv : validH fl h = true) : (bkts fl h.pos h.ups h.fups).2 = true ∧ (bkts fl h.neg h.downs h.fdowns).2 = true := by
  have wp : ∀ x ∈ h.pos, 0 ≤ x.2 := fun x hx => (hw.pos x hx).2.1
  have wn : ∀ x ∈ h.neg, 0 ≤ x.2 := fun x hx => (hw.neg x hx).2.1
  cases fl with
  | true =>
    unfold validH validF at hv
    rw [if_pos rfl, if_neg (by simpa using hs)] at hv
    simp only [Bool.and_eq_true, spansOk, decide_eq_true_eq] at hv
    obtain ⟨⟨h1, h2⟩, ⟨h3, h4⟩, _⟩ := hv
    rw [← lens_spanSum wp] at h2
    rw [← lens_spanSum wn] at h4
    exact ⟨bkts_go (by simp only [if_true]; omega) h1 (fun h => by cases h), bkts_go (by simp only [if_true]; omega) h3 (fun h => by cases h)⟩
  | false =>
    unfold validH validI at hv
    rw [if_neg (by simp), if_neg (by simpa using hs)] at hv
    simp only [Bool.and_eq_true, spansOk, decide_eq_true_eq] at hv
    obtain ⟨⟨h1, h2⟩, ⟨h3, h4⟩, h5, _, h6, _⟩ := hv
    rw [← lens_spanSum wp] at h2
    rw [← lens_spanSum wn] at h4
    exact ⟨bkts_go (by simp only [Bool.false_eq_true, if_false]; omega) h1 fun _ => h6, bkts_go (by simp only [Bool.false_eq_true, if_false]; omega) h3 fun _ => h5⟩
end Go.Proofs.YtbgkoapnejnfbaaDoor
