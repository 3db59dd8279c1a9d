/-
  A region that draws its order, walked once: each operation by itself, in whatever world its own operands leave; what is known of each slot stays known behind all others.
-/
import Derived.Orders
import Derived.Below
import Derived.KernelRfl
import Derived.Tactics
namespace Go.Proofs.YtbgkoapnejnfbaaDoor.Rg
open Go

def dep (o : Oper) (k : Nat) : Bool := o.after.toList.any fun e => Region.binds .any e && e.on == k
def writer (t : Tmp) : List Oper → Nat → Option Nat
  | [], _ => none
  | o :: l, k => if o.dst == some t then some k else writer t l (k + 1)
def known (l : List Oper) (o : Oper) (t : Tmp) : Bool := match writer t l 0 with | some k => dep o k | none => false

def okOne (l : List Oper) (o : Oper) (i : Nat) : Bool :=
  (o.after.toList.all fun e => !Region.binds .any e || decide (e.on < i)) &&
  (match o.dst with | some d => writer d l 0 == some i | none => true) &&
  ((o.looksAt l.toArray).all fun t => match writer t l 0 with
    | none => true
    | some k => dep o k || k == i || (match l[k]? with | some p => dep p i | none => false)) &&
  (match o.op with | .select .. => false | _ => true)
def okFrom (l : List Oper) : List Oper → Nat → Bool
  | [], _ => true
  | o :: r, i => okOne l o i && okFrom l r (i + 1)

theorem okFrom_get {l : List Oper} : ∀ (r : List Oper) (i : Nat), okFrom l r i = true → ∀ j o, r[j]? = some o → okOne l o (i + j) = true
  | [], _, _, j, o, h => by simp at h
  | p :: r, i, h, 0, o, ho => by
    simp only [okFrom, Bool.and_eq_true] at h
    simp at ho
    subst ho
    exact h.1
  | p :: r, i, h, j + 1, o, ho => by
    simp only [okFrom, Bool.and_eq_true] at h
    have := okFrom_get r (i + 1) h.2 j o (by simpa using ho)
    rwa [show i + 1 + j = i + (j + 1) by omega] at this

theorem writer_get (t : Tmp) : ∀ (r : List Oper) (i k : Nat), writer t r i = some k → ∃ j o, k = i + j ∧ r[j]? = some o ∧ o.dst = some t
  | [], _, _, h => by simp [writer] at h
  | o :: r, i, k, h => by
    unfold writer at h
    split at h
    · rename_i hd
      cases h
      exact ⟨0, o, rfl, rfl, by simpa using hd⟩
    · obtain ⟨j, p, h1, h2, h3⟩ := writer_get t r (i + 1) k h
      exact ⟨j + 1, p, by omega, by simpa using h2, h3⟩

section
variable (P : Program) (l : List Oper) (E : World → World → Prop) (F : Tmp → Value → World → Prop) (w0 : World) (a0 : Act)

def put (d : Option Tmp) (v : Value) (w : World) : Prop := match d with | some d => F d v w | none => True

/-- what an operation owes -/
def StepOk (o : Oper) : Prop :=
  ∀ (a : Act) (w : World) (K : Act → World → Prop) (Q : Exit → Act → World → Prop), E w0 w →
    (∀ t, (o.looksAt l.toArray).contains t = true → if known l o t then F t (a.tmps.getD t undef) w else a.tmps.getD t undef = a0.tmps.getD t undef) →
    (∀ v w', E w w' → put F o.dst v w' → K (a.put o.dst v) w') →
    (Region.wanted o (yielded l.toArray a.tmps) = true → o.wp P a w K Q) ∧ (Region.wanted o (yielded l.toArray a.tmps) = false → put F o.dst undef w)

def Steps : List Oper → Prop
  | [] => True
  | o :: r => StepOk P l E F w0 a0 o ∧ Steps r

theorem Steps.get : ∀ (r : List Oper), Steps P l E F w0 a0 r → ∀ (j : Nat) (o : Oper), r[j]? = some o → StepOk P l E F w0 a0 o
  | [], _, j, o, h => by simp at h
  | p :: r, h, 0, o, ho => by simp at ho; subst ho; exact h.1
  | p :: r, h, j + 1, o, ho => Steps.get r h.2 j o (by simpa using ho)

/-- what holds while the region runs -/
structure Inv (listed : Array Bool) (a : Act) (w : World) : Prop where
  ext : E w0 w
  size : a.tmps.size = a0.tmps.size
  defers : a.defers = a0.defers
  slot : ∀ t, match writer t l 0 with
    | some k => if listed.getD k false = true then F t (a.tmps.getD t undef) w else a.tmps.getD t undef = a0.tmps.getD t undef
    | none => a.tmps.getD t undef = a0.tmps.getD t undef
  down : ∀ k o, listed.getD k false = true → l[k]? = some o → ∀ e ∈ o.after, Region.binds .any e = true → listed.getD e.on false = true

theorem unlisted_lt {n : Nat} {listed : Array Bool} {i : Nat} (hi : i < n) (h : listed.getD i true = false) :
    ((List.range n).filter fun j => !(listed.setIfInBounds i true).getD j true).length < ((List.range n).filter fun j => !listed.getD j true).length := by
  have hsz : i < listed.size := by
    rcases Nat.lt_or_ge i listed.size with h' | h'
    · exact h'
    · simp [Array.getElem?_eq_none h'] at h
  have key : ∀ m : List Nat, (m.filter fun j => !(listed.setIfInBounds i true).getD j true).length ≤ (m.filter fun j => !listed.getD j true).length ∧
      (i ∈ m → (m.filter fun j => !(listed.setIfInBounds i true).getD j true).length < (m.filter fun j => !listed.getD j true).length) := by
    intro m
    induction m with
    | nil => simp
    | cons j m ih =>
      by_cases hj : i = j
      · subst hj
        have e1 : (listed.setIfInBounds i true).getD i true = true := by simp [hsz]
        simp only [List.filter_cons, e1, h, Bool.not_true, Bool.false_eq_true, if_false, Bool.not_false, if_true, List.length_cons]
        omega
      · have e1 : (listed.setIfInBounds i true).getD j true = listed.getD j true := getD_set_ne true hj
        simp only [List.filter_cons, e1]
        split
        · simp only [List.length_cons, List.mem_cons]
          exact ⟨by omega, fun hm => by have := ih.2 (hm.resolve_left hj); omega⟩
        · exact ⟨ih.1, fun hm => ih.2 ((List.mem_cons.1 hm).resolve_left hj)⟩
  exact (key (List.range n)).2 (List.mem_range.2 hi)

variable {P l E F w0 a0}

theorem getD_iff {listed : Array Bool} {i : Nat} (h : listed.size = l.length) (hi : i < l.length) : listed.getD i true = listed.getD i false := by
  simp [h, hi]

theorem all_listed (hok : okFrom l l 0 = true) {listed : Array Bool} (hsz : listed.size = l.length) (hr : Region.ready .any l.toArray listed = []) : ∀ i, i < l.length → listed.getD i false = true := by
  intro i
  induction i using Nat.strongRecOn with
  | _ i ih =>
    intro hi
    cases hv : listed.getD i false with
    | true => rfl
    | false =>
      have hmem : i ∈ Region.ready .any l.toArray listed := by
        rw [mem_ready]
        refine ⟨by rw [getD_iff hsz hi]; exact hv, l[i], by simp [hi], fun e he hb => ?_⟩
        have h1 := okFrom_get l 0 hok i l[i] (by simp [hi])
        simp only [okOne, Bool.and_eq_true, List.all_eq_true] at h1
        have h2 := h1.1.1.1 e (Array.mem_toList_iff.2 he)
        rw [hb] at h2
        simp at h2
        exact ih e.on (by omega) (by omega)
      rw [hr] at hmem
      simp at hmem

theorem region_inv (hok : okFrom l l 0 = true) (hd : (l.all fun o => match o.dst with | some d => decide (d < a0.tmps.size) | none => true) = true) (hE0 : ∀ w, E w w) (hE : ∀ a b c, E a b → E b c → E a c) (hF : ∀ t v w w', F t v w → E w w' → F t v w') (hst : Steps P l E F w0 a0 l)
    {Q : Exit → Act → World → Prop}
    (hQ : ∀ a w, E w0 w → a.tmps.size = a0.tmps.size → a.defers = a0.defers → (∀ t, match writer t l 0 with
      | some _ => F t (a.tmps.getD t undef) w
      | none => a.tmps.getD t undef = a0.tmps.getD t undef) → Q .normal a w) :
    ∀ (fuel : Nat) (listed : Array Bool) (a : Act) (w : World), listed.size = l.length → ((List.range l.length).filter fun j => !listed.getD j true).length ≤ fuel →
      Inv l E F w0 a0 listed a w → wpAny P .any l.toArray Q fuel listed a w := by
  have fin : ∀ (listed : Array Bool) (a : Act) (w : World), listed.size = l.length → Inv l E F w0 a0 listed a w → Region.ready .any l.toArray listed = [] → Q .normal a w := by
    intro listed a w hsz inv hr
    have hall := all_listed hok hsz hr
    refine hQ a w inv.ext inv.size inv.defers fun t => ?_
    have h := inv.slot t
    cases hw : writer t l 0 with
    | none => rw [hw] at h; exact h
    | some k =>
      rw [hw] at h
      obtain ⟨j, o, hk, hj, _⟩ := writer_get t l 0 k hw
      have hlt : k < l.length := by have := (List.getElem?_eq_some_iff.1 hj).1; omega
      simp only [hall k hlt, if_true] at h
      exact h
  intro fuel
  induction fuel with
  | zero =>
    intro listed a w hsz hcount inv
    have hr : Region.ready .any l.toArray listed = [] := by
      cases hr : Region.ready .any l.toArray listed with
      | nil => rfl
      | cons i r =>
        have hi : i ∈ Region.ready .any l.toArray listed := by rw [hr]; simp
        rw [mem_ready] at hi
        obtain ⟨h0, o, ho, _⟩ := hi
        have hlt : i < l.length := by simpa using (Array.getElem?_eq_some_iff.1 ho).1
        have : i ∈ (List.range l.length).filter fun j => !listed.getD j true := by rw [List.mem_filter]; exact ⟨List.mem_range.2 hlt, by rw [h0]; rfl⟩
        have := List.length_pos_of_mem this
        omega
    exact ⟨hr, fin listed a w hsz inv hr⟩
  | succ fuel ih =>
    intro listed a w hsz hcount inv
    refine ⟨fin listed a w hsz inv, fun i hi => ?_⟩
    rw [mem_ready] at hi
    obtain ⟨h0, o, ho, hdeps⟩ := hi
    have hlt : i < l.length := by simpa using (Array.getElem?_eq_some_iff.1 ho).1
    have hol : l[i]? = some o := by simpa using ho
    have hone := okFrom_get l 0 hok i o hol
    rw [Nat.zero_add] at hone
    simp only [okOne, Bool.and_eq_true, List.all_eq_true] at hone
    obtain ⟨⟨⟨_, hdst⟩, hlook⟩, hsel⟩ := hone
    have h0f : listed.getD i false = false := by rw [← getD_iff hsz hlt]; exact h0
    have step := Steps.get P l E F w0 a0 l hst i o hol a w
    have reads : ∀ t, (o.looksAt l.toArray).contains t = true → if known l o t then F t (a.tmps.getD t undef) w else a.tmps.getD t undef = a0.tmps.getD t undef := by
      intro t ht
      have hs := inv.slot t
      have hl := hlook t (List.contains_iff_mem.1 ht)
      unfold known
      cases hw : writer t l 0 with
      | none => rw [hw] at hs; simpa using hs
      | some k =>
        rw [hw] at hs hl
        simp only at hs hl ⊢
        by_cases hd : dep o k = true
        · rw [if_pos hd]
          simp only [dep, List.any_eq_true, Bool.and_eq_true, beq_iff_eq] at hd
          obtain ⟨e, he, hb, rfl⟩ := hd
          have hk := hdeps e (Array.mem_toList_iff.1 he) hb
          simpa only [hk, if_true] using hs
        · rw [if_neg hd]
          have hk : listed.getD k false = false := by
            rw [Bool.not_eq_true] at hd
            rw [hd, Bool.false_or, Bool.or_eq_true, beq_iff_eq] at hl
            rcases hl with rfl | hl
            · exact h0f
            · cases hp : l[k]? with
              | none => rw [hp] at hl; cases hl
              | some p =>
                rw [hp] at hl
                simp only [dep, List.any_eq_true, Bool.and_eq_true, beq_iff_eq] at hl
                obtain ⟨e, he, hb, hei⟩ := hl
                cases hv : listed.getD k false with
                | false => rfl
                | true =>
                  have := inv.down k p hv hp e (Array.mem_toList_iff.1 he) hb
                  rw [hei, h0f] at this
                  cases this
          simpa only [hk, Bool.false_eq_true, if_false] using hs
    have next : ∀ v w', E w w' → put F o.dst v w' → wpAny P .any l.toArray Q fuel (listed.setIfInBounds i true) (a.put o.dst v) w' := by
      intro v w' hww hput
      refine ih _ _ _ (by simpa using hsz) (by have := unlisted_lt (n := l.length) hlt h0; omega) ?_
      have hset : ∀ k, (listed.setIfInBounds i true).getD k false = if k = i then true else listed.getD k false := by
        intro k
        by_cases hki : k = i
        · subst hki; simp [hsz, hlt]
        · rw [if_neg hki, getD_set_ne false (Ne.symm hki)]
      refine ⟨hE _ _ _ inv.ext hww, ?_, ?_, ?_, ?_⟩
      · cases o.dst <;> simp [Act.put, inv.size]
      · cases o.dst <;> simp [Act.put, inv.defers]
      · intro t
        have hs := inv.slot t
        cases hw : writer t l 0 with
        | none =>
          rw [hw] at hs
          simp only at hs ⊢
          rw [← hs]
          cases hdd : o.dst with
          | none => rfl
          | some d =>
            have hne : d ≠ t := by
              rintro rfl
              rw [hdd] at hdst
              simp [hw] at hdst
            simp [Act.put, Array.getElem?_setIfInBounds_ne hne]
        | some k =>
          rw [hw] at hs
          simp only at hs ⊢
          rw [hset k]
          by_cases hki : k = i
          · subst hki
            simp only [if_true]
            obtain ⟨j, p, hk, hj, hpd⟩ := writer_get t l 0 k hw
            have : j = k := by omega
            subst this
            rw [hol] at hj
            cases hj
            rw [hpd] at hput ⊢
            simp only [put] at hput
            by_cases hts : t < a.tmps.size
            · simpa [Act.put, hts] using hput
            · have h1 := (List.all_eq_true.1 hd) o (List.mem_of_getElem? hol)
              rw [hpd] at h1
              simp only [decide_eq_true_eq] at h1
              exact absurd (by rw [inv.size]; exact h1) hts
          · rw [if_neg hki]
            have hsame : (a.put o.dst v).tmps.getD t undef = a.tmps.getD t undef := by
              cases hdd : o.dst with
              | none => rfl
              | some d =>
                have hne : d ≠ t := by
                  rintro rfl
                  rw [hdd] at hdst
                  simp [hw] at hdst
                  exact hki hdst
                simp [Act.put, Array.getElem?_setIfInBounds_ne hne]
            rw [hsame]
            split
            · rename_i hl
              simp only [hl, if_true] at hs
              exact hF _ _ _ _ hs hww
            · rename_i hl
              simp only [hl] at hs
              exact hs
      · intro k p hk hp e he hb
        rw [hset] at hk ⊢
        by_cases hki : k = i
        · subst hki
          rw [hol] at hp
          cases hp
          have := hdeps e he hb
          split <;> first | rfl | exact this
        · rw [if_neg hki] at hk
          have := inv.down k p hk hp e he hb
          split <;> first | rfl | exact this
    obtain ⟨s1, s2⟩ := step _ Q inv.ext reads next
    unfold wpOp
    simp only [ho]
    split
    · rename_i hwant
      exact .inl (s1 hwant)
    · rename_i hwant
      have hwf : Region.wanted o (yielded l.toArray a.tmps) = false := by simpa using hwant
      exact next undef w (hE0 w) (s2 hwf)

/-- A plain region: in the order of the text. -/
theorem plain_inv (hok : okFrom l l 0 = true) (hd : (l.all fun o => match o.dst with | some d => decide (d < a0.tmps.size) | none => true) = true) (hE0 : ∀ w, E w w) (hE : ∀ a b c, E a b → E b c → E a c) (hF : ∀ t v w w', F t v w → E w w' → F t v w') (hst : Steps P l E F w0 a0 l)
    {Q : Exit → Act → World → Prop}
    (hQ : ∀ a w, E w0 w → a.tmps.size = a0.tmps.size → a.defers = a0.defers → (∀ t, match writer t l 0 with
      | some _ => F t (a.tmps.getD t undef) w
      | none => a.tmps.getD t undef = a0.tmps.getD t undef) → Q .normal a w) :
    ∀ (r : List Oper) (i : Nat) (a : Act) (w : World), (∀ j, r[j]? = l[i + j]?) → i + r.length = l.length → E w0 w → a.tmps.size = a0.tmps.size → a.defers = a0.defers →
      (∀ t, match writer t l 0 with
        | some k => if k < i then F t (a.tmps.getD t undef) w else a.tmps.getD t undef = a0.tmps.getD t undef
        | none => a.tmps.getD t undef = a0.tmps.getD t undef) → wpList P l.toArray Q r a w
  | [], i, a, w, _, hlen, hx, hs, hdf, hslot => by
    refine hQ a w hx hs hdf fun t => ?_
    have h := hslot t
    cases hw : writer t l 0 with
    | none => rw [hw] at h; exact h
    | some k =>
      rw [hw] at h
      obtain ⟨j, o, hk, hj, _⟩ := writer_get t l 0 k hw
      have hlt : k < l.length := by have := (List.getElem?_eq_some_iff.1 hj).1; omega
      simp only [List.length_nil, Nat.add_zero] at hlen
      have hki : k < i := by omega
      simp only [hki, if_true] at h
      exact h
  | o :: r, i, a, w, hr, hlen, hx, hs, hdf, hslot => by
    have hol : l[i]? = some o := by have := hr 0; simpa using this.symm
    have hone := okFrom_get l 0 hok i o hol
    rw [Nat.zero_add] at hone
    simp only [okOne, Bool.and_eq_true, List.all_eq_true] at hone
    obtain ⟨⟨⟨hafter, hdst⟩, hlook⟩, _⟩ := hone
    have depLt : ∀ k, dep o k = true → k < i := by
      intro k hk
      simp only [dep, List.any_eq_true, Bool.and_eq_true, beq_iff_eq] at hk
      obtain ⟨e, he, hb, rfl⟩ := hk
      have := hafter e he
      rw [hb] at this
      simpa using this
    have reads : ∀ t, (o.looksAt l.toArray).contains t = true → if known l o t then F t (a.tmps.getD t undef) w else a.tmps.getD t undef = a0.tmps.getD t undef := by
      intro t ht
      have hsl := hslot t
      have hl := hlook t (List.contains_iff_mem.1 ht)
      unfold known
      cases hw : writer t l 0 with
      | none => rw [hw] at hsl; simpa using hsl
      | some k =>
        rw [hw] at hsl hl
        simp only at hsl hl ⊢
        by_cases hdk : dep o k = true
        · rw [if_pos hdk]
          simpa only [depLt k hdk, if_true] using hsl
        · rw [if_neg hdk]
          have hki : ¬ k < i := by
            rw [Bool.not_eq_true] at hdk
            rw [hdk, Bool.false_or, Bool.or_eq_true, beq_iff_eq] at hl
            rcases hl with rfl | hl
            · omega
            · cases hp : l[k]? with
              | none => rw [hp] at hl; cases hl
              | some p =>
                rw [hp] at hl
                have h1 := okFrom_get l 0 hok k p hp
                rw [Nat.zero_add] at h1
                simp only [okOne, Bool.and_eq_true, List.all_eq_true] at h1
                simp only [dep, List.any_eq_true, Bool.and_eq_true, beq_iff_eq] at hl
                obtain ⟨e, he, hb, hei⟩ := hl
                have := h1.1.1.1 e he
                rw [hb] at this
                simp at this
                omega
          simpa only [hki, if_false] using hsl
    have next : ∀ v w', E w w' → put F o.dst v w' → wpList P l.toArray Q r (a.put o.dst v) w' := by
      intro v w' hww hput
      refine plain_inv hok hd hE0 hE hF hst hQ r (i + 1) _ _ (fun j => by have := hr (j + 1); rw [List.getElem?_cons_succ] at this; rw [this]; congr 1; omega) (by simp only [List.length_cons] at hlen; omega) (hE _ _ _ hx hww) (by cases o.dst <;> simp [Act.put, hs]) (by cases o.dst <;> simp [Act.put, hdf]) fun t => ?_
      have hsl := hslot t
      cases hw : writer t l 0 with
      | none =>
        rw [hw] at hsl
        simp only at hsl ⊢
        rw [← hsl]
        cases hdd : o.dst with
        | none => rfl
        | some d =>
          have hne : d ≠ t := by
            rintro rfl
            rw [hdd] at hdst
            simp [hw] at hdst
          simp [Act.put, Array.getElem?_setIfInBounds_ne hne]
      | some k =>
        rw [hw] at hsl
        simp only at hsl ⊢
        by_cases hki : k = i
        · subst hki
          rw [if_pos (by omega)]
          obtain ⟨j, p, hk, hj, hpd⟩ := writer_get t l 0 k hw
          have : j = k := by omega
          subst this
          rw [hol] at hj
          cases hj
          rw [hpd] at hput ⊢
          simp only [put] at hput
          have h1 := (List.all_eq_true.1 hd) o (List.mem_of_getElem? hol)
          rw [hpd] at h1
          simp only [decide_eq_true_eq] at h1
          have hts : t < a.tmps.size := by rw [hs]; exact h1
          simpa [Act.put, hts] using hput
        · have hsame : (a.put o.dst v).tmps.getD t undef = a.tmps.getD t undef := by
            cases hdd : o.dst with
            | none => rfl
            | some d =>
              have hne : d ≠ t := by
                rintro rfl
                rw [hdd] at hdst
                simp [hw] at hdst
                exact hki hdst
              simp [Act.put, Array.getElem?_setIfInBounds_ne hne]
          rw [hsame]
          by_cases hlt : k < i
          · rw [if_pos (by omega)]
            rw [if_pos hlt] at hsl
            exact hF _ _ _ _ hsl hww
          · rw [if_neg (by omega)]
            rw [if_neg hlt] at hsl
            exact hsl
    obtain ⟨s1, s2⟩ := Steps.get P l E F w0 a0 l hst i o hol a w _ Q hx reads next
    unfold wpList
    split
    · rename_i hwant
      exact .inl (s1 hwant)
    · rename_i hwant
      have hwf : Region.wanted o (yielded l.toArray a.tmps) = false := by simpa using hwant
      exact next undef w (hE0 w) (s2 hwf)

theorem getD_fold (u : Tmp → Value) : ∀ (ts : List Tmp) (a : Act) (t : Tmp), t < a.tmps.size → (ts.foldl (fun a t => a.put (some t) (u t)) a).tmps.getD t undef = if ts.contains t = true then u t else a.tmps.getD t undef
  | [], a, t, _ => by simp
  | s :: ts, a, t, h => by
    rw [List.foldl_cons, getD_fold u ts _ t (by simpa [Act.put] using h)]
    by_cases hc : ts.contains t = true
    · have : (s :: ts).contains t = true := by simp at hc ⊢; exact .inr hc
      rw [if_pos hc, if_pos this]
    · rw [if_neg hc]
      by_cases hst : t = s
      · subst hst
        rw [if_pos (by simp)]
        simp [Act.put, h]
      · have : ¬ (s :: ts).contains t = true := by simp at hc ⊢; exact ⟨hst, hc⟩
        rw [if_neg this]
        simp [Act.put, Array.getElem?_setIfInBounds_ne (Ne.symm hst)]
theorem size_fold (u : Tmp → Value) : ∀ (ts : List Tmp) (a : Act), (ts.foldl (fun a t => a.put (some t) (u t)) a).tmps.size = a.tmps.size ∧ (ts.foldl (fun a t => a.put (some t) (u t)) a).defers = a.defers
  | [], a => ⟨rfl, rfl⟩
  | s :: ts, a => by
    rw [List.foldl_cons]
    obtain ⟨h1, h2⟩ := size_fold u ts (a.put (some s) (u s))
    exact ⟨h1.trans (by simp [Act.put]), h2.trans rfl⟩

theorem act_fold {a0 a' : Act} (ts : List Tmp) (hs : a'.tmps.size = a0.tmps.size) (hd : a'.defers = a0.defers) (h : ∀ t, ts.contains t = false → a'.tmps.getD t undef = a0.tmps.getD t undef) :
    a' = ts.foldl (fun a t => a.put (some t) (a'.tmps.getD t undef)) a0 := by
  obtain ⟨h1, h2⟩ := size_fold (fun t => a'.tmps.getD t undef) ts a0
  have ht : a'.tmps = (ts.foldl (fun a t => a.put (some t) (a'.tmps.getD t undef)) a0).tmps := by
    refine Array.ext (hs.trans h1.symm) fun i hi hi' => ?_
    have := getD_fold (fun t => a'.tmps.getD t undef) ts a0 i (by rw [← hs]; exact hi)
    have e : ∀ (b : Array Value) (hb : i < b.size), b[i] = b.getD i undef := fun b hb => by simp [Array.getD, hb]
    refine (e _ hi).trans (Eq.trans ?_ (e _ hi').symm)
    rw [this]
    by_cases hc : ts.contains i = true
    · rw [if_pos hc]
    · rw [if_neg hc]
      exact h i (by simpa using hc)
  have hdd : a'.defers = (ts.foldl (fun a t => a.put (some t) (a'.tmps.getD t undef)) a0).defers := hd.trans h2.symm
  calc a' = ⟨a'.tmps, a'.defers⟩ := rfl
    _ = ⟨(ts.foldl (fun a t => a.put (some t) (a'.tmps.getD t undef)) a0).tmps, (ts.foldl (fun a t => a.put (some t) (a'.tmps.getD t undef)) a0).defers⟩ := by rw [← hdd]; congr 1
    _ = _ := rfl

/-- what an operation of a region that only reads owes, in the one world -/
def StepR (P : Program) (l : List Oper) (F : Tmp → Value → Prop) (w0 : World) (a0 : Act) (o : Oper) : Prop :=
  ∀ (a : Act) (K : Act → World → Prop) (Q : Exit → Act → World → Prop),
    (∀ t, (o.looksAt l.toArray).contains t = true → if known l o t then F t (a.tmps.getD t undef) else a.tmps.getD t undef = a0.tmps.getD t undef) →
    (∀ v, (match o.dst with | some d => F d v | none => True) → K (a.put o.dst v) w0) →
    (Region.wanted o (yielded l.toArray a.tmps) = true → o.wp P a w0 K Q) ∧ (Region.wanted o (yielded l.toArray a.tmps) = false → match o.dst with | some d => F d undef | none => True)
def StepsR (P : Program) (l : List Oper) (F : Tmp → Value → Prop) (w0 : World) (a0 : Act) : List Oper → Prop
  | [] => True
  | o :: r => StepR P l F w0 a0 o ∧ StepsR P l F w0 a0 r

theorem steps_of_R {P : Program} {l : List Oper} {F : Tmp → Value → Prop} {w0 : World} {a0 : Act} : ∀ (r : List Oper), StepsR P l F w0 a0 r → Steps P l Eq (fun t v _ => F t v) w0 a0 r
  | [], _ => trivial
  | o :: r, h => ⟨fun a w K Q hw hr hK => by
      subst hw
      obtain ⟨h1, h2⟩ := h.1 a K Q hr (fun v hv => hK v w0 rfl (by unfold put; cases hd : o.dst <;> simp_all))
      exact ⟨h1, fun hn => by have := h2 hn; unfold put; cases hd : o.dst <;> simp_all⟩, steps_of_R r h.2⟩

/-- A plain region that only reads: each slot it writes is told by F; the frame behind it: the old one, these slots put in. -/
theorem region_pure {P : Program} {l : List Oper} {id : Nat} {a0 : Act} {w0 : World} {Q : Exit → Act → World → Prop} (F : Tmp → Value → Prop) (ts : List Tmp)
    (hok : okFrom l l 0 = true) (hd : (l.all fun o => match o.dst with | some d => decide (d < a0.tmps.size) | none => true) = true)
    (h1 : (ts.all fun t => (writer t l 0).isSome) = true) (h2 : (l.all fun o => match o.dst with | some d => ts.contains d | none => true) = true)
    (hst : StepsR P l F w0 a0 l) (hQ : ∀ u : Tmp → Value, (∀ t, ts.contains t = true → F t (u t)) → Q .normal (ts.foldl (fun a t => a.put (some t) (u t)) a0) w0) :
    (Code.region id l.toArray false).wp P Q a0 w0 := by
  refine wp_region_list (plain_inv (E := Eq) (F := fun t v _ => F t v) (w0 := w0) (a0 := a0) (l := l) hok hd (fun _ => rfl) (fun _ _ _ h k => h.trans k) (fun _ _ _ _ h _ => h) (steps_of_R l hst) ?_ _ 0 a0 w0 (fun j => by simp) (by simp) rfl rfl rfl ?_)
  · rintro a w rfl hs hdf hslot
    rw [act_fold ts hs hdf fun t ht => ?_]
    · refine hQ _ fun t ht => ?_
      have := List.all_eq_true.1 h1 t (by simpa using ht)
      have hsl := hslot t
      obtain ⟨k, hk⟩ := Option.isSome_iff_exists.1 this
      rw [hk] at hsl
      exact hsl
    · have hsl := hslot t
      cases hw : writer t l 0 with
      | none => rw [hw] at hsl; exact hsl
      | some k =>
        obtain ⟨j, o, _, hj, hod⟩ := writer_get t l 0 k hw
        have := List.all_eq_true.1 h2 o (List.mem_of_getElem? hj)
        rw [hod] at this
        simp only at this
        rw [ht] at this
        cases this
  · intro t
    cases hw : writer t l 0 with
    | none => rfl
    | some k => simp

/-- the same, the frame behind it written out -/
theorem region_pure2 {P : Program} {l : List Oper} {id : Nat} {a0 : Act} {w0 : World} {Q : Exit → Act → World → Prop} (F : Tmp → Value → Prop) (ts : List Tmp) (lit : (Tmp → Value) → Act)
    (hlit : ∀ u : Tmp → Value, ts.foldl (fun a t => a.put (some t) (u t)) a0 = lit u)
    (hok : okFrom l l 0 = true) (hd : (l.all fun o => match o.dst with | some d => decide (d < a0.tmps.size) | none => true) = true)
    (h1 : (ts.all fun t => (writer t l 0).isSome) = true) (h2 : (l.all fun o => match o.dst with | some d => ts.contains d | none => true) = true)
    (hst : StepsR P l F w0 a0 l) (hQ : ∀ u : Tmp → Value, (∀ t, ts.contains t = true → F t (u t)) → Q .normal (lit u) w0) :
    (Code.region id l.toArray false).wp P Q a0 w0 :=
  region_pure F ts hok hd h1 h2 hst fun u hu => by rw [hlit u]; exact hQ u hu

/-- a region that draws its order and only reads -/
theorem region_drawn2 {P : Program} {l : List Oper} {id : Nat} {a0 : Act} {w0 : World} {Q : Exit → Act → World → Prop} (hm : P.follows .mixedOrders = true) (F : Tmp → Value → Prop) (ts : List Tmp) (lit : (Tmp → Value) → Act)
    (hlit : ∀ u : Tmp → Value, ts.foldl (fun a t => a.put (some t) (u t)) a0 = lit u)
    (hok : okFrom l l 0 = true) (hd : (l.all fun o => match o.dst with | some d => decide (d < a0.tmps.size) | none => true) = true)
    (h1 : (ts.all fun t => (writer t l 0).isSome) = true) (h2 : (l.all fun o => match o.dst with | some d => ts.contains d | none => true) = true)
    (hst : StepsR P l F w0.drew a0 l) (hQ : ∀ u : Tmp → Value, (∀ t, ts.contains t = true → F t (u t)) → Q .normal (lit u) w0.drew) :
    (Code.region id l.toArray true).wp P Q a0 w0 := by
  refine wp_region_any hm ?_
  have hsz : l.toArray.size = l.length := by simp
  refine region_inv (P := P) (l := l) (E := Eq) (F := fun t v _ => F t v) (w0 := w0.drew) (a0 := a0) hok hd (fun _ => rfl) (fun _ _ _ h k => h.trans k) (fun _ _ _ _ h _ => h) (steps_of_R l hst) ?_ _ _ a0 w0.drew (by simp) ?_ ?_
  · rintro a w rfl hs hdf hslot
    rw [act_fold ts hs hdf fun t ht => ?_]
    · rw [hlit]
      refine hQ _ fun t ht => ?_
      have := List.all_eq_true.1 h1 t (by simpa using ht)
      have hsl := hslot t
      obtain ⟨k, hk⟩ := Option.isSome_iff_exists.1 this
      rw [hk] at hsl
      exact hsl
    · have hsl := hslot t
      cases hw : writer t l 0 with
      | none => rw [hw] at hsl; exact hsl
      | some k =>
        obtain ⟨j, o, _, hj, hod⟩ := writer_get t l 0 k hw
        have := List.all_eq_true.1 h2 o (List.mem_of_getElem? hj)
        rw [hod] at this
        simp only at this
        rw [ht] at this
        cases this
  · refine Nat.le_trans (List.length_filter_le _ _) ?_
    simp
  · have hr : ∀ j : Nat, (Array.replicate l.toArray.size false).getD j false = false := fun j => by
      simp only [Array.getD_eq_getD_getElem?, Array.getElem?_replicate]
      split <;> rfl
    refine ⟨rfl, rfl, rfl, fun t => ?_, fun k o h => ?_⟩
    · cases hw : writer t l 0 with
      | none => rfl
      | some k => simp only [hr, Bool.false_eq_true, if_false]
    · rw [hr] at h
      cases h

theorem undef_not_bool : (match (some undef : Option Value) with | some (.bool b) => some b | _ => none) = none := rfl

theorem yielded_of {ops : Array Oper} {tmps : Array Value} {j : Nat} {s : Tmp} {C G : Bool} (hj : (ops[j]?).bind (·.dst) = some s) (h : tmps.getD s undef = if C = true then .bool G else undef) :
    yielded ops tmps j = if C = true then some G else none := by
  unfold yielded
  rw [hj]
  simp only [Option.bind_some]
  by_cases hs : s < tmps.size
  · have e : tmps[s]? = some (tmps.getD s undef) := by simp [hs]
    rw [e, h]
    cases C <;> rfl
  · have e : tmps[s]? = none := Array.getElem?_eq_none (Nat.le_of_not_lt hs)
    have e2 : tmps.getD s undef = undef := by simp [e]
    rw [e]
    rw [e2] at h
    cases C with
    | false => rfl
    | true => cases h

/-- an operation without a guard that yields v -/
theorem stepR_free {P : Program} {l : List Oper} {F : Tmp → Value → Prop} {w0 : World} {a0 : Act} {o : Oper} (v : Value) (hg : o.guard = none)
    (h : ∀ a : Act, (∀ t, (o.looksAt l.toArray).contains t = true → if known l o t then F t (a.tmps.getD t undef) else a.tmps.getD t undef = a0.tmps.getD t undef) → (execOp a.eval o).run P w0 = .ok (.value v) w0)
    (hF : match o.dst with | some d => F d v | none => True) : StepR P l F w0 a0 o := by
  intro a K Q hr hK
  refine ⟨fun _ => ?_, fun hn => by simp [Region.wanted, hg] at hn⟩
  unfold Oper.wp
  rw [h a hr]
  exact hK v hF

/-- an operation behind a guard -/
theorem stepR_guarded {P : Program} {l : List Oper} {F : Tmp → Value → Prop} {w0 : World} {a0 : Act} {o : Oper} (v : Value) (C G : Bool) (j : Nat) (e : Bool) (s : Tmp) (hg : o.guard = some (j, e)) (hj : (l.toArray[j]?).bind (·.dst) = some s)
    (hlook : (o.looksAt l.toArray).contains s = true) (hkn : known l o s = true) (hFs : ∀ x, F s x → x = if C = true then .bool G else undef)
    (h : (C && (G == e)) = true → ∀ a : Act, (∀ t, (o.looksAt l.toArray).contains t = true → if known l o t then F t (a.tmps.getD t undef) else a.tmps.getD t undef = a0.tmps.getD t undef) → (execOp a.eval o).run P w0 = .ok (.value v) w0)
    (hF : (C && (G == e)) = true → match o.dst with | some d => F d v | none => True) (hU : (C && (G == e)) = false → match o.dst with | some d => F d undef | none => True) : StepR P l F w0 a0 o := by
  intro a K Q hr hK
  have hs := hr s hlook
  rw [hkn] at hs
  have hy := yielded_of (tmps := a.tmps) hj (hFs _ hs)
  have hw : Region.wanted o (yielded l.toArray a.tmps) = (C && (G == e)) := by
    simp only [Region.wanted, hg, hy]
    cases C <;> cases G <;> cases e <;> rfl
  rw [hw]
  refine ⟨fun hc => ?_, fun hc => hU hc⟩
  unfold Oper.wp
  rw [h hc a hr]
  exact hK v (hF hc)

theorem read_old {l : List Oper} {F : Tmp → Value → Prop} {a a0 : Act} {o : Oper} (hr : ∀ t, (o.looksAt l.toArray).contains t = true → if known l o t then F t (a.tmps.getD t undef) else a.tmps.getD t undef = a0.tmps.getD t undef) (t : Tmp)
    (h1 : (o.looksAt l.toArray).contains t = true) (h2 : known l o t = false) : a.eval (.tmp t) = a0.tmps.getD t undef := by
  have := hr t h1
  rw [h2] at this
  exact this
theorem read_new {l : List Oper} {F : Tmp → Value → Prop} {a a0 : Act} {o : Oper} (hr : ∀ t, (o.looksAt l.toArray).contains t = true → if known l o t then F t (a.tmps.getD t undef) else a.tmps.getD t undef = a0.tmps.getD t undef) (t : Tmp)
    (h1 : (o.looksAt l.toArray).contains t = true) (h2 : known l o t = true) : F t (a.eval (.tmp t)) := by
  have := hr t h1
  rw [h2] at this
  exact this

/-- the same, the operation given by what its wp asks: a call -/
theorem stepR_free_wp {P : Program} {l : List Oper} {F : Tmp → Value → Prop} {w0 : World} {a0 : Act} {o : Oper} (v : Value) (hg : o.guard = none)
    (h : ∀ a : Act, (∀ t, (o.looksAt l.toArray).contains t = true → if known l o t then F t (a.tmps.getD t undef) else a.tmps.getD t undef = a0.tmps.getD t undef) → ∀ (K : Act → World → Prop) (Q : Exit → Act → World → Prop), K (a.put o.dst v) w0 → o.wp P a w0 K Q)
    (hF : match o.dst with | some d => F d v | none => True) : StepR P l F w0 a0 o := by
  intro a K Q hr hK
  exact ⟨fun _ => h a hr K Q (hK v hF), fun hn => by simp [Region.wanted, hg] at hn⟩

theorem stepR_guarded_wp {P : Program} {l : List Oper} {F : Tmp → Value → Prop} {w0 : World} {a0 : Act} {o : Oper} (v : Value) (C G : Bool) (j : Nat) (e : Bool) (s : Tmp) (hg : o.guard = some (j, e)) (hj : (l.toArray[j]?).bind (·.dst) = some s)
    (hlook : (o.looksAt l.toArray).contains s = true) (hkn : known l o s = true) (hFs : ∀ x, F s x → x = if C = true then .bool G else undef)
    (h : (C && (G == e)) = true → ∀ a : Act, (∀ t, (o.looksAt l.toArray).contains t = true → if known l o t then F t (a.tmps.getD t undef) else a.tmps.getD t undef = a0.tmps.getD t undef) → ∀ (K : Act → World → Prop) (Q : Exit → Act → World → Prop), K (a.put o.dst v) w0 → o.wp P a w0 K Q)
    (hF : (C && (G == e)) = true → match o.dst with | some d => F d v | none => True) (hU : (C && (G == e)) = false → match o.dst with | some d => F d undef | none => True) : StepR P l F w0 a0 o := by
  intro a K Q hr hK
  have hs := hr s hlook
  rw [hkn] at hs
  have hy := yielded_of (tmps := a.tmps) hj (hFs _ hs)
  have hw : Region.wanted o (yielded l.toArray a.tmps) = (C && (G == e)) := by
    simp only [Region.wanted, hg, hy]
    cases C <;> cases G <;> cases e <;> rfl
  rw [hw]
  exact ⟨fun hc => h hc a hr K Q (hK v (hF hc)), fun hc => hU hc⟩
end
end Go.Proofs.YtbgkoapnejnfbaaDoor.Rg
