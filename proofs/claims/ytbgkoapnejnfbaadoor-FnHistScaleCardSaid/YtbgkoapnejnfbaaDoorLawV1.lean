/-
  What Validate asks is what the spans and deltas tell: plain laws, with no program in sight.
-/
import Derived.Test.YtbgkoapnejnfbaaDoorBuckets
import Derived.Test.YtbgkoapnejnfbaaDoorValid
namespace Go.Proofs.YtbgkoapnejnfbaaDoor
set_option linter.unusedSimpArgs false
set_option linter.unusedVariables false
open Go.RowKit

/-- counts added up, in 64 bits -/
def addAll (t : Int) : List (Int × Int) → Int
  | [] => t
  | x :: l => addAll (IntKind.u64.wrap (t + x.2)) l
theorem addAll_append (t : Int) (l m : List (Int × Int)) : addAll t (l ++ m) = addAll (addAll t l) m := by
  induction l generalizing t with
  | nil => rfl
  | cons x l ih => exact ih _

theorem wrap64_wrap (x : Int) : wrap64 (wrap64 x) = wrap64 x := by unfold wrap64; omega
theorem wrap64_add (x y : Int) : wrap64 (wrap64 x + y) = wrap64 (x + y) := by unfold wrap64; omega
theorem u64_add (x y : Int) : IntKind.u64.wrap (IntKind.u64.wrap x + y) = IntKind.u64.wrap (x + y) := by rw [IntKind.wrap_u64, IntKind.wrap_u64, IntKind.wrap_u64]; omega
theorem u64_add' (x y : Int) : IntKind.u64.wrap (x + IntKind.u64.wrap y) = IntKind.u64.wrap (x + y) := by rw [IntKind.wrap_u64, IntKind.wrap_u64, IntKind.wrap_u64]; omega
theorem u64_same {x : Int} (h : 0 ≤ x) (h' : x < 18446744073709551616) : IntKind.u64.wrap x = x := by rw [IntKind.wrap_u64]; omega

/-- the sum of the counts, without bounds -/
def cntSum : List (Int × Int) → Int
  | [] => 0
  | x :: l => x.2 + cntSum l
theorem addAll_eq (t : Int) (l : List (Int × Int)) : IntKind.u64.wrap (addAll t l) = IntKind.u64.wrap (t + cntSum l) := by
  induction l generalizing t with
  | nil => simp [addAll, cntSum]
  | cons x l ih => rw [addAll, ih, u64_add, cntSum]; congr 1; omega

/-- the places of spans -/
def lens : List (Int × Int) → Nat
  | [] => 0
  | x :: l => x.2.toNat + lens l
theorem lens_spanSum {l : List (Int × Int)} (h : ∀ x ∈ l, 0 ≤ x.2) : (lens l : Int) = spanSum l := by
  induction l with
  | nil => rfl
  | cons x l ih =>
    have h1 := h x (by simp)
    have h2 := ih fun y hy => h y (List.mem_cons_of_mem _ hy)
    simp only [lens, spanSum]
    omega

/-- what the reading of some places makes -/
structure Read (fl : Bool) (ds : List Int) (cs : List Nat) (k : Nat) (s s' : Bst) (new : List (Int × Int)) : Prop where
  n : s'.n = s.n + k
  out : s'.out = s.out ++ new
  le : k = 0 ∨ s.n + k ≤ (if fl = true then cs.length else ds.length)
  sums : fl = false → ∀ tot, bk (ds.drop s.n) s.sum tot = bk (ds.drop s'.n) s'.sum (addAll tot new)
  cnts : fl = true → new.map (·.2) ++ (cs.drop s'.n).map Int.ofNat = (cs.drop s.n).map Int.ofNat
  at_ : wrap64 s.at_ = s.at_ → wrap64 s'.at_ = s'.at_
  many : new.length = k

theorem Read.refl (fl : Bool) (ds : List Int) (cs : List Nat) (s : Bst) : Read fl ds cs 0 s s [] :=
  ⟨rfl, by simp, .inl rfl, fun _ _ => rfl, fun _ => rfl, fun h => h, rfl⟩

theorem Read.trans {fl : Bool} {ds : List Int} {cs : List Nat} {k j : Nat} {s s1 s2 : Bst} {a b : List (Int × Int)} (h : Read fl ds cs k s s1 a) (g : Read fl ds cs j s1 s2 b) : Read fl ds cs (k + j) s s2 (a ++ b) := by
  obtain ⟨h1, h2, h3, h4, h5, h6, h7⟩ := h
  obtain ⟨g1, g2, g3, g4, g5, g6, g7⟩ := g
  refine ⟨by omega, by rw [g2, h2, List.append_assoc], ?_, ?_, ?_, fun x => g6 (h6 x), by rw [List.length_append]; omega⟩
  · generalize (if fl = true then cs.length else ds.length) = m at *
    omega
  · intro hfl tot
    rw [h4 hfl, g4 hfl, addAll_append]
  · intro hfl
    rw [List.map_append, List.append_assoc, g5 hfl, h5 hfl]

theorem inner_read {fl : Bool} {ds : List Int} {cs : List Nat} : ∀ {r : Nat} {s s' : Bst}, inner fl ds cs r s = some s' → ∃ new, Read fl ds cs r s s' new
  | 0, s, s', h => by
    obtain rfl : s = s' := Option.some.inj h
    exact ⟨[], Read.refl _ _ _ _⟩
  | r + 1, s, s', h => by
    rw [inner_succ] at h
    by_cases h1 : (if fl = true then cs.length else ds.length) ≤ s.n
    · rw [if_pos h1] at h; cases h
    rw [if_neg h1] at h
    cases fl with
    | true =>
      rw [if_pos rfl] at h
      simp only [if_true] at h1
      obtain ⟨new, hn⟩ := inner_read h
      have hlt : s.n < cs.length := by omega
      have one : Read true ds cs 1 s ⟨wrap64 (s.at_ + 1), s.n + 1, s.sum, s.out ++ [(s.at_, Int.ofNat (cs.getD s.n 0))]⟩ [(s.at_, Int.ofNat (cs.getD s.n 0))] := by
        refine ⟨rfl, rfl, .inr (by simp; omega), (fun h => by cases h), fun _ => ?_, fun _ => wrap64_wrap _, rfl⟩
        show [Int.ofNat (cs.getD s.n 0)] ++ (cs.drop (s.n + 1)).map Int.ofNat = (cs.drop s.n).map Int.ofNat
        have e : cs.getD s.n 0 = cs[s.n] := by simp [List.getD, List.getElem?_eq_getElem hlt]
        rw [List.drop_eq_getElem_cons hlt, e, List.map_cons]
        rfl
      have := one.trans hn
      rw [Nat.add_comm 1 r] at this
      exact ⟨_, this⟩
    | false =>
      rw [if_neg (by simp)] at h
      simp only [Bool.false_eq_true, if_false] at h1
      by_cases h2 : wrap64 (s.sum + ds.getD s.n 0) < 0
      · rw [if_pos h2] at h; cases h
      rw [if_neg h2] at h
      obtain ⟨new, hn⟩ := inner_read h
      have hlt : s.n < ds.length := by omega
      have one : Read false ds cs 1 s ⟨wrap64 (s.at_ + 1), s.n + 1, wrap64 (s.sum + ds.getD s.n 0), s.out ++ [(s.at_, IntKind.u64.wrap (wrap64 (s.sum + ds.getD s.n 0)))]⟩ [(s.at_, IntKind.u64.wrap (wrap64 (s.sum + ds.getD s.n 0)))] := by
        refine ⟨rfl, rfl, .inr (by simp; omega), fun _ tot => ?_, (fun h => by cases h), fun _ => wrap64_wrap _, rfl⟩
        have e : ds.getD s.n 0 = ds[s.n] := by simp [List.getD, List.getElem?_eq_getElem hlt]
        rw [List.drop_eq_getElem_cons hlt, bk, ← e, if_neg h2]
        rfl
      have := one.trans hn
      rw [Nat.add_comm 1 r] at this
      exact ⟨_, this⟩

theorem Read.shift {fl : Bool} {ds : List Int} {cs : List Nat} {k : Nat} {s s' : Bst} {a : List (Int × Int)} {x : Int} (h : Read fl ds cs k ⟨wrap64 x, s.n, s.sum, s.out⟩ s' a) : Read fl ds cs k s s' a :=
  ⟨h.n, h.out, h.le, h.sums, h.cnts, fun _ => h.at_ (wrap64_wrap _), h.many⟩

theorem outer_read {fl : Bool} {ds : List Int} {cs : List Nat} : ∀ {l : List (Int × Int)} {first : Bool} {s s' : Bst}, outer fl ds cs first l s = some s' →
    (∃ new, Read fl ds cs (lens l) s s' new) ∧ (first = false → ∀ x ∈ l, 0 ≤ x.1) ∧ (∀ x ∈ l.tail, 0 ≤ x.1)
  | [], first, s, s', h => by
    obtain rfl : s = s' := Option.some.inj h
    exact ⟨⟨[], Read.refl _ _ _ _⟩, (fun _ _ h => by cases h), (fun _ h => by cases h)⟩
  | x :: l, first, s, s', h => by
    rw [outer_cons] at h
    by_cases h1 : first = false ∧ x.1 < 0
    · rw [if_pos h1] at h; cases h
    rw [if_neg h1] at h
    cases hi : inner fl ds cs x.2.toNat ⟨wrap64 (s.at_ + x.1), s.n, s.sum, s.out⟩ with
    | none => rw [hi] at h; cases h
    | some s1 =>
      rw [hi] at h
      obtain ⟨a, ha⟩ := inner_read hi
      obtain ⟨⟨b, hb⟩, hl, _⟩ := outer_read h
      refine ⟨⟨a ++ b, ha.shift.trans hb⟩, fun hf y hy => ?_, hl rfl⟩
      rcases List.mem_cons.1 hy with rfl | hy
      · have : ¬ y.1 < 0 := fun c => h1 ⟨hf, c⟩
        omega
      · exact hl rfl y hy

/-- the reading of all spans -/
theorem bkts_read {fl : Bool} {l : List (Int × Int)} {ds : List Int} {cs : List Nat} (h : (bkts fl l ds cs).2 = true) :
    (lens l = if fl = true then cs.length else ds.length) ∧ offsOk l = true ∧ (fl = false → ∀ tot, bk ds 0 tot = (true, addAll tot (bkts fl l ds cs).1)) ∧
    (fl = true → (bkts fl l ds cs).1.map (·.2) = cs.map Int.ofNat) := by
  unfold bkts at h ⊢
  cases ho : outer fl ds cs true l ⟨0, 0, 0, []⟩ with
  | none => rw [ho] at h; cases h
  | some s =>
    rw [ho] at h
    simp only [decide_eq_true_eq] at h
    obtain ⟨⟨new, hr⟩, _, ht⟩ := outer_read ho
    have hn := hr.n
    have hout := hr.out
    simp only [Nat.zero_add, List.nil_append] at hn hout
    show (lens l = if fl = true then cs.length else ds.length) ∧ offsOk l = true ∧ (fl = false → ∀ tot, bk ds 0 tot = (true, addAll tot s.out)) ∧ (fl = true → s.out.map (·.2) = cs.map Int.ofNat)
    refine ⟨hn ▸ h, by unfold offsOk; simpa using ht, fun hf tot => ?_, fun hf => ?_⟩
    · have := hr.sums hf tot
      simp only [List.drop_zero] at this
      rw [this, hout]
      subst hf
      rw [h]
      simp [bk]
    · have := hr.cnts hf
      subst hf
      rw [h] at this
      simp only [if_true, List.drop_length, List.map_nil, List.append_nil, List.drop_zero] at this
      rw [hout, this]

/-! the other way: what Validate takes is read -/
theorem inner_go {fl : Bool} {ds : List Int} {cs : List Nat} : ∀ (r : Nat) (s : Bst) (tot : Int), s.n + r ≤ (if fl = true then cs.length else ds.length) → (fl = false → (bk (ds.drop s.n) s.sum tot).1 = true) → ∃ s', inner fl ds cs r s = some s'
  | 0, s, _, _, _ => ⟨s, rfl⟩
  | r + 1, s, tot, hle, hb => by
    rw [inner_succ, if_neg (by generalize (if fl = true then cs.length else ds.length) = m at *; omega)]
    cases fl with
    | true =>
      rw [if_pos rfl]
      exact inner_go r _ tot (by simp only [if_true] at hle ⊢; omega) (fun h => by cases h)
    | false =>
      rw [if_neg (by simp)]
      have hlt : s.n < ds.length := by simp at hle; omega
      have hb' := hb rfl
      have e : ds.getD s.n 0 = ds[s.n] := by simp [List.getD, List.getElem?_eq_getElem hlt]
      rw [List.drop_eq_getElem_cons hlt, bk, ← e] at hb'
      by_cases h2 : wrap64 (s.sum + ds.getD s.n 0) < 0
      · rw [if_pos h2] at hb'; cases hb'
      rw [if_neg h2] at hb' ⊢
      exact inner_go r _ _ (by simp at hle ⊢; omega) fun _ => hb'

theorem outer_go {fl : Bool} {ds : List Int} {cs : List Nat} : ∀ (l : List (Int × Int)) (first : Bool) (s : Bst) (tot : Int), s.n + lens l ≤ (if fl = true then cs.length else ds.length) → (fl = false → (bk (ds.drop s.n) s.sum tot).1 = true) →
    (first = false → ∀ x ∈ l, 0 ≤ x.1) → (∀ x ∈ l.tail, 0 ≤ x.1) → ∃ s', outer fl ds cs first l s = some s'
  | [], _, s, _, _, _, _, _ => ⟨s, rfl⟩
  | x :: l, first, s, tot, hle, hb, hf, ht => by
    rw [outer_cons, if_neg (by rintro ⟨h1, h2⟩; have := hf h1 x (by simp); omega)]
    simp only [lens] at hle
    obtain ⟨s1, h1⟩ := inner_go (fl := fl) (ds := ds) (cs := cs) x.2.toNat ⟨wrap64 (s.at_ + x.1), s.n, s.sum, s.out⟩ tot (by generalize (if fl = true then cs.length else ds.length) = m at *; simp only; omega) hb
    rw [h1]
    obtain ⟨a, ha⟩ := inner_read h1
    have hn := ha.n
    simp only at hn
    refine outer_go l false s1 (addAll tot a) (by rw [hn]; generalize (if fl = true then cs.length else ds.length) = m at *; omega) (fun h => ?_) (fun _ => ht) fun y hy => ht y (List.mem_of_mem_tail hy)
    have := ha.sums h tot
    simp only at this
    rw [← this]
    exact hb h

theorem bkts_go {fl : Bool} {l : List (Int × Int)} {ds : List Int} {cs : List Nat} (h : lens l = if fl = true then cs.length else ds.length) (ho : offsOk l = true) (hb : fl = false → (bk ds 0 0).1 = true) : (bkts fl l ds cs).2 = true := by
  obtain ⟨s, hs⟩ := outer_go (fl := fl) (ds := ds) (cs := cs) l true ⟨0, 0, 0, []⟩ 0 (by simp only; omega) (by simpa using hb) ((fun h => by cases h)) (by unfold offsOk at ho; simpa using ho)
  obtain ⟨⟨new, hr⟩, _, _⟩ := outer_read hs
  have hn := hr.n
  simp only [Nat.zero_add] at hn
  unfold bkts
  rw [hs]
  simp only [decide_eq_true_eq]
  omega
/-- the counts of an integer histogram add up -/
def countsUp (h : Hist) : Bool :=
  if (!(FloatKind.f64.format.order h.sum h.sum == some .eq)) = true then decide (addAll (addAll h.zc (bkts false h.pos h.ups h.fups).1) (bkts false h.neg h.downs h.fdowns).1 ≤ h.cnt)
  else addAll (addAll h.zc (bkts false h.pos h.ups h.fups).1) (bkts false h.neg h.downs h.fdowns).1 == (h.cnt : Int)

end Go.Proofs.YtbgkoapnejnfbaaDoor
