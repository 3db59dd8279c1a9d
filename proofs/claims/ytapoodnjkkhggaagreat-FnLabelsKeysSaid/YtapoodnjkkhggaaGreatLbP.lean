/-
  Labels in plain Lean: their order, the sorted list, how they are encoded.
-/
import Derived.WalkKit
import Derived.Lib.Strings
import Derived.Lib.Bytealg
namespace Go.Proofs.YtapoodnjkkhggaaGreat
set_option linter.unusedSimpArgs false
set_option linter.unusedVariables false
open Go.RowKit

theorem bytesLess_eq : ∀ (x y : List UInt8), Op.bytesLess x y = decide (x < y)
  | [], [] => by simp [Op.bytesLess]
  | _ :: _, [] => by simp [Op.bytesLess]
  | [], _ :: _ => by simp [Op.bytesLess]
  | a :: x, b :: y => by
    rw [Op.bytesLess, bytesLess_eq x y]
    simp only [List.cons_lt_cons_iff]
    by_cases h1 : a < b <;> by_cases h2 : a = b <;> by_cases h3 : x < y <;> simp [h1, h2, h3]
theorem toList_inj {a b : ByteArray} (h : a.toList = b.toList) : a = b := by
  rw [Lib.toList_data, Lib.toList_data] at h
  exact ByteArray.ext (Array.toList_inj.1 h)
theorem toList_beq (a b : ByteArray) : (a.toList == b.toList) = decide (a = b) := by
  by_cases h : a = b
  · subst h; simp
  · have : a.toList ≠ b.toList := fun c => h (toList_inj c)
    rw [decide_eq_false h]; exact beq_eq_false_iff_ne.2 this

/-- one string is before another -/
def lt (x y : ByteArray) : Bool := Op.bytesLess x.toList y.toList
theorem lt_iff (x y : ByteArray) : lt x y = true ↔ x.toList < y.toList := by unfold lt; rw [bytesLess_eq]; simp
theorem lt_irrefl (x : ByteArray) : lt x x = false := by
  cases h : lt x x
  · rfl
  · exact absurd ((lt_iff x x).1 h) (List.lt_irrefl _)
theorem lt_trans {x y z : ByteArray} (h : lt x y = true) (k : lt y z = true) : lt x z = true := (lt_iff _ _).2 (List.lt_trans ((lt_iff _ _).1 h) ((lt_iff _ _).1 k))
theorem lt_asymm {x y : ByteArray} (h : lt x y = true) : lt y x = false := by
  cases k : lt y x
  · rfl
  · have := lt_trans h k; rw [lt_irrefl] at this; cases this
theorem lt_total {x y : ByteArray} (h : lt x y = false) (hn : x ≠ y) : lt y x = true := by
  have h1 : ¬ x.toList < y.toList := fun c => by rw [(lt_iff _ _).2 c] at h; cases h
  rcases Decidable.em (y.toList < x.toList) with h3 | h3
  · exact (lt_iff _ _).2 h3
  · exact absurd (toList_inj (List.le_antisymm (List.not_lt.1 h3) (List.not_lt.1 h1))) hn
theorem lt_ne {x y : ByteArray} (h : lt x y = true) : x ≠ y := by rintro rfl; rw [lt_irrefl] at h; cases h

/-- a label: its name, its value -/
abbrev Lb := ByteArray × ByteArray
instance : Inhabited ByteArray := ⟨ByteArray.empty⟩
def lb0 : Lb := (ByteArray.empty, ByteArray.empty)
/-- from the right, the place where a label goes in -/
def posR (x : Lb) (out : List Lb) : Nat → Nat
  | 0 => 0
  | k + 1 => if lt x.1 (out.getD k lb0).1 then posR x out k else k + 1
def ins (out : List Lb) (x : Lb) : List Lb := out.take (posR x out out.length) ++ x :: out.drop (posR x out out.length)
def sortL (l : List Lb) : List Lb := l.foldl ins []

theorem posR_le (x : Lb) (out : List Lb) : ∀ k, posR x out k ≤ k
  | 0 => Nat.le_refl _
  | k + 1 => by unfold posR; split; · exact Nat.le_succ_of_le (posR_le x out k)
                · exact Nat.le_refl _
theorem ins_perm (out : List Lb) (x : Lb) : (ins out x).Perm (x :: out) := by
  unfold ins
  refine List.perm_middle.trans ?_
  rw [List.take_append_drop]
theorem ins_length (out : List Lb) (x : Lb) : (ins out x).length = out.length + 1 := by
  have := (ins_perm out x).length_eq; simpa using this
theorem foldl_perm (l : List Lb) : ∀ acc, (l.foldl ins acc).Perm (l ++ acc) := by
  induction l with
  | nil => intro acc; exact List.Perm.refl _
  | cons x l ih =>
    intro acc
    refine (ih _).trans ?_
    refine (List.Perm.append_left l (ins_perm acc x)).trans ?_
    exact List.perm_middle
theorem sortL_perm (l : List Lb) : (sortL l).Perm l := by
  have := foldl_perm l []; simpa [sortL] using this
theorem sortL_length (l : List Lb) : (sortL l).length = l.length := (sortL_perm l).length_eq
theorem sortL_snoc (l : List Lb) (x : Lb) : sortL (l ++ [x]) = ins (sortL l) x := by simp [sortL]

/-- names rise -/
def Asc (l : List Lb) : Prop := l.Pairwise fun x y => lt x.1 y.1 = true
def Uniq (l : List Lb) : Prop := l.Pairwise fun x y => x.1 ≠ y.1
theorem Asc.uniq {l : List Lb} (h : Asc l) : Uniq l := List.Pairwise.imp (fun h => lt_ne h) h
theorem Uniq.perm {l m : List Lb} (h : Uniq l) (p : l.Perm m) : Uniq m := (p.pairwise_iff (fun h => Ne.symm h)).1 h

theorem posR_spec (x : Lb) (out : List Lb) : ∀ k, k ≤ out.length → (∀ j, posR x out k ≤ j → j < k → lt x.1 (out.getD j lb0).1 = true) ∧ (0 < posR x out k → lt x.1 (out.getD (posR x out k - 1) lb0).1 = false)
  | 0, _ => ⟨fun j _ h => absurd h (by omega), fun h => absurd h (by simp [posR])⟩
  | k + 1, hk => by
    have ih := posR_spec x out k (by omega)
    by_cases h : lt x.1 (out.getD k lb0).1 = true
    · have e : posR x out (k + 1) = posR x out k := by rw [posR, if_pos h]
      rw [e]
      refine ⟨fun j h1 h2 => ?_, ih.2⟩
      by_cases hj : j = k
      · subst hj; exact h
      · exact ih.1 j h1 (by omega)
    · have e : posR x out (k + 1) = k + 1 := by rw [posR, if_neg h]
      rw [e]
      exact ⟨fun j h1 h2 => absurd h2 (by omega), fun _ => by simpa using h⟩
theorem ins_asc {out : List Lb} {x : Lb} (h : Asc out) (hx : ∀ y ∈ out, x.1 ≠ y.1) : Asc (ins out x) := by
  have hp := posR_le x out out.length
  obtain ⟨s1, s2⟩ := posR_spec x out out.length (Nat.le_refl _)
  unfold ins
  generalize posR x out out.length = p at *
  refine List.pairwise_append.2 ⟨h.sublist (List.take_sublist _ _), List.pairwise_cons.2 ⟨fun y hy => ?_, h.sublist (List.drop_sublist _ _)⟩, fun y hy z hz => ?_⟩
  · obtain ⟨i, hi, rfl⟩ := List.getElem_of_mem hy
    rw [List.length_drop] at hi
    have := s1 (p + i) (by omega) (by omega)
    rw [List.getElem_drop]
    rw [List.getD_eq_getElem?_getD, List.getElem?_eq_getElem (by omega)] at this
    exact this
  · obtain ⟨i, hi, rfl⟩ := List.getElem_of_mem hy
    rw [List.length_take] at hi
    have hlx : lt (out[p - 1]'(by omega)).1 x.1 = true := by
      have := s2 (by omega)
      rw [List.getD_eq_getElem?_getD, List.getElem?_eq_getElem (by omega)] at this
      exact lt_total this (hx _ (List.getElem_mem _))
    have hyx : lt ((out.take p)[i]'(by rw [List.length_take]; omega)).1 x.1 = true := by
      rw [List.getElem_take]
      by_cases hi' : i = p - 1
      · subst hi'; exact hlx
      · exact lt_trans (List.pairwise_iff_getElem.1 h i (p - 1) (by omega) (by omega) (by omega)) hlx
    rcases List.mem_cons.1 hz with rfl | hz
    · exact hyx
    · obtain ⟨k, hk, rfl⟩ := List.getElem_of_mem hz
      rw [List.length_drop] at hk
      rw [List.getElem_take, List.getElem_drop]
      exact List.pairwise_iff_getElem.1 h i (p + k) (by omega) (by omega) (by omega)
theorem sortL_asc {l : List Lb} (h : Uniq l) : Asc (sortL l) := by
  have key : ∀ (m : List Lb) (acc : List Lb), Asc acc → Uniq (m ++ acc) → Asc (m.foldl ins acc) := by
    intro m
    induction m with
    | nil => intro acc ha _; exact ha
    | cons x m ih =>
      intro acc ha hu
      have hu' : Uniq (x :: (m ++ acc)) := hu
      obtain ⟨h1, h2⟩ := List.pairwise_cons.1 hu'
      refine ih _ (ins_asc ha fun y hy => h1 y (List.mem_append_right _ hy)) ?_
      refine Uniq.perm hu ?_
      refine (List.perm_middle (l₁ := m) (a := x) (l₂ := acc)).symm.trans ?_
      exact (List.Perm.append_left m (ins_perm acc x)).symm
  exact key l [] List.Pairwise.nil (by simpa using h)
theorem asc_eq {a b : List Lb} (ha : Asc a) (hb : Asc b) (p : a.Perm b) : a = b := by
  induction a generalizing b with
  | nil => exact p.nil_eq
  | cons x a ih =>
    cases b with
    | nil => exact absurd p.length_eq (by simp)
    | cons y b =>
      obtain ⟨hx, ha'⟩ := List.pairwise_cons.1 ha
      obtain ⟨hy, hb'⟩ := List.pairwise_cons.1 hb
      have hxm : x ∈ y :: b := p.subset List.mem_cons_self
      have hym : y ∈ x :: a := p.symm.subset List.mem_cons_self
      have e : x = y := by
        rcases List.mem_cons.1 hxm with e | h1
        · exact e
        · rcases List.mem_cons.1 hym with e | h2
          · exact e.symm
          · have c1 := hx y h2
            have c2 := hy x h1
            rw [lt_asymm c1] at c2
            cases c2
      subst e
      rw [ih ha' hb' (List.Perm.cons_inv p)]
theorem sortL_eq {a b : List Lb} (hu : Uniq a) (hb : Asc b) (p : a.Perm b) : sortL a = b := asc_eq (sortL_asc hu) hb ((sortL_perm a).trans p)

/-- a length as it is encoded -/
def szE (n : Nat) : List UInt8 := if n < 255 then [UInt8.ofNat n] else [255, UInt8.ofNat n, UInt8.ofNat (n / 256), UInt8.ofNat (n / 65536)]
def strE (s : ByteArray) : List UInt8 := szE s.size ++ s.data.toList
def encE (es : List ByteArray) : List UInt8 := es.flatMap strE
def ents (l : List Lb) : List ByteArray := l.flatMap fun x => [x.1, x.2]
def encL (l : List Lb) : List UInt8 := encE (ents l)
theorem ents_cons (x : Lb) (l : List Lb) : ents (x :: l) = x.1 :: x.2 :: ents l := rfl
theorem ents_append (l m : List Lb) : ents (l ++ m) = ents l ++ ents m := by simp [ents]
theorem encE_cons (s : ByteArray) (l : List ByteArray) : encE (s :: l) = strE s ++ encE l := rfl
theorem encE_append (l m : List ByteArray) : encE (l ++ m) = encE l ++ encE m := by simp [encE]
theorem encL_cons (x : Lb) (l : List Lb) : encL (x :: l) = strE x.1 ++ (strE x.2 ++ encL l) := rfl
theorem encL_append (l m : List Lb) : encL (l ++ m) = encL l ++ encL m := by unfold encL; rw [ents_append, encE_append]
def szN (n : Nat) : Nat := if n < 255 then 1 else 4
theorem szE_length (n : Nat) : (szE n).length = szN n := by unfold szE szN; split <;> rfl
theorem szN_pos (n : Nat) : 0 < szN n := by unfold szN; split <;> omega
theorem szN_le (n : Nat) : szN n ≤ 4 := by unfold szN; split <;> omega
theorem strE_length (s : ByteArray) : (strE s).length = szN s.size + s.size := by unfold strE; rw [List.length_append, szE_length]; rfl
def lbN (x : Lb) : Nat := szN x.1.size + x.1.size + (szN x.2.size + x.2.size)
def lbsN (l : List Lb) : Nat := (l.map lbN).sum
theorem encL_length (l : List Lb) : (encL l).length = lbsN l := by
  induction l with
  | nil => rfl
  | cons x l ih => rw [encL_cons, List.length_append, List.length_append, ih, strE_length, strE_length]; simp [lbsN, lbN]; omega
/-- no string is longer than can be encoded -/
def FitE (es : List ByteArray) : Prop := ∀ s ∈ es, s.size < 16777216
def FitL (l : List Lb) : Prop := ∀ x ∈ l, x.1.size < 16777216 ∧ x.2.size < 16777216
theorem FitL.ents {l : List Lb} (h : FitL l) : FitE (ents l) := by
  intro s hs
  obtain ⟨x, hx, hs⟩ := List.mem_flatMap.1 hs
  simp at hs
  rcases hs with rfl | rfl
  · exact (h x hx).1
  · exact (h x hx).2
theorem FitL.perm {l m : List Lb} (h : FitL l) (p : l.Perm m) : FitL m := fun x hx => h x (p.symm.subset hx)
theorem FitL.sort {l : List Lb} (h : FitL l) : FitL (sortL l) := h.perm (sortL_perm l).symm

/-- an encoded string tells what it is -/
theorem szE_inj {n m : Nat} (hn : n < 16777216) (hm : m < 16777216) {a b : List UInt8} (h : szE n ++ a = szE m ++ b) : n = m ∧ a = b := by
  have mod : ∀ (x y : Nat), UInt8.ofNat x = UInt8.ofNat y → x % 256 = y % 256 := fun x y e => by
    have := congrArg UInt8.toNat e; simpa using this
  unfold szE at h
  by_cases h1 : n < 255 <;> by_cases h2 : m < 255
  · rw [if_pos h1, if_pos h2] at h
    simp only [List.cons_append, List.nil_append, List.cons.injEq] at h
    have := mod _ _ h.1
    exact ⟨by omega, h.2⟩
  · rw [if_pos h1, if_neg h2] at h
    simp only [List.cons_append, List.nil_append, List.cons.injEq] at h
    have := mod n 255 h.1
    omega
  · rw [if_neg h1, if_pos h2] at h
    simp only [List.cons_append, List.nil_append, List.cons.injEq] at h
    have := mod 255 m h.1
    omega
  · rw [if_neg h1, if_neg h2] at h
    simp only [List.cons_append, List.nil_append, List.cons.injEq] at h
    obtain ⟨_, e1, e2, e3, e4⟩ := h
    have m1 := mod _ _ e1
    have m2 := mod _ _ e2
    have m3 := mod _ _ e3
    exact ⟨by omega, e4⟩
theorem strE_inj {s t : ByteArray} (hs : s.size < 16777216) (ht : t.size < 16777216) {a b : List UInt8} (h : strE s ++ a = strE t ++ b) : s = t ∧ a = b := by
  unfold strE at h
  rw [List.append_assoc, List.append_assoc] at h
  obtain ⟨h1, h2⟩ := szE_inj hs ht h
  have h3 := List.append_inj h2 (by simpa using h1)
  exact ⟨ByteArray.ext (Array.toList_inj.1 h3.1), h3.2⟩
theorem strE_ne (s : ByteArray) (a : List UInt8) : strE s ++ a ≠ [] := by
  intro h
  have := congrArg List.length h
  rw [List.length_append, strE_length] at this
  have := szN_pos s.size
  simp at *
  omega
theorem encE_inj : ∀ {a b : List ByteArray}, FitE a → FitE b → encE a = encE b → a = b
  | [], [], _, _, _ => rfl
  | [], t :: b, _, _, h => by rw [encE_cons] at h; exact absurd h.symm (strE_ne _ _)
  | s :: a, [], _, _, h => by rw [encE_cons] at h; exact absurd h (strE_ne _ _)
  | s :: a, t :: b, ha, hb, h => by
    rw [encE_cons, encE_cons] at h
    obtain ⟨rfl, h2⟩ := strE_inj (ha _ List.mem_cons_self) (hb _ List.mem_cons_self) h
    rw [encE_inj (fun x hx => ha x (List.mem_cons_of_mem _ hx)) (fun x hx => hb x (List.mem_cons_of_mem _ hx)) h2]
theorem ents_inj : ∀ {a b : List Lb}, ents a = ents b → a = b
  | [], [], _ => rfl
  | [], _ :: _, h => by rw [ents_cons] at h; cases h
  | _ :: _, [], h => by rw [ents_cons] at h; cases h
  | x :: a, y :: b, h => by
    rw [ents_cons, ents_cons] at h
    simp only [List.cons.injEq] at h
    rw [ents_inj h.2.2]
    have : x = y := Prod.ext h.1 h.2.1
    rw [this]
theorem encL_inj {a b : List Lb} (ha : FitL a) (hb : FitL b) (h : encL a = encL b) : a = b := ents_inj (encE_inj ha.ents hb.ents h)

/-- a beginning that is encoded tells what the list begins with -/
theorem pre_inj : ∀ {as b : List ByteArray} {x : List UInt8}, FitE as → FitE b → encE as ++ x = encE b → ∃ c, b = as ++ c ∧ x = encE c
  | [], b, x, _, _, h => ⟨b, rfl, h⟩
  | s :: as, [], x, _, _, h => by
    rw [encE_cons, List.append_assoc] at h
    exact absurd h (strE_ne _ _)
  | s :: as, t :: b, x, ha, hb, h => by
    rw [encE_cons, encE_cons, List.append_assoc] at h
    obtain ⟨rfl, h2⟩ := strE_inj (ha _ List.mem_cons_self) (hb _ List.mem_cons_self) h
    obtain ⟨c, rfl, h3⟩ := pre_inj (fun x hx => ha x (List.mem_cons_of_mem _ hx)) (fun x hx => hb x (List.mem_cons_of_mem _ hx)) h2
    exact ⟨c, rfl, h3⟩

/-- the order of two lists of strings: the first one that differs decides, else the shorter list comes first -/
def cmpE : List ByteArray → List ByteArray → Int
  | [], [] => 0
  | [], _ :: _ => -1
  | _ :: _, [] => 1
  | s :: a, t :: b => if s = t then cmpE a b else if lt s t then -1 else 1
theorem cmpE_self : ∀ a, cmpE a a = 0
  | [] => rfl
  | s :: a => by rw [cmpE, if_pos rfl]; exact cmpE_self a
theorem cmpE_pre : ∀ (a : List ByteArray) {s t : ByteArray} {b c : List ByteArray}, s ≠ t → cmpE (a ++ s :: b) (a ++ t :: c) = if lt s t then -1 else 1
  | [], s, t, b, c, h => by simp only [List.nil_append]; rw [cmpE, if_neg h]
  | x :: a, s, t, b, c, h => by simp only [List.cons_append]; rw [cmpE, if_pos rfl]; exact cmpE_pre a h
theorem cmpE_short : ∀ (a : List ByteArray) {s : ByteArray} {b : List ByteArray}, cmpE a (a ++ s :: b) = -1
  | [], s, b => rfl
  | x :: a, s, b => by simp only [List.cons_append]; rw [cmpE, if_pos rfl]; exact cmpE_short a
theorem cmpE_long : ∀ (a : List ByteArray) {s : ByteArray} {b : List ByteArray}, cmpE (a ++ s :: b) a = 1
  | [], s, b => rfl
  | x :: a, s, b => by simp only [List.cons_append]; rw [cmpE, if_pos rfl]; exact cmpE_long a

/-- the order of two lists of labels -/
def befP : List Lb → List Lb → Int
  | [], [] => 0
  | [], _ :: _ => -1
  | _ :: _, [] => 1
  | x :: a, y :: b => if lt x.1 y.1 = true ∨ (x.1 = y.1 ∧ lt x.2 y.2 = true) then -1 else if x = y then befP a b else 1
theorem befP_eq : ∀ a b : List Lb, cmpE (ents a) (ents b) = befP a b
  | [], [] => rfl
  | [], y :: b => rfl
  | x :: a, [] => rfl
  | x :: a, y :: b => by
    rw [ents_cons, ents_cons, befP, cmpE]
    by_cases h1 : x.1 = y.1
    · rw [if_pos h1, cmpE]
      by_cases h2 : x.2 = y.2
      · have : x = y := Prod.ext h1 h2
        subst this
        rw [if_pos rfl, befP_eq a b]
        simp [lt_irrefl]
      · have : x ≠ y := fun c => h2 (congrArg (·.2) c)
        rw [if_neg h2]
        by_cases h3 : lt x.2 y.2 = true
        · rw [if_pos h3, if_pos (.inr ⟨h1, h3⟩)]
        · rw [if_neg h3, if_neg (by rintro (c | c); · rw [h1, lt_irrefl] at c; cases c
                                    · exact h3 c.2), if_neg this]
    · have : x ≠ y := fun c => h1 (congrArg (·.1) c)
      rw [if_neg h1]
      by_cases h3 : lt x.1 y.1 = true
      · rw [if_pos h3, if_pos (.inl h3)]
      · rw [if_neg h3, if_neg (by rintro (c | c); · exact h3 c
                                  · exact h1 c.1), if_neg this]
theorem befP_zero : ∀ {a b : List Lb}, befP a b = 0 ↔ a = b
  | [], [] => by simp [befP]
  | [], y :: b => by simp [befP]
  | x :: a, [] => by simp [befP]
  | x :: a, y :: b => by
    rw [befP]
    by_cases h : lt x.1 y.1 = true ∨ (x.1 = y.1 ∧ lt x.2 y.2 = true)
    · rw [if_pos h]
      refine ⟨fun c => absurd c (by decide), fun c => ?_⟩
      obtain ⟨rfl, _⟩ := List.cons.inj c
      rcases h with h | h
      · rw [lt_irrefl] at h; cases h
      · rw [lt_irrefl] at h; cases h.2
    · rw [if_neg h]
      by_cases e : x = y
      · rw [if_pos e, befP_zero, e]; simp
      · rw [if_neg e]
        refine ⟨fun c => absurd c (by decide), fun c => absurd (List.cons.inj c).1 e⟩
theorem befP_drop {a b : List Lb} {k : Nat} (ha : k < a.length) (hb : k < b.length) : befP (a.drop k) (b.drop k) = if lt a[k].1 b[k].1 = true ∨ (a[k].1 = b[k].1 ∧ lt a[k].2 b[k].2 = true) then -1 else if a[k] = b[k] then befP (a.drop (k + 1)) (b.drop (k + 1)) else 1 := by
  rw [List.drop_eq_getElem_cons ha, List.drop_eq_getElem_cons hb, befP]

/-- the value of a name -/
def look (l : List Lb) (n : ByteArray) : Option ByteArray := (l.find? fun x => decide (x.1 = n)).map (·.2)
theorem look_cons (x : Lb) (l : List Lb) (n : ByteArray) : look (x :: l) n = if x.1 = n then some x.2 else look l n := by
  unfold look
  rw [List.find?_cons]
  by_cases h : x.1 = n <;> simp [h]
theorem look_none {l : List Lb} {n : ByteArray} (h : ∀ x ∈ l, x.1 ≠ n) : look l n = none := by
  unfold look
  rw [List.find?_eq_none.2]; · rfl
  intro x hx
  simpa using h x hx
theorem look_mem {l : List Lb} {n : ByteArray} {x : Lb} (hu : Uniq l) (hx : x ∈ l) (hn : x.1 = n) : look l n = some x.2 := by
  induction l with
  | nil => cases hx
  | cons y l ih =>
    obtain ⟨h1, h2⟩ := List.pairwise_cons.1 hu
    rw [look_cons]
    rcases List.mem_cons.1 hx with rfl | hx
    · rw [if_pos hn]
    · rw [if_neg (fun c => h1 x hx (c.trans hn.symm))]
      exact ih h2 hx
theorem look_some {l : List Lb} {n v : ByteArray} (h : look l n = some v) : (n, v) ∈ l := by
  induction l with
  | nil => cases h
  | cons y l ih =>
    rw [look_cons] at h
    by_cases c : y.1 = n
    · rw [if_pos c] at h
      cases h
      subst c
      exact List.mem_cons_self
    · rw [if_neg c] at h
      exact List.mem_cons_of_mem _ (ih h)
theorem look_perm {l m : List Lb} (hu : Uniq l) (p : l.Perm m) (n : ByteArray) : look l n = look m n := by
  cases h : look l n with
  | some v => exact (look_mem (hu.perm p) (p.subset (look_some h)) rfl).symm
  | none =>
    cases k : look m n with
    | none => rfl
    | some v => rw [look_mem hu (p.symm.subset (look_some k)) rfl] at h; cases h
theorem lt_of_head {x y : ByteArray} {a b : UInt8} {as bs : List UInt8} (hx : x.toList = a :: as) (hy : y.toList = b :: bs) (h : a < b) : lt x y = true := by
  rw [lt_iff, hx, hy]
  exact List.cons_lt_cons_iff.2 (.inl h)

/-- what is read at a place of a text: the bytes from there on -/
def From (d : ByteArray) (i : Nat) (l : List UInt8) : Prop := d.data.toList.drop i = l ∧ i ≤ d.size
theorem From.size {d : ByteArray} {i : Nat} {l : List UInt8} (h : From d i l) : d.size = i + l.length := by
  have := congrArg List.length h.1
  have h2 := h.2
  rw [List.length_drop] at this
  have e : d.data.toList.length = d.size := rfl
  omega
theorem From.skip {d : ByteArray} {i : Nat} {l m : List UInt8} (h : From d i (l ++ m)) : From d (i + l.length) m := by
  have := h.size
  rw [List.length_append] at this
  refine ⟨?_, by omega⟩
  rw [← List.drop_drop, h.1, List.drop_append_of_le_length (Nat.le_refl _), List.drop_length, List.nil_append]
theorem From.get {d : ByteArray} {i : Nat} {l : List UInt8} (h : From d i l) (j : Nat) (hj : j < l.length) (hd : i + j < d.size) : d[i + j]'hd = l[j] := by
  have h1 : (d.data.toList.drop i)[j]? = l[j]? := by rw [h.1]
  rw [List.getElem?_drop, List.getElem?_eq_getElem hj, List.getElem?_eq_getElem (by exact hd)] at h1
  have h2 := Option.some.inj h1
  exact h2
theorem From.cut {d s : ByteArray} {i : Nat} {m : List UInt8} (h : From d i (s.data.toList ++ m)) : d.extract i (i + s.size) = s := by
  apply ByteArray.ext
  rw [ByteArray.data_extract]
  apply Array.toList_inj.1
  rw [Array.toList_extract, List.extract_eq_take_drop, h.1]
  rw [show i + s.size - i = s.data.toList.length by rw [show s.data.toList.length = s.size from rfl]; omega]
  exact List.take_left ..
theorem From.start (l : List UInt8) : From ⟨l.toArray⟩ 0 l := ⟨by simp, Nat.zero_le _⟩
theorem u8n (n : Nat) : (UInt8.ofNat n).toNat = n % 256 := by simp
theorem From.small {d : ByteArray} {i n : Nat} {m : List UInt8} (h : From d i (szE n ++ m)) (hn : n < 255) : ∃ hi : i < d.size, (d[i]'hi).toNat = n := by
  have hs := h.size
  rw [List.length_append, szE_length] at hs
  have := szN_pos n
  have e : szE n = [UInt8.ofNat n] := by unfold szE; rw [if_pos hn]
  refine ⟨by omega, ?_⟩
  have := h.get 0 (by rw [e]; simp) (by omega)
  simp only [e, Nat.add_zero] at this
  rw [this]
  simp
  omega
theorem From.big {d : ByteArray} {i n : Nat} {m : List UInt8} (h : From d i (szE n ++ m)) (hn : ¬ n < 255) : ∃ (h0 : i < d.size) (h1 : i + 1 < d.size) (h2 : i + 2 < d.size) (h3 : i + 3 < d.size), (d[i]'h0).toNat = 255 ∧ (d[i + 1]'h1).toNat = n % 256 ∧ (d[i + 2]'h2).toNat = n / 256 % 256 ∧ (d[i + 3]'h3).toNat = n / 65536 % 256 := by
  have hs := h.size
  rw [List.length_append, szE_length] at hs
  have e4 : szN n = 4 := by unfold szN; rw [if_neg hn]
  have e : szE n = [255, UInt8.ofNat n, UInt8.ofNat (n / 256), UInt8.ofNat (n / 65536)] := by unfold szE; rw [if_neg hn]
  rw [e] at h
  have g0 := h.get 0 (by simp) (by omega)
  have g1 := h.get 1 (by simp) (by omega)
  have g2 := h.get 2 (by simp) (by omega)
  have g3 := h.get 3 (by simp) (by omega)
  simp only [Nat.add_zero] at g0
  refine ⟨by omega, by omega, by omega, by omega, ?_, ?_, ?_, ?_⟩
  · rw [g0]; rfl
  · rw [g1]; simp
  · rw [g2]; simp
  · rw [g3]; simp

theorem cmpB_neg : ∀ (a b : List UInt8), decide (Lib.compareBytes a b < 0) = Op.bytesLess a b
  | [], [] => by simp [Lib.compareBytes, Op.bytesLess]
  | [], b :: y => by simp [Lib.compareBytes, Op.bytesLess]
  | a :: x, [] => by simp [Lib.compareBytes, Op.bytesLess]
  | a :: x, b :: y => by
    rw [Op.bytesLess, ← cmpB_neg x y, Lib.compareBytes]
    by_cases h1 : a < b
    · simp [h1]
    · by_cases h2 : b < a
      · have : a ≠ b := by rintro rfl; exact h1 h2
        simp [h1, h2, this]
      · have : a = b := UInt8.le_antisymm (UInt8.not_lt.1 h2) (UInt8.not_lt.1 h1)
        simp [h1, h2, this]
theorem cmpB_lt (x y : ByteArray) : decide (Lib.compareBytes x.data.toList y.data.toList < 0) = lt x y := by
  rw [cmpB_neg]; unfold lt; rw [Lib.toList_data, Lib.toList_data]

/-- labels that a law speaks of -/
def Right (most bytes : Nat) (l : List Lb) : Prop := l.length ≤ most ∧ (∀ x ∈ l, x.1.size ≠ 0 ∧ x.1.size ≤ bytes ∧ x.2.size ≤ bytes) ∧ Uniq l
theorem Right.fit {most bytes : Nat} {l : List Lb} (h : Right most bytes l) (hb : bytes < 16777216) : FitL l := fun x hx => ⟨Nat.lt_of_le_of_lt (h.2.1 x hx).2.1 hb, Nat.lt_of_le_of_lt (h.2.1 x hx).2.2 hb⟩
theorem Uniq.snoc {l : List Lb} {x : Lb} (h : Uniq l) (hx : ∀ y ∈ l, y.1 ≠ x.1) : Uniq (l ++ [x]) := List.pairwise_append.2 ⟨h, List.pairwise_singleton _ _, fun y hy z hz => by simp at hz; subst hz; exact hx y hy⟩

/-- labels at one place put one to the left -/
theorem swap_form {α : Type} (O : List α) (x : α) (r : List α) (j : Nat) (hj : j < O.length) : O.take (j + 1) ++ x :: (O.drop (j + 1) ++ r) = O.take j ++ O[j] :: x :: (O.drop (j + 1) ++ r) ∧ O.take j ++ x :: (O.drop j ++ r) = O.take j ++ x :: O[j] :: (O.drop (j + 1) ++ r) := by
  refine ⟨?_, ?_⟩
  · rw [List.take_add_one, List.getElem?_eq_getElem hj, List.append_assoc]; rfl
  · rw [List.drop_eq_getElem_cons hj]; rfl
end Go.Proofs.YtapoodnjkkhggaaGreat
