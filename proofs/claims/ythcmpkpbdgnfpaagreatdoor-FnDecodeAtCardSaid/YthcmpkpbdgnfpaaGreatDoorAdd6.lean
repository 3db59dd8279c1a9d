/-
  Intervals.Add: what it returns, as a function of lists.
-/
import Derived.Test.YthcmpkpbdgnfpaaGreatDoorAdd4
import Derived.Test.YthcmpkpbdgnfpaaGreatDoorAdd5
namespace Go.Proofs.YthcmpkpbdgnfpaaGreatDoor
set_option linter.unusedSimpArgs false
set_option linter.unusedVariables false
open Go.RowKit

/-- where the new interval goes, how many it is joined with -/
def mOf (l : List (Int × Int)) (a : Int) : Nat := if a = -9223372036854775808 then 0 else cLo l a
def addL (l : List (Int × Int)) (a b : Int) : List (Int × Int) :=
  if mOf l a = l.length then l ++ [(a, b)]
  else if cHi l b (mOf l a) = 0 then l.take (mOf l a) ++ ([(a, b)] ++ l.drop (mOf l a))
  else l.take (mOf l a) ++ ([(min a (l.getD (mOf l a) (0, 0)).1, max b (l.getD (mOf l a + cHi l b (mOf l a) - 1) (0, 0)).2)] ++ l.drop (mOf l a + cHi l b (mOf l a)))

/-- intervals that rise and do not touch -/
def Rise : List (Int × Int) → Prop
  | [] => True
  | x :: l => x.1 ≤ x.2 ∧ -9223372036854775808 ≤ x.1 ∧ x.2 < 9223372036854775807 ∧ (∀ y ∈ l, x.2 + 1 < y.1) ∧ Rise l
theorem Rise.at_ : ∀ {l : List (Int × Int)}, Rise l → ∀ (i : Nat) (h : i < l.length), l[i].1 ≤ l[i].2 ∧ -9223372036854775808 ≤ l[i].1 ∧ l[i].2 < 9223372036854775807
  | x :: l, h, 0, _ => ⟨h.1, h.2.1, h.2.2.1⟩
  | x :: l, h, i + 1, hi => Rise.at_ h.2.2.2.2 i (by simpa using hi)
theorem Rise.lt : ∀ {l : List (Int × Int)}, Rise l → ∀ (i j : Nat) (hij : i < j) (h : j < l.length), l[i].2 + 1 < l[j].1
  | x :: l, h, 0, j + 1, _, hj => h.2.2.2.1 _ (List.getElem_mem (by simpa using hj))
  | x :: l, h, i + 1, j + 1, hij, hj => Rise.lt h.2.2.2.2 i j (by omega) (by simpa using hj)
theorem Rise.le {l : List (Int × Int)} (h : Rise l) (i j : Nat) (hij : i ≤ j) (hj : j < l.length) : l[i].1 ≤ l[j].1 ∧ l[i].2 ≤ l[j].2 := by
  rcases Nat.lt_or_ge i j with hlt | hge
  · have h1 := h.lt i j hlt hj
    have h2 := h.at_ i (by omega)
    have h3 := h.at_ j hj
    omega
  · obtain rfl : i = j := by omega
    exact ⟨Int.le_refl _, Int.le_refl _⟩
theorem getD_at {α : Type} {l : List α} {i : Nat} {d : α} (h : i < l.length) : l.getD i d = l[i] := by rw [List.getD_eq_getElem?_getD, List.getElem?_eq_getElem h]; rfl
theorem Rise.lo {l : List (Int × Int)} (h : Rise l) (a : Int) : ∀ i j, i ≤ j → j < l.length → pLo l a i = true → pLo l a j = true := by
  intro i j hij hj hp
  have := (h.le i j hij hj).2
  unfold pLo at *
  rw [getD_at hj]
  rw [getD_at (by omega : i < l.length)] at hp
  simp at *
  omega
theorem Rise.hi {l : List (Int × Int)} (h : Rise l) (b : Int) (m : Nat) : ∀ i j, i ≤ j → j < l.length - m → pHi l b m i = true → pHi l b m j = true := by
  intro i j hij hj hp
  have := (h.le (m + i) (m + j) (by omega) (by omega)).1
  unfold pHi at *
  rw [getD_at (by omega : m + j < l.length)]
  rw [getD_at (by omega : m + i < l.length)] at hp
  simp at *
  omega

theorem add_any (base : Nat) (v : Value) (a b : Int) (l : List (Int × Int)) (w : World) (h : w.ownsRow base IT 2 v l.length (flatI l)) (hbase : base ≤ w.heap.size) (hl : l.length ≤ 1000000) (hR : Rise l)
    (ha0 : -9223372036854775808 ≤ a) (hab : a ≤ b) (hb1 : b < 9223372036854775807) :
    Calls Tryz.prog 35 #[v, .agg #[.int .i64 a, .int .i64 b]] w fun e w' => ∃ v', e = .returned v' ∧ w'.ownsRow base IT 2 v' (addL l a b).length (flatI (addL l a b)) ∧ Chg (fun k => some k = v.ownBlock ∨ w.heap.size ≤ k) w w' := by
  rcases Nat.eq_zero_or_pos l.length with h0 | h0
  · have hl0 : l = [] := List.length_eq_zero_iff.1 h0
    subst hl0
    refine (add_nil base v a b w h hbase).mono fun e w' ⟨v', he, ho, hc⟩ => ⟨v', he, ?_, hc.mono fun k hk => .inl hk⟩
    have : addL [] a b = [(a, b)] := by
      unfold addL mOf cLo
      simp
    rw [this]
    exact ho
  · obtain ⟨g, cap, rfl, hg⟩ := own_some h h0
    have hbl : ∀ k, (k = g ∨ w.heap.size ≤ k) → (some k = (Value.slice (some ⟨g, 0, none⟩) l.length cap).ownBlock ∨ w.heap.size ≤ k) := fun k hk => hk.imp (fun e => by rw [e]; rfl) id
    by_cases hend : mOf l a = l.length
    · have hamin : a ≠ -9223372036854775808 := fun e => by unfold mOf at hend; rw [if_pos e] at hend; omega
      have hcl : cLo l a = l.length := by unfold mOf at hend; rwa [if_neg hamin] at hend
      refine (add_end base cap ⟨g, 0, none⟩ a b l w h hbase h0 hl (by omega) (by omega) (hR.lo a) hcl).mono fun e w' ⟨v', he, ho, hc⟩ => ⟨v', he, ?_, hc.mono hbl⟩
      unfold addL
      rw [if_pos hend, List.length_append]
      exact ho
    · have hml : mOf l a < l.length := by
        have : mOf l a ≤ l.length := by unfold mOf; split; · omega
                                        · exact cLo_le l a
        omega
      have ha : (a = -9223372036854775808 ∧ mOf l a = 0) ∨ (-9223372036854775808 < a ∧ cLo l a = mOf l a) := by
        unfold mOf
        split
        · exact .inl ⟨‹_›, rfl⟩
        · exact .inr ⟨by omega, rfl⟩
      unfold addL
      rw [if_neg hend]
      have hkl := cHi_le l b (mOf l a)
      by_cases hk : cHi l b (mOf l a) = 0
      · rw [if_pos hk]
        have hlen : (l.take (mOf l a) ++ ([(a, b)] ++ l.drop (mOf l a))).length = l.length + 1 := by simp; omega
        rw [hlen]
        rcases Nat.eq_zero_or_pos (mOf l a) with hm | hm
        · refine (add_front base cap (mOf l a) 0 ⟨g, 0, none⟩ a b l w h hbase hml hl ha (by omega) (by omega) hb1 (hR.lo a) (hR.hi b _) hk rfl hm).mono fun e w' ⟨v', he, ho, hc⟩ => ⟨v', he, ?_, hc.mono hbl⟩
          rw [hm]
          exact ho
        · exact (add_mid base cap (mOf l a) 0 ⟨g, 0, none⟩ a b l w h hbase hml hl ha (by omega) (by omega) hb1 (hR.lo a) (hR.hi b _) hk rfl hm).mono fun e w' ⟨v', he, ho, hc⟩ => ⟨v', he, ho, hc.mono hbl⟩
      · rw [if_neg hk]
        have hlen : (l.take (mOf l a) ++ ([(min a (l.getD (mOf l a) (0, 0)).1, max b (l.getD (mOf l a + cHi l b (mOf l a) - 1) (0, 0)).2)] ++ l.drop (mOf l a + cHi l b (mOf l a)))).length = l.length + 1 - cHi l b (mOf l a) := by simp; omega
        rw [hlen]
        exact (add_merge base cap (mOf l a) _ ⟨g, 0, none⟩ a b l w h hbase hml hl ha (by omega) (by omega) hb1 (hR.lo a) (hR.hi b _) rfl (by omega)).mono fun e w' ⟨v', he, ho, hc⟩ => ⟨v', he, ho, hc.mono hbl⟩
end Go.Proofs.YthcmpkpbdgnfpaaGreatDoor
