/-
  append(a, b...) of two rows of buckets that the call owns.
-/
import Derived.Test.YtbgkoapnejnfbaaDoorBuckets
import Derived.Deep.AppendSrc
namespace Go.Proofs.YtbgkoapnejnfbaaDoor
set_option linter.unusedSimpArgs false
set_option linter.unusedVariables false
open Go.RowKit

theorem inner_len {fl : Bool} {ds : List Int} {cs : List Nat} : ∀ (r : Nat) (s s' : Bst), inner fl ds cs r s = some s' → s.out.length = s.n → s.n ≤ (if fl = true then cs.length else ds.length) → s'.out.length = s'.n ∧ s'.n ≤ (if fl = true then cs.length else ds.length)
  | 0, s, s', h, h1, h2 => by simp only [inner, Option.some.injEq] at h; subst h; exact ⟨h1, h2⟩
  | r + 1, s, s', h, h1, h2 => by
    rw [inner_succ] at h
    by_cases c1 : (if fl = true then cs.length else ds.length) ≤ s.n
    · rw [if_pos c1] at h; cases h
    · rw [if_neg c1] at h
      by_cases c2 : fl = true
      · rw [if_pos c2] at h
        exact inner_len r _ _ h (by simp [h1]) (Nat.lt_of_not_le c1)
      · rw [if_neg c2] at h
        by_cases c3 : wrap64 (s.sum + ds.getD s.n 0) < 0
        · rw [if_pos c3] at h; cases h
        · rw [if_neg c3] at h
          exact inner_len r _ _ h (by simp [h1]) (Nat.lt_of_not_le c1)
theorem outer_len {fl : Bool} {ds : List Int} {cs : List Nat} : ∀ (first : Bool) (l : List (Int × Int)) (s s' : Bst), outer fl ds cs first l s = some s' → s.out.length = s.n → s.n ≤ (if fl = true then cs.length else ds.length) → s'.out.length = s'.n ∧ s'.n ≤ (if fl = true then cs.length else ds.length)
  | _, [], s, s', h, h1, h2 => by simp only [outer, Option.some.injEq] at h; subst h; exact ⟨h1, h2⟩
  | first, x :: l, s, s', h, h1, h2 => by
    rw [outer_cons] at h
    by_cases c1 : first = false ∧ x.1 < 0
    · rw [if_pos c1] at h; cases h
    · rw [if_neg c1] at h
      cases he : inner fl ds cs x.2.toNat ⟨wrap64 (s.at_ + x.1), s.n, s.sum, s.out⟩ with
      | none => rw [he] at h; cases h
      | some s1 =>
        rw [he] at h
        obtain ⟨g1, g2⟩ := inner_len _ _ _ he h1 h2
        exact outer_len _ l _ _ h g1 g2
theorem bkts_len (fl : Bool) (l : List (Int × Int)) (ds : List Int) (cs : List Nat) : (bkts fl l ds cs).1.length ≤ (if fl = true then cs.length else ds.length) := by
  cases h : outer fl ds cs true l ⟨0, 0, 0, []⟩ with
  | none => rw [bkts_none h]; exact Nat.zero_le _
  | some s =>
    rw [bkts_some h]
    obtain ⟨h1, h2⟩ := outer_len _ _ _ _ h rfl (Nat.zero_le _)
    show s.out.length ≤ _
    omega

theorem run_append_none (w : World) (base : Nat) (v : Value) (n : Nat) (xs : List Value) (ty : TypeId) (hown : w.ownsRow base 66 2 v n xs) :
    (Builtin.append_ #[53, 53] ty #[v, .slice none 0 0]).run Tryd.prog w = .ok v w := by
  obtain ⟨i0, hi, hz0, hz1, hz2⟩ := info_parts infoBucket
  rcases hown.2 with ⟨rfl, _⟩ | ⟨g, cap, cur, rfl, h1, h2, h3, h4, h5, h6⟩
  · exact run_append_empty w _ _ _ i0 Tryd.underlying53 hi none 0
  · have := run_append_room_src (P := Tryd.prog) w 53 53 ty 66 i0 Tryd.underlying53 hi g 0 n cap (.slice none 0 0) 0 [] (Src.ofNil w Tryd.underlying53 0) (by omega) (fun j hj => absurd hj (by simp)) (fun j hj => absurd hj (by simp))
    rw [this]
    simp [World.setCells]

set_option maxRecDepth 100000 in
theorem wpList_append_rows {w : World} {ops : Array Oper} {rest : List Oper} {o : Oper} {a : Act} {Q : Exit → Act → World → Prop} (hgd : o.guard = none) (s x : Operand)
    (ho : o.op = .call { callee := .builtin .append, args := #[s, x], argTypes := #[53, 53] }) (hty : o.type = 53)
    (base : Nat) (v : Value) (n : Nat) (l : List (Int × Int)) (hs : a.eval s = v) (hown : w.ownsRow base 66 2 v n (flat .i64 .u64 l))
    (base2 : Nat) (v2 : Value) (m : Nat) (l2 : List (Int × Int)) (hx : a.eval x = v2) (hown2 : w.ownsRow base2 66 2 v2 m (flat .i64 .u64 l2))
    (hn : n + m ≤ 8589934592) (hbase : base ≤ w.heap.size)
    (h : ∀ v' w', w'.ownsRow base 66 2 v' (n + m) (flat .i64 .u64 (l ++ l2)) → w.grownBy w' v.ownBlock → wpList Tryd.prog ops Q rest (a.put o.dst v') w') : wpList Tryd.prog ops Q (o :: rest) a w := by
  obtain ⟨i0, hi, hz0, hz1, hz2⟩ := info_parts infoBucket
  have hlen := hown2.1
  rw [flat_append] at h
  rcases id hown2.2 with ⟨rfl, h0⟩ | ⟨g, cap, cur, rfl, h1, h2, h3, h4, h5, h6⟩
  · have hm : m = 0 := by first | exact h0 | (rw [h0] at hlen; simp at hlen; omega) | (simp at h0; exact h0.1)
    have hl2 : flat .i64 .u64 l2 = [] := by rw [← List.length_eq_zero_iff, hlen, hm]
    refine wpList_plain hgd fun _ hK => ?_
    have hr := run_append_none w base v n _ 53 hown
    have hw := h v w (by rw [hl2, hm]; simpa using hown) ⟨rfl, rfl, rfl, Nat.le_refl _, fun _ _ _ => rfl⟩
    unfold Oper.wp execOp
    simp only [ho, hty, resolve, invoke, builtin, Sem.run_bind, Sem.run_pure, Result.andThen_ok, List.map_toArray, List.map_cons, List.map_nil, hs, hx, hr]
    exact hK _ _ hw
  · have hsl := Sl.own hown2
    refine wpList_append_own w hgd s x 53 ho base 66 i0 (.agg #[.int .i64 0, .int .u64 0]) 2 16 Tryd.underlying53 hi hz0 hz1 hz2 rfl (by decide) v n _ hs hown ⟨g, 0, none⟩ m cap (flat .i64 .u64 l2) hx hlen (fun j u hj => ?_) (fun u hu => ?_) (by unfold maxLen; omega) (by omega) hbase fun v' w' k1 k2 _ => h v' w' k1 k2
    · have hjl := (List.getElem?_eq_some_iff.1 hj).1
      have hm0 : 0 < m := by rcases Nat.eq_zero_or_pos m with e | e
                             · subst e; rw [hlen] at hjl; exact absurd hjl (Nat.not_lt_zero _)
                             · exact e
      obtain ⟨b, off, e, _, _, hc⟩ := hsl.at_ hm0
      cases e
      rw [add_lit, hc j (by omega)]
      congr 1
      rw [List.getD_eq_getElem?_getD, hj]
      rfl
    · unfold flat at hu
      obtain ⟨y, _, hy⟩ := List.mem_flatMap.1 hu
      rcases List.mem_cons.1 hy with rfl | hy
      · rfl
      · rcases List.mem_cons.1 hy with rfl | hy
        · rfl
        · cases hy
end Go.Proofs.YtbgkoapnejnfbaaDoor
