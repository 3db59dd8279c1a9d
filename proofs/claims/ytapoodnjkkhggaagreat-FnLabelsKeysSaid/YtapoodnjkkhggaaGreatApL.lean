/-
  append of labels onto an owned row; spec.Sorted.
-/
import Derived.Test.YtapoodnjkkhggaaGreatNew
import Derived.Test.YtapoodnjkkhggaaGreatSpR
import Derived.Deep.AppendSrc
import Derived.Deep.Cut
namespace Go.Proofs.YtapoodnjkkhggaaGreat
set_option linter.unusedSimpArgs false
set_option linter.unusedVariables false
open Go.RowKit

abbrev IT0 : TypeId := 59
abbrev IS0 : TypeId := 23
theorem own_ls_append {w : World} {base n : Nat} {v : Value} {xs : List Value} (hown : w.ownsRow base IT0 2 v n xs) (s : Value) (B : Nat) (l : List Lb) (hs : LsB w B s l) (hn : n + l.length ≤ 2147483648) (hbase : base ≤ w.heap.size) :
    ∃ v' w', (Builtin.append_ #[IS0, IS0] IS0 #[v, s]).run Tryz.prog w = .ok v' w' ∧ w'.ownsRow base IT0 2 v' (n + l.length) (xs ++ lcells l) ∧ w.grownBy w' v.ownBlock := by
  obtain ⟨i0, hi, hz0, hz1, hz2⟩ := info_parts infoLb2
  obtain ⟨ao, cap, rfl, h1, h2⟩ := hs.form
  rcases Nat.eq_zero_or_pos l.length with h0 | h0
  · obtain rfl : l = [] := List.length_eq_zero_iff.1 h0
    have hsrc : Src Tryz.prog i0.size IS0 (.slice ao 0 cap) 0 [] w := by
      rw [hz1]
      cases ao with
      | none => exact Src.ofNil w Tryz.underlying23 cap
      | some a => exact Src.ofSlice w Tryz.underlying23 a 0 cap [] rfl (fun j u hj => by simp at hj) (fun u hu => by simp at hu)
    have hgr : w.grownBy w v.ownBlock := ⟨rfl, rfl, rfl, Nat.le_refl _, fun _ _ _ => rfl⟩
    have e1 : n + ([] : List Lb).length = n := rfl
    have e2 : xs ++ lcells [] = xs := by simp [lcells]
    rw [e1, e2]
    have hown' := hown
    rcases hown.2 with ⟨rfl, rfl⟩ | ⟨g, cap', cur, rfl, hbg, hg, hnc, hcm, hcs, htake⟩
    · refine ⟨.slice none 0 0, w, ?_, hown', hgr⟩
      rcases hsrc.kind with ⟨e', hk⟩ | hk <;> simp [Builtin.append_, run_underlying Tryz.underlying23, run_underlying hk, sizeOf, typeInfo, hi, hsrc.len, hsrc.cells, hsrc.cellsD]
    · have hr := run_append_room_src (P := Tryz.prog) w IS0 IS0 IS0 IT0 i0 Tryz.underlying23 hi g 0 n cap' (.slice ao 0 cap) 0 [] hsrc (by omega) (fun j hj => absurd hj (by simp)) (fun j hj => absurd hj (by simp))
      refine ⟨_, w, ?_, hown', hgr⟩
      rw [show ([] : List Lb).length = 0 from rfl, hr]
      simp [World.setCells]
  · obtain ⟨b, off, rfl, hb, hB, hc⟩ := hs.at_ h0
    obtain ⟨v', w', hr, hh2, hh3, _⟩ := run_append_own (P := Tryz.prog) w base IS0 IS0 IT0 i0 _ 2 32 Tryz.underlying23 hi hz0 hz1 hz2 rfl (by decide) v n xs hown ⟨b, off, none⟩ l.length cap (lcells l) (lcells_length l) (fun j u hj => by
      have hjl : j < l.length * 2 := by
        rcases Nat.lt_or_ge j (l.length * 2) with h | h
        · exact h
        · rw [List.getElem?_eq_none (by rw [lcells_length]; exact h)] at hj; cases hj
      rw [add_cell]
      obtain ⟨p0, p1⟩ := hc (j / 2) (by omega)
      obtain ⟨q0, q1⟩ := lcells_at l (j / 2) (by omega)
      rcases Nat.mod_two_eq_zero_or_one j with hm | hm
      · have e : j = j / 2 * 2 := by omega
        rw [e] at hj ⊢
        rw [p0, ← q0, hj]
      · have e : j = j / 2 * 2 + 1 := by omega
        rw [e] at hj ⊢
        rw [← Nat.add_assoc, p1, ← q1, hj]) (lcells_one l) (by unfold maxLen; omega) (by omega) hbase
    exact ⟨v', w', hr, hh2, hh3⟩
theorem step_ls {ops : Array Oper} {o : Oper} {a : Act} {w : World} {K : Act → World → Prop} {Q : Exit → Act → World → Prop} {E : Prop} (hgd : o.guard = none) (x y : Operand) (ho : o.op = .call { callee := .builtin .append, args := #[x, y], argTypes := #[IS0, IS0] }) (hty : o.type = IS0) {v s : Value} (hx : a.eval x = v) (hy : a.eval y = s)
    (base n : Nat) (xs : List Value) (B : Nat) (l : List Lb) (n' : Nat) (ys : List Value) (hown : w.ownsRow base IT0 2 v n xs) (hs : LsB w B s l) (hn : n + l.length = n' ∧ n' ≤ 2147483648 ∧ ys = xs ++ lcells l) (hbase : base ≤ w.heap.size)
    (hK : ∀ v' w', w'.ownsRow base IT0 2 v' n' ys → w.grownBy w' v.ownBlock → K (a.put o.dst v') w') :
    if Region.wanted o (yielded ops a.tmps) = true then Oper.wp Tryz.prog o a w K Q else E := by
  obtain ⟨rfl, hn, rfl⟩ := hn
  obtain ⟨v', w', hr, h2, h3⟩ := own_ls_append hown s B l hs hn hbase
  exact step_run IS0 IS0 hgd x y ho hty hx hy hr (hK v' w' h2 h3)
theorem LsB.take {w : World} {B n cap : Nat} {ao : Option Addr} {l : List Lb} (h : LsB w B (.slice ao n cap) l) {k : Nat} (hk : k ≤ l.length) : LsB w B (.slice ao k cap) (l.take k) := by
  obtain ⟨ao', cap', hv, h1, h2, h3⟩ := h
  cases hv
  have hl : (l.take k).length = k := by rw [List.length_take]; omega
  refine ⟨ao, cap, by rw [hl], by omega, h2, ?_⟩
  rw [hl]
  rcases h3 with h3 | ⟨b, off, h4, h5, h6, h7⟩
  · left; omega
  · refine .inr ⟨b, off, h4, h5, h6, fun i hi => ?_⟩
    rw [h7 i (by omega)]
    have : i / 2 < k := by omega
    simp [cellL, List.getElem?_take, this]
theorem LsB.drop {w : World} {B n cap : Nat} {ao : Option Addr} {l : List Lb} (h : LsB w B (.slice ao n cap) l) {k : Nat} (hk : k ≤ l.length) {a : Option Addr} (ha : ∀ b off, ao = some ⟨b, off, none⟩ → k < l.length → a = some ⟨b, off + k * 2, none⟩) : LsB w B (.slice a (n - k) (cap - k)) (l.drop k) := by
  obtain ⟨ao', cap', hv, h1, h2, h3⟩ := h
  cases hv
  have hl : (l.drop k).length = l.length - k := List.length_drop
  refine ⟨a, cap - k, by rw [hl], by omega, by omega, ?_⟩
  rw [hl]
  rcases Nat.lt_or_ge k l.length with hlt | hge
  · rcases h3 with h3 | ⟨b, off, h4, h5, h6, h7⟩
    · omega
    · refine .inr ⟨b, off + k * 2, ha b off h4 hlt, h5, h6, fun i hi => ?_⟩
      rw [show off + k * 2 + i = off + (k * 2 + i) by omega, h7 (k * 2 + i) (by omega)]
      have e1 : (k * 2 + i) % 2 = i % 2 := by omega
      have e2 : (k * 2 + i) / 2 = k + i / 2 := by omega
      simp [cellL, e1, e2, List.getElem?_drop]
  · left; omega
theorem LsB.own {w : World} {base e : Nat} {v : Value} {n : Nat} {l : List Lb} (h : w.ownsRow base e 2 v n (lcells l)) : LsB w w.heap.size v l := Ls.own h
end Go.Proofs.YtapoodnjkkhggaaGreat
