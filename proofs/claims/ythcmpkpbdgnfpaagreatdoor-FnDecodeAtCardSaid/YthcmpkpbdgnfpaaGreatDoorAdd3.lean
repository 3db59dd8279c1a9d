/-
  Intervals.Add: behind the end, ahead of the first, between two.
-/
import Derived.Test.YthcmpkpbdgnfpaaGreatDoorAdd2
import Derived.StillTailTactics
namespace Go.Proofs.YthcmpkpbdgnfpaaGreatDoor
set_option linter.unusedSimpArgs false
set_option linter.unusedVariables false
open Go.RowKit

theorem AS.setM {W : World} {A B M g cap base : Nat} {a b m : Int} {l : List (Int × Int)} (h : AS W A B M g cap base a b m l) (m' : Int) : AS (W.setCell ⟨M, 0, none⟩ (.int .i64 m')) A B M g cap base a b m' l := by
  obtain ⟨h1, h2, h3, ⟨cur, h4, h5, h6⟩, h7, h8, h9, h10, h11, h12⟩ := h
  have hc := chg_set W M 0 (.int .i64 m')
  exact ⟨h1.chg hc (by omega), h2.chg hc (by omega), h3.set 0 _, ⟨cur, h4.chg hc (by omega), h5, h6⟩, h7, h8, h9, h10, h11, h12⟩

theorem AS.cast {W : World} {A B M g cap base : Nat} {a b m m' : Int} {l : List (Int × Int)} (h : AS W A B M g cap base a b m l) (e : m = m') : AS W A B M g cap base a b m' l := e ▸ h
/-- how many intervals end ahead of a time; how many of the others begin within another one -/
def cLo (l : List (Int × Int)) (a : Int) : Nat := (List.range l.length).countP fun i => !pLo l a i
def cHi (l : List (Int × Int)) (b : Int) (m : Nat) : Nat := (List.range (l.length - m)).countP fun i => !pHi l b m i
theorem cLo_le (l : List (Int × Int)) (a : Int) : cLo l a ≤ l.length := by
  unfold cLo
  exact Nat.le_trans (List.countP_le_length) (by simp)
theorem cHi_le (l : List (Int × Int)) (b : Int) (m : Nat) : cHi l b m ≤ l.length - m := by
  unfold cHi
  exact Nat.le_trans (List.countP_le_length) (by simp)

set_option maxRecDepth 100000 in
set_option maxHeartbeats 4000000 in
theorem add_end (base cap : Nat) (ad : Addr) (a b : Int) (l : List (Int × Int)) (w : World) (h : w.ownsRow base IT 2 (.slice (some ad) l.length cap) l.length (flatI l)) (hbase : base ≤ w.heap.size) (hl0 : 0 < l.length) (hl : l.length ≤ 1000000)
    (ha0 : -9223372036854775808 < a) (ha1 : a ≤ 9223372036854775807) (hm : ∀ i j, i ≤ j → j < l.length → pLo l a i = true → pLo l a j = true) (hc : cLo l a = l.length) :
    Calls Tryz.prog 35 #[.slice (some ad) l.length cap, .agg #[.int .i64 a, .int .i64 b]] w fun e w' => ∃ v', e = .returned v' ∧ w'.ownsRow base IT 2 v' (l.length + 1) (flatI (l ++ [(a, b)])) ∧ Chg (fun k => k = ad.block ∨ w.heap.size ≤ k) w w' := by
  obtain ⟨g, rfl, hS⟩ := AS.start (a := a) (b := b) h
  have hmf : ∀ (fn : Fn) (first cap : Array Value) (w : World), (Instr.makeFunc fn first cap).run Tryz.prog w = .ok (.func fn first cap) w := fun _ _ _ _ => rfl
  have e1 : ((l.length : Int) == 0) = false := by rw [beq_eq_false_iff_ne]; omega
  have e2 : (a != -9223372036854775808) = true := by rw [bne_iff_ne]; omega
  have hch := (((Chg.refl (fun k => k = g ∨ w.heap.size ≤ k) w).alloc (.cells #[.slice (some ⟨g, 0, none⟩) l.length cap] 76)).alloc (.cells #[.int .i64 a, .int .i64 b] IT)).alloc (.cells #[.int .i64 0] 3)
  go_enter Tryz.func35, Tryz.ntmps35
  go_wp2_with fail
  generalize ((w.alloc _).alloc _).alloc _ = W at *
  generalize hA : w.heap.size = A at *
  have hz := hch.size
  refine (searchLo_any A (A + 1) g cap a l W (hS.cA.cell 0) (hS.cB.cell 0) hS.ivs (by omega) ha0 ha1 hm).mono ?_
  rintro e W1 ⟨rfl, hc1⟩
  rw [show (List.range l.length).countP (fun i => !pLo l a i) = l.length from hc]
  have hS1 := (hS.keepF hc1)
  have c5 := hS1.cM.cell 0
  have z5 := hS1.cM.free 0
  have hS2 := hS1.setM (l.length : Int)
  have hch2 := (hch.trans (hc1.mono fun k h => h.elim)).setCell ⟨A + 1 + 1, 0, none⟩ (.inr (show A ≤ A + 1 + 1 by omega)) (.int .i64 (l.length : Int))
  have cA := hS2.cA.cell 0
  have cB0 := hS2.cB.cell 0
  have cB1 := hS2.cB.cell 1
  have cM := hS2.cM.cell 0
  have hz1 := hc1.size
  have hzs : (W1.setCell ⟨A + 1 + 1, 0, none⟩ (.int .i64 (l.length : Int))).heap.size = W1.heap.size := size_set _ _ _
  obtain ⟨v', w', hr, ho', hg⟩ := run_iv_append ((W1.setCell ⟨A + 1 + 1, 0, none⟩ (.int .i64 (l.length : Int))).alloc (.cells #[.int .i64 a, .int .i64 b] IT)) base _ _ l (own_alloc hS2.own _) (W1.setCell ⟨A + 1 + 1, 0, none⟩ (.int .i64 (l.length : Int))).heap.size 0 1 1 [(a, b)] rfl (one_iv _ a b IT) (by omega) (by simp; omega)
  rw [hzs] at hr
  have HR := Lib.hid hr
  clear hr hm hc hzs
  have hcc := (hch2.alloc (.cells #[.int .i64 a, .int .i64 b] IT)).trans ((Chg.ofGrown hg).mono fun k hk => .inl (by simp [Value.ownBlock] at hk; exact hk))
  go_wp2_with (first | (at_builtin; refine list_run 76 76 rfl (.tmp 25) (.tmp 27) rfl rfl rfl rfl HR.out ?_) | fail)
  go_ret
  subst hA
  exact ⟨_, rfl, ho', hcc⟩

theorem AS.src {W : World} {A B M g cap base : Nat} {a b m : Int} {l : List (Int × Int)} (h : AS W A B M g cap base a b m l) (k : Nat) : ∀ j u, (flatI (l.drop k))[j]? = some u → W.cell? ⟨g, k * 2 + j, none⟩ = some u := by
  obtain ⟨cur, h4, h5, h6⟩ := h.row
  intro j u hj
  rw [h4.cell, ← hj, ← flatI_drop, ← h6, List.getElem?_drop]
  rw [← flatI_drop, ← h6, List.getElem?_drop] at hj
  have := (List.getElem?_eq_some_iff.1 hj).1
  rw [List.getElem?_take_of_lt (by simp at this; omega)]
theorem searchHi_int (A M B g cap m : Nat) (b : Int) (l : List (Int × Int)) (w : World) (hA : w.cell? ⟨A, 0, none⟩ = some (.slice (some ⟨g, 0, none⟩) l.length cap)) (hM : w.cell? ⟨M, 0, none⟩ = some (.int .i64 m)) (hB : w.cell? ⟨B, 1, none⟩ = some (.int .i64 b)) (hI : IvAt w g l) (hl : l.length ≤ 2147483647) (hml : m ≤ l.length) (hb0 : -9223372036854775808 ≤ b) (hb1 : b < 9223372036854775807)
    (hm : ∀ i j, i ≤ j → j < l.length - m → pHi l b m i = true → pHi l b m j = true) :
    Calls Tryz.prog 83 #[.int .i64 ((l.length : Int) - (m : Int)), .func (.func 85) #[] #[.pointer (some ⟨A, 0, none⟩), .pointer (some ⟨M, 0, none⟩), .pointer (some ⟨B, 0, none⟩)]] w fun e w' => e = .returned (.int .i64 (cHi l b m : Nat)) ∧ Chg (fun _ => False) w w' := by
  have := searchHi_any A M B g cap m b l w hA hM hB hI hl hml hb0 hb1 hm
  rw [show ((l.length - m : Nat) : Int) = (l.length : Int) - (m : Int) by omega] at this
  exact this

theorem flatI_set1 : ∀ (l : List (Int × Int)) (m : Nat) (x : Int) (h : m < l.length), flatI (l.set m (x, l[m].2)) = (flatI l).set (m * 2) (.int .i64 x)
  | z :: l, 0, x, _ => rfl
  | z :: l, m + 1, x, h => by
    have e : (m + 1) * 2 = m * 2 + 1 + 1 := by omega
    have h' : m < l.length := by simpa using h
    rw [e]
    show .int .i64 z.1 :: .int .i64 z.2 :: flatI (l.set m (x, l[m].2)) = _
    rw [flatI_set1 l m x h']
    rfl
theorem flatI_set2 : ∀ (l : List (Int × Int)) (m : Nat) (y : Int) (h : m < l.length), flatI (l.set m (l[m].1, y)) = (flatI l).set (m * 2 + 1) (.int .i64 y)
  | z :: l, 0, x, _ => rfl
  | z :: l, m + 1, x, h => by
    have e : (m + 1) * 2 = m * 2 + 1 + 1 := by omega
    have h' : m < l.length := by simpa using h
    rw [e]
    show .int .i64 z.1 :: .int .i64 z.2 :: flatI (l.set m (l[m].1, x)) = _
    rw [flatI_set2 l m x h']
    rfl
theorem AS.setRow1 {W : World} {A B M g cap base : Nat} {a b m' : Int} {l : List (Int × Int)} (h : AS W A B M g cap base a b m' l) {m : Nat} (hm : m < l.length) (x : Int) : AS (W.setCell ⟨g, m * 2, none⟩ (.int .i64 x)) A B M g cap base a b m' (l.set m (x, l[m].2)) := by
  obtain ⟨h1, h2, h3, ⟨cur, h4, h5, h6⟩, h7, h8, h9, h10, h11, h12⟩ := h
  have hc := chg_set W g (m * 2) (.int .i64 x)
  refine ⟨by rw [List.length_set]; exact h1.chg hc (by omega), h2.chg hc (by omega), h3.chg hc (by omega), ⟨_, h4.set (m * 2) _, by simpa using h5, ?_⟩, by rw [List.length_set]; exact h7, h8, h9, h10, h11, h12⟩
  rw [List.length_set, List.take_set, h6, flatI_set1 l m x hm]
theorem AS.setRow2 {W : World} {A B M g cap base : Nat} {a b m' : Int} {l : List (Int × Int)} (h : AS W A B M g cap base a b m' l) {m : Nat} (hm : m < l.length) (y : Int) : AS (W.setCell ⟨g, m * 2 + 1, none⟩ (.int .i64 y)) A B M g cap base a b m' (l.set m (l[m].1, y)) := by
  obtain ⟨h1, h2, h3, ⟨cur, h4, h5, h6⟩, h7, h8, h9, h10, h11, h12⟩ := h
  have hc := chg_set W g (m * 2 + 1) (.int .i64 y)
  refine ⟨by rw [List.length_set]; exact h1.chg hc (by omega), h2.chg hc (by omega), h3.chg hc (by omega), ⟨_, h4.set (m * 2 + 1) _, by simpa using h5, ?_⟩, by rw [List.length_set]; exact h7, h8, h9, h10, h11, h12⟩
  rw [List.length_set, List.take_set, h6, flatI_set2 l m y hm]
theorem AS.free {W : World} {A B M g cap base : Nat} {a b m : Int} {l : List (Int × Int)} (h : AS W A B M g cap base a b m l) (j : Nat) : W.frozen? ⟨g, j, none⟩ = false := by
  obtain ⟨cur, h4, h5, h6⟩ := h.row
  exact h4.free j

theorem own_some {w : World} {base size n : Nat} {e : TypeId} {v : Value} {xs : List Value} (h : w.ownsRow base e size v n xs) (hn : 0 < n) : ∃ g cap, v = .slice (some ⟨g, 0, none⟩) n cap ∧ base ≤ g := by
  obtain ⟨hl, h | ⟨g, cap', cur, h, h1, h2, h3, h4, h5, h6⟩⟩ := h
  · omega
  · exact ⟨g, cap', h, h1⟩
theorem own_src {w : World} {base size n cap g : Nat} {e : TypeId} {xs : List Value} (h : w.ownsRow base e size (.slice (some ⟨g, 0, none⟩) n cap) n xs) : ∀ j u, xs[j]? = some u → w.cell? ⟨g, 0 + j, none⟩ = some u := by
  obtain ⟨g', cur, hg, h1, h2, h3, h4, h5, h6⟩ := own_blk h
  injection hg with hg
  subst hg
  intro j u hj
  rw [Nat.zero_add, h2.cell, ← hj, ← h6]
  rw [← h6] at hj
  have := (List.getElem?_eq_some_iff.1 hj).1
  rw [List.getElem?_take_of_lt (by simp at this; omega)]
theorem as_cells {W : World} {A B M g cap base : Nat} {a b m : Int} {l : List (Int × Int)} (h : AS W A B M g cap base a b m l) : W.cell? ⟨A, 0, none⟩ = some (.slice (some ⟨g, 0, none⟩) l.length cap) ∧ W.cell? ⟨B, 0, none⟩ = some (.int .i64 a) ∧ W.cell? ⟨B, 1, none⟩ = some (.int .i64 b) ∧ W.cell? ⟨M, 0, none⟩ = some (.int .i64 m) :=
  ⟨h.cA.cell 0, h.cB.cell 0, h.cB.cell 1, h.cM.cell 0⟩
theorem as_cells_but {W W' : World} {A B M g cap base : Nat} {a b m : Int} {l : List (Int × Int)} (h : AS W A B M g cap base a b m l) {S : Nat → Prop} (hc : Chg S W W') (hA : ¬ S A) (hB : ¬ S B) (hM : ¬ S M) : W'.cell? ⟨A, 0, none⟩ = some (.slice (some ⟨g, 0, none⟩) l.length cap) ∧ W'.cell? ⟨B, 0, none⟩ = some (.int .i64 a) ∧ W'.cell? ⟨B, 1, none⟩ = some (.int .i64 b) ∧ W'.cell? ⟨M, 0, none⟩ = some (.int .i64 m) :=
  ⟨(h.cA.chg hc hA).cell 0, (h.cB.chg hc hB).cell 0, (h.cB.chg hc hB).cell 1, (h.cM.chg hc hM).cell 0⟩
end Go.Proofs.YthcmpkpbdgnfpaaGreatDoor
