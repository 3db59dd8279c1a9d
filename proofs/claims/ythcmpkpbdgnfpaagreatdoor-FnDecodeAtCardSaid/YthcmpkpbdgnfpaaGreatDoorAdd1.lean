/-
  Intervals.Add: its two searches; rows of intervals.
-/
import Derived.Test.YthcmpkpbdgnfpaaGreatDoorOwn
import Derived.Test.YthcmpkpbdgnfpaaGreatDoorShelf
import Derived.BigQuiet
namespace Go.Proofs.YthcmpkpbdgnfpaaGreatDoor
set_option linter.unusedSimpArgs false
set_option linter.unusedVariables false
open Go.RowKit Go.Sort

theorem chg_grow (w : World) (q : Nat) (os : Array Obj) : Chg (fun _ => False) w (grow (w.drewN q) os) :=
  ⟨rfl, rfl, rfl, by simp [grow], fun k hk _ => by
    show ((w.drewN q).heap ++ os)[k]? = _
    rw [Array.getElem?_append_left (by exact hk)]
    rfl⟩

/-- what an owned row's block holds -/
theorem own_blk {w : World} {base size n cap : Nat} {e : TypeId} {a : Addr} {xs : List Value} (h : w.ownsRow base e size (.slice (some a) n cap) n xs) :
    ∃ g cur, a = ⟨g, 0, none⟩ ∧ base ≤ g ∧ Blk w g cur e ∧ n ≤ cap ∧ cap ≤ maxLen ∧ cur.length = cap * size ∧ cur.take (n * size) = xs := by
  obtain ⟨hl, h | ⟨g, cap', cur, h, h1, h2, h3, h4, h5, h6⟩⟩ := h
  · cases h.1
  · injection h with ha _ hc
    injection ha with ha
    subst ha hc
    exact ⟨g, cur.toList, rfl, h1, h2, h3, h4, by simpa using h5, h6⟩
theorem blk_own {w : World} {base size n cap g : Nat} {e : TypeId} {cur xs : List Value} (hb : Blk w g cur e) (h1 : base ≤ g) (h3 : n ≤ cap) (h4 : cap ≤ maxLen) (h5 : cur.length = cap * size) (h6 : cur.take (n * size) = xs) :
    w.ownsRow base e size (.slice (some ⟨g, 0, none⟩) n cap) n xs := by
  refine ⟨?_, .inr ⟨g, cap, cur.toArray, rfl, h1, hb, h3, h4, by simpa using h5, by simpa using h6⟩⟩
  rw [← h6, List.length_take, h5]
  exact Nat.min_eq_left (Nat.mul_le_mul_right _ h3)
theorem own_prefix {w : World} {base size n cap m : Nat} {e : TypeId} {a : Option Addr} {xs : List Value} (h : w.ownsRow base e size (.slice a n cap) n xs) (ha : a ≠ none) (hm : m ≤ n) : w.ownsRow base e size (.slice a m cap) m (xs.take (m * size)) := by
  cases a with
  | none => exact absurd rfl ha
  | some a =>
    obtain ⟨g, cur, rfl, h1, h2, h3, h4, h5, h6⟩ := own_blk h
    refine blk_own h2 h1 (by omega) h4 h5 ?_
    rw [← h6, List.take_take, Nat.min_eq_left (Nat.mul_le_mul_right _ hm)]
theorem own_lit (w : World) (t : TypeId) (size : Nat) (cs : List Value) (h : cs.length = size) : (w.alloc (.cells cs.toArray t)).ownsRow w.heap.size t size (.slice (some ⟨w.heap.size, 0, none⟩) 1 1) 1 cs :=
  blk_own (Blk.new w cs t) (Nat.le_refl _) (Nat.le_refl _) (by decide) (by omega) (List.take_of_length_le (by omega))

abbrev flatI (l : List (Int × Int)) : List Value := flat .i64 .i64 l
theorem getElem?_flatI : ∀ (l : List (Int × Int)) (i : Nat) (hi : i < l.length), (flatI l)[i * 2]? = some (.int .i64 l[i].1) ∧ (flatI l)[i * 2 + 1]? = some (.int .i64 l[i].2)
  | x :: l, 0, _ => ⟨rfl, rfl⟩
  | x :: l, i + 1, h => by
    have := getElem?_flatI l i (by simpa using h)
    have e : (i + 1) * 2 = i * 2 + 1 + 1 := by omega
    rw [e]
    exact this
theorem flatI_take : ∀ (l : List (Int × Int)) (m : Nat), (flatI l).take (m * 2) = flatI (l.take m)
  | [], m => by simp [flat]
  | x :: l, 0 => by simp [flat]
  | x :: l, m + 1 => by
    have e : (m + 1) * 2 = m * 2 + 1 + 1 := by omega
    rw [e]
    show .int .i64 x.1 :: .int .i64 x.2 :: (flatI l).take (m * 2) = _
    rw [flatI_take l m]
    rfl
theorem flatI_drop : ∀ (l : List (Int × Int)) (m : Nat), (flatI l).drop (m * 2) = flatI (l.drop m)
  | [], m => by simp [flat]
  | x :: l, 0 => by simp [flat]
  | x :: l, m + 1 => by
    have e : (m + 1) * 2 = m * 2 + 1 + 1 := by omega
    rw [e]
    exact flatI_drop l m
theorem flatI_set : ∀ (l : List (Int × Int)) (m : Nat) (x y : Int), flatI (l.set m (x, y)) = ((flatI l).set (m * 2) (.int .i64 x)).set (m * 2 + 1) (.int .i64 y)
  | [], m, x, y => by simp [flat]
  | z :: l, 0, x, y => rfl
  | z :: l, m + 1, x, y => by
    have e : (m + 1) * 2 = m * 2 + 1 + 1 := by omega
    rw [e]
    show .int .i64 z.1 :: .int .i64 z.2 :: flatI (l.set m (x, y)) = _
    rw [flatI_set l m x y]
    rfl
theorem one_flatI (l : List (Int × Int)) : ∀ u ∈ flatI l, u.oneCell' = true := by
  intro u hu
  obtain ⟨x, _, hx⟩ := List.mem_flatMap.1 hu
  simp at hx
  rcases hx with rfl | rfl <;> rfl

/-- the cells of a row of intervals at an address -/
def IvAt (w : World) (g : Nat) (l : List (Int × Int)) : Prop := ∀ i (hi : i < l.length), w.cell? ⟨g, i * 2, none⟩ = some (.int .i64 l[i].1) ∧ w.cell? ⟨g, i * 2 + 1, none⟩ = some (.int .i64 l[i].2)
theorem IvAt.chg {w w' : World} {g : Nat} {l : List (Int × Int)} (h : IvAt w g l) {S : Nat → Prop} (hc : Chg S w w') (hs : ¬ S g) : IvAt w' g l := fun i hi => ⟨cell_chg hc (h i hi).1 hs, cell_chg hc (h i hi).2 hs⟩
theorem IvAt.of {w : World} {g n : Nat} {cur : List Value} {e : TypeId} {l : List (Int × Int)} (hb : Blk w g cur e) (h : cur.take (l.length * 2) = flatI l) : IvAt w g l := fun i hi => by
  obtain ⟨h1, h2⟩ := getElem?_flatI l i hi
  rw [hb.cell, hb.cell]
  rw [← h] at h1 h2
  rw [List.getElem?_take_of_lt (by omega)] at h1 h2
  exact ⟨h1, h2⟩

def pLo (l : List (Int × Int)) (a : Int) (i : Nat) : Bool := decide (a - 1 ≤ (l.getD i (0, 0)).2)
def pHi (l : List (Int × Int)) (b : Int) (m i : Nat) : Bool := decide (b + 1 < (l.getD (m + i) (0, 0)).1)

set_option maxRecDepth 100000 in
set_option maxHeartbeats 1000000 in
theorem lo_any (A B g i n cap : Nat) (a : Int) (l : List (Int × Int)) (w : World) (hA : w.cell? ⟨A, 0, none⟩ = some (.slice (some ⟨g, 0, none⟩) l.length cap)) (hB : w.cell? ⟨B, 0, none⟩ = some (.int .i64 a)) (hI : IvAt w g l) (hi : i < l.length) (ha0 : -9223372036854775808 < a) (ha1 : a ≤ 9223372036854775807) :
    Calls Tryz.prog 84 #[.int .i64 i, .pointer (some ⟨A, 0, none⟩), .pointer (some ⟨B, 0, none⟩)] w fun e w' => e = .returned (.bool (pLo l a i)) ∧ ∃ q, w' = w.drewN q := by
  obtain ⟨c0, c1⟩ := hI i hi
  have e : pLo l a i = decide (a - 1 ≤ l[i].2) := by unfold pLo; rw [List.getD_eq_getElem?_getD, List.getElem?_eq_getElem hi]; rfl
  rw [e]
  clear hI e
  have i0 : (0 : Int) ≤ (i : Int) := by omega
  have i1 : (i : Int) < (l.length : Int) := by omega
  have hw : IntKind.i64.wrap (a - 1) = a - 1 := IntWalk.i64_in _ (by omega)
  go_enter Tryz.func84, Tryz.ntmps84
  go_wp2_with fail
  go_quiet (fail)
  go_wp2_with fail
  go_ret
  exact ⟨rfl, nq, rfl⟩
set_option maxRecDepth 100000 in
set_option maxHeartbeats 1000000 in
theorem hi_any (A M B g i m cap : Nat) (b : Int) (l : List (Int × Int)) (w : World) (hA : w.cell? ⟨A, 0, none⟩ = some (.slice (some ⟨g, 0, none⟩) l.length cap)) (hM : w.cell? ⟨M, 0, none⟩ = some (.int .i64 m)) (hB : w.cell? ⟨B, 1, none⟩ = some (.int .i64 b)) (hI : IvAt w g l) (hi : m + i < l.length) (hl : l.length ≤ 2147483647) (hb0 : -9223372036854775808 ≤ b) (hb1 : b < 9223372036854775807) :
    Calls Tryz.prog 85 #[.int .i64 i, .pointer (some ⟨A, 0, none⟩), .pointer (some ⟨M, 0, none⟩), .pointer (some ⟨B, 0, none⟩)] w fun e w' => e = .returned (.bool (pHi l b m i)) ∧ ∃ q, w' = w.drewN q := by
  obtain ⟨c0, c1⟩ := hI (m + i) hi
  have e : pHi l b m i = decide (b + 1 < l[m + i].1) := by unfold pHi; rw [List.getD_eq_getElem?_getD, List.getElem?_eq_getElem hi]; rfl
  rw [e]
  clear hI e
  have i0 : (0 : Int) ≤ (m : Int) + (i : Int) := by omega
  have i1 : (m : Int) + (i : Int) < (l.length : Int) := by omega
  have i2 : ((m : Int) + (i : Int)).toNat = m + i := by omega
  have hw : IntKind.i64.wrap (b + 1) = b + 1 := IntWalk.i64_in _ (by omega)
  have hw2 : IntKind.i64.wrap ((m : Int) + (i : Int)) = (m : Int) + (i : Int) := IntWalk.i64_in _ (by omega)
  go_enter Tryz.func85, Tryz.ntmps85
  go_wp2_with fail
  go_quiet (fail)
  go_wp2_with fail
  go_ret
  exact ⟨rfl, nq, rfl⟩

theorem searchLo_any (A B g cap : Nat) (a : Int) (l : List (Int × Int)) (w : World) (hA : w.cell? ⟨A, 0, none⟩ = some (.slice (some ⟨g, 0, none⟩) l.length cap)) (hB : w.cell? ⟨B, 0, none⟩ = some (.int .i64 a)) (hI : IvAt w g l) (hl : l.length ≤ 2147483647) (ha0 : -9223372036854775808 < a) (ha1 : a ≤ 9223372036854775807)
    (hm : ∀ i j, i ≤ j → j < l.length → pLo l a i = true → pLo l a j = true) :
    Calls Tryz.prog 83 #[.int .i64 l.length, .func (.func 84) #[] #[.pointer (some ⟨A, 0, none⟩), .pointer (some ⟨B, 0, none⟩)]] w fun e w' => e = .returned (.int .i64 ((List.range l.length).countP (fun i => !pLo l a i) : Nat)) ∧ Chg (fun _ => False) w w' :=
  (Any.sort_Search Tryz.search 84 #[.pointer (some ⟨A, 0, none⟩), .pointer (some ⟨B, 0, none⟩)] l.length (pLo l a) w (fun args w => by kernel_rfl) (by omega) (fun k os i hi =>
    (lo_any A B g i l.length cap a l _ (cell_chg (chg_grow w k os) hA (fun h => h)) (cell_chg (chg_grow w k os) hB (fun h => h)) (hI.chg (chg_grow w k os) (fun h => h)) hi ha0 ha1).mono fun e w' ⟨he, q, hw⟩ => ⟨he, q, #[], by rw [hw, grow_empty]⟩) hm).mono fun e w' ⟨he, q, os, hw⟩ => ⟨he, hw ▸ chg_grow w q os⟩
theorem searchHi_any (A M B g cap m : Nat) (b : Int) (l : List (Int × Int)) (w : World) (hA : w.cell? ⟨A, 0, none⟩ = some (.slice (some ⟨g, 0, none⟩) l.length cap)) (hM : w.cell? ⟨M, 0, none⟩ = some (.int .i64 m)) (hB : w.cell? ⟨B, 1, none⟩ = some (.int .i64 b)) (hI : IvAt w g l) (hl : l.length ≤ 2147483647) (hml : m ≤ l.length) (hb0 : -9223372036854775808 ≤ b) (hb1 : b < 9223372036854775807)
    (hm : ∀ i j, i ≤ j → j < l.length - m → pHi l b m i = true → pHi l b m j = true) :
    Calls Tryz.prog 83 #[.int .i64 ((l.length - m : Nat) : Int), .func (.func 85) #[] #[.pointer (some ⟨A, 0, none⟩), .pointer (some ⟨M, 0, none⟩), .pointer (some ⟨B, 0, none⟩)]] w fun e w' => e = .returned (.int .i64 ((List.range (l.length - m)).countP (fun i => !pHi l b m i) : Nat)) ∧ Chg (fun _ => False) w w' :=
  (Any.sort_Search Tryz.search 85 #[.pointer (some ⟨A, 0, none⟩), .pointer (some ⟨M, 0, none⟩), .pointer (some ⟨B, 0, none⟩)] (l.length - m) (pHi l b m) w (fun args w => by kernel_rfl) (by omega) (fun k os i hi =>
    (hi_any A M B g i m cap b l _ (cell_chg (chg_grow w k os) hA (fun h => h)) (cell_chg (chg_grow w k os) hM (fun h => h)) (cell_chg (chg_grow w k os) hB (fun h => h)) (hI.chg (chg_grow w k os) (fun h => h)) (by omega) hl hb0 hb1).mono fun e w' ⟨he, q, hw⟩ => ⟨he, q, #[], by rw [hw, grow_empty]⟩) hm).mono fun e w' ⟨he, q, os, hw⟩ => ⟨he, hw ▸ chg_grow w q os⟩
end Go.Proofs.YthcmpkpbdgnfpaaGreatDoor
