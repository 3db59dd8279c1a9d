/-
  Intervals.Add: its two searches; rows of intervals. Intervals.Add: to nothing; behind the end. Intervals.Add: behind the end, ahead of the first, between two. Intervals.Add: ahead of the first. Intervals.Add: joined with others. Intervals.Add: what it returns, as a function of lists. Plain law: Add covers what the intervals and the new one cover.
-/
import Derived.Test.YtkbkggamfkadnaaGreatDoorOwn
import Derived.Test.YtkbkggamfkadnaaGreatDoorShelf
import Derived.BigQuiet
import Derived.StillTailTactics
import Derived.Deep.RegionLaw
namespace Go.Proofs.YtkbkggamfkadnaaGreatDoor
set_option linter.unusedSimpArgs false
set_option linter.unusedVariables false
open Go.RowKit Go.Sort

theorem chg_grow (w : World) (q : Nat) (os : Array Obj) : Chg (fun _ => False) w (grow (w.drewN q) os) :=
  ⟨rfl, rfl, rfl, by simp [grow], fun k hk _ => by
    show ((w.drewN q).heap ++ os)[k]? = _
    rw [Array.getElem?_append_left (by exact hk)]
    rfl⟩

/-- what an owned row's block holds -/
theorem own_blk {w : World} {base size n cap : Nat} {e : TypeId} {a : Addr} {xs : List Value} (h : w.ownsRow base e size (.slice (some a) n cap) n xs) :
    ∃ g cur, a = ⟨g, 0, none⟩ ∧ base ≤ g ∧ Blk w g cur e ∧ n ≤ cap ∧ cap ≤ maxLen ∧ cur.length = cap * size ∧ cur.take (n * size) = xs := by
  obtain ⟨hl, h | ⟨g, cap', cur, h, h1, h2, h3, h4, h5, h6⟩⟩ := h
  · cases h.1
  · injection h with ha _ hc
    injection ha with ha
    subst ha hc
    exact ⟨g, cur.toList, rfl, h1, h2, h3, h4, by simpa using h5, h6⟩
theorem blk_own {w : World} {base size n cap g : Nat} {e : TypeId} {cur xs : List Value} (hb : Blk w g cur e) (h1 : base ≤ g) (h3 : n ≤ cap) (h4 : cap ≤ maxLen) (h5 : cur.length = cap * size) (h6 : cur.take (n * size) = xs) :
    w.ownsRow base e size (.slice (some ⟨g, 0, none⟩) n cap) n xs := by
  refine ⟨?_, .inr ⟨g, cap, cur.toArray, rfl, h1, hb, h3, h4, by simpa using h5, by simpa using h6⟩⟩
  rw [← h6, List.length_take, h5]
  exact Nat.min_eq_left (Nat.mul_le_mul_right _ h3)
theorem own_prefix {w : World} {base size n cap m : Nat} {e : TypeId} {a : Option Addr} {xs : List Value} (h : w.ownsRow base e size (.slice a n cap) n xs) (ha : a ≠ none) (hm : m ≤ n) : w.ownsRow base e size (.slice a m cap) m (xs.take (m * size)) := by
  cases a with
  | none => exact absurd rfl ha
  | some a =>
    obtain ⟨g, cur, rfl, h1, h2, h3, h4, h5, h6⟩ := own_blk h
    refine blk_own h2 h1 (by omega) h4 h5 ?_
    rw [← h6, List.take_take, Nat.min_eq_left (Nat.mul_le_mul_right _ hm)]
theorem own_lit (w : World) (t : TypeId) (size : Nat) (cs : List Value) (h : cs.length = size) : (w.alloc (.cells cs.toArray t)).ownsRow w.heap.size t size (.slice (some ⟨w.heap.size, 0, none⟩) 1 1) 1 cs :=
  blk_own (Blk.new w cs t) (Nat.le_refl _) (Nat.le_refl _) (by decide) (by omega) (List.take_of_length_le (by omega))

abbrev flatI (l : List (Int × Int)) : List Value := flat .i64 .i64 l
theorem getElem?_flatI : ∀ (l : List (Int × Int)) (i : Nat) (hi : i < l.length), (flatI l)[i * 2]? = some (.int .i64 l[i].1) ∧ (flatI l)[i * 2 + 1]? = some (.int .i64 l[i].2)
  | x :: l, 0, _ => ⟨rfl, rfl⟩
  | x :: l, i + 1, h => by
    have := getElem?_flatI l i (by simpa using h)
    have e : (i + 1) * 2 = i * 2 + 1 + 1 := by omega
    rw [e]
    exact this
theorem flatI_take : ∀ (l : List (Int × Int)) (m : Nat), (flatI l).take (m * 2) = flatI (l.take m)
  | [], m => by simp [flat]
  | x :: l, 0 => by simp [flat]
  | x :: l, m + 1 => by
    have e : (m + 1) * 2 = m * 2 + 1 + 1 := by omega
    rw [e]
    show .int .i64 x.1 :: .int .i64 x.2 :: (flatI l).take (m * 2) = _
    rw [flatI_take l m]
    rfl
theorem flatI_drop : ∀ (l : List (Int × Int)) (m : Nat), (flatI l).drop (m * 2) = flatI (l.drop m)
  | [], m => by simp [flat]
  | x :: l, 0 => by simp [flat]
  | x :: l, m + 1 => by
    have e : (m + 1) * 2 = m * 2 + 1 + 1 := by omega
    rw [e]
    exact flatI_drop l m
theorem flatI_set : ∀ (l : List (Int × Int)) (m : Nat) (x y : Int), flatI (l.set m (x, y)) = ((flatI l).set (m * 2) (.int .i64 x)).set (m * 2 + 1) (.int .i64 y)
  | [], m, x, y => by simp [flat]
  | z :: l, 0, x, y => rfl
  | z :: l, m + 1, x, y => by
    have e : (m + 1) * 2 = m * 2 + 1 + 1 := by omega
    rw [e]
    show .int .i64 z.1 :: .int .i64 z.2 :: flatI (l.set m (x, y)) = _
    rw [flatI_set l m x y]
    rfl
theorem one_flatI (l : List (Int × Int)) : ∀ u ∈ flatI l, u.oneCell' = true := by
  intro u hu
  obtain ⟨x, _, hx⟩ := List.mem_flatMap.1 hu
  simp at hx
  rcases hx with rfl | rfl <;> rfl

/-- the cells of a row of intervals at an address -/
def IvAt (w : World) (g : Nat) (l : List (Int × Int)) : Prop := ∀ i (hi : i < l.length), w.cell? ⟨g, i * 2, none⟩ = some (.int .i64 l[i].1) ∧ w.cell? ⟨g, i * 2 + 1, none⟩ = some (.int .i64 l[i].2)
theorem IvAt.chg {w w' : World} {g : Nat} {l : List (Int × Int)} (h : IvAt w g l) {S : Nat → Prop} (hc : Chg S w w') (hs : ¬ S g) : IvAt w' g l := fun i hi => ⟨cell_chg hc (h i hi).1 hs, cell_chg hc (h i hi).2 hs⟩
theorem IvAt.of {w : World} {g n : Nat} {cur : List Value} {e : TypeId} {l : List (Int × Int)} (hb : Blk w g cur e) (h : cur.take (l.length * 2) = flatI l) : IvAt w g l := fun i hi => by
  obtain ⟨h1, h2⟩ := getElem?_flatI l i hi
  rw [hb.cell, hb.cell]
  rw [← h] at h1 h2
  rw [List.getElem?_take_of_lt (by omega)] at h1 h2
  exact ⟨h1, h2⟩

def pLo (l : List (Int × Int)) (a : Int) (i : Nat) : Bool := decide (a - 1 ≤ (l.getD i (0, 0)).2)
def pHi (l : List (Int × Int)) (b : Int) (m i : Nat) : Bool := decide (b + 1 < (l.getD (m + i) (0, 0)).1)

set_option maxRecDepth 100000 in
set_option maxHeartbeats 1000000 in
theorem lo_any (A B g i n cap : Nat) (a : Int) (l : List (Int × Int)) (w : World) (hA : w.cell? ⟨A, 0, none⟩ = some (.slice (some ⟨g, 0, none⟩) l.length cap)) (hB : w.cell? ⟨B, 0, none⟩ = some (.int .i64 a)) (hI : IvAt w g l) (hi : i < l.length) (ha0 : -9223372036854775808 < a) (ha1 : a ≤ 9223372036854775807) :
    Calls Tryz.prog 97 #[.int .i64 i, .pointer (some ⟨A, 0, none⟩), .pointer (some ⟨B, 0, none⟩)] w fun e w' => e = .returned (.bool (pLo l a i)) ∧ ∃ q, w' = w.drewN q := by
  obtain ⟨c0, c1⟩ := hI i hi
  have e : pLo l a i = decide (a - 1 ≤ l[i].2) := by unfold pLo; rw [List.getD_eq_getElem?_getD, List.getElem?_eq_getElem hi]; rfl
  rw [e]
  clear hI e
  have i0 : (0 : Int) ≤ (i : Int) := by omega
  have i1 : (i : Int) < (l.length : Int) := by omega
  have hw : IntKind.i64.wrap (a - 1) = a - 1 := IntWalk.i64_in _ (by omega)
  go_enter Tryz.func97, Tryz.ntmps97
  go_wp2_with fail
  go_quiet (fail)
  go_wp2_with fail
  go_ret
  exact ⟨rfl, nq, rfl⟩
set_option maxRecDepth 100000 in
set_option maxHeartbeats 1000000 in
theorem hi_any (A M B g i m cap : Nat) (b : Int) (l : List (Int × Int)) (w : World) (hA : w.cell? ⟨A, 0, none⟩ = some (.slice (some ⟨g, 0, none⟩) l.length cap)) (hM : w.cell? ⟨M, 0, none⟩ = some (.int .i64 m)) (hB : w.cell? ⟨B, 1, none⟩ = some (.int .i64 b)) (hI : IvAt w g l) (hi : m + i < l.length) (hl : l.length ≤ 2147483647) (hb0 : -9223372036854775808 ≤ b) (hb1 : b < 9223372036854775807) :
    Calls Tryz.prog 98 #[.int .i64 i, .pointer (some ⟨A, 0, none⟩), .pointer (some ⟨M, 0, none⟩), .pointer (some ⟨B, 0, none⟩)] w fun e w' => e = .returned (.bool (pHi l b m i)) ∧ ∃ q, w' = w.drewN q := by
  obtain ⟨c0, c1⟩ := hI (m + i) hi
  have e : pHi l b m i = decide (b + 1 < l[m + i].1) := by unfold pHi; rw [List.getD_eq_getElem?_getD, List.getElem?_eq_getElem hi]; rfl
  rw [e]
  clear hI e
  have i0 : (0 : Int) ≤ (m : Int) + (i : Int) := by omega
  have i1 : (m : Int) + (i : Int) < (l.length : Int) := by omega
  have i2 : ((m : Int) + (i : Int)).toNat = m + i := by omega
  have hw : IntKind.i64.wrap (b + 1) = b + 1 := IntWalk.i64_in _ (by omega)
  have hw2 : IntKind.i64.wrap ((m : Int) + (i : Int)) = (m : Int) + (i : Int) := IntWalk.i64_in _ (by omega)
  go_enter Tryz.func98, Tryz.ntmps98
  go_wp2_with fail
  go_quiet (fail)
  go_wp2_with fail
  go_ret
  exact ⟨rfl, nq, rfl⟩

theorem searchLo_any (A B g cap : Nat) (a : Int) (l : List (Int × Int)) (w : World) (hA : w.cell? ⟨A, 0, none⟩ = some (.slice (some ⟨g, 0, none⟩) l.length cap)) (hB : w.cell? ⟨B, 0, none⟩ = some (.int .i64 a)) (hI : IvAt w g l) (hl : l.length ≤ 2147483647) (ha0 : -9223372036854775808 < a) (ha1 : a ≤ 9223372036854775807)
    (hm : ∀ i j, i ≤ j → j < l.length → pLo l a i = true → pLo l a j = true) :
    Calls Tryz.prog 96 #[.int .i64 l.length, .func (.func 97) #[] #[.pointer (some ⟨A, 0, none⟩), .pointer (some ⟨B, 0, none⟩)]] w fun e w' => e = .returned (.int .i64 ((List.range l.length).countP (fun i => !pLo l a i) : Nat)) ∧ Chg (fun _ => False) w w' :=
  (Any.sort_Search Tryz.search 97 #[.pointer (some ⟨A, 0, none⟩), .pointer (some ⟨B, 0, none⟩)] l.length (pLo l a) w (fun args w => by kernel_rfl) (by omega) (fun k os i hi =>
    (lo_any A B g i l.length cap a l _ (cell_chg (chg_grow w k os) hA (fun h => h)) (cell_chg (chg_grow w k os) hB (fun h => h)) (hI.chg (chg_grow w k os) (fun h => h)) hi ha0 ha1).mono fun e w' ⟨he, q, hw⟩ => ⟨he, q, #[], by rw [hw, grow_empty]⟩) hm).mono fun e w' ⟨he, q, os, hw⟩ => ⟨he, hw ▸ chg_grow w q os⟩
theorem searchHi_any (A M B g cap m : Nat) (b : Int) (l : List (Int × Int)) (w : World) (hA : w.cell? ⟨A, 0, none⟩ = some (.slice (some ⟨g, 0, none⟩) l.length cap)) (hM : w.cell? ⟨M, 0, none⟩ = some (.int .i64 m)) (hB : w.cell? ⟨B, 1, none⟩ = some (.int .i64 b)) (hI : IvAt w g l) (hl : l.length ≤ 2147483647) (hml : m ≤ l.length) (hb0 : -9223372036854775808 ≤ b) (hb1 : b < 9223372036854775807)
    (hm : ∀ i j, i ≤ j → j < l.length - m → pHi l b m i = true → pHi l b m j = true) :
    Calls Tryz.prog 96 #[.int .i64 ((l.length - m : Nat) : Int), .func (.func 98) #[] #[.pointer (some ⟨A, 0, none⟩), .pointer (some ⟨M, 0, none⟩), .pointer (some ⟨B, 0, none⟩)]] w fun e w' => e = .returned (.int .i64 ((List.range (l.length - m)).countP (fun i => !pHi l b m i) : Nat)) ∧ Chg (fun _ => False) w w' :=
  (Any.sort_Search Tryz.search 98 #[.pointer (some ⟨A, 0, none⟩), .pointer (some ⟨M, 0, none⟩), .pointer (some ⟨B, 0, none⟩)] (l.length - m) (pHi l b m) w (fun args w => by kernel_rfl) (by omega) (fun k os i hi =>
    (hi_any A M B g i m cap b l _ (cell_chg (chg_grow w k os) hA (fun h => h)) (cell_chg (chg_grow w k os) hM (fun h => h)) (cell_chg (chg_grow w k os) hB (fun h => h)) (hI.chg (chg_grow w k os) (fun h => h)) (by omega) hl hb0 hb1).mono fun e w' ⟨he, q, hw⟩ => ⟨he, q, #[], by rw [hw, grow_empty]⟩) hm).mono fun e w' ⟨he, q, os, hw⟩ => ⟨he, hw ▸ chg_grow w q os⟩
end Go.Proofs.YtkbkggamfkadnaaGreatDoor
namespace Go.Proofs.YtkbkggamfkadnaaGreatDoor
set_option linter.unusedSimpArgs false
set_option linter.unusedVariables false
open Go.RowKit

theorem infoIv : (Tryz.prog.info? 93).map (fun i => (i.zero, i.size, i.bytes)) = some (some (.agg #[.int .i64 0, .int .i64 0]), 2, 16) := by kernel_rfl
abbrev IT : TypeId := 93

/-- inside Add: its boxes, and the row -/
structure AS (W : World) (A B M g cap base : Nat) (a b m : Int) (l : List (Int × Int)) : Prop where
  cA : Blk W A [.slice (some ⟨g, 0, none⟩) l.length cap] 91
  cB : Blk W B [.int .i64 a, .int .i64 b] IT
  cM : Blk W M [.int .i64 m] 3
  row : ∃ cur, Blk W g cur IT ∧ cur.length = cap * 2 ∧ cur.take (l.length * 2) = flatI l
  lc : l.length ≤ cap
  cm : cap ≤ maxLen
  o1 : base ≤ g
  o2 : g < A
  o3 : A < B
  o4 : B < M
theorem AS.keep {W W' : World} {A B M g cap base : Nat} {a b m : Int} {l : List (Int × Int)} (h : AS W A B M g cap base a b m l) {S : Nat → Prop} (hc : Chg S W W') (hA : ¬ S A) (hB : ¬ S B) (hM : ¬ S M) (hg : ¬ S g) : AS W' A B M g cap base a b m l := by
  obtain ⟨h1, h2, h3, ⟨cur, h4, h5, h6⟩, h7, h8, h9, h10, h11, h12⟩ := h
  exact ⟨h1.chg hc hA, h2.chg hc hB, h3.chg hc hM, ⟨cur, h4.chg hc hg, h5, h6⟩, h7, h8, h9, h10, h11, h12⟩
theorem AS.keepF {W W' : World} {A B M g cap base : Nat} {a b m : Int} {l : List (Int × Int)} (h : AS W A B M g cap base a b m l) (hc : Chg (fun _ => False) W W') : AS W' A B M g cap base a b m l := h.keep hc (fun h => h) (fun h => h) (fun h => h) (fun h => h)
theorem AS.ivs {W : World} {A B M g cap base : Nat} {a b m : Int} {l : List (Int × Int)} (h : AS W A B M g cap base a b m l) : IvAt W g l := by
  obtain ⟨cur, h4, h5, h6⟩ := h.row
  exact IvAt.of (n := 0) h4 h6
theorem AS.own {W : World} {A B M g cap base : Nat} {a b m : Int} {l : List (Int × Int)} (h : AS W A B M g cap base a b m l) : W.ownsRow base IT 2 (.slice (some ⟨g, 0, none⟩) l.length cap) l.length (flatI l) := by
  obtain ⟨cur, h4, h5, h6⟩ := h.row
  exact blk_own h4 h.o1 h.lc h.cm h5 h6
/-- at the start -/
theorem AS.start {w : World} {base cap : Nat} {ad : Addr} {a b : Int} {l : List (Int × Int)} (h : w.ownsRow base IT 2 (.slice (some ad) l.length cap) l.length (flatI l)) :
    ∃ g, ad = ⟨g, 0, none⟩ ∧ AS (((w.alloc (.cells #[.slice (some ⟨g, 0, none⟩) l.length cap] 91)).alloc (.cells #[.int .i64 a, .int .i64 b] IT)).alloc (.cells #[.int .i64 0] 3)) w.heap.size (w.heap.size + 1) (w.heap.size + 1 + 1) g cap base a b 0 l := by
  obtain ⟨g, cur, rfl, h1, h2, h3, h4, h5, h6⟩ := own_blk h
  have hg := h2.lt
  refine ⟨g, rfl, ((Blk.new w [.slice (some ⟨g, 0, none⟩) l.length cap] _).alloc _).alloc _, ?_, ?_, ⟨cur, ((h2.alloc _).alloc _).alloc _, h5, h6⟩, h3, h4, h1, hg, by omega, by omega⟩
  · have := (Blk.new (w.alloc (.cells #[.slice (some ⟨g, 0, none⟩) l.length cap] 91)) [.int .i64 a, .int .i64 b] IT).alloc (.cells #[.int .i64 0] 3)
    simpa using this
  · have := Blk.new ((w.alloc (.cells #[.slice (some ⟨g, 0, none⟩) l.length cap] 91)).alloc (.cells #[.int .i64 a, .int .i64 b] IT)) [.int .i64 0] 3
    simpa using this

theorem run_iv_append (w : World) (base : Nat) (v : Value) (n : Nat) (l : List (Int × Int)) (hown : w.ownsRow base IT 2 v n (flatI l)) (p o m c : Nat) (news : List (Int × Int)) (hl : news.length = m) (hc : ∀ j u, (flatI news)[j]? = some u → w.cell? ⟨p, o + j, none⟩ = some u) (hn : n + m ≤ 2147483648) (hbase : base ≤ w.heap.size) :
    ∃ v' w', (Builtin.append_ #[91, 91] 91 #[v, .slice (some ⟨p, o, none⟩) m c]).run Tryz.prog w = .ok v' w' ∧ w'.ownsRow base IT 2 v' (n + m) (flatI (l ++ news)) ∧ w.grownBy w' v.ownBlock := by
  obtain ⟨i0, hi, hz0, hz1, hz2⟩ := info_parts infoIv
  obtain ⟨v', w', h1, h2, h3, _⟩ := run_append_own (P := Tryz.prog) w base 91 91 IT i0 _ 2 16 Tryz.underlying91 hi hz0 hz1 hz2 rfl (by decide) v n _ hown ⟨p, o, none⟩ m c (flatI news) (by rw [length_flat, hl]) (fun j u hj => by rw [add_cell]; exact hc j u hj) (one_flatI news) (by unfold maxLen; omega) (by omega) hbase
  rw [← flat_append] at h2
  exact ⟨v', w', h1, h2, h3⟩
theorem one_iv (w : World) (a b : Int) (t : TypeId) : ∀ j u, (flatI [(a, b)])[j]? = some u → (w.alloc (.cells #[.int .i64 a, .int .i64 b] t)).cell? ⟨w.heap.size, 0 + j, none⟩ = some u := fun j u hj => by
  rw [Nat.zero_add, World.cell?_alloc_new]
  simpa [flat] using hj

set_option maxRecDepth 100000 in
set_option maxHeartbeats 2000000 in
theorem add_nil (base : Nat) (v : Value) (a b : Int) (w : World) (h : w.ownsRow base IT 2 v 0 (flatI [])) (hbase : base ≤ w.heap.size) :
    Calls Tryz.prog 56 #[v, .agg #[.int .i64 a, .int .i64 b]] w fun e w' => ∃ v', e = .returned v' ∧ w'.ownsRow base IT 2 v' 1 (flatI [(a, b)]) ∧ Chg (fun k => some k = v.ownBlock) w w' := by
  obtain ⟨va, vc, rfl⟩ := own_form h
  have hc0 := (((Chg.refl (fun _ => False) w).alloc (.cells #[.slice va 0 vc] 91)).alloc (.cells #[.int .i64 a, .int .i64 b] IT))
  have ho := own_chg h hc0 (fun _ _ _ h => h)
  have hz := hc0.size
  have ezz : ((w.alloc (.cells #[.slice va 0 vc] 91)).alloc (.cells #[.int .i64 a, .int .i64 b] IT)).heap.size = w.heap.size + 1 + 1 := by simp
  go_enter Tryz.func56, Tryz.ntmps56
  have hr0 := run_iv_append (((w.alloc (.cells #[.slice va 0 vc] 91)).alloc (.cells #[.int .i64 a, .int .i64 b] IT)).alloc (.cells #[.int .i64 a, .int .i64 b] IT)) base _ 0 [] (own_alloc ho _) ((w.alloc (.cells #[.slice va 0 vc] 91)).alloc (.cells #[.int .i64 a, .int .i64 b] IT)).heap.size 0 1 1 [(a, b)] rfl (one_iv _ a b IT) (by omega) (by simp; omega)
  rw [ezz] at hr0
  obtain ⟨v', w', hr, ho', hg⟩ := hr0
  have HR := Lib.hid hr
  clear hr ezz
  have hcc := ((hc0.alloc (.cells #[.int .i64 a, .int .i64 b] IT)).mono (T := fun k => some k = (Value.slice va 0 vc).ownBlock) (fun k h => h.elim)).trans (Chg.ofGrown hg)
  clear hg ho hc0 hz
  go_wp2_with (first | (at_builtin; refine list_run 91 91 rfl (.tmp 10) (.tmp 12) rfl rfl rfl rfl HR.out ?_) | fail)
  go_ret
  exact ⟨_, rfl, ho', hcc⟩
end Go.Proofs.YtkbkggamfkadnaaGreatDoor
namespace Go.Proofs.YtkbkggamfkadnaaGreatDoor
set_option linter.unusedSimpArgs false
set_option linter.unusedVariables false
open Go.RowKit

theorem AS.setM {W : World} {A B M g cap base : Nat} {a b m : Int} {l : List (Int × Int)} (h : AS W A B M g cap base a b m l) (m' : Int) : AS (W.setCell ⟨M, 0, none⟩ (.int .i64 m')) A B M g cap base a b m' l := by
  obtain ⟨h1, h2, h3, ⟨cur, h4, h5, h6⟩, h7, h8, h9, h10, h11, h12⟩ := h
  have hc := chg_set W M 0 (.int .i64 m')
  exact ⟨h1.chg hc (by omega), h2.chg hc (by omega), h3.set 0 _, ⟨cur, h4.chg hc (by omega), h5, h6⟩, h7, h8, h9, h10, h11, h12⟩

theorem AS.cast {W : World} {A B M g cap base : Nat} {a b m m' : Int} {l : List (Int × Int)} (h : AS W A B M g cap base a b m l) (e : m = m') : AS W A B M g cap base a b m' l := e ▸ h
/-- how many intervals end ahead of a time; how many of the others begin within another one -/
def cLo (l : List (Int × Int)) (a : Int) : Nat := (List.range l.length).countP fun i => !pLo l a i
def cHi (l : List (Int × Int)) (b : Int) (m : Nat) : Nat := (List.range (l.length - m)).countP fun i => !pHi l b m i
theorem cLo_le (l : List (Int × Int)) (a : Int) : cLo l a ≤ l.length := by
  unfold cLo
  exact Nat.le_trans (List.countP_le_length) (by simp)
theorem cHi_le (l : List (Int × Int)) (b : Int) (m : Nat) : cHi l b m ≤ l.length - m := by
  unfold cHi
  exact Nat.le_trans (List.countP_le_length) (by simp)

set_option maxRecDepth 100000 in
set_option maxHeartbeats 4000000 in
theorem add_end (base cap : Nat) (ad : Addr) (a b : Int) (l : List (Int × Int)) (w : World) (h : w.ownsRow base IT 2 (.slice (some ad) l.length cap) l.length (flatI l)) (hbase : base ≤ w.heap.size) (hl0 : 0 < l.length) (hl : l.length ≤ 1000000)
    (ha0 : -9223372036854775808 < a) (ha1 : a ≤ 9223372036854775807) (hm : ∀ i j, i ≤ j → j < l.length → pLo l a i = true → pLo l a j = true) (hc : cLo l a = l.length) :
    Calls Tryz.prog 56 #[.slice (some ad) l.length cap, .agg #[.int .i64 a, .int .i64 b]] w fun e w' => ∃ v', e = .returned v' ∧ w'.ownsRow base IT 2 v' (l.length + 1) (flatI (l ++ [(a, b)])) ∧ Chg (fun k => k = ad.block ∨ w.heap.size ≤ k) w w' := by
  obtain ⟨g, rfl, hS⟩ := AS.start (a := a) (b := b) h
  have hmf : ∀ (fn : Fn) (first cap : Array Value) (w : World), (Instr.makeFunc fn first cap).run Tryz.prog w = .ok (.func fn first cap) w := fun _ _ _ _ => rfl
  have e1 : ((l.length : Int) == 0) = false := by rw [beq_eq_false_iff_ne]; omega
  have e2 : (a != -9223372036854775808) = true := by rw [bne_iff_ne]; omega
  have hch := (((Chg.refl (fun k => k = g ∨ w.heap.size ≤ k) w).alloc (.cells #[.slice (some ⟨g, 0, none⟩) l.length cap] 91)).alloc (.cells #[.int .i64 a, .int .i64 b] IT)).alloc (.cells #[.int .i64 0] 3)
  go_enter Tryz.func56, Tryz.ntmps56
  go_wp2_with fail
  generalize ((w.alloc _).alloc _).alloc _ = W at *
  generalize hA : w.heap.size = A at *
  have hz := hch.size
  refine (searchLo_any A (A + 1) g cap a l W (hS.cA.cell 0) (hS.cB.cell 0) hS.ivs (by omega) ha0 ha1 hm).mono ?_
  rintro e W1 ⟨rfl, hc1⟩
  rw [show (List.range l.length).countP (fun i => !pLo l a i) = l.length from hc]
  have hS1 := (hS.keepF hc1)
  have c5 := hS1.cM.cell 0
  have z5 := hS1.cM.free 0
  have hS2 := hS1.setM (l.length : Int)
  have hch2 := (hch.trans (hc1.mono fun k h => h.elim)).setCell ⟨A + 1 + 1, 0, none⟩ (.inr (show A ≤ A + 1 + 1 by omega)) (.int .i64 (l.length : Int))
  have cA := hS2.cA.cell 0
  have cB0 := hS2.cB.cell 0
  have cB1 := hS2.cB.cell 1
  have cM := hS2.cM.cell 0
  have hz1 := hc1.size
  have hzs : (W1.setCell ⟨A + 1 + 1, 0, none⟩ (.int .i64 (l.length : Int))).heap.size = W1.heap.size := size_set _ _ _
  obtain ⟨v', w', hr, ho', hg⟩ := run_iv_append ((W1.setCell ⟨A + 1 + 1, 0, none⟩ (.int .i64 (l.length : Int))).alloc (.cells #[.int .i64 a, .int .i64 b] IT)) base _ _ l (own_alloc hS2.own _) (W1.setCell ⟨A + 1 + 1, 0, none⟩ (.int .i64 (l.length : Int))).heap.size 0 1 1 [(a, b)] rfl (one_iv _ a b IT) (by omega) (by simp; omega)
  rw [hzs] at hr
  have HR := Lib.hid hr
  clear hr hm hc hzs
  have hcc := (hch2.alloc (.cells #[.int .i64 a, .int .i64 b] IT)).trans ((Chg.ofGrown hg).mono fun k hk => .inl (by simp [Value.ownBlock] at hk; exact hk))
  go_wp2_with (first | (at_builtin; refine list_run 91 91 rfl (.tmp 25) (.tmp 27) rfl rfl rfl rfl HR.out ?_) | fail)
  go_ret
  subst hA
  exact ⟨_, rfl, ho', hcc⟩

theorem AS.src {W : World} {A B M g cap base : Nat} {a b m : Int} {l : List (Int × Int)} (h : AS W A B M g cap base a b m l) (k : Nat) : ∀ j u, (flatI (l.drop k))[j]? = some u → W.cell? ⟨g, k * 2 + j, none⟩ = some u := by
  obtain ⟨cur, h4, h5, h6⟩ := h.row
  intro j u hj
  rw [h4.cell, ← hj, ← flatI_drop, ← h6, List.getElem?_drop]
  rw [← flatI_drop, ← h6, List.getElem?_drop] at hj
  have := (List.getElem?_eq_some_iff.1 hj).1
  rw [List.getElem?_take_of_lt (by simp at this; omega)]
theorem searchHi_int (A M B g cap m : Nat) (b : Int) (l : List (Int × Int)) (w : World) (hA : w.cell? ⟨A, 0, none⟩ = some (.slice (some ⟨g, 0, none⟩) l.length cap)) (hM : w.cell? ⟨M, 0, none⟩ = some (.int .i64 m)) (hB : w.cell? ⟨B, 1, none⟩ = some (.int .i64 b)) (hI : IvAt w g l) (hl : l.length ≤ 2147483647) (hml : m ≤ l.length) (hb0 : -9223372036854775808 ≤ b) (hb1 : b < 9223372036854775807)
    (hm : ∀ i j, i ≤ j → j < l.length - m → pHi l b m i = true → pHi l b m j = true) :
    Calls Tryz.prog 96 #[.int .i64 ((l.length : Int) - (m : Int)), .func (.func 98) #[] #[.pointer (some ⟨A, 0, none⟩), .pointer (some ⟨M, 0, none⟩), .pointer (some ⟨B, 0, none⟩)]] w fun e w' => e = .returned (.int .i64 (cHi l b m : Nat)) ∧ Chg (fun _ => False) w w' := by
  have := searchHi_any A M B g cap m b l w hA hM hB hI hl hml hb0 hb1 hm
  rw [show ((l.length - m : Nat) : Int) = (l.length : Int) - (m : Int) by omega] at this
  exact this

theorem flatI_set1 : ∀ (l : List (Int × Int)) (m : Nat) (x : Int) (h : m < l.length), flatI (l.set m (x, l[m].2)) = (flatI l).set (m * 2) (.int .i64 x)
  | z :: l, 0, x, _ => rfl
  | z :: l, m + 1, x, h => by
    have e : (m + 1) * 2 = m * 2 + 1 + 1 := by omega
    have h' : m < l.length := by simpa using h
    rw [e]
    show .int .i64 z.1 :: .int .i64 z.2 :: flatI (l.set m (x, l[m].2)) = _
    rw [flatI_set1 l m x h']
    rfl
theorem flatI_set2 : ∀ (l : List (Int × Int)) (m : Nat) (y : Int) (h : m < l.length), flatI (l.set m (l[m].1, y)) = (flatI l).set (m * 2 + 1) (.int .i64 y)
  | z :: l, 0, x, _ => rfl
  | z :: l, m + 1, x, h => by
    have e : (m + 1) * 2 = m * 2 + 1 + 1 := by omega
    have h' : m < l.length := by simpa using h
    rw [e]
    show .int .i64 z.1 :: .int .i64 z.2 :: flatI (l.set m (l[m].1, x)) = _
    rw [flatI_set2 l m x h']
    rfl
theorem AS.setRow1 {W : World} {A B M g cap base : Nat} {a b m' : Int} {l : List (Int × Int)} (h : AS W A B M g cap base a b m' l) {m : Nat} (hm : m < l.length) (x : Int) : AS (W.setCell ⟨g, m * 2, none⟩ (.int .i64 x)) A B M g cap base a b m' (l.set m (x, l[m].2)) := by
  obtain ⟨h1, h2, h3, ⟨cur, h4, h5, h6⟩, h7, h8, h9, h10, h11, h12⟩ := h
  have hc := chg_set W g (m * 2) (.int .i64 x)
  refine ⟨by rw [List.length_set]; exact h1.chg hc (by omega), h2.chg hc (by omega), h3.chg hc (by omega), ⟨_, h4.set (m * 2) _, by simpa using h5, ?_⟩, by rw [List.length_set]; exact h7, h8, h9, h10, h11, h12⟩
  rw [List.length_set, List.take_set, h6, flatI_set1 l m x hm]
theorem AS.setRow2 {W : World} {A B M g cap base : Nat} {a b m' : Int} {l : List (Int × Int)} (h : AS W A B M g cap base a b m' l) {m : Nat} (hm : m < l.length) (y : Int) : AS (W.setCell ⟨g, m * 2 + 1, none⟩ (.int .i64 y)) A B M g cap base a b m' (l.set m (l[m].1, y)) := by
  obtain ⟨h1, h2, h3, ⟨cur, h4, h5, h6⟩, h7, h8, h9, h10, h11, h12⟩ := h
  have hc := chg_set W g (m * 2 + 1) (.int .i64 y)
  refine ⟨by rw [List.length_set]; exact h1.chg hc (by omega), h2.chg hc (by omega), h3.chg hc (by omega), ⟨_, h4.set (m * 2 + 1) _, by simpa using h5, ?_⟩, by rw [List.length_set]; exact h7, h8, h9, h10, h11, h12⟩
  rw [List.length_set, List.take_set, h6, flatI_set2 l m y hm]
theorem AS.free {W : World} {A B M g cap base : Nat} {a b m : Int} {l : List (Int × Int)} (h : AS W A B M g cap base a b m l) (j : Nat) : W.frozen? ⟨g, j, none⟩ = false := by
  obtain ⟨cur, h4, h5, h6⟩ := h.row
  exact h4.free j

theorem own_some {w : World} {base size n : Nat} {e : TypeId} {v : Value} {xs : List Value} (h : w.ownsRow base e size v n xs) (hn : 0 < n) : ∃ g cap, v = .slice (some ⟨g, 0, none⟩) n cap ∧ base ≤ g := by
  obtain ⟨hl, h | ⟨g, cap', cur, h, h1, h2, h3, h4, h5, h6⟩⟩ := h
  · omega
  · exact ⟨g, cap', h, h1⟩
theorem own_src {w : World} {base size n cap g : Nat} {e : TypeId} {xs : List Value} (h : w.ownsRow base e size (.slice (some ⟨g, 0, none⟩) n cap) n xs) : ∀ j u, xs[j]? = some u → w.cell? ⟨g, 0 + j, none⟩ = some u := by
  obtain ⟨g', cur, hg, h1, h2, h3, h4, h5, h6⟩ := own_blk h
  injection hg with hg
  subst hg
  intro j u hj
  rw [Nat.zero_add, h2.cell, ← hj, ← h6]
  rw [← h6] at hj
  have := (List.getElem?_eq_some_iff.1 hj).1
  rw [List.getElem?_take_of_lt (by simp at this; omega)]
theorem as_cells {W : World} {A B M g cap base : Nat} {a b m : Int} {l : List (Int × Int)} (h : AS W A B M g cap base a b m l) : W.cell? ⟨A, 0, none⟩ = some (.slice (some ⟨g, 0, none⟩) l.length cap) ∧ W.cell? ⟨B, 0, none⟩ = some (.int .i64 a) ∧ W.cell? ⟨B, 1, none⟩ = some (.int .i64 b) ∧ W.cell? ⟨M, 0, none⟩ = some (.int .i64 m) :=
  ⟨h.cA.cell 0, h.cB.cell 0, h.cB.cell 1, h.cM.cell 0⟩
theorem as_cells_but {W W' : World} {A B M g cap base : Nat} {a b m : Int} {l : List (Int × Int)} (h : AS W A B M g cap base a b m l) {S : Nat → Prop} (hc : Chg S W W') (hA : ¬ S A) (hB : ¬ S B) (hM : ¬ S M) : W'.cell? ⟨A, 0, none⟩ = some (.slice (some ⟨g, 0, none⟩) l.length cap) ∧ W'.cell? ⟨B, 0, none⟩ = some (.int .i64 a) ∧ W'.cell? ⟨B, 1, none⟩ = some (.int .i64 b) ∧ W'.cell? ⟨M, 0, none⟩ = some (.int .i64 m) :=
  ⟨(h.cA.chg hc hA).cell 0, (h.cB.chg hc hB).cell 0, (h.cB.chg hc hB).cell 1, (h.cM.chg hc hM).cell 0⟩
end Go.Proofs.YtkbkggamfkadnaaGreatDoor
namespace Go.Proofs.YtkbkggamfkadnaaGreatDoor
set_option linter.unusedSimpArgs false
set_option linter.unusedVariables false
open Go.RowKit

set_option maxRecDepth 100000 in
set_option maxHeartbeats 8000000 in
theorem add_front (base cap m k : Nat) (ad : Addr) (a b : Int) (l : List (Int × Int)) (w : World) (h : w.ownsRow base IT 2 (.slice (some ad) l.length cap) l.length (flatI l)) (hbase : base ≤ w.heap.size) (hl0 : m < l.length) (hl : l.length ≤ 1000000)
    (ha : (a = -9223372036854775808 ∧ m = 0) ∨ (-9223372036854775808 < a ∧ cLo l a = m)) (ha1 : a ≤ 9223372036854775807) (hb0 : -9223372036854775808 ≤ b) (hb1 : b < 9223372036854775807)
    (hm1 : ∀ i j, i ≤ j → j < l.length → pLo l a i = true → pLo l a j = true) (hm2 : ∀ i j, i ≤ j → j < l.length - m → pHi l b m i = true → pHi l b m j = true) (hk : cHi l b m = k) (hk0 : k = 0) (hmz : m = 0) :
    Calls Tryz.prog 56 #[.slice (some ad) l.length cap, .agg #[.int .i64 a, .int .i64 b]] w fun e w' => ∃ v', e = .returned v' ∧ w'.ownsRow base IT 2 v' (l.length + 1) (flatI ((a, b) :: l)) ∧ Chg (fun k => k = ad.block ∨ w.heap.size ≤ k) w w' := by
  subst hk0
  have HZ := Lib.hid hmz
  clear hmz
  obtain ⟨g, rfl, hS⟩ := AS.start (a := a) (b := b) h
  have hmf : ∀ (fn : Fn) (first cap : Array Value) (w : World), (Instr.makeFunc fn first cap).run Tryz.prog w = .ok (.func fn first cap) w := fun _ _ _ _ => rfl
  have e1 : ((l.length : Int) == 0) = false := by rw [beq_eq_false_iff_ne]; omega
  have e3 : (b != 9223372036854775807) = true := by rw [bne_iff_ne]; omega
  have e4 : ((m : Int) == (l.length : Int)) = false := by rw [beq_eq_false_iff_ne]; omega
  have hwsub : IntKind.i64.wrap ((l.length : Int) - (m : Int)) = (l.length : Int) - (m : Int) := IntWalk.i64_in _ (by omega)
  have hch := (((Chg.refl (fun k => k = g ∨ w.heap.size ≤ k) w).alloc (.cells #[.slice (some ⟨g, 0, none⟩) l.length cap] 91)).alloc (.cells #[.int .i64 a, .int .i64 b] IT)).alloc (.cells #[.int .i64 0] 3)
  have HK := Lib.hid hk
  have HM1 := Lib.hid hm1
  have HM2 := Lib.hid hm2
  clear hk hm1 hm2
  rcases ha with ⟨ha, hm0⟩ | ⟨ha0, hcl⟩
  all_goals first
    | (have hax := ha
       have e2 : (a != -9223372036854775808) = false := by rw [bne_eq_false_iff_eq]; exact ha
       have hS := hS.cast (m' := (m : Int)) (by rw [hm0]; rfl)
       have HM := Lib.hid hm0
       clear hm0 ha hax
       go_enter Tryz.func56, Tryz.ntmps56
       go_wp2_with fail
       generalize ((w.alloc _).alloc _).alloc _ = W2 at *
       generalize hA : w.heap.size = A at *
       have hz2 := hch.size
       have hs := searchHi_int A (A + 1 + 1) (A + 1) g cap m b l W2 (hS.cA.cell 0) (hS.cM.cell 0) (hS.cB.cell 1) hS.ivs (by omega) (by omega) hb0 hb1 HM2.out
       rw [show (l.length : Int) - (m : Int) = (l.length : Int) by have := HM.out; omega] at hs
       refine hs.mono ?_
       clear hs
       rintro e W3 ⟨rfl, hc3⟩
       have hS3 := hS.keepF hc3
       have hch3 := hch.trans (hc3.mono fun k h => h.elim))
    | (have e2 : (a != -9223372036854775808) = true := by rw [bne_iff_ne]; omega
       have HM := Lib.hid hcl
       clear hcl
       go_enter Tryz.func56, Tryz.ntmps56
       go_wp2_with fail
       generalize ((w.alloc _).alloc _).alloc _ = W at *
       generalize hA : w.heap.size = A at *
       have hz2 := hch.size
       refine (searchLo_any A (A + 1) g cap a l W (hS.cA.cell 0) (hS.cB.cell 0) hS.ivs (by omega) ha0 ha1 HM1.out).mono ?_
       rintro e W1 ⟨rfl, hc1⟩
       rw [show (List.range l.length).countP (fun i => !pLo l a i) = m from HM.out]
       have hS1 := hS.keepF hc1
       have c5 := hS1.cM.cell 0
       have z5 := hS1.cM.free 0
       have hS2 := hS1.setM (m : Int)
       have hch2 := (hch.trans (hc1.mono fun k h => h.elim)).setCell ⟨A + 1 + 1, 0, none⟩ (.inr (show A ≤ A + 1 + 1 by omega)) (.int .i64 (m : Int))
       have cAx := hS2.cA.cell 0
       have cBx := hS2.cB.cell 1
       have cMx := hS2.cM.cell 0
       go_wp2_with fail
       refine (searchHi_int A (A + 1 + 1) (A + 1) g cap m b l _ (hS2.cA.cell 0) (hS2.cM.cell 0) (hS2.cB.cell 1) hS2.ivs (by omega) (by omega) hb0 hb1 HM2.out).mono ?_
       rintro e W3 ⟨rfl, hc3⟩
       have hS3 := hS2.keepF hc3
       have hch3 := hch2.trans (hc3.mono fun k h => h.elim)
       clear c5 z5 hS2 hch2 cAx cBx cMx hS1 hc1)
  all_goals
    rw [HK.out]
    have cA := hS3.cA.cell 0
    have cB0 := hS3.cB.cell 0
    have cB1 := hS3.cB.cell 1
    have cM := hS3.cM.cell 0
    have cA2 := (hS3.cA.alloc (.cells #[.int .i64 a, .int .i64 b] 93)).cell 0
    have e5 : ((m : Int) == 0) = true := by have := HZ.out; rw [beq_iff_eq]; omega
    have hz3 := hch3.size
    have hO := own_lit W3 IT 2 [.int .i64 a, .int .i64 b] rfl
    obtain ⟨v', w', hr, ho', hg⟩ := run_iv_append (W3.alloc (.cells #[.int .i64 a, .int .i64 b] IT)) W3.heap.size _ 1 [(a, b)] hO g 0 l.length cap l rfl (fun j u hj => by
      have := hS3.src 0 j u hj
      rw [Nat.zero_mul] at this
      exact cell_chg ((Chg.refl (fun _ => False) W3).alloc _) this (fun h => h)) (by omega) (by simp)
    have HR := Lib.hid hr
    clear hr
    have hcc := (hch3.alloc (.cells #[.int .i64 a, .int .i64 b] IT)).trans ((Chg.ofGrown hg).mono fun k hk => .inr (by simp [Value.ownBlock] at hk; omega))
    go_wp2_with (first | (at_builtin; refine list_run 91 91 rfl (.tmp 45) (.tmp 46) rfl rfl rfl rfl HR.out ?_) | fail)
    go_ret
    subst hA
    refine ⟨_, rfl, ?_, hcc⟩
    rw [Nat.add_comm 1] at ho'
    exact own_base ho' (by omega)

set_option maxRecDepth 100000 in
set_option maxHeartbeats 8000000 in
theorem add_mid (base cap m k : Nat) (ad : Addr) (a b : Int) (l : List (Int × Int)) (w : World) (h : w.ownsRow base IT 2 (.slice (some ad) l.length cap) l.length (flatI l)) (hbase : base ≤ w.heap.size) (hl0 : m < l.length) (hl : l.length ≤ 1000000)
    (ha : (a = -9223372036854775808 ∧ m = 0) ∨ (-9223372036854775808 < a ∧ cLo l a = m)) (ha1 : a ≤ 9223372036854775807) (hb0 : -9223372036854775808 ≤ b) (hb1 : b < 9223372036854775807)
    (hm1 : ∀ i j, i ≤ j → j < l.length → pLo l a i = true → pLo l a j = true) (hm2 : ∀ i j, i ≤ j → j < l.length - m → pHi l b m i = true → pHi l b m j = true) (hk : cHi l b m = k) (hk0 : k = 0) (hmz : 0 < m) :
    Calls Tryz.prog 56 #[.slice (some ad) l.length cap, .agg #[.int .i64 a, .int .i64 b]] w fun e w' => ∃ v', e = .returned v' ∧ w'.ownsRow base IT 2 v' (l.length + 1) (flatI (l.take m ++ ([(a, b)] ++ l.drop m))) ∧ Chg (fun k => k = ad.block ∨ w.heap.size ≤ k) w w' := by
  subst hk0
  obtain ⟨g, rfl, hS⟩ := AS.start (a := a) (b := b) h
  have hmf : ∀ (fn : Fn) (first cap : Array Value) (w : World), (Instr.makeFunc fn first cap).run Tryz.prog w = .ok (.func fn first cap) w := fun _ _ _ _ => rfl
  have e1 : ((l.length : Int) == 0) = false := by rw [beq_eq_false_iff_ne]; omega
  have e3 : (b != 9223372036854775807) = true := by rw [bne_iff_ne]; omega
  have e4 : ((m : Int) == (l.length : Int)) = false := by rw [beq_eq_false_iff_ne]; omega
  have hwsub : IntKind.i64.wrap ((l.length : Int) - (m : Int)) = (l.length : Int) - (m : Int) := IntWalk.i64_in _ (by omega)
  have hch := (((Chg.refl (fun k => k = g ∨ w.heap.size ≤ k) w).alloc (.cells #[.slice (some ⟨g, 0, none⟩) l.length cap] 91)).alloc (.cells #[.int .i64 a, .int .i64 b] IT)).alloc (.cells #[.int .i64 0] 3)
  have HK := Lib.hid hk
  have HM1 := Lib.hid hm1
  have HM2 := Lib.hid hm2
  clear hk hm1 hm2
  rcases ha with ⟨ha, hm0⟩ | ⟨ha0, hcl⟩
  all_goals first
    | (have hax := ha
       have e2 : (a != -9223372036854775808) = false := by rw [bne_eq_false_iff_eq]; exact ha
       have hS := hS.cast (m' := (m : Int)) (by rw [hm0]; rfl)
       have HM := Lib.hid hm0
       clear hm0 ha hax
       go_enter Tryz.func56, Tryz.ntmps56
       go_wp2_with fail
       generalize ((w.alloc _).alloc _).alloc _ = W2 at *
       generalize hA : w.heap.size = A at *
       have hz2 := hch.size
       have hs := searchHi_int A (A + 1 + 1) (A + 1) g cap m b l W2 (hS.cA.cell 0) (hS.cM.cell 0) (hS.cB.cell 1) hS.ivs (by omega) (by omega) hb0 hb1 HM2.out
       rw [show (l.length : Int) - (m : Int) = (l.length : Int) by have := HM.out; omega] at hs
       refine hs.mono ?_
       clear hs
       rintro e W3 ⟨rfl, hc3⟩
       have hS3 := hS.keepF hc3
       have hch3 := hch.trans (hc3.mono fun k h => h.elim))
    | (have e2 : (a != -9223372036854775808) = true := by rw [bne_iff_ne]; omega
       have HM := Lib.hid hcl
       clear hcl
       go_enter Tryz.func56, Tryz.ntmps56
       go_wp2_with fail
       generalize ((w.alloc _).alloc _).alloc _ = W at *
       generalize hA : w.heap.size = A at *
       have hz2 := hch.size
       refine (searchLo_any A (A + 1) g cap a l W (hS.cA.cell 0) (hS.cB.cell 0) hS.ivs (by omega) ha0 ha1 HM1.out).mono ?_
       rintro e W1 ⟨rfl, hc1⟩
       rw [show (List.range l.length).countP (fun i => !pLo l a i) = m from HM.out]
       have hS1 := hS.keepF hc1
       have c5 := hS1.cM.cell 0
       have z5 := hS1.cM.free 0
       have hS2 := hS1.setM (m : Int)
       have hch2 := (hch.trans (hc1.mono fun k h => h.elim)).setCell ⟨A + 1 + 1, 0, none⟩ (.inr (show A ≤ A + 1 + 1 by omega)) (.int .i64 (m : Int))
       have cAx := hS2.cA.cell 0
       have cBx := hS2.cB.cell 1
       have cMx := hS2.cM.cell 0
       go_wp2_with fail
       refine (searchHi_int A (A + 1 + 1) (A + 1) g cap m b l _ (hS2.cA.cell 0) (hS2.cM.cell 0) (hS2.cB.cell 1) hS2.ivs (by omega) (by omega) hb0 hb1 HM2.out).mono ?_
       rintro e W3 ⟨rfl, hc3⟩
       have hS3 := hS2.keepF hc3
       have hch3 := hch2.trans (hc3.mono fun k h => h.elim)
       clear c5 z5 hS2 hch2 cAx cBx cMx hS1 hc1)
  all_goals
    rw [HK.out]
    have e5 : ((m : Int) == 0) = false := by rw [beq_eq_false_iff_ne]; omega
    have hz3 := hch3.size
    have hO := own_lit W3 IT 2 [.int .i64 a, .int .i64 b] rfl
    have hlc := hS3.lc
    have hcm := hS3.cm
    have hlm : (l.drop m).length = l.length - m := List.length_drop
    have hgl : g < A := hS3.o2
    have hAW : A + 1 + 1 < W3.heap.size := hS3.cM.lt
    obtain ⟨x, w1, hr1, ho1, hg1⟩ := run_iv_append (W3.alloc (.cells #[.int .i64 a, .int .i64 b] 93)).drew W3.heap.size _ 1 [(a, b)] (own_drew hO) g (m * 2) (l.length - m) (cap - m) (l.drop m) hlm (fun j u hj => cell_chg (((Chg.refl (fun _ => False) W3).alloc _).drew) (hS3.src m j u hj) (fun h => h)) (by omega) (by simp)
    obtain ⟨xg, xc, rfl, hxg⟩ := own_some ho1 (by omega)
    have hxs := own_src ho1
    have hcx0 : Chg (fun k => W3.heap.size ≤ k) W3 (W3.alloc (.cells #[.int .i64 a, .int .i64 b] 93)).drew := ((Chg.refl (fun k => W3.heap.size ≤ k) W3).alloc _).drew
    have hcx1 : Chg (fun k => W3.heap.size ≤ k) W3 w1 := hcx0.grown hg1 (fun q hq => by simp [Value.ownBlock] at hq; omega)
    have hS4 := hS3.keep hcx1 (by omega) (by omega) (by omega) (by omega)
    have hz4 := hcx1.size
    have hP := own_prefix hS4.own (by simp) (Nat.le_of_lt hl0)
    rw [flatI_take] at hP
    obtain ⟨v', w2, hr2, ho2, hg2⟩ := run_iv_append w1 base _ m (l.take m) hP xg 0 (1 + (l.length - m)) xc ([(a, b)] ++ l.drop m) (by simp; omega) hxs (by omega) (by omega)
    have hcx2 : Chg (fun k => k = g) w1 w2 := (Chg.ofGrown hg2).mono fun k hk => by simp [Value.ownBlock] at hk; exact hk
    have S0 := as_cells hS3
    have S1 := as_cells (hS3.keep hcx0 (by omega) (by omega) (by omega) (by omega))
    have S2 := as_cells hS4
    have S3 := as_cells_but hS4 hcx2 (by omega) (by omega) (by omega)
    have T0 : W3.drew.cell? ⟨A, 0, none⟩ = some (.slice (some ⟨g, 0, none⟩) l.length cap) ∧ W3.drew.cell? ⟨A + 1, 0, none⟩ = some (.int .i64 a) ∧ W3.drew.cell? ⟨A + 1, 1, none⟩ = some (.int .i64 b) ∧ W3.drew.cell? ⟨A + 1 + 1, 0, none⟩ = some (.int .i64 (m : Int)) := S0
    have n0 : (0 : Int) ≤ (m : Int) := by omega
    have n1 : (m : Int) ≤ (cap : Int) := by omega
    have n2 : (m : Int) ≤ (l.length : Int) := by omega
    have n3 : ¬ cap = m := by omega
    have n4 : ¬ (m : Int) = (cap : Int) := by omega
    have HR1 := Lib.hid hr1
    have HR2 := Lib.hid hr2
    have hcc := hch3.trans ((hcx1.mono fun k hk => .inr (by omega)).trans (hcx2.mono fun k hk => .inl hk))
    have cMx := S0.2.2.2
    clear hr1 hr2 hxs hlm hcx0 hcx1 hcx2 hg1 hg2 hO hP hS4 ho1
    go_wp2_with fail
    go_region_held3 (fun w' => w'.cell? ⟨A, 0, none⟩ = some (.slice (some ⟨g, 0, none⟩) l.length cap) ∧ w'.cell? ⟨A + 1, 0, none⟩ = some (.int .i64 a) ∧ w'.cell? ⟨A + 1, 1, none⟩ = some (.int .i64 b) ∧ w'.cell? ⟨A + 1 + 1, 0, none⟩ = some (.int .i64 (m : Int))) (first | (with_reducible assumption) | fail)
      (first
        | (refine step_run 91 91 rfl (.tmp 52) (.tmp 55) rfl rfl rfl rfl HR1.out ?_)
        | (refine step_run 91 91 rfl (.tmp 50) (.tmp 56) rfl rfl rfl rfl HR2.out ?_)
        | fail)
    go_wp2_with fail
    go_ret
    subst hA
    refine ⟨_, rfl, ?_, hcc⟩
    rw [show m + (1 + (l.length - m)) = l.length + 1 by omega] at ho2
    exact ho2
end Go.Proofs.YtkbkggamfkadnaaGreatDoor
namespace Go.Proofs.YtkbkggamfkadnaaGreatDoor
set_option linter.unusedSimpArgs false
set_option linter.unusedVariables false
open Go.RowKit

set_option maxRecDepth 100000 in
set_option maxHeartbeats 8000000 in
theorem add_merge (base cap m k : Nat) (ad : Addr) (a b : Int) (l : List (Int × Int)) (w : World) (h : w.ownsRow base IT 2 (.slice (some ad) l.length cap) l.length (flatI l)) (hbase : base ≤ w.heap.size) (hl0 : m < l.length) (hl : l.length ≤ 1000000)
    (ha : (a = -9223372036854775808 ∧ m = 0) ∨ (-9223372036854775808 < a ∧ cLo l a = m)) (ha1 : a ≤ 9223372036854775807) (hb0 : -9223372036854775808 ≤ b) (hb1 : b < 9223372036854775807)
    (hm1 : ∀ i j, i ≤ j → j < l.length → pLo l a i = true → pLo l a j = true) (hm2 : ∀ i j, i ≤ j → j < l.length - m → pHi l b m i = true → pHi l b m j = true) (hk : cHi l b m = k) (hk0 : 0 < k) :
    Calls Tryz.prog 56 #[.slice (some ad) l.length cap, .agg #[.int .i64 a, .int .i64 b]] w fun e w' => ∃ v', e = .returned v' ∧ w'.ownsRow base IT 2 v' (l.length + 1 - k) (flatI (l.take m ++ ([(min a (l.getD m (0, 0)).1, max b (l.getD (m + k - 1) (0, 0)).2)] ++ l.drop (m + k)))) ∧ Chg (fun k => k = ad.block ∨ w.heap.size ≤ k) w w' := by
  obtain ⟨g, rfl, hS⟩ := AS.start (a := a) (b := b) h
  have hmf : ∀ (fn : Fn) (first cap : Array Value) (w : World), (Instr.makeFunc fn first cap).run Tryz.prog w = .ok (.func fn first cap) w := fun _ _ _ _ => rfl
  have e1 : ((l.length : Int) == 0) = false := by rw [beq_eq_false_iff_ne]; omega
  have e3 : (b != 9223372036854775807) = true := by rw [bne_iff_ne]; omega
  have e4 : ((m : Int) == (l.length : Int)) = false := by rw [beq_eq_false_iff_ne]; omega
  have hwsub : IntKind.i64.wrap ((l.length : Int) - (m : Int)) = (l.length : Int) - (m : Int) := IntWalk.i64_in _ (by omega)
  have hch := (((Chg.refl (fun k => k = g ∨ w.heap.size ≤ k) w).alloc (.cells #[.slice (some ⟨g, 0, none⟩) l.length cap] 91)).alloc (.cells #[.int .i64 a, .int .i64 b] IT)).alloc (.cells #[.int .i64 0] 3)
  have HK := Lib.hid hk
  have HM1 := Lib.hid hm1
  have HM2 := Lib.hid hm2
  clear hk hm1 hm2
  rcases ha with ⟨ha, hm0⟩ | ⟨ha0, hcl⟩
  all_goals first
    | (have hax := ha
       have e2 : (a != -9223372036854775808) = false := by rw [bne_eq_false_iff_eq]; exact ha
       have hS := hS.cast (m' := (m : Int)) (by rw [hm0]; rfl)
       have HM := Lib.hid hm0
       clear hm0 ha hax
       go_enter Tryz.func56, Tryz.ntmps56
       go_wp2_with fail
       generalize ((w.alloc _).alloc _).alloc _ = W2 at *
       generalize hA : w.heap.size = A at *
       have hz2 := hch.size
       have hs := searchHi_int A (A + 1 + 1) (A + 1) g cap m b l W2 (hS.cA.cell 0) (hS.cM.cell 0) (hS.cB.cell 1) hS.ivs (by omega) (by omega) hb0 hb1 HM2.out
       rw [show (l.length : Int) - (m : Int) = (l.length : Int) by have := HM.out; omega] at hs
       refine hs.mono ?_
       clear hs
       rintro e W3 ⟨rfl, hc3⟩
       have hS3 := hS.keepF hc3
       have hch3 := hch.trans (hc3.mono fun k h => h.elim))
    | (have e2 : (a != -9223372036854775808) = true := by rw [bne_iff_ne]; omega
       have HM := Lib.hid hcl
       clear hcl
       go_enter Tryz.func56, Tryz.ntmps56
       go_wp2_with fail
       generalize ((w.alloc _).alloc _).alloc _ = W at *
       generalize hA : w.heap.size = A at *
       have hz2 := hch.size
       refine (searchLo_any A (A + 1) g cap a l W (hS.cA.cell 0) (hS.cB.cell 0) hS.ivs (by omega) ha0 ha1 HM1.out).mono ?_
       rintro e W1 ⟨rfl, hc1⟩
       rw [show (List.range l.length).countP (fun i => !pLo l a i) = m from HM.out]
       have hS1 := hS.keepF hc1
       have c5 := hS1.cM.cell 0
       have z5 := hS1.cM.free 0
       have hS2 := hS1.setM (m : Int)
       have hch2 := (hch.trans (hc1.mono fun k h => h.elim)).setCell ⟨A + 1 + 1, 0, none⟩ (.inr (show A ≤ A + 1 + 1 by omega)) (.int .i64 (m : Int))
       have cAx := hS2.cA.cell 0
       have cBx := hS2.cB.cell 1
       have cMx := hS2.cM.cell 0
       go_wp2_with fail
       refine (searchHi_int A (A + 1 + 1) (A + 1) g cap m b l _ (hS2.cA.cell 0) (hS2.cM.cell 0) (hS2.cB.cell 1) hS2.ivs (by omega) (by omega) hb0 hb1 HM2.out).mono ?_
       rintro e W3 ⟨rfl, hc3⟩
       have hS3 := hS2.keepF hc3
       have hch3 := hch2.trans (hc3.mono fun k h => h.elim)
       clear c5 z5 hS2 hch2 cAx cBx cMx hS1 hc1)
  all_goals
    rw [HK.out]
    have cA := hS3.cA.cell 0
    have cB0 := hS3.cB.cell 0
    have cB1 := hS3.cB.cell 1
    have cM := hS3.cM.cell 0
    have r0 := (hS3.ivs m hl0).1
    have zr0 := hS3.free (m * 2)
    have e5 : ((k : Int) == 0) = false := by rw [beq_eq_false_iff_ne]; omega
    have i0 : (0 : Int) ≤ (m : Int) := by omega
    have i1 : (m : Int) < (l.length : Int) := by omega
    have hz3 := hch3.size
    have hg0 : l.getD m (0, 0) = l[m] := by rw [List.getD_eq_getElem?_getD, List.getElem?_eq_getElem hl0]; rfl
    have HG := Lib.hid hg0
    clear hg0
    by_cases hlt : a < l[m].1
    all_goals first
      | (have hltx : a < l[m].1 := hlt
         go_wp2_with fail
         go_quiet (fail)
         go_wp2_with fail
         have hS4 := (hS3.keepF ((Chg.refl _ W3).drewN nq)).setRow1 hl0 a
         rw [show a = min a l[m].1 by omega] at hS4
         have hch4 := (hch3.drewN nq).setCell ⟨g, m * 2, none⟩ (.inl rfl) (.int .i64 a)
         rw [show min a l[m].1 = a by omega] at hS4
         generalize (W3.drewN nq).setCell _ _ = W4 at *
         have hS4 : AS W4 A (A + 1) (A + 1 + 1) g cap base a b (m : Int) (l.set m (min a l[m].1, l[m].2)) := by rw [show min a l[m].1 = a by omega]; exact hS4)
      | (go_wp2_with fail
         go_quiet (fail)
         go_wp2_with fail
         have hS4 := (hS3.keepF ((Chg.refl _ W3).drewN nq))
         have hch4 := hch3.drewN nq
         generalize W3.drewN nq = W4 at *
         have hS4 : AS W4 A (A + 1) (A + 1 + 1) g cap base a b (m : Int) (l.set m (min a l[m].1, l[m].2)) := by rw [show min a l[m].1 = l[m].1 by omega, List.set_getElem_self]; exact hS4)
    all_goals
      clear cA cB0 cB1 cM r0 zr0
      have hj : m + k - 1 < l.length := by have := cHi_le l b m; have := HK.out; omega
      have r2 := (hS4.ivs (m + k - 1) (by rw [List.length_set]; exact hj)).2
      have S4 := as_cells hS4
      rw [List.length_set] at S4
      have hy : (l.set m (min a l[m].1, l[m].2))[m + k - 1]'(by rw [List.length_set]; exact hj) = if m = m + k - 1 then (min a l[m].1, l[m].2) else l[m + k - 1] := List.getElem_set _
      have hy2 : ((l.set m (min a l[m].1, l[m].2))[m + k - 1]'(by rw [List.length_set]; exact hj)).2 = l[m + k - 1].2 := by
        rw [hy]
        split
        · rename_i e
          simp only [← e]
        · rfl
      rw [hy2] at r2
      have hs1 : IntKind.i64.wrap ((k : Int) + (m : Int)) = (k : Int) + (m : Int) := IntWalk.i64_in _ (by omega)
      have hs2 : IntKind.i64.wrap ((k : Int) + (m : Int) - 1) = (k : Int) + (m : Int) - 1 := IntWalk.i64_in _ (by omega)
      have hs3 : ((k : Int) + (m : Int) - 1).toNat = m + k - 1 := by omega
      have j0 : (0 : Int) ≤ (k : Int) + (m : Int) - 1 := by omega
      have j1 : (k : Int) + (m : Int) - 1 < (l.length : Int) := by omega
      have j2 : (1 : Int) ≤ (k : Int) + (m : Int) := by omega
      have j3 : (k : Int) + (m : Int) ≤ (l.length : Int) := by omega
      have HY := Lib.hid hy2
      obtain ⟨s1, s2, s3, s4⟩ := S4
      clear hy hy2
      go_still_tail 15, (by kernel_rfl)
      change wpList _ _ _ _ _ W4.drew
      have hS5 := hS4.keepF ((Chg.refl _ W4).drew)
      have hch5 := hch4.drew
      clear hS4 hch4 s1 s2 s3 s4 r2
      generalize W4.drew = W5 at *
      have z5 := hS5.free (m * 2 + 1)
      have q5 := (hS5.ivs m (by rw [List.length_set]; exact hl0)).2
      go_wp2_with fail
      have hS6 := hS5.setRow2 (m := m) (by rw [List.length_set]; exact hl0) (max b l[m + k - 1].2)
      rw [show (l.set m (min a l[m].1, l[m].2))[m]'(by rw [List.length_set]; exact hl0) = (min a l[m].1, l[m].2) from List.getElem_set_self _, List.set_set] at hS6
      have hch6 := hch5.setCell ⟨g, m * 2 + 1, none⟩ (.inl rfl) (.int .i64 (max b l[m + k - 1].2))
      clear hS5 hch5 z5 q5 hs1 hs2 hs3 j0 j1 j2 j3
      generalize W5.setCell _ _ = W6 at *
      have hlen : (l.set m (min a l[m].1, max b l[m + k - 1].2)).length = l.length := List.length_set
      have hdrop : (l.set m (min a l[m].1, max b l[m + k - 1].2)).drop (m + k) = l.drop (m + k) := List.drop_set_of_lt (by omega)
      have htake : (l.set m (min a l[m].1, max b l[m + k - 1].2)).take (m + 1) = l.take m ++ [(min a l[m].1, max b l[m + k - 1].2)] := by
        rw [List.take_set, take_next hl0, List.set_append_right _ _ (by simp; omega)]
        simp [Nat.min_eq_left (Nat.le_of_lt hl0)]
      have hP := own_prefix hS6.own (by simp) (show m + 1 ≤ _ by rw [hlen]; omega)
      rw [flatI_take, htake] at hP
      have hsrc := hS6.src (m + k)
      rw [hdrop] at hsrc
      have S6 := as_cells hS6
      have hlc := hS6.lc
      have hcm := hS6.cm
      rw [hlen] at S6 hlc
      have hdl : (l.drop (m + k)).length = l.length - (m + k) := List.length_drop
      have hz6 := hch6.size
      have hgj : l.getD (m + k - 1) (0, 0) = l[m + k - 1] := by rw [List.getD_eq_getElem?_getD, List.getElem?_eq_getElem hj]; rfl
      have HG2 := Lib.hid hgj
      generalize hxy : (min a l[m].1, max b l[m + k - 1].2) = xy at *
      have HXY := Lib.hid hxy
      clear hdrop htake hgj hlen hxy
      obtain ⟨s1, s2, s3, s4⟩ := S6
      have hs1 : IntKind.i64.wrap ((k : Int) + (m : Int)) = (k : Int) + (m : Int) := IntWalk.i64_in _ (by omega)
      have hs2 : IntKind.i64.wrap ((m : Int) + 1) = (m : Int) + 1 := IntWalk.i64_in _ (by omega)
      have hs3 : ((k : Int) + (m : Int)).toNat = m + k := by omega
      have hs4 : ((m : Int) + 1).toNat = m + 1 := by omega
      have j0 : (0 : Int) ≤ (k : Int) + (m : Int) := by omega
      have j1 : (k : Int) + (m : Int) ≤ (l.length : Int) := by omega
      have j4 : (0 : Int) ≤ (m : Int) + 1 := by omega
      have j5 : (m : Int) + 1 ≤ (cap : Int) := by omega
      have hfin : ∀ (q : Nat) (v' : Value) (w2 : World), w2.ownsRow base IT 2 v' (m + 1 + (l.length - (m + k))) (flatI ((l.take m ++ [xy]) ++ l.drop (m + k))) → w2.ownsRow base IT 2 v' (l.length + 1 - k) (flatI (l.take m ++ ([xy] ++ l.drop (m + k)))) := fun q v' w2 h => by
        rw [show m + 1 + (l.length - (m + k)) = l.length + 1 - k by omega, List.append_assoc] at h
        exact h
      by_cases hcap : cap = m + k
      · have hd0 : l.drop (m + k) = [] := List.drop_eq_nil_iff.2 (by omega)
        subst hcap
        obtain ⟨v', w', hr, ho', hg⟩ := run_iv_append W6.drew base _ (m + 1) _ (own_drew hP) g 0 0 0 [] rfl (fun j u hj => by simp [flat] at hj) (by omega) (by have : w.heap.size ≤ W6.drew.heap.size := hz6; omega)
        have HR := Lib.hid hr
        have hcc := hch6.drew.trans ((Chg.ofGrown hg).mono fun k hk => .inl (by simp [Value.ownBlock] at hk; exact hk))
        have ho2 := hfin 0 v' w' (by
          rw [hd0, show m + 1 + (l.length - (m + k)) = m + 1 + 0 by omega]
          exact ho')
        clear hr hdl hd0 hsrc hP hfin ho' hg
        have j6 : (k : Int) + (m : Int) ≤ (m : Int) + (k : Int) := by omega
        have j7 : (m : Int) + 1 ≤ (m : Int) + (k : Int) := by omega
        have j8 : (1 : Int) ≤ (k : Int) := by omega
        have j9 : 1 ≤ k := hk0
        have j10 : m + 1 ≤ m + k := by omega
        go_still_tail 9, (by kernel_rfl)
        change wpList _ _ _ _ _ W6.drew
        go_wp2_with (first | (at_builtin; refine list_run 91 91 rfl (.tmp 90) (.tmp 95) rfl rfl rfl rfl HR.out ?_) | fail)
        go_ret
        subst hA
        refine ⟨_, rfl, ?_, hcc⟩
        rw [HG.out, HG2.out, HXY.out]
        exact ho2
      · obtain ⟨v', w', hr, ho', hg⟩ := run_iv_append W6.drew base _ (m + 1) _ (own_drew hP) g ((m + k) * 2) (l.length - (m + k)) (cap - (m + k)) (l.drop (m + k)) hdl (fun j u hj => hsrc j u hj) (by omega) (by have : w.heap.size ≤ W6.drew.heap.size := hz6; omega)
        have HR := Lib.hid hr
        have hcc := hch6.drew.trans ((Chg.ofGrown hg).mono fun k hk => .inl (by simp [Value.ownBlock] at hk; exact hk))
        have ho2 := hfin 0 _ _ ho'
        clear hr hdl hsrc hP hfin ho' hg
        go_still_tail 9, (by kernel_rfl)
        change wpList _ _ _ _ _ W6.drew
        go_wp2_with (first | (at_builtin; refine list_run 91 91 rfl (.tmp 90) (.tmp 95) rfl rfl rfl rfl HR.out ?_) | fail)
        go_ret
        subst hA
        refine ⟨_, rfl, ?_, hcc⟩
        rw [HG.out, HG2.out, HXY.out]
        exact ho2
end Go.Proofs.YtkbkggamfkadnaaGreatDoor
namespace Go.Proofs.YtkbkggamfkadnaaGreatDoor
set_option linter.unusedSimpArgs false
set_option linter.unusedVariables false
open Go.RowKit

/-- where the new interval goes, how many it is joined with -/
def mOf (l : List (Int × Int)) (a : Int) : Nat := if a = -9223372036854775808 then 0 else cLo l a
def addL (l : List (Int × Int)) (a b : Int) : List (Int × Int) :=
  if mOf l a = l.length then l ++ [(a, b)]
  else if cHi l b (mOf l a) = 0 then l.take (mOf l a) ++ ([(a, b)] ++ l.drop (mOf l a))
  else l.take (mOf l a) ++ ([(min a (l.getD (mOf l a) (0, 0)).1, max b (l.getD (mOf l a + cHi l b (mOf l a) - 1) (0, 0)).2)] ++ l.drop (mOf l a + cHi l b (mOf l a)))

/-- intervals that rise and do not touch -/
def Rise : List (Int × Int) → Prop
  | [] => True
  | x :: l => x.1 ≤ x.2 ∧ -9223372036854775808 ≤ x.1 ∧ x.2 < 9223372036854775807 ∧ (∀ y ∈ l, x.2 + 1 < y.1) ∧ Rise l
theorem Rise.at_ : ∀ {l : List (Int × Int)}, Rise l → ∀ (i : Nat) (h : i < l.length), l[i].1 ≤ l[i].2 ∧ -9223372036854775808 ≤ l[i].1 ∧ l[i].2 < 9223372036854775807
  | x :: l, h, 0, _ => ⟨h.1, h.2.1, h.2.2.1⟩
  | x :: l, h, i + 1, hi => Rise.at_ h.2.2.2.2 i (by simpa using hi)
theorem Rise.lt : ∀ {l : List (Int × Int)}, Rise l → ∀ (i j : Nat) (hij : i < j) (h : j < l.length), l[i].2 + 1 < l[j].1
  | x :: l, h, 0, j + 1, _, hj => h.2.2.2.1 _ (List.getElem_mem (by simpa using hj))
  | x :: l, h, i + 1, j + 1, hij, hj => Rise.lt h.2.2.2.2 i j (by omega) (by simpa using hj)
theorem Rise.le {l : List (Int × Int)} (h : Rise l) (i j : Nat) (hij : i ≤ j) (hj : j < l.length) : l[i].1 ≤ l[j].1 ∧ l[i].2 ≤ l[j].2 := by
  rcases Nat.lt_or_ge i j with hlt | hge
  · have h1 := h.lt i j hlt hj
    have h2 := h.at_ i (by omega)
    have h3 := h.at_ j hj
    omega
  · obtain rfl : i = j := by omega
    exact ⟨Int.le_refl _, Int.le_refl _⟩
theorem getD_at {α : Type} {l : List α} {i : Nat} {d : α} (h : i < l.length) : l.getD i d = l[i] := by rw [List.getD_eq_getElem?_getD, List.getElem?_eq_getElem h]; rfl
theorem Rise.lo {l : List (Int × Int)} (h : Rise l) (a : Int) : ∀ i j, i ≤ j → j < l.length → pLo l a i = true → pLo l a j = true := by
  intro i j hij hj hp
  have := (h.le i j hij hj).2
  unfold pLo at *
  rw [getD_at hj]
  rw [getD_at (by omega : i < l.length)] at hp
  simp at *
  omega
theorem Rise.hi {l : List (Int × Int)} (h : Rise l) (b : Int) (m : Nat) : ∀ i j, i ≤ j → j < l.length - m → pHi l b m i = true → pHi l b m j = true := by
  intro i j hij hj hp
  have := (h.le (m + i) (m + j) (by omega) (by omega)).1
  unfold pHi at *
  rw [getD_at (by omega : m + j < l.length)]
  rw [getD_at (by omega : m + i < l.length)] at hp
  simp at *
  omega

theorem add_any (base : Nat) (v : Value) (a b : Int) (l : List (Int × Int)) (w : World) (h : w.ownsRow base IT 2 v l.length (flatI l)) (hbase : base ≤ w.heap.size) (hl : l.length ≤ 1000000) (hR : Rise l)
    (ha0 : -9223372036854775808 ≤ a) (hab : a ≤ b) (hb1 : b < 9223372036854775807) :
    Calls Tryz.prog 56 #[v, .agg #[.int .i64 a, .int .i64 b]] w fun e w' => ∃ v', e = .returned v' ∧ w'.ownsRow base IT 2 v' (addL l a b).length (flatI (addL l a b)) ∧ Chg (fun k => some k = v.ownBlock ∨ w.heap.size ≤ k) w w' := by
  rcases Nat.eq_zero_or_pos l.length with h0 | h0
  · have hl0 : l = [] := List.length_eq_zero_iff.1 h0
    subst hl0
    refine (add_nil base v a b w h hbase).mono fun e w' ⟨v', he, ho, hc⟩ => ⟨v', he, ?_, hc.mono fun k hk => .inl hk⟩
    have : addL [] a b = [(a, b)] := by
      unfold addL mOf cLo
      simp
    rw [this]
    exact ho
  · obtain ⟨g, cap, rfl, hg⟩ := own_some h h0
    have hbl : ∀ k, (k = g ∨ w.heap.size ≤ k) → (some k = (Value.slice (some ⟨g, 0, none⟩) l.length cap).ownBlock ∨ w.heap.size ≤ k) := fun k hk => hk.imp (fun e => by rw [e]; rfl) id
    by_cases hend : mOf l a = l.length
    · have hamin : a ≠ -9223372036854775808 := fun e => by unfold mOf at hend; rw [if_pos e] at hend; omega
      have hcl : cLo l a = l.length := by unfold mOf at hend; rwa [if_neg hamin] at hend
      refine (add_end base cap ⟨g, 0, none⟩ a b l w h hbase h0 hl (by omega) (by omega) (hR.lo a) hcl).mono fun e w' ⟨v', he, ho, hc⟩ => ⟨v', he, ?_, hc.mono hbl⟩
      unfold addL
      rw [if_pos hend, List.length_append]
      exact ho
    · have hml : mOf l a < l.length := by
        have : mOf l a ≤ l.length := by unfold mOf; split; · omega
                                        · exact cLo_le l a
        omega
      have ha : (a = -9223372036854775808 ∧ mOf l a = 0) ∨ (-9223372036854775808 < a ∧ cLo l a = mOf l a) := by
        unfold mOf
        split
        · exact .inl ⟨‹_›, rfl⟩
        · exact .inr ⟨by omega, rfl⟩
      unfold addL
      rw [if_neg hend]
      have hkl := cHi_le l b (mOf l a)
      by_cases hk : cHi l b (mOf l a) = 0
      · rw [if_pos hk]
        have hlen : (l.take (mOf l a) ++ ([(a, b)] ++ l.drop (mOf l a))).length = l.length + 1 := by simp; omega
        rw [hlen]
        rcases Nat.eq_zero_or_pos (mOf l a) with hm | hm
        · refine (add_front base cap (mOf l a) 0 ⟨g, 0, none⟩ a b l w h hbase hml hl ha (by omega) (by omega) hb1 (hR.lo a) (hR.hi b _) hk rfl hm).mono fun e w' ⟨v', he, ho, hc⟩ => ⟨v', he, ?_, hc.mono hbl⟩
          rw [hm]
          exact ho
        · exact (add_mid base cap (mOf l a) 0 ⟨g, 0, none⟩ a b l w h hbase hml hl ha (by omega) (by omega) hb1 (hR.lo a) (hR.hi b _) hk rfl hm).mono fun e w' ⟨v', he, ho, hc⟩ => ⟨v', he, ho, hc.mono hbl⟩
      · rw [if_neg hk]
        have hlen : (l.take (mOf l a) ++ ([(min a (l.getD (mOf l a) (0, 0)).1, max b (l.getD (mOf l a + cHi l b (mOf l a) - 1) (0, 0)).2)] ++ l.drop (mOf l a + cHi l b (mOf l a)))).length = l.length + 1 - cHi l b (mOf l a) := by simp; omega
        rw [hlen]
        exact (add_merge base cap (mOf l a) _ ⟨g, 0, none⟩ a b l w h hbase hml hl ha (by omega) (by omega) hb1 (hR.lo a) (hR.hi b _) rfl (by omega)).mono fun e w' ⟨v', he, ho, hc⟩ => ⟨v', he, ho, hc.mono hbl⟩
end Go.Proofs.YtkbkggamfkadnaaGreatDoor
namespace Go.Proofs.YtkbkggamfkadnaaGreatDoor
set_option linter.unusedSimpArgs false
set_option linter.unusedVariables false

def coverL : List (Int × Int) → Int → Int → List (Int × Int)
  | [], a, b => [(a, b)]
  | y :: l, a, b => if y.2 < a - 1 then y :: coverL l a b else if b + 1 < y.1 then (a, b) :: y :: l else coverL l (min a y.1) (max b y.2)

def mR : List (Int × Int) → Int → Nat
  | [], _ => 0
  | y :: l, a => if y.2 < a - 1 then mR l a + 1 else 0
def kR : List (Int × Int) → Int → Nat
  | [], _ => 0
  | y :: l, b => if b + 1 < y.1 then 0 else kR l b + 1

theorem countP_getD {α : Type} (d : α) (f : α → Bool) : ∀ l : List α, (List.range l.length).countP (fun i => f (l.getD i d)) = l.countP f
  | [] => rfl
  | x :: l => by
    rw [List.length_cons, List.range_succ_eq_map, List.countP_cons, List.countP_map, List.countP_cons]
    have := countP_getD d f l
    rw [← this]
    rfl
theorem cLo_eq (l : List (Int × Int)) (a : Int) : cLo l a = l.countP fun y => decide (y.2 < a - 1) := by
  rw [← countP_getD (0, 0)]
  unfold cLo pLo
  congr 1
  funext i
  rw [Bool.eq_iff_iff]
  simp
theorem cHi_eq (l : List (Int × Int)) (b : Int) (m : Nat) : cHi l b m = (l.drop m).countP fun y => !decide (b + 1 < y.1) := by
  rw [← countP_getD (0, 0)]
  unfold cHi pHi
  rw [List.length_drop]
  congr 1
  funext i
  simp [List.getD_eq_getElem?_getD]
theorem mR_eq : ∀ {l : List (Int × Int)}, Rise l → ∀ a, (l.countP fun y => decide (y.2 < a - 1)) = mR l a
  | [], _, _ => rfl
  | y :: l, h, a => by
    rw [List.countP_cons, mR]
    by_cases hy : y.2 < a - 1
    · rw [if_pos hy, mR_eq h.2.2.2.2 a]
      simp [hy]
    · rw [if_neg hy]
      have : (l.countP fun y => decide (y.2 < a - 1)) = 0 := by
        rw [List.countP_eq_zero]
        intro z hz
        have h1 := h.2.2.2.1 z hz
        obtain ⟨i, hi, rfl⟩ := List.getElem_of_mem hz
        have h2 := (h.2.2.2.2.at_ i hi).1
        simp
        omega
      rw [this]
      simp [hy]
theorem kR_eq : ∀ {l : List (Int × Int)}, Rise l → ∀ b, (l.countP fun y => !decide (b + 1 < y.1)) = kR l b
  | [], _, _ => rfl
  | y :: l, h, b => by
    rw [List.countP_cons, kR]
    by_cases hy : b + 1 < y.1
    · rw [if_pos hy]
      have : (l.countP fun y => !decide (b + 1 < y.1)) = 0 := by
        rw [List.countP_eq_zero]
        intro z hz
        have h1 := h.2.2.2.1 z hz
        have h2 := h.1
        simp
        omega
      rw [this]
      simp [hy]
    · rw [if_neg hy, kR_eq h.2.2.2.2 b]
      simp [hy]
theorem Rise.drop : ∀ {l : List (Int × Int)}, Rise l → ∀ m, Rise (l.drop m)
  | [], _, m => by simp [Rise]
  | x :: l, h, 0 => h
  | x :: l, h, m + 1 => Rise.drop h.2.2.2.2 m
theorem mOf_eq {l : List (Int × Int)} (h : Rise l) (a : Int) : mOf l a = mR l a := by
  unfold mOf
  split
  · rename_i e
    subst e
    cases l with
    | nil => rfl
    | cons y l =>
      rw [mR, if_neg]
      have := h.1
      have := h.2.1
      omega
  · rw [cLo_eq, mR_eq h]
theorem cHi_kR {l : List (Int × Int)} (h : Rise l) (b : Int) (m : Nat) : cHi l b m = kR (l.drop m) b := by rw [cHi_eq, kR_eq (h.drop m)]

/-- joined with the first ones -/
theorem cover_join : ∀ (l : List (Int × Int)) (a b : Int), Rise l → (∀ y ∈ l, a - 1 ≤ y.2) → a ≤ b →
    coverL l a b = if kR l b = 0 then (a, b) :: l else (min a (l.getD 0 (0, 0)).1, max b (l.getD (kR l b - 1) (0, 0)).2) :: l.drop (kR l b)
  | [], a, b, _, _, _ => by simp [coverL, kR]
  | y :: l, a, b, h, hy, hab => by
    have h0 := hy y (by simp)
    rw [coverL, if_neg (by omega), kR]
    by_cases hb : b + 1 < y.1
    · rw [if_pos hb, if_pos hb]
      simp
    · rw [if_neg hb, if_neg hb, if_neg (by omega)]
      have hyy := h.1
      have ih := cover_join l (min a y.1) (max b y.2) h.2.2.2.2 (fun z hz => by
        have h1 := h.2.2.2.1 z hz
        obtain ⟨i, hi, rfl⟩ := List.getElem_of_mem hz
        have h2 := (h.2.2.2.2.at_ i hi).1
        omega) (by omega)
      rw [ih]
      have hk : kR l (max b y.2) = kR l b := by
        cases l with
        | nil => rfl
        | cons z l =>
          have h1 := h.2.2.2.1 z (by simp)
          by_cases hz : b + 1 < z.1
          · rw [kR, kR, if_pos hz, if_pos (by omega)]
          · have : max b y.2 = b := by omega
            rw [this]
      rw [hk]
      cases hkr : kR l b with
      | zero => simp
      | succ k =>
        rw [if_neg (by omega)]
        have hkl : k < l.length := by
          have : kR l b ≤ l.length := by
            rw [← kR_eq h.2.2.2.2]
            exact List.countP_le_length
          omega
        have e1 : k + 1 + 1 - 1 = k + 1 := by omega
        have e2 : k + 1 - 1 = k := by omega
        rw [e1, e2]
        simp only [List.getD_cons_zero, List.getD_cons_succ, List.drop_succ_cons]
        congr 1
        have h3 := h.2.2.2.1 _ (List.getElem_mem (show 0 < l.length by omega))
        rw [getD_at (show 0 < l.length by omega), getD_at hkl]
        have h4 := h.2.2.2.1 _ (List.getElem_mem hkl)
        have h5 := (h.2.2.2.2.at_ k hkl).1
        congr 1 <;> omega
theorem addL_cover : ∀ (l : List (Int × Int)) (a b : Int), Rise l → a ≤ b → addL l a b = coverL l a b := by
  intro l a b h hab
  unfold addL
  rw [mOf_eq h, cHi_kR h]
  induction l with
  | nil => simp [mR, coverL]
  | cons y l ih =>
    by_cases hy : y.2 < a - 1
    · have := ih h.2.2.2.2
      rw [coverL, if_pos hy, ← this]
      have em : mR (y :: l) a = mR l a + 1 := by rw [mR, if_pos hy]
      rw [em]
      simp only [List.length_cons, Nat.add_right_cancel_iff, List.drop_succ_cons, List.take_succ_cons, List.getD_cons_succ]
      split
      · simp
      · split
        · simp
        · rename_i hk
          have e1 : mR l a + 1 + kR (l.drop (mR l a)) b - 1 = mR l a + kR (l.drop (mR l a)) b - 1 + 1 := by omega
          have e2 : mR l a + 1 + kR (l.drop (mR l a)) b = mR l a + kR (l.drop (mR l a)) b + 1 := by omega
          rw [e1, e2]
          simp
    · have em : mR (y :: l) a = 0 := by rw [mR, if_neg hy]
      rw [em, if_neg (by simp), cover_join (y :: l) a b h (fun z hz => by
        rcases List.mem_cons.1 hz with rfl | hz
        · omega
        · have h1 := h.2.2.2.1 z hz
          obtain ⟨i, hi, rfl⟩ := List.getElem_of_mem hz
          have h2 := (h.2.2.2.2.at_ i hi).1
          have h0 := h.1
          omega) hab]
      simp only [List.drop_zero, List.take_zero, List.nil_append, Nat.zero_add, List.singleton_append]
/-- and these rise, too -/
theorem cover_above : ∀ (l : List (Int × Int)) (a b c : Int), c < a → (∀ y ∈ l, c < y.1) → ∀ z ∈ coverL l a b, c < z.1
  | [], a, b, c, ha, _, z, hz => by
    simp [coverL] at hz
    subst hz
    exact ha
  | y :: l, a, b, c, ha, hy, z, hz => by
    have h0 := hy y (by simp)
    have hy' : ∀ y ∈ l, c < y.1 := fun y h => hy y (by simp [h])
    rw [coverL] at hz
    split at hz
    · rcases List.mem_cons.1 hz with rfl | hz
      · exact h0
      · exact cover_above l a b c ha hy' z hz
    · split at hz
      · rcases List.mem_cons.1 hz with rfl | hz
        · exact ha
        · exact hy z hz
      · exact cover_above l _ _ c (by omega) hy' z hz
theorem cover_rise : ∀ (l : List (Int × Int)) (a b : Int), Rise l → a ≤ b → -9223372036854775808 ≤ a → b < 9223372036854775807 → Rise (coverL l a b)
  | [], a, b, _, hab, ha, hb => by
    simp [coverL, Rise]
    omega
  | y :: l, a, b, h, hab, ha, hb => by
    have h1 := h.1
    have h2 := h.2.1
    have h3 := h.2.2.1
    have h4 := h.2.2.2.1
    rw [coverL]
    split
    · exact ⟨h1, h2, h3, fun z hz => cover_above l a b _ (by omega) h4 z hz, cover_rise l a b h.2.2.2.2 hab ha hb⟩
    · split
      · refine ⟨hab, ha, hb, fun z hz => ?_, h⟩
        rcases List.mem_cons.1 hz with rfl | hz
        · assumption
        · have := h4 z hz
          show b + 1 < z.1
          omega
      · exact cover_rise l _ _ h.2.2.2.2 (by omega) (by omega) (by omega)
theorem cover_len : ∀ (l : List (Int × Int)) (a b : Int), (coverL l a b).length ≤ l.length + 1
  | [], a, b => by simp [coverL]
  | y :: l, a, b => by
    rw [coverL]
    split
    · simp only [List.length_cons]; have := cover_len l a b; omega
    · split
      · simp
      · have := cover_len l (min a y.1) (max b y.2); simp only [List.length_cons]; omega

/-- one behind the other -/
def covers (l : List (Int × Int)) : List (Int × Int) := l.foldl (fun acc x => coverL acc x.1 x.2) []
def RealL (l : List (Int × Int)) : Prop := ∀ x ∈ l, x.1 ≤ x.2 ∧ -9223372036854775808 ≤ x.1 ∧ x.2 < 9223372036854775807
theorem covers_snoc (l : List (Int × Int)) (x : Int × Int) : covers (l ++ [x]) = coverL (covers l) x.1 x.2 := by simp [covers]
theorem covers_rise (l : List (Int × Int)) (h : RealL l) : Rise (covers l) ∧ (covers l).length ≤ l.length := by
  have : ∀ n, n ≤ l.length → Rise (covers (l.take n)) ∧ (covers (l.take n)).length ≤ n := by
    intro n
    induction n with
    | zero => intro _; simp [covers, Rise]
    | succ n ih =>
      intro hn
      obtain ⟨h1, h2⟩ := ih (by omega)
      rw [take_next (show n < l.length by omega), covers_snoc]
      obtain ⟨g1, g2, g3⟩ := h _ (List.getElem_mem (show n < l.length by omega))
      refine ⟨cover_rise _ _ _ h1 g1 g2 g3, ?_⟩
      have := cover_len (covers (l.take n)) l[n].1 l[n].2
      omega
  have h0 := this l.length (Nat.le_refl _)
  rwa [List.take_length] at h0
end Go.Proofs.YtkbkggamfkadnaaGreatDoor
