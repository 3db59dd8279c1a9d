/-
  Buckets whose counts are made one where they mean the same: nearBits, filled, near.
-/
import Derived.Test.YtbgkoapnejnfbaaDoorFH
import Derived.Test.YtbgkoapnejnfbaaDoorCounts
namespace Go.Proofs.YtbgkoapnejnfbaaDoor
set_option linter.unusedSimpArgs false
set_option linter.unusedVariables false
open Go.RowKit
attribute [local go_sem ↓] Go.wp_at_zero Go.wp_at_succ

def nbI (x : Int) : Int := ((nb x.toNat : Nat) : Int)
def nbp (x : Int × Int) : Int × Int := (x.1, nbI x.2)
def fill (l : List (Int × Int)) : List (Int × Int) := l.filter fun x => x.2 != 0

theorem nearBits_any (x : Nat) (w : World) : Calls Tryd.prog 50 #[.int .u64 x] w fun e w' => e = .returned (.int .u64 ((nb x : Nat) : Int)) ∧ w = w' := by
  go_enter Tryd.func50, Tryd.ntmps50
  by_cases h : x = 9223372036854775808
  · subst h
    go_wp2
    go_ret
    exact ⟨eqn (by unfold nb; rw [if_pos rfl]; rfl), rfl⟩
  · have h' : ¬ ((x : Int) = 9223372036854775808) := by omega
    cases hn : isNaN x with
    | false =>
      go_wp2_with (first | (go_at_call 37; refine (flt_bits _ _).mono ?_; rintro e w' ⟨rfl, rfl⟩) | (go_at_call 77; refine (isNaN_eq _ false _ hn).mono ?_; rintro e w' ⟨rfl, rfl⟩) | fail)
      go_ret
      exact ⟨eqn (by unfold nb; rw [if_neg h, if_neg (by rw [hn]; decide)]), rfl⟩
    | true =>
      go_wp2_with (first | (go_at_call 37; refine (flt_bits _ _).mono ?_; rintro e w' ⟨rfl, rfl⟩) | (go_at_call 77; refine (isNaN_eq _ true _ hn).mono ?_; rintro e w' ⟨rfl, rfl⟩) | fail)
      go_ret
      exact ⟨eqn (by unfold nb; rw [if_neg h, if_pos hn]; rfl), rfl⟩

set_option maxRecDepth 100000 in
set_option maxHeartbeats 2000000 in
theorem filled_any (v : Value) (l : List (Int × Int)) (B : Nat) (w : World) (h : Pairs w B .i64 .u64 v l) (hl : l.length ≤ 2147483647) :
    Calls Tryd.prog 92 #[v] w fun e w' => ∃ v', e = .returned v' ∧ w'.ownsRow w.heap.size 66 2 v' (fill l).length (flat .i64 .u64 (fill l)) ∧ Below w.heap.size w w' := by
  obtain ⟨i0, hi, hz0, hz1, hz2⟩ := info_parts infoBucket
  obtain ⟨ao, cap, rfl, h1, h2⟩ := h.form
  have hE := ownsRow_empty w 66 2
  have hB0 : Below w.heap.size w (w.alloc (.cells #[] 66)) := (Below.refl w.heap.size w).alloc (Nat.le_refl _) _
  go_enter Tryd.func92, Tryd.ntmps92
  go_wp2_with fail
  generalize hW : w.alloc _ = W at *
  clear hW
  go_loopw [3, 4] (fun v i wr => ∃ k : Nat, k ≤ l.length ∧ i = .int .i64 k ∧ wr.ownsRow w.heap.size 66 2 v (fill (l.take k)).length (flat .i64 .u64 (fill (l.take k))) ∧ Below w.heap.size w wr) (fun _ i _ => l.length - (intOf i).toNat)
  case atStart => exact ⟨0, Nat.zero_le _, rfl, hE, hB0⟩
  case round => as_aux_lemma =>
    obtain ⟨k, hk, rfl, hown, hbel⟩ := hrel
    by_cases hlt : k < l.length
    · obtain ⟨b, off, rfl, hbB, hBw, hc⟩ := h.at_ (by omega)
      obtain ⟨c0, c1⟩ := hc k hlt
      have c0' := (hbel.cell (p := ⟨b, off + k * 2, none⟩) (show b < w.heap.size by omega)).trans c0
      have c1' := (hbel.cell (p := ⟨b, off + k * 2 + 1, none⟩) (show b < w.heap.size by omega)).trans c1
      have hfl : (fill (l.take k)).length ≤ k := Nat.le_trans (List.length_filter_le _ _) (by rw [List.length_take]; omega)
      clear c0 c1 hc
      generalize hx : l[k] = x at *
      obtain ⟨x0, x1⟩ := x
      have ht : l.take (k + 1) = l.take k ++ [(x0, x1)] := by rw [List.take_succ_eq_append_getElem hlt, hx]
      by_cases hz : x1 = 0
      · have hf : fill (l.take (k + 1)) = fill (l.take k) := by rw [ht]; unfold fill; rw [List.filter_append]; simp [hz]
        have HT := Lib.hid hf
        subst hz
        clear ht hf hx h
        go_wp2_with fail
        go_roundw
        case rel => exact ⟨k + 1, by omega, by simp, by rw [HT.out]; exact hown, hbel⟩
        case measure => simp [intOf]; omega
      · have hf : fill (l.take (k + 1)) = fill (l.take k) ++ [(x0, x1)] := by rw [ht]; unfold fill; rw [List.filter_append]; simp [hz]
        have hg : flat .i64 .u64 (fill (l.take (k + 1))) = flat .i64 .u64 (fill (l.take k)) ++ [.int .i64 x0, .int .u64 x1] := by rw [hf, flat_append]; rfl
        have hn : (fill (l.take (k + 1))).length = (fill (l.take k)).length + 1 := by rw [hf, List.length_append]; rfl
        have HG := Lib.hid hg
        have HN := Lib.hid hn
        generalize fill (l.take k) = m at *
        clear ht hf hg hn hx h
        go_wp2_with (at_builtin; refine wpList_append_own _ rfl (.tmp 18) (.tmp 23) 53 rfl w.heap.size 66 i0 (.agg #[.int .i64 0, .int .u64 0]) 2 16 Tryd.underlying53 hi hz0 hz1 hz2 rfl (by decide) u3 m.length _ rfl (hown.alloc _) ⟨wr.heap.size, 0, none⟩ 1 1 [.int .i64 x0, .int .u64 x1] rfl rfl (news_at wr _ rfl _ _) (one2 _ _ _ _) (by unfold maxLen; omega) (by omega) (by have := hbel.size; simp; omega) ?_; intro v' w1 hown' hgrow hnil')
        have hb1 : Below w.heap.size w w1 := (hbel.alloc hbel.size _).grown hgrow (by have := hbel.size; simp; omega) (fun q hq => (hown.lt q hq).1)
        rw [← HG.out, ← HN.out] at hown'
        clear hgrow hnil' hown hbel
        go_wp2_with fail
        go_roundw
        case rel => exact ⟨k + 1, by omega, by simp, hown', hb1⟩
        case measure => simp [intOf]; omega
    · have hkl : k = l.length := by omega
      subst hkl
      rw [List.take_length] at hown
      go_wp2_with fail
      go_ret
      exact ⟨_, rfl, hown, hbel⟩

theorem flat_set (j k : IntKind) (u : Int) : ∀ (l : List (Int × Int)) (i : Nat) (x0 x1 : Int), l[i]? = some (x0, x1) → flat j k (l.set i (x0, u)) = (flat j k l).set (i * 2 + 1) (.int k u)
  | [], i, _, _, h => by simp at h
  | y :: l, 0, x0, x1, h => by
    simp only [List.getElem?_cons_zero, Option.some.injEq] at h
    subst h
    rfl
  | y :: l, i + 1, x0, x1, h => by
    simp only [List.getElem?_cons_succ] at h
    have ih := flat_set j k u l i x0 x1 h
    have e : (i + 1) * 2 + 1 = (i * 2 + 1) + 1 + 1 := by omega
    show [Value.int j y.1, .int k y.2] ++ flat j k (l.set i (x0, u)) = ([Value.int j y.1, .int k y.2] ++ flat j k l).set ((i + 1) * 2 + 1) (.int k u)
    rw [ih, e]
    rfl

/-- a bucket of a row that the call owns: its count, and a store to it -/
theorem own_bucket {w : World} {lo hi n n' cap : Nat} {ao : Option Addr} {l : List (Int × Int)} (o : OwnIn w lo hi 66 2 (.slice ao n' cap) n (flat .i64 .u64 l)) {k : Nat} {x0 x1 : Int} (h : l[k]? = some (x0, x1)) :
    ∃ g, ao = some ⟨g, 0, none⟩ ∧ lo ≤ g ∧ g < hi ∧ w.cell? ⟨g, k * 2 + 1, none⟩ = some (.int .u64 x1) ∧ w.frozen? ⟨g, k * 2 + 1, none⟩ = false ∧
      ∀ u : Int, OwnIn (w.setCell ⟨g, k * 2 + 1, none⟩ (.int .u64 u)) lo hi 66 2 (.slice ao n' cap) n (flat .i64 .u64 (l.set k (x0, u))) := by
  have hk := (List.getElem?_eq_some_iff.1 h).1
  have hx : l[k] = (x0, x1) := (List.getElem?_eq_some_iff.1 h).2
  obtain ⟨hl1, ⟨h2, h3⟩ | ⟨g, cap', cur, e', k1, k2, k3, k4, k5, k6⟩⟩ := id o.own
  · rw [length_flat] at hl1; omega
  · cases e'
    have hp := (Pairs.own o.own : Pairs w w.heap.size .i64 .u64 _ l)
    obtain ⟨bb, off, e, _, _, hc⟩ := hp.at_ (by omega)
    cases e
    have hc := (hc k hk).2
    rw [hx, Nat.zero_add] at hc
    refine ⟨g, rfl, k1, o.top g rfl, hc, own_frozen o.own _, fun u => ⟨o.le, ?_, o.top⟩⟩
    rw [flat_set _ _ u l k x0 x1 h]
    exact own_set o.own _ _

theorem near_at (A : List (Int × Int)) (k : Nat) (hk : k < A.length) : ((A.take k).map nbp ++ A.drop k)[k]? = some A[k] := by
  rw [List.getElem?_append_right (by simp; omega)]
  simp [Nat.min_eq_left (Nat.le_of_lt hk), hk]
theorem near_step (A : List (Int × Int)) (k : Nat) (hk : k < A.length) (x0 : Int) (c : Nat) (hc : A[k] = (x0, (c : Int))) : ((A.take k).map nbp ++ A.drop k).set k (x0, ((nb c : Nat) : Int)) = (A.take (k + 1)).map nbp ++ A.drop (k + 1) := by
  rw [List.set_append_right _ _ (by simp; omega), List.take_succ_eq_append_getElem hk, List.map_append, List.append_assoc, List.drop_eq_getElem_cons hk]
  simp [Nat.min_eq_left (Nat.le_of_lt hk), hc, nbp, nbI]

set_option maxRecDepth 100000 in
set_option maxHeartbeats 8000000 in
theorem near_any (v1 v2 v3 v4 v5 v6 v7 : Value) (h : Hist) (w : World) (ha : HistAt w w.heap.size v1 v2 v3 v4 v5 v6 v7 h) (hf : Fits h) (hw : Wf h) (hu : ∀ x ∈ ups true h, 0 ≤ x.2) (hd : ∀ x ∈ downs true h, 0 ≤ x.2) :
    Calls Tryd.prog 49 #[.agg (histCells h v1 v2 v3 v4 v5 v6 v7)] w fun e w' => ∃ a1 n1 c1 a2 n2 c2 s, e = .returned (.tuple #[.slice a1 n1 c1, .slice a2 n2 c2]) ∧
      OwnIn w' w.heap.size s 66 2 (.slice a1 n1 c1) (fill ((ups true h).map nbp)).length (flat .i64 .u64 (fill ((ups true h).map nbp))) ∧
      OwnIn w' s w'.heap.size 66 2 (.slice a2 n2 c2) (fill ((downs true h).map nbp)).length (flat .i64 .u64 (fill ((downs true h).map nbp))) ∧ Below w.heap.size w w' := by
  unfold histCells
  have hB0 : Below w.heap.size w (w.alloc (.cells #[.int .u8 h.hint, .int .i32 h.schema, .int .u64 h.thr, .int .u64 h.sum, .int .u64 h.zc, .int .u64 h.cnt, v1, v2, v3, v4, v5, v6, v7] 27)) := (Below.refl w.heap.size w).alloc (Nat.le_refl _) _
  have hlA : (ups true h).length ≤ 2147483647 := Nat.le_trans (bkts_len true h.pos h.ups h.fups) hf.fups
  have hlB : (downs true h).length ≤ 2147483647 := Nat.le_trans (bkts_len true h.neg h.downs h.fdowns) hf.fdowns
  have hca := cells_of_block (heap_alloc_new w (.cells #[.int .u8 h.hint, .int .i32 h.schema, .int .u64 h.thr, .int .u64 h.sum, .int .u64 h.zc, .int .u64 h.cnt, v1, v2, v3, v4, v5, v6, v7] 27))
  have qa : (w.alloc (.cells #[.int .u8 h.hint, .int .i32 h.schema, .int .u64 h.thr, .int .u64 h.sum, .int .u64 h.zc, .int .u64 h.cnt, v1, v2, v3, v4, v5, v6, v7] 27)).cell? ⟨w.heap.size, 0, none⟩ = some (.int .u8 h.hint) ∧ (w.alloc (.cells #[.int .u8 h.hint, .int .i32 h.schema, .int .u64 h.thr, .int .u64 h.sum, .int .u64 h.zc, .int .u64 h.cnt, v1, v2, v3, v4, v5, v6, v7] 27)).cell? ⟨w.heap.size, 1, none⟩ = some (.int .i32 h.schema) ∧ (w.alloc (.cells #[.int .u8 h.hint, .int .i32 h.schema, .int .u64 h.thr, .int .u64 h.sum, .int .u64 h.zc, .int .u64 h.cnt, v1, v2, v3, v4, v5, v6, v7] 27)).cell? ⟨w.heap.size, 2, none⟩ = some (.int .u64 h.thr) ∧ (w.alloc (.cells #[.int .u8 h.hint, .int .i32 h.schema, .int .u64 h.thr, .int .u64 h.sum, .int .u64 h.zc, .int .u64 h.cnt, v1, v2, v3, v4, v5, v6, v7] 27)).cell? ⟨w.heap.size, 3, none⟩ = some (.int .u64 h.sum) ∧ (w.alloc (.cells #[.int .u8 h.hint, .int .i32 h.schema, .int .u64 h.thr, .int .u64 h.sum, .int .u64 h.zc, .int .u64 h.cnt, v1, v2, v3, v4, v5, v6, v7] 27)).cell? ⟨w.heap.size, 4, none⟩ = some (.int .u64 h.zc) ∧ (w.alloc (.cells #[.int .u8 h.hint, .int .i32 h.schema, .int .u64 h.thr, .int .u64 h.sum, .int .u64 h.zc, .int .u64 h.cnt, v1, v2, v3, v4, v5, v6, v7] 27)).cell? ⟨w.heap.size, 5, none⟩ = some (.int .u64 h.cnt) ∧ (w.alloc (.cells #[.int .u8 h.hint, .int .i32 h.schema, .int .u64 h.thr, .int .u64 h.sum, .int .u64 h.zc, .int .u64 h.cnt, v1, v2, v3, v4, v5, v6, v7] 27)).cell? ⟨w.heap.size, 6, none⟩ = some (v1) ∧ (w.alloc (.cells #[.int .u8 h.hint, .int .i32 h.schema, .int .u64 h.thr, .int .u64 h.sum, .int .u64 h.zc, .int .u64 h.cnt, v1, v2, v3, v4, v5, v6, v7] 27)).cell? ⟨w.heap.size, 7, none⟩ = some (v2) ∧ (w.alloc (.cells #[.int .u8 h.hint, .int .i32 h.schema, .int .u64 h.thr, .int .u64 h.sum, .int .u64 h.zc, .int .u64 h.cnt, v1, v2, v3, v4, v5, v6, v7] 27)).cell? ⟨w.heap.size, 8, none⟩ = some (v3) ∧ (w.alloc (.cells #[.int .u8 h.hint, .int .i32 h.schema, .int .u64 h.thr, .int .u64 h.sum, .int .u64 h.zc, .int .u64 h.cnt, v1, v2, v3, v4, v5, v6, v7] 27)).cell? ⟨w.heap.size, 9, none⟩ = some (v4) ∧ (w.alloc (.cells #[.int .u8 h.hint, .int .i32 h.schema, .int .u64 h.thr, .int .u64 h.sum, .int .u64 h.zc, .int .u64 h.cnt, v1, v2, v3, v4, v5, v6, v7] 27)).cell? ⟨w.heap.size, 10, none⟩ = some (v5) ∧ (w.alloc (.cells #[.int .u8 h.hint, .int .i32 h.schema, .int .u64 h.thr, .int .u64 h.sum, .int .u64 h.zc, .int .u64 h.cnt, v1, v2, v3, v4, v5, v6, v7] 27)).cell? ⟨w.heap.size, 11, none⟩ = some (v6) ∧ (w.alloc (.cells #[.int .u8 h.hint, .int .i32 h.schema, .int .u64 h.thr, .int .u64 h.sum, .int .u64 h.zc, .int .u64 h.cnt, v1, v2, v3, v4, v5, v6, v7] 27)).cell? ⟨w.heap.size, 12, none⟩ = some (v7) := ⟨hca 0, hca 1, hca 2, hca 3, hca 4, hca 5, hca 6, hca 7, hca 8, hca 9, hca 10, hca 11, hca 12⟩
  have hz : w.heap.size < (w.alloc (.cells #[.int .u8 h.hint, .int .i32 h.schema, .int .u64 h.thr, .int .u64 h.sum, .int .u64 h.zc, .int .u64 h.cnt, v1, v2, v3, v4, v5, v6, v7] 27)).heap.size := by simp
  clear hca
  go_enter Tryd.func49, Tryd.ntmps49
  go_wp2_with fail
  clear qa
  generalize w.alloc _ = W at *
  refine (layout_any true v1 v2 v3 v4 v5 v6 v7 h W ((ha.below hB0 (Nat.le_refl _)).mono hB0.size (Nat.le_refl _)) hf hw).mono ?_
  rintro e w1 ⟨a1, n1, c1, a2, n2, c2, s, rfl, o1, o2, hb1⟩
  have hB1 := hB0.trans (hb1.mono hB0.size)
  have HA : ∃ A, Hid (A = ups true h) := ⟨_, rfl⟩
  obtain ⟨A, HA⟩ := HA
  have HB : ∃ B, Hid (B = downs true h) := ⟨_, rfl⟩
  obtain ⟨B, HB⟩ := HB
  rw [← HA.out] at o1 hu hlA
  rw [← HB.out] at o2 hd hlB
  obtain ⟨_, _, e1, _, _⟩ := (Pairs.own o1.own : Pairs w1 w1.heap.size .i64 .u64 (.slice a1 n1 c1) A).form
  cases e1
  obtain ⟨_, _, e2, _, _⟩ := (Pairs.own o2.own : Pairs w1 w1.heap.size .i64 .u64 (.slice a2 n2 c2) B).form
  cases e2
  have hlo := o1.le
  have hsz := hb1.size
  clear hb1 ha hf hw
  go_wp2_with fail
  go_loopw [6] (fun i wr => ∃ k : Nat, k ≤ A.length ∧ i = .int .i64 k ∧ OwnIn wr W.heap.size s 66 2 (.slice a1 A.length c1) A.length (flat .i64 .u64 ((A.take k).map nbp ++ A.drop k)) ∧ OwnIn wr s w1.heap.size 66 2 (.slice a2 B.length c2) B.length (flat .i64 .u64 (B)) ∧ Below w.heap.size w wr ∧ wr.heap.size = w1.heap.size) (fun i _ => A.length - (intOf i).toNat)
  case atStart => exact ⟨0, Nat.zero_le _, rfl, o1, o2, hB1, rfl⟩
  case round => as_aux_lemma =>
    obtain ⟨k, hk, rfl, o1, o2, hbel, hsz1⟩ := hrel
    by_cases hlt : k < A.length
    · obtain ⟨x0, c, hxc⟩ : ∃ (x0 : Int) (c : Nat), A[k] = (x0, (c : Int)) := ⟨A[k].1, A[k].2.toNat, by rw [Int.toNat_of_nonneg (hu _ (List.getElem_mem hlt))]⟩
      obtain ⟨g, rfl, hg1, hg2, hce, hfr, hset⟩ := own_bucket o1 (k := k) (x0 := x0) (x1 := (c : Int)) (by rw [near_at _ _ hlt, hxc])
      have hset' := hset ((nb c : Nat) : Int)
      rw [near_step _ _ hlt x0 c hxc] at hset'
      have hot := OwnIn.above o2 (a := ⟨g, k * 2 + 1, none⟩) (show g < s by omega) (.int .u64 ((nb c : Nat) : Int))
      have HS := Lib.hid hset'
      have HO := Lib.hid hot
      have hce2 : wr.cell? ⟨g, 0 + k * 2 + 1, none⟩ = some (.int .u64 (c : Int)) := by rw [Nat.zero_add]; exact hce
      have hfr2 : wr.frozen? ⟨g, 0 + k * 2 + 1, none⟩ = false := by rw [Nat.zero_add]; exact hfr
      have hbs : Below w.heap.size w (wr.setCell ⟨g, k * 2 + 1, none⟩ (.int .u64 ((nb c : Nat) : Int))) := hbel.setCell (by show w.heap.size ≤ g; omega) _
      have i0 : (0 : Int) ≤ (k : Int) := by omega
      have i1 : (k : Int) < (A.length : Int) := by omega
      clear hset hset' hot o1 o2 hxc
      go_wp2_with (first | (go_at_call 50; refine (nearBits_any _ _).mono ?_; rintro e w' ⟨rfl, rfl⟩) | fail)
      go_roundw
      case rel => exact ⟨k + 1, by omega, by simp, HS.out, HO.out, hbs, (size_set _ _ _).trans hsz1⟩
      case measure => simp [intOf]; omega
    · obtain rfl : k = A.length := by omega
      rw [List.take_length, List.drop_length, List.append_nil] at o1
      have hkn : ¬ ((A.length : Int) < (A.length : Int)) := by omega
      go_wp2_with fail
      go_loopw [7] (fun i wr => ∃ k : Nat, k ≤ B.length ∧ i = .int .i64 k ∧ OwnIn wr W.heap.size s 66 2 (.slice a1 A.length c1) A.length (flat .i64 .u64 (A.map nbp)) ∧ OwnIn wr s w1.heap.size 66 2 (.slice a2 B.length c2) B.length (flat .i64 .u64 ((B.take k).map nbp ++ B.drop k)) ∧ Below w.heap.size w wr ∧ wr.heap.size = w1.heap.size) (fun i _ => B.length - (intOf i).toNat)
      case atStart => exact ⟨0, Nat.zero_le _, rfl, o1, o2, hbel, hsz1⟩
      case round => as_aux_lemma =>
        obtain ⟨k, hk, rfl, o1, o2, hbel, hsz1⟩ := hrel
        by_cases hlt : k < B.length
        · obtain ⟨x0, c, hxc⟩ : ∃ (x0 : Int) (c : Nat), B[k] = (x0, (c : Int)) := ⟨B[k].1, B[k].2.toNat, by rw [Int.toNat_of_nonneg (hd _ (List.getElem_mem hlt))]⟩
          obtain ⟨g, rfl, hg1, hg2, hce, hfr, hset⟩ := own_bucket o2 (k := k) (x0 := x0) (x1 := (c : Int)) (by rw [near_at _ _ hlt, hxc])
          have hset' := hset ((nb c : Nat) : Int)
          rw [near_step _ _ hlt x0 c hxc] at hset'
          have hot := OwnIn.under o1 (a := ⟨g, k * 2 + 1, none⟩) (show s ≤ g by omega) (.int .u64 ((nb c : Nat) : Int))
          have HS := Lib.hid hset'
          have HO := Lib.hid hot
          have hce2 : wr.cell? ⟨g, 0 + k * 2 + 1, none⟩ = some (.int .u64 (c : Int)) := by rw [Nat.zero_add]; exact hce
          have hfr2 : wr.frozen? ⟨g, 0 + k * 2 + 1, none⟩ = false := by rw [Nat.zero_add]; exact hfr
          have hbs : Below w.heap.size w (wr.setCell ⟨g, k * 2 + 1, none⟩ (.int .u64 ((nb c : Nat) : Int))) := hbel.setCell (by show w.heap.size ≤ g; omega) _
          have i0 : (0 : Int) ≤ (k : Int) := by omega
          have i1 : (k : Int) < (B.length : Int) := by omega
          clear hset hset' hot o1 o2 hxc
          go_wp2_with (first | (go_at_call 50; refine (nearBits_any _ _).mono ?_; rintro e w' ⟨rfl, rfl⟩) | fail)
          go_roundw
          case rel => exact ⟨k + 1, by omega, by simp, HO.out, HS.out, hbs, (size_set _ _ _).trans hsz1⟩
          case measure => simp [intOf]; omega
        · obtain rfl : k = B.length := by omega
          rw [List.take_length, List.drop_length, List.append_nil] at o2
          have hkn : ¬ ((B.length : Int) < (B.length : Int)) := by omega
          go_wp2_with fail
          refine (filled_any _ (A.map nbp) wr.heap.size wr (Pairs.own o1.own) (by rw [List.length_map]; exact hlA)).mono ?_
          rintro e w2 ⟨y1, rfl, ho1, hb2⟩
          have hB2 := hbel.trans (hb2.mono hbel.size)
          have hz2 := hb2.size
          have p1 := OwnIn.made ho1 hz2
          obtain ⟨a1', c1', rfl⟩ := own_form ho1
          have o2' := o2.below hb2 (by omega)
          go_wp2_with fail
          refine (filled_any _ (B.map nbp) w2.heap.size w2 (Pairs.own o2'.own) (by rw [List.length_map]; exact hlB)).mono ?_
          rintro e w3 ⟨y2, rfl, ho2, hb3⟩
          have hB3 := hB2.trans (hb3.mono hB2.size)
          have p2 := OwnIn.made ho2 hb3.size
          obtain ⟨a2', c2', rfl⟩ := own_form ho2
          replace p1 := (p1.below hb3 (Nat.le_refl _)).lower (lo' := w.heap.size) hbel.size
          go_wp2_with fail
          go_ret2
          rw [← HA.out, ← HB.out]
          exact ⟨_, _, _, _, _, _, _, rfl, p1, p2, hB3⟩

end Go.Proofs.YtbgkoapnejnfbaaDoor
