/-
  Whether the counts of an integer histogram add up: the walk.
-/
import Derived.Test.YtbgkoapnejnfbaaDoorLawV1
import Derived.Test.YtbgkoapnejnfbaaDoorEqual
namespace Go.Proofs.YtbgkoapnejnfbaaDoor
set_option linter.unusedSimpArgs false
set_option linter.unusedVariables false
open Go.RowKit
attribute [local go_sem ↓] Go.wp_at_zero Go.wp_at_succ

theorem flt_bits (x : Nat) (w : World) : Calls Tryd.prog 37 #[.int .u64 x] w fun e w' => e = .returned (.float .f64 x) ∧ w = w' := by
  have hx := run94
  go_enter Tryd.func37, Tryd.ntmps37
  go_wp2
  go_ret
  exact ⟨rfl, rfl⟩

set_option maxRecDepth 100000 in
set_option maxHeartbeats 8000000 in
theorem countsUp_any (v1 v2 v3 v4 v5 v6 v7 : Value) (h : Hist) (w : World) (ha : HistAt w w.heap.size v1 v2 v3 v4 v5 v6 v7 h) (hf : Fits h) (hw : Wf h) :
    Calls Tryd.prog 27 #[.agg (histCells h v1 v2 v3 v4 v5 v6 v7)] w fun e w' => e = .returned (.bool (countsUp h)) ∧ Below w.heap.size w w' := by
  have hcu : countsUp h = if (!(FloatKind.f64.format.order h.sum h.sum == some .eq)) = true then decide (addAll (addAll h.zc (ups false h)) (downs false h) ≤ h.cnt)
    else addAll (addAll h.zc (ups false h)) (downs false h) == (h.cnt : Int) := rfl
  rw [hcu]
  clear hcu
  unfold histCells
  have hB0 : Below w.heap.size w (w.alloc (.cells #[.int .u8 h.hint, .int .i32 h.schema, .int .u64 h.thr, .int .u64 h.sum, .int .u64 h.zc, .int .u64 h.cnt, v1, v2, v3, v4, v5, v6, v7] 27)) := (Below.refl w.heap.size w).alloc (Nat.le_refl _) _
  have hca := cells_of_block (heap_alloc_new w (.cells #[.int .u8 h.hint, .int .i32 h.schema, .int .u64 h.thr, .int .u64 h.sum, .int .u64 h.zc, .int .u64 h.cnt, v1, v2, v3, v4, v5, v6, v7] 27))
  have qa : (w.alloc (.cells #[.int .u8 h.hint, .int .i32 h.schema, .int .u64 h.thr, .int .u64 h.sum, .int .u64 h.zc, .int .u64 h.cnt, v1, v2, v3, v4, v5, v6, v7] 27)).cell? ⟨w.heap.size, 0, none⟩ = some (.int .u8 h.hint) ∧ (w.alloc (.cells #[.int .u8 h.hint, .int .i32 h.schema, .int .u64 h.thr, .int .u64 h.sum, .int .u64 h.zc, .int .u64 h.cnt, v1, v2, v3, v4, v5, v6, v7] 27)).cell? ⟨w.heap.size, 1, none⟩ = some (.int .i32 h.schema) ∧ (w.alloc (.cells #[.int .u8 h.hint, .int .i32 h.schema, .int .u64 h.thr, .int .u64 h.sum, .int .u64 h.zc, .int .u64 h.cnt, v1, v2, v3, v4, v5, v6, v7] 27)).cell? ⟨w.heap.size, 2, none⟩ = some (.int .u64 h.thr) ∧ (w.alloc (.cells #[.int .u8 h.hint, .int .i32 h.schema, .int .u64 h.thr, .int .u64 h.sum, .int .u64 h.zc, .int .u64 h.cnt, v1, v2, v3, v4, v5, v6, v7] 27)).cell? ⟨w.heap.size, 3, none⟩ = some (.int .u64 h.sum) ∧ (w.alloc (.cells #[.int .u8 h.hint, .int .i32 h.schema, .int .u64 h.thr, .int .u64 h.sum, .int .u64 h.zc, .int .u64 h.cnt, v1, v2, v3, v4, v5, v6, v7] 27)).cell? ⟨w.heap.size, 4, none⟩ = some (.int .u64 h.zc) ∧ (w.alloc (.cells #[.int .u8 h.hint, .int .i32 h.schema, .int .u64 h.thr, .int .u64 h.sum, .int .u64 h.zc, .int .u64 h.cnt, v1, v2, v3, v4, v5, v6, v7] 27)).cell? ⟨w.heap.size, 5, none⟩ = some (.int .u64 h.cnt) ∧ (w.alloc (.cells #[.int .u8 h.hint, .int .i32 h.schema, .int .u64 h.thr, .int .u64 h.sum, .int .u64 h.zc, .int .u64 h.cnt, v1, v2, v3, v4, v5, v6, v7] 27)).cell? ⟨w.heap.size, 6, none⟩ = some (v1) ∧ (w.alloc (.cells #[.int .u8 h.hint, .int .i32 h.schema, .int .u64 h.thr, .int .u64 h.sum, .int .u64 h.zc, .int .u64 h.cnt, v1, v2, v3, v4, v5, v6, v7] 27)).cell? ⟨w.heap.size, 7, none⟩ = some (v2) ∧ (w.alloc (.cells #[.int .u8 h.hint, .int .i32 h.schema, .int .u64 h.thr, .int .u64 h.sum, .int .u64 h.zc, .int .u64 h.cnt, v1, v2, v3, v4, v5, v6, v7] 27)).cell? ⟨w.heap.size, 8, none⟩ = some (v3) ∧ (w.alloc (.cells #[.int .u8 h.hint, .int .i32 h.schema, .int .u64 h.thr, .int .u64 h.sum, .int .u64 h.zc, .int .u64 h.cnt, v1, v2, v3, v4, v5, v6, v7] 27)).cell? ⟨w.heap.size, 9, none⟩ = some (v4) ∧ (w.alloc (.cells #[.int .u8 h.hint, .int .i32 h.schema, .int .u64 h.thr, .int .u64 h.sum, .int .u64 h.zc, .int .u64 h.cnt, v1, v2, v3, v4, v5, v6, v7] 27)).cell? ⟨w.heap.size, 10, none⟩ = some (v5) ∧ (w.alloc (.cells #[.int .u8 h.hint, .int .i32 h.schema, .int .u64 h.thr, .int .u64 h.sum, .int .u64 h.zc, .int .u64 h.cnt, v1, v2, v3, v4, v5, v6, v7] 27)).cell? ⟨w.heap.size, 11, none⟩ = some (v6) ∧ (w.alloc (.cells #[.int .u8 h.hint, .int .i32 h.schema, .int .u64 h.thr, .int .u64 h.sum, .int .u64 h.zc, .int .u64 h.cnt, v1, v2, v3, v4, v5, v6, v7] 27)).cell? ⟨w.heap.size, 12, none⟩ = some (v7) := ⟨hca 0, hca 1, hca 2, hca 3, hca 4, hca 5, hca 6, hca 7, hca 8, hca 9, hca 10, hca 11, hca 12⟩
  have hz : w.heap.size < (w.alloc (.cells #[.int .u8 h.hint, .int .i32 h.schema, .int .u64 h.thr, .int .u64 h.sum, .int .u64 h.zc, .int .u64 h.cnt, v1, v2, v3, v4, v5, v6, v7] 27)).heap.size := by simp
  clear hca
  go_enter Tryd.func27, Tryd.ntmps27
  go_wp2_with fail
  have HQ := Lib.hid qa
  clear qa
  generalize w.alloc _ = W at *
  refine (layout_any false v1 v2 v3 v4 v5 v6 v7 h W ((ha.below hB0 (Nat.le_refl _)).mono hB0.size (Nat.le_refl _)) hf hw).mono ?_
  rintro e w1 ⟨a1, n1, c1, a2, n2, c2, s, rfl, o1, o2, hb1⟩
  have hB1 := hB0.trans (hb1.mono hB0.size)
  have hq1 := keep13 hb1 hz HQ.out
  have hz1 : w.heap.size < w1.heap.size := Nat.lt_of_lt_of_le hz hb1.size
  have hL1 : Pairs w1 w1.heap.size .i64 .u64 (.slice a1 n1 c1) (ups false h) := Pairs.own o1.own
  have hL2 : Pairs w1 w1.heap.size .i64 .u64 (.slice a2 n2 c2) (downs false h) := Pairs.own o2.own
  have hlA : (ups false h).length ≤ 2147483647 := Nat.le_trans (bkts_len false h.pos h.ups h.fups) hf.ups
  have hlB : (downs false h).length ≤ 2147483647 := Nat.le_trans (bkts_len false h.neg h.downs h.fdowns) hf.downs
  generalize hA : ups false h = A at *
  generalize hB : downs false h = B at *
  have HA := Lib.hid hA
  have HB := Lib.hid hB
  clear hA hB
  obtain ⟨_, _, e1, _, _⟩ := hL1.form
  cases e1
  obtain ⟨_, _, e2, _, _⟩ := hL2.form
  cases e2
  clear o1 o2 HQ hb1
  have HQ1 := Lib.hid hq1
  have cz := hq1.2.2.2.2.1
  clear hq1
  go_wp2_with fail

  go_loopw [5, 6] (fun sum i wr => ∃ k : Nat, k ≤ A.length ∧ i = .int .i64 k ∧ sum = .int .u64 (addAll h.zc (A.take k)) ∧ Below w1.heap.size w1 wr) (fun _ i _ => A.length - (intOf i).toNat)
  case atStart => exact ⟨0, Nat.zero_le _, rfl, rfl, Below.refl _ _⟩
  case round => as_aux_lemma =>
    obtain ⟨k, hk, rfl, rfl, hbel⟩ := hrel
    by_cases hlt : k < A.length
    · obtain ⟨lb, lo, rfl, hlb1, hlb2, hlc⟩ := hL1.at_ (by omega)
      have e1 := (hbel.cell (p := ⟨lb, lo + k * 2 + 1, none⟩) hlb1).trans (hlc k hlt).2
      have hstep : addAll h.zc (A.take (k + 1)) = IntKind.u64.wrap (addAll h.zc (A.take k) + A[k].2) := by
        rw [List.take_succ_eq_append_getElem hlt, addAll_append]; rfl
      have HS := Lib.hid hstep
      clear hlc hstep
      have i0 : (0 : Int) ≤ (k : Int) := by omega
      have i1 : (k : Int) < (A.length : Int) := by omega
      go_wp2_with fail
      go_roundw
      case rel => exact ⟨k + 1, by omega, by simp, by rw [HS.out], hbel⟩
      case measure => simp [intOf]; omega
    · obtain rfl : k = A.length := by omega
      rw [List.take_length]
      have hq2 := keep13 hbel hz1 HQ1.out
      have HQ2 := Lib.hid hq2
      clear hq2
      go_wp2_with fail
      go_loopw [5, 7] (fun sum i wr => ∃ k : Nat, k ≤ B.length ∧ i = .int .i64 k ∧ sum = .int .u64 (addAll (addAll h.zc A) (B.take k)) ∧ Below w1.heap.size w1 wr) (fun _ i _ => B.length - (intOf i).toNat)
      case atStart => exact ⟨0, Nat.zero_le _, rfl, rfl, hbel⟩
      case round => as_aux_lemma =>
        obtain ⟨k, hk, rfl, rfl, hbel⟩ := hrel
        by_cases hlt : k < B.length
        · obtain ⟨lb, lo, rfl, hlb1, hlb2, hlc⟩ := hL2.at_ (by omega)
          have e1 := (hbel.cell (p := ⟨lb, lo + k * 2 + 1, none⟩) hlb1).trans (hlc k hlt).2
          have hstep : addAll (addAll h.zc A) (B.take (k + 1)) = IntKind.u64.wrap (addAll (addAll h.zc A) (B.take k) + B[k].2) := by
            rw [List.take_succ_eq_append_getElem hlt, addAll_append]; rfl
          have HS := Lib.hid hstep
          clear hlc hstep
          have i0 : (0 : Int) ≤ (k : Int) := by omega
          have i1 : (k : Int) < (B.length : Int) := by omega
          go_wp2_with fail
          go_roundw
          case rel => exact ⟨k + 1, by omega, by simp, by rw [HS.out], hbel⟩
          case measure => simp [intOf]; omega
        · obtain rfl : k = B.length := by omega
          rw [List.take_length]
          have hq2 := keep13 hbel hz1 HQ1.out
          have HQ2 := Lib.hid hq2
          clear hq2
          have d3 := HQ2.out.2.2.2.1
          have d5 := HQ2.out.2.2.2.2.2.1
          have hBw := hB1.trans (hbel.mono hB1.size)
          clear HQ2
          by_cases hn : (!(FloatKind.f64.format.order h.sum h.sum == some .eq)) = true
          · go_wp2_with (first | (go_at_call 37; refine (flt_bits _ _).mono ?_; rintro e w' ⟨rfl, rfl⟩) | (go_at_call 77; refine (isNaN_eq _ true _ hn).mono ?_; rintro e w' ⟨rfl, rfl⟩) | fail)
            go_ret
            refine ⟨?_, hBw⟩
            rw [HA.out, HB.out]
            first | rfl | (rw [if_pos hn]; rfl)
          · have hn' : (!(FloatKind.f64.format.order h.sum h.sum == some .eq)) = false := by simpa using hn
            go_wp2_with (first | (go_at_call 37; refine (flt_bits _ _).mono ?_; rintro e w' ⟨rfl, rfl⟩) | (go_at_call 77; refine (isNaN_eq _ false _ hn').mono ?_; rintro e w' ⟨rfl, rfl⟩) | fail)
            go_ret
            refine ⟨?_, hBw⟩
            rw [HA.out, HB.out]
            first | rfl | (rw [if_neg hn]; rfl)
end Go.Proofs.YtbgkoapnejnfbaaDoor
