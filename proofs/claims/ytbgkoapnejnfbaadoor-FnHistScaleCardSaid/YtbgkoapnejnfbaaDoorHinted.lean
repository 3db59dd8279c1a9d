/-
  A histogram with a hint, as data.
-/
import Derived.Test.YtbgkoapnejnfbaaDoorEqual
import Derived.Test.YtbgkoapnejnfbaaDoorSetHint
import Derived.Test.YtbgkoapnejnfbaaDoorUnbroken
namespace Go.Proofs.YtbgkoapnejnfbaaDoor
set_option linter.unusedSimpArgs false
set_option linter.unusedVariables false
open Go.RowKit
attribute [local go_sem ↓] Go.wp_at_zero Go.wp_at_succ
attribute [local go_sem] cell_there frozen_there
theorem other_13 {w : World} {g k : Nat} (hk : k ≠ g) (v0 v1 v2 v3 v4 v5 v6 v7 v8 v9 v10 v11 v12 : Value) : (((((((((((((w.setCell ⟨g, 0, none⟩ v0).setCell ⟨g, 1, none⟩ v1).setCell ⟨g, 2, none⟩ v2).setCell ⟨g, 3, none⟩ v3).setCell ⟨g, 4, none⟩ v4).setCell ⟨g, 5, none⟩ v5).setCell ⟨g, 6, none⟩ v6).setCell ⟨g, 7, none⟩ v7).setCell ⟨g, 8, none⟩ v8).setCell ⟨g, 9, none⟩ v9).setCell ⟨g, 10, none⟩ v10).setCell ⟨g, 11, none⟩ v11).setCell ⟨g, 12, none⟩ v12).heap[k]? = w.heap[k]? := (Below.heap_setCell _ ⟨g, 12, none⟩ v12 k hk).trans ((Below.heap_setCell _ ⟨g, 11, none⟩ v11 k hk).trans ((Below.heap_setCell _ ⟨g, 10, none⟩ v10 k hk).trans ((Below.heap_setCell _ ⟨g, 9, none⟩ v9 k hk).trans ((Below.heap_setCell _ ⟨g, 8, none⟩ v8 k hk).trans ((Below.heap_setCell _ ⟨g, 7, none⟩ v7 k hk).trans ((Below.heap_setCell _ ⟨g, 6, none⟩ v6 k hk).trans ((Below.heap_setCell _ ⟨g, 5, none⟩ v5 k hk).trans ((Below.heap_setCell _ ⟨g, 4, none⟩ v4 k hk).trans ((Below.heap_setCell _ ⟨g, 3, none⟩ v3 k hk).trans ((Below.heap_setCell _ ⟨g, 2, none⟩ v2 k hk).trans ((Below.heap_setCell _ ⟨g, 1, none⟩ v1 k hk).trans ((Below.heap_setCell _ ⟨g, 0, none⟩ v0 k hk).trans (rfl)))))))))))))
theorem size_13 {w : World} {g : Nat} (v0 v1 v2 v3 v4 v5 v6 v7 v8 v9 v10 v11 v12 : Value) : (((((((((((((w.setCell ⟨g, 0, none⟩ v0).setCell ⟨g, 1, none⟩ v1).setCell ⟨g, 2, none⟩ v2).setCell ⟨g, 3, none⟩ v3).setCell ⟨g, 4, none⟩ v4).setCell ⟨g, 5, none⟩ v5).setCell ⟨g, 6, none⟩ v6).setCell ⟨g, 7, none⟩ v7).setCell ⟨g, 8, none⟩ v8).setCell ⟨g, 9, none⟩ v9).setCell ⟨g, 10, none⟩ v10).setCell ⟨g, 11, none⟩ v11).setCell ⟨g, 12, none⟩ v12).heap.size = w.heap.size := by simp

set_option maxRecDepth 100000 in
set_option maxHeartbeats 8000000 in
theorem hinted_ft (v1 v2 v3 v4 v5 v6 v7 : Value) (h : Hist) (w : World) (ha : HistAt w w.heap.size v1 v2 v3 v4 v5 v6 v7 h) (hf : Fits h) :
    Calls Tryd.prog 14 #[.agg (histCells h v1 v2 v3 v4 v5 v6 v7), .bool true, .bool true] w fun e w' => ∃ y1 y2 y3 y4 y5 y6 y7, e = .returned (.agg (histCells ({ h with hint := 1, ups := [], downs := [] }) y1 y2 y3 y4 y5 y6 y7)) ∧
      HistAt w' w'.heap.size y1 y2 y3 y4 y5 y6 y7 ({ h with hint := 1, ups := [], downs := [] }) ∧ Below w.heap.size w w' := by
  unfold histCells
  obtain ⟨h2, h3, hn⟩ := two13 w #[.int .u8 h.hint, .int .i32 h.schema, .int .u64 h.thr, .int .u64 h.sum, .int .u64 h.zc, .int .u64 h.cnt, v1, v2, v3, v4, v5, v6, v7] #[.int .u8 0, .int .i32 0, .int .u64 0, .int .u64 0, .int .u64 0, .int .u64 0, .slice none 0 0, .slice none 0 0, .slice none 0 0, .slice none 0 0, .slice none 0 0, .slice none 0 0, .slice none 0 0] 27 27
  have hB0 : Below w.heap.size w ((w.alloc (.cells #[.int .u8 h.hint, .int .i32 h.schema, .int .u64 h.thr, .int .u64 h.sum, .int .u64 h.zc, .int .u64 h.cnt, v1, v2, v3, v4, v5, v6, v7] 27)).alloc (.cells #[.int .u8 0, .int .i32 0, .int .u64 0, .int .u64 0, .int .u64 0, .int .u64 0, .slice none 0 0, .slice none 0 0, .slice none 0 0, .slice none 0 0, .slice none 0 0, .slice none 0 0, .slice none 0 0] 27)) := ((Below.refl w.heap.size w).alloc (Nat.le_refl _) _).alloc (by simp) _
  have hca := cells_of_block h2
  have qa : ((w.alloc (.cells #[.int .u8 h.hint, .int .i32 h.schema, .int .u64 h.thr, .int .u64 h.sum, .int .u64 h.zc, .int .u64 h.cnt, v1, v2, v3, v4, v5, v6, v7] 27)).alloc (.cells #[.int .u8 0, .int .i32 0, .int .u64 0, .int .u64 0, .int .u64 0, .int .u64 0, .slice none 0 0, .slice none 0 0, .slice none 0 0, .slice none 0 0, .slice none 0 0, .slice none 0 0, .slice none 0 0] 27)).cell? ⟨w.heap.size, 0, none⟩ = some (.int .u8 h.hint) ∧ ((w.alloc (.cells #[.int .u8 h.hint, .int .i32 h.schema, .int .u64 h.thr, .int .u64 h.sum, .int .u64 h.zc, .int .u64 h.cnt, v1, v2, v3, v4, v5, v6, v7] 27)).alloc (.cells #[.int .u8 0, .int .i32 0, .int .u64 0, .int .u64 0, .int .u64 0, .int .u64 0, .slice none 0 0, .slice none 0 0, .slice none 0 0, .slice none 0 0, .slice none 0 0, .slice none 0 0, .slice none 0 0] 27)).cell? ⟨w.heap.size, 1, none⟩ = some (.int .i32 h.schema) ∧ ((w.alloc (.cells #[.int .u8 h.hint, .int .i32 h.schema, .int .u64 h.thr, .int .u64 h.sum, .int .u64 h.zc, .int .u64 h.cnt, v1, v2, v3, v4, v5, v6, v7] 27)).alloc (.cells #[.int .u8 0, .int .i32 0, .int .u64 0, .int .u64 0, .int .u64 0, .int .u64 0, .slice none 0 0, .slice none 0 0, .slice none 0 0, .slice none 0 0, .slice none 0 0, .slice none 0 0, .slice none 0 0] 27)).cell? ⟨w.heap.size, 2, none⟩ = some (.int .u64 h.thr) ∧ ((w.alloc (.cells #[.int .u8 h.hint, .int .i32 h.schema, .int .u64 h.thr, .int .u64 h.sum, .int .u64 h.zc, .int .u64 h.cnt, v1, v2, v3, v4, v5, v6, v7] 27)).alloc (.cells #[.int .u8 0, .int .i32 0, .int .u64 0, .int .u64 0, .int .u64 0, .int .u64 0, .slice none 0 0, .slice none 0 0, .slice none 0 0, .slice none 0 0, .slice none 0 0, .slice none 0 0, .slice none 0 0] 27)).cell? ⟨w.heap.size, 3, none⟩ = some (.int .u64 h.sum) ∧ ((w.alloc (.cells #[.int .u8 h.hint, .int .i32 h.schema, .int .u64 h.thr, .int .u64 h.sum, .int .u64 h.zc, .int .u64 h.cnt, v1, v2, v3, v4, v5, v6, v7] 27)).alloc (.cells #[.int .u8 0, .int .i32 0, .int .u64 0, .int .u64 0, .int .u64 0, .int .u64 0, .slice none 0 0, .slice none 0 0, .slice none 0 0, .slice none 0 0, .slice none 0 0, .slice none 0 0, .slice none 0 0] 27)).cell? ⟨w.heap.size, 4, none⟩ = some (.int .u64 h.zc) ∧ ((w.alloc (.cells #[.int .u8 h.hint, .int .i32 h.schema, .int .u64 h.thr, .int .u64 h.sum, .int .u64 h.zc, .int .u64 h.cnt, v1, v2, v3, v4, v5, v6, v7] 27)).alloc (.cells #[.int .u8 0, .int .i32 0, .int .u64 0, .int .u64 0, .int .u64 0, .int .u64 0, .slice none 0 0, .slice none 0 0, .slice none 0 0, .slice none 0 0, .slice none 0 0, .slice none 0 0, .slice none 0 0] 27)).cell? ⟨w.heap.size, 5, none⟩ = some (.int .u64 h.cnt) ∧ ((w.alloc (.cells #[.int .u8 h.hint, .int .i32 h.schema, .int .u64 h.thr, .int .u64 h.sum, .int .u64 h.zc, .int .u64 h.cnt, v1, v2, v3, v4, v5, v6, v7] 27)).alloc (.cells #[.int .u8 0, .int .i32 0, .int .u64 0, .int .u64 0, .int .u64 0, .int .u64 0, .slice none 0 0, .slice none 0 0, .slice none 0 0, .slice none 0 0, .slice none 0 0, .slice none 0 0, .slice none 0 0] 27)).cell? ⟨w.heap.size, 6, none⟩ = some (v1) ∧ ((w.alloc (.cells #[.int .u8 h.hint, .int .i32 h.schema, .int .u64 h.thr, .int .u64 h.sum, .int .u64 h.zc, .int .u64 h.cnt, v1, v2, v3, v4, v5, v6, v7] 27)).alloc (.cells #[.int .u8 0, .int .i32 0, .int .u64 0, .int .u64 0, .int .u64 0, .int .u64 0, .slice none 0 0, .slice none 0 0, .slice none 0 0, .slice none 0 0, .slice none 0 0, .slice none 0 0, .slice none 0 0] 27)).cell? ⟨w.heap.size, 7, none⟩ = some (v2) ∧ ((w.alloc (.cells #[.int .u8 h.hint, .int .i32 h.schema, .int .u64 h.thr, .int .u64 h.sum, .int .u64 h.zc, .int .u64 h.cnt, v1, v2, v3, v4, v5, v6, v7] 27)).alloc (.cells #[.int .u8 0, .int .i32 0, .int .u64 0, .int .u64 0, .int .u64 0, .int .u64 0, .slice none 0 0, .slice none 0 0, .slice none 0 0, .slice none 0 0, .slice none 0 0, .slice none 0 0, .slice none 0 0] 27)).cell? ⟨w.heap.size, 8, none⟩ = some (v3) ∧ ((w.alloc (.cells #[.int .u8 h.hint, .int .i32 h.schema, .int .u64 h.thr, .int .u64 h.sum, .int .u64 h.zc, .int .u64 h.cnt, v1, v2, v3, v4, v5, v6, v7] 27)).alloc (.cells #[.int .u8 0, .int .i32 0, .int .u64 0, .int .u64 0, .int .u64 0, .int .u64 0, .slice none 0 0, .slice none 0 0, .slice none 0 0, .slice none 0 0, .slice none 0 0, .slice none 0 0, .slice none 0 0] 27)).cell? ⟨w.heap.size, 9, none⟩ = some (v4) ∧ ((w.alloc (.cells #[.int .u8 h.hint, .int .i32 h.schema, .int .u64 h.thr, .int .u64 h.sum, .int .u64 h.zc, .int .u64 h.cnt, v1, v2, v3, v4, v5, v6, v7] 27)).alloc (.cells #[.int .u8 0, .int .i32 0, .int .u64 0, .int .u64 0, .int .u64 0, .int .u64 0, .slice none 0 0, .slice none 0 0, .slice none 0 0, .slice none 0 0, .slice none 0 0, .slice none 0 0, .slice none 0 0] 27)).cell? ⟨w.heap.size, 10, none⟩ = some (v5) ∧ ((w.alloc (.cells #[.int .u8 h.hint, .int .i32 h.schema, .int .u64 h.thr, .int .u64 h.sum, .int .u64 h.zc, .int .u64 h.cnt, v1, v2, v3, v4, v5, v6, v7] 27)).alloc (.cells #[.int .u8 0, .int .i32 0, .int .u64 0, .int .u64 0, .int .u64 0, .int .u64 0, .slice none 0 0, .slice none 0 0, .slice none 0 0, .slice none 0 0, .slice none 0 0, .slice none 0 0, .slice none 0 0] 27)).cell? ⟨w.heap.size, 11, none⟩ = some (v6) ∧ ((w.alloc (.cells #[.int .u8 h.hint, .int .i32 h.schema, .int .u64 h.thr, .int .u64 h.sum, .int .u64 h.zc, .int .u64 h.cnt, v1, v2, v3, v4, v5, v6, v7] 27)).alloc (.cells #[.int .u8 0, .int .i32 0, .int .u64 0, .int .u64 0, .int .u64 0, .int .u64 0, .slice none 0 0, .slice none 0 0, .slice none 0 0, .slice none 0 0, .slice none 0 0, .slice none 0 0, .slice none 0 0] 27)).cell? ⟨w.heap.size, 12, none⟩ = some (v7) := ⟨hca 0, hca 1, hca 2, hca 3, hca 4, hca 5, hca 6, hca 7, hca 8, hca 9, hca 10, hca 11, hca 12⟩
  have hK := Lib.hid h3
  clear hca h2 h3
  go_enter Tryd.func14, Tryd.ntmps14
  go_wp2_with fail
  have hN := Lib.hid hn
  clear qa hn
  generalize (w.alloc _).alloc _ = W at *
  have hn := hN.out
  have hza : w.heap.size + 1 < W.heap.size := by omega
  clear hn hN
  refine (broken_any v1 v2 v3 v4 v5 v6 v7 h W ((ha.below hB0 (Nat.le_refl _)).mono hB0.size (Nat.le_refl _)) hf).mono ?_
  rintro e w1 ⟨b, x1, x2, x3, x4, x5, rfl, hcell, ⟨⟨s1, s2, s3, s4, o1, o2, o3, o4, o5⟩, hnil⟩, hb1⟩
  have hfz : w1.frozen? ⟨b, 0, none⟩ = false := by simp [World.frozen?, hcell]
  have hC1 := Lib.hid hcell
  have hc10 := cells_of_block hcell 0
  have l1 := o1.le
  have l2 := o2.le
  have l3 := o3.le
  have l4 := o4.le
  have l5 := o5.le
  clear hcell
  go_wp2_with fail
  refine (setHintF1 b _ w1 hc10 hfz).mono ?_
  rintro e w2 ⟨rfl, hw2⟩
  have h2cell := Lib.hid (setCell_heap (i := 0) hC1.out (.int .u8 1))
  rw [← hw2] at h2cell
  have hb2 : Below b w1 w2 := by rw [hw2]; exact (Below.refl b w1).setCell (Nat.le_refl _) _
  clear hw2 hc10 hfz
  have hc2 := cells_of_block h2cell.out
  have hbs : b < w2.heap.size := (Array.getElem?_eq_some_iff.1 h2cell.out).1
  have HC2 := Lib.hid hc2
  clear hc2
  replace o1 := o1.below hb2 (by omega)
  replace o2 := o2.below hb2 (by omega)
  replace o3 := o3.below hb2 (by omega)
  replace o4 := o4.below hb2 (by omega)
  replace o5 := o5.below hb2 (by omega)
  go_wp2_with fail
  refine (unbroken_any b x1 x2 x3 x4 x5 { h with hint := 1 } w2 ⟨HC2.out 0, HC2.out 1, HC2.out 2, HC2.out 3, HC2.out 4, HC2.out 5, HC2.out 6, HC2.out 7, HC2.out 8, HC2.out 9, HC2.out 10⟩ o1.pairs o2.pairs o3.floats o4.floats o5.floats ⟨hf.pos, hf.neg, hf.ups, hf.downs, hf.fups, hf.fdowns, hf.cus⟩ hbs).mono ?_
  rintro e w3 ⟨y1, y2, y3, y4, y5, y6, y7, rfl, hH, hb3⟩
  have hA := hH.at_
  unfold histCells
  obtain ⟨r1, k1, rfl, _, _⟩ := hA.pos.form
  obtain ⟨r2, k2, rfl, _, _⟩ := hA.neg.form
  obtain ⟨r3, k3, rfl, _, _⟩ := hA.ups.form
  obtain ⟨r4, k4, rfl, _, _⟩ := hA.downs.form
  obtain ⟨r5, k5, rfl, _, _⟩ := hA.fups.form
  obtain ⟨r6, k6, rfl, _, _⟩ := hA.fdowns.form
  obtain ⟨r7, k7, rfl, _, _⟩ := hA.cus.form
  have hB3 : Below w.heap.size w w3 := ((hB0.trans (hb1.mono hB0.size)).trans (hb2.mono (by omega))).trans (hb3.mono (by omega))
  have hz1 := hb1.size
  have hK1 := (hb1.block (w.heap.size + 1) hza).trans hK.out
  have hK2 := (hb2.block (w.heap.size + 1) (by omega)).trans hK1
  have hT3 : There13 w3 (w.heap.size + 1) := ⟨_, (hb3.block (w.heap.size + 1) (by omega)).trans hK2, rfl⟩
  clear hK1 hK2 hA
  have hr := cells_13 hT3 (.int .u8 1) (.int .i32 h.schema) (.int .u64 h.thr) (.int .u64 h.sum) (.int .u64 h.zc) (.int .u64 h.cnt) (.slice r1 h.pos.length k1) (.slice r2 h.neg.length k2) (.slice r3 0 k3) (.slice r4 0 k4) (.slice r5 h.fups.length k5) (.slice r6 h.fdowns.length k6) (.slice r7 h.cus.length k7)
  have hB6 := hB3.trans ((below_13 (Below.refl (w.heap.size + 1) w3) (.int .u8 1) (.int .i32 h.schema) (.int .u64 h.thr) (.int .u64 h.sum) (.int .u64 h.zc) (.int .u64 h.cnt) (.slice r1 h.pos.length k1) (.slice r2 h.neg.length k2) (.slice r3 0 k3) (.slice r4 0 k4) (.slice r5 h.fups.length k5) (.slice r6 h.fdowns.length k6) (.slice r7 h.cus.length k7)).mono (Nat.le_succ _))
  have hO := fun k (hk : k ≠ w.heap.size + 1) => other_13 (w := w3) hk (.int .u8 1) (.int .i32 h.schema) (.int .u64 h.thr) (.int .u64 h.sum) (.int .u64 h.zc) (.int .u64 h.cnt) (.slice r1 h.pos.length k1) (.slice r2 h.neg.length k2) (.slice r3 0 k3) (.slice r4 0 k4) (.slice r5 h.fups.length k5) (.slice r6 h.fdowns.length k6) (.slice r7 h.cus.length k7)
  have hS := size_13 (w := w3) (g := w.heap.size + 1) (.int .u8 1) (.int .i32 h.schema) (.int .u64 h.thr) (.int .u64 h.sum) (.int .u64 h.zc) (.int .u64 h.cnt) (.slice r1 h.pos.length k1) (.slice r2 h.neg.length k2) (.slice r3 0 k3) (.slice r4 0 k4) (.slice r5 h.fups.length k5) (.slice r6 h.fdowns.length k6) (.slice r7 h.cus.length k7)
  have hw2s : w.heap.size + 1 < w2.heap.size := by omega
  have HR := Lib.hid hr
  have HO := Lib.hid hO
  have HS := Lib.hid hS
  clear hr hO hS hb1 hb2 hb3 hB0 hB3
  go_wp2_with fail
  have hr := HR.out
  have hO := HO.out
  have hS := HS.out
  clear HR HO HS hT3
  generalize w3.setCell _ _ = q1 at *
  generalize q1.setCell _ _ = q2 at *
  generalize q2.setCell _ _ = q3 at *
  generalize q3.setCell _ _ = q4 at *
  generalize q4.setCell _ _ = q5 at *
  generalize q5.setCell _ _ = q6 at *
  generalize q6.setCell _ _ = q7 at *
  generalize q7.setCell _ _ = q8 at *
  generalize q8.setCell _ _ = q9 at *
  generalize q9.setCell _ _ = q10 at *
  generalize q10.setCell _ _ = q11 at *
  generalize q11.setCell _ _ = q12 at *
  generalize q12.setCell _ _ = q13 at *
  have hHq := hH q13 (fun k hk => hO k (by omega)) (by omega)
  simp only [List.length_map, List.length_nil] at hHq
  refine bodyPost_ret (v := .agg #[.int .u8 1, .int .i32 h.schema, .int .u64 h.thr, .int .u64 h.sum, .int .u64 h.zc, .int .u64 h.cnt, .slice r1 h.pos.length k1, .slice r2 h.neg.length k2, .slice r3 0 k3, .slice r4 0 k4, .slice r5 h.fups.length k5, .slice r6 h.fdowns.length k6, .slice r7 h.cus.length k7]) (by simp [results, Tryd.results14, go_sem, hr]) rfl ⟨_, _, _, _, _, _, _, rfl, hHq, hB6⟩

set_option maxRecDepth 100000 in
set_option maxHeartbeats 8000000 in
theorem hinted_ff (v1 v2 v3 v4 v5 v6 v7 : Value) (h : Hist) (w : World) (ha : HistAt w w.heap.size v1 v2 v3 v4 v5 v6 v7 h) (hf : Fits h) :
    Calls Tryd.prog 14 #[.agg (histCells h v1 v2 v3 v4 v5 v6 v7), .bool false, .bool true] w fun e w' => ∃ y1 y2 y3 y4 y5 y6 y7, e = .returned (.agg (histCells ({ h with hint := 2, ups := [], downs := [] }) y1 y2 y3 y4 y5 y6 y7)) ∧
      HistAt w' w'.heap.size y1 y2 y3 y4 y5 y6 y7 ({ h with hint := 2, ups := [], downs := [] }) ∧ Below w.heap.size w w' := by
  unfold histCells
  obtain ⟨h2, h3, hn⟩ := two13 w #[.int .u8 h.hint, .int .i32 h.schema, .int .u64 h.thr, .int .u64 h.sum, .int .u64 h.zc, .int .u64 h.cnt, v1, v2, v3, v4, v5, v6, v7] #[.int .u8 0, .int .i32 0, .int .u64 0, .int .u64 0, .int .u64 0, .int .u64 0, .slice none 0 0, .slice none 0 0, .slice none 0 0, .slice none 0 0, .slice none 0 0, .slice none 0 0, .slice none 0 0] 27 27
  have hB0 : Below w.heap.size w ((w.alloc (.cells #[.int .u8 h.hint, .int .i32 h.schema, .int .u64 h.thr, .int .u64 h.sum, .int .u64 h.zc, .int .u64 h.cnt, v1, v2, v3, v4, v5, v6, v7] 27)).alloc (.cells #[.int .u8 0, .int .i32 0, .int .u64 0, .int .u64 0, .int .u64 0, .int .u64 0, .slice none 0 0, .slice none 0 0, .slice none 0 0, .slice none 0 0, .slice none 0 0, .slice none 0 0, .slice none 0 0] 27)) := ((Below.refl w.heap.size w).alloc (Nat.le_refl _) _).alloc (by simp) _
  have hca := cells_of_block h2
  have qa : ((w.alloc (.cells #[.int .u8 h.hint, .int .i32 h.schema, .int .u64 h.thr, .int .u64 h.sum, .int .u64 h.zc, .int .u64 h.cnt, v1, v2, v3, v4, v5, v6, v7] 27)).alloc (.cells #[.int .u8 0, .int .i32 0, .int .u64 0, .int .u64 0, .int .u64 0, .int .u64 0, .slice none 0 0, .slice none 0 0, .slice none 0 0, .slice none 0 0, .slice none 0 0, .slice none 0 0, .slice none 0 0] 27)).cell? ⟨w.heap.size, 0, none⟩ = some (.int .u8 h.hint) ∧ ((w.alloc (.cells #[.int .u8 h.hint, .int .i32 h.schema, .int .u64 h.thr, .int .u64 h.sum, .int .u64 h.zc, .int .u64 h.cnt, v1, v2, v3, v4, v5, v6, v7] 27)).alloc (.cells #[.int .u8 0, .int .i32 0, .int .u64 0, .int .u64 0, .int .u64 0, .int .u64 0, .slice none 0 0, .slice none 0 0, .slice none 0 0, .slice none 0 0, .slice none 0 0, .slice none 0 0, .slice none 0 0] 27)).cell? ⟨w.heap.size, 1, none⟩ = some (.int .i32 h.schema) ∧ ((w.alloc (.cells #[.int .u8 h.hint, .int .i32 h.schema, .int .u64 h.thr, .int .u64 h.sum, .int .u64 h.zc, .int .u64 h.cnt, v1, v2, v3, v4, v5, v6, v7] 27)).alloc (.cells #[.int .u8 0, .int .i32 0, .int .u64 0, .int .u64 0, .int .u64 0, .int .u64 0, .slice none 0 0, .slice none 0 0, .slice none 0 0, .slice none 0 0, .slice none 0 0, .slice none 0 0, .slice none 0 0] 27)).cell? ⟨w.heap.size, 2, none⟩ = some (.int .u64 h.thr) ∧ ((w.alloc (.cells #[.int .u8 h.hint, .int .i32 h.schema, .int .u64 h.thr, .int .u64 h.sum, .int .u64 h.zc, .int .u64 h.cnt, v1, v2, v3, v4, v5, v6, v7] 27)).alloc (.cells #[.int .u8 0, .int .i32 0, .int .u64 0, .int .u64 0, .int .u64 0, .int .u64 0, .slice none 0 0, .slice none 0 0, .slice none 0 0, .slice none 0 0, .slice none 0 0, .slice none 0 0, .slice none 0 0] 27)).cell? ⟨w.heap.size, 3, none⟩ = some (.int .u64 h.sum) ∧ ((w.alloc (.cells #[.int .u8 h.hint, .int .i32 h.schema, .int .u64 h.thr, .int .u64 h.sum, .int .u64 h.zc, .int .u64 h.cnt, v1, v2, v3, v4, v5, v6, v7] 27)).alloc (.cells #[.int .u8 0, .int .i32 0, .int .u64 0, .int .u64 0, .int .u64 0, .int .u64 0, .slice none 0 0, .slice none 0 0, .slice none 0 0, .slice none 0 0, .slice none 0 0, .slice none 0 0, .slice none 0 0] 27)).cell? ⟨w.heap.size, 4, none⟩ = some (.int .u64 h.zc) ∧ ((w.alloc (.cells #[.int .u8 h.hint, .int .i32 h.schema, .int .u64 h.thr, .int .u64 h.sum, .int .u64 h.zc, .int .u64 h.cnt, v1, v2, v3, v4, v5, v6, v7] 27)).alloc (.cells #[.int .u8 0, .int .i32 0, .int .u64 0, .int .u64 0, .int .u64 0, .int .u64 0, .slice none 0 0, .slice none 0 0, .slice none 0 0, .slice none 0 0, .slice none 0 0, .slice none 0 0, .slice none 0 0] 27)).cell? ⟨w.heap.size, 5, none⟩ = some (.int .u64 h.cnt) ∧ ((w.alloc (.cells #[.int .u8 h.hint, .int .i32 h.schema, .int .u64 h.thr, .int .u64 h.sum, .int .u64 h.zc, .int .u64 h.cnt, v1, v2, v3, v4, v5, v6, v7] 27)).alloc (.cells #[.int .u8 0, .int .i32 0, .int .u64 0, .int .u64 0, .int .u64 0, .int .u64 0, .slice none 0 0, .slice none 0 0, .slice none 0 0, .slice none 0 0, .slice none 0 0, .slice none 0 0, .slice none 0 0] 27)).cell? ⟨w.heap.size, 6, none⟩ = some (v1) ∧ ((w.alloc (.cells #[.int .u8 h.hint, .int .i32 h.schema, .int .u64 h.thr, .int .u64 h.sum, .int .u64 h.zc, .int .u64 h.cnt, v1, v2, v3, v4, v5, v6, v7] 27)).alloc (.cells #[.int .u8 0, .int .i32 0, .int .u64 0, .int .u64 0, .int .u64 0, .int .u64 0, .slice none 0 0, .slice none 0 0, .slice none 0 0, .slice none 0 0, .slice none 0 0, .slice none 0 0, .slice none 0 0] 27)).cell? ⟨w.heap.size, 7, none⟩ = some (v2) ∧ ((w.alloc (.cells #[.int .u8 h.hint, .int .i32 h.schema, .int .u64 h.thr, .int .u64 h.sum, .int .u64 h.zc, .int .u64 h.cnt, v1, v2, v3, v4, v5, v6, v7] 27)).alloc (.cells #[.int .u8 0, .int .i32 0, .int .u64 0, .int .u64 0, .int .u64 0, .int .u64 0, .slice none 0 0, .slice none 0 0, .slice none 0 0, .slice none 0 0, .slice none 0 0, .slice none 0 0, .slice none 0 0] 27)).cell? ⟨w.heap.size, 8, none⟩ = some (v3) ∧ ((w.alloc (.cells #[.int .u8 h.hint, .int .i32 h.schema, .int .u64 h.thr, .int .u64 h.sum, .int .u64 h.zc, .int .u64 h.cnt, v1, v2, v3, v4, v5, v6, v7] 27)).alloc (.cells #[.int .u8 0, .int .i32 0, .int .u64 0, .int .u64 0, .int .u64 0, .int .u64 0, .slice none 0 0, .slice none 0 0, .slice none 0 0, .slice none 0 0, .slice none 0 0, .slice none 0 0, .slice none 0 0] 27)).cell? ⟨w.heap.size, 9, none⟩ = some (v4) ∧ ((w.alloc (.cells #[.int .u8 h.hint, .int .i32 h.schema, .int .u64 h.thr, .int .u64 h.sum, .int .u64 h.zc, .int .u64 h.cnt, v1, v2, v3, v4, v5, v6, v7] 27)).alloc (.cells #[.int .u8 0, .int .i32 0, .int .u64 0, .int .u64 0, .int .u64 0, .int .u64 0, .slice none 0 0, .slice none 0 0, .slice none 0 0, .slice none 0 0, .slice none 0 0, .slice none 0 0, .slice none 0 0] 27)).cell? ⟨w.heap.size, 10, none⟩ = some (v5) ∧ ((w.alloc (.cells #[.int .u8 h.hint, .int .i32 h.schema, .int .u64 h.thr, .int .u64 h.sum, .int .u64 h.zc, .int .u64 h.cnt, v1, v2, v3, v4, v5, v6, v7] 27)).alloc (.cells #[.int .u8 0, .int .i32 0, .int .u64 0, .int .u64 0, .int .u64 0, .int .u64 0, .slice none 0 0, .slice none 0 0, .slice none 0 0, .slice none 0 0, .slice none 0 0, .slice none 0 0, .slice none 0 0] 27)).cell? ⟨w.heap.size, 11, none⟩ = some (v6) ∧ ((w.alloc (.cells #[.int .u8 h.hint, .int .i32 h.schema, .int .u64 h.thr, .int .u64 h.sum, .int .u64 h.zc, .int .u64 h.cnt, v1, v2, v3, v4, v5, v6, v7] 27)).alloc (.cells #[.int .u8 0, .int .i32 0, .int .u64 0, .int .u64 0, .int .u64 0, .int .u64 0, .slice none 0 0, .slice none 0 0, .slice none 0 0, .slice none 0 0, .slice none 0 0, .slice none 0 0, .slice none 0 0] 27)).cell? ⟨w.heap.size, 12, none⟩ = some (v7) := ⟨hca 0, hca 1, hca 2, hca 3, hca 4, hca 5, hca 6, hca 7, hca 8, hca 9, hca 10, hca 11, hca 12⟩
  have hK := Lib.hid h3
  clear hca h2 h3
  go_enter Tryd.func14, Tryd.ntmps14
  go_wp2_with fail
  have hN := Lib.hid hn
  clear qa hn
  generalize (w.alloc _).alloc _ = W at *
  have hn := hN.out
  have hza : w.heap.size + 1 < W.heap.size := by omega
  clear hn hN
  refine (broken_any v1 v2 v3 v4 v5 v6 v7 h W ((ha.below hB0 (Nat.le_refl _)).mono hB0.size (Nat.le_refl _)) hf).mono ?_
  rintro e w1 ⟨b, x1, x2, x3, x4, x5, rfl, hcell, ⟨⟨s1, s2, s3, s4, o1, o2, o3, o4, o5⟩, hnil⟩, hb1⟩
  have hfz : w1.frozen? ⟨b, 0, none⟩ = false := by simp [World.frozen?, hcell]
  have hC1 := Lib.hid hcell
  have hc10 := cells_of_block hcell 0
  have l1 := o1.le
  have l2 := o2.le
  have l3 := o3.le
  have l4 := o4.le
  have l5 := o5.le
  clear hcell
  go_wp2_with fail
  refine (setHintF2 b _ w1 hc10 hfz).mono ?_
  rintro e w2 ⟨rfl, hw2⟩
  have h2cell := Lib.hid (setCell_heap (i := 0) hC1.out (.int .u8 2))
  rw [← hw2] at h2cell
  have hb2 : Below b w1 w2 := by rw [hw2]; exact (Below.refl b w1).setCell (Nat.le_refl _) _
  clear hw2 hc10 hfz
  have hc2 := cells_of_block h2cell.out
  have hbs : b < w2.heap.size := (Array.getElem?_eq_some_iff.1 h2cell.out).1
  have HC2 := Lib.hid hc2
  clear hc2
  replace o1 := o1.below hb2 (by omega)
  replace o2 := o2.below hb2 (by omega)
  replace o3 := o3.below hb2 (by omega)
  replace o4 := o4.below hb2 (by omega)
  replace o5 := o5.below hb2 (by omega)
  go_wp2_with fail
  refine (unbroken_any b x1 x2 x3 x4 x5 { h with hint := 2 } w2 ⟨HC2.out 0, HC2.out 1, HC2.out 2, HC2.out 3, HC2.out 4, HC2.out 5, HC2.out 6, HC2.out 7, HC2.out 8, HC2.out 9, HC2.out 10⟩ o1.pairs o2.pairs o3.floats o4.floats o5.floats ⟨hf.pos, hf.neg, hf.ups, hf.downs, hf.fups, hf.fdowns, hf.cus⟩ hbs).mono ?_
  rintro e w3 ⟨y1, y2, y3, y4, y5, y6, y7, rfl, hH, hb3⟩
  have hA := hH.at_
  unfold histCells
  obtain ⟨r1, k1, rfl, _, _⟩ := hA.pos.form
  obtain ⟨r2, k2, rfl, _, _⟩ := hA.neg.form
  obtain ⟨r3, k3, rfl, _, _⟩ := hA.ups.form
  obtain ⟨r4, k4, rfl, _, _⟩ := hA.downs.form
  obtain ⟨r5, k5, rfl, _, _⟩ := hA.fups.form
  obtain ⟨r6, k6, rfl, _, _⟩ := hA.fdowns.form
  obtain ⟨r7, k7, rfl, _, _⟩ := hA.cus.form
  have hB3 : Below w.heap.size w w3 := ((hB0.trans (hb1.mono hB0.size)).trans (hb2.mono (by omega))).trans (hb3.mono (by omega))
  have hz1 := hb1.size
  have hK1 := (hb1.block (w.heap.size + 1) hza).trans hK.out
  have hK2 := (hb2.block (w.heap.size + 1) (by omega)).trans hK1
  have hT3 : There13 w3 (w.heap.size + 1) := ⟨_, (hb3.block (w.heap.size + 1) (by omega)).trans hK2, rfl⟩
  clear hK1 hK2 hA
  have hr := cells_13 hT3 (.int .u8 2) (.int .i32 h.schema) (.int .u64 h.thr) (.int .u64 h.sum) (.int .u64 h.zc) (.int .u64 h.cnt) (.slice r1 h.pos.length k1) (.slice r2 h.neg.length k2) (.slice r3 0 k3) (.slice r4 0 k4) (.slice r5 h.fups.length k5) (.slice r6 h.fdowns.length k6) (.slice r7 h.cus.length k7)
  have hB6 := hB3.trans ((below_13 (Below.refl (w.heap.size + 1) w3) (.int .u8 2) (.int .i32 h.schema) (.int .u64 h.thr) (.int .u64 h.sum) (.int .u64 h.zc) (.int .u64 h.cnt) (.slice r1 h.pos.length k1) (.slice r2 h.neg.length k2) (.slice r3 0 k3) (.slice r4 0 k4) (.slice r5 h.fups.length k5) (.slice r6 h.fdowns.length k6) (.slice r7 h.cus.length k7)).mono (Nat.le_succ _))
  have hO := fun k (hk : k ≠ w.heap.size + 1) => other_13 (w := w3) hk (.int .u8 2) (.int .i32 h.schema) (.int .u64 h.thr) (.int .u64 h.sum) (.int .u64 h.zc) (.int .u64 h.cnt) (.slice r1 h.pos.length k1) (.slice r2 h.neg.length k2) (.slice r3 0 k3) (.slice r4 0 k4) (.slice r5 h.fups.length k5) (.slice r6 h.fdowns.length k6) (.slice r7 h.cus.length k7)
  have hS := size_13 (w := w3) (g := w.heap.size + 1) (.int .u8 2) (.int .i32 h.schema) (.int .u64 h.thr) (.int .u64 h.sum) (.int .u64 h.zc) (.int .u64 h.cnt) (.slice r1 h.pos.length k1) (.slice r2 h.neg.length k2) (.slice r3 0 k3) (.slice r4 0 k4) (.slice r5 h.fups.length k5) (.slice r6 h.fdowns.length k6) (.slice r7 h.cus.length k7)
  have hw2s : w.heap.size + 1 < w2.heap.size := by omega
  have HR := Lib.hid hr
  have HO := Lib.hid hO
  have HS := Lib.hid hS
  clear hr hO hS hb1 hb2 hb3 hB0 hB3
  go_wp2_with fail
  have hr := HR.out
  have hO := HO.out
  have hS := HS.out
  clear HR HO HS hT3
  generalize w3.setCell _ _ = q1 at *
  generalize q1.setCell _ _ = q2 at *
  generalize q2.setCell _ _ = q3 at *
  generalize q3.setCell _ _ = q4 at *
  generalize q4.setCell _ _ = q5 at *
  generalize q5.setCell _ _ = q6 at *
  generalize q6.setCell _ _ = q7 at *
  generalize q7.setCell _ _ = q8 at *
  generalize q8.setCell _ _ = q9 at *
  generalize q9.setCell _ _ = q10 at *
  generalize q10.setCell _ _ = q11 at *
  generalize q11.setCell _ _ = q12 at *
  generalize q12.setCell _ _ = q13 at *
  have hHq := hH q13 (fun k hk => hO k (by omega)) (by omega)
  simp only [List.length_map, List.length_nil] at hHq
  refine bodyPost_ret (v := .agg #[.int .u8 2, .int .i32 h.schema, .int .u64 h.thr, .int .u64 h.sum, .int .u64 h.zc, .int .u64 h.cnt, .slice r1 h.pos.length k1, .slice r2 h.neg.length k2, .slice r3 0 k3, .slice r4 0 k4, .slice r5 h.fups.length k5, .slice r6 h.fdowns.length k6, .slice r7 h.cus.length k7]) (by simp [results, Tryd.results14, go_sem, hr]) rfl ⟨_, _, _, _, _, _, _, rfl, hHq, hB6⟩

set_option maxRecDepth 100000 in
set_option maxHeartbeats 8000000 in
theorem hinted_it (v1 v2 v3 v4 v5 v6 v7 : Value) (h : Hist) (w : World) (ha : HistAt w w.heap.size v1 v2 v3 v4 v5 v6 v7 h) (hf : Fits h) :
    Calls Tryd.prog 14 #[.agg (histCells h v1 v2 v3 v4 v5 v6 v7), .bool true, .bool false] w fun e w' => ∃ y1 y2 y3 y4 y5 y6 y7, e = .returned (.agg (histCells ({ h with hint := 1, fups := [], fdowns := [] }) y1 y2 y3 y4 y5 y6 y7)) ∧
      HistAt w' w'.heap.size y1 y2 y3 y4 y5 y6 y7 ({ h with hint := 1, fups := [], fdowns := [] }) ∧ Below w.heap.size w w' := by
  unfold histCells
  obtain ⟨h2, h3, hn⟩ := two13 w #[.int .u8 h.hint, .int .i32 h.schema, .int .u64 h.thr, .int .u64 h.sum, .int .u64 h.zc, .int .u64 h.cnt, v1, v2, v3, v4, v5, v6, v7] #[.int .u8 0, .int .i32 0, .int .u64 0, .int .u64 0, .int .u64 0, .int .u64 0, .slice none 0 0, .slice none 0 0, .slice none 0 0, .slice none 0 0, .slice none 0 0, .slice none 0 0, .slice none 0 0] 27 27
  have hB0 : Below w.heap.size w ((w.alloc (.cells #[.int .u8 h.hint, .int .i32 h.schema, .int .u64 h.thr, .int .u64 h.sum, .int .u64 h.zc, .int .u64 h.cnt, v1, v2, v3, v4, v5, v6, v7] 27)).alloc (.cells #[.int .u8 0, .int .i32 0, .int .u64 0, .int .u64 0, .int .u64 0, .int .u64 0, .slice none 0 0, .slice none 0 0, .slice none 0 0, .slice none 0 0, .slice none 0 0, .slice none 0 0, .slice none 0 0] 27)) := ((Below.refl w.heap.size w).alloc (Nat.le_refl _) _).alloc (by simp) _
  have hca := cells_of_block h2
  have qa : ((w.alloc (.cells #[.int .u8 h.hint, .int .i32 h.schema, .int .u64 h.thr, .int .u64 h.sum, .int .u64 h.zc, .int .u64 h.cnt, v1, v2, v3, v4, v5, v6, v7] 27)).alloc (.cells #[.int .u8 0, .int .i32 0, .int .u64 0, .int .u64 0, .int .u64 0, .int .u64 0, .slice none 0 0, .slice none 0 0, .slice none 0 0, .slice none 0 0, .slice none 0 0, .slice none 0 0, .slice none 0 0] 27)).cell? ⟨w.heap.size, 0, none⟩ = some (.int .u8 h.hint) ∧ ((w.alloc (.cells #[.int .u8 h.hint, .int .i32 h.schema, .int .u64 h.thr, .int .u64 h.sum, .int .u64 h.zc, .int .u64 h.cnt, v1, v2, v3, v4, v5, v6, v7] 27)).alloc (.cells #[.int .u8 0, .int .i32 0, .int .u64 0, .int .u64 0, .int .u64 0, .int .u64 0, .slice none 0 0, .slice none 0 0, .slice none 0 0, .slice none 0 0, .slice none 0 0, .slice none 0 0, .slice none 0 0] 27)).cell? ⟨w.heap.size, 1, none⟩ = some (.int .i32 h.schema) ∧ ((w.alloc (.cells #[.int .u8 h.hint, .int .i32 h.schema, .int .u64 h.thr, .int .u64 h.sum, .int .u64 h.zc, .int .u64 h.cnt, v1, v2, v3, v4, v5, v6, v7] 27)).alloc (.cells #[.int .u8 0, .int .i32 0, .int .u64 0, .int .u64 0, .int .u64 0, .int .u64 0, .slice none 0 0, .slice none 0 0, .slice none 0 0, .slice none 0 0, .slice none 0 0, .slice none 0 0, .slice none 0 0] 27)).cell? ⟨w.heap.size, 2, none⟩ = some (.int .u64 h.thr) ∧ ((w.alloc (.cells #[.int .u8 h.hint, .int .i32 h.schema, .int .u64 h.thr, .int .u64 h.sum, .int .u64 h.zc, .int .u64 h.cnt, v1, v2, v3, v4, v5, v6, v7] 27)).alloc (.cells #[.int .u8 0, .int .i32 0, .int .u64 0, .int .u64 0, .int .u64 0, .int .u64 0, .slice none 0 0, .slice none 0 0, .slice none 0 0, .slice none 0 0, .slice none 0 0, .slice none 0 0, .slice none 0 0] 27)).cell? ⟨w.heap.size, 3, none⟩ = some (.int .u64 h.sum) ∧ ((w.alloc (.cells #[.int .u8 h.hint, .int .i32 h.schema, .int .u64 h.thr, .int .u64 h.sum, .int .u64 h.zc, .int .u64 h.cnt, v1, v2, v3, v4, v5, v6, v7] 27)).alloc (.cells #[.int .u8 0, .int .i32 0, .int .u64 0, .int .u64 0, .int .u64 0, .int .u64 0, .slice none 0 0, .slice none 0 0, .slice none 0 0, .slice none 0 0, .slice none 0 0, .slice none 0 0, .slice none 0 0] 27)).cell? ⟨w.heap.size, 4, none⟩ = some (.int .u64 h.zc) ∧ ((w.alloc (.cells #[.int .u8 h.hint, .int .i32 h.schema, .int .u64 h.thr, .int .u64 h.sum, .int .u64 h.zc, .int .u64 h.cnt, v1, v2, v3, v4, v5, v6, v7] 27)).alloc (.cells #[.int .u8 0, .int .i32 0, .int .u64 0, .int .u64 0, .int .u64 0, .int .u64 0, .slice none 0 0, .slice none 0 0, .slice none 0 0, .slice none 0 0, .slice none 0 0, .slice none 0 0, .slice none 0 0] 27)).cell? ⟨w.heap.size, 5, none⟩ = some (.int .u64 h.cnt) ∧ ((w.alloc (.cells #[.int .u8 h.hint, .int .i32 h.schema, .int .u64 h.thr, .int .u64 h.sum, .int .u64 h.zc, .int .u64 h.cnt, v1, v2, v3, v4, v5, v6, v7] 27)).alloc (.cells #[.int .u8 0, .int .i32 0, .int .u64 0, .int .u64 0, .int .u64 0, .int .u64 0, .slice none 0 0, .slice none 0 0, .slice none 0 0, .slice none 0 0, .slice none 0 0, .slice none 0 0, .slice none 0 0] 27)).cell? ⟨w.heap.size, 6, none⟩ = some (v1) ∧ ((w.alloc (.cells #[.int .u8 h.hint, .int .i32 h.schema, .int .u64 h.thr, .int .u64 h.sum, .int .u64 h.zc, .int .u64 h.cnt, v1, v2, v3, v4, v5, v6, v7] 27)).alloc (.cells #[.int .u8 0, .int .i32 0, .int .u64 0, .int .u64 0, .int .u64 0, .int .u64 0, .slice none 0 0, .slice none 0 0, .slice none 0 0, .slice none 0 0, .slice none 0 0, .slice none 0 0, .slice none 0 0] 27)).cell? ⟨w.heap.size, 7, none⟩ = some (v2) ∧ ((w.alloc (.cells #[.int .u8 h.hint, .int .i32 h.schema, .int .u64 h.thr, .int .u64 h.sum, .int .u64 h.zc, .int .u64 h.cnt, v1, v2, v3, v4, v5, v6, v7] 27)).alloc (.cells #[.int .u8 0, .int .i32 0, .int .u64 0, .int .u64 0, .int .u64 0, .int .u64 0, .slice none 0 0, .slice none 0 0, .slice none 0 0, .slice none 0 0, .slice none 0 0, .slice none 0 0, .slice none 0 0] 27)).cell? ⟨w.heap.size, 8, none⟩ = some (v3) ∧ ((w.alloc (.cells #[.int .u8 h.hint, .int .i32 h.schema, .int .u64 h.thr, .int .u64 h.sum, .int .u64 h.zc, .int .u64 h.cnt, v1, v2, v3, v4, v5, v6, v7] 27)).alloc (.cells #[.int .u8 0, .int .i32 0, .int .u64 0, .int .u64 0, .int .u64 0, .int .u64 0, .slice none 0 0, .slice none 0 0, .slice none 0 0, .slice none 0 0, .slice none 0 0, .slice none 0 0, .slice none 0 0] 27)).cell? ⟨w.heap.size, 9, none⟩ = some (v4) ∧ ((w.alloc (.cells #[.int .u8 h.hint, .int .i32 h.schema, .int .u64 h.thr, .int .u64 h.sum, .int .u64 h.zc, .int .u64 h.cnt, v1, v2, v3, v4, v5, v6, v7] 27)).alloc (.cells #[.int .u8 0, .int .i32 0, .int .u64 0, .int .u64 0, .int .u64 0, .int .u64 0, .slice none 0 0, .slice none 0 0, .slice none 0 0, .slice none 0 0, .slice none 0 0, .slice none 0 0, .slice none 0 0] 27)).cell? ⟨w.heap.size, 10, none⟩ = some (v5) ∧ ((w.alloc (.cells #[.int .u8 h.hint, .int .i32 h.schema, .int .u64 h.thr, .int .u64 h.sum, .int .u64 h.zc, .int .u64 h.cnt, v1, v2, v3, v4, v5, v6, v7] 27)).alloc (.cells #[.int .u8 0, .int .i32 0, .int .u64 0, .int .u64 0, .int .u64 0, .int .u64 0, .slice none 0 0, .slice none 0 0, .slice none 0 0, .slice none 0 0, .slice none 0 0, .slice none 0 0, .slice none 0 0] 27)).cell? ⟨w.heap.size, 11, none⟩ = some (v6) ∧ ((w.alloc (.cells #[.int .u8 h.hint, .int .i32 h.schema, .int .u64 h.thr, .int .u64 h.sum, .int .u64 h.zc, .int .u64 h.cnt, v1, v2, v3, v4, v5, v6, v7] 27)).alloc (.cells #[.int .u8 0, .int .i32 0, .int .u64 0, .int .u64 0, .int .u64 0, .int .u64 0, .slice none 0 0, .slice none 0 0, .slice none 0 0, .slice none 0 0, .slice none 0 0, .slice none 0 0, .slice none 0 0] 27)).cell? ⟨w.heap.size, 12, none⟩ = some (v7) := ⟨hca 0, hca 1, hca 2, hca 3, hca 4, hca 5, hca 6, hca 7, hca 8, hca 9, hca 10, hca 11, hca 12⟩
  have hK := Lib.hid h3
  clear hca h2 h3
  go_enter Tryd.func14, Tryd.ntmps14
  go_wp2_with fail
  have hN := Lib.hid hn
  clear qa hn
  generalize (w.alloc _).alloc _ = W at *
  have hn := hN.out
  have hza : w.heap.size + 1 < W.heap.size := by omega
  clear hn hN
  refine (whole_any v1 v2 v3 v4 v5 v6 v7 h W ((ha.below hB0 (Nat.le_refl _)).mono hB0.size (Nat.le_refl _)) hf).mono ?_
  rintro e w1 ⟨b, x1, x2, x3, x4, x5, rfl, hcell, ⟨⟨s1, s2, s3, s4, o1, o2, o3, o4, o5⟩, hnil⟩, hb1⟩
  have hfz : w1.frozen? ⟨b, 0, none⟩ = false := by simp [World.frozen?, hcell]
  have hC1 := Lib.hid hcell
  have hc10 := cells_of_block hcell 0
  have l1 := o1.le
  have l2 := o2.le
  have l3 := o3.le
  have l4 := o4.le
  have l5 := o5.le
  clear hcell
  go_wp2_with fail
  refine (setHint1 b _ w1 hc10 hfz).mono ?_
  rintro e w2 ⟨rfl, hw2⟩
  have h2cell := Lib.hid (setCell_heap (i := 0) hC1.out (.int .u8 1))
  rw [← hw2] at h2cell
  have hb2 : Below b w1 w2 := by rw [hw2]; exact (Below.refl b w1).setCell (Nat.le_refl _) _
  clear hw2 hc10 hfz
  have hc2 := cells_of_block h2cell.out
  have hbs : b < w2.heap.size := (Array.getElem?_eq_some_iff.1 h2cell.out).1
  have HC2 := Lib.hid hc2
  clear hc2
  replace o1 := o1.below hb2 (by omega)
  replace o2 := o2.below hb2 (by omega)
  replace o3 := o3.below hb2 (by omega)
  replace o4 := o4.below hb2 (by omega)
  replace o5 := o5.below hb2 (by omega)
  go_wp2_with fail
  refine (unwhole_any b x1 x2 x3 x4 x5 { h with hint := 1 } w2 ⟨HC2.out 0, HC2.out 1, HC2.out 2, HC2.out 3, HC2.out 4, HC2.out 5, HC2.out 6, HC2.out 7, HC2.out 8, HC2.out 9, HC2.out 10⟩ o1.pairs o2.pairs o3.ints o4.ints o5.floats ⟨hf.pos, hf.neg, hf.ups, hf.downs, hf.fups, hf.fdowns, hf.cus⟩ hbs).mono ?_
  rintro e w3 ⟨y1, y2, y3, y4, y5, y6, y7, rfl, hH, hb3⟩
  have hA := hH.at_
  unfold histCells
  obtain ⟨r1, k1, rfl, _, _⟩ := hA.pos.form
  obtain ⟨r2, k2, rfl, _, _⟩ := hA.neg.form
  obtain ⟨r3, k3, rfl, _, _⟩ := hA.ups.form
  obtain ⟨r4, k4, rfl, _, _⟩ := hA.downs.form
  obtain ⟨r5, k5, rfl, _, _⟩ := hA.fups.form
  obtain ⟨r6, k6, rfl, _, _⟩ := hA.fdowns.form
  obtain ⟨r7, k7, rfl, _, _⟩ := hA.cus.form
  have hB3 : Below w.heap.size w w3 := ((hB0.trans (hb1.mono hB0.size)).trans (hb2.mono (by omega))).trans (hb3.mono (by omega))
  have hz1 := hb1.size
  have hK1 := (hb1.block (w.heap.size + 1) hza).trans hK.out
  have hK2 := (hb2.block (w.heap.size + 1) (by omega)).trans hK1
  have hT3 : There13 w3 (w.heap.size + 1) := ⟨_, (hb3.block (w.heap.size + 1) (by omega)).trans hK2, rfl⟩
  clear hK1 hK2 hA
  have hr := cells_13 hT3 (.int .u8 1) (.int .i32 h.schema) (.int .u64 h.thr) (.int .u64 h.sum) (.int .u64 h.zc) (.int .u64 h.cnt) (.slice r1 h.pos.length k1) (.slice r2 h.neg.length k2) (.slice r3 h.ups.length k3) (.slice r4 h.downs.length k4) (.slice r5 0 k5) (.slice r6 0 k6) (.slice r7 h.cus.length k7)
  have hB6 := hB3.trans ((below_13 (Below.refl (w.heap.size + 1) w3) (.int .u8 1) (.int .i32 h.schema) (.int .u64 h.thr) (.int .u64 h.sum) (.int .u64 h.zc) (.int .u64 h.cnt) (.slice r1 h.pos.length k1) (.slice r2 h.neg.length k2) (.slice r3 h.ups.length k3) (.slice r4 h.downs.length k4) (.slice r5 0 k5) (.slice r6 0 k6) (.slice r7 h.cus.length k7)).mono (Nat.le_succ _))
  have hO := fun k (hk : k ≠ w.heap.size + 1) => other_13 (w := w3) hk (.int .u8 1) (.int .i32 h.schema) (.int .u64 h.thr) (.int .u64 h.sum) (.int .u64 h.zc) (.int .u64 h.cnt) (.slice r1 h.pos.length k1) (.slice r2 h.neg.length k2) (.slice r3 h.ups.length k3) (.slice r4 h.downs.length k4) (.slice r5 0 k5) (.slice r6 0 k6) (.slice r7 h.cus.length k7)
  have hS := size_13 (w := w3) (g := w.heap.size + 1) (.int .u8 1) (.int .i32 h.schema) (.int .u64 h.thr) (.int .u64 h.sum) (.int .u64 h.zc) (.int .u64 h.cnt) (.slice r1 h.pos.length k1) (.slice r2 h.neg.length k2) (.slice r3 h.ups.length k3) (.slice r4 h.downs.length k4) (.slice r5 0 k5) (.slice r6 0 k6) (.slice r7 h.cus.length k7)
  have hw2s : w.heap.size + 1 < w2.heap.size := by omega
  have HR := Lib.hid hr
  have HO := Lib.hid hO
  have HS := Lib.hid hS
  clear hr hO hS hb1 hb2 hb3 hB0 hB3
  go_wp2_with fail
  have hr := HR.out
  have hO := HO.out
  have hS := HS.out
  clear HR HO HS hT3
  generalize w3.setCell _ _ = q1 at *
  generalize q1.setCell _ _ = q2 at *
  generalize q2.setCell _ _ = q3 at *
  generalize q3.setCell _ _ = q4 at *
  generalize q4.setCell _ _ = q5 at *
  generalize q5.setCell _ _ = q6 at *
  generalize q6.setCell _ _ = q7 at *
  generalize q7.setCell _ _ = q8 at *
  generalize q8.setCell _ _ = q9 at *
  generalize q9.setCell _ _ = q10 at *
  generalize q10.setCell _ _ = q11 at *
  generalize q11.setCell _ _ = q12 at *
  generalize q12.setCell _ _ = q13 at *
  have hHq := hH q13 (fun k hk => hO k (by omega)) (by omega)
  simp only [List.length_map, List.length_nil] at hHq
  refine bodyPost_ret (v := .agg #[.int .u8 1, .int .i32 h.schema, .int .u64 h.thr, .int .u64 h.sum, .int .u64 h.zc, .int .u64 h.cnt, .slice r1 h.pos.length k1, .slice r2 h.neg.length k2, .slice r3 h.ups.length k3, .slice r4 h.downs.length k4, .slice r5 0 k5, .slice r6 0 k6, .slice r7 h.cus.length k7]) (by simp [results, Tryd.results14, go_sem, hr]) rfl ⟨_, _, _, _, _, _, _, rfl, hHq, hB6⟩

set_option maxRecDepth 100000 in
set_option maxHeartbeats 8000000 in
theorem hinted_if (v1 v2 v3 v4 v5 v6 v7 : Value) (h : Hist) (w : World) (ha : HistAt w w.heap.size v1 v2 v3 v4 v5 v6 v7 h) (hf : Fits h) :
    Calls Tryd.prog 14 #[.agg (histCells h v1 v2 v3 v4 v5 v6 v7), .bool false, .bool false] w fun e w' => ∃ y1 y2 y3 y4 y5 y6 y7, e = .returned (.agg (histCells ({ h with hint := 2, fups := [], fdowns := [] }) y1 y2 y3 y4 y5 y6 y7)) ∧
      HistAt w' w'.heap.size y1 y2 y3 y4 y5 y6 y7 ({ h with hint := 2, fups := [], fdowns := [] }) ∧ Below w.heap.size w w' := by
  unfold histCells
  obtain ⟨h2, h3, hn⟩ := two13 w #[.int .u8 h.hint, .int .i32 h.schema, .int .u64 h.thr, .int .u64 h.sum, .int .u64 h.zc, .int .u64 h.cnt, v1, v2, v3, v4, v5, v6, v7] #[.int .u8 0, .int .i32 0, .int .u64 0, .int .u64 0, .int .u64 0, .int .u64 0, .slice none 0 0, .slice none 0 0, .slice none 0 0, .slice none 0 0, .slice none 0 0, .slice none 0 0, .slice none 0 0] 27 27
  have hB0 : Below w.heap.size w ((w.alloc (.cells #[.int .u8 h.hint, .int .i32 h.schema, .int .u64 h.thr, .int .u64 h.sum, .int .u64 h.zc, .int .u64 h.cnt, v1, v2, v3, v4, v5, v6, v7] 27)).alloc (.cells #[.int .u8 0, .int .i32 0, .int .u64 0, .int .u64 0, .int .u64 0, .int .u64 0, .slice none 0 0, .slice none 0 0, .slice none 0 0, .slice none 0 0, .slice none 0 0, .slice none 0 0, .slice none 0 0] 27)) := ((Below.refl w.heap.size w).alloc (Nat.le_refl _) _).alloc (by simp) _
  have hca := cells_of_block h2
  have qa : ((w.alloc (.cells #[.int .u8 h.hint, .int .i32 h.schema, .int .u64 h.thr, .int .u64 h.sum, .int .u64 h.zc, .int .u64 h.cnt, v1, v2, v3, v4, v5, v6, v7] 27)).alloc (.cells #[.int .u8 0, .int .i32 0, .int .u64 0, .int .u64 0, .int .u64 0, .int .u64 0, .slice none 0 0, .slice none 0 0, .slice none 0 0, .slice none 0 0, .slice none 0 0, .slice none 0 0, .slice none 0 0] 27)).cell? ⟨w.heap.size, 0, none⟩ = some (.int .u8 h.hint) ∧ ((w.alloc (.cells #[.int .u8 h.hint, .int .i32 h.schema, .int .u64 h.thr, .int .u64 h.sum, .int .u64 h.zc, .int .u64 h.cnt, v1, v2, v3, v4, v5, v6, v7] 27)).alloc (.cells #[.int .u8 0, .int .i32 0, .int .u64 0, .int .u64 0, .int .u64 0, .int .u64 0, .slice none 0 0, .slice none 0 0, .slice none 0 0, .slice none 0 0, .slice none 0 0, .slice none 0 0, .slice none 0 0] 27)).cell? ⟨w.heap.size, 1, none⟩ = some (.int .i32 h.schema) ∧ ((w.alloc (.cells #[.int .u8 h.hint, .int .i32 h.schema, .int .u64 h.thr, .int .u64 h.sum, .int .u64 h.zc, .int .u64 h.cnt, v1, v2, v3, v4, v5, v6, v7] 27)).alloc (.cells #[.int .u8 0, .int .i32 0, .int .u64 0, .int .u64 0, .int .u64 0, .int .u64 0, .slice none 0 0, .slice none 0 0, .slice none 0 0, .slice none 0 0, .slice none 0 0, .slice none 0 0, .slice none 0 0] 27)).cell? ⟨w.heap.size, 2, none⟩ = some (.int .u64 h.thr) ∧ ((w.alloc (.cells #[.int .u8 h.hint, .int .i32 h.schema, .int .u64 h.thr, .int .u64 h.sum, .int .u64 h.zc, .int .u64 h.cnt, v1, v2, v3, v4, v5, v6, v7] 27)).alloc (.cells #[.int .u8 0, .int .i32 0, .int .u64 0, .int .u64 0, .int .u64 0, .int .u64 0, .slice none 0 0, .slice none 0 0, .slice none 0 0, .slice none 0 0, .slice none 0 0, .slice none 0 0, .slice none 0 0] 27)).cell? ⟨w.heap.size, 3, none⟩ = some (.int .u64 h.sum) ∧ ((w.alloc (.cells #[.int .u8 h.hint, .int .i32 h.schema, .int .u64 h.thr, .int .u64 h.sum, .int .u64 h.zc, .int .u64 h.cnt, v1, v2, v3, v4, v5, v6, v7] 27)).alloc (.cells #[.int .u8 0, .int .i32 0, .int .u64 0, .int .u64 0, .int .u64 0, .int .u64 0, .slice none 0 0, .slice none 0 0, .slice none 0 0, .slice none 0 0, .slice none 0 0, .slice none 0 0, .slice none 0 0] 27)).cell? ⟨w.heap.size, 4, none⟩ = some (.int .u64 h.zc) ∧ ((w.alloc (.cells #[.int .u8 h.hint, .int .i32 h.schema, .int .u64 h.thr, .int .u64 h.sum, .int .u64 h.zc, .int .u64 h.cnt, v1, v2, v3, v4, v5, v6, v7] 27)).alloc (.cells #[.int .u8 0, .int .i32 0, .int .u64 0, .int .u64 0, .int .u64 0, .int .u64 0, .slice none 0 0, .slice none 0 0, .slice none 0 0, .slice none 0 0, .slice none 0 0, .slice none 0 0, .slice none 0 0] 27)).cell? ⟨w.heap.size, 5, none⟩ = some (.int .u64 h.cnt) ∧ ((w.alloc (.cells #[.int .u8 h.hint, .int .i32 h.schema, .int .u64 h.thr, .int .u64 h.sum, .int .u64 h.zc, .int .u64 h.cnt, v1, v2, v3, v4, v5, v6, v7] 27)).alloc (.cells #[.int .u8 0, .int .i32 0, .int .u64 0, .int .u64 0, .int .u64 0, .int .u64 0, .slice none 0 0, .slice none 0 0, .slice none 0 0, .slice none 0 0, .slice none 0 0, .slice none 0 0, .slice none 0 0] 27)).cell? ⟨w.heap.size, 6, none⟩ = some (v1) ∧ ((w.alloc (.cells #[.int .u8 h.hint, .int .i32 h.schema, .int .u64 h.thr, .int .u64 h.sum, .int .u64 h.zc, .int .u64 h.cnt, v1, v2, v3, v4, v5, v6, v7] 27)).alloc (.cells #[.int .u8 0, .int .i32 0, .int .u64 0, .int .u64 0, .int .u64 0, .int .u64 0, .slice none 0 0, .slice none 0 0, .slice none 0 0, .slice none 0 0, .slice none 0 0, .slice none 0 0, .slice none 0 0] 27)).cell? ⟨w.heap.size, 7, none⟩ = some (v2) ∧ ((w.alloc (.cells #[.int .u8 h.hint, .int .i32 h.schema, .int .u64 h.thr, .int .u64 h.sum, .int .u64 h.zc, .int .u64 h.cnt, v1, v2, v3, v4, v5, v6, v7] 27)).alloc (.cells #[.int .u8 0, .int .i32 0, .int .u64 0, .int .u64 0, .int .u64 0, .int .u64 0, .slice none 0 0, .slice none 0 0, .slice none 0 0, .slice none 0 0, .slice none 0 0, .slice none 0 0, .slice none 0 0] 27)).cell? ⟨w.heap.size, 8, none⟩ = some (v3) ∧ ((w.alloc (.cells #[.int .u8 h.hint, .int .i32 h.schema, .int .u64 h.thr, .int .u64 h.sum, .int .u64 h.zc, .int .u64 h.cnt, v1, v2, v3, v4, v5, v6, v7] 27)).alloc (.cells #[.int .u8 0, .int .i32 0, .int .u64 0, .int .u64 0, .int .u64 0, .int .u64 0, .slice none 0 0, .slice none 0 0, .slice none 0 0, .slice none 0 0, .slice none 0 0, .slice none 0 0, .slice none 0 0] 27)).cell? ⟨w.heap.size, 9, none⟩ = some (v4) ∧ ((w.alloc (.cells #[.int .u8 h.hint, .int .i32 h.schema, .int .u64 h.thr, .int .u64 h.sum, .int .u64 h.zc, .int .u64 h.cnt, v1, v2, v3, v4, v5, v6, v7] 27)).alloc (.cells #[.int .u8 0, .int .i32 0, .int .u64 0, .int .u64 0, .int .u64 0, .int .u64 0, .slice none 0 0, .slice none 0 0, .slice none 0 0, .slice none 0 0, .slice none 0 0, .slice none 0 0, .slice none 0 0] 27)).cell? ⟨w.heap.size, 10, none⟩ = some (v5) ∧ ((w.alloc (.cells #[.int .u8 h.hint, .int .i32 h.schema, .int .u64 h.thr, .int .u64 h.sum, .int .u64 h.zc, .int .u64 h.cnt, v1, v2, v3, v4, v5, v6, v7] 27)).alloc (.cells #[.int .u8 0, .int .i32 0, .int .u64 0, .int .u64 0, .int .u64 0, .int .u64 0, .slice none 0 0, .slice none 0 0, .slice none 0 0, .slice none 0 0, .slice none 0 0, .slice none 0 0, .slice none 0 0] 27)).cell? ⟨w.heap.size, 11, none⟩ = some (v6) ∧ ((w.alloc (.cells #[.int .u8 h.hint, .int .i32 h.schema, .int .u64 h.thr, .int .u64 h.sum, .int .u64 h.zc, .int .u64 h.cnt, v1, v2, v3, v4, v5, v6, v7] 27)).alloc (.cells #[.int .u8 0, .int .i32 0, .int .u64 0, .int .u64 0, .int .u64 0, .int .u64 0, .slice none 0 0, .slice none 0 0, .slice none 0 0, .slice none 0 0, .slice none 0 0, .slice none 0 0, .slice none 0 0] 27)).cell? ⟨w.heap.size, 12, none⟩ = some (v7) := ⟨hca 0, hca 1, hca 2, hca 3, hca 4, hca 5, hca 6, hca 7, hca 8, hca 9, hca 10, hca 11, hca 12⟩
  have hK := Lib.hid h3
  clear hca h2 h3
  go_enter Tryd.func14, Tryd.ntmps14
  go_wp2_with fail
  have hN := Lib.hid hn
  clear qa hn
  generalize (w.alloc _).alloc _ = W at *
  have hn := hN.out
  have hza : w.heap.size + 1 < W.heap.size := by omega
  clear hn hN
  refine (whole_any v1 v2 v3 v4 v5 v6 v7 h W ((ha.below hB0 (Nat.le_refl _)).mono hB0.size (Nat.le_refl _)) hf).mono ?_
  rintro e w1 ⟨b, x1, x2, x3, x4, x5, rfl, hcell, ⟨⟨s1, s2, s3, s4, o1, o2, o3, o4, o5⟩, hnil⟩, hb1⟩
  have hfz : w1.frozen? ⟨b, 0, none⟩ = false := by simp [World.frozen?, hcell]
  have hC1 := Lib.hid hcell
  have hc10 := cells_of_block hcell 0
  have l1 := o1.le
  have l2 := o2.le
  have l3 := o3.le
  have l4 := o4.le
  have l5 := o5.le
  clear hcell
  go_wp2_with fail
  refine (setHint2 b _ w1 hc10 hfz).mono ?_
  rintro e w2 ⟨rfl, hw2⟩
  have h2cell := Lib.hid (setCell_heap (i := 0) hC1.out (.int .u8 2))
  rw [← hw2] at h2cell
  have hb2 : Below b w1 w2 := by rw [hw2]; exact (Below.refl b w1).setCell (Nat.le_refl _) _
  clear hw2 hc10 hfz
  have hc2 := cells_of_block h2cell.out
  have hbs : b < w2.heap.size := (Array.getElem?_eq_some_iff.1 h2cell.out).1
  have HC2 := Lib.hid hc2
  clear hc2
  replace o1 := o1.below hb2 (by omega)
  replace o2 := o2.below hb2 (by omega)
  replace o3 := o3.below hb2 (by omega)
  replace o4 := o4.below hb2 (by omega)
  replace o5 := o5.below hb2 (by omega)
  go_wp2_with fail
  refine (unwhole_any b x1 x2 x3 x4 x5 { h with hint := 2 } w2 ⟨HC2.out 0, HC2.out 1, HC2.out 2, HC2.out 3, HC2.out 4, HC2.out 5, HC2.out 6, HC2.out 7, HC2.out 8, HC2.out 9, HC2.out 10⟩ o1.pairs o2.pairs o3.ints o4.ints o5.floats ⟨hf.pos, hf.neg, hf.ups, hf.downs, hf.fups, hf.fdowns, hf.cus⟩ hbs).mono ?_
  rintro e w3 ⟨y1, y2, y3, y4, y5, y6, y7, rfl, hH, hb3⟩
  have hA := hH.at_
  unfold histCells
  obtain ⟨r1, k1, rfl, _, _⟩ := hA.pos.form
  obtain ⟨r2, k2, rfl, _, _⟩ := hA.neg.form
  obtain ⟨r3, k3, rfl, _, _⟩ := hA.ups.form
  obtain ⟨r4, k4, rfl, _, _⟩ := hA.downs.form
  obtain ⟨r5, k5, rfl, _, _⟩ := hA.fups.form
  obtain ⟨r6, k6, rfl, _, _⟩ := hA.fdowns.form
  obtain ⟨r7, k7, rfl, _, _⟩ := hA.cus.form
  have hB3 : Below w.heap.size w w3 := ((hB0.trans (hb1.mono hB0.size)).trans (hb2.mono (by omega))).trans (hb3.mono (by omega))
  have hz1 := hb1.size
  have hK1 := (hb1.block (w.heap.size + 1) hza).trans hK.out
  have hK2 := (hb2.block (w.heap.size + 1) (by omega)).trans hK1
  have hT3 : There13 w3 (w.heap.size + 1) := ⟨_, (hb3.block (w.heap.size + 1) (by omega)).trans hK2, rfl⟩
  clear hK1 hK2 hA
  have hr := cells_13 hT3 (.int .u8 2) (.int .i32 h.schema) (.int .u64 h.thr) (.int .u64 h.sum) (.int .u64 h.zc) (.int .u64 h.cnt) (.slice r1 h.pos.length k1) (.slice r2 h.neg.length k2) (.slice r3 h.ups.length k3) (.slice r4 h.downs.length k4) (.slice r5 0 k5) (.slice r6 0 k6) (.slice r7 h.cus.length k7)
  have hB6 := hB3.trans ((below_13 (Below.refl (w.heap.size + 1) w3) (.int .u8 2) (.int .i32 h.schema) (.int .u64 h.thr) (.int .u64 h.sum) (.int .u64 h.zc) (.int .u64 h.cnt) (.slice r1 h.pos.length k1) (.slice r2 h.neg.length k2) (.slice r3 h.ups.length k3) (.slice r4 h.downs.length k4) (.slice r5 0 k5) (.slice r6 0 k6) (.slice r7 h.cus.length k7)).mono (Nat.le_succ _))
  have hO := fun k (hk : k ≠ w.heap.size + 1) => other_13 (w := w3) hk (.int .u8 2) (.int .i32 h.schema) (.int .u64 h.thr) (.int .u64 h.sum) (.int .u64 h.zc) (.int .u64 h.cnt) (.slice r1 h.pos.length k1) (.slice r2 h.neg.length k2) (.slice r3 h.ups.length k3) (.slice r4 h.downs.length k4) (.slice r5 0 k5) (.slice r6 0 k6) (.slice r7 h.cus.length k7)
  have hS := size_13 (w := w3) (g := w.heap.size + 1) (.int .u8 2) (.int .i32 h.schema) (.int .u64 h.thr) (.int .u64 h.sum) (.int .u64 h.zc) (.int .u64 h.cnt) (.slice r1 h.pos.length k1) (.slice r2 h.neg.length k2) (.slice r3 h.ups.length k3) (.slice r4 h.downs.length k4) (.slice r5 0 k5) (.slice r6 0 k6) (.slice r7 h.cus.length k7)
  have hw2s : w.heap.size + 1 < w2.heap.size := by omega
  have HR := Lib.hid hr
  have HO := Lib.hid hO
  have HS := Lib.hid hS
  clear hr hO hS hb1 hb2 hb3 hB0 hB3
  go_wp2_with fail
  have hr := HR.out
  have hO := HO.out
  have hS := HS.out
  clear HR HO HS hT3
  generalize w3.setCell _ _ = q1 at *
  generalize q1.setCell _ _ = q2 at *
  generalize q2.setCell _ _ = q3 at *
  generalize q3.setCell _ _ = q4 at *
  generalize q4.setCell _ _ = q5 at *
  generalize q5.setCell _ _ = q6 at *
  generalize q6.setCell _ _ = q7 at *
  generalize q7.setCell _ _ = q8 at *
  generalize q8.setCell _ _ = q9 at *
  generalize q9.setCell _ _ = q10 at *
  generalize q10.setCell _ _ = q11 at *
  generalize q11.setCell _ _ = q12 at *
  generalize q12.setCell _ _ = q13 at *
  have hHq := hH q13 (fun k hk => hO k (by omega)) (by omega)
  simp only [List.length_map, List.length_nil] at hHq
  refine bodyPost_ret (v := .agg #[.int .u8 2, .int .i32 h.schema, .int .u64 h.thr, .int .u64 h.sum, .int .u64 h.zc, .int .u64 h.cnt, .slice r1 h.pos.length k1, .slice r2 h.neg.length k2, .slice r3 h.ups.length k3, .slice r4 h.downs.length k4, .slice r5 0 k5, .slice r6 0 k6, .slice r7 h.cus.length k7]) (by simp [results, Tryd.results14, go_sem, hr]) rfl ⟨_, _, _, _, _, _, _, rfl, hHq, hB6⟩

/-- the histogram with the hint -/
def hintH (fl rs : Bool) (h : Hist) : Hist := if fl = true then { h with hint := if rs = true then 1 else 2, ups := [], downs := [] } else { h with hint := if rs = true then 1 else 2, fups := [], fdowns := [] }

theorem hinted_any (fl rs : Bool) (v1 v2 v3 v4 v5 v6 v7 : Value) (h : Hist) (w : World) (ha : HistAt w w.heap.size v1 v2 v3 v4 v5 v6 v7 h) (hf : Fits h) :
    Calls Tryd.prog 14 #[.agg (histCells h v1 v2 v3 v4 v5 v6 v7), .bool rs, .bool fl] w fun e w' => ∃ y1 y2 y3 y4 y5 y6 y7, e = .returned (.agg (histCells (hintH fl rs h) y1 y2 y3 y4 y5 y6 y7)) ∧
      HistAt w' w'.heap.size y1 y2 y3 y4 y5 y6 y7 (hintH fl rs h) ∧ Below w.heap.size w w' := by
  cases fl <;> cases rs
  · exact hinted_if v1 v2 v3 v4 v5 v6 v7 h w ha hf
  · exact hinted_it v1 v2 v3 v4 v5 v6 v7 h w ha hf
  · exact hinted_ff v1 v2 v3 v4 v5 v6 v7 h w ha hf
  · exact hinted_ft v1 v2 v3 v4 v5 v6 v7 h w ha hf

theorem inner_true (ds : List Int) (cs : List Nat) : ∀ (r : Nat) (s : Bst), inner true ds cs r s = inner true [] cs r s
  | 0, _ => rfl
  | r + 1, s => by rw [inner_succ, inner_succ]; simp only [if_true]; rw [inner_true ds cs r]
theorem outer_true (ds : List Int) (cs : List Nat) : ∀ (f : Bool) (l : List (Int × Int)) (s : Bst), outer true ds cs f l s = outer true [] cs f l s
  | _, [], _ => rfl
  | f, x :: l, s => by
    rw [outer_cons, outer_cons, inner_true]
    split
    · rfl
    · split
      · rfl
      · exact outer_true ds cs false l _
theorem bkts_true (l : List (Int × Int)) (ds : List Int) (cs : List Nat) : bkts true l ds cs = bkts true l [] cs := by unfold bkts; rw [outer_true]; rfl
theorem inner_false (ds : List Int) (cs : List Nat) : ∀ (r : Nat) (s : Bst), inner false ds cs r s = inner false ds [] r s
  | 0, _ => rfl
  | r + 1, s => by rw [inner_succ, inner_succ]; simp only [Bool.false_eq_true, if_false]; rw [inner_false ds cs r]
theorem outer_false (ds : List Int) (cs : List Nat) : ∀ (f : Bool) (l : List (Int × Int)) (s : Bst), outer false ds cs f l s = outer false ds [] f l s
  | _, [], _ => rfl
  | f, x :: l, s => by
    rw [outer_cons, outer_cons, inner_false]
    split
    · rfl
    · split
      · rfl
      · exact outer_false ds cs false l _
theorem bkts_false (l : List (Int × Int)) (ds : List Int) (cs : List Nat) : bkts false l ds cs = bkts false l ds [] := by unfold bkts; rw [outer_false]; rfl

theorem hint_same (fl rs : Bool) (h : Hist) : SameD fl (hintH fl rs h) h := by
  cases fl
  · exact ⟨rfl, rfl, rfl, rfl, rfl, rfl, rfl, rfl, congrArg Prod.fst (bkts_false h.pos h.ups h.fups).symm, congrArg Prod.fst (bkts_false h.neg h.downs h.fdowns).symm⟩
  · exact ⟨rfl, rfl, rfl, rfl, rfl, rfl, rfl, rfl, congrArg Prod.fst (bkts_true h.pos h.ups h.fups).symm, congrArg Prod.fst (bkts_true h.neg h.downs h.fdowns).symm⟩
theorem hint_fits {fl rs : Bool} {h : Hist} (hf : Fits h) : Fits (hintH fl rs h) := by
  cases fl
  · exact ⟨hf.pos, hf.neg, hf.ups, hf.downs, Nat.zero_le _, Nat.zero_le _, hf.cus⟩
  · exact ⟨hf.pos, hf.neg, Nat.zero_le _, Nat.zero_le _, hf.fups, hf.fdowns, hf.cus⟩
theorem hint_wf {fl rs : Bool} {h : Hist} (hw : Wf h) : Wf (hintH fl rs h) := by cases fl <;> exact ⟨hw.pos, hw.neg⟩
theorem hint_hint (fl rs : Bool) (h : Hist) : (hintH fl rs h).hint = if rs = true then 1 else 2 := by cases fl <;> rfl
end Go.Proofs.YtbgkoapnejnfbaaDoor
