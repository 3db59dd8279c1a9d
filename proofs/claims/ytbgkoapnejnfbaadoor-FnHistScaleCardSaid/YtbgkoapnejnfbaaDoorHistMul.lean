/-
  A float histogram multiplied, or divided, as data.
-/
import Derived.Test.YtbgkoapnejnfbaaDoorHinted
import Derived.Test.YtbgkoapnejnfbaaDoorMul
namespace Go.Proofs.YtbgkoapnejnfbaaDoor
set_option linter.unusedSimpArgs false
set_option linter.unusedVariables false
open Go.RowKit
attribute [local go_sem ↓] Go.wp_at_zero Go.wp_at_succ
attribute [local go_sem] cell_there frozen_there

set_option maxRecDepth 100000 in
set_option maxHeartbeats 8000000 in
theorem histMul_any (v1 v2 v3 v4 v5 v6 v7 : Value) (h : Hist) (f : Nat) (w : World) (ha : HistAt w w.heap.size v1 v2 v3 v4 v5 v6 v7 h) (hf : Fits h) :
    Calls Tryd.prog 16 #[.agg (histCells h v1 v2 v3 v4 v5 v6 v7), .int .u64 f] w fun e w' => ∃ h' y1 y2 y3 y4 y5 y6 y7, e = .returned (.agg (histCells { h' with ups := [], downs := [] } y1 y2 y3 y4 y5 y6 y7)) ∧
      HistAt w' w'.heap.size y1 y2 y3 y4 y5 y6 y7 { h' with ups := [], downs := [] } ∧ Scl false f h h' ∧ Fresh w.heap.size w' y1 y2 y3 y4 y5 y6 y7 { h' with ups := [], downs := [] } ∧ Below w.heap.size w w' := by
  unfold histCells
  obtain ⟨h2, h3, hn⟩ := two13 w #[.int .u8 h.hint, .int .i32 h.schema, .int .u64 h.thr, .int .u64 h.sum, .int .u64 h.zc, .int .u64 h.cnt, v1, v2, v3, v4, v5, v6, v7] #[.int .u8 0, .int .i32 0, .int .u64 0, .int .u64 0, .int .u64 0, .int .u64 0, .slice none 0 0, .slice none 0 0, .slice none 0 0, .slice none 0 0, .slice none 0 0, .slice none 0 0, .slice none 0 0] 27 27
  have hB0 : Below w.heap.size w ((w.alloc (.cells #[.int .u8 h.hint, .int .i32 h.schema, .int .u64 h.thr, .int .u64 h.sum, .int .u64 h.zc, .int .u64 h.cnt, v1, v2, v3, v4, v5, v6, v7] 27)).alloc (.cells #[.int .u8 0, .int .i32 0, .int .u64 0, .int .u64 0, .int .u64 0, .int .u64 0, .slice none 0 0, .slice none 0 0, .slice none 0 0, .slice none 0 0, .slice none 0 0, .slice none 0 0, .slice none 0 0] 27)) := ((Below.refl w.heap.size w).alloc (Nat.le_refl _) _).alloc (by simp) _
  have hca := cells_of_block h2
  have qa : ((w.alloc (.cells #[.int .u8 h.hint, .int .i32 h.schema, .int .u64 h.thr, .int .u64 h.sum, .int .u64 h.zc, .int .u64 h.cnt, v1, v2, v3, v4, v5, v6, v7] 27)).alloc (.cells #[.int .u8 0, .int .i32 0, .int .u64 0, .int .u64 0, .int .u64 0, .int .u64 0, .slice none 0 0, .slice none 0 0, .slice none 0 0, .slice none 0 0, .slice none 0 0, .slice none 0 0, .slice none 0 0] 27)).cell? ⟨w.heap.size, 0, none⟩ = some (.int .u8 h.hint) ∧ ((w.alloc (.cells #[.int .u8 h.hint, .int .i32 h.schema, .int .u64 h.thr, .int .u64 h.sum, .int .u64 h.zc, .int .u64 h.cnt, v1, v2, v3, v4, v5, v6, v7] 27)).alloc (.cells #[.int .u8 0, .int .i32 0, .int .u64 0, .int .u64 0, .int .u64 0, .int .u64 0, .slice none 0 0, .slice none 0 0, .slice none 0 0, .slice none 0 0, .slice none 0 0, .slice none 0 0, .slice none 0 0] 27)).cell? ⟨w.heap.size, 1, none⟩ = some (.int .i32 h.schema) ∧ ((w.alloc (.cells #[.int .u8 h.hint, .int .i32 h.schema, .int .u64 h.thr, .int .u64 h.sum, .int .u64 h.zc, .int .u64 h.cnt, v1, v2, v3, v4, v5, v6, v7] 27)).alloc (.cells #[.int .u8 0, .int .i32 0, .int .u64 0, .int .u64 0, .int .u64 0, .int .u64 0, .slice none 0 0, .slice none 0 0, .slice none 0 0, .slice none 0 0, .slice none 0 0, .slice none 0 0, .slice none 0 0] 27)).cell? ⟨w.heap.size, 2, none⟩ = some (.int .u64 h.thr) ∧ ((w.alloc (.cells #[.int .u8 h.hint, .int .i32 h.schema, .int .u64 h.thr, .int .u64 h.sum, .int .u64 h.zc, .int .u64 h.cnt, v1, v2, v3, v4, v5, v6, v7] 27)).alloc (.cells #[.int .u8 0, .int .i32 0, .int .u64 0, .int .u64 0, .int .u64 0, .int .u64 0, .slice none 0 0, .slice none 0 0, .slice none 0 0, .slice none 0 0, .slice none 0 0, .slice none 0 0, .slice none 0 0] 27)).cell? ⟨w.heap.size, 3, none⟩ = some (.int .u64 h.sum) ∧ ((w.alloc (.cells #[.int .u8 h.hint, .int .i32 h.schema, .int .u64 h.thr, .int .u64 h.sum, .int .u64 h.zc, .int .u64 h.cnt, v1, v2, v3, v4, v5, v6, v7] 27)).alloc (.cells #[.int .u8 0, .int .i32 0, .int .u64 0, .int .u64 0, .int .u64 0, .int .u64 0, .slice none 0 0, .slice none 0 0, .slice none 0 0, .slice none 0 0, .slice none 0 0, .slice none 0 0, .slice none 0 0] 27)).cell? ⟨w.heap.size, 4, none⟩ = some (.int .u64 h.zc) ∧ ((w.alloc (.cells #[.int .u8 h.hint, .int .i32 h.schema, .int .u64 h.thr, .int .u64 h.sum, .int .u64 h.zc, .int .u64 h.cnt, v1, v2, v3, v4, v5, v6, v7] 27)).alloc (.cells #[.int .u8 0, .int .i32 0, .int .u64 0, .int .u64 0, .int .u64 0, .int .u64 0, .slice none 0 0, .slice none 0 0, .slice none 0 0, .slice none 0 0, .slice none 0 0, .slice none 0 0, .slice none 0 0] 27)).cell? ⟨w.heap.size, 5, none⟩ = some (.int .u64 h.cnt) ∧ ((w.alloc (.cells #[.int .u8 h.hint, .int .i32 h.schema, .int .u64 h.thr, .int .u64 h.sum, .int .u64 h.zc, .int .u64 h.cnt, v1, v2, v3, v4, v5, v6, v7] 27)).alloc (.cells #[.int .u8 0, .int .i32 0, .int .u64 0, .int .u64 0, .int .u64 0, .int .u64 0, .slice none 0 0, .slice none 0 0, .slice none 0 0, .slice none 0 0, .slice none 0 0, .slice none 0 0, .slice none 0 0] 27)).cell? ⟨w.heap.size, 6, none⟩ = some (v1) ∧ ((w.alloc (.cells #[.int .u8 h.hint, .int .i32 h.schema, .int .u64 h.thr, .int .u64 h.sum, .int .u64 h.zc, .int .u64 h.cnt, v1, v2, v3, v4, v5, v6, v7] 27)).alloc (.cells #[.int .u8 0, .int .i32 0, .int .u64 0, .int .u64 0, .int .u64 0, .int .u64 0, .slice none 0 0, .slice none 0 0, .slice none 0 0, .slice none 0 0, .slice none 0 0, .slice none 0 0, .slice none 0 0] 27)).cell? ⟨w.heap.size, 7, none⟩ = some (v2) ∧ ((w.alloc (.cells #[.int .u8 h.hint, .int .i32 h.schema, .int .u64 h.thr, .int .u64 h.sum, .int .u64 h.zc, .int .u64 h.cnt, v1, v2, v3, v4, v5, v6, v7] 27)).alloc (.cells #[.int .u8 0, .int .i32 0, .int .u64 0, .int .u64 0, .int .u64 0, .int .u64 0, .slice none 0 0, .slice none 0 0, .slice none 0 0, .slice none 0 0, .slice none 0 0, .slice none 0 0, .slice none 0 0] 27)).cell? ⟨w.heap.size, 8, none⟩ = some (v3) ∧ ((w.alloc (.cells #[.int .u8 h.hint, .int .i32 h.schema, .int .u64 h.thr, .int .u64 h.sum, .int .u64 h.zc, .int .u64 h.cnt, v1, v2, v3, v4, v5, v6, v7] 27)).alloc (.cells #[.int .u8 0, .int .i32 0, .int .u64 0, .int .u64 0, .int .u64 0, .int .u64 0, .slice none 0 0, .slice none 0 0, .slice none 0 0, .slice none 0 0, .slice none 0 0, .slice none 0 0, .slice none 0 0] 27)).cell? ⟨w.heap.size, 9, none⟩ = some (v4) ∧ ((w.alloc (.cells #[.int .u8 h.hint, .int .i32 h.schema, .int .u64 h.thr, .int .u64 h.sum, .int .u64 h.zc, .int .u64 h.cnt, v1, v2, v3, v4, v5, v6, v7] 27)).alloc (.cells #[.int .u8 0, .int .i32 0, .int .u64 0, .int .u64 0, .int .u64 0, .int .u64 0, .slice none 0 0, .slice none 0 0, .slice none 0 0, .slice none 0 0, .slice none 0 0, .slice none 0 0, .slice none 0 0] 27)).cell? ⟨w.heap.size, 10, none⟩ = some (v5) ∧ ((w.alloc (.cells #[.int .u8 h.hint, .int .i32 h.schema, .int .u64 h.thr, .int .u64 h.sum, .int .u64 h.zc, .int .u64 h.cnt, v1, v2, v3, v4, v5, v6, v7] 27)).alloc (.cells #[.int .u8 0, .int .i32 0, .int .u64 0, .int .u64 0, .int .u64 0, .int .u64 0, .slice none 0 0, .slice none 0 0, .slice none 0 0, .slice none 0 0, .slice none 0 0, .slice none 0 0, .slice none 0 0] 27)).cell? ⟨w.heap.size, 11, none⟩ = some (v6) ∧ ((w.alloc (.cells #[.int .u8 h.hint, .int .i32 h.schema, .int .u64 h.thr, .int .u64 h.sum, .int .u64 h.zc, .int .u64 h.cnt, v1, v2, v3, v4, v5, v6, v7] 27)).alloc (.cells #[.int .u8 0, .int .i32 0, .int .u64 0, .int .u64 0, .int .u64 0, .int .u64 0, .slice none 0 0, .slice none 0 0, .slice none 0 0, .slice none 0 0, .slice none 0 0, .slice none 0 0, .slice none 0 0] 27)).cell? ⟨w.heap.size, 12, none⟩ = some (v7) := ⟨hca 0, hca 1, hca 2, hca 3, hca 4, hca 5, hca 6, hca 7, hca 8, hca 9, hca 10, hca 11, hca 12⟩
  have hK := Lib.hid h3
  clear hca h2 h3
  go_enter Tryd.func16, Tryd.ntmps16
  go_wp2_with fail
  have hN := Lib.hid hn
  clear qa hn
  generalize (w.alloc _).alloc _ = W at *
  have hn := hN.out
  have hza : w.heap.size + 1 < W.heap.size := by omega
  clear hn hN
  refine (broken_any v1 v2 v3 v4 v5 v6 v7 h W ((ha.below hB0 (Nat.le_refl _)).mono hB0.size (Nat.le_refl _)) hf).mono ?_
  rintro e w1 ⟨b, x1, x2, x3, x4, x5, rfl, hcell, hown, hb1⟩
  have hz1 := hb1.size
  have F : FH w1 W.heap.size b x1 x2 x3 x4 x5 h := ⟨hcell, hown⟩
  clear hcell hown
  go_wp2_with fail
  refine (float_any _ _).mono ?_
  rintro e w' ⟨rfl, rfl⟩
  go_wp2_with fail
  refine (mul_any b f x1 x2 x3 x4 x5 h w1 W.heap.size F hf).mono ?_
  rintro e w2 ⟨h', rfl, hs, F2, hb2⟩
  have hf' : Fits h' := ⟨by rw [hs.same.2.2.2.1]; exact hf.pos, by rw [hs.same.2.2.2.2.1]; exact hf.neg, by rw [hs.ups]; exact hf.ups, by rw [hs.downs]; exact hf.downs, by rw [hs.lu]; exact hf.fups, by rw [hs.ld]; exact hf.fdowns, by rw [hs.same.2.2.2.2.2]; exact hf.cus⟩
  have hz2 := hb2.size
  obtain ⟨⟨s1, s2, s3, s4, o1, o2, o3, o4, o5⟩, hnil⟩ := F2.own
  go_wp2_with fail
  refine (unbroken_any b x1 x2 x3 x4 x5 h' w2 ⟨cells_of_block F2.cells 0, cells_of_block F2.cells 1, cells_of_block F2.cells 2, cells_of_block F2.cells 3, cells_of_block F2.cells 4, cells_of_block F2.cells 5, cells_of_block F2.cells 6, cells_of_block F2.cells 7, cells_of_block F2.cells 8, cells_of_block F2.cells 9, cells_of_block F2.cells 10⟩ o1.pairs o2.pairs o3.floats o4.floats o5.floats hf' F2.lt).mono ?_
  rintro e w3 ⟨y1, y2, y3, y4, y5, y6, y7, rfl, hH, hb3⟩
  have hA := hH.at_
  unfold histCells
  obtain ⟨r1, k1, rfl, _, _⟩ := hA.pos.form
  obtain ⟨r2, k2, rfl, _, _⟩ := hA.neg.form
  obtain ⟨r3, k3, rfl, _, _⟩ := hA.ups.form
  obtain ⟨r4, k4, rfl, _, _⟩ := hA.downs.form
  obtain ⟨r5, k5, rfl, _, _⟩ := hA.fups.form
  obtain ⟨r6, k6, rfl, _, _⟩ := hA.fdowns.form
  obtain ⟨r7, k7, rfl, _, _⟩ := hA.cus.form
  have hB3 : Below w.heap.size w w3 := ((hB0.trans (hb1.mono hB0.size)).trans (hb2.mono (by omega))).trans (hb3.mono (by omega))
  have hz1 := hb1.size
  have hK1 := (hb1.block (w.heap.size + 1) hza).trans hK.out
  have hK2 := (hb2.block (w.heap.size + 1) (by omega)).trans hK1
  have hT3 : There13 w3 (w.heap.size + 1) := ⟨_, (hb3.block (w.heap.size + 1) (by omega)).trans hK2, rfl⟩
  clear hK1 hK2 hA
  have hr := cells_13 hT3 (.int .u8 h'.hint) (.int .i32 h'.schema) (.int .u64 h'.thr) (.int .u64 h'.sum) (.int .u64 h'.zc) (.int .u64 h'.cnt) (.slice r1 h'.pos.length k1) (.slice r2 h'.neg.length k2) (.slice r3 0 k3) (.slice r4 0 k4) (.slice r5 h'.fups.length k5) (.slice r6 h'.fdowns.length k6) (.slice r7 h'.cus.length k7)
  have hB6 := hB3.trans ((below_13 (Below.refl (w.heap.size + 1) w3) (.int .u8 h'.hint) (.int .i32 h'.schema) (.int .u64 h'.thr) (.int .u64 h'.sum) (.int .u64 h'.zc) (.int .u64 h'.cnt) (.slice r1 h'.pos.length k1) (.slice r2 h'.neg.length k2) (.slice r3 0 k3) (.slice r4 0 k4) (.slice r5 h'.fups.length k5) (.slice r6 h'.fdowns.length k6) (.slice r7 h'.cus.length k7)).mono (Nat.le_succ _))
  have hO := fun k (hk : k ≠ w.heap.size + 1) => other_13 (w := w3) hk (.int .u8 h'.hint) (.int .i32 h'.schema) (.int .u64 h'.thr) (.int .u64 h'.sum) (.int .u64 h'.zc) (.int .u64 h'.cnt) (.slice r1 h'.pos.length k1) (.slice r2 h'.neg.length k2) (.slice r3 0 k3) (.slice r4 0 k4) (.slice r5 h'.fups.length k5) (.slice r6 h'.fdowns.length k6) (.slice r7 h'.cus.length k7)
  have hS := size_13 (w := w3) (g := w.heap.size + 1) (.int .u8 h'.hint) (.int .i32 h'.schema) (.int .u64 h'.thr) (.int .u64 h'.sum) (.int .u64 h'.zc) (.int .u64 h'.cnt) (.slice r1 h'.pos.length k1) (.slice r2 h'.neg.length k2) (.slice r3 0 k3) (.slice r4 0 k4) (.slice r5 h'.fups.length k5) (.slice r6 h'.fdowns.length k6) (.slice r7 h'.cus.length k7)
  have hw2s : w.heap.size + 1 < w2.heap.size := by omega
  have HR := Lib.hid hr
  have HO := Lib.hid hO
  have HS := Lib.hid hS
  clear hr hO hS hb1 hb2 hb3 hB0 hB3
  go_wp2_with fail
  have hr := HR.out
  have hO := HO.out
  have hS := HS.out
  clear HR HO HS hT3
  generalize w3.setCell _ _ = q1 at *
  generalize q1.setCell _ _ = q2 at *
  generalize q2.setCell _ _ = q3 at *
  generalize q3.setCell _ _ = q4 at *
  generalize q4.setCell _ _ = q5 at *
  generalize q5.setCell _ _ = q6 at *
  generalize q6.setCell _ _ = q7 at *
  generalize q7.setCell _ _ = q8 at *
  generalize q8.setCell _ _ = q9 at *
  generalize q9.setCell _ _ = q10 at *
  generalize q10.setCell _ _ = q11 at *
  generalize q11.setCell _ _ = q12 at *
  generalize q12.setCell _ _ = q13 at *
  have hFr := fun (w2a : World) (g1 : ∀ k, w.heap.size ≤ k → w2a.heap[k]? = q13.heap[k]?) (g2 : q13.heap.size ≤ w2a.heap.size) => hH w2a (fun k hk => (g1 k (by omega)).trans (hO k (by omega))) (by omega)
  have hHq := hH q13 (fun k hk => hO k (by omega)) (by omega)
  simp only [List.length_map, List.length_nil] at hHq hFr
  refine bodyPost_ret (v := .agg #[.int .u8 h'.hint, .int .i32 h'.schema, .int .u64 h'.thr, .int .u64 h'.sum, .int .u64 h'.zc, .int .u64 h'.cnt, .slice r1 h'.pos.length k1, .slice r2 h'.neg.length k2, .slice r3 0 k3, .slice r4 0 k4, .slice r5 h'.fups.length k5, .slice r6 h'.fdowns.length k6, .slice r7 h'.cus.length k7]) (by simp [results, Tryd.results16, go_sem, hr]) rfl ⟨h', _, _, _, _, _, _, _, rfl, hHq, hs, hFr, hB6⟩


set_option maxRecDepth 100000 in
set_option maxHeartbeats 8000000 in
theorem histDiv_any (v1 v2 v3 v4 v5 v6 v7 : Value) (h : Hist) (f : Nat) (w : World) (ha : HistAt w w.heap.size v1 v2 v3 v4 v5 v6 v7 h) (hf : Fits h) (hz : (FloatKind.f64.format.order f 0 == some .eq) = false) :
    Calls Tryd.prog 17 #[.agg (histCells h v1 v2 v3 v4 v5 v6 v7), .int .u64 f] w fun e w' => ∃ h' y1 y2 y3 y4 y5 y6 y7, e = .returned (.agg (histCells { h' with ups := [], downs := [] } y1 y2 y3 y4 y5 y6 y7)) ∧
      HistAt w' w'.heap.size y1 y2 y3 y4 y5 y6 y7 { h' with ups := [], downs := [] } ∧ Scl true f h h' ∧ Fresh w.heap.size w' y1 y2 y3 y4 y5 y6 y7 { h' with ups := [], downs := [] } ∧ Below w.heap.size w w' := by
  unfold histCells
  obtain ⟨h2, h3, hn⟩ := two13 w #[.int .u8 h.hint, .int .i32 h.schema, .int .u64 h.thr, .int .u64 h.sum, .int .u64 h.zc, .int .u64 h.cnt, v1, v2, v3, v4, v5, v6, v7] #[.int .u8 0, .int .i32 0, .int .u64 0, .int .u64 0, .int .u64 0, .int .u64 0, .slice none 0 0, .slice none 0 0, .slice none 0 0, .slice none 0 0, .slice none 0 0, .slice none 0 0, .slice none 0 0] 27 27
  have hB0 : Below w.heap.size w ((w.alloc (.cells #[.int .u8 h.hint, .int .i32 h.schema, .int .u64 h.thr, .int .u64 h.sum, .int .u64 h.zc, .int .u64 h.cnt, v1, v2, v3, v4, v5, v6, v7] 27)).alloc (.cells #[.int .u8 0, .int .i32 0, .int .u64 0, .int .u64 0, .int .u64 0, .int .u64 0, .slice none 0 0, .slice none 0 0, .slice none 0 0, .slice none 0 0, .slice none 0 0, .slice none 0 0, .slice none 0 0] 27)) := ((Below.refl w.heap.size w).alloc (Nat.le_refl _) _).alloc (by simp) _
  have hca := cells_of_block h2
  have qa : ((w.alloc (.cells #[.int .u8 h.hint, .int .i32 h.schema, .int .u64 h.thr, .int .u64 h.sum, .int .u64 h.zc, .int .u64 h.cnt, v1, v2, v3, v4, v5, v6, v7] 27)).alloc (.cells #[.int .u8 0, .int .i32 0, .int .u64 0, .int .u64 0, .int .u64 0, .int .u64 0, .slice none 0 0, .slice none 0 0, .slice none 0 0, .slice none 0 0, .slice none 0 0, .slice none 0 0, .slice none 0 0] 27)).cell? ⟨w.heap.size, 0, none⟩ = some (.int .u8 h.hint) ∧ ((w.alloc (.cells #[.int .u8 h.hint, .int .i32 h.schema, .int .u64 h.thr, .int .u64 h.sum, .int .u64 h.zc, .int .u64 h.cnt, v1, v2, v3, v4, v5, v6, v7] 27)).alloc (.cells #[.int .u8 0, .int .i32 0, .int .u64 0, .int .u64 0, .int .u64 0, .int .u64 0, .slice none 0 0, .slice none 0 0, .slice none 0 0, .slice none 0 0, .slice none 0 0, .slice none 0 0, .slice none 0 0] 27)).cell? ⟨w.heap.size, 1, none⟩ = some (.int .i32 h.schema) ∧ ((w.alloc (.cells #[.int .u8 h.hint, .int .i32 h.schema, .int .u64 h.thr, .int .u64 h.sum, .int .u64 h.zc, .int .u64 h.cnt, v1, v2, v3, v4, v5, v6, v7] 27)).alloc (.cells #[.int .u8 0, .int .i32 0, .int .u64 0, .int .u64 0, .int .u64 0, .int .u64 0, .slice none 0 0, .slice none 0 0, .slice none 0 0, .slice none 0 0, .slice none 0 0, .slice none 0 0, .slice none 0 0] 27)).cell? ⟨w.heap.size, 2, none⟩ = some (.int .u64 h.thr) ∧ ((w.alloc (.cells #[.int .u8 h.hint, .int .i32 h.schema, .int .u64 h.thr, .int .u64 h.sum, .int .u64 h.zc, .int .u64 h.cnt, v1, v2, v3, v4, v5, v6, v7] 27)).alloc (.cells #[.int .u8 0, .int .i32 0, .int .u64 0, .int .u64 0, .int .u64 0, .int .u64 0, .slice none 0 0, .slice none 0 0, .slice none 0 0, .slice none 0 0, .slice none 0 0, .slice none 0 0, .slice none 0 0] 27)).cell? ⟨w.heap.size, 3, none⟩ = some (.int .u64 h.sum) ∧ ((w.alloc (.cells #[.int .u8 h.hint, .int .i32 h.schema, .int .u64 h.thr, .int .u64 h.sum, .int .u64 h.zc, .int .u64 h.cnt, v1, v2, v3, v4, v5, v6, v7] 27)).alloc (.cells #[.int .u8 0, .int .i32 0, .int .u64 0, .int .u64 0, .int .u64 0, .int .u64 0, .slice none 0 0, .slice none 0 0, .slice none 0 0, .slice none 0 0, .slice none 0 0, .slice none 0 0, .slice none 0 0] 27)).cell? ⟨w.heap.size, 4, none⟩ = some (.int .u64 h.zc) ∧ ((w.alloc (.cells #[.int .u8 h.hint, .int .i32 h.schema, .int .u64 h.thr, .int .u64 h.sum, .int .u64 h.zc, .int .u64 h.cnt, v1, v2, v3, v4, v5, v6, v7] 27)).alloc (.cells #[.int .u8 0, .int .i32 0, .int .u64 0, .int .u64 0, .int .u64 0, .int .u64 0, .slice none 0 0, .slice none 0 0, .slice none 0 0, .slice none 0 0, .slice none 0 0, .slice none 0 0, .slice none 0 0] 27)).cell? ⟨w.heap.size, 5, none⟩ = some (.int .u64 h.cnt) ∧ ((w.alloc (.cells #[.int .u8 h.hint, .int .i32 h.schema, .int .u64 h.thr, .int .u64 h.sum, .int .u64 h.zc, .int .u64 h.cnt, v1, v2, v3, v4, v5, v6, v7] 27)).alloc (.cells #[.int .u8 0, .int .i32 0, .int .u64 0, .int .u64 0, .int .u64 0, .int .u64 0, .slice none 0 0, .slice none 0 0, .slice none 0 0, .slice none 0 0, .slice none 0 0, .slice none 0 0, .slice none 0 0] 27)).cell? ⟨w.heap.size, 6, none⟩ = some (v1) ∧ ((w.alloc (.cells #[.int .u8 h.hint, .int .i32 h.schema, .int .u64 h.thr, .int .u64 h.sum, .int .u64 h.zc, .int .u64 h.cnt, v1, v2, v3, v4, v5, v6, v7] 27)).alloc (.cells #[.int .u8 0, .int .i32 0, .int .u64 0, .int .u64 0, .int .u64 0, .int .u64 0, .slice none 0 0, .slice none 0 0, .slice none 0 0, .slice none 0 0, .slice none 0 0, .slice none 0 0, .slice none 0 0] 27)).cell? ⟨w.heap.size, 7, none⟩ = some (v2) ∧ ((w.alloc (.cells #[.int .u8 h.hint, .int .i32 h.schema, .int .u64 h.thr, .int .u64 h.sum, .int .u64 h.zc, .int .u64 h.cnt, v1, v2, v3, v4, v5, v6, v7] 27)).alloc (.cells #[.int .u8 0, .int .i32 0, .int .u64 0, .int .u64 0, .int .u64 0, .int .u64 0, .slice none 0 0, .slice none 0 0, .slice none 0 0, .slice none 0 0, .slice none 0 0, .slice none 0 0, .slice none 0 0] 27)).cell? ⟨w.heap.size, 8, none⟩ = some (v3) ∧ ((w.alloc (.cells #[.int .u8 h.hint, .int .i32 h.schema, .int .u64 h.thr, .int .u64 h.sum, .int .u64 h.zc, .int .u64 h.cnt, v1, v2, v3, v4, v5, v6, v7] 27)).alloc (.cells #[.int .u8 0, .int .i32 0, .int .u64 0, .int .u64 0, .int .u64 0, .int .u64 0, .slice none 0 0, .slice none 0 0, .slice none 0 0, .slice none 0 0, .slice none 0 0, .slice none 0 0, .slice none 0 0] 27)).cell? ⟨w.heap.size, 9, none⟩ = some (v4) ∧ ((w.alloc (.cells #[.int .u8 h.hint, .int .i32 h.schema, .int .u64 h.thr, .int .u64 h.sum, .int .u64 h.zc, .int .u64 h.cnt, v1, v2, v3, v4, v5, v6, v7] 27)).alloc (.cells #[.int .u8 0, .int .i32 0, .int .u64 0, .int .u64 0, .int .u64 0, .int .u64 0, .slice none 0 0, .slice none 0 0, .slice none 0 0, .slice none 0 0, .slice none 0 0, .slice none 0 0, .slice none 0 0] 27)).cell? ⟨w.heap.size, 10, none⟩ = some (v5) ∧ ((w.alloc (.cells #[.int .u8 h.hint, .int .i32 h.schema, .int .u64 h.thr, .int .u64 h.sum, .int .u64 h.zc, .int .u64 h.cnt, v1, v2, v3, v4, v5, v6, v7] 27)).alloc (.cells #[.int .u8 0, .int .i32 0, .int .u64 0, .int .u64 0, .int .u64 0, .int .u64 0, .slice none 0 0, .slice none 0 0, .slice none 0 0, .slice none 0 0, .slice none 0 0, .slice none 0 0, .slice none 0 0] 27)).cell? ⟨w.heap.size, 11, none⟩ = some (v6) ∧ ((w.alloc (.cells #[.int .u8 h.hint, .int .i32 h.schema, .int .u64 h.thr, .int .u64 h.sum, .int .u64 h.zc, .int .u64 h.cnt, v1, v2, v3, v4, v5, v6, v7] 27)).alloc (.cells #[.int .u8 0, .int .i32 0, .int .u64 0, .int .u64 0, .int .u64 0, .int .u64 0, .slice none 0 0, .slice none 0 0, .slice none 0 0, .slice none 0 0, .slice none 0 0, .slice none 0 0, .slice none 0 0] 27)).cell? ⟨w.heap.size, 12, none⟩ = some (v7) := ⟨hca 0, hca 1, hca 2, hca 3, hca 4, hca 5, hca 6, hca 7, hca 8, hca 9, hca 10, hca 11, hca 12⟩
  have hK := Lib.hid h3
  clear hca h2 h3
  go_enter Tryd.func17, Tryd.ntmps17
  go_wp2_with fail
  have hN := Lib.hid hn
  clear qa hn
  generalize (w.alloc _).alloc _ = W at *
  have hn := hN.out
  have hza : w.heap.size + 1 < W.heap.size := by omega
  clear hn hN
  refine (broken_any v1 v2 v3 v4 v5 v6 v7 h W ((ha.below hB0 (Nat.le_refl _)).mono hB0.size (Nat.le_refl _)) hf).mono ?_
  rintro e w1 ⟨b, x1, x2, x3, x4, x5, rfl, hcell, hown, hb1⟩
  have hz1 := hb1.size
  have F : FH w1 W.heap.size b x1 x2 x3 x4 x5 h := ⟨hcell, hown⟩
  clear hcell hown
  go_wp2_with fail
  refine (float_any _ _).mono ?_
  rintro e w' ⟨rfl, rfl⟩
  go_wp2_with fail
  refine (div_any b f x1 x2 x3 x4 x5 h w1 W.heap.size F hf hz).mono ?_
  rintro e w2 ⟨h', rfl, hs, F2, hb2⟩
  have hf' : Fits h' := ⟨by rw [hs.same.2.2.2.1]; exact hf.pos, by rw [hs.same.2.2.2.2.1]; exact hf.neg, by rw [hs.ups]; exact hf.ups, by rw [hs.downs]; exact hf.downs, by rw [hs.lu]; exact hf.fups, by rw [hs.ld]; exact hf.fdowns, by rw [hs.same.2.2.2.2.2]; exact hf.cus⟩
  have hz2 := hb2.size
  obtain ⟨⟨s1, s2, s3, s4, o1, o2, o3, o4, o5⟩, hnil⟩ := F2.own
  go_wp2_with fail
  refine (unbroken_any b x1 x2 x3 x4 x5 h' w2 ⟨cells_of_block F2.cells 0, cells_of_block F2.cells 1, cells_of_block F2.cells 2, cells_of_block F2.cells 3, cells_of_block F2.cells 4, cells_of_block F2.cells 5, cells_of_block F2.cells 6, cells_of_block F2.cells 7, cells_of_block F2.cells 8, cells_of_block F2.cells 9, cells_of_block F2.cells 10⟩ o1.pairs o2.pairs o3.floats o4.floats o5.floats hf' F2.lt).mono ?_
  rintro e w3 ⟨y1, y2, y3, y4, y5, y6, y7, rfl, hH, hb3⟩
  have hA := hH.at_
  unfold histCells
  obtain ⟨r1, k1, rfl, _, _⟩ := hA.pos.form
  obtain ⟨r2, k2, rfl, _, _⟩ := hA.neg.form
  obtain ⟨r3, k3, rfl, _, _⟩ := hA.ups.form
  obtain ⟨r4, k4, rfl, _, _⟩ := hA.downs.form
  obtain ⟨r5, k5, rfl, _, _⟩ := hA.fups.form
  obtain ⟨r6, k6, rfl, _, _⟩ := hA.fdowns.form
  obtain ⟨r7, k7, rfl, _, _⟩ := hA.cus.form
  have hB3 : Below w.heap.size w w3 := ((hB0.trans (hb1.mono hB0.size)).trans (hb2.mono (by omega))).trans (hb3.mono (by omega))
  have hz1 := hb1.size
  have hK1 := (hb1.block (w.heap.size + 1) hza).trans hK.out
  have hK2 := (hb2.block (w.heap.size + 1) (by omega)).trans hK1
  have hT3 : There13 w3 (w.heap.size + 1) := ⟨_, (hb3.block (w.heap.size + 1) (by omega)).trans hK2, rfl⟩
  clear hK1 hK2 hA
  have hr := cells_13 hT3 (.int .u8 h'.hint) (.int .i32 h'.schema) (.int .u64 h'.thr) (.int .u64 h'.sum) (.int .u64 h'.zc) (.int .u64 h'.cnt) (.slice r1 h'.pos.length k1) (.slice r2 h'.neg.length k2) (.slice r3 0 k3) (.slice r4 0 k4) (.slice r5 h'.fups.length k5) (.slice r6 h'.fdowns.length k6) (.slice r7 h'.cus.length k7)
  have hB6 := hB3.trans ((below_13 (Below.refl (w.heap.size + 1) w3) (.int .u8 h'.hint) (.int .i32 h'.schema) (.int .u64 h'.thr) (.int .u64 h'.sum) (.int .u64 h'.zc) (.int .u64 h'.cnt) (.slice r1 h'.pos.length k1) (.slice r2 h'.neg.length k2) (.slice r3 0 k3) (.slice r4 0 k4) (.slice r5 h'.fups.length k5) (.slice r6 h'.fdowns.length k6) (.slice r7 h'.cus.length k7)).mono (Nat.le_succ _))
  have hO := fun k (hk : k ≠ w.heap.size + 1) => other_13 (w := w3) hk (.int .u8 h'.hint) (.int .i32 h'.schema) (.int .u64 h'.thr) (.int .u64 h'.sum) (.int .u64 h'.zc) (.int .u64 h'.cnt) (.slice r1 h'.pos.length k1) (.slice r2 h'.neg.length k2) (.slice r3 0 k3) (.slice r4 0 k4) (.slice r5 h'.fups.length k5) (.slice r6 h'.fdowns.length k6) (.slice r7 h'.cus.length k7)
  have hS := size_13 (w := w3) (g := w.heap.size + 1) (.int .u8 h'.hint) (.int .i32 h'.schema) (.int .u64 h'.thr) (.int .u64 h'.sum) (.int .u64 h'.zc) (.int .u64 h'.cnt) (.slice r1 h'.pos.length k1) (.slice r2 h'.neg.length k2) (.slice r3 0 k3) (.slice r4 0 k4) (.slice r5 h'.fups.length k5) (.slice r6 h'.fdowns.length k6) (.slice r7 h'.cus.length k7)
  have hw2s : w.heap.size + 1 < w2.heap.size := by omega
  have HR := Lib.hid hr
  have HO := Lib.hid hO
  have HS := Lib.hid hS
  clear hr hO hS hb1 hb2 hb3 hB0 hB3
  go_wp2_with fail
  have hr := HR.out
  have hO := HO.out
  have hS := HS.out
  clear HR HO HS hT3
  generalize w3.setCell _ _ = q1 at *
  generalize q1.setCell _ _ = q2 at *
  generalize q2.setCell _ _ = q3 at *
  generalize q3.setCell _ _ = q4 at *
  generalize q4.setCell _ _ = q5 at *
  generalize q5.setCell _ _ = q6 at *
  generalize q6.setCell _ _ = q7 at *
  generalize q7.setCell _ _ = q8 at *
  generalize q8.setCell _ _ = q9 at *
  generalize q9.setCell _ _ = q10 at *
  generalize q10.setCell _ _ = q11 at *
  generalize q11.setCell _ _ = q12 at *
  generalize q12.setCell _ _ = q13 at *
  have hFr := fun (w2a : World) (g1 : ∀ k, w.heap.size ≤ k → w2a.heap[k]? = q13.heap[k]?) (g2 : q13.heap.size ≤ w2a.heap.size) => hH w2a (fun k hk => (g1 k (by omega)).trans (hO k (by omega))) (by omega)
  have hHq := hH q13 (fun k hk => hO k (by omega)) (by omega)
  simp only [List.length_map, List.length_nil] at hHq hFr
  refine bodyPost_ret (v := .agg #[.int .u8 h'.hint, .int .i32 h'.schema, .int .u64 h'.thr, .int .u64 h'.sum, .int .u64 h'.zc, .int .u64 h'.cnt, .slice r1 h'.pos.length k1, .slice r2 h'.neg.length k2, .slice r3 0 k3, .slice r4 0 k4, .slice r5 h'.fups.length k5, .slice r6 h'.fdowns.length k6, .slice r7 h'.cus.length k7]) (by simp [results, Tryd.results17, go_sem, hr]) rfl ⟨h', _, _, _, _, _, _, _, rfl, hHq, hs, hFr, hB6⟩


end Go.Proofs.YtbgkoapnejnfbaaDoor
