/-
  The walk of the law on Mul and Div.
-/
import Derived.Test.YtbgkoapnejnfbaaDoorFit
import Derived.Test.YtbgkoapnejnfbaaDoorLawS
import Derived.Test.YtbgkoapnejnfbaaDoorFits6
import Derived.Test.YtbgkoapnejnfbaaDoorAlive
namespace Go.Proofs.YtbgkoapnejnfbaaDoor
set_option linter.unusedSimpArgs false
set_option linter.unusedVariables false
open Go.RowKit
attribute [local go_sem ↓] Go.wp_at_zero Go.wp_at_succ

theorem keep26 {w w' : World} {B p g : Nat} {a0 a1 a2 a3 a4 a5 a6 a7 a8 a9 a10 a11 a12 b0 b1 b2 b3 b4 b5 b6 b7 b8 b9 b10 b11 b12 : Value} (hb : Below B w w') (hp : p < B) (hg : g < B) (hh : (w.cell? ⟨p, 0, none⟩ = some (a0) ∧ w.cell? ⟨p, 1, none⟩ = some (a1) ∧ w.cell? ⟨p, 2, none⟩ = some (a2) ∧ w.cell? ⟨p, 3, none⟩ = some (a3) ∧ w.cell? ⟨p, 4, none⟩ = some (a4) ∧ w.cell? ⟨p, 5, none⟩ = some (a5) ∧ w.cell? ⟨p, 6, none⟩ = some (a6) ∧ w.cell? ⟨p, 7, none⟩ = some (a7) ∧ w.cell? ⟨p, 8, none⟩ = some (a8) ∧ w.cell? ⟨p, 9, none⟩ = some (a9) ∧ w.cell? ⟨p, 10, none⟩ = some (a10) ∧ w.cell? ⟨p, 11, none⟩ = some (a11) ∧ w.cell? ⟨p, 12, none⟩ = some (a12)) ∧ w.cell? ⟨g, 0, none⟩ = some (b0) ∧ w.cell? ⟨g, 1, none⟩ = some (b1) ∧ w.cell? ⟨g, 2, none⟩ = some (b2) ∧ w.cell? ⟨g, 3, none⟩ = some (b3) ∧ w.cell? ⟨g, 4, none⟩ = some (b4) ∧ w.cell? ⟨g, 5, none⟩ = some (b5) ∧ w.cell? ⟨g, 6, none⟩ = some (b6) ∧ w.cell? ⟨g, 7, none⟩ = some (b7) ∧ w.cell? ⟨g, 8, none⟩ = some (b8) ∧ w.cell? ⟨g, 9, none⟩ = some (b9) ∧ w.cell? ⟨g, 10, none⟩ = some (b10) ∧ w.cell? ⟨g, 11, none⟩ = some (b11) ∧ w.cell? ⟨g, 12, none⟩ = some (b12)) : (w'.cell? ⟨p, 0, none⟩ = some (a0) ∧ w'.cell? ⟨p, 1, none⟩ = some (a1) ∧ w'.cell? ⟨p, 2, none⟩ = some (a2) ∧ w'.cell? ⟨p, 3, none⟩ = some (a3) ∧ w'.cell? ⟨p, 4, none⟩ = some (a4) ∧ w'.cell? ⟨p, 5, none⟩ = some (a5) ∧ w'.cell? ⟨p, 6, none⟩ = some (a6) ∧ w'.cell? ⟨p, 7, none⟩ = some (a7) ∧ w'.cell? ⟨p, 8, none⟩ = some (a8) ∧ w'.cell? ⟨p, 9, none⟩ = some (a9) ∧ w'.cell? ⟨p, 10, none⟩ = some (a10) ∧ w'.cell? ⟨p, 11, none⟩ = some (a11) ∧ w'.cell? ⟨p, 12, none⟩ = some (a12)) ∧ w'.cell? ⟨g, 0, none⟩ = some (b0) ∧ w'.cell? ⟨g, 1, none⟩ = some (b1) ∧ w'.cell? ⟨g, 2, none⟩ = some (b2) ∧ w'.cell? ⟨g, 3, none⟩ = some (b3) ∧ w'.cell? ⟨g, 4, none⟩ = some (b4) ∧ w'.cell? ⟨g, 5, none⟩ = some (b5) ∧ w'.cell? ⟨g, 6, none⟩ = some (b6) ∧ w'.cell? ⟨g, 7, none⟩ = some (b7) ∧ w'.cell? ⟨g, 8, none⟩ = some (b8) ∧ w'.cell? ⟨g, 9, none⟩ = some (b9) ∧ w'.cell? ⟨g, 10, none⟩ = some (b10) ∧ w'.cell? ⟨g, 11, none⟩ = some (b11) ∧ w'.cell? ⟨g, 12, none⟩ = some (b12) :=
  ⟨keep13 hb hp hh.1, keep13 hb hg hh.2⟩

set_option maxRecDepth 100000 in
set_option maxHeartbeats 8000000 in
theorem wscale (v1 v2 v3 v4 v5 v6 v7 : Value) (h : Hist) (f : Nat) (dv : Bool) (w : World) (ha : HistAt w w.heap.size v1 v2 v3 v4 v5 v6 v7 h) (hw : Wf h) (he : Errs w) :
    Calls Tryd.prog 5 #[.agg (histCells h v1 v2 v3 v4 v5 v6 v7), .int .u64 f, .bool dv] w fun e w' => e = .returned (.bool true) ∧ Below w.heap.size w w' := by
  have h9 := he.lt
  unfold histCells
  have hB0 : Below w.heap.size w (w.alloc (.cells #[.int .u8 h.hint, .int .i32 h.schema, .int .u64 h.thr, .int .u64 h.sum, .int .u64 h.zc, .int .u64 h.cnt, v1, v2, v3, v4, v5, v6, v7] 27)) := (Below.refl w.heap.size w).alloc (Nat.le_refl _) _
  have hca := cells_of_block (heap_alloc_new w (.cells #[.int .u8 h.hint, .int .i32 h.schema, .int .u64 h.thr, .int .u64 h.sum, .int .u64 h.zc, .int .u64 h.cnt, v1, v2, v3, v4, v5, v6, v7] 27))
  have qa : (w.alloc (.cells #[.int .u8 h.hint, .int .i32 h.schema, .int .u64 h.thr, .int .u64 h.sum, .int .u64 h.zc, .int .u64 h.cnt, v1, v2, v3, v4, v5, v6, v7] 27)).cell? ⟨w.heap.size, 0, none⟩ = some (.int .u8 h.hint) ∧ (w.alloc (.cells #[.int .u8 h.hint, .int .i32 h.schema, .int .u64 h.thr, .int .u64 h.sum, .int .u64 h.zc, .int .u64 h.cnt, v1, v2, v3, v4, v5, v6, v7] 27)).cell? ⟨w.heap.size, 1, none⟩ = some (.int .i32 h.schema) ∧ (w.alloc (.cells #[.int .u8 h.hint, .int .i32 h.schema, .int .u64 h.thr, .int .u64 h.sum, .int .u64 h.zc, .int .u64 h.cnt, v1, v2, v3, v4, v5, v6, v7] 27)).cell? ⟨w.heap.size, 2, none⟩ = some (.int .u64 h.thr) ∧ (w.alloc (.cells #[.int .u8 h.hint, .int .i32 h.schema, .int .u64 h.thr, .int .u64 h.sum, .int .u64 h.zc, .int .u64 h.cnt, v1, v2, v3, v4, v5, v6, v7] 27)).cell? ⟨w.heap.size, 3, none⟩ = some (.int .u64 h.sum) ∧ (w.alloc (.cells #[.int .u8 h.hint, .int .i32 h.schema, .int .u64 h.thr, .int .u64 h.sum, .int .u64 h.zc, .int .u64 h.cnt, v1, v2, v3, v4, v5, v6, v7] 27)).cell? ⟨w.heap.size, 4, none⟩ = some (.int .u64 h.zc) ∧ (w.alloc (.cells #[.int .u8 h.hint, .int .i32 h.schema, .int .u64 h.thr, .int .u64 h.sum, .int .u64 h.zc, .int .u64 h.cnt, v1, v2, v3, v4, v5, v6, v7] 27)).cell? ⟨w.heap.size, 5, none⟩ = some (.int .u64 h.cnt) ∧ (w.alloc (.cells #[.int .u8 h.hint, .int .i32 h.schema, .int .u64 h.thr, .int .u64 h.sum, .int .u64 h.zc, .int .u64 h.cnt, v1, v2, v3, v4, v5, v6, v7] 27)).cell? ⟨w.heap.size, 6, none⟩ = some (v1) ∧ (w.alloc (.cells #[.int .u8 h.hint, .int .i32 h.schema, .int .u64 h.thr, .int .u64 h.sum, .int .u64 h.zc, .int .u64 h.cnt, v1, v2, v3, v4, v5, v6, v7] 27)).cell? ⟨w.heap.size, 7, none⟩ = some (v2) ∧ (w.alloc (.cells #[.int .u8 h.hint, .int .i32 h.schema, .int .u64 h.thr, .int .u64 h.sum, .int .u64 h.zc, .int .u64 h.cnt, v1, v2, v3, v4, v5, v6, v7] 27)).cell? ⟨w.heap.size, 8, none⟩ = some (v3) ∧ (w.alloc (.cells #[.int .u8 h.hint, .int .i32 h.schema, .int .u64 h.thr, .int .u64 h.sum, .int .u64 h.zc, .int .u64 h.cnt, v1, v2, v3, v4, v5, v6, v7] 27)).cell? ⟨w.heap.size, 9, none⟩ = some (v4) ∧ (w.alloc (.cells #[.int .u8 h.hint, .int .i32 h.schema, .int .u64 h.thr, .int .u64 h.sum, .int .u64 h.zc, .int .u64 h.cnt, v1, v2, v3, v4, v5, v6, v7] 27)).cell? ⟨w.heap.size, 10, none⟩ = some (v5) ∧ (w.alloc (.cells #[.int .u8 h.hint, .int .i32 h.schema, .int .u64 h.thr, .int .u64 h.sum, .int .u64 h.zc, .int .u64 h.cnt, v1, v2, v3, v4, v5, v6, v7] 27)).cell? ⟨w.heap.size, 11, none⟩ = some (v6) ∧ (w.alloc (.cells #[.int .u8 h.hint, .int .i32 h.schema, .int .u64 h.thr, .int .u64 h.sum, .int .u64 h.zc, .int .u64 h.cnt, v1, v2, v3, v4, v5, v6, v7] 27)).cell? ⟨w.heap.size, 12, none⟩ = some (v7) := ⟨hca 0, hca 1, hca 2, hca 3, hca 4, hca 5, hca 6, hca 7, hca 8, hca 9, hca 10, hca 11, hca 12⟩
  have hz : w.heap.size < (w.alloc (.cells #[.int .u8 h.hint, .int .i32 h.schema, .int .u64 h.thr, .int .u64 h.sum, .int .u64 h.zc, .int .u64 h.cnt, v1, v2, v3, v4, v5, v6, v7] 27)).heap.size := by simp
  clear hca
  go_enter Tryd.func5, Tryd.ntmps5
  go_wp2_with fail
  have HQ := Lib.hid qa
  clear qa
  generalize w.alloc _ = W at *
  have at_ : ∀ w', Below w.heap.size w w' → HistAt w' w'.heap.size v1 v2 v3 v4 v5 v6 v7 h := fun w' hb => (ha.below hb (Nat.le_refl _)).mono hb.size (Nat.le_refl _)
  refine (fits6_any v1 v2 v3 v4 v5 v6 v7 h W (at_ W hB0)).mono ?_
  rintro e w1 ⟨r, rfl, hr, hb1⟩
  have hB1 := hB0.trans (hb1.mono hB0.size)
  have hz1 : w.heap.size < w1.heap.size := Nat.lt_of_lt_of_le hz hb1.size
  cases r with
  | false =>
    go_wp2
    go_ret
    exact ⟨rfl, hB1⟩
  | true =>
  have hf := hr rfl
  clear hr
  have hq1 := keep13 hb1 hz HQ.out
  go_wp2_with fail
  refine (fit_any true v1 v2 v3 v4 v5 v6 v7 h w1 (at_ w1 hB1) hf hw (h.schema == -53) rfl).mono ?_
  rintro e w2 ⟨r, rfl, _, hb2⟩
  have hB2 := hB1.trans (hb2.mono hB1.size)
  have hz2 : w.heap.size < w2.heap.size := Nat.lt_of_lt_of_le hz1 hb2.size
  have hq2 := keep13 hb2 hz1 hq1
  clear hq1
  cases r with
  | false =>
    clear hq2
    go_wp2_with fail
    refine (countAlive_any w2 (he.below hB2 h9)).mono ?_
    rintro e w3 ⟨rfl, hb3⟩
    have hB3 := hB2.trans (hb3.mono hB2.size)
    go_wp2
    go_ret
    exact ⟨rfl, hB3⟩
  | true =>
  cases dv with
  | false =>
    go_wp2_with fail
    refine (histMul_any v1 v2 v3 v4 v5 v6 v7 h f w2 (at_ w2 hB2) hf).mono ?_
    rintro e w3 ⟨h1, y1, y2, y3, y4, y5, y6, y7, rfl, hH, hs, _, hb3⟩
    have hB3 := hB2.trans (hb3.mono hB2.size)
    have hq3 := keep13 hb3 hz2 hq2
    have hz3 : w.heap.size < w3.heap.size := Nat.lt_of_lt_of_le hz2 hb3.size
    have hF0 := hs.fits0 hf
    have hW0 := hs.wf0 hw
    have HND : Hid (∀ h' : Hist, Scl false f h h' → NearD { h1 with ups := [], downs := [] } h') := fun h' hn => nearD_of hs hn
    generalize ({ h1 with ups := [], downs := [] } : Hist) = H at *
    obtain ⟨r1, k1, rfl, _, _⟩ := hH.pos.form
    obtain ⟨r2, k2, rfl, _, _⟩ := hH.neg.form
    obtain ⟨r3, k3, rfl, _, _⟩ := hH.ups.form
    obtain ⟨r4, k4, rfl, _, _⟩ := hH.downs.form
    obtain ⟨r5, k5, rfl, _, _⟩ := hH.fups.form
    obtain ⟨r6, k6, rfl, _, _⟩ := hH.fdowns.form
    obtain ⟨r7, k7, rfl, _, _⟩ := hH.cus.form
    unfold histCells
    simp only [List.length_map] at hH ⊢
    have hB4 : Below w3.heap.size w3 (w3.alloc (.cells #[.int .u8 H.hint, .int .i32 H.schema, .int .u64 H.thr, .int .u64 H.sum, .int .u64 H.zc, .int .u64 H.cnt, .slice r1 H.pos.length k1, .slice r2 H.neg.length k2, .slice r3 H.ups.length k3, .slice r4 H.downs.length k4, .slice r5 H.fups.length k5, .slice r6 H.fdowns.length k6, .slice r7 H.cus.length k7] 27)) := (Below.refl w3.heap.size w3).alloc (Nat.le_refl _) _
    have hcr := cells_of_block (heap_alloc_new w3 (.cells #[.int .u8 H.hint, .int .i32 H.schema, .int .u64 H.thr, .int .u64 H.sum, .int .u64 H.zc, .int .u64 H.cnt, .slice r1 H.pos.length k1, .slice r2 H.neg.length k2, .slice r3 H.ups.length k3, .slice r4 H.downs.length k4, .slice r5 H.fups.length k5, .slice r6 H.fdowns.length k6, .slice r7 H.cus.length k7] 27))
    have hr : (w3.alloc (.cells #[.int .u8 H.hint, .int .i32 H.schema, .int .u64 H.thr, .int .u64 H.sum, .int .u64 H.zc, .int .u64 H.cnt, .slice r1 H.pos.length k1, .slice r2 H.neg.length k2, .slice r3 H.ups.length k3, .slice r4 H.downs.length k4, .slice r5 H.fups.length k5, .slice r6 H.fdowns.length k6, .slice r7 H.cus.length k7] 27)).cell? ⟨w3.heap.size, 0, none⟩ = some (.int .u8 H.hint) ∧ (w3.alloc (.cells #[.int .u8 H.hint, .int .i32 H.schema, .int .u64 H.thr, .int .u64 H.sum, .int .u64 H.zc, .int .u64 H.cnt, .slice r1 H.pos.length k1, .slice r2 H.neg.length k2, .slice r3 H.ups.length k3, .slice r4 H.downs.length k4, .slice r5 H.fups.length k5, .slice r6 H.fdowns.length k6, .slice r7 H.cus.length k7] 27)).cell? ⟨w3.heap.size, 1, none⟩ = some (.int .i32 H.schema) ∧ (w3.alloc (.cells #[.int .u8 H.hint, .int .i32 H.schema, .int .u64 H.thr, .int .u64 H.sum, .int .u64 H.zc, .int .u64 H.cnt, .slice r1 H.pos.length k1, .slice r2 H.neg.length k2, .slice r3 H.ups.length k3, .slice r4 H.downs.length k4, .slice r5 H.fups.length k5, .slice r6 H.fdowns.length k6, .slice r7 H.cus.length k7] 27)).cell? ⟨w3.heap.size, 2, none⟩ = some (.int .u64 H.thr) ∧ (w3.alloc (.cells #[.int .u8 H.hint, .int .i32 H.schema, .int .u64 H.thr, .int .u64 H.sum, .int .u64 H.zc, .int .u64 H.cnt, .slice r1 H.pos.length k1, .slice r2 H.neg.length k2, .slice r3 H.ups.length k3, .slice r4 H.downs.length k4, .slice r5 H.fups.length k5, .slice r6 H.fdowns.length k6, .slice r7 H.cus.length k7] 27)).cell? ⟨w3.heap.size, 3, none⟩ = some (.int .u64 H.sum) ∧ (w3.alloc (.cells #[.int .u8 H.hint, .int .i32 H.schema, .int .u64 H.thr, .int .u64 H.sum, .int .u64 H.zc, .int .u64 H.cnt, .slice r1 H.pos.length k1, .slice r2 H.neg.length k2, .slice r3 H.ups.length k3, .slice r4 H.downs.length k4, .slice r5 H.fups.length k5, .slice r6 H.fdowns.length k6, .slice r7 H.cus.length k7] 27)).cell? ⟨w3.heap.size, 4, none⟩ = some (.int .u64 H.zc) ∧ (w3.alloc (.cells #[.int .u8 H.hint, .int .i32 H.schema, .int .u64 H.thr, .int .u64 H.sum, .int .u64 H.zc, .int .u64 H.cnt, .slice r1 H.pos.length k1, .slice r2 H.neg.length k2, .slice r3 H.ups.length k3, .slice r4 H.downs.length k4, .slice r5 H.fups.length k5, .slice r6 H.fdowns.length k6, .slice r7 H.cus.length k7] 27)).cell? ⟨w3.heap.size, 5, none⟩ = some (.int .u64 H.cnt) ∧ (w3.alloc (.cells #[.int .u8 H.hint, .int .i32 H.schema, .int .u64 H.thr, .int .u64 H.sum, .int .u64 H.zc, .int .u64 H.cnt, .slice r1 H.pos.length k1, .slice r2 H.neg.length k2, .slice r3 H.ups.length k3, .slice r4 H.downs.length k4, .slice r5 H.fups.length k5, .slice r6 H.fdowns.length k6, .slice r7 H.cus.length k7] 27)).cell? ⟨w3.heap.size, 6, none⟩ = some (.slice r1 H.pos.length k1) ∧ (w3.alloc (.cells #[.int .u8 H.hint, .int .i32 H.schema, .int .u64 H.thr, .int .u64 H.sum, .int .u64 H.zc, .int .u64 H.cnt, .slice r1 H.pos.length k1, .slice r2 H.neg.length k2, .slice r3 H.ups.length k3, .slice r4 H.downs.length k4, .slice r5 H.fups.length k5, .slice r6 H.fdowns.length k6, .slice r7 H.cus.length k7] 27)).cell? ⟨w3.heap.size, 7, none⟩ = some (.slice r2 H.neg.length k2) ∧ (w3.alloc (.cells #[.int .u8 H.hint, .int .i32 H.schema, .int .u64 H.thr, .int .u64 H.sum, .int .u64 H.zc, .int .u64 H.cnt, .slice r1 H.pos.length k1, .slice r2 H.neg.length k2, .slice r3 H.ups.length k3, .slice r4 H.downs.length k4, .slice r5 H.fups.length k5, .slice r6 H.fdowns.length k6, .slice r7 H.cus.length k7] 27)).cell? ⟨w3.heap.size, 8, none⟩ = some (.slice r3 H.ups.length k3) ∧ (w3.alloc (.cells #[.int .u8 H.hint, .int .i32 H.schema, .int .u64 H.thr, .int .u64 H.sum, .int .u64 H.zc, .int .u64 H.cnt, .slice r1 H.pos.length k1, .slice r2 H.neg.length k2, .slice r3 H.ups.length k3, .slice r4 H.downs.length k4, .slice r5 H.fups.length k5, .slice r6 H.fdowns.length k6, .slice r7 H.cus.length k7] 27)).cell? ⟨w3.heap.size, 9, none⟩ = some (.slice r4 H.downs.length k4) ∧ (w3.alloc (.cells #[.int .u8 H.hint, .int .i32 H.schema, .int .u64 H.thr, .int .u64 H.sum, .int .u64 H.zc, .int .u64 H.cnt, .slice r1 H.pos.length k1, .slice r2 H.neg.length k2, .slice r3 H.ups.length k3, .slice r4 H.downs.length k4, .slice r5 H.fups.length k5, .slice r6 H.fdowns.length k6, .slice r7 H.cus.length k7] 27)).cell? ⟨w3.heap.size, 10, none⟩ = some (.slice r5 H.fups.length k5) ∧ (w3.alloc (.cells #[.int .u8 H.hint, .int .i32 H.schema, .int .u64 H.thr, .int .u64 H.sum, .int .u64 H.zc, .int .u64 H.cnt, .slice r1 H.pos.length k1, .slice r2 H.neg.length k2, .slice r3 H.ups.length k3, .slice r4 H.downs.length k4, .slice r5 H.fups.length k5, .slice r6 H.fdowns.length k6, .slice r7 H.cus.length k7] 27)).cell? ⟨w3.heap.size, 11, none⟩ = some (.slice r6 H.fdowns.length k6) ∧ (w3.alloc (.cells #[.int .u8 H.hint, .int .i32 H.schema, .int .u64 H.thr, .int .u64 H.sum, .int .u64 H.zc, .int .u64 H.cnt, .slice r1 H.pos.length k1, .slice r2 H.neg.length k2, .slice r3 H.ups.length k3, .slice r4 H.downs.length k4, .slice r5 H.fups.length k5, .slice r6 H.fdowns.length k6, .slice r7 H.cus.length k7] 27)).cell? ⟨w3.heap.size, 12, none⟩ = some (.slice r7 H.cus.length k7) := ⟨hcr 0, hcr 1, hcr 2, hcr 3, hcr 4, hcr 5, hcr 6, hcr 7, hcr 8, hcr 9, hcr 10, hcr 11, hcr 12⟩
    have hgl : w3.heap.size < (w3.alloc (.cells #[.int .u8 H.hint, .int .i32 H.schema, .int .u64 H.thr, .int .u64 H.sum, .int .u64 H.zc, .int .u64 H.cnt, .slice r1 H.pos.length k1, .slice r2 H.neg.length k2, .slice r3 H.ups.length k3, .slice r4 H.downs.length k4, .slice r5 H.fups.length k5, .slice r6 H.fdowns.length k6, .slice r7 H.cus.length k7] 27)).heap.size := by simp
    have hq := keep13 hB4 hz3 hq3
    clear hcr hq3 hq2
    go_wp2_with fail
    generalize hgg : w3.heap.size = gg at *
    generalize w3.alloc _ = wg at *
    have hBg := hB3.trans (hB4.mono (by omega))
    have hpl : w.heap.size < wg.heap.size := Nat.lt_trans (by omega) hgl
    replace hH := (hH.below hB4 (by omega)).mono (by have := hB4.size; omega) (Nat.le_refl _)
    have hS : (wg.drew.cell? ⟨w.heap.size, 0, none⟩ = some (.int .u8 h.hint) ∧ wg.drew.cell? ⟨w.heap.size, 1, none⟩ = some (.int .i32 h.schema) ∧ wg.drew.cell? ⟨w.heap.size, 2, none⟩ = some (.int .u64 h.thr) ∧ wg.drew.cell? ⟨w.heap.size, 3, none⟩ = some (.int .u64 h.sum) ∧ wg.drew.cell? ⟨w.heap.size, 4, none⟩ = some (.int .u64 h.zc) ∧ wg.drew.cell? ⟨w.heap.size, 5, none⟩ = some (.int .u64 h.cnt) ∧ wg.drew.cell? ⟨w.heap.size, 6, none⟩ = some (v1) ∧ wg.drew.cell? ⟨w.heap.size, 7, none⟩ = some (v2) ∧ wg.drew.cell? ⟨w.heap.size, 8, none⟩ = some (v3) ∧ wg.drew.cell? ⟨w.heap.size, 9, none⟩ = some (v4) ∧ wg.drew.cell? ⟨w.heap.size, 10, none⟩ = some (v5) ∧ wg.drew.cell? ⟨w.heap.size, 11, none⟩ = some (v6) ∧ wg.drew.cell? ⟨w.heap.size, 12, none⟩ = some (v7)) ∧ wg.drew.cell? ⟨gg, 0, none⟩ = some (.int .u8 H.hint) ∧ wg.drew.cell? ⟨gg, 1, none⟩ = some (.int .i32 H.schema) ∧ wg.drew.cell? ⟨gg, 2, none⟩ = some (.int .u64 H.thr) ∧ wg.drew.cell? ⟨gg, 3, none⟩ = some (.int .u64 H.sum) ∧ wg.drew.cell? ⟨gg, 4, none⟩ = some (.int .u64 H.zc) ∧ wg.drew.cell? ⟨gg, 5, none⟩ = some (.int .u64 H.cnt) ∧ wg.drew.cell? ⟨gg, 6, none⟩ = some (.slice r1 H.pos.length k1) ∧ wg.drew.cell? ⟨gg, 7, none⟩ = some (.slice r2 H.neg.length k2) ∧ wg.drew.cell? ⟨gg, 8, none⟩ = some (.slice r3 H.ups.length k3) ∧ wg.drew.cell? ⟨gg, 9, none⟩ = some (.slice r4 H.downs.length k4) ∧ wg.drew.cell? ⟨gg, 10, none⟩ = some (.slice r5 H.fups.length k5) ∧ wg.drew.cell? ⟨gg, 11, none⟩ = some (.slice r6 H.fdowns.length k6) ∧ wg.drew.cell? ⟨gg, 12, none⟩ = some (.slice r7 H.cus.length k7) := ⟨hq, hr⟩
    have hgB : gg < wg.drew.heap.size := hgl
    have hpB : w.heap.size < wg.drew.heap.size := hpl
    have hBd : Below w.heap.size w wg.drew := hBg.drew
    have hHd : HistAt wg.drew wg.drew.heap.size (.slice r1 H.pos.length k1) (.slice r2 H.neg.length k2) (.slice r3 H.ups.length k3) (.slice r4 H.downs.length k4) (.slice r5 H.fups.length k5) (.slice r6 H.fdowns.length k6) (.slice r7 H.cus.length k7) H := (hH.below ((Below.refl wg.heap.size wg).drew) (Nat.le_refl _)).mono (Nat.le_refl _) (Nat.le_refl _)
    clear hq hr hgl hpl hBg hH
    go_region_held3 (fun w' => (w'.cell? ⟨w.heap.size, 0, none⟩ = some (.int .u8 h.hint) ∧ w'.cell? ⟨w.heap.size, 1, none⟩ = some (.int .i32 h.schema) ∧ w'.cell? ⟨w.heap.size, 2, none⟩ = some (.int .u64 h.thr) ∧ w'.cell? ⟨w.heap.size, 3, none⟩ = some (.int .u64 h.sum) ∧ w'.cell? ⟨w.heap.size, 4, none⟩ = some (.int .u64 h.zc) ∧ w'.cell? ⟨w.heap.size, 5, none⟩ = some (.int .u64 h.cnt) ∧ w'.cell? ⟨w.heap.size, 6, none⟩ = some (v1) ∧ w'.cell? ⟨w.heap.size, 7, none⟩ = some (v2) ∧ w'.cell? ⟨w.heap.size, 8, none⟩ = some (v3) ∧ w'.cell? ⟨w.heap.size, 9, none⟩ = some (v4) ∧ w'.cell? ⟨w.heap.size, 10, none⟩ = some (v5) ∧ w'.cell? ⟨w.heap.size, 11, none⟩ = some (v6) ∧ w'.cell? ⟨w.heap.size, 12, none⟩ = some (v7)) ∧ w'.cell? ⟨gg, 0, none⟩ = some (.int .u8 H.hint) ∧ w'.cell? ⟨gg, 1, none⟩ = some (.int .i32 H.schema) ∧ w'.cell? ⟨gg, 2, none⟩ = some (.int .u64 H.thr) ∧ w'.cell? ⟨gg, 3, none⟩ = some (.int .u64 H.sum) ∧ w'.cell? ⟨gg, 4, none⟩ = some (.int .u64 H.zc) ∧ w'.cell? ⟨gg, 5, none⟩ = some (.int .u64 H.cnt) ∧ w'.cell? ⟨gg, 6, none⟩ = some (.slice r1 H.pos.length k1) ∧ w'.cell? ⟨gg, 7, none⟩ = some (.slice r2 H.neg.length k2) ∧ w'.cell? ⟨gg, 8, none⟩ = some (.slice r3 H.ups.length k3) ∧ w'.cell? ⟨gg, 9, none⟩ = some (.slice r4 H.downs.length k4) ∧ w'.cell? ⟨gg, 10, none⟩ = some (.slice r5 H.fups.length k5) ∧ w'.cell? ⟨gg, 11, none⟩ = some (.slice r6 H.fdowns.length k6) ∧ w'.cell? ⟨gg, 12, none⟩ = some (.slice r7 H.cus.length k7)) (first | (with_reducible assumption) | (with_reducible exact keep26 hb7 (by omega) (by omega) (by assumption)) | (with_reducible exact keep26 hb6 (by omega) (by omega) (by assumption)) | (with_reducible exact keep26 hb5 (by omega) (by omega) (by assumption)) | go_keep)
      (first
        | (go_at_call 11; refine (countAlive_any _ (he.below hBd h9)).mono ?_; rintro e w5 ⟨rfl, hb5⟩; have hB5 := hBd.trans (hb5.mono hBd.size); have hz5 := hb5.size; have hH5 := (hHd.below hb5 (Nat.le_refl _)).mono hb5.size (Nat.le_refl _))
        | (go_at_call 19; refine (scaled_any v1 v2 v3 v4 v5 v6 v7 h f false w5 (at_ w5 hB5) hf).mono ?_; rintro e w6 ⟨h', z5, z6, rfl, hN, hsN, hb6⟩; have hB6 := hB5.trans (hb6.mono hB5.size); have hz6 := hb6.size; have hH6 := (hH5.below hb6 (Nat.le_refl _)).mono hb6.size (Nat.le_refl _))
        | (go_at_call 18; refine (nearH_eq (.slice r1 H.pos.length k1) (.slice r2 H.neg.length k2) (.slice r3 H.ups.length k3) (.slice r4 H.downs.length k4) (.slice r5 H.fups.length k5) (.slice r6 H.fdowns.length k6) (.slice r7 H.cus.length k7) v1 v2 v3 v4 z5 z6 v7 H h' w6 hH6 hN hF0 (hsN.fits1 hf) hW0 (hsN.wf1 hw) ⟨bkts_nonneg _ _ _, bkts_nonneg _ _ _⟩ ⟨bkts_nonneg _ _ _, bkts_nonneg _ _ _⟩ (HND.out h' hsN)).mono ?_; rintro e w7 ⟨rfl, hb7⟩; have hB7 := hB6.trans (hb7.mono hB6.size))
        | fail)
    go_wp2
    go_ret
    exact ⟨rfl, hB7⟩
  | true =>
  by_cases hz : (IntKind.u64.wrap ((f : Int) * 2) == 0) = true
  · clear hq2
    go_wp2_with fail
    refine (countAlive_any w2 (he.below hB2 h9)).mono ?_
    rintro e w3 ⟨rfl, hb3⟩
    have hB3 := hB2.trans (hb3.mono hB2.size)
    go_wp2
    go_ret
    exact ⟨rfl, hB3⟩
  have hz' : (IntKind.u64.wrap ((f : Int) * 2) == 0) = false := by simpa using hz
  have hnz := not_zero (f := f) (by simpa using hz)
  clear hz
  go_wp2_with fail
  refine (histMul_any v1 v2 v3 v4 v5 v6 v7 h f w2 (at_ w2 hB2) hf).mono ?_
  rintro e w3 ⟨h1, y1, y2, y3, y4, y5, y6, y7, rfl, hH1, _, _, hb3⟩
  have hB3 := hB2.trans (hb3.mono hB2.size)
  have hq3 := keep13 hb3 hz2 hq2
  have hz3 : w.heap.size < w3.heap.size := Nat.lt_of_lt_of_le hz2 hb3.size
  generalize ({ h1 with ups := [], downs := [] } : Hist) = G at *
  obtain ⟨q1, m1, rfl, _, _⟩ := hH1.pos.form
  obtain ⟨q2, m2, rfl, _, _⟩ := hH1.neg.form
  obtain ⟨q3, m3, rfl, _, _⟩ := hH1.ups.form
  obtain ⟨q4, m4, rfl, _, _⟩ := hH1.downs.form
  obtain ⟨q5, m5, rfl, _, _⟩ := hH1.fups.form
  obtain ⟨q6, m6, rfl, _, _⟩ := hH1.fdowns.form
  obtain ⟨q7, m7, rfl, _, _⟩ := hH1.cus.form
  unfold histCells
  simp only [List.length_map] at hH1 ⊢
  have hB4 : Below w3.heap.size w3 (w3.alloc (.cells #[.int .u8 G.hint, .int .i32 G.schema, .int .u64 G.thr, .int .u64 G.sum, .int .u64 G.zc, .int .u64 G.cnt, .slice q1 G.pos.length m1, .slice q2 G.neg.length m2, .slice q3 G.ups.length m3, .slice q4 G.downs.length m4, .slice q5 G.fups.length m5, .slice q6 G.fdowns.length m6, .slice q7 G.cus.length m7] 27)) := (Below.refl w3.heap.size w3).alloc (Nat.le_refl _) _
  have hnew := heap_alloc_new w3 (.cells #[.int .u8 G.hint, .int .i32 G.schema, .int .u64 G.thr, .int .u64 G.sum, .int .u64 G.zc, .int .u64 G.cnt, .slice q1 G.pos.length m1, .slice q2 G.neg.length m2, .slice q3 G.ups.length m3, .slice q4 G.downs.length m4, .slice q5 G.fups.length m5, .slice q6 G.fdowns.length m6, .slice q7 G.cus.length m7] 27)
  have hgl0 : w3.heap.size < (w3.alloc (.cells #[.int .u8 G.hint, .int .i32 G.schema, .int .u64 G.thr, .int .u64 G.sum, .int .u64 G.zc, .int .u64 G.cnt, .slice q1 G.pos.length m1, .slice q2 G.neg.length m2, .slice q3 G.ups.length m3, .slice q4 G.downs.length m4, .slice q5 G.fups.length m5, .slice q6 G.fdowns.length m6, .slice q7 G.cus.length m7] 27)).heap.size := by simp
  have hq4 := keep13 hB4 hz3 hq3
  have HNEW := Lib.hid hnew
  clear hq3 hq2 hnew
  go_wp2_with fail
  generalize hgg : w3.heap.size = gg at *
  generalize w3.alloc _ = wa at *
  have hBa := hB3.trans (hB4.mono (by omega))
  refine (histDiv_any v1 v2 v3 v4 v5 v6 v7 h f wa (at_ wa hBa) hf hnz).mono ?_
  rintro e w4 ⟨h2, x1, x2, x3, x4, x5, x6, x7, rfl, hH, hs, hFr, hb4⟩
  have hBw := hBa.trans (hb4.mono hBa.size)
  have hq5 := keep13 hb4 (by omega) hq4
  have hold := (hb4.block gg hgl0).trans HNEW.out
  have hF0 := hs.fits0 hf
  have hW0 := hs.wf0 hw
  have HND : Hid (∀ h' : Hist, Scl true f h h' → NearD { h2 with ups := [], downs := [] } h') := fun h' hn => nearD_of hs hn
  have hz4 := hb4.size
  generalize ({ h2 with ups := [], downs := [] } : Hist) = H at *
  obtain ⟨r1, k1, rfl, _, _⟩ := hH.pos.form
  obtain ⟨r2, k2, rfl, _, _⟩ := hH.neg.form
  obtain ⟨r3, k3, rfl, _, _⟩ := hH.ups.form
  obtain ⟨r4, k4, rfl, _, _⟩ := hH.downs.form
  obtain ⟨r5, k5, rfl, _, _⟩ := hH.fups.form
  obtain ⟨r6, k6, rfl, _, _⟩ := hH.fdowns.form
  obtain ⟨r7, k7, rfl, _, _⟩ := hH.cus.form
  simp only [List.length_map] at hH hFr
  have hone : (#[.int .u8 H.hint, .int .i32 H.schema, .int .u64 H.thr, .int .u64 H.sum, .int .u64 H.zc, .int .u64 H.cnt, .slice r1 H.pos.length k1, .slice r2 H.neg.length k2, .slice r3 H.ups.length k3, .slice r4 H.downs.length k4, .slice r5 H.fups.length k5, .slice r6 H.fdowns.length k6, .slice r7 H.cus.length k7] : Array Value).all (·.oneCell') = true := by simp [Value.oneCell']
  have hF := setRow_heap w4 gg _ #[.int .u8 H.hint, .int .i32 H.schema, .int .u64 H.thr, .int .u64 H.sum, .int .u64 H.zc, .int .u64 H.cnt, .slice r1 H.pos.length k1, .slice r2 H.neg.length k2, .slice r3 H.ups.length k3, .slice r4 H.downs.length k4, .slice r5 H.fups.length k5, .slice r6 H.fdowns.length k6, .slice r7 H.cus.length k7] _ _ hold
  have hO := fun k (hk : k ≠ gg) => setRow_other w4 #[.int .u8 H.hint, .int .i32 H.schema, .int .u64 H.thr, .int .u64 H.sum, .int .u64 H.zc, .int .u64 H.cnt, .slice r1 H.pos.length k1, .slice r2 H.neg.length k2, .slice r3 H.ups.length k3, .slice r4 H.downs.length k4, .slice r5 H.fups.length k5, .slice r6 H.fdowns.length k6, .slice r7 H.cus.length k7] hk
  have hSz := setRow_size w4 gg #[.int .u8 H.hint, .int .i32 H.schema, .int .u64 H.thr, .int .u64 H.sum, .int .u64 H.zc, .int .u64 H.cnt, .slice r1 H.pos.length k1, .slice r2 H.neg.length k2, .slice r3 H.ups.length k3, .slice r4 H.downs.length k4, .slice r5 H.fups.length k5, .slice r6 H.fdowns.length k6, .slice r7 H.cus.length k7]
  have hBs : Below gg w4 (w4.setRow gg #[.int .u8 H.hint, .int .i32 H.schema, .int .u64 H.thr, .int .u64 H.sum, .int .u64 H.zc, .int .u64 H.cnt, .slice r1 H.pos.length k1, .slice r2 H.neg.length k2, .slice r3 H.ups.length k3, .slice r4 H.downs.length k4, .slice r5 H.fups.length k5, .slice r6 H.fdowns.length k6, .slice r7 H.cus.length k7]) := ⟨hSz.2.1, hSz.2.2.1, hSz.2.2.2, Nat.le_of_eq hSz.1.symm, fun k hk => hO k (by omega)⟩
  have hq := keep13 hBs (by omega) hq5
  have HQ := Lib.hid hq
  have HF := Lib.hid hF
  have HO := Lib.hid hO
  have HSz := Lib.hid hSz
  clear hq hF hO hSz hq4 hH hH1
  go_wp2_with (first | (refine wpList_store_row rfl 27 (.tmp 7) (.tmp 29) rfl gg #[.int .u8 H.hint, .int .i32 H.schema, .int .u64 H.thr, .int .u64 H.sum, .int .u64 H.zc, .int .u64 H.cnt, .slice r1 H.pos.length k1, .slice r2 H.neg.length k2, .slice r3 H.ups.length k3, .slice r4 H.downs.length k4, .slice r5 H.fups.length k5, .slice r6 H.fdowns.length k6, .slice r7 H.cus.length k7] rfl rfl 27 _ hold (by kernel_rfl) rfl hone ?_) | fail)
  have hq := HQ.out
  have hF := HF.out
  have hO := HO.out
  have hSz := HSz.out
  clear HQ HF HO HSz hq5 hold
  generalize w4.setRow _ _ = wg at *
  have hcr := cells_of_block hF
  have hr : wg.cell? ⟨gg, 0, none⟩ = some (.int .u8 H.hint) ∧ wg.cell? ⟨gg, 1, none⟩ = some (.int .i32 H.schema) ∧ wg.cell? ⟨gg, 2, none⟩ = some (.int .u64 H.thr) ∧ wg.cell? ⟨gg, 3, none⟩ = some (.int .u64 H.sum) ∧ wg.cell? ⟨gg, 4, none⟩ = some (.int .u64 H.zc) ∧ wg.cell? ⟨gg, 5, none⟩ = some (.int .u64 H.cnt) ∧ wg.cell? ⟨gg, 6, none⟩ = some (.slice r1 H.pos.length k1) ∧ wg.cell? ⟨gg, 7, none⟩ = some (.slice r2 H.neg.length k2) ∧ wg.cell? ⟨gg, 8, none⟩ = some (.slice r3 H.ups.length k3) ∧ wg.cell? ⟨gg, 9, none⟩ = some (.slice r4 H.downs.length k4) ∧ wg.cell? ⟨gg, 10, none⟩ = some (.slice r5 H.fups.length k5) ∧ wg.cell? ⟨gg, 11, none⟩ = some (.slice r6 H.fdowns.length k6) ∧ wg.cell? ⟨gg, 12, none⟩ = some (.slice r7 H.cus.length k7) := ⟨hcr 0, hcr 1, hcr 2, hcr 3, hcr 4, hcr 5, hcr 6, hcr 7, hcr 8, hcr 9, hcr 10, hcr 11, hcr 12⟩
  have hH := hFr wg (fun k hk => hO k (by omega)) (by omega)
  have hgl : gg < wg.heap.size := by omega
  have hpl : w.heap.size < wg.heap.size := by omega
  have hBg := hBw.trans (hBs.mono (by omega))
  clear hF hO hSz hcr hFr
  have hS : (wg.drew.cell? ⟨w.heap.size, 0, none⟩ = some (.int .u8 h.hint) ∧ wg.drew.cell? ⟨w.heap.size, 1, none⟩ = some (.int .i32 h.schema) ∧ wg.drew.cell? ⟨w.heap.size, 2, none⟩ = some (.int .u64 h.thr) ∧ wg.drew.cell? ⟨w.heap.size, 3, none⟩ = some (.int .u64 h.sum) ∧ wg.drew.cell? ⟨w.heap.size, 4, none⟩ = some (.int .u64 h.zc) ∧ wg.drew.cell? ⟨w.heap.size, 5, none⟩ = some (.int .u64 h.cnt) ∧ wg.drew.cell? ⟨w.heap.size, 6, none⟩ = some (v1) ∧ wg.drew.cell? ⟨w.heap.size, 7, none⟩ = some (v2) ∧ wg.drew.cell? ⟨w.heap.size, 8, none⟩ = some (v3) ∧ wg.drew.cell? ⟨w.heap.size, 9, none⟩ = some (v4) ∧ wg.drew.cell? ⟨w.heap.size, 10, none⟩ = some (v5) ∧ wg.drew.cell? ⟨w.heap.size, 11, none⟩ = some (v6) ∧ wg.drew.cell? ⟨w.heap.size, 12, none⟩ = some (v7)) ∧ wg.drew.cell? ⟨gg, 0, none⟩ = some (.int .u8 H.hint) ∧ wg.drew.cell? ⟨gg, 1, none⟩ = some (.int .i32 H.schema) ∧ wg.drew.cell? ⟨gg, 2, none⟩ = some (.int .u64 H.thr) ∧ wg.drew.cell? ⟨gg, 3, none⟩ = some (.int .u64 H.sum) ∧ wg.drew.cell? ⟨gg, 4, none⟩ = some (.int .u64 H.zc) ∧ wg.drew.cell? ⟨gg, 5, none⟩ = some (.int .u64 H.cnt) ∧ wg.drew.cell? ⟨gg, 6, none⟩ = some (.slice r1 H.pos.length k1) ∧ wg.drew.cell? ⟨gg, 7, none⟩ = some (.slice r2 H.neg.length k2) ∧ wg.drew.cell? ⟨gg, 8, none⟩ = some (.slice r3 H.ups.length k3) ∧ wg.drew.cell? ⟨gg, 9, none⟩ = some (.slice r4 H.downs.length k4) ∧ wg.drew.cell? ⟨gg, 10, none⟩ = some (.slice r5 H.fups.length k5) ∧ wg.drew.cell? ⟨gg, 11, none⟩ = some (.slice r6 H.fdowns.length k6) ∧ wg.drew.cell? ⟨gg, 12, none⟩ = some (.slice r7 H.cus.length k7) := ⟨hq, hr⟩
  have hgB : gg < wg.drew.heap.size := hgl
  have hpB : w.heap.size < wg.drew.heap.size := hpl
  have hBd : Below w.heap.size w wg.drew := hBg.drew
  have hHd : HistAt wg.drew wg.drew.heap.size (.slice r1 H.pos.length k1) (.slice r2 H.neg.length k2) (.slice r3 H.ups.length k3) (.slice r4 H.downs.length k4) (.slice r5 H.fups.length k5) (.slice r6 H.fdowns.length k6) (.slice r7 H.cus.length k7) H := (hH.below ((Below.refl wg.heap.size wg).drew) (Nat.le_refl _)).mono (Nat.le_refl _) (Nat.le_refl _)
  clear hq hr hgl hpl hBg hH
  go_region_held3 (fun w' => (w'.cell? ⟨w.heap.size, 0, none⟩ = some (.int .u8 h.hint) ∧ w'.cell? ⟨w.heap.size, 1, none⟩ = some (.int .i32 h.schema) ∧ w'.cell? ⟨w.heap.size, 2, none⟩ = some (.int .u64 h.thr) ∧ w'.cell? ⟨w.heap.size, 3, none⟩ = some (.int .u64 h.sum) ∧ w'.cell? ⟨w.heap.size, 4, none⟩ = some (.int .u64 h.zc) ∧ w'.cell? ⟨w.heap.size, 5, none⟩ = some (.int .u64 h.cnt) ∧ w'.cell? ⟨w.heap.size, 6, none⟩ = some (v1) ∧ w'.cell? ⟨w.heap.size, 7, none⟩ = some (v2) ∧ w'.cell? ⟨w.heap.size, 8, none⟩ = some (v3) ∧ w'.cell? ⟨w.heap.size, 9, none⟩ = some (v4) ∧ w'.cell? ⟨w.heap.size, 10, none⟩ = some (v5) ∧ w'.cell? ⟨w.heap.size, 11, none⟩ = some (v6) ∧ w'.cell? ⟨w.heap.size, 12, none⟩ = some (v7)) ∧ w'.cell? ⟨gg, 0, none⟩ = some (.int .u8 H.hint) ∧ w'.cell? ⟨gg, 1, none⟩ = some (.int .i32 H.schema) ∧ w'.cell? ⟨gg, 2, none⟩ = some (.int .u64 H.thr) ∧ w'.cell? ⟨gg, 3, none⟩ = some (.int .u64 H.sum) ∧ w'.cell? ⟨gg, 4, none⟩ = some (.int .u64 H.zc) ∧ w'.cell? ⟨gg, 5, none⟩ = some (.int .u64 H.cnt) ∧ w'.cell? ⟨gg, 6, none⟩ = some (.slice r1 H.pos.length k1) ∧ w'.cell? ⟨gg, 7, none⟩ = some (.slice r2 H.neg.length k2) ∧ w'.cell? ⟨gg, 8, none⟩ = some (.slice r3 H.ups.length k3) ∧ w'.cell? ⟨gg, 9, none⟩ = some (.slice r4 H.downs.length k4) ∧ w'.cell? ⟨gg, 10, none⟩ = some (.slice r5 H.fups.length k5) ∧ w'.cell? ⟨gg, 11, none⟩ = some (.slice r6 H.fdowns.length k6) ∧ w'.cell? ⟨gg, 12, none⟩ = some (.slice r7 H.cus.length k7)) (first | (with_reducible assumption) | (with_reducible exact keep26 hb7 (by omega) (by omega) (by assumption)) | (with_reducible exact keep26 hb6 (by omega) (by omega) (by assumption)) | (with_reducible exact keep26 hb5 (by omega) (by omega) (by assumption)) | go_keep)
    (first
      | (go_at_call 11; refine (countAlive_any _ (he.below hBd h9)).mono ?_; rintro e w5 ⟨rfl, hb5⟩; have hB5 := hBd.trans (hb5.mono hBd.size); have hz5 := hb5.size; have hH5 := (hHd.below hb5 (Nat.le_refl _)).mono hb5.size (Nat.le_refl _))
      | (go_at_call 19; refine (scaled_any v1 v2 v3 v4 v5 v6 v7 h f true w5 (at_ w5 hB5) hf).mono ?_; rintro e w6 ⟨h', z5, z6, rfl, hN, hsN, hb6⟩; have hB6 := hB5.trans (hb6.mono hB5.size); have hz6 := hb6.size; have hH6 := (hH5.below hb6 (Nat.le_refl _)).mono hb6.size (Nat.le_refl _))
      | (go_at_call 18; refine (nearH_eq (.slice r1 H.pos.length k1) (.slice r2 H.neg.length k2) (.slice r3 H.ups.length k3) (.slice r4 H.downs.length k4) (.slice r5 H.fups.length k5) (.slice r6 H.fdowns.length k6) (.slice r7 H.cus.length k7) v1 v2 v3 v4 z5 z6 v7 H h' w6 hH6 hN hF0 (hsN.fits1 hf) hW0 (hsN.wf1 hw) ⟨bkts_nonneg _ _ _, bkts_nonneg _ _ _⟩ ⟨bkts_nonneg _ _ _, bkts_nonneg _ _ _⟩ (HND.out h' hsN)).mono ?_; rintro e w7 ⟨rfl, hb7⟩; have hB7 := hB6.trans (hb7.mono hB6.size))
      | fail)
  go_wp2
  go_ret
  exact ⟨rfl, hB7⟩
end Go.Proofs.YtbgkoapnejnfbaaDoor
