/-
  The walk of the law on hints: a histogram with a hint is the histogram, but for its hint.
-/
import Derived.Test.YtbgkoapnejnfbaaDoorFit
import Derived.Test.YtbgkoapnejnfbaaDoorFits6
import Derived.Test.YtbgkoapnejnfbaaDoorHinted
import Derived.Test.YtbgkoapnejnfbaaDoorLaid
import Derived.Test.YtbgkoapnejnfbaaDoorAlive
namespace Go.Proofs.YtbgkoapnejnfbaaDoor
set_option linter.unusedSimpArgs false
set_option linter.unusedVariables false
open Go.RowKit
attribute [local go_sem ↓] Go.wp_at_zero Go.wp_at_succ
attribute [local go_sem] cell_there frozen_there

set_option maxRecDepth 100000 in
set_option maxHeartbeats 8000000 in
theorem whinted (v1 v2 v3 v4 v5 v6 v7 : Value) (h : Hist) (rs fl : Bool) (w : World) (ha : HistAt w w.heap.size v1 v2 v3 v4 v5 v6 v7 h) (hw : Wf h) (he : Errs w) :
    Calls Tryd.prog 4 #[.agg (histCells h v1 v2 v3 v4 v5 v6 v7), .bool rs, .bool fl] w fun e w' => e = .returned (.bool true) ∧ Below w.heap.size w w' := by
  have h9 := he.lt
  unfold histCells
  have hB0 : Below w.heap.size w (w.alloc (.cells #[.int .u8 h.hint, .int .i32 h.schema, .int .u64 h.thr, .int .u64 h.sum, .int .u64 h.zc, .int .u64 h.cnt, v1, v2, v3, v4, v5, v6, v7] 27)) := (Below.refl w.heap.size w).alloc (Nat.le_refl _) _
  have hca := cells_of_block (heap_alloc_new w (.cells #[.int .u8 h.hint, .int .i32 h.schema, .int .u64 h.thr, .int .u64 h.sum, .int .u64 h.zc, .int .u64 h.cnt, v1, v2, v3, v4, v5, v6, v7] 27))
  have qa : (w.alloc (.cells #[.int .u8 h.hint, .int .i32 h.schema, .int .u64 h.thr, .int .u64 h.sum, .int .u64 h.zc, .int .u64 h.cnt, v1, v2, v3, v4, v5, v6, v7] 27)).cell? ⟨w.heap.size, 0, none⟩ = some (.int .u8 h.hint) ∧ (w.alloc (.cells #[.int .u8 h.hint, .int .i32 h.schema, .int .u64 h.thr, .int .u64 h.sum, .int .u64 h.zc, .int .u64 h.cnt, v1, v2, v3, v4, v5, v6, v7] 27)).cell? ⟨w.heap.size, 1, none⟩ = some (.int .i32 h.schema) ∧ (w.alloc (.cells #[.int .u8 h.hint, .int .i32 h.schema, .int .u64 h.thr, .int .u64 h.sum, .int .u64 h.zc, .int .u64 h.cnt, v1, v2, v3, v4, v5, v6, v7] 27)).cell? ⟨w.heap.size, 2, none⟩ = some (.int .u64 h.thr) ∧ (w.alloc (.cells #[.int .u8 h.hint, .int .i32 h.schema, .int .u64 h.thr, .int .u64 h.sum, .int .u64 h.zc, .int .u64 h.cnt, v1, v2, v3, v4, v5, v6, v7] 27)).cell? ⟨w.heap.size, 3, none⟩ = some (.int .u64 h.sum) ∧ (w.alloc (.cells #[.int .u8 h.hint, .int .i32 h.schema, .int .u64 h.thr, .int .u64 h.sum, .int .u64 h.zc, .int .u64 h.cnt, v1, v2, v3, v4, v5, v6, v7] 27)).cell? ⟨w.heap.size, 4, none⟩ = some (.int .u64 h.zc) ∧ (w.alloc (.cells #[.int .u8 h.hint, .int .i32 h.schema, .int .u64 h.thr, .int .u64 h.sum, .int .u64 h.zc, .int .u64 h.cnt, v1, v2, v3, v4, v5, v6, v7] 27)).cell? ⟨w.heap.size, 5, none⟩ = some (.int .u64 h.cnt) ∧ (w.alloc (.cells #[.int .u8 h.hint, .int .i32 h.schema, .int .u64 h.thr, .int .u64 h.sum, .int .u64 h.zc, .int .u64 h.cnt, v1, v2, v3, v4, v5, v6, v7] 27)).cell? ⟨w.heap.size, 6, none⟩ = some (v1) ∧ (w.alloc (.cells #[.int .u8 h.hint, .int .i32 h.schema, .int .u64 h.thr, .int .u64 h.sum, .int .u64 h.zc, .int .u64 h.cnt, v1, v2, v3, v4, v5, v6, v7] 27)).cell? ⟨w.heap.size, 7, none⟩ = some (v2) ∧ (w.alloc (.cells #[.int .u8 h.hint, .int .i32 h.schema, .int .u64 h.thr, .int .u64 h.sum, .int .u64 h.zc, .int .u64 h.cnt, v1, v2, v3, v4, v5, v6, v7] 27)).cell? ⟨w.heap.size, 8, none⟩ = some (v3) ∧ (w.alloc (.cells #[.int .u8 h.hint, .int .i32 h.schema, .int .u64 h.thr, .int .u64 h.sum, .int .u64 h.zc, .int .u64 h.cnt, v1, v2, v3, v4, v5, v6, v7] 27)).cell? ⟨w.heap.size, 9, none⟩ = some (v4) ∧ (w.alloc (.cells #[.int .u8 h.hint, .int .i32 h.schema, .int .u64 h.thr, .int .u64 h.sum, .int .u64 h.zc, .int .u64 h.cnt, v1, v2, v3, v4, v5, v6, v7] 27)).cell? ⟨w.heap.size, 10, none⟩ = some (v5) ∧ (w.alloc (.cells #[.int .u8 h.hint, .int .i32 h.schema, .int .u64 h.thr, .int .u64 h.sum, .int .u64 h.zc, .int .u64 h.cnt, v1, v2, v3, v4, v5, v6, v7] 27)).cell? ⟨w.heap.size, 11, none⟩ = some (v6) ∧ (w.alloc (.cells #[.int .u8 h.hint, .int .i32 h.schema, .int .u64 h.thr, .int .u64 h.sum, .int .u64 h.zc, .int .u64 h.cnt, v1, v2, v3, v4, v5, v6, v7] 27)).cell? ⟨w.heap.size, 12, none⟩ = some (v7) := ⟨hca 0, hca 1, hca 2, hca 3, hca 4, hca 5, hca 6, hca 7, hca 8, hca 9, hca 10, hca 11, hca 12⟩
  have hz : w.heap.size < (w.alloc (.cells #[.int .u8 h.hint, .int .i32 h.schema, .int .u64 h.thr, .int .u64 h.sum, .int .u64 h.zc, .int .u64 h.cnt, v1, v2, v3, v4, v5, v6, v7] 27)).heap.size := by simp
  clear hca
  go_enter Tryd.func4, Tryd.ntmps4
  go_wp2_with fail
  have HQ := Lib.hid qa
  clear qa
  generalize w.alloc _ = W at *
  have at_ : ∀ w', Below w.heap.size w w' → HistAt w' w'.heap.size v1 v2 v3 v4 v5 v6 v7 h := fun w' hb => (ha.below hb (Nat.le_refl _)).mono hb.size (Nat.le_refl _)
  refine (fits6_any v1 v2 v3 v4 v5 v6 v7 h W (at_ W hB0)).mono ?_
  rintro e w1 ⟨r, rfl, hr, hb1⟩
  have hB1 := hB0.trans (hb1.mono hB0.size)
  have hz1 : w.heap.size < w1.heap.size := Nat.lt_of_lt_of_le hz hb1.size
  cases r with
  | false =>
    go_wp2
    go_ret
    exact ⟨rfl, hB1⟩
  | true =>
  have hf := hr rfl
  clear hr
  have hq1 := keep13 hb1 hz HQ.out
  go_wp2_with fail
  have HQ1 := Lib.hid hq1
  clear hq1
  refine (fit_any fl v1 v2 v3 v4 v5 v6 v7 h w1 (at_ w1 hB1) hf hw (h.schema == -53) rfl).mono ?_
  rintro e w2 ⟨r, rfl, _, hb2⟩
  have hB2 := hB1.trans (hb2.mono hB1.size)
  have hz2 : w.heap.size < w2.heap.size := Nat.lt_of_lt_of_le hz1 hb2.size
  cases r with
  | false =>
    go_wp2_with fail
    refine (countAlive_any w2 (he.below hB2 h9)).mono ?_
    rintro e w3 ⟨rfl, hb3⟩
    have hB3 := hB2.trans (hb3.mono hB2.size)
    go_wp2
    go_ret
    exact ⟨rfl, hB3⟩
  | true =>
  have hq2 := keep13 hb2 hz1 HQ1.out
  cases rs
  · go_wp2_with fail
    have HQ2 := Lib.hid hq2
    clear hq2
    refine (hinted_any fl false v1 v2 v3 v4 v5 v6 v7 h w2 (at_ w2 hB2) hf).mono ?_
    rintro e w3 ⟨y1, y2, y3, y4, y5, y6, y7, rfl, hH, hb3⟩
    have hB3 := hB2.trans (hb3.mono hB2.size)
    have hq3 := keep13 hb3 hz2 HQ2.out
    have hz3 : w.heap.size < w3.heap.size := Nat.lt_of_lt_of_le hz2 hb3.size
    have hsame := hint_same fl false h
    have hhf := hint_fits (fl := fl) (rs := false) hf
    have hhw := hint_wf (fl := fl) (rs := false) hw
    have hhh : (hintH fl false h).hint = 2 := hint_hint fl false h
    generalize hintH fl false h = H at *
    obtain ⟨r1, k1, rfl, _, _⟩ := hH.pos.form
    obtain ⟨r2, k2, rfl, _, _⟩ := hH.neg.form
    obtain ⟨r3, k3, rfl, _, _⟩ := hH.ups.form
    obtain ⟨r4, k4, rfl, _, _⟩ := hH.downs.form
    obtain ⟨r5, k5, rfl, _, _⟩ := hH.fups.form
    obtain ⟨r6, k6, rfl, _, _⟩ := hH.fdowns.form
    obtain ⟨r7, k7, rfl, _, _⟩ := hH.cus.form
    unfold histCells
    simp only [List.length_map] at hH ⊢
    have hB6 : Below w3.heap.size w3 (w3.alloc (.cells #[.int .u8 2, .int .i32 H.schema, .int .u64 H.thr, .int .u64 H.sum, .int .u64 H.zc, .int .u64 H.cnt, .slice r1 H.pos.length k1, .slice r2 H.neg.length k2, .slice r3 H.ups.length k3, .slice r4 H.downs.length k4, .slice r5 H.fups.length k5, .slice r6 H.fdowns.length k6, .slice r7 H.cus.length k7] 27)) := (Below.refl w3.heap.size w3).alloc (Nat.le_refl _) _
    have hcr := cells_of_block (heap_alloc_new w3 (.cells #[.int .u8 2, .int .i32 H.schema, .int .u64 H.thr, .int .u64 H.sum, .int .u64 H.zc, .int .u64 H.cnt, .slice r1 H.pos.length k1, .slice r2 H.neg.length k2, .slice r3 H.ups.length k3, .slice r4 H.downs.length k4, .slice r5 H.fups.length k5, .slice r6 H.fdowns.length k6, .slice r7 H.cus.length k7] 27))
    have hr : (w3.alloc (.cells #[.int .u8 2, .int .i32 H.schema, .int .u64 H.thr, .int .u64 H.sum, .int .u64 H.zc, .int .u64 H.cnt, .slice r1 H.pos.length k1, .slice r2 H.neg.length k2, .slice r3 H.ups.length k3, .slice r4 H.downs.length k4, .slice r5 H.fups.length k5, .slice r6 H.fdowns.length k6, .slice r7 H.cus.length k7] 27)).cell? ⟨w3.heap.size, 0, none⟩ = some (.int .u8 2) ∧ (w3.alloc (.cells #[.int .u8 2, .int .i32 H.schema, .int .u64 H.thr, .int .u64 H.sum, .int .u64 H.zc, .int .u64 H.cnt, .slice r1 H.pos.length k1, .slice r2 H.neg.length k2, .slice r3 H.ups.length k3, .slice r4 H.downs.length k4, .slice r5 H.fups.length k5, .slice r6 H.fdowns.length k6, .slice r7 H.cus.length k7] 27)).cell? ⟨w3.heap.size, 1, none⟩ = some (.int .i32 H.schema) ∧ (w3.alloc (.cells #[.int .u8 2, .int .i32 H.schema, .int .u64 H.thr, .int .u64 H.sum, .int .u64 H.zc, .int .u64 H.cnt, .slice r1 H.pos.length k1, .slice r2 H.neg.length k2, .slice r3 H.ups.length k3, .slice r4 H.downs.length k4, .slice r5 H.fups.length k5, .slice r6 H.fdowns.length k6, .slice r7 H.cus.length k7] 27)).cell? ⟨w3.heap.size, 2, none⟩ = some (.int .u64 H.thr) ∧ (w3.alloc (.cells #[.int .u8 2, .int .i32 H.schema, .int .u64 H.thr, .int .u64 H.sum, .int .u64 H.zc, .int .u64 H.cnt, .slice r1 H.pos.length k1, .slice r2 H.neg.length k2, .slice r3 H.ups.length k3, .slice r4 H.downs.length k4, .slice r5 H.fups.length k5, .slice r6 H.fdowns.length k6, .slice r7 H.cus.length k7] 27)).cell? ⟨w3.heap.size, 3, none⟩ = some (.int .u64 H.sum) ∧ (w3.alloc (.cells #[.int .u8 2, .int .i32 H.schema, .int .u64 H.thr, .int .u64 H.sum, .int .u64 H.zc, .int .u64 H.cnt, .slice r1 H.pos.length k1, .slice r2 H.neg.length k2, .slice r3 H.ups.length k3, .slice r4 H.downs.length k4, .slice r5 H.fups.length k5, .slice r6 H.fdowns.length k6, .slice r7 H.cus.length k7] 27)).cell? ⟨w3.heap.size, 4, none⟩ = some (.int .u64 H.zc) ∧ (w3.alloc (.cells #[.int .u8 2, .int .i32 H.schema, .int .u64 H.thr, .int .u64 H.sum, .int .u64 H.zc, .int .u64 H.cnt, .slice r1 H.pos.length k1, .slice r2 H.neg.length k2, .slice r3 H.ups.length k3, .slice r4 H.downs.length k4, .slice r5 H.fups.length k5, .slice r6 H.fdowns.length k6, .slice r7 H.cus.length k7] 27)).cell? ⟨w3.heap.size, 5, none⟩ = some (.int .u64 H.cnt) ∧ (w3.alloc (.cells #[.int .u8 2, .int .i32 H.schema, .int .u64 H.thr, .int .u64 H.sum, .int .u64 H.zc, .int .u64 H.cnt, .slice r1 H.pos.length k1, .slice r2 H.neg.length k2, .slice r3 H.ups.length k3, .slice r4 H.downs.length k4, .slice r5 H.fups.length k5, .slice r6 H.fdowns.length k6, .slice r7 H.cus.length k7] 27)).cell? ⟨w3.heap.size, 6, none⟩ = some (.slice r1 H.pos.length k1) ∧ (w3.alloc (.cells #[.int .u8 2, .int .i32 H.schema, .int .u64 H.thr, .int .u64 H.sum, .int .u64 H.zc, .int .u64 H.cnt, .slice r1 H.pos.length k1, .slice r2 H.neg.length k2, .slice r3 H.ups.length k3, .slice r4 H.downs.length k4, .slice r5 H.fups.length k5, .slice r6 H.fdowns.length k6, .slice r7 H.cus.length k7] 27)).cell? ⟨w3.heap.size, 7, none⟩ = some (.slice r2 H.neg.length k2) ∧ (w3.alloc (.cells #[.int .u8 2, .int .i32 H.schema, .int .u64 H.thr, .int .u64 H.sum, .int .u64 H.zc, .int .u64 H.cnt, .slice r1 H.pos.length k1, .slice r2 H.neg.length k2, .slice r3 H.ups.length k3, .slice r4 H.downs.length k4, .slice r5 H.fups.length k5, .slice r6 H.fdowns.length k6, .slice r7 H.cus.length k7] 27)).cell? ⟨w3.heap.size, 8, none⟩ = some (.slice r3 H.ups.length k3) ∧ (w3.alloc (.cells #[.int .u8 2, .int .i32 H.schema, .int .u64 H.thr, .int .u64 H.sum, .int .u64 H.zc, .int .u64 H.cnt, .slice r1 H.pos.length k1, .slice r2 H.neg.length k2, .slice r3 H.ups.length k3, .slice r4 H.downs.length k4, .slice r5 H.fups.length k5, .slice r6 H.fdowns.length k6, .slice r7 H.cus.length k7] 27)).cell? ⟨w3.heap.size, 9, none⟩ = some (.slice r4 H.downs.length k4) ∧ (w3.alloc (.cells #[.int .u8 2, .int .i32 H.schema, .int .u64 H.thr, .int .u64 H.sum, .int .u64 H.zc, .int .u64 H.cnt, .slice r1 H.pos.length k1, .slice r2 H.neg.length k2, .slice r3 H.ups.length k3, .slice r4 H.downs.length k4, .slice r5 H.fups.length k5, .slice r6 H.fdowns.length k6, .slice r7 H.cus.length k7] 27)).cell? ⟨w3.heap.size, 10, none⟩ = some (.slice r5 H.fups.length k5) ∧ (w3.alloc (.cells #[.int .u8 2, .int .i32 H.schema, .int .u64 H.thr, .int .u64 H.sum, .int .u64 H.zc, .int .u64 H.cnt, .slice r1 H.pos.length k1, .slice r2 H.neg.length k2, .slice r3 H.ups.length k3, .slice r4 H.downs.length k4, .slice r5 H.fups.length k5, .slice r6 H.fdowns.length k6, .slice r7 H.cus.length k7] 27)).cell? ⟨w3.heap.size, 11, none⟩ = some (.slice r6 H.fdowns.length k6) ∧ (w3.alloc (.cells #[.int .u8 2, .int .i32 H.schema, .int .u64 H.thr, .int .u64 H.sum, .int .u64 H.zc, .int .u64 H.cnt, .slice r1 H.pos.length k1, .slice r2 H.neg.length k2, .slice r3 H.ups.length k3, .slice r4 H.downs.length k4, .slice r5 H.fups.length k5, .slice r6 H.fdowns.length k6, .slice r7 H.cus.length k7] 27)).cell? ⟨w3.heap.size, 12, none⟩ = some (.slice r7 H.cus.length k7) := ⟨hcr 0, hcr 1, hcr 2, hcr 3, hcr 4, hcr 5, hcr 6, hcr 7, hcr 8, hcr 9, hcr 10, hcr 11, hcr 12⟩
    have hg : w3.heap.size < (w3.alloc (.cells #[.int .u8 2, .int .i32 H.schema, .int .u64 H.thr, .int .u64 H.sum, .int .u64 H.zc, .int .u64 H.cnt, .slice r1 H.pos.length k1, .slice r2 H.neg.length k2, .slice r3 H.ups.length k3, .slice r4 H.downs.length k4, .slice r5 H.fups.length k5, .slice r6 H.fdowns.length k6, .slice r7 H.cus.length k7] 27)).heap.size := by simp
    have hq6 := keep13 hB6 hz3 hq3
    rw [hhh]
    clear hcr hq3
    go_wp2_with fail
    generalize w3.alloc _ = q13 at *
    have hB4 := hB3.trans (hB6.mono hB3.size)
    have hH4 := (hH.below hB6 (Nat.le_refl _)).mono hB6.size (Nat.le_refl _)
    have HR := Lib.hid hr
    have HQ6 := Lib.hid hq6
    clear hr hq6 hB6
    refine (countAlive_any q13 (he.below hB4 h9)).mono ?_
    rintro e w5 ⟨rfl, hb5⟩
    have hB5 := hB4.trans (hb5.mono hB4.size)
    have hr5 := keep13 hb5 hg HR.out
    have hq5 := keep13 hb5 (Nat.lt_trans hz3 hg) HQ6.out
    have hH5 := (hH4.below hb5 (Nat.le_refl _)).mono hb5.size (Nat.le_refl _)
    have hx := sameLaid_eq fl (.slice r1 H.pos.length k1) (.slice r2 H.neg.length k2) (.slice r3 H.ups.length k3) (.slice r4 H.downs.length k4) (.slice r5 H.fups.length k5) (.slice r6 H.fdowns.length k6) (.slice r7 H.cus.length k7) v1 v2 v3 v4 v5 v6 v7 H h w5 hH5 (at_ w5 hB5) hhf hf hhw hw hsame
    unfold histCells at hx
    rw [hhh] at hx
    have HX := Lib.hid hx
    clear hx
    go_wp2_with fail
    refine HX.out.mono ?_
    rintro e w6 ⟨rfl, hb6⟩
    have hB7 := hB5.trans (hb6.mono hB5.size)
    go_wp2
    go_ret
    exact ⟨rfl, hB7⟩
  · go_wp2_with fail
    have HQ2 := Lib.hid hq2
    clear hq2
    refine (hinted_any fl true v1 v2 v3 v4 v5 v6 v7 h w2 (at_ w2 hB2) hf).mono ?_
    rintro e w3 ⟨y1, y2, y3, y4, y5, y6, y7, rfl, hH, hb3⟩
    have hB3 := hB2.trans (hb3.mono hB2.size)
    have hq3 := keep13 hb3 hz2 HQ2.out
    have hz3 : w.heap.size < w3.heap.size := Nat.lt_of_lt_of_le hz2 hb3.size
    have hsame := hint_same fl true h
    have hhf := hint_fits (fl := fl) (rs := true) hf
    have hhw := hint_wf (fl := fl) (rs := true) hw
    have hhh : (hintH fl true h).hint = 1 := hint_hint fl true h
    generalize hintH fl true h = H at *
    obtain ⟨r1, k1, rfl, _, _⟩ := hH.pos.form
    obtain ⟨r2, k2, rfl, _, _⟩ := hH.neg.form
    obtain ⟨r3, k3, rfl, _, _⟩ := hH.ups.form
    obtain ⟨r4, k4, rfl, _, _⟩ := hH.downs.form
    obtain ⟨r5, k5, rfl, _, _⟩ := hH.fups.form
    obtain ⟨r6, k6, rfl, _, _⟩ := hH.fdowns.form
    obtain ⟨r7, k7, rfl, _, _⟩ := hH.cus.form
    unfold histCells
    simp only [List.length_map] at hH ⊢
    have hB6 : Below w3.heap.size w3 (w3.alloc (.cells #[.int .u8 1, .int .i32 H.schema, .int .u64 H.thr, .int .u64 H.sum, .int .u64 H.zc, .int .u64 H.cnt, .slice r1 H.pos.length k1, .slice r2 H.neg.length k2, .slice r3 H.ups.length k3, .slice r4 H.downs.length k4, .slice r5 H.fups.length k5, .slice r6 H.fdowns.length k6, .slice r7 H.cus.length k7] 27)) := (Below.refl w3.heap.size w3).alloc (Nat.le_refl _) _
    have hcr := cells_of_block (heap_alloc_new w3 (.cells #[.int .u8 1, .int .i32 H.schema, .int .u64 H.thr, .int .u64 H.sum, .int .u64 H.zc, .int .u64 H.cnt, .slice r1 H.pos.length k1, .slice r2 H.neg.length k2, .slice r3 H.ups.length k3, .slice r4 H.downs.length k4, .slice r5 H.fups.length k5, .slice r6 H.fdowns.length k6, .slice r7 H.cus.length k7] 27))
    have hr : (w3.alloc (.cells #[.int .u8 1, .int .i32 H.schema, .int .u64 H.thr, .int .u64 H.sum, .int .u64 H.zc, .int .u64 H.cnt, .slice r1 H.pos.length k1, .slice r2 H.neg.length k2, .slice r3 H.ups.length k3, .slice r4 H.downs.length k4, .slice r5 H.fups.length k5, .slice r6 H.fdowns.length k6, .slice r7 H.cus.length k7] 27)).cell? ⟨w3.heap.size, 0, none⟩ = some (.int .u8 1) ∧ (w3.alloc (.cells #[.int .u8 1, .int .i32 H.schema, .int .u64 H.thr, .int .u64 H.sum, .int .u64 H.zc, .int .u64 H.cnt, .slice r1 H.pos.length k1, .slice r2 H.neg.length k2, .slice r3 H.ups.length k3, .slice r4 H.downs.length k4, .slice r5 H.fups.length k5, .slice r6 H.fdowns.length k6, .slice r7 H.cus.length k7] 27)).cell? ⟨w3.heap.size, 1, none⟩ = some (.int .i32 H.schema) ∧ (w3.alloc (.cells #[.int .u8 1, .int .i32 H.schema, .int .u64 H.thr, .int .u64 H.sum, .int .u64 H.zc, .int .u64 H.cnt, .slice r1 H.pos.length k1, .slice r2 H.neg.length k2, .slice r3 H.ups.length k3, .slice r4 H.downs.length k4, .slice r5 H.fups.length k5, .slice r6 H.fdowns.length k6, .slice r7 H.cus.length k7] 27)).cell? ⟨w3.heap.size, 2, none⟩ = some (.int .u64 H.thr) ∧ (w3.alloc (.cells #[.int .u8 1, .int .i32 H.schema, .int .u64 H.thr, .int .u64 H.sum, .int .u64 H.zc, .int .u64 H.cnt, .slice r1 H.pos.length k1, .slice r2 H.neg.length k2, .slice r3 H.ups.length k3, .slice r4 H.downs.length k4, .slice r5 H.fups.length k5, .slice r6 H.fdowns.length k6, .slice r7 H.cus.length k7] 27)).cell? ⟨w3.heap.size, 3, none⟩ = some (.int .u64 H.sum) ∧ (w3.alloc (.cells #[.int .u8 1, .int .i32 H.schema, .int .u64 H.thr, .int .u64 H.sum, .int .u64 H.zc, .int .u64 H.cnt, .slice r1 H.pos.length k1, .slice r2 H.neg.length k2, .slice r3 H.ups.length k3, .slice r4 H.downs.length k4, .slice r5 H.fups.length k5, .slice r6 H.fdowns.length k6, .slice r7 H.cus.length k7] 27)).cell? ⟨w3.heap.size, 4, none⟩ = some (.int .u64 H.zc) ∧ (w3.alloc (.cells #[.int .u8 1, .int .i32 H.schema, .int .u64 H.thr, .int .u64 H.sum, .int .u64 H.zc, .int .u64 H.cnt, .slice r1 H.pos.length k1, .slice r2 H.neg.length k2, .slice r3 H.ups.length k3, .slice r4 H.downs.length k4, .slice r5 H.fups.length k5, .slice r6 H.fdowns.length k6, .slice r7 H.cus.length k7] 27)).cell? ⟨w3.heap.size, 5, none⟩ = some (.int .u64 H.cnt) ∧ (w3.alloc (.cells #[.int .u8 1, .int .i32 H.schema, .int .u64 H.thr, .int .u64 H.sum, .int .u64 H.zc, .int .u64 H.cnt, .slice r1 H.pos.length k1, .slice r2 H.neg.length k2, .slice r3 H.ups.length k3, .slice r4 H.downs.length k4, .slice r5 H.fups.length k5, .slice r6 H.fdowns.length k6, .slice r7 H.cus.length k7] 27)).cell? ⟨w3.heap.size, 6, none⟩ = some (.slice r1 H.pos.length k1) ∧ (w3.alloc (.cells #[.int .u8 1, .int .i32 H.schema, .int .u64 H.thr, .int .u64 H.sum, .int .u64 H.zc, .int .u64 H.cnt, .slice r1 H.pos.length k1, .slice r2 H.neg.length k2, .slice r3 H.ups.length k3, .slice r4 H.downs.length k4, .slice r5 H.fups.length k5, .slice r6 H.fdowns.length k6, .slice r7 H.cus.length k7] 27)).cell? ⟨w3.heap.size, 7, none⟩ = some (.slice r2 H.neg.length k2) ∧ (w3.alloc (.cells #[.int .u8 1, .int .i32 H.schema, .int .u64 H.thr, .int .u64 H.sum, .int .u64 H.zc, .int .u64 H.cnt, .slice r1 H.pos.length k1, .slice r2 H.neg.length k2, .slice r3 H.ups.length k3, .slice r4 H.downs.length k4, .slice r5 H.fups.length k5, .slice r6 H.fdowns.length k6, .slice r7 H.cus.length k7] 27)).cell? ⟨w3.heap.size, 8, none⟩ = some (.slice r3 H.ups.length k3) ∧ (w3.alloc (.cells #[.int .u8 1, .int .i32 H.schema, .int .u64 H.thr, .int .u64 H.sum, .int .u64 H.zc, .int .u64 H.cnt, .slice r1 H.pos.length k1, .slice r2 H.neg.length k2, .slice r3 H.ups.length k3, .slice r4 H.downs.length k4, .slice r5 H.fups.length k5, .slice r6 H.fdowns.length k6, .slice r7 H.cus.length k7] 27)).cell? ⟨w3.heap.size, 9, none⟩ = some (.slice r4 H.downs.length k4) ∧ (w3.alloc (.cells #[.int .u8 1, .int .i32 H.schema, .int .u64 H.thr, .int .u64 H.sum, .int .u64 H.zc, .int .u64 H.cnt, .slice r1 H.pos.length k1, .slice r2 H.neg.length k2, .slice r3 H.ups.length k3, .slice r4 H.downs.length k4, .slice r5 H.fups.length k5, .slice r6 H.fdowns.length k6, .slice r7 H.cus.length k7] 27)).cell? ⟨w3.heap.size, 10, none⟩ = some (.slice r5 H.fups.length k5) ∧ (w3.alloc (.cells #[.int .u8 1, .int .i32 H.schema, .int .u64 H.thr, .int .u64 H.sum, .int .u64 H.zc, .int .u64 H.cnt, .slice r1 H.pos.length k1, .slice r2 H.neg.length k2, .slice r3 H.ups.length k3, .slice r4 H.downs.length k4, .slice r5 H.fups.length k5, .slice r6 H.fdowns.length k6, .slice r7 H.cus.length k7] 27)).cell? ⟨w3.heap.size, 11, none⟩ = some (.slice r6 H.fdowns.length k6) ∧ (w3.alloc (.cells #[.int .u8 1, .int .i32 H.schema, .int .u64 H.thr, .int .u64 H.sum, .int .u64 H.zc, .int .u64 H.cnt, .slice r1 H.pos.length k1, .slice r2 H.neg.length k2, .slice r3 H.ups.length k3, .slice r4 H.downs.length k4, .slice r5 H.fups.length k5, .slice r6 H.fdowns.length k6, .slice r7 H.cus.length k7] 27)).cell? ⟨w3.heap.size, 12, none⟩ = some (.slice r7 H.cus.length k7) := ⟨hcr 0, hcr 1, hcr 2, hcr 3, hcr 4, hcr 5, hcr 6, hcr 7, hcr 8, hcr 9, hcr 10, hcr 11, hcr 12⟩
    have hg : w3.heap.size < (w3.alloc (.cells #[.int .u8 1, .int .i32 H.schema, .int .u64 H.thr, .int .u64 H.sum, .int .u64 H.zc, .int .u64 H.cnt, .slice r1 H.pos.length k1, .slice r2 H.neg.length k2, .slice r3 H.ups.length k3, .slice r4 H.downs.length k4, .slice r5 H.fups.length k5, .slice r6 H.fdowns.length k6, .slice r7 H.cus.length k7] 27)).heap.size := by simp
    have hq6 := keep13 hB6 hz3 hq3
    rw [hhh]
    clear hcr hq3
    go_wp2_with fail
    generalize w3.alloc _ = q13 at *
    have hB4 := hB3.trans (hB6.mono hB3.size)
    have hH4 := (hH.below hB6 (Nat.le_refl _)).mono hB6.size (Nat.le_refl _)
    have HR := Lib.hid hr
    have HQ6 := Lib.hid hq6
    clear hr hq6 hB6
    refine (countAlive_any q13 (he.below hB4 h9)).mono ?_
    rintro e w5 ⟨rfl, hb5⟩
    have hB5 := hB4.trans (hb5.mono hB4.size)
    have hr5 := keep13 hb5 hg HR.out
    have hq5 := keep13 hb5 (Nat.lt_trans hz3 hg) HQ6.out
    have hH5 := (hH4.below hb5 (Nat.le_refl _)).mono hb5.size (Nat.le_refl _)
    have hx := sameLaid_eq fl (.slice r1 H.pos.length k1) (.slice r2 H.neg.length k2) (.slice r3 H.ups.length k3) (.slice r4 H.downs.length k4) (.slice r5 H.fups.length k5) (.slice r6 H.fdowns.length k6) (.slice r7 H.cus.length k7) v1 v2 v3 v4 v5 v6 v7 H h w5 hH5 (at_ w5 hB5) hhf hf hhw hw hsame
    unfold histCells at hx
    rw [hhh] at hx
    have HX := Lib.hid hx
    clear hx
    go_wp2_with fail
    refine HX.out.mono ?_
    rintro e w6 ⟨rfl, hb6⟩
    have hB7 := hB5.trans (hb6.mono hB5.size)
    go_wp2
    go_ret
    exact ⟨rfl, hB7⟩
end Go.Proofs.YtbgkoapnejnfbaaDoor
