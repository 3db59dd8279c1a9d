/-
  What ValidHistogram says of a histogram: the walk.
-/
import Derived.Test.YtbgkoapnejnfbaaDoorLawV2
import Derived.Test.YtbgkoapnejnfbaaDoorCounts
import Derived.Test.YtbgkoapnejnfbaaDoorAppSpans
namespace Go.Proofs.YtbgkoapnejnfbaaDoor
set_option linter.unusedSimpArgs false
set_option linter.unusedVariables false
open Go.RowKit
attribute [local go_sem ↓] Go.wp_at_zero Go.wp_at_succ

def VPost (fl : Bool) (h : Hist) (w : World) (e : Ending) (w' : World) : Prop := ∃ want ok, e = .returned (.tuple #[.bool want, .bool ok]) ∧ (ok = true → validH fl h = want) ∧ Below w.heap.size w w'
theorem vpost_no {fl want : Bool} {h : Hist} {w w' : World} (hb : Below w.heap.size w w') : VPost fl h w (.returned (.tuple #[.bool want, .bool false])) w' := ⟨want, false, rfl, (fun hh => by cases hh), hb⟩
theorem vpost_of {fl want ok : Bool} {h : Hist} {w w' : World} (hb : Below w.heap.size w w') (hr : validH fl h = want) : VPost fl h w (.returned (.tuple #[.bool want, .bool ok])) w' := ⟨want, ok, rfl, fun _ => hr, hb⟩
theorem keep67 {w w' : World} {B b : Nat} (hb : Below B w w') (hlt : b < B) {u0 u1 : Value} (h : w.cell? ⟨b, 6, none⟩ = some u0 ∧ w.cell? ⟨b, 7, none⟩ = some u1) : w'.cell? ⟨b, 6, none⟩ = some u0 ∧ w'.cell? ⟨b, 7, none⟩ = some u1 :=
  ⟨(hb.cell (p := ⟨b, 6, none⟩) hlt).trans h.1, (hb.cell (p := ⟨b, 7, none⟩) hlt).trans h.2⟩
theorem i64_of {x : Int} (h : -9223372036854775808 ≤ x ∧ x ≤ 9223372036854775807) : IntKind.i64.wrap x = x := IntWalk.i64_in _ (by omega)

set_option maxRecDepth 100000 in
set_option maxHeartbeats 16000000 in
theorem vh_any (fl : Bool) (v1 v2 v3 v4 v5 v6 v7 : Value) (h : Hist) (w : World) (ha : HistAt w w.heap.size v1 v2 v3 v4 v5 v6 v7 h) (hf : Fits h) (hw : Wf h) :
    Calls Tryd.prog 10 #[.agg (histCells h v1 v2 v3 v4 v5 v6 v7), (.bool fl)] w (VPost fl h w) := by
  unfold histCells
  obtain ⟨a1, c1, rfl, f11, f12⟩ := ha.pos.form
  obtain ⟨a2, c2, rfl, f21, f22⟩ := ha.neg.form
  obtain ⟨a3, c3, rfl, f31, f32⟩ := ha.ups.form
  obtain ⟨a4, c4, rfl, f41, f42⟩ := ha.downs.form
  obtain ⟨a5, c5, rfl, f51, f52⟩ := ha.fups.form
  obtain ⟨a6, c6, rfl, f61, f62⟩ := ha.fdowns.form
  obtain ⟨a7, c7, rfl, f71, f72⟩ := ha.cus.form
  simp only [List.length_map] at ha f51 f61 f71 ⊢
  have hB0 : Below w.heap.size w (w.alloc (.cells #[.int .u8 h.hint, .int .i32 h.schema, .int .u64 h.thr, .int .u64 h.sum, .int .u64 h.zc, .int .u64 h.cnt, .slice a1 h.pos.length c1, .slice a2 h.neg.length c2, .slice a3 h.ups.length c3, .slice a4 h.downs.length c4, .slice a5 h.fups.length c5, .slice a6 h.fdowns.length c6, .slice a7 h.cus.length c7] 27)) := (Below.refl w.heap.size w).alloc (Nat.le_refl _) _
  have hca := cells_of_block (heap_alloc_new w (.cells #[.int .u8 h.hint, .int .i32 h.schema, .int .u64 h.thr, .int .u64 h.sum, .int .u64 h.zc, .int .u64 h.cnt, .slice a1 h.pos.length c1, .slice a2 h.neg.length c2, .slice a3 h.ups.length c3, .slice a4 h.downs.length c4, .slice a5 h.fups.length c5, .slice a6 h.fdowns.length c6, .slice a7 h.cus.length c7] 27))
  have qa : (w.alloc (.cells #[.int .u8 h.hint, .int .i32 h.schema, .int .u64 h.thr, .int .u64 h.sum, .int .u64 h.zc, .int .u64 h.cnt, .slice a1 h.pos.length c1, .slice a2 h.neg.length c2, .slice a3 h.ups.length c3, .slice a4 h.downs.length c4, .slice a5 h.fups.length c5, .slice a6 h.fdowns.length c6, .slice a7 h.cus.length c7] 27)).cell? ⟨w.heap.size, 0, none⟩ = some (.int .u8 h.hint) ∧ (w.alloc (.cells #[.int .u8 h.hint, .int .i32 h.schema, .int .u64 h.thr, .int .u64 h.sum, .int .u64 h.zc, .int .u64 h.cnt, .slice a1 h.pos.length c1, .slice a2 h.neg.length c2, .slice a3 h.ups.length c3, .slice a4 h.downs.length c4, .slice a5 h.fups.length c5, .slice a6 h.fdowns.length c6, .slice a7 h.cus.length c7] 27)).cell? ⟨w.heap.size, 1, none⟩ = some (.int .i32 h.schema) ∧ (w.alloc (.cells #[.int .u8 h.hint, .int .i32 h.schema, .int .u64 h.thr, .int .u64 h.sum, .int .u64 h.zc, .int .u64 h.cnt, .slice a1 h.pos.length c1, .slice a2 h.neg.length c2, .slice a3 h.ups.length c3, .slice a4 h.downs.length c4, .slice a5 h.fups.length c5, .slice a6 h.fdowns.length c6, .slice a7 h.cus.length c7] 27)).cell? ⟨w.heap.size, 2, none⟩ = some (.int .u64 h.thr) ∧ (w.alloc (.cells #[.int .u8 h.hint, .int .i32 h.schema, .int .u64 h.thr, .int .u64 h.sum, .int .u64 h.zc, .int .u64 h.cnt, .slice a1 h.pos.length c1, .slice a2 h.neg.length c2, .slice a3 h.ups.length c3, .slice a4 h.downs.length c4, .slice a5 h.fups.length c5, .slice a6 h.fdowns.length c6, .slice a7 h.cus.length c7] 27)).cell? ⟨w.heap.size, 3, none⟩ = some (.int .u64 h.sum) ∧ (w.alloc (.cells #[.int .u8 h.hint, .int .i32 h.schema, .int .u64 h.thr, .int .u64 h.sum, .int .u64 h.zc, .int .u64 h.cnt, .slice a1 h.pos.length c1, .slice a2 h.neg.length c2, .slice a3 h.ups.length c3, .slice a4 h.downs.length c4, .slice a5 h.fups.length c5, .slice a6 h.fdowns.length c6, .slice a7 h.cus.length c7] 27)).cell? ⟨w.heap.size, 4, none⟩ = some (.int .u64 h.zc) ∧ (w.alloc (.cells #[.int .u8 h.hint, .int .i32 h.schema, .int .u64 h.thr, .int .u64 h.sum, .int .u64 h.zc, .int .u64 h.cnt, .slice a1 h.pos.length c1, .slice a2 h.neg.length c2, .slice a3 h.ups.length c3, .slice a4 h.downs.length c4, .slice a5 h.fups.length c5, .slice a6 h.fdowns.length c6, .slice a7 h.cus.length c7] 27)).cell? ⟨w.heap.size, 5, none⟩ = some (.int .u64 h.cnt) ∧ (w.alloc (.cells #[.int .u8 h.hint, .int .i32 h.schema, .int .u64 h.thr, .int .u64 h.sum, .int .u64 h.zc, .int .u64 h.cnt, .slice a1 h.pos.length c1, .slice a2 h.neg.length c2, .slice a3 h.ups.length c3, .slice a4 h.downs.length c4, .slice a5 h.fups.length c5, .slice a6 h.fdowns.length c6, .slice a7 h.cus.length c7] 27)).cell? ⟨w.heap.size, 6, none⟩ = some (.slice a1 h.pos.length c1) ∧ (w.alloc (.cells #[.int .u8 h.hint, .int .i32 h.schema, .int .u64 h.thr, .int .u64 h.sum, .int .u64 h.zc, .int .u64 h.cnt, .slice a1 h.pos.length c1, .slice a2 h.neg.length c2, .slice a3 h.ups.length c3, .slice a4 h.downs.length c4, .slice a5 h.fups.length c5, .slice a6 h.fdowns.length c6, .slice a7 h.cus.length c7] 27)).cell? ⟨w.heap.size, 7, none⟩ = some (.slice a2 h.neg.length c2) ∧ (w.alloc (.cells #[.int .u8 h.hint, .int .i32 h.schema, .int .u64 h.thr, .int .u64 h.sum, .int .u64 h.zc, .int .u64 h.cnt, .slice a1 h.pos.length c1, .slice a2 h.neg.length c2, .slice a3 h.ups.length c3, .slice a4 h.downs.length c4, .slice a5 h.fups.length c5, .slice a6 h.fdowns.length c6, .slice a7 h.cus.length c7] 27)).cell? ⟨w.heap.size, 8, none⟩ = some (.slice a3 h.ups.length c3) ∧ (w.alloc (.cells #[.int .u8 h.hint, .int .i32 h.schema, .int .u64 h.thr, .int .u64 h.sum, .int .u64 h.zc, .int .u64 h.cnt, .slice a1 h.pos.length c1, .slice a2 h.neg.length c2, .slice a3 h.ups.length c3, .slice a4 h.downs.length c4, .slice a5 h.fups.length c5, .slice a6 h.fdowns.length c6, .slice a7 h.cus.length c7] 27)).cell? ⟨w.heap.size, 9, none⟩ = some (.slice a4 h.downs.length c4) ∧ (w.alloc (.cells #[.int .u8 h.hint, .int .i32 h.schema, .int .u64 h.thr, .int .u64 h.sum, .int .u64 h.zc, .int .u64 h.cnt, .slice a1 h.pos.length c1, .slice a2 h.neg.length c2, .slice a3 h.ups.length c3, .slice a4 h.downs.length c4, .slice a5 h.fups.length c5, .slice a6 h.fdowns.length c6, .slice a7 h.cus.length c7] 27)).cell? ⟨w.heap.size, 10, none⟩ = some (.slice a5 h.fups.length c5) ∧ (w.alloc (.cells #[.int .u8 h.hint, .int .i32 h.schema, .int .u64 h.thr, .int .u64 h.sum, .int .u64 h.zc, .int .u64 h.cnt, .slice a1 h.pos.length c1, .slice a2 h.neg.length c2, .slice a3 h.ups.length c3, .slice a4 h.downs.length c4, .slice a5 h.fups.length c5, .slice a6 h.fdowns.length c6, .slice a7 h.cus.length c7] 27)).cell? ⟨w.heap.size, 11, none⟩ = some (.slice a6 h.fdowns.length c6) ∧ (w.alloc (.cells #[.int .u8 h.hint, .int .i32 h.schema, .int .u64 h.thr, .int .u64 h.sum, .int .u64 h.zc, .int .u64 h.cnt, .slice a1 h.pos.length c1, .slice a2 h.neg.length c2, .slice a3 h.ups.length c3, .slice a4 h.downs.length c4, .slice a5 h.fups.length c5, .slice a6 h.fdowns.length c6, .slice a7 h.cus.length c7] 27)).cell? ⟨w.heap.size, 12, none⟩ = some (.slice a7 h.cus.length c7) := ⟨hca 0, hca 1, hca 2, hca 3, hca 4, hca 5, hca 6, hca 7, hca 8, hca 9, hca 10, hca 11, hca 12⟩
  have hz : w.heap.size < (w.alloc (.cells #[.int .u8 h.hint, .int .i32 h.schema, .int .u64 h.thr, .int .u64 h.sum, .int .u64 h.zc, .int .u64 h.cnt, .slice a1 h.pos.length c1, .slice a2 h.neg.length c2, .slice a3 h.ups.length c3, .slice a4 h.downs.length c4, .slice a5 h.fups.length c5, .slice a6 h.fdowns.length c6, .slice a7 h.cus.length c7] 27)).heap.size := by simp
  clear hca
  go_enter Tryd.func10, Tryd.ntmps10
  go_wp2_with fail
  have HQ := Lib.hid qa
  clear qa
  generalize w.alloc _ = W at *
  have at_ : ∀ w', Below w.heap.size w w' → HistAt w' w'.heap.size (.slice a1 h.pos.length c1) (.slice a2 h.neg.length c2) (.slice a3 h.ups.length c3) (.slice a4 h.downs.length c4) (.slice a5 h.fups.length c5) (.slice a6 h.fdowns.length c6) (.slice a7 h.cus.length c7) h := fun w' hb => (ha.below hb (Nat.le_refl _)).mono hb.size (Nat.le_refl _)
  refine (fit_any fl (.slice a1 h.pos.length c1) (.slice a2 h.neg.length c2) (.slice a3 h.ups.length c3) (.slice a4 h.downs.length c4) (.slice a5 h.fups.length c5) (.slice a6 h.fdowns.length c6) (.slice a7 h.cus.length c7) h W (at_ W hB0) hf hw (h.schema == -53) rfl).mono ?_
  rintro e w1 ⟨r, rfl, hfit, hb1⟩
  have hB1 := hB0.trans (hb1.mono hB0.size)
  have hq1 := keep13 hb1 hz HQ.out
  have hz1 : w.heap.size < w1.heap.size := Nat.lt_of_lt_of_le hz hb1.size
  cases r with
  | true =>
    have hv := valid_of_fit (hfit rfl) hw
    cases fl with
    | true =>
      go_wp2_with fail
      go_ret2
      exact vpost_of hB1 hv
    | false =>
      go_wp2_with fail
      refine (countsUp_any (.slice a1 h.pos.length c1) (.slice a2 h.neg.length c2) (.slice a3 h.ups.length c3) (.slice a4 h.downs.length c4) (.slice a5 h.fups.length c5) (.slice a6 h.fdowns.length c6) (.slice a7 h.cus.length c7) h w1 (at_ w1 hB1) hf hw).mono ?_
      rintro e w2 ⟨rfl, hb2⟩
      have hB2 := hB1.trans (hb2.mono hB1.size)
      go_wp2
      go_ret2
      exact vpost_of hB2 (hv.trans rfl)
  | false =>
  clear hfit
  obtain ⟨q0, q1, q2, q3, q4, q5, q6, q7, q8, q9, q10, q11, q12⟩ := hq1
  have HX := And.intro hf (And.intro hw ha)
  clear f11 f12 f21 f22 f31 f32 f41 f42 f51 f52 f61 f62 f71 f72 hb1 HQ hz hB0
  go_upto_region 3 with fail
  have hwa : IntKind.i64.wrap ((h.ups.length : Int) + (h.downs.length : Int)) = (h.ups.length : Int) + (h.downs.length : Int) := i64_of (by have := hf.ups; have := hf.downs; omega)
  have hwb : IntKind.i64.wrap ((h.ups.length : Int) + (h.downs.length : Int) + (h.fups.length : Int)) = (h.ups.length : Int) + (h.downs.length : Int) + (h.fups.length : Int) := i64_of (by clear hwa; have := hf.ups; have := hf.downs; have := hf.fups; omega)
  have hwc : IntKind.i64.wrap ((h.ups.length : Int) + (h.downs.length : Int) + (h.fups.length : Int) + (h.fdowns.length : Int)) = (h.ups.length : Int) + (h.downs.length : Int) + (h.fups.length : Int) + (h.fdowns.length : Int) := i64_of (by clear hwa hwb; have := hf.ups; have := hf.downs; have := hf.fups; have := hf.fdowns; omega)
  have hwd : IntKind.i64.wrap ((h.pos.length : Int) + (h.neg.length : Int)) = (h.pos.length : Int) + (h.neg.length : Int) := i64_of (by clear hwa hwb hwc; have := hf.pos; have := hf.neg; omega)
  have hwe : IntKind.i64.wrap ((h.fups.length : Int) + (h.fdowns.length : Int)) = (h.fups.length : Int) + (h.fdowns.length : Int) := i64_of (by clear hwa hwb hwc hwd; have := hf.fups; have := hf.fdowns; omega)
  clear hf hw ha at_
  obtain ⟨B24, hB24⟩ : ∃ B : Bool, RowKit.Hid (B = (decide (((h.schema : Int)) < ((-4 : Int))))) := ⟨_, rfl⟩
  obtain ⟨C26, hC26⟩ : ∃ B : Bool, RowKit.Hid (B = (true && (B24 == false))) := ⟨_, rfl⟩
  obtain ⟨B28, hB28⟩ : ∃ B : Bool, RowKit.Hid (B = (decide (((8 : Int)) < ((h.schema : Int))))) := ⟨_, rfl⟩
  obtain ⟨B29, hB29⟩ : ∃ B : Bool, RowKit.Hid (B = ((B24) || (B28))) := ⟨_, rfl⟩
  obtain ⟨C31, hC31⟩ : ∃ B : Bool, RowKit.Hid (B = (true && (B29 == false))) := ⟨_, rfl⟩
  obtain ⟨B34, hB34⟩ : ∃ B : Bool, RowKit.Hid (B = (decide (((0 : Int)) < (((h.cus.length : Int) : Int))))) := ⟨_, rfl⟩
  obtain ⟨B35, hB35⟩ : ∃ B : Bool, RowKit.Hid (B = ((B29) || (B34))) := ⟨_, rfl⟩
  obtain ⟨C37, hC37⟩ : ∃ B : Bool, RowKit.Hid (B = (true && (B35 == false))) := ⟨_, rfl⟩
  obtain ⟨B52, hB52⟩ : ∃ B : Bool, RowKit.Hid (B = (decide (((100 : Int)) < (((h.ups.length : Int) + (h.downs.length : Int) + (h.fups.length : Int) + (h.fdowns.length : Int) : Int))))) := ⟨_, rfl⟩
  obtain ⟨B53, hB53⟩ : ∃ B : Bool, RowKit.Hid (B = ((B35) || (B52))) := ⟨_, rfl⟩
  obtain ⟨C55, hC55⟩ : ∃ B : Bool, RowKit.Hid (B = (true && (B53 == false))) := ⟨_, rfl⟩
  obtain ⟨B62, hB62⟩ : ∃ B : Bool, RowKit.Hid (B = (decide (((20 : Int)) < (((h.pos.length : Int) + (h.neg.length : Int) : Int))))) := ⟨_, rfl⟩
  obtain ⟨B63, hB63⟩ : ∃ B : Bool, RowKit.Hid (B = ((B53) || (B62))) := ⟨_, rfl⟩
  obtain ⟨C65, hC65⟩ : ∃ B : Bool, RowKit.Hid (B = (true && (B63 == false))) := ⟨_, rfl⟩
  obtain ⟨C67, hC67⟩ : ∃ B : Bool, RowKit.Hid (B = (C65 && (fl == true))) := ⟨_, rfl⟩
  obtain ⟨B74, hB74⟩ : ∃ B : Bool, RowKit.Hid (B = (decide (((0 : Int)) < (((h.ups.length : Int) + (h.downs.length : Int) : Int))))) := ⟨_, rfl⟩
  obtain ⟨B75, hB75⟩ : ∃ B : Bool, RowKit.Hid (B = ((fl) && (B74))) := ⟨_, rfl⟩
  obtain ⟨B76, hB76⟩ : ∃ B : Bool, RowKit.Hid (B = ((B63) || (B75))) := ⟨_, rfl⟩
  obtain ⟨C78, hC78⟩ : ∃ B : Bool, RowKit.Hid (B = (true && (B76 == false))) := ⟨_, rfl⟩
  obtain ⟨B79, hB79⟩ : ∃ B : Bool, RowKit.Hid (B = (!(fl))) := ⟨_, rfl⟩
  obtain ⟨C81, hC81⟩ : ∃ B : Bool, RowKit.Hid (B = (C78 && (B79 == true))) := ⟨_, rfl⟩
  obtain ⟨B88, hB88⟩ : ∃ B : Bool, RowKit.Hid (B = (decide (((0 : Int)) < (((h.fups.length : Int) + (h.fdowns.length : Int) : Int))))) := ⟨_, rfl⟩
  obtain ⟨B89, hB89⟩ : ∃ B : Bool, RowKit.Hid (B = ((B79) && (B88))) := ⟨_, rfl⟩
  obtain ⟨B90, hB90⟩ : ∃ B : Bool, RowKit.Hid (B = ((B76) || (B89))) := ⟨_, rfl⟩
  obtain ⟨F, hF⟩ : ∃ F : Tmp → Value → Prop, F = (fun s zz => match s with
      | 22 => zz = .pointer (some ⟨w.heap.size, 1, none⟩)
      | 23 => zz = .int .i32 (h.schema)
      | 24 => zz = .bool B24
      | 25 => zz = .bool B24
      | 26 => zz = if C26 = true then .pointer (some ⟨w.heap.size, 1, none⟩) else undef
      | 27 => zz = if C26 = true then .int .i32 (h.schema) else undef
      | 28 => zz = if C26 = true then .bool B28 else undef
      | 29 => zz = .bool B29
      | 30 => zz = .bool B29
      | 31 => zz = if C31 = true then .pointer (some ⟨w.heap.size, 12, none⟩) else undef
      | 32 => zz = if C31 = true then .slice a7 h.cus.length c7 else undef
      | 33 => zz = if C31 = true then .int .i64 ((h.cus.length : Int)) else undef
      | 34 => zz = if C31 = true then .bool B34 else undef
      | 35 => zz = .bool B35
      | 36 => zz = .bool B35
      | 37 => zz = if C37 = true then .pointer (some ⟨w.heap.size, 8, none⟩) else undef
      | 38 => zz = if C37 = true then .slice a3 h.ups.length c3 else undef
      | 39 => zz = if C37 = true then .int .i64 ((h.ups.length : Int)) else undef
      | 40 => zz = if C37 = true then .pointer (some ⟨w.heap.size, 9, none⟩) else undef
      | 41 => zz = if C37 = true then .slice a4 h.downs.length c4 else undef
      | 42 => zz = if C37 = true then .int .i64 ((h.downs.length : Int)) else undef
      | 43 => zz = if C37 = true then .int .i64 ((h.ups.length : Int) + (h.downs.length : Int)) else undef
      | 44 => zz = if C37 = true then .pointer (some ⟨w.heap.size, 10, none⟩) else undef
      | 45 => zz = if C37 = true then .slice a5 h.fups.length c5 else undef
      | 46 => zz = if C37 = true then .int .i64 ((h.fups.length : Int)) else undef
      | 47 => zz = if C37 = true then .int .i64 ((h.ups.length : Int) + (h.downs.length : Int) + (h.fups.length : Int)) else undef
      | 48 => zz = if C37 = true then .pointer (some ⟨w.heap.size, 11, none⟩) else undef
      | 49 => zz = if C37 = true then .slice a6 h.fdowns.length c6 else undef
      | 50 => zz = if C37 = true then .int .i64 ((h.fdowns.length : Int)) else undef
      | 51 => zz = if C37 = true then .int .i64 ((h.ups.length : Int) + (h.downs.length : Int) + (h.fups.length : Int) + (h.fdowns.length : Int)) else undef
      | 52 => zz = if C37 = true then .bool B52 else undef
      | 53 => zz = .bool B53
      | 54 => zz = .bool B53
      | 55 => zz = if C55 = true then .pointer (some ⟨w.heap.size, 6, none⟩) else undef
      | 56 => zz = if C55 = true then .slice a1 h.pos.length c1 else undef
      | 57 => zz = if C55 = true then .int .i64 ((h.pos.length : Int)) else undef
      | 58 => zz = if C55 = true then .pointer (some ⟨w.heap.size, 7, none⟩) else undef
      | 59 => zz = if C55 = true then .slice a2 h.neg.length c2 else undef
      | 60 => zz = if C55 = true then .int .i64 ((h.neg.length : Int)) else undef
      | 61 => zz = if C55 = true then .int .i64 ((h.pos.length : Int) + (h.neg.length : Int)) else undef
      | 62 => zz = if C55 = true then .bool B62 else undef
      | 63 => zz = .bool B63
      | 64 => zz = .bool B63
      | 65 => zz = if C65 = true then .bool fl else undef
      | 66 => zz = if C65 = true then .bool fl else undef
      | 67 => zz = if C67 = true then .pointer (some ⟨w.heap.size, 8, none⟩) else undef
      | 68 => zz = if C67 = true then .slice a3 h.ups.length c3 else undef
      | 69 => zz = if C67 = true then .int .i64 ((h.ups.length : Int)) else undef
      | 70 => zz = if C67 = true then .pointer (some ⟨w.heap.size, 9, none⟩) else undef
      | 71 => zz = if C67 = true then .slice a4 h.downs.length c4 else undef
      | 72 => zz = if C67 = true then .int .i64 ((h.downs.length : Int)) else undef
      | 73 => zz = if C67 = true then .int .i64 ((h.ups.length : Int) + (h.downs.length : Int)) else undef
      | 74 => zz = if C67 = true then .bool B74 else undef
      | 75 => zz = if C65 = true then .bool B75 else undef
      | 76 => zz = .bool B76
      | 77 => zz = .bool B76
      | 78 => zz = if C78 = true then .bool fl else undef
      | 79 => zz = if C78 = true then .bool B79 else undef
      | 80 => zz = if C78 = true then .bool B79 else undef
      | 81 => zz = if C81 = true then .pointer (some ⟨w.heap.size, 10, none⟩) else undef
      | 82 => zz = if C81 = true then .slice a5 h.fups.length c5 else undef
      | 83 => zz = if C81 = true then .int .i64 ((h.fups.length : Int)) else undef
      | 84 => zz = if C81 = true then .pointer (some ⟨w.heap.size, 11, none⟩) else undef
      | 85 => zz = if C81 = true then .slice a6 h.fdowns.length c6 else undef
      | 86 => zz = if C81 = true then .int .i64 ((h.fdowns.length : Int)) else undef
      | 87 => zz = if C81 = true then .int .i64 ((h.fups.length : Int) + (h.fdowns.length : Int)) else undef
      | 88 => zz = if C81 = true then .bool B88 else undef
      | 89 => zz = if C78 = true then .bool B89 else undef
      | 90 => zz = .bool B90
      | _ => True) := ⟨_, rfl⟩
  refine Rg.region_pure2 F [22, 23, 24, 25, 26, 27, 28, 29, 30, 31, 32, 33, 34, 35, 36, 37, 38, 39, 40, 41, 42, 43, 44, 45, 46, 47, 48, 49, 50, 51, 52, 53, 54, 55, 56, 57, 58, 59, 60, 61, 62, 63, 64, 65, 66, 67, 68, 69, 70, 71, 72, 73, 74, 75, 76, 77, 78, 79, 80, 81, 82, 83, 84, 85, 86, 87, 88, 89, 90] (fun u => ⟨#[.agg #[.int .u8 h.hint, .int .i32 h.schema, .int .u64 h.thr, .int .u64 h.sum, .int .u64 h.zc, .int .u64 h.cnt, .slice a1 h.pos.length c1, .slice a2 h.neg.length c2, .slice a3 h.ups.length c3, .slice a4 h.downs.length c4, .slice a5 h.fups.length c5, .slice a6 h.fdowns.length c6, .slice a7 h.cus.length c7], .bool fl, .pointer (some ⟨w.heap.size, 0, none⟩), undef, .bool false, .bool false, undef, undef, undef, undef, undef, undef, undef, undef, .agg #[.int .u8 h.hint, .int .i32 h.schema, .int .u64 h.thr, .int .u64 h.sum, .int .u64 h.zc, .int .u64 h.cnt, .slice a1 h.pos.length c1, .slice a2 h.neg.length c2, .slice a3 h.ups.length c3, .slice a4 h.downs.length c4, .slice a5 h.fups.length c5, .slice a6 h.fdowns.length c6, .slice a7 h.cus.length c7], .bool fl, .bool false, undef, undef, undef, undef, undef, u 22, u 23, u 24, u 25, u 26, u 27, u 28, u 29, u 30, u 31, u 32, u 33, u 34, u 35, u 36, u 37, u 38, u 39, u 40, u 41, u 42, u 43, u 44, u 45, u 46, u 47, u 48, u 49, u 50, u 51, u 52, u 53, u 54, u 55, u 56, u 57, u 58, u 59, u 60, u 61, u 62, u 63, u 64, u 65, u 66, u 67, u 68, u 69, u 70, u 71, u 72, u 73, u 74, u 75, u 76, u 77, u 78, u 79, u 80, u 81, u 82, u 83, u 84, u 85, u 86, u 87, u 88, u 89, u 90, undef, undef, undef, undef, undef, undef, undef, undef, undef, undef, undef, undef, undef, undef, undef, undef, undef, undef, undef, undef, undef, undef, undef, undef, undef, undef, undef, undef, undef, undef, undef, undef, undef, undef, undef, undef, undef, undef, undef, undef, undef, undef, undef, undef, undef, undef, undef, undef, undef, undef, undef, undef, undef, undef, undef, undef, undef, undef, undef, undef, undef, undef, undef, undef, undef, undef, undef, undef, undef, undef, undef, undef, undef, undef, undef, undef, undef, undef, undef, undef, undef, undef, undef], []⟩) (fun _ => by as_aux_lemma => kernel_rfl) (by as_aux_lemma => kernel_rfl) (by as_aux_lemma => kernel_rfl) (by as_aux_lemma => kernel_rfl) (by as_aux_lemma => kernel_rfl) ?st ?_
  case st =>
    refine ⟨?_, ?_, ?_, ?_, ?_, ?_, ?_, ?_, ?_, ?_, ?_, ?_, ?_, ?_, ?_, ?_, ?_, ?_, ?_, ?_, ?_, ?_, ?_, ?_, ?_, ?_, ?_, ?_, ?_, ?_, ?_, ?_, ?_, ?_, ?_, ?_, ?_, ?_, ?_, ?_, ?_, ?_, ?_, ?_, ?_, ?_, ?_, ?_, ?_, ?_, ?_, ?_, ?_, ?_, ?_, ?_, ?_, ?_, ?_, ?_, ?_, ?_, ?_, ?_, ?_, ?_, ?_, ?_, ?_, trivial⟩
    skip
    · as_aux_lemma =>  -- 0: slot 22
      refine Rg.stepR_free (.pointer (some ⟨w.heap.size, 1, none⟩)) (by rfl) (fun a hr => ?_) (by rw [hF]; rfl)
      have z2 := Rg.read_old hr 2 (by kernel_rfl) (by kernel_rfl); have r2 : a.eval (.tmp 2) = .pointer (some ⟨w.heap.size, 0, none⟩) := z2; clear z2; generalize a.eval = ρ at *; clear hr; go_simp
    · as_aux_lemma =>  -- 1: slot 23
      refine Rg.stepR_free (.int .i32 (h.schema)) (by rfl) (fun a hr => ?_) (by rw [hF]; rfl)
      have z22 := Rg.read_new hr 22 (by kernel_rfl) (by kernel_rfl); rw [hF] at z22; have r22 : a.eval (.tmp 22) = .pointer (some ⟨w.heap.size, 1, none⟩) := z22; clear z22; generalize a.eval = ρ at *; clear hr; go_simp
    · as_aux_lemma =>  -- 2: slot 24
      refine Rg.stepR_free (.bool B24) (by rfl) (fun a hr => ?_) (by rw [hF]; rfl)
      have z23 := Rg.read_new hr 23 (by kernel_rfl) (by kernel_rfl); rw [hF] at z23; have r23 : a.eval (.tmp 23) = .int .i32 (h.schema) := z23; clear z23; have rc : ∀ v, a.eval (.const v) = v := fun _ => rfl; rw [show B24 = _ from hB24.out]; generalize a.eval = ρ at *; clear hr; go_simp
    · as_aux_lemma =>  -- 3: slot 25
      refine Rg.stepR_free (.bool B24) (by rfl) (fun a hr => ?_) (by rw [hF]; rfl)
      have z24 := Rg.read_new hr 24 (by kernel_rfl) (by kernel_rfl); rw [hF] at z24; have r24 : a.eval (.tmp 24) = .bool B24 := z24; clear z24; generalize a.eval = ρ at *; clear hr; go_simp
    · as_aux_lemma =>  -- 4: slot 26
      have hC := hC26.out
      refine Rg.stepR_guarded (.pointer (some ⟨w.heap.size, 1, none⟩)) true B24 3 false 25 (by rfl) (by kernel_rfl) (by kernel_rfl) (by kernel_rfl) (fun x hx => by rw [hF] at hx; exact hx) (fun hc a hr => ?_) (fun hc => ?_) (fun hc => ?_)
      · have z2 := Rg.read_old hr 2 (by kernel_rfl) (by kernel_rfl); have r2 : a.eval (.tmp 2) = .pointer (some ⟨w.heap.size, 0, none⟩) := z2; clear z2; rw [← hC] at hc; clear hC; generalize a.eval = ρ at *; clear hr; go_simp
      · rw [← hC] at hc; rw [hF]; show _ = ite _ _ _; rw [if_pos hc]
      · rw [← hC] at hc; rw [hF]; show _ = ite _ _ _; rw [if_neg (by rw [hc]; decide)]
    · as_aux_lemma =>  -- 5: slot 27
      have hC := hC26.out
      refine Rg.stepR_guarded (.int .i32 (h.schema)) true B24 3 false 25 (by rfl) (by kernel_rfl) (by kernel_rfl) (by kernel_rfl) (fun x hx => by rw [hF] at hx; exact hx) (fun hc a hr => ?_) (fun hc => ?_) (fun hc => ?_)
      · have z26 := Rg.read_new hr 26 (by kernel_rfl) (by kernel_rfl); rw [hF] at z26; have r26 : a.eval (.tmp 26) = if C26 = true then .pointer (some ⟨w.heap.size, 1, none⟩) else undef := z26; clear z26; rw [← hC] at hc; clear hC; rw [if_pos hc] at r26; generalize a.eval = ρ at *; clear hr; go_simp
      · rw [← hC] at hc; rw [hF]; show _ = ite _ _ _; rw [if_pos hc]
      · rw [← hC] at hc; rw [hF]; show _ = ite _ _ _; rw [if_neg (by rw [hc]; decide)]
    · as_aux_lemma =>  -- 6: slot 28
      have hC := hC26.out
      refine Rg.stepR_guarded (.bool B28) true B24 3 false 25 (by rfl) (by kernel_rfl) (by kernel_rfl) (by kernel_rfl) (fun x hx => by rw [hF] at hx; exact hx) (fun hc a hr => ?_) (fun hc => ?_) (fun hc => ?_)
      · have z27 := Rg.read_new hr 27 (by kernel_rfl) (by kernel_rfl); rw [hF] at z27; have r27 : a.eval (.tmp 27) = if C26 = true then .int .i32 (h.schema) else undef := z27; clear z27; rw [← hC] at hc; clear hC; rw [if_pos hc] at r27; have rc : ∀ v, a.eval (.const v) = v := fun _ => rfl; rw [show B28 = _ from hB28.out]; generalize a.eval = ρ at *; clear hr; go_simp
      · rw [← hC] at hc; rw [hF]; show _ = ite _ _ _; rw [if_pos hc]
      · rw [← hC] at hc; rw [hF]; show _ = ite _ _ _; rw [if_neg (by rw [hc]; decide)]
    · as_aux_lemma =>  -- 7: slot 29
      refine Rg.stepR_free (.bool B29) (by rfl) (fun a hr => ?_) (by rw [hF]; rfl)
      have z25 := Rg.read_new hr 25 (by kernel_rfl) (by kernel_rfl); rw [hF] at z25; have r25 : a.eval (.tmp 25) = .bool B24 := z25; clear z25; have z28 := Rg.read_new hr 28 (by kernel_rfl) (by kernel_rfl); rw [hF] at z28; have r28 : a.eval (.tmp 28) = if C26 = true then .bool B28 else undef := z28; clear z28; have rc : ∀ v, a.eval (.const v) = v := fun _ => rfl; rw [show B29 = _ from hB29.out]; have e28 := hC26.out; clear hr; generalize a.eval = ρ at *; cases B24 <;> simp [e28] at r28 <;> (simp [r25, r28, rc, go_sem, execOp])
    · as_aux_lemma =>  -- 8: slot 30
      refine Rg.stepR_free (.bool B29) (by rfl) (fun a hr => ?_) (by rw [hF]; rfl)
      have z29 := Rg.read_new hr 29 (by kernel_rfl) (by kernel_rfl); rw [hF] at z29; have r29 : a.eval (.tmp 29) = .bool B29 := z29; clear z29; generalize a.eval = ρ at *; clear hr; go_simp
    · as_aux_lemma =>  -- 9: slot 31
      have hC := hC31.out
      refine Rg.stepR_guarded (.pointer (some ⟨w.heap.size, 12, none⟩)) true B29 8 false 30 (by rfl) (by kernel_rfl) (by kernel_rfl) (by kernel_rfl) (fun x hx => by rw [hF] at hx; exact hx) (fun hc a hr => ?_) (fun hc => ?_) (fun hc => ?_)
      · have z2 := Rg.read_old hr 2 (by kernel_rfl) (by kernel_rfl); have r2 : a.eval (.tmp 2) = .pointer (some ⟨w.heap.size, 0, none⟩) := z2; clear z2; rw [← hC] at hc; clear hC; generalize a.eval = ρ at *; clear hr; go_simp
      · rw [← hC] at hc; rw [hF]; show _ = ite _ _ _; rw [if_pos hc]
      · rw [← hC] at hc; rw [hF]; show _ = ite _ _ _; rw [if_neg (by rw [hc]; decide)]
    · as_aux_lemma =>  -- 10: slot 32
      have hC := hC31.out
      refine Rg.stepR_guarded (.slice a7 h.cus.length c7) true B29 8 false 30 (by rfl) (by kernel_rfl) (by kernel_rfl) (by kernel_rfl) (fun x hx => by rw [hF] at hx; exact hx) (fun hc a hr => ?_) (fun hc => ?_) (fun hc => ?_)
      · have z31 := Rg.read_new hr 31 (by kernel_rfl) (by kernel_rfl); rw [hF] at z31; have r31 : a.eval (.tmp 31) = if C31 = true then .pointer (some ⟨w.heap.size, 12, none⟩) else undef := z31; clear z31; rw [← hC] at hc; clear hC; rw [if_pos hc] at r31; generalize a.eval = ρ at *; clear hr; go_simp
      · rw [← hC] at hc; rw [hF]; show _ = ite _ _ _; rw [if_pos hc]
      · rw [← hC] at hc; rw [hF]; show _ = ite _ _ _; rw [if_neg (by rw [hc]; decide)]
    · as_aux_lemma =>  -- 11: slot 33
      have hC := hC31.out
      refine Rg.stepR_guarded (.int .i64 ((h.cus.length : Int))) true B29 8 false 30 (by rfl) (by kernel_rfl) (by kernel_rfl) (by kernel_rfl) (fun x hx => by rw [hF] at hx; exact hx) (fun hc a hr => ?_) (fun hc => ?_) (fun hc => ?_)
      · have z32 := Rg.read_new hr 32 (by kernel_rfl) (by kernel_rfl); rw [hF] at z32; have r32 : a.eval (.tmp 32) = if C31 = true then .slice a7 h.cus.length c7 else undef := z32; clear z32; rw [← hC] at hc; clear hC; rw [if_pos hc] at r32; generalize a.eval = ρ at *; clear hr; go_simp
      · rw [← hC] at hc; rw [hF]; show _ = ite _ _ _; rw [if_pos hc]
      · rw [← hC] at hc; rw [hF]; show _ = ite _ _ _; rw [if_neg (by rw [hc]; decide)]
    · as_aux_lemma =>  -- 12: slot 34
      have hC := hC31.out
      refine Rg.stepR_guarded (.bool B34) true B29 8 false 30 (by rfl) (by kernel_rfl) (by kernel_rfl) (by kernel_rfl) (fun x hx => by rw [hF] at hx; exact hx) (fun hc a hr => ?_) (fun hc => ?_) (fun hc => ?_)
      · have z33 := Rg.read_new hr 33 (by kernel_rfl) (by kernel_rfl); rw [hF] at z33; have r33 : a.eval (.tmp 33) = if C31 = true then .int .i64 ((h.cus.length : Int)) else undef := z33; clear z33; rw [← hC] at hc; clear hC; rw [if_pos hc] at r33; have rc : ∀ v, a.eval (.const v) = v := fun _ => rfl; rw [show B34 = _ from hB34.out]; generalize a.eval = ρ at *; clear hr; go_simp
      · rw [← hC] at hc; rw [hF]; show _ = ite _ _ _; rw [if_pos hc]
      · rw [← hC] at hc; rw [hF]; show _ = ite _ _ _; rw [if_neg (by rw [hc]; decide)]
    · as_aux_lemma =>  -- 13: slot 35
      refine Rg.stepR_free (.bool B35) (by rfl) (fun a hr => ?_) (by rw [hF]; rfl)
      have z30 := Rg.read_new hr 30 (by kernel_rfl) (by kernel_rfl); rw [hF] at z30; have r30 : a.eval (.tmp 30) = .bool B29 := z30; clear z30; have z34 := Rg.read_new hr 34 (by kernel_rfl) (by kernel_rfl); rw [hF] at z34; have r34 : a.eval (.tmp 34) = if C31 = true then .bool B34 else undef := z34; clear z34; have rc : ∀ v, a.eval (.const v) = v := fun _ => rfl; rw [show B35 = _ from hB35.out]; have e34 := hC31.out; clear hr; generalize a.eval = ρ at *; cases B29 <;> simp [e34] at r34 <;> (simp [r30, r34, rc, go_sem, execOp])
    · as_aux_lemma =>  -- 14: slot 36
      refine Rg.stepR_free (.bool B35) (by rfl) (fun a hr => ?_) (by rw [hF]; rfl)
      have z35 := Rg.read_new hr 35 (by kernel_rfl) (by kernel_rfl); rw [hF] at z35; have r35 : a.eval (.tmp 35) = .bool B35 := z35; clear z35; generalize a.eval = ρ at *; clear hr; go_simp
    · as_aux_lemma =>  -- 15: slot 37
      have hC := hC37.out
      refine Rg.stepR_guarded (.pointer (some ⟨w.heap.size, 8, none⟩)) true B35 14 false 36 (by rfl) (by kernel_rfl) (by kernel_rfl) (by kernel_rfl) (fun x hx => by rw [hF] at hx; exact hx) (fun hc a hr => ?_) (fun hc => ?_) (fun hc => ?_)
      · have z2 := Rg.read_old hr 2 (by kernel_rfl) (by kernel_rfl); have r2 : a.eval (.tmp 2) = .pointer (some ⟨w.heap.size, 0, none⟩) := z2; clear z2; rw [← hC] at hc; clear hC; generalize a.eval = ρ at *; clear hr; go_simp
      · rw [← hC] at hc; rw [hF]; show _ = ite _ _ _; rw [if_pos hc]
      · rw [← hC] at hc; rw [hF]; show _ = ite _ _ _; rw [if_neg (by rw [hc]; decide)]
    · as_aux_lemma =>  -- 16: slot 38
      have hC := hC37.out
      refine Rg.stepR_guarded (.slice a3 h.ups.length c3) true B35 14 false 36 (by rfl) (by kernel_rfl) (by kernel_rfl) (by kernel_rfl) (fun x hx => by rw [hF] at hx; exact hx) (fun hc a hr => ?_) (fun hc => ?_) (fun hc => ?_)
      · have z37 := Rg.read_new hr 37 (by kernel_rfl) (by kernel_rfl); rw [hF] at z37; have r37 : a.eval (.tmp 37) = if C37 = true then .pointer (some ⟨w.heap.size, 8, none⟩) else undef := z37; clear z37; rw [← hC] at hc; clear hC; rw [if_pos hc] at r37; generalize a.eval = ρ at *; clear hr; go_simp
      · rw [← hC] at hc; rw [hF]; show _ = ite _ _ _; rw [if_pos hc]
      · rw [← hC] at hc; rw [hF]; show _ = ite _ _ _; rw [if_neg (by rw [hc]; decide)]
    · as_aux_lemma =>  -- 17: slot 39
      have hC := hC37.out
      refine Rg.stepR_guarded (.int .i64 ((h.ups.length : Int))) true B35 14 false 36 (by rfl) (by kernel_rfl) (by kernel_rfl) (by kernel_rfl) (fun x hx => by rw [hF] at hx; exact hx) (fun hc a hr => ?_) (fun hc => ?_) (fun hc => ?_)
      · have z38 := Rg.read_new hr 38 (by kernel_rfl) (by kernel_rfl); rw [hF] at z38; have r38 : a.eval (.tmp 38) = if C37 = true then .slice a3 h.ups.length c3 else undef := z38; clear z38; rw [← hC] at hc; clear hC; rw [if_pos hc] at r38; generalize a.eval = ρ at *; clear hr; go_simp
      · rw [← hC] at hc; rw [hF]; show _ = ite _ _ _; rw [if_pos hc]
      · rw [← hC] at hc; rw [hF]; show _ = ite _ _ _; rw [if_neg (by rw [hc]; decide)]
    · as_aux_lemma =>  -- 18: slot 40
      have hC := hC37.out
      refine Rg.stepR_guarded (.pointer (some ⟨w.heap.size, 9, none⟩)) true B35 14 false 36 (by rfl) (by kernel_rfl) (by kernel_rfl) (by kernel_rfl) (fun x hx => by rw [hF] at hx; exact hx) (fun hc a hr => ?_) (fun hc => ?_) (fun hc => ?_)
      · have z2 := Rg.read_old hr 2 (by kernel_rfl) (by kernel_rfl); have r2 : a.eval (.tmp 2) = .pointer (some ⟨w.heap.size, 0, none⟩) := z2; clear z2; rw [← hC] at hc; clear hC; generalize a.eval = ρ at *; clear hr; go_simp
      · rw [← hC] at hc; rw [hF]; show _ = ite _ _ _; rw [if_pos hc]
      · rw [← hC] at hc; rw [hF]; show _ = ite _ _ _; rw [if_neg (by rw [hc]; decide)]
    · as_aux_lemma =>  -- 19: slot 41
      have hC := hC37.out
      refine Rg.stepR_guarded (.slice a4 h.downs.length c4) true B35 14 false 36 (by rfl) (by kernel_rfl) (by kernel_rfl) (by kernel_rfl) (fun x hx => by rw [hF] at hx; exact hx) (fun hc a hr => ?_) (fun hc => ?_) (fun hc => ?_)
      · have z40 := Rg.read_new hr 40 (by kernel_rfl) (by kernel_rfl); rw [hF] at z40; have r40 : a.eval (.tmp 40) = if C37 = true then .pointer (some ⟨w.heap.size, 9, none⟩) else undef := z40; clear z40; rw [← hC] at hc; clear hC; rw [if_pos hc] at r40; generalize a.eval = ρ at *; clear hr; go_simp
      · rw [← hC] at hc; rw [hF]; show _ = ite _ _ _; rw [if_pos hc]
      · rw [← hC] at hc; rw [hF]; show _ = ite _ _ _; rw [if_neg (by rw [hc]; decide)]
    · as_aux_lemma =>  -- 20: slot 42
      have hC := hC37.out
      refine Rg.stepR_guarded (.int .i64 ((h.downs.length : Int))) true B35 14 false 36 (by rfl) (by kernel_rfl) (by kernel_rfl) (by kernel_rfl) (fun x hx => by rw [hF] at hx; exact hx) (fun hc a hr => ?_) (fun hc => ?_) (fun hc => ?_)
      · have z41 := Rg.read_new hr 41 (by kernel_rfl) (by kernel_rfl); rw [hF] at z41; have r41 : a.eval (.tmp 41) = if C37 = true then .slice a4 h.downs.length c4 else undef := z41; clear z41; rw [← hC] at hc; clear hC; rw [if_pos hc] at r41; generalize a.eval = ρ at *; clear hr; go_simp
      · rw [← hC] at hc; rw [hF]; show _ = ite _ _ _; rw [if_pos hc]
      · rw [← hC] at hc; rw [hF]; show _ = ite _ _ _; rw [if_neg (by rw [hc]; decide)]
    · as_aux_lemma =>  -- 21: slot 43
      have hC := hC37.out
      refine Rg.stepR_guarded (.int .i64 ((h.ups.length : Int) + (h.downs.length : Int))) true B35 14 false 36 (by rfl) (by kernel_rfl) (by kernel_rfl) (by kernel_rfl) (fun x hx => by rw [hF] at hx; exact hx) (fun hc a hr => ?_) (fun hc => ?_) (fun hc => ?_)
      · have z39 := Rg.read_new hr 39 (by kernel_rfl) (by kernel_rfl); rw [hF] at z39; have r39 : a.eval (.tmp 39) = if C37 = true then .int .i64 ((h.ups.length : Int)) else undef := z39; clear z39; have z42 := Rg.read_new hr 42 (by kernel_rfl) (by kernel_rfl); rw [hF] at z42; have r42 : a.eval (.tmp 42) = if C37 = true then .int .i64 ((h.downs.length : Int)) else undef := z42; clear z42; rw [← hC] at hc; clear hC; rw [if_pos hc] at r39; rw [if_pos hc] at r42; generalize a.eval = ρ at *; clear hr; go_simp
      · rw [← hC] at hc; rw [hF]; show _ = ite _ _ _; rw [if_pos hc]
      · rw [← hC] at hc; rw [hF]; show _ = ite _ _ _; rw [if_neg (by rw [hc]; decide)]
    · as_aux_lemma =>  -- 22: slot 44
      have hC := hC37.out
      refine Rg.stepR_guarded (.pointer (some ⟨w.heap.size, 10, none⟩)) true B35 14 false 36 (by rfl) (by kernel_rfl) (by kernel_rfl) (by kernel_rfl) (fun x hx => by rw [hF] at hx; exact hx) (fun hc a hr => ?_) (fun hc => ?_) (fun hc => ?_)
      · have z2 := Rg.read_old hr 2 (by kernel_rfl) (by kernel_rfl); have r2 : a.eval (.tmp 2) = .pointer (some ⟨w.heap.size, 0, none⟩) := z2; clear z2; rw [← hC] at hc; clear hC; generalize a.eval = ρ at *; clear hr; go_simp
      · rw [← hC] at hc; rw [hF]; show _ = ite _ _ _; rw [if_pos hc]
      · rw [← hC] at hc; rw [hF]; show _ = ite _ _ _; rw [if_neg (by rw [hc]; decide)]
    · as_aux_lemma =>  -- 23: slot 45
      have hC := hC37.out
      refine Rg.stepR_guarded (.slice a5 h.fups.length c5) true B35 14 false 36 (by rfl) (by kernel_rfl) (by kernel_rfl) (by kernel_rfl) (fun x hx => by rw [hF] at hx; exact hx) (fun hc a hr => ?_) (fun hc => ?_) (fun hc => ?_)
      · have z44 := Rg.read_new hr 44 (by kernel_rfl) (by kernel_rfl); rw [hF] at z44; have r44 : a.eval (.tmp 44) = if C37 = true then .pointer (some ⟨w.heap.size, 10, none⟩) else undef := z44; clear z44; rw [← hC] at hc; clear hC; rw [if_pos hc] at r44; generalize a.eval = ρ at *; clear hr; go_simp
      · rw [← hC] at hc; rw [hF]; show _ = ite _ _ _; rw [if_pos hc]
      · rw [← hC] at hc; rw [hF]; show _ = ite _ _ _; rw [if_neg (by rw [hc]; decide)]
    · as_aux_lemma =>  -- 24: slot 46
      have hC := hC37.out
      refine Rg.stepR_guarded (.int .i64 ((h.fups.length : Int))) true B35 14 false 36 (by rfl) (by kernel_rfl) (by kernel_rfl) (by kernel_rfl) (fun x hx => by rw [hF] at hx; exact hx) (fun hc a hr => ?_) (fun hc => ?_) (fun hc => ?_)
      · have z45 := Rg.read_new hr 45 (by kernel_rfl) (by kernel_rfl); rw [hF] at z45; have r45 : a.eval (.tmp 45) = if C37 = true then .slice a5 h.fups.length c5 else undef := z45; clear z45; rw [← hC] at hc; clear hC; rw [if_pos hc] at r45; generalize a.eval = ρ at *; clear hr; go_simp
      · rw [← hC] at hc; rw [hF]; show _ = ite _ _ _; rw [if_pos hc]
      · rw [← hC] at hc; rw [hF]; show _ = ite _ _ _; rw [if_neg (by rw [hc]; decide)]
    · as_aux_lemma =>  -- 25: slot 47
      have hC := hC37.out
      refine Rg.stepR_guarded (.int .i64 ((h.ups.length : Int) + (h.downs.length : Int) + (h.fups.length : Int))) true B35 14 false 36 (by rfl) (by kernel_rfl) (by kernel_rfl) (by kernel_rfl) (fun x hx => by rw [hF] at hx; exact hx) (fun hc a hr => ?_) (fun hc => ?_) (fun hc => ?_)
      · have z43 := Rg.read_new hr 43 (by kernel_rfl) (by kernel_rfl); rw [hF] at z43; have r43 : a.eval (.tmp 43) = if C37 = true then .int .i64 ((h.ups.length : Int) + (h.downs.length : Int)) else undef := z43; clear z43; have z46 := Rg.read_new hr 46 (by kernel_rfl) (by kernel_rfl); rw [hF] at z46; have r46 : a.eval (.tmp 46) = if C37 = true then .int .i64 ((h.fups.length : Int)) else undef := z46; clear z46; rw [← hC] at hc; clear hC; rw [if_pos hc] at r43; rw [if_pos hc] at r46; generalize a.eval = ρ at *; clear hr; go_simp
      · rw [← hC] at hc; rw [hF]; show _ = ite _ _ _; rw [if_pos hc]
      · rw [← hC] at hc; rw [hF]; show _ = ite _ _ _; rw [if_neg (by rw [hc]; decide)]
    · as_aux_lemma =>  -- 26: slot 48
      have hC := hC37.out
      refine Rg.stepR_guarded (.pointer (some ⟨w.heap.size, 11, none⟩)) true B35 14 false 36 (by rfl) (by kernel_rfl) (by kernel_rfl) (by kernel_rfl) (fun x hx => by rw [hF] at hx; exact hx) (fun hc a hr => ?_) (fun hc => ?_) (fun hc => ?_)
      · have z2 := Rg.read_old hr 2 (by kernel_rfl) (by kernel_rfl); have r2 : a.eval (.tmp 2) = .pointer (some ⟨w.heap.size, 0, none⟩) := z2; clear z2; rw [← hC] at hc; clear hC; generalize a.eval = ρ at *; clear hr; go_simp
      · rw [← hC] at hc; rw [hF]; show _ = ite _ _ _; rw [if_pos hc]
      · rw [← hC] at hc; rw [hF]; show _ = ite _ _ _; rw [if_neg (by rw [hc]; decide)]
    · as_aux_lemma =>  -- 27: slot 49
      have hC := hC37.out
      refine Rg.stepR_guarded (.slice a6 h.fdowns.length c6) true B35 14 false 36 (by rfl) (by kernel_rfl) (by kernel_rfl) (by kernel_rfl) (fun x hx => by rw [hF] at hx; exact hx) (fun hc a hr => ?_) (fun hc => ?_) (fun hc => ?_)
      · have z48 := Rg.read_new hr 48 (by kernel_rfl) (by kernel_rfl); rw [hF] at z48; have r48 : a.eval (.tmp 48) = if C37 = true then .pointer (some ⟨w.heap.size, 11, none⟩) else undef := z48; clear z48; rw [← hC] at hc; clear hC; rw [if_pos hc] at r48; generalize a.eval = ρ at *; clear hr; go_simp
      · rw [← hC] at hc; rw [hF]; show _ = ite _ _ _; rw [if_pos hc]
      · rw [← hC] at hc; rw [hF]; show _ = ite _ _ _; rw [if_neg (by rw [hc]; decide)]
    · as_aux_lemma =>  -- 28: slot 50
      have hC := hC37.out
      refine Rg.stepR_guarded (.int .i64 ((h.fdowns.length : Int))) true B35 14 false 36 (by rfl) (by kernel_rfl) (by kernel_rfl) (by kernel_rfl) (fun x hx => by rw [hF] at hx; exact hx) (fun hc a hr => ?_) (fun hc => ?_) (fun hc => ?_)
      · have z49 := Rg.read_new hr 49 (by kernel_rfl) (by kernel_rfl); rw [hF] at z49; have r49 : a.eval (.tmp 49) = if C37 = true then .slice a6 h.fdowns.length c6 else undef := z49; clear z49; rw [← hC] at hc; clear hC; rw [if_pos hc] at r49; generalize a.eval = ρ at *; clear hr; go_simp
      · rw [← hC] at hc; rw [hF]; show _ = ite _ _ _; rw [if_pos hc]
      · rw [← hC] at hc; rw [hF]; show _ = ite _ _ _; rw [if_neg (by rw [hc]; decide)]
    · as_aux_lemma =>  -- 29: slot 51
      have hC := hC37.out
      refine Rg.stepR_guarded (.int .i64 ((h.ups.length : Int) + (h.downs.length : Int) + (h.fups.length : Int) + (h.fdowns.length : Int))) true B35 14 false 36 (by rfl) (by kernel_rfl) (by kernel_rfl) (by kernel_rfl) (fun x hx => by rw [hF] at hx; exact hx) (fun hc a hr => ?_) (fun hc => ?_) (fun hc => ?_)
      · have z47 := Rg.read_new hr 47 (by kernel_rfl) (by kernel_rfl); rw [hF] at z47; have r47 : a.eval (.tmp 47) = if C37 = true then .int .i64 ((h.ups.length : Int) + (h.downs.length : Int) + (h.fups.length : Int)) else undef := z47; clear z47; have z50 := Rg.read_new hr 50 (by kernel_rfl) (by kernel_rfl); rw [hF] at z50; have r50 : a.eval (.tmp 50) = if C37 = true then .int .i64 ((h.fdowns.length : Int)) else undef := z50; clear z50; rw [← hC] at hc; clear hC; rw [if_pos hc] at r47; rw [if_pos hc] at r50; generalize a.eval = ρ at *; clear hr; go_simp
      · rw [← hC] at hc; rw [hF]; show _ = ite _ _ _; rw [if_pos hc]
      · rw [← hC] at hc; rw [hF]; show _ = ite _ _ _; rw [if_neg (by rw [hc]; decide)]
    · as_aux_lemma =>  -- 30: slot 52
      have hC := hC37.out
      refine Rg.stepR_guarded (.bool B52) true B35 14 false 36 (by rfl) (by kernel_rfl) (by kernel_rfl) (by kernel_rfl) (fun x hx => by rw [hF] at hx; exact hx) (fun hc a hr => ?_) (fun hc => ?_) (fun hc => ?_)
      · have z51 := Rg.read_new hr 51 (by kernel_rfl) (by kernel_rfl); rw [hF] at z51; have r51 : a.eval (.tmp 51) = if C37 = true then .int .i64 ((h.ups.length : Int) + (h.downs.length : Int) + (h.fups.length : Int) + (h.fdowns.length : Int)) else undef := z51; clear z51; rw [← hC] at hc; clear hC; rw [if_pos hc] at r51; have rc : ∀ v, a.eval (.const v) = v := fun _ => rfl; rw [show B52 = _ from hB52.out]; generalize a.eval = ρ at *; clear hr; go_simp
      · rw [← hC] at hc; rw [hF]; show _ = ite _ _ _; rw [if_pos hc]
      · rw [← hC] at hc; rw [hF]; show _ = ite _ _ _; rw [if_neg (by rw [hc]; decide)]
    · as_aux_lemma =>  -- 31: slot 53
      refine Rg.stepR_free (.bool B53) (by rfl) (fun a hr => ?_) (by rw [hF]; rfl)
      have z36 := Rg.read_new hr 36 (by kernel_rfl) (by kernel_rfl); rw [hF] at z36; have r36 : a.eval (.tmp 36) = .bool B35 := z36; clear z36; have z52 := Rg.read_new hr 52 (by kernel_rfl) (by kernel_rfl); rw [hF] at z52; have r52 : a.eval (.tmp 52) = if C37 = true then .bool B52 else undef := z52; clear z52; have rc : ∀ v, a.eval (.const v) = v := fun _ => rfl; rw [show B53 = _ from hB53.out]; have e52 := hC37.out; clear hr; generalize a.eval = ρ at *; cases B35 <;> simp [e52] at r52 <;> (simp [r36, r52, rc, go_sem, execOp])
    · as_aux_lemma =>  -- 32: slot 54
      refine Rg.stepR_free (.bool B53) (by rfl) (fun a hr => ?_) (by rw [hF]; rfl)
      have z53 := Rg.read_new hr 53 (by kernel_rfl) (by kernel_rfl); rw [hF] at z53; have r53 : a.eval (.tmp 53) = .bool B53 := z53; clear z53; generalize a.eval = ρ at *; clear hr; go_simp
    · as_aux_lemma =>  -- 33: slot 55
      have hC := hC55.out
      refine Rg.stepR_guarded (.pointer (some ⟨w.heap.size, 6, none⟩)) true B53 32 false 54 (by rfl) (by kernel_rfl) (by kernel_rfl) (by kernel_rfl) (fun x hx => by rw [hF] at hx; exact hx) (fun hc a hr => ?_) (fun hc => ?_) (fun hc => ?_)
      · have z2 := Rg.read_old hr 2 (by kernel_rfl) (by kernel_rfl); have r2 : a.eval (.tmp 2) = .pointer (some ⟨w.heap.size, 0, none⟩) := z2; clear z2; rw [← hC] at hc; clear hC; generalize a.eval = ρ at *; clear hr; go_simp
      · rw [← hC] at hc; rw [hF]; show _ = ite _ _ _; rw [if_pos hc]
      · rw [← hC] at hc; rw [hF]; show _ = ite _ _ _; rw [if_neg (by rw [hc]; decide)]
    · as_aux_lemma =>  -- 34: slot 56
      have hC := hC55.out
      refine Rg.stepR_guarded (.slice a1 h.pos.length c1) true B53 32 false 54 (by rfl) (by kernel_rfl) (by kernel_rfl) (by kernel_rfl) (fun x hx => by rw [hF] at hx; exact hx) (fun hc a hr => ?_) (fun hc => ?_) (fun hc => ?_)
      · have z55 := Rg.read_new hr 55 (by kernel_rfl) (by kernel_rfl); rw [hF] at z55; have r55 : a.eval (.tmp 55) = if C55 = true then .pointer (some ⟨w.heap.size, 6, none⟩) else undef := z55; clear z55; rw [← hC] at hc; clear hC; rw [if_pos hc] at r55; generalize a.eval = ρ at *; clear hr; go_simp
      · rw [← hC] at hc; rw [hF]; show _ = ite _ _ _; rw [if_pos hc]
      · rw [← hC] at hc; rw [hF]; show _ = ite _ _ _; rw [if_neg (by rw [hc]; decide)]
    · as_aux_lemma =>  -- 35: slot 57
      have hC := hC55.out
      refine Rg.stepR_guarded (.int .i64 ((h.pos.length : Int))) true B53 32 false 54 (by rfl) (by kernel_rfl) (by kernel_rfl) (by kernel_rfl) (fun x hx => by rw [hF] at hx; exact hx) (fun hc a hr => ?_) (fun hc => ?_) (fun hc => ?_)
      · have z56 := Rg.read_new hr 56 (by kernel_rfl) (by kernel_rfl); rw [hF] at z56; have r56 : a.eval (.tmp 56) = if C55 = true then .slice a1 h.pos.length c1 else undef := z56; clear z56; rw [← hC] at hc; clear hC; rw [if_pos hc] at r56; generalize a.eval = ρ at *; clear hr; go_simp
      · rw [← hC] at hc; rw [hF]; show _ = ite _ _ _; rw [if_pos hc]
      · rw [← hC] at hc; rw [hF]; show _ = ite _ _ _; rw [if_neg (by rw [hc]; decide)]
    · as_aux_lemma =>  -- 36: slot 58
      have hC := hC55.out
      refine Rg.stepR_guarded (.pointer (some ⟨w.heap.size, 7, none⟩)) true B53 32 false 54 (by rfl) (by kernel_rfl) (by kernel_rfl) (by kernel_rfl) (fun x hx => by rw [hF] at hx; exact hx) (fun hc a hr => ?_) (fun hc => ?_) (fun hc => ?_)
      · have z2 := Rg.read_old hr 2 (by kernel_rfl) (by kernel_rfl); have r2 : a.eval (.tmp 2) = .pointer (some ⟨w.heap.size, 0, none⟩) := z2; clear z2; rw [← hC] at hc; clear hC; generalize a.eval = ρ at *; clear hr; go_simp
      · rw [← hC] at hc; rw [hF]; show _ = ite _ _ _; rw [if_pos hc]
      · rw [← hC] at hc; rw [hF]; show _ = ite _ _ _; rw [if_neg (by rw [hc]; decide)]
    · as_aux_lemma =>  -- 37: slot 59
      have hC := hC55.out
      refine Rg.stepR_guarded (.slice a2 h.neg.length c2) true B53 32 false 54 (by rfl) (by kernel_rfl) (by kernel_rfl) (by kernel_rfl) (fun x hx => by rw [hF] at hx; exact hx) (fun hc a hr => ?_) (fun hc => ?_) (fun hc => ?_)
      · have z58 := Rg.read_new hr 58 (by kernel_rfl) (by kernel_rfl); rw [hF] at z58; have r58 : a.eval (.tmp 58) = if C55 = true then .pointer (some ⟨w.heap.size, 7, none⟩) else undef := z58; clear z58; rw [← hC] at hc; clear hC; rw [if_pos hc] at r58; generalize a.eval = ρ at *; clear hr; go_simp
      · rw [← hC] at hc; rw [hF]; show _ = ite _ _ _; rw [if_pos hc]
      · rw [← hC] at hc; rw [hF]; show _ = ite _ _ _; rw [if_neg (by rw [hc]; decide)]
    · as_aux_lemma =>  -- 38: slot 60
      have hC := hC55.out
      refine Rg.stepR_guarded (.int .i64 ((h.neg.length : Int))) true B53 32 false 54 (by rfl) (by kernel_rfl) (by kernel_rfl) (by kernel_rfl) (fun x hx => by rw [hF] at hx; exact hx) (fun hc a hr => ?_) (fun hc => ?_) (fun hc => ?_)
      · have z59 := Rg.read_new hr 59 (by kernel_rfl) (by kernel_rfl); rw [hF] at z59; have r59 : a.eval (.tmp 59) = if C55 = true then .slice a2 h.neg.length c2 else undef := z59; clear z59; rw [← hC] at hc; clear hC; rw [if_pos hc] at r59; generalize a.eval = ρ at *; clear hr; go_simp
      · rw [← hC] at hc; rw [hF]; show _ = ite _ _ _; rw [if_pos hc]
      · rw [← hC] at hc; rw [hF]; show _ = ite _ _ _; rw [if_neg (by rw [hc]; decide)]
    · as_aux_lemma =>  -- 39: slot 61
      have hC := hC55.out
      refine Rg.stepR_guarded (.int .i64 ((h.pos.length : Int) + (h.neg.length : Int))) true B53 32 false 54 (by rfl) (by kernel_rfl) (by kernel_rfl) (by kernel_rfl) (fun x hx => by rw [hF] at hx; exact hx) (fun hc a hr => ?_) (fun hc => ?_) (fun hc => ?_)
      · have z57 := Rg.read_new hr 57 (by kernel_rfl) (by kernel_rfl); rw [hF] at z57; have r57 : a.eval (.tmp 57) = if C55 = true then .int .i64 ((h.pos.length : Int)) else undef := z57; clear z57; have z60 := Rg.read_new hr 60 (by kernel_rfl) (by kernel_rfl); rw [hF] at z60; have r60 : a.eval (.tmp 60) = if C55 = true then .int .i64 ((h.neg.length : Int)) else undef := z60; clear z60; rw [← hC] at hc; clear hC; rw [if_pos hc] at r57; rw [if_pos hc] at r60; generalize a.eval = ρ at *; clear hr; go_simp
      · rw [← hC] at hc; rw [hF]; show _ = ite _ _ _; rw [if_pos hc]
      · rw [← hC] at hc; rw [hF]; show _ = ite _ _ _; rw [if_neg (by rw [hc]; decide)]
    · as_aux_lemma =>  -- 40: slot 62
      have hC := hC55.out
      refine Rg.stepR_guarded (.bool B62) true B53 32 false 54 (by rfl) (by kernel_rfl) (by kernel_rfl) (by kernel_rfl) (fun x hx => by rw [hF] at hx; exact hx) (fun hc a hr => ?_) (fun hc => ?_) (fun hc => ?_)
      · have z61 := Rg.read_new hr 61 (by kernel_rfl) (by kernel_rfl); rw [hF] at z61; have r61 : a.eval (.tmp 61) = if C55 = true then .int .i64 ((h.pos.length : Int) + (h.neg.length : Int)) else undef := z61; clear z61; rw [← hC] at hc; clear hC; rw [if_pos hc] at r61; have rc : ∀ v, a.eval (.const v) = v := fun _ => rfl; rw [show B62 = _ from hB62.out]; generalize a.eval = ρ at *; clear hr; go_simp
      · rw [← hC] at hc; rw [hF]; show _ = ite _ _ _; rw [if_pos hc]
      · rw [← hC] at hc; rw [hF]; show _ = ite _ _ _; rw [if_neg (by rw [hc]; decide)]
    · as_aux_lemma =>  -- 41: slot 63
      refine Rg.stepR_free (.bool B63) (by rfl) (fun a hr => ?_) (by rw [hF]; rfl)
      have z54 := Rg.read_new hr 54 (by kernel_rfl) (by kernel_rfl); rw [hF] at z54; have r54 : a.eval (.tmp 54) = .bool B53 := z54; clear z54; have z62 := Rg.read_new hr 62 (by kernel_rfl) (by kernel_rfl); rw [hF] at z62; have r62 : a.eval (.tmp 62) = if C55 = true then .bool B62 else undef := z62; clear z62; have rc : ∀ v, a.eval (.const v) = v := fun _ => rfl; rw [show B63 = _ from hB63.out]; have e62 := hC55.out; clear hr; generalize a.eval = ρ at *; cases B53 <;> simp [e62] at r62 <;> (simp [r54, r62, rc, go_sem, execOp])
    · as_aux_lemma =>  -- 42: slot 64
      refine Rg.stepR_free (.bool B63) (by rfl) (fun a hr => ?_) (by rw [hF]; rfl)
      have z63 := Rg.read_new hr 63 (by kernel_rfl) (by kernel_rfl); rw [hF] at z63; have r63 : a.eval (.tmp 63) = .bool B63 := z63; clear z63; generalize a.eval = ρ at *; clear hr; go_simp
    · as_aux_lemma =>  -- 43: slot 65
      have hC := hC65.out
      refine Rg.stepR_guarded (.bool fl) true B63 42 false 64 (by rfl) (by kernel_rfl) (by kernel_rfl) (by kernel_rfl) (fun x hx => by rw [hF] at hx; exact hx) (fun hc a hr => ?_) (fun hc => ?_) (fun hc => ?_)
      · have z1 := Rg.read_old hr 1 (by kernel_rfl) (by kernel_rfl); have r1 : a.eval (.tmp 1) = .bool fl := z1; clear z1; rw [← hC] at hc; clear hC; generalize a.eval = ρ at *; clear hr; go_simp
      · rw [← hC] at hc; rw [hF]; show _ = ite _ _ _; rw [if_pos hc]
      · rw [← hC] at hc; rw [hF]; show _ = ite _ _ _; rw [if_neg (by rw [hc]; decide)]
    · as_aux_lemma =>  -- 44: slot 66
      have hC := hC65.out
      refine Rg.stepR_guarded (.bool fl) true B63 42 false 64 (by rfl) (by kernel_rfl) (by kernel_rfl) (by kernel_rfl) (fun x hx => by rw [hF] at hx; exact hx) (fun hc a hr => ?_) (fun hc => ?_) (fun hc => ?_)
      · have z65 := Rg.read_new hr 65 (by kernel_rfl) (by kernel_rfl); rw [hF] at z65; have r65 : a.eval (.tmp 65) = if C65 = true then .bool fl else undef := z65; clear z65; rw [← hC] at hc; clear hC; rw [if_pos hc] at r65; generalize a.eval = ρ at *; clear hr; go_simp
      · rw [← hC] at hc; rw [hF]; show _ = ite _ _ _; rw [if_pos hc]
      · rw [← hC] at hc; rw [hF]; show _ = ite _ _ _; rw [if_neg (by rw [hc]; decide)]
    · as_aux_lemma =>  -- 45: slot 67
      have hC := hC67.out
      refine Rg.stepR_guarded (.pointer (some ⟨w.heap.size, 8, none⟩)) C65 fl 44 true 66 (by rfl) (by kernel_rfl) (by kernel_rfl) (by kernel_rfl) (fun x hx => by rw [hF] at hx; exact hx) (fun hc a hr => ?_) (fun hc => ?_) (fun hc => ?_)
      · have z2 := Rg.read_old hr 2 (by kernel_rfl) (by kernel_rfl); have r2 : a.eval (.tmp 2) = .pointer (some ⟨w.heap.size, 0, none⟩) := z2; clear z2; rw [← hC] at hc; clear hC; generalize a.eval = ρ at *; clear hr; go_simp
      · rw [← hC] at hc; rw [hF]; show _ = ite _ _ _; rw [if_pos hc]
      · rw [← hC] at hc; rw [hF]; show _ = ite _ _ _; rw [if_neg (by rw [hc]; decide)]
    · as_aux_lemma =>  -- 46: slot 68
      have hC := hC67.out
      refine Rg.stepR_guarded (.slice a3 h.ups.length c3) C65 fl 44 true 66 (by rfl) (by kernel_rfl) (by kernel_rfl) (by kernel_rfl) (fun x hx => by rw [hF] at hx; exact hx) (fun hc a hr => ?_) (fun hc => ?_) (fun hc => ?_)
      · have z67 := Rg.read_new hr 67 (by kernel_rfl) (by kernel_rfl); rw [hF] at z67; have r67 : a.eval (.tmp 67) = if C67 = true then .pointer (some ⟨w.heap.size, 8, none⟩) else undef := z67; clear z67; rw [← hC] at hc; clear hC; rw [if_pos hc] at r67; generalize a.eval = ρ at *; clear hr; go_simp
      · rw [← hC] at hc; rw [hF]; show _ = ite _ _ _; rw [if_pos hc]
      · rw [← hC] at hc; rw [hF]; show _ = ite _ _ _; rw [if_neg (by rw [hc]; decide)]
    · as_aux_lemma =>  -- 47: slot 69
      have hC := hC67.out
      refine Rg.stepR_guarded (.int .i64 ((h.ups.length : Int))) C65 fl 44 true 66 (by rfl) (by kernel_rfl) (by kernel_rfl) (by kernel_rfl) (fun x hx => by rw [hF] at hx; exact hx) (fun hc a hr => ?_) (fun hc => ?_) (fun hc => ?_)
      · have z68 := Rg.read_new hr 68 (by kernel_rfl) (by kernel_rfl); rw [hF] at z68; have r68 : a.eval (.tmp 68) = if C67 = true then .slice a3 h.ups.length c3 else undef := z68; clear z68; rw [← hC] at hc; clear hC; rw [if_pos hc] at r68; generalize a.eval = ρ at *; clear hr; go_simp
      · rw [← hC] at hc; rw [hF]; show _ = ite _ _ _; rw [if_pos hc]
      · rw [← hC] at hc; rw [hF]; show _ = ite _ _ _; rw [if_neg (by rw [hc]; decide)]
    · as_aux_lemma =>  -- 48: slot 70
      have hC := hC67.out
      refine Rg.stepR_guarded (.pointer (some ⟨w.heap.size, 9, none⟩)) C65 fl 44 true 66 (by rfl) (by kernel_rfl) (by kernel_rfl) (by kernel_rfl) (fun x hx => by rw [hF] at hx; exact hx) (fun hc a hr => ?_) (fun hc => ?_) (fun hc => ?_)
      · have z2 := Rg.read_old hr 2 (by kernel_rfl) (by kernel_rfl); have r2 : a.eval (.tmp 2) = .pointer (some ⟨w.heap.size, 0, none⟩) := z2; clear z2; rw [← hC] at hc; clear hC; generalize a.eval = ρ at *; clear hr; go_simp
      · rw [← hC] at hc; rw [hF]; show _ = ite _ _ _; rw [if_pos hc]
      · rw [← hC] at hc; rw [hF]; show _ = ite _ _ _; rw [if_neg (by rw [hc]; decide)]
    · as_aux_lemma =>  -- 49: slot 71
      have hC := hC67.out
      refine Rg.stepR_guarded (.slice a4 h.downs.length c4) C65 fl 44 true 66 (by rfl) (by kernel_rfl) (by kernel_rfl) (by kernel_rfl) (fun x hx => by rw [hF] at hx; exact hx) (fun hc a hr => ?_) (fun hc => ?_) (fun hc => ?_)
      · have z70 := Rg.read_new hr 70 (by kernel_rfl) (by kernel_rfl); rw [hF] at z70; have r70 : a.eval (.tmp 70) = if C67 = true then .pointer (some ⟨w.heap.size, 9, none⟩) else undef := z70; clear z70; rw [← hC] at hc; clear hC; rw [if_pos hc] at r70; generalize a.eval = ρ at *; clear hr; go_simp
      · rw [← hC] at hc; rw [hF]; show _ = ite _ _ _; rw [if_pos hc]
      · rw [← hC] at hc; rw [hF]; show _ = ite _ _ _; rw [if_neg (by rw [hc]; decide)]
    · as_aux_lemma =>  -- 50: slot 72
      have hC := hC67.out
      refine Rg.stepR_guarded (.int .i64 ((h.downs.length : Int))) C65 fl 44 true 66 (by rfl) (by kernel_rfl) (by kernel_rfl) (by kernel_rfl) (fun x hx => by rw [hF] at hx; exact hx) (fun hc a hr => ?_) (fun hc => ?_) (fun hc => ?_)
      · have z71 := Rg.read_new hr 71 (by kernel_rfl) (by kernel_rfl); rw [hF] at z71; have r71 : a.eval (.tmp 71) = if C67 = true then .slice a4 h.downs.length c4 else undef := z71; clear z71; rw [← hC] at hc; clear hC; rw [if_pos hc] at r71; generalize a.eval = ρ at *; clear hr; go_simp
      · rw [← hC] at hc; rw [hF]; show _ = ite _ _ _; rw [if_pos hc]
      · rw [← hC] at hc; rw [hF]; show _ = ite _ _ _; rw [if_neg (by rw [hc]; decide)]
    · as_aux_lemma =>  -- 51: slot 73
      have hC := hC67.out
      refine Rg.stepR_guarded (.int .i64 ((h.ups.length : Int) + (h.downs.length : Int))) C65 fl 44 true 66 (by rfl) (by kernel_rfl) (by kernel_rfl) (by kernel_rfl) (fun x hx => by rw [hF] at hx; exact hx) (fun hc a hr => ?_) (fun hc => ?_) (fun hc => ?_)
      · have z69 := Rg.read_new hr 69 (by kernel_rfl) (by kernel_rfl); rw [hF] at z69; have r69 : a.eval (.tmp 69) = if C67 = true then .int .i64 ((h.ups.length : Int)) else undef := z69; clear z69; have z72 := Rg.read_new hr 72 (by kernel_rfl) (by kernel_rfl); rw [hF] at z72; have r72 : a.eval (.tmp 72) = if C67 = true then .int .i64 ((h.downs.length : Int)) else undef := z72; clear z72; rw [← hC] at hc; clear hC; rw [if_pos hc] at r69; rw [if_pos hc] at r72; generalize a.eval = ρ at *; clear hr; go_simp
      · rw [← hC] at hc; rw [hF]; show _ = ite _ _ _; rw [if_pos hc]
      · rw [← hC] at hc; rw [hF]; show _ = ite _ _ _; rw [if_neg (by rw [hc]; decide)]
    · as_aux_lemma =>  -- 52: slot 74
      have hC := hC67.out
      refine Rg.stepR_guarded (.bool B74) C65 fl 44 true 66 (by rfl) (by kernel_rfl) (by kernel_rfl) (by kernel_rfl) (fun x hx => by rw [hF] at hx; exact hx) (fun hc a hr => ?_) (fun hc => ?_) (fun hc => ?_)
      · have z73 := Rg.read_new hr 73 (by kernel_rfl) (by kernel_rfl); rw [hF] at z73; have r73 : a.eval (.tmp 73) = if C67 = true then .int .i64 ((h.ups.length : Int) + (h.downs.length : Int)) else undef := z73; clear z73; rw [← hC] at hc; clear hC; rw [if_pos hc] at r73; have rc : ∀ v, a.eval (.const v) = v := fun _ => rfl; rw [show B74 = _ from hB74.out]; generalize a.eval = ρ at *; clear hr; go_simp
      · rw [← hC] at hc; rw [hF]; show _ = ite _ _ _; rw [if_pos hc]
      · rw [← hC] at hc; rw [hF]; show _ = ite _ _ _; rw [if_neg (by rw [hc]; decide)]
    · as_aux_lemma =>  -- 53: slot 75
      have hC := hC65.out
      refine Rg.stepR_guarded (.bool B75) true B63 42 false 64 (by rfl) (by kernel_rfl) (by kernel_rfl) (by kernel_rfl) (fun x hx => by rw [hF] at hx; exact hx) (fun hc a hr => ?_) (fun hc => ?_) (fun hc => ?_)
      · have z66 := Rg.read_new hr 66 (by kernel_rfl) (by kernel_rfl); rw [hF] at z66; have r66 : a.eval (.tmp 66) = if C65 = true then .bool fl else undef := z66; clear z66; have z74 := Rg.read_new hr 74 (by kernel_rfl) (by kernel_rfl); rw [hF] at z74; have r74 : a.eval (.tmp 74) = if C67 = true then .bool B74 else undef := z74; clear z74; rw [← hC] at hc; clear hC; rw [if_pos hc] at r66; have rc : ∀ v, a.eval (.const v) = v := fun _ => rfl; rw [show B75 = _ from hB75.out]; have e74 := hC67.out; rw [hc] at e74; clear hr; generalize a.eval = ρ at *; cases fl <;> simp [e74] at r74 <;> (simp [r66, r74, rc, go_sem, execOp])
      · rw [← hC] at hc; rw [hF]; show _ = ite _ _ _; rw [if_pos hc]
      · rw [← hC] at hc; rw [hF]; show _ = ite _ _ _; rw [if_neg (by rw [hc]; decide)]
    · as_aux_lemma =>  -- 54: slot 76
      refine Rg.stepR_free (.bool B76) (by rfl) (fun a hr => ?_) (by rw [hF]; rfl)
      have z64 := Rg.read_new hr 64 (by kernel_rfl) (by kernel_rfl); rw [hF] at z64; have r64 : a.eval (.tmp 64) = .bool B63 := z64; clear z64; have z75 := Rg.read_new hr 75 (by kernel_rfl) (by kernel_rfl); rw [hF] at z75; have r75 : a.eval (.tmp 75) = if C65 = true then .bool B75 else undef := z75; clear z75; have rc : ∀ v, a.eval (.const v) = v := fun _ => rfl; rw [show B76 = _ from hB76.out]; have e75 := hC65.out; clear hr; generalize a.eval = ρ at *; cases B63 <;> simp [e75] at r75 <;> (simp [r64, r75, rc, go_sem, execOp])
    · as_aux_lemma =>  -- 55: slot 77
      refine Rg.stepR_free (.bool B76) (by rfl) (fun a hr => ?_) (by rw [hF]; rfl)
      have z76 := Rg.read_new hr 76 (by kernel_rfl) (by kernel_rfl); rw [hF] at z76; have r76 : a.eval (.tmp 76) = .bool B76 := z76; clear z76; generalize a.eval = ρ at *; clear hr; go_simp
    · as_aux_lemma =>  -- 56: slot 78
      have hC := hC78.out
      refine Rg.stepR_guarded (.bool fl) true B76 55 false 77 (by rfl) (by kernel_rfl) (by kernel_rfl) (by kernel_rfl) (fun x hx => by rw [hF] at hx; exact hx) (fun hc a hr => ?_) (fun hc => ?_) (fun hc => ?_)
      · have z1 := Rg.read_old hr 1 (by kernel_rfl) (by kernel_rfl); have r1 : a.eval (.tmp 1) = .bool fl := z1; clear z1; rw [← hC] at hc; clear hC; generalize a.eval = ρ at *; clear hr; go_simp
      · rw [← hC] at hc; rw [hF]; show _ = ite _ _ _; rw [if_pos hc]
      · rw [← hC] at hc; rw [hF]; show _ = ite _ _ _; rw [if_neg (by rw [hc]; decide)]
    · as_aux_lemma =>  -- 57: slot 79
      have hC := hC78.out
      refine Rg.stepR_guarded (.bool B79) true B76 55 false 77 (by rfl) (by kernel_rfl) (by kernel_rfl) (by kernel_rfl) (fun x hx => by rw [hF] at hx; exact hx) (fun hc a hr => ?_) (fun hc => ?_) (fun hc => ?_)
      · have z78 := Rg.read_new hr 78 (by kernel_rfl) (by kernel_rfl); rw [hF] at z78; have r78 : a.eval (.tmp 78) = if C78 = true then .bool fl else undef := z78; clear z78; rw [← hC] at hc; clear hC; rw [if_pos hc] at r78; rw [show B79 = _ from hB79.out]; generalize a.eval = ρ at *; clear hr; go_simp
      · rw [← hC] at hc; rw [hF]; show _ = ite _ _ _; rw [if_pos hc]
      · rw [← hC] at hc; rw [hF]; show _ = ite _ _ _; rw [if_neg (by rw [hc]; decide)]
    · as_aux_lemma =>  -- 58: slot 80
      have hC := hC78.out
      refine Rg.stepR_guarded (.bool B79) true B76 55 false 77 (by rfl) (by kernel_rfl) (by kernel_rfl) (by kernel_rfl) (fun x hx => by rw [hF] at hx; exact hx) (fun hc a hr => ?_) (fun hc => ?_) (fun hc => ?_)
      · have z79 := Rg.read_new hr 79 (by kernel_rfl) (by kernel_rfl); rw [hF] at z79; have r79 : a.eval (.tmp 79) = if C78 = true then .bool B79 else undef := z79; clear z79; rw [← hC] at hc; clear hC; rw [if_pos hc] at r79; generalize a.eval = ρ at *; clear hr; go_simp
      · rw [← hC] at hc; rw [hF]; show _ = ite _ _ _; rw [if_pos hc]
      · rw [← hC] at hc; rw [hF]; show _ = ite _ _ _; rw [if_neg (by rw [hc]; decide)]
    · as_aux_lemma =>  -- 59: slot 81
      have hC := hC81.out
      refine Rg.stepR_guarded (.pointer (some ⟨w.heap.size, 10, none⟩)) C78 B79 58 true 80 (by rfl) (by kernel_rfl) (by kernel_rfl) (by kernel_rfl) (fun x hx => by rw [hF] at hx; exact hx) (fun hc a hr => ?_) (fun hc => ?_) (fun hc => ?_)
      · have z2 := Rg.read_old hr 2 (by kernel_rfl) (by kernel_rfl); have r2 : a.eval (.tmp 2) = .pointer (some ⟨w.heap.size, 0, none⟩) := z2; clear z2; rw [← hC] at hc; clear hC; generalize a.eval = ρ at *; clear hr; go_simp
      · rw [← hC] at hc; rw [hF]; show _ = ite _ _ _; rw [if_pos hc]
      · rw [← hC] at hc; rw [hF]; show _ = ite _ _ _; rw [if_neg (by rw [hc]; decide)]
    · as_aux_lemma =>  -- 60: slot 82
      have hC := hC81.out
      refine Rg.stepR_guarded (.slice a5 h.fups.length c5) C78 B79 58 true 80 (by rfl) (by kernel_rfl) (by kernel_rfl) (by kernel_rfl) (fun x hx => by rw [hF] at hx; exact hx) (fun hc a hr => ?_) (fun hc => ?_) (fun hc => ?_)
      · have z81 := Rg.read_new hr 81 (by kernel_rfl) (by kernel_rfl); rw [hF] at z81; have r81 : a.eval (.tmp 81) = if C81 = true then .pointer (some ⟨w.heap.size, 10, none⟩) else undef := z81; clear z81; rw [← hC] at hc; clear hC; rw [if_pos hc] at r81; generalize a.eval = ρ at *; clear hr; go_simp
      · rw [← hC] at hc; rw [hF]; show _ = ite _ _ _; rw [if_pos hc]
      · rw [← hC] at hc; rw [hF]; show _ = ite _ _ _; rw [if_neg (by rw [hc]; decide)]
    · as_aux_lemma =>  -- 61: slot 83
      have hC := hC81.out
      refine Rg.stepR_guarded (.int .i64 ((h.fups.length : Int))) C78 B79 58 true 80 (by rfl) (by kernel_rfl) (by kernel_rfl) (by kernel_rfl) (fun x hx => by rw [hF] at hx; exact hx) (fun hc a hr => ?_) (fun hc => ?_) (fun hc => ?_)
      · have z82 := Rg.read_new hr 82 (by kernel_rfl) (by kernel_rfl); rw [hF] at z82; have r82 : a.eval (.tmp 82) = if C81 = true then .slice a5 h.fups.length c5 else undef := z82; clear z82; rw [← hC] at hc; clear hC; rw [if_pos hc] at r82; generalize a.eval = ρ at *; clear hr; go_simp
      · rw [← hC] at hc; rw [hF]; show _ = ite _ _ _; rw [if_pos hc]
      · rw [← hC] at hc; rw [hF]; show _ = ite _ _ _; rw [if_neg (by rw [hc]; decide)]
    · as_aux_lemma =>  -- 62: slot 84
      have hC := hC81.out
      refine Rg.stepR_guarded (.pointer (some ⟨w.heap.size, 11, none⟩)) C78 B79 58 true 80 (by rfl) (by kernel_rfl) (by kernel_rfl) (by kernel_rfl) (fun x hx => by rw [hF] at hx; exact hx) (fun hc a hr => ?_) (fun hc => ?_) (fun hc => ?_)
      · have z2 := Rg.read_old hr 2 (by kernel_rfl) (by kernel_rfl); have r2 : a.eval (.tmp 2) = .pointer (some ⟨w.heap.size, 0, none⟩) := z2; clear z2; rw [← hC] at hc; clear hC; generalize a.eval = ρ at *; clear hr; go_simp
      · rw [← hC] at hc; rw [hF]; show _ = ite _ _ _; rw [if_pos hc]
      · rw [← hC] at hc; rw [hF]; show _ = ite _ _ _; rw [if_neg (by rw [hc]; decide)]
    · as_aux_lemma =>  -- 63: slot 85
      have hC := hC81.out
      refine Rg.stepR_guarded (.slice a6 h.fdowns.length c6) C78 B79 58 true 80 (by rfl) (by kernel_rfl) (by kernel_rfl) (by kernel_rfl) (fun x hx => by rw [hF] at hx; exact hx) (fun hc a hr => ?_) (fun hc => ?_) (fun hc => ?_)
      · have z84 := Rg.read_new hr 84 (by kernel_rfl) (by kernel_rfl); rw [hF] at z84; have r84 : a.eval (.tmp 84) = if C81 = true then .pointer (some ⟨w.heap.size, 11, none⟩) else undef := z84; clear z84; rw [← hC] at hc; clear hC; rw [if_pos hc] at r84; generalize a.eval = ρ at *; clear hr; go_simp
      · rw [← hC] at hc; rw [hF]; show _ = ite _ _ _; rw [if_pos hc]
      · rw [← hC] at hc; rw [hF]; show _ = ite _ _ _; rw [if_neg (by rw [hc]; decide)]
    · as_aux_lemma =>  -- 64: slot 86
      have hC := hC81.out
      refine Rg.stepR_guarded (.int .i64 ((h.fdowns.length : Int))) C78 B79 58 true 80 (by rfl) (by kernel_rfl) (by kernel_rfl) (by kernel_rfl) (fun x hx => by rw [hF] at hx; exact hx) (fun hc a hr => ?_) (fun hc => ?_) (fun hc => ?_)
      · have z85 := Rg.read_new hr 85 (by kernel_rfl) (by kernel_rfl); rw [hF] at z85; have r85 : a.eval (.tmp 85) = if C81 = true then .slice a6 h.fdowns.length c6 else undef := z85; clear z85; rw [← hC] at hc; clear hC; rw [if_pos hc] at r85; generalize a.eval = ρ at *; clear hr; go_simp
      · rw [← hC] at hc; rw [hF]; show _ = ite _ _ _; rw [if_pos hc]
      · rw [← hC] at hc; rw [hF]; show _ = ite _ _ _; rw [if_neg (by rw [hc]; decide)]
    · as_aux_lemma =>  -- 65: slot 87
      have hC := hC81.out
      refine Rg.stepR_guarded (.int .i64 ((h.fups.length : Int) + (h.fdowns.length : Int))) C78 B79 58 true 80 (by rfl) (by kernel_rfl) (by kernel_rfl) (by kernel_rfl) (fun x hx => by rw [hF] at hx; exact hx) (fun hc a hr => ?_) (fun hc => ?_) (fun hc => ?_)
      · have z83 := Rg.read_new hr 83 (by kernel_rfl) (by kernel_rfl); rw [hF] at z83; have r83 : a.eval (.tmp 83) = if C81 = true then .int .i64 ((h.fups.length : Int)) else undef := z83; clear z83; have z86 := Rg.read_new hr 86 (by kernel_rfl) (by kernel_rfl); rw [hF] at z86; have r86 : a.eval (.tmp 86) = if C81 = true then .int .i64 ((h.fdowns.length : Int)) else undef := z86; clear z86; rw [← hC] at hc; clear hC; rw [if_pos hc] at r83; rw [if_pos hc] at r86; generalize a.eval = ρ at *; clear hr; go_simp
      · rw [← hC] at hc; rw [hF]; show _ = ite _ _ _; rw [if_pos hc]
      · rw [← hC] at hc; rw [hF]; show _ = ite _ _ _; rw [if_neg (by rw [hc]; decide)]
    · as_aux_lemma =>  -- 66: slot 88
      have hC := hC81.out
      refine Rg.stepR_guarded (.bool B88) C78 B79 58 true 80 (by rfl) (by kernel_rfl) (by kernel_rfl) (by kernel_rfl) (fun x hx => by rw [hF] at hx; exact hx) (fun hc a hr => ?_) (fun hc => ?_) (fun hc => ?_)
      · have z87 := Rg.read_new hr 87 (by kernel_rfl) (by kernel_rfl); rw [hF] at z87; have r87 : a.eval (.tmp 87) = if C81 = true then .int .i64 ((h.fups.length : Int) + (h.fdowns.length : Int)) else undef := z87; clear z87; rw [← hC] at hc; clear hC; rw [if_pos hc] at r87; have rc : ∀ v, a.eval (.const v) = v := fun _ => rfl; rw [show B88 = _ from hB88.out]; generalize a.eval = ρ at *; clear hr; go_simp
      · rw [← hC] at hc; rw [hF]; show _ = ite _ _ _; rw [if_pos hc]
      · rw [← hC] at hc; rw [hF]; show _ = ite _ _ _; rw [if_neg (by rw [hc]; decide)]
    · as_aux_lemma =>  -- 67: slot 89
      have hC := hC78.out
      refine Rg.stepR_guarded (.bool B89) true B76 55 false 77 (by rfl) (by kernel_rfl) (by kernel_rfl) (by kernel_rfl) (fun x hx => by rw [hF] at hx; exact hx) (fun hc a hr => ?_) (fun hc => ?_) (fun hc => ?_)
      · have z80 := Rg.read_new hr 80 (by kernel_rfl) (by kernel_rfl); rw [hF] at z80; have r80 : a.eval (.tmp 80) = if C78 = true then .bool B79 else undef := z80; clear z80; have z88 := Rg.read_new hr 88 (by kernel_rfl) (by kernel_rfl); rw [hF] at z88; have r88 : a.eval (.tmp 88) = if C81 = true then .bool B88 else undef := z88; clear z88; rw [← hC] at hc; clear hC; rw [if_pos hc] at r80; have rc : ∀ v, a.eval (.const v) = v := fun _ => rfl; rw [show B89 = _ from hB89.out]; have e88 := hC81.out; rw [hc] at e88; clear hr; generalize a.eval = ρ at *; cases B79 <;> simp [e88] at r88 <;> (simp [r80, r88, rc, go_sem, execOp])
      · rw [← hC] at hc; rw [hF]; show _ = ite _ _ _; rw [if_pos hc]
      · rw [← hC] at hc; rw [hF]; show _ = ite _ _ _; rw [if_neg (by rw [hc]; decide)]
    · as_aux_lemma =>  -- 68: slot 90
      refine Rg.stepR_free (.bool B90) (by rfl) (fun a hr => ?_) (by rw [hF]; rfl)
      have z77 := Rg.read_new hr 77 (by kernel_rfl) (by kernel_rfl); rw [hF] at z77; have r77 : a.eval (.tmp 77) = .bool B76 := z77; clear z77; have z89 := Rg.read_new hr 89 (by kernel_rfl) (by kernel_rfl); rw [hF] at z89; have r89 : a.eval (.tmp 89) = if C78 = true then .bool B89 else undef := z89; clear z89; have rc : ∀ v, a.eval (.const v) = v := fun _ => rfl; rw [show B90 = _ from hB90.out]; have e89 := hC78.out; clear hr; generalize a.eval = ρ at *; cases B76 <;> simp [e89] at r89 <;> (simp [r77, r89, rc, go_sem, execOp])
  intro u hu
  have e90 : u 90 = .bool B90 := by have z := hu 90 (by rfl); rw [hF] at z; exact z
  clear hu
  simp only [e90]
  clear e90
  clear hwa hwb hwc hwd hwe
  obtain ⟨hf, hw, ha⟩ := HX
  cases B90 with
  | true =>
    go_wp2
    go_ret2
    exact vpost_no hB1
  | false =>
  have HS : Hid (h.schema ≠ -53) := by
    have z := hB90.out.symm
    simp only [hB24.out, hB28.out, hB29.out, hB34.out, hB35.out, hB52.out, hB53.out, hB62.out, hB63.out, hB74.out, hB75.out, hB76.out, hB79.out, hB88.out, hB89.out, Bool.or_eq_false_iff, Bool.and_eq_false_imp, Bool.not_eq_true', Bool.not_eq_false', decide_eq_false_iff_not, beq_eq_false_iff_ne] at z
    have : ¬ h.schema < -4 := by
      intro hc
      simp [hc] at z
    show h.schema ≠ -53
    omega
  clear hF hB24 hC26 hB28 hB29 hC31 hB34 hB35 hC37 hB52 hB53 hC55 hB62 hB63 hC65 hC67 hB74 hB75 hB76 hC78 hB79 hC81 hB88 hB89 hB90
  have hq1 : w1.cell? ⟨w.heap.size, 0, none⟩ = some (.int .u8 h.hint) ∧ w1.cell? ⟨w.heap.size, 1, none⟩ = some (.int .i32 h.schema) ∧ w1.cell? ⟨w.heap.size, 2, none⟩ = some (.int .u64 h.thr) ∧ w1.cell? ⟨w.heap.size, 3, none⟩ = some (.int .u64 h.sum) ∧ w1.cell? ⟨w.heap.size, 4, none⟩ = some (.int .u64 h.zc) ∧ w1.cell? ⟨w.heap.size, 5, none⟩ = some (.int .u64 h.cnt) ∧ w1.cell? ⟨w.heap.size, 6, none⟩ = some (.slice a1 h.pos.length c1) ∧ w1.cell? ⟨w.heap.size, 7, none⟩ = some (.slice a2 h.neg.length c2) ∧ w1.cell? ⟨w.heap.size, 8, none⟩ = some (.slice a3 h.ups.length c3) ∧ w1.cell? ⟨w.heap.size, 9, none⟩ = some (.slice a4 h.downs.length c4) ∧ w1.cell? ⟨w.heap.size, 10, none⟩ = some (.slice a5 h.fups.length c5) ∧ w1.cell? ⟨w.heap.size, 11, none⟩ = some (.slice a6 h.fdowns.length c6) ∧ w1.cell? ⟨w.heap.size, 12, none⟩ = some (.slice a7 h.cus.length c7) := ⟨q0, q1, q2, q3, q4, q5, q6, q7, q8, q9, q10, q11, q12⟩
  have HQ1 := Lib.hid hq1
  have hq67 := And.intro q6 q7
  clear hq1 q0 q1 q2 q3 q4 q5 q8 q9 q10 q11 q12 q6 q7
  have hcp := hf.pos
  have hcn := hf.neg
  go_wp2_with fail
  have hE1 := ownsRow_empty w1.drew 52 2
  have hA1 : Below w.heap.size w (w1.drew.alloc (.cells #[] 52)) := hB1.drew.alloc hB1.drew.size _
  have hD1 : Below w1.heap.size w1 (w1.drew.alloc (.cells #[] 52)) := (Below.refl w1.heap.size w1).drew.alloc (Nat.le_refl _) _
  have hq67d : w1.drew.cell? ⟨w.heap.size, 6, none⟩ = some (.slice a1 h.pos.length c1) ∧ w1.drew.cell? ⟨w.heap.size, 7, none⟩ = some (.slice a2 h.neg.length c2) := hq67
  go_region_held3 (fun w' => w'.cell? ⟨w.heap.size, 6, none⟩ = some (.slice a1 h.pos.length c1) ∧ w'.cell? ⟨w.heap.size, 7, none⟩ = some (.slice a2 h.neg.length c2))
    (first | (with_reducible assumption) | exact keep67 hD4 hz1 (by assumption) | exact keep67 hD3 hz1 (by assumption) | exact keep67 hD1 hz1 hq67 | go_keep)
    (first
      | (refine step_append_spans (by rfl) (.tmp 91) (.tmp 93) (by rfl) (by rfl) w1.drew.heap.size _ 0 [] (by rfl) hE1 _ h.pos w.heap.size (by rfl) (ha.pos.below hA1 (Nat.le_refl _)) (by omega) (by simp) ?_; intro v3 w3 hown3 hg3; rw [Nat.zero_add, List.nil_append] at hown3; have hB3 := hA1.grown hg3 hA1.size (fun q hq => Nat.le_trans hB1.size (hE1.lt q hq).1); have hD3 : Below w1.heap.size (w1.drew.alloc (.cells #[] 52)) w3 := (Below.refl _ _).grown hg3 (by simp) (fun q hq => (hE1.lt q hq).1); obtain ⟨a3', c3', rfl⟩ := own_form hown3; have hw3 : w1.drew.heap.size ≤ w3.heap.size := (hD1.trans hD3).size)
      | (refine step_append_spans (by rfl) (.tmp 94) (.tmp 96) (by rfl) (by rfl) w1.drew.heap.size _ _ _ (by rfl) hown3 _ h.neg w.heap.size (by rfl) (ha.neg.below hB3 (Nat.le_refl _)) (by omega) hw3 ?_; intro v4 w4 hown4 hg4; have hB4 := hB3.grown hg4 hB3.size (fun q hq => Nat.le_trans hB1.size (hown3.lt q hq).1); have hD4 : Below w1.heap.size w3 w4 := (Below.refl _ _).grown hg4 hw3 (fun q hq => (hown3.lt q hq).1); obtain ⟨a4', c4', rfl⟩ := own_form hown4)
      | fail)
  have hL : Pairs w4 w4.heap.size .i32 .u32 (.slice a4' (h.pos.length + h.neg.length) c4') (h.pos ++ h.neg) := Pairs.own hown4
  have hLl : (h.pos ++ h.neg).length = h.pos.length + h.neg.length := List.length_append
  have HLl := Lib.hid hLl
  have hDD := (hD1.trans hD3).trans hD4
  have hq4 := keep13 hDD hz1 HQ1.out
  have hqn : w.heap.size < w4.heap.size := Nat.lt_of_lt_of_le hz1 hDD.size
  clear hLl hown3 hown4 hg3 hg4 hE1 hA1 hD1 hD3 hD4 hq67d hB3 hDD HQ1 hw3
  have HQ4 := Lib.hid hq4
  clear hq4
  go_wp2_with fail
  go_loopw [7] (fun i wr => ∃ k : Nat, k ≤ h.pos.length + h.neg.length ∧ i = .int .i64 k ∧ Below w4.heap.size w4 wr) (fun i _ => h.pos.length + h.neg.length - (intOf i).toNat)
  case atStart => exact ⟨0, Nat.zero_le _, rfl, Below.refl _ _⟩
  case round => as_aux_lemma =>
    obtain ⟨k, hk, rfl, hbel⟩ := hrel
    have hBr := hB4.trans (hbel.mono hB4.size)
    by_cases hlt : k < h.pos.length + h.neg.length
    · obtain ⟨lb, lo, rfl, hlb1, hlb2, hlc⟩ := hL.at_ (by rw [HLl.out]; omega)
      have hlt' : k < (h.pos ++ h.neg).length := by rw [HLl.out]; exact hlt
      have e1 := (hbel.cell (p := ⟨lb, lo + k * 2 + 1, none⟩) hlb1).trans (hlc k hlt').2
      clear hlc hL
      generalize (h.pos ++ h.neg)[k] = q at *
      obtain ⟨x0, x1⟩ := q
      have i0 : (0 : Int) ≤ (k : Int) := by omega
      have i1 : (k : Int) < (h.pos.length : Int) + (h.neg.length : Int) := by omega
      by_cases hbig : 1000 < x1
      · go_wp2_with fail
        go_ret2
        exact vpost_no hBr
      · go_wp2_with fail
        go_roundw
        case rel => exact ⟨k + 1, by omega, by simp, hbel⟩
        case measure => simp [intOf]; omega
    · have hkn : ¬ ((k : Int) < (h.pos.length : Int) + (h.neg.length : Int)) := by omega
      have hq5 := keep13 hbel hqn HQ4.out
      have d8 := hq5.2.2.2.2.2.2.2.2.1
      have d9 := hq5.2.2.2.2.2.2.2.2.2.1
      have HQ5 := Lib.hid hq5
      have hups := ha.ups.below hBr (Nat.le_refl _)
      have hdowns := ha.downs.below hBr (Nat.le_refl _)
      have hlu := hf.ups
      have hld := hf.downs
      clear hq5 hL
      go_wp2_with fail
      clear hlt hk hkn
      have hqr : w.heap.size < wr.heap.size := Nat.lt_of_lt_of_le hqn hbel.size
      generalize hwr : wr = w5 at *
      clear hwr
      go_loopw [8] (fun i wr => ∃ m : Nat, m ≤ h.ups.length + h.downs.length ∧ i = .int .i64 m ∧ Below w5.heap.size w5 wr) (fun i _ => h.ups.length + h.downs.length - (intOf i).toNat)
      case atStart => exact ⟨0, Nat.zero_le _, rfl, Below.refl _ _⟩
      case round => as_aux_lemma =>
        obtain ⟨m, hk, rfl, hbel5⟩ := hrel
        have hBs := hBr.trans (hbel5.mono hBr.size)
        have g8 := (hbel5.cell (p := ⟨w.heap.size, 8, none⟩) hqr).trans d8
        have g9 := (hbel5.cell (p := ⟨w.heap.size, 9, none⟩) hqr).trans d9
        by_cases hlt : m < h.ups.length + h.downs.length
        · have i0 : (0 : Int) ≤ (m : Int) := by omega
          have i1 : (m : Int) < (h.ups.length : Int) + (h.downs.length : Int) := by omega
          by_cases hp : m < h.ups.length
          · obtain ⟨sb, so, rfl, hsb1, hsb2, hsc⟩ := hups.at_ (by omega)
            have e1 := (hbel5.cell (p := ⟨sb, so + m, none⟩) (Nat.lt_trans hsb1 hqr)).trans (hsc m hp)
            have i2 : (m : Int) < (h.ups.length : Int) := by omega
            clear hsc
            generalize h.ups[m] = x at *
            by_cases hb1 : 1125899906842624 < x
            · go_wp2_with fail
              go_ret2
              exact vpost_no hBs
            · by_cases hb2 : x < -1125899906842624
              · go_wp2_with fail
                go_ret2
                exact vpost_no hBs
              · go_wp2_with fail
                go_roundw
                case rel => exact ⟨m + 1, by omega, by simp, hbel5⟩
                case measure => simp [intOf]; omega
          · obtain ⟨n, hn⟩ : ∃ n, m = h.ups.length + n := ⟨m - h.ups.length, by omega⟩
            subst hn
            have hpn : n < h.downs.length := by omega
            obtain ⟨sb, so, rfl, hsb1, hsb2, hsc⟩ := hdowns.at_ (by omega)
            have e1 := (hbel5.cell (p := ⟨sb, so + n, none⟩) (Nat.lt_trans hsb1 hqr)).trans (hsc n hpn)
            have i2 : ¬ ((h.ups.length : Int) + (n : Int) < (h.ups.length : Int)) := by omega
            have i3 : (0 : Int) ≤ (n : Int) := by omega
            have i4 : (n : Int) < (h.downs.length : Int) := by omega
            clear hsc
            generalize h.downs[n] = x at *
            by_cases hb1 : 1125899906842624 < x
            · go_wp2_with fail
              go_ret2
              exact vpost_no hBs
            · by_cases hb2 : x < -1125899906842624
              · go_wp2_with fail
                go_ret2
                exact vpost_no hBs
              · go_wp2_with fail
                go_roundw
                case rel => exact ⟨h.ups.length + n + 1, by omega, by simp, hbel5⟩
                case measure => simp [intOf]; omega
        · have hkn : ¬ ((m : Int) < (h.ups.length : Int) + (h.downs.length : Int)) := by omega
          have hq6 := keep13 hbel5 hqr HQ5.out
          have hq6' := Lib.hid hq6
          have hzr : w.heap.size < wr.heap.size := Nat.lt_of_lt_of_le hqr hbel5.size
          go_wp2_with (go_at_call 28; with_reducible (show Calls _ _ #[.slice a1 _ _, _, _, _] _ _); refine (buckets_any fl _ _ _ h.pos h.ups h.fups w.heap.size _ (ha.pos.below hBs (Nat.le_refl _)) (ha.ups.below hBs (Nat.le_refl _)) (ha.fups.below hBs (Nat.le_refl _)) hf.pos hf.ups hf.fups hw.pos).mono ?_; rintro e w6 ⟨x, rfl, ho6, hb6⟩; have hq7 := keep13 hb6 hzr hq6; have hB6 := hBs.trans (hb6.mono hBs.size); obtain ⟨ax, cx, rfl⟩ := own_form ho6; clear hq6)
          go_at_call 28
          refine (buckets_any fl _ _ _ h.neg h.downs h.fdowns w.heap.size _ (ha.neg.below hB6 (Nat.le_refl _)) (ha.downs.below hB6 (Nat.le_refl _)) (ha.fdowns.below hB6 (Nat.le_refl _)) hf.neg hf.downs hf.fdowns hw.neg).mono ?_
          rintro e w7 ⟨y, rfl, ho7, hb7⟩
          have hB7 := hB6.trans (hb7.mono hB6.size)
          have hno : ((bkts fl h.pos h.ups h.fups).2 = false ∨ (bkts fl h.neg h.downs h.fdowns).2 = false) → validH fl h = false := fun hc => by
            cases hv : validH fl h with
            | false => rfl
            | true =>
              obtain ⟨b1, b2⟩ := bkts_of_valid hw HS.out hv
              rcases hc with hc | hc
              · rw [b1] at hc; cases hc
              · rw [b2] at hc; cases hc
          have HNO := Lib.hid hno
          clear hno ho6 ho7
          generalize (bkts fl h.pos h.ups h.fups).2 = okA at *
          generalize (bkts fl h.neg h.downs h.fdowns).2 = okB at *
          cases okA
          · go_wp2
            go_ret2
            exact vpost_of hB7 (HNO.out (by simp))
          · cases okB
            · go_wp2
              go_ret2
              exact vpost_of hB7 (HNO.out (by simp))
            · go_wp2
              go_ret2
              exact vpost_no hB7
end Go.Proofs.YtbgkoapnejnfbaaDoor
