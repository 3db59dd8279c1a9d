/-
  A float histogram of the package is turned back into data.
-/
import Derived.Test.YtbgkoapnejnfbaaDoorUnwhole
namespace Go.Proofs.YtbgkoapnejnfbaaDoor
set_option linter.unusedSimpArgs false
set_option linter.unusedVariables false
open Go.RowKit
attribute [local go_sem ↓] Go.wp_at_zero Go.wp_at_succ
attribute [local go_sem] cell_there frozen_there

set_option maxRecDepth 100000 in
set_option maxHeartbeats 16000000 in
theorem unbroken_any (b : Nat) (x1 x2 x3 x4 x5 : Value) (h : Hist) (w : World) (hc : w.cell? ⟨b, 0, none⟩ = some (.int .u8 h.hint) ∧ w.cell? ⟨b, 1, none⟩ = some (.int .i32 h.schema) ∧ w.cell? ⟨b, 2, none⟩ = some (.float .f64 h.thr) ∧ w.cell? ⟨b, 3, none⟩ = some (.float .f64 h.zc) ∧ w.cell? ⟨b, 4, none⟩ = some (.float .f64 h.cnt) ∧ w.cell? ⟨b, 5, none⟩ = some (.float .f64 h.sum) ∧ w.cell? ⟨b, 6, none⟩ = some (x1) ∧ w.cell? ⟨b, 7, none⟩ = some (x2) ∧ w.cell? ⟨b, 8, none⟩ = some (x3) ∧ w.cell? ⟨b, 9, none⟩ = some (x4) ∧ w.cell? ⟨b, 10, none⟩ = some (x5))
    (p1 : Pairs w w.heap.size .i32 .u32 x1 h.pos) (p2 : Pairs w w.heap.size .i32 .u32 x2 h.neg) (p3 : Floats w w.heap.size x3 h.fups) (p4 : Floats w w.heap.size x4 h.fdowns) (p5 : Floats w w.heap.size x5 h.cus) (hf : Fits h) (hbs : b < w.heap.size) :
    Calls Tryd.prog 38 #[.pointer (some ⟨b, 0, none⟩)] w fun e w' => ∃ y1 y2 y3 y4 y5 y6 y7, e = .returned (.agg (histCells ({ h with ups := [], downs := [] }) y1 y2 y3 y4 y5 y6 y7)) ∧
      Fresh w.heap.size w' y1 y2 y3 y4 y5 y6 y7 ({ h with ups := [], downs := [] }) ∧ Below w.heap.size w w' := by
  obtain ⟨z1, d1, rfl, f11, f12⟩ := p1.form
  obtain ⟨z2, d2, rfl, f21, f22⟩ := p2.form
  obtain ⟨z3, d3, rfl, f31, f32⟩ := p3.form
  obtain ⟨z4, d4, rfl, f41, f42⟩ := p4.form
  obtain ⟨z5, d5, rfl, f51, f52⟩ := p5.form
  go_enter Tryd.func38, Tryd.ntmps38
  go_wp2_with fail
  have hB0 := ((Below.refl w.heap.size w).alloc (Nat.le_refl _) (.cells #[.int .u8 0, .int .i32 0, .int .u64 0, .int .u64 0, .int .u64 0, .int .u64 0, .slice none 0 0, .slice none 0 0, .slice none 0 0, .slice none 0 0, .slice none 0 0, .slice none 0 0, .slice none 0 0] 27)).drew
  have hc0 := keepAll hB0 hbs hc
  have hs0 : w.heap.size < (w.alloc (.cells #[.int .u8 0, .int .i32 0, .int .u64 0, .int .u64 0, .int .u64 0, .int .u64 0, .slice none 0 0, .slice none 0 0, .slice none 0 0, .slice none 0 0, .slice none 0 0, .slice none 0 0, .slice none 0 0] 27)).drew.heap.size := by simp
  have hk0 : There13 (w.alloc (.cells #[.int .u8 0, .int .i32 0, .int .u64 0, .int .u64 0, .int .u64 0, .int .u64 0, .slice none 0 0, .slice none 0 0, .slice none 0 0, .slice none 0 0, .slice none 0 0, .slice none 0 0, .slice none 0 0] 27)).drew w.heap.size := ⟨_, heap_alloc_new w _, rfl⟩
  generalize hbb : w.heap.size = bb at hB0 hc0 hs0 hk0
  generalize w.alloc _ = W at *
  subst hbb
  go_region_held3 (fun w' => w'.cell? ⟨b, 0, none⟩ = some (.int .u8 h.hint) ∧ w'.cell? ⟨b, 1, none⟩ = some (.int .i32 h.schema) ∧ w'.cell? ⟨b, 2, none⟩ = some (.float .f64 h.thr) ∧ w'.cell? ⟨b, 3, none⟩ = some (.float .f64 h.zc) ∧ w'.cell? ⟨b, 4, none⟩ = some (.float .f64 h.cnt) ∧ w'.cell? ⟨b, 5, none⟩ = some (.float .f64 h.sum) ∧ w'.cell? ⟨b, 6, none⟩ = some (.slice z1 h.pos.length d1) ∧ w'.cell? ⟨b, 7, none⟩ = some (.slice z2 h.neg.length d2) ∧ w'.cell? ⟨b, 8, none⟩ = some (.slice z3 h.fups.length d3) ∧ w'.cell? ⟨b, 9, none⟩ = some (.slice z4 h.fdowns.length d4) ∧ w'.cell? ⟨b, 10, none⟩ = some (.slice z5 h.cus.length d5) ∧ There13 w' w.heap.size) (first | (with_reducible assumption) | (with_reducible exact keep12c hbs _ _ _ _ _ _ _ _ _ _ _ _ _ (by assumption)) | exact keep12 hb5 (by omega) (by omega) (by assumption) | exact keep12 hb4 (by omega) (by omega) (by assumption) | exact keep12 hb3 (by omega) (by omega) (by assumption) | exact keep12 hb2 (by omega) (by omega) (by assumption) | exact keep12 hb1 (by omega) (by omega) (by assumption) | go_keep)
    (first
      | (go_at_call 89; refine (bitsOf_any _ _).mono ?_; rintro e w' ⟨rfl, rfl⟩)
      | (go_at_call 90; with_reducible (show Calls _ _ #[.slice z1 _ _] _ _); refine (unspans_any _ h.pos w.heap.size _ (p1.below hB0 (Nat.le_refl _)) hf.pos).mono ?_; rintro e w1 ⟨y1, rfl, ho1, hb1, hn1⟩; obtain ⟨a1, c1, rfl⟩ := own_form ho1; have hB1 := hB0.trans (hb1.mono hB0.size); have hz1 := hb1.size; have o1 := OwnIn.made ho1 hz1; have hk1 := hk0.below hb1 (by omega))
      | (go_at_call 90; with_reducible (show Calls _ _ #[.slice z2 _ _] _ _); refine (unspans_any _ h.neg w.heap.size _ (p2.below hB1 (Nat.le_refl _)) hf.neg).mono ?_; rintro e w2 ⟨y2, rfl, ho2, hb2, hn2⟩; obtain ⟨a2, c2, rfl⟩ := own_form ho2; have hB2 := hB1.trans (hb2.mono hB1.size); have hz2 := hb2.size; have o2 := OwnIn.made ho2 hz2; have hk2 := hk1.below hb2 (by omega); replace o1 := o1.below hb2 (by omega))
      | (go_at_call 91; with_reducible (show Calls _ _ #[.slice z3 _ _] _ _); refine (bits_any _ h.fups w.heap.size _ (p3.below hB2 (Nat.le_refl _)) hf.fups).mono ?_; rintro e w3 ⟨y3, rfl, ho3, hb3, hn3⟩; obtain ⟨a3, c3, rfl⟩ := own_form ho3; have hB3 := hB2.trans (hb3.mono hB2.size); have hz3 := hb3.size; have o3 := OwnIn.made ho3 hz3; have hk3 := hk2.below hb3 (by omega); replace o1 := o1.below hb3 (by omega); replace o2 := o2.below hb3 (by omega))
      | (go_at_call 91; with_reducible (show Calls _ _ #[.slice z4 _ _] _ _); refine (bits_any _ h.fdowns w.heap.size _ (p4.below hB3 (Nat.le_refl _)) hf.fdowns).mono ?_; rintro e w4 ⟨y4, rfl, ho4, hb4, hn4⟩; obtain ⟨a4, c4, rfl⟩ := own_form ho4; have hB4 := hB3.trans (hb4.mono hB3.size); have hz4 := hb4.size; have o4 := OwnIn.made ho4 hz4; have hk4 := hk3.below hb4 (by omega); replace o1 := o1.below hb4 (by omega); replace o2 := o2.below hb4 (by omega); replace o3 := o3.below hb4 (by omega))
      | (go_at_call 91; with_reducible (show Calls _ _ #[.slice z5 _ _] _ _); refine (bits_any _ h.cus w.heap.size _ (p5.below hB4 (Nat.le_refl _)) hf.cus).mono ?_; rintro e w5 ⟨y5, rfl, ho5, hb5, hn5⟩; obtain ⟨a5, c5, rfl⟩ := own_form ho5; have hB5 := hB4.trans (hb5.mono hB4.size); have hz5 := hb5.size; have o5 := OwnIn.made ho5 hz5; have hk5 := hk4.below hb5 (by omega); replace o1 := o1.below hb5 (by omega); replace o2 := o2.below hb5 (by omega); replace o3 := o3.below hb5 (by omega); replace o4 := o4.below hb5 (by omega)))
  have hr := cells_13 hk5 (.int .u8 h.hint) (.int .i32 h.schema) (.int .u64 h.thr) (.int .u64 h.sum) (.int .u64 h.zc) (.int .u64 h.cnt) (.slice a1 h.pos.length c1) (.slice a2 h.neg.length c2) (.slice none 0 0) (.slice none 0 0) (.slice a3 h.fups.length c3) (.slice a4 h.fdowns.length c4) (.slice a5 h.cus.length c5)
  have hB6 := below_13 hB5 (.int .u8 h.hint) (.int .i32 h.schema) (.int .u64 h.thr) (.int .u64 h.sum) (.int .u64 h.zc) (.int .u64 h.cnt) (.slice a1 h.pos.length c1) (.slice a2 h.neg.length c2) (.slice none 0 0) (.slice none 0 0) (.slice a3 h.fups.length c3) (.slice a4 h.fdowns.length c4) (.slice a5 h.cus.length c5)
  replace o1 := o1.row13 hs0 (.int .u8 h.hint) (.int .i32 h.schema) (.int .u64 h.thr) (.int .u64 h.sum) (.int .u64 h.zc) (.int .u64 h.cnt) (.slice a1 h.pos.length c1) (.slice a2 h.neg.length c2) (.slice none 0 0) (.slice none 0 0) (.slice a3 h.fups.length c3) (.slice a4 h.fdowns.length c4) (.slice a5 h.cus.length c5)
  replace o2 := o2.row13 (Nat.lt_of_lt_of_le hs0 (by omega)) (.int .u8 h.hint) (.int .i32 h.schema) (.int .u64 h.thr) (.int .u64 h.sum) (.int .u64 h.zc) (.int .u64 h.cnt) (.slice a1 h.pos.length c1) (.slice a2 h.neg.length c2) (.slice none 0 0) (.slice none 0 0) (.slice a3 h.fups.length c3) (.slice a4 h.fdowns.length c4) (.slice a5 h.cus.length c5)
  replace o3 := o3.row13 (Nat.lt_of_lt_of_le hs0 (by omega)) (.int .u8 h.hint) (.int .i32 h.schema) (.int .u64 h.thr) (.int .u64 h.sum) (.int .u64 h.zc) (.int .u64 h.cnt) (.slice a1 h.pos.length c1) (.slice a2 h.neg.length c2) (.slice none 0 0) (.slice none 0 0) (.slice a3 h.fups.length c3) (.slice a4 h.fdowns.length c4) (.slice a5 h.cus.length c5)
  replace o4 := o4.row13 (Nat.lt_of_lt_of_le hs0 (by omega)) (.int .u8 h.hint) (.int .i32 h.schema) (.int .u64 h.thr) (.int .u64 h.sum) (.int .u64 h.zc) (.int .u64 h.cnt) (.slice a1 h.pos.length c1) (.slice a2 h.neg.length c2) (.slice none 0 0) (.slice none 0 0) (.slice a3 h.fups.length c3) (.slice a4 h.fdowns.length c4) (.slice a5 h.cus.length c5)
  replace o5 := o5.row13 (Nat.lt_of_lt_of_le hs0 (by omega)) (.int .u8 h.hint) (.int .i32 h.schema) (.int .u64 h.thr) (.int .u64 h.sum) (.int .u64 h.zc) (.int .u64 h.cnt) (.slice a1 h.pos.length c1) (.slice a2 h.neg.length c2) (.slice none 0 0) (.slice none 0 0) (.slice a3 h.fups.length c3) (.slice a4 h.fdowns.length c4) (.slice a5 h.cus.length c5)
  clear hB0 hB1 hB2 hB3 hB4 hB5 ho1 ho2 ho3 ho4 ho5 hb1 hb2 hb3 hb4 hb5 hc hc0
  generalize w5.setCell _ _ = q1 at *
  generalize q1.setCell _ _ = q2 at *
  generalize q2.setCell _ _ = q3 at *
  generalize q3.setCell _ _ = q4 at *
  generalize q4.setCell _ _ = q5 at *
  generalize q5.setCell _ _ = q6 at *
  generalize q6.setCell _ _ = q7 at *
  generalize q7.setCell _ _ = q8 at *
  generalize q8.setCell _ _ = q9 at *
  generalize q9.setCell _ _ = q10 at *
  generalize q10.setCell _ _ = q11 at *
  generalize q11.setCell _ _ = q12 at *
  generalize q12.setCell _ _ = q13 at *
  clear q1 q2 q3 q4 q5 q6 q7 q8 q9 q10 q11 q12
  go_wp2
  refine bodyPost_ret (v := .agg #[.int .u8 h.hint, .int .i32 h.schema, .int .u64 h.thr, .int .u64 h.sum, .int .u64 h.zc, .int .u64 h.cnt, .slice a1 h.pos.length c1, .slice a2 h.neg.length c2, .slice none 0 0, .slice none 0 0, .slice a3 h.fups.length c3, .slice a4 h.fdowns.length c4, .slice a5 h.cus.length c5]) (by simp [results, Tryd.results38, go_sem, hr]) rfl ⟨_, _, _, _, _, _, _, rfl, fun w'' hkk _ => ⟨Pairs.own (own_above o1.own fun k hk => hkk k (by omega)), Pairs.own (own_above o2.own fun k hk => hkk k (by omega)), Sl.nil _ _ _ _, Sl.nil _ _ _ _, Ints.own (by rw [map_nat]; exact own_above o3.own fun k hk => hkk k (by omega)), Ints.own (by rw [map_nat]; exact own_above o4.own fun k hk => hkk k (by omega)), Ints.own (by rw [map_nat]; exact own_above o5.own fun k hk => hkk k (by omega))⟩, hB6⟩
end Go.Proofs.YtbgkoapnejnfbaaDoor
