/-
  What a histogram whose lists are not too long is told to be.
-/
import Derived.Test.YtbgkoapnejnfbaaDoorWhole
namespace Go.Proofs.YtbgkoapnejnfbaaDoor
set_option linter.unusedSimpArgs false
set_option linter.unusedVariables false
open Go.RowKit
attribute [local go_sem ↓] Go.wp_at_zero Go.wp_at_succ

def FitsPost (h : Hist) (w : World) (e : Ending) (w' : World) : Prop := ∃ r, e = .returned (.bool r) ∧ (r = true → Fits h) ∧ Below w.heap.size w w'
theorem fitsPost_no {h : Hist} {w w' : World} (hb : Below w.heap.size w w') : FitsPost h w (.returned (.bool false)) w' := ⟨false, rfl, (fun hh => by cases hh), hb⟩
theorem fitsPost_yes {h : Hist} {w w' : World} (hb : Below w.heap.size w w') (hf : Fits h) : FitsPost h w (.returned (.bool true)) w' := ⟨true, rfl, (fun _ => hf), hb⟩

set_option maxRecDepth 100000 in
set_option maxHeartbeats 4000000 in
theorem fits6_any (v1 v2 v3 v4 v5 v6 v7 : Value) (h : Hist) (w : World) (ha : HistAt w w.heap.size v1 v2 v3 v4 v5 v6 v7 h) :
    Calls Tryd.prog 9 #[.agg (histCells h v1 v2 v3 v4 v5 v6 v7)] w (FitsPost h w) := by
  unfold histCells
  obtain ⟨a1, c1, rfl, f11, f12⟩ := ha.pos.form
  obtain ⟨a2, c2, rfl, f21, f22⟩ := ha.neg.form
  obtain ⟨a3, c3, rfl, f31, f32⟩ := ha.ups.form
  obtain ⟨a4, c4, rfl, f41, f42⟩ := ha.downs.form
  obtain ⟨a5, c5, rfl, f51, f52⟩ := ha.fups.form
  obtain ⟨a6, c6, rfl, f61, f62⟩ := ha.fdowns.form
  obtain ⟨a7, c7, rfl, f71, f72⟩ := ha.cus.form
  simp only [List.length_map] at *
  have hB0 : Below w.heap.size w (w.alloc (.cells #[.int .u8 h.hint, .int .i32 h.schema, .int .u64 h.thr, .int .u64 h.sum, .int .u64 h.zc, .int .u64 h.cnt, .slice a1 h.pos.length c1, .slice a2 h.neg.length c2, .slice a3 h.ups.length c3, .slice a4 h.downs.length c4, .slice a5 h.fups.length c5, .slice a6 h.fdowns.length c6, .slice a7 h.cus.length c7] 27)) := (Below.refl w.heap.size w).alloc (Nat.le_refl _) _
  clear ha
  by_cases b1 : h.pos.length ≤ 2147483647
  rotate_left
  · go_enter Tryd.func9, Tryd.ntmps9
    go_wp2
    go_ret
    exact fitsPost_no hB0
  by_cases b2 : h.neg.length ≤ 2147483647
  rotate_left
  · go_enter Tryd.func9, Tryd.ntmps9
    go_wp2
    go_ret
    exact fitsPost_no hB0
  by_cases b3 : h.ups.length ≤ 2147483647
  rotate_left
  · go_enter Tryd.func9, Tryd.ntmps9
    go_wp2
    go_ret
    exact fitsPost_no hB0
  by_cases b4 : h.downs.length ≤ 2147483647
  rotate_left
  · go_enter Tryd.func9, Tryd.ntmps9
    go_wp2
    go_ret
    exact fitsPost_no hB0
  by_cases b5 : h.fups.length ≤ 2147483647
  rotate_left
  · go_enter Tryd.func9, Tryd.ntmps9
    go_wp2
    go_ret
    exact fitsPost_no hB0
  by_cases b6 : h.fdowns.length ≤ 2147483647
  rotate_left
  · go_enter Tryd.func9, Tryd.ntmps9
    go_wp2
    go_ret
    exact fitsPost_no hB0
  by_cases b7 : h.cus.length ≤ 2147483647
  rotate_left
  · go_enter Tryd.func9, Tryd.ntmps9
    go_wp2
    go_ret
    exact fitsPost_no hB0
  go_enter Tryd.func9, Tryd.ntmps9
  go_wp2
  go_ret
  exact fitsPost_yes hB0 ⟨b1, b2, b3, b4, b5, b6, b7⟩
end Go.Proofs.YtbgkoapnejnfbaaDoor
