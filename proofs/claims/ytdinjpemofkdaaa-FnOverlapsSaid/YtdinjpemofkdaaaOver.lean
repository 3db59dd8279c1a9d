/- A chunk overlaps a range, if there is a time in both. -/
import Derived.Test.YtdinjpemofkdaaaRefsLaws
namespace Go.Proofs.Ytdinjpemofkdaaa
open Go.RowKit

set_option maxRecDepth 100000 in
set_option maxHeartbeats 2000000 in
theorem fnOverlaps_walk (a b c d : Int) (_ : (Lit.int .i64 a).wf = true) (_ : (Lit.int .i64 b).wf = true) (_ : (Lit.int .i64 c).wf = true) (_ : (Lit.int .i64 d).wf = true) (w : World) :
    Calls Try.prog 6 #[.int .i64 a, .int .i64 b, .int .i64 c, .int .i64 d] w fun e w' => e = .returned (.bool true) ∧ Below w.heap.size w w' := by

  have hB := Below.refl w.heap.size w
  by_cases h1 : b < a
  · go_enter Try.func6, Try.ntmps6
    go_wp2_with (first | (go_at_call 14; refine (refAlive _).mono ?_; rintro e w1 ⟨rfl, hb1⟩; replace hB := hB.trans (hb1.mono hB.size); clear hb1))
    go_ret
    exact ⟨rfl, hB⟩
  by_cases h2 : d < c
  · go_enter Try.func6, Try.ntmps6
    go_wp2_with (first | (go_at_call 14; refine (refAlive _).mono ?_; rintro e w1 ⟨rfl, hb1⟩; replace hB := hB.trans (hb1.mono hB.size); clear hb1))
    go_ret
    exact ⟨rfl, hB⟩
  by_cases h3 : a ≤ d
  all_goals
    by_cases h4 : c ≤ b
    all_goals
      go_enter Try.func6, Try.ntmps6
      go_wp2_with (first | (go_at_call 14; refine (refAlive _).mono ?_; rintro e w1 ⟨rfl, hb1⟩; replace hB := hB.trans (hb1.mono hB.size); clear hb1) | (go_at_call 16; refine (metaOverlaps _ _ _ _ _).mono ?_; rintro e w1 ⟨rfl, hb1⟩; replace hB := hB.trans (hb1.mono hB.size); clear hb1))
      all_goals
        go_ret
        exact ⟨eqi (by simp <;> omega), hB⟩
end Go.Proofs.Ytdinjpemofkdaaa
