/-
  FnLabelsCompare: the walk of the law.
-/
import Derived.Test.YtapoodnjkkhggaaAlv
import Derived.Test.YtapoodnjkkhggaaSpL
namespace Go.Proofs.Ytapoodnjkkhggaa
set_option linter.unusedSimpArgs false
set_option linter.unusedVariables false
open Go.RowKit

set_option maxRecDepth 100000 in
set_option maxHeartbeats 4000000 in
theorem wCompare (va : Value) (l : List Lb) (vb : Value) (m : List Lb) (w : World) (h : Ls w va l) (g : Ls w vb m) :
    Calls Try.prog 4 #[va, vb] w fun e w' => e = .returned (.bool true) ∧ Below w.heap.size w w' := by
  have hF := fun c hc => fits10_any va l c w h hc
  have hG := fun w' (hv : Ls w' vb m) c hc => fits10_any vb m c w' hv hc
  obtain ⟨ao, cap, rfl, h1, h2⟩ := h.form
  obtain ⟨bo, bcap, rfl, g1, g2⟩ := g.form
  cases hc : (decide (l.length ≤ 2147483647) && l.all lbB)
  · have hF0 := hF false hc
    clear hF hc
    go_enter Try.func4, Try.ntmps4
    go_wp2_with (first | ((with_reducible refine hF0.mono ?_); rintro e w1 ⟨rfl, hb1⟩) | fail)
    go_ret
    exact ⟨rfl, hb1⟩
  · have hF1 := hF true hc
    clear hF hc
    cases hc : (decide (m.length ≤ 2147483647) && m.all lbB)
    · have hG0 := fun w' hv => hG w' hv false hc
      clear hG hc
      go_enter Try.func4, Try.ntmps4
      go_wp2_with (first | ((with_reducible refine hF1.mono ?_); rintro e w1 ⟨rfl, hb1⟩; have hG2 := hG0 _ (g.up hb1)) | ((with_reducible refine hG2.mono ?_); rintro e w2 ⟨rfl, hb2⟩) | fail)
      go_ret
      exact ⟨rfl, bnx hb1 hb2⟩
    · have hG1 := fun w' hv => hG w' hv true hc
      clear hG hc
      by_cases R : Right 12 600 l
      · have hR := fun w' (hv : Ls w' (.slice ao l.length cap) l) => labels_any _ l true w' hv ⟨fun _ => R, fun _ => rfl⟩
        by_cases T : Right 12 600 m
        · have hT := fun w' (hv : Ls w' (.slice bo m.length bcap) m) => labels_any _ m true w' hv ⟨fun _ => T, fun _ => rfl⟩
          have hl12 := R.1
          have hm12 := T.1
          have hC := fun w' (hv : Ls w' (.slice ao l.length cap) l) (hv' : Ls w' (.slice bo m.length bcap) m) => labelsCompare_any _ _ l m w' hv hv' R.1 T.1 (R.fit (by omega)) (T.fit (by omega)) (R.lbl (by omega) (by omega)) (T.lbl (by omega) (by omega))
          have hS := fun w' (hv : Ls w' (.slice ao l.length cap) l) => sorted_any _ l w' hv (by omega)
          have hS' := fun w' (hv : Ls w' (.slice bo m.length bcap) m) => sorted_any _ m w' hv (by omega)
          have hB := fun va vb w' h1 h2 => before_any va vb (sortL l) (sortL m) w' h1 h2 (by rw [sortL_length]; omega) (by rw [sortL_length]; omega)
          have heq : ((befP (sortL l) (sortL m)) == 0) = decide (sortL l = sortL m) := by
            by_cases e : sortL l = sortL m
            · rw [decide_eq_true e, befP_zero.2 e]; rfl
            · rw [decide_eq_false e, beq_eq_false_iff_ne]
              exact fun c => e (befP_zero.1 c)
          rw [← heq] at hC
          clear heq
          generalize befP (sortL l) (sortL m) = B at *
          clear R T
          go_enter Try.func4, Try.ntmps4
          go_wp2_with (first
            | ((with_reducible refine hF1.mono ?_); rintro e w1 ⟨rfl, hb1⟩; have hG2 := hG1 _ (g.up hb1))
            | ((with_reducible refine hG2.mono ?_); rintro e w2 ⟨rfl, hb2⟩; have hR2 := hR _ ((h.up hb1).up hb2))
            | ((with_reducible refine hR2.mono ?_); rintro e w3 ⟨rfl, hb3⟩; have hT3 := hT _ (((g.up hb1).up hb2).up hb3))
            | ((with_reducible refine hT3.mono ?_); rintro e w4 ⟨rfl, hb4⟩; have h4 := (((h.up hb1).up hb2).up hb3).up hb4; have g4 := (((g.up hb1).up hb2).up hb3).up hb4; have hC4 := hC _ h4 g4)
            | ((with_reducible refine hC4.mono ?_); rintro e w5 ⟨rfl, hb5⟩; have hS5 := hS _ (h4.up hb5))
            | ((with_reducible refine hS5.mono ?_); rintro e w6 ⟨x, rfl, ho6, hb6⟩; obtain ⟨xa, xc, rfl⟩ := own_form ho6; have hS6 := hS' _ ((g4.up hb5).up hb6))
            | ((with_reducible refine hS6.mono ?_); rintro e w7 ⟨y, rfl, ho7, hb7⟩; obtain ⟨ya, yc, rfl⟩ := own_form ho7; have hB7 := hB _ _ _ ((Ls.own ho6).up hb7) (Ls.own ho7))
            | ((with_reducible refine hB7.mono ?_); rintro e w8 ⟨rfl, hb8⟩)
            | ((with_reducible refine (alive_any _).mono ?_); rintro e w9 ⟨rfl, hb9⟩)
            | fail)
          go_ret
          exact ⟨rfl, bnx (bnx (bnx (bnx (bnx (bnx (bnx (bnx hb1 hb2) hb3) hb4) hb5) hb6) hb7) hb8) hb9⟩
        · have hT := fun w' (hv : Ls w' (.slice bo m.length bcap) m) => labels_any _ m false w' hv ⟨fun c => (by cases c), fun c => absurd c T⟩
          clear R T
          go_enter Try.func4, Try.ntmps4
          go_wp2_with (first
            | ((with_reducible refine hF1.mono ?_); rintro e w1 ⟨rfl, hb1⟩; have hG2 := hG1 _ (g.up hb1))
            | ((with_reducible refine hG2.mono ?_); rintro e w2 ⟨rfl, hb2⟩; have hR2 := hR _ ((h.up hb1).up hb2))
            | ((with_reducible refine hR2.mono ?_); rintro e w3 ⟨rfl, hb3⟩; have hT3 := hT _ (((g.up hb1).up hb2).up hb3))
            | ((with_reducible refine hT3.mono ?_); rintro e w4 ⟨rfl, hb4⟩)
            | ((with_reducible refine (alive_any _).mono ?_); rintro e w9 ⟨rfl, hb9⟩)
            | fail)
          go_ret
          exact ⟨rfl, bnx (bnx (bnx (bnx hb1 hb2) hb3) hb4) hb9⟩
      · have hR := fun w' (hv : Ls w' (.slice ao l.length cap) l) => labels_any _ l false w' hv ⟨fun c => (by cases c), fun c => absurd c R⟩
        clear R
        go_enter Try.func4, Try.ntmps4
        go_wp2_with (first
          | ((with_reducible refine hF1.mono ?_); rintro e w1 ⟨rfl, hb1⟩; have hG2 := hG1 _ (g.up hb1))
          | ((with_reducible refine hG2.mono ?_); rintro e w2 ⟨rfl, hb2⟩; have hR2 := hR _ ((h.up hb1).up hb2))
          | ((with_reducible refine hR2.mono ?_); rintro e w3 ⟨rfl, hb3⟩)
          | ((with_reducible refine (alive_any _).mono ?_); rintro e w9 ⟨rfl, hb9⟩)
          | fail)
        go_ret
        exact ⟨rfl, bnx (bnx (bnx hb1 hb2) hb3) hb9⟩
end Go.Proofs.Ytapoodnjkkhggaa
