/-
  FnScratch: the walk of the law.
-/
import Derived.Test.YtapoodnjkkhggaaAlv
import Derived.Test.YtapoodnjkkhggaaSpL
import Derived.Test.YtapoodnjkkhggaaScr4
namespace Go.Proofs.Ytapoodnjkkhggaa
set_option linter.unusedSimpArgs false
set_option linter.unusedVariables false
open Go.RowKit

theorem scrRun0_any (o : Bool) (va : Value) (l : List Lb) (vb : Value) (m : List Lb) (w : World) (h : Ls w va l) (g : Ls w vb m) (hl : l.length ≤ 12) (hm : m.length ≤ 12) (hf : FitL l) (hg : FitL m) :
    Calls Try.prog 19 #[va, vb, .bool false, .bool o] w fun e w' => ∃ x y, e = .returned (.tuple #[x, y]) ∧ w'.ownsRow w.heap.size ILT 2 x l.length (lcells l) ∧ w'.ownsRow w.heap.size ILT 2 y m.length (lcells m) ∧ Below w.heap.size w w' := by
  cases o
  · exact scrRun_ff va l vb m w h g hl hm hf hg
  · exact scrRun_ft va l vb m w h g hl hm hf hg
theorem scrRun1_any (o : Bool) (va : Value) (l : List Lb) (vb : Value) (m : List Lb) (w : World) (h : Ls w va l) (g : Ls w vb m) (hl : l.length ≤ 12) (hm : m.length ≤ 12) (hf : FitL l) (hg : FitL m) :
    Calls Try.prog 19 #[va, vb, .bool true, .bool o] w fun e w' => ∃ x y, e = .returned (.tuple #[x, y]) ∧ w'.ownsRow w.heap.size ILT 2 x l.length (lcells (sortL l)) ∧ w'.ownsRow w.heap.size ILT 2 y m.length (lcells (sortL m)) ∧ Below w.heap.size w w' := by
  cases o
  · exact scrRun_tf va l vb m w h g hl hm hf hg
  · exact scrRun_tt va l vb m w h g hl hm hf hg
set_option maxRecDepth 100000 in
set_option maxHeartbeats 4000000 in
theorem wScratch (va : Value) (l : List Lb) (vb : Value) (m : List Lb) (s o : Bool) (w : World) (h : Ls w va l) (g : Ls w vb m) :
    Calls Try.prog 6 #[va, vb, .bool s, .bool o] w fun e w' => e = .returned (.bool true) ∧ Below w.heap.size w w' := by
  have hF := fun c hc => fits10_any va l c w h hc
  have hG := fun w' (hv : Ls w' vb m) c hc => fits10_any vb m c w' hv hc
  obtain ⟨ao, cap, rfl, h1, h2⟩ := h.form
  obtain ⟨bo, bcap, rfl, g1, g2⟩ := g.form
  cases hc : (decide (l.length ≤ 2147483647) && l.all lbB)
  · have hF0 := hF false hc
    clear hF hc
    go_enter Try.func6, Try.ntmps6
    go_wp2_with (first | ((with_reducible refine hF0.mono ?_); rintro e w1 ⟨rfl, hb1⟩) | fail)
    go_ret
    exact ⟨rfl, hb1⟩
  · have hF1 := hF true hc
    clear hF hc
    cases hc : (decide (m.length ≤ 2147483647) && m.all lbB)
    · have hG0 := fun w' hv => hG w' hv false hc
      clear hG hc
      go_enter Try.func6, Try.ntmps6
      go_wp2_with (first | ((with_reducible refine hF1.mono ?_); rintro e w1 ⟨rfl, hb1⟩; have hG2 := hG0 _ (g.up hb1)) | ((with_reducible refine hG2.mono ?_); rintro e w2 ⟨rfl, hb2⟩) | fail)
      go_ret
      exact ⟨rfl, bnx hb1 hb2⟩
    · have hG1 := fun w' hv => hG w' hv true hc
      clear hG hc
      by_cases R : Right 12 600 l
      · have hR := fun w' (hv : Ls w' (.slice ao l.length cap) l) => labels_any _ l true w' hv ⟨fun _ => R, fun _ => rfl⟩
        by_cases T : Right 12 600 m
        · have hT := fun w' (hv : Ls w' (.slice bo m.length bcap) m) => labels_any _ m true w' hv ⟨fun _ => T, fun _ => rfl⟩
          have hl12 := R.1
          have hm12 := T.1
          have hll : (sortL l).length = l.length := sortL_length l
          have hml : (sortL m).length = m.length := sortL_length m
          have hfl := R.fit (by omega)
          have hfm := T.fit (by omega)
          have el : sortL (sortL l) = sortL l := sortL_eq (sortL_asc R.2.2).uniq (sortL_asc R.2.2) (List.Perm.refl _)
          have em : sortL (sortL m) = sortL m := sortL_eq (sortL_asc T.2.2).uniq (sortL_asc T.2.2) (List.Perm.refl _)
          have hS := fun w' v (hv : Ls w' v l) => sorted_any v l w' hv (by omega)
          have hS' := fun w' v (hv : Ls w' v m) => sorted_any v m w' hv (by omega)
          have hSS := fun w' v (hv : Ls w' v (sortL l)) => sorted_any v (sortL l) w' hv (by omega)
          have hSS' := fun w' v (hv : Ls w' v (sortL m)) => sorted_any v (sortL m) w' hv (by omega)
          have hE := fun va vb w' h1 h2 => sameLabels_any va vb (sortL l) (sortL l) w' h1 h2 (by omega) (by omega)
          have hE' := fun va vb w' h1 h2 => sameLabels_any va vb (sortL m) (sortL m) w' h1 h2 (by omega) (by omega)
          rw [decide_eq_true rfl] at hE hE'
          have hX1 := fun v u w' (h1 : Ls w' v l) (h2 : Ls w' u m) => scrRun1_any o v l u m w' h1 h2 hl12 hm12 hfl hfm
          have hX0 := fun v u w' (h1 : Ls w' v (sortL l)) (h2 : Ls w' u (sortL m)) => scrRun0_any o v (sortL l) u (sortL m) w' h1 h2 (by omega) (by omega) hfl.sort hfm.sort
          rw [el] at hSS
          rw [em] at hSS'
          rw [hll] at hSS hX0
          rw [hml] at hSS' hX0
          clear R T el em hfl hfm hl12 hm12
          generalize sortL l = l1 at *
          generalize sortL m = m1 at *
          cases s
          · go_enter Try.func6, Try.ntmps6
            go_wp2_with (first
              | ((with_reducible refine hF1.mono ?_); rintro e w1 ⟨rfl, hb1⟩; have hG2 := hG1 _ (g.up hb1))
              | ((with_reducible refine hG2.mono ?_); rintro e w2 ⟨rfl, hb2⟩; have hR2 := hR _ ((h.up hb1).up hb2))
              | ((with_reducible refine hR2.mono ?_); rintro e w3 ⟨rfl, hb3⟩; have hT3 := hT _ (((g.up hb1).up hb2).up hb3))
              | ((with_reducible refine hT3.mono ?_); rintro e w4 ⟨rfl, hb4⟩; have h4 := (((h.up hb1).up hb2).up hb3).up hb4; have g4 := (((g.up hb1).up hb2).up hb3).up hb4; have hS4 := hS _ _ h4)
              | ((with_reducible refine hS4.mono ?_); rintro e w5 ⟨p, rfl, ho5, hb5⟩; obtain ⟨pa, pc, rfl⟩ := own_form ho5; have hS5 := hS' _ _ (g4.up hb5))
              | ((with_reducible refine hS5.mono ?_); rintro e w6 ⟨q, rfl, ho6, hb6⟩; obtain ⟨qa, qc, rfl⟩ := own_form ho6; have p6 := Ls.own (l := l1) (own_low ho5 hb6); have q6 := Ls.own (l := m1) ho6; have hX6 := hX0 _ _ _ p6 q6)
              | ((with_reducible refine hX6.mono ?_); rintro e w7 ⟨x, y, rfl, hx7, hy7, hb7⟩; obtain ⟨xa, xc, rfl⟩ := own_form hx7; obtain ⟨ya, yc, rfl⟩ := own_form hy7; have p7 := p6.up hb7; have q7 := q6.up hb7)
              | ((with_reducible refine (alive_any _).mono ?_); rintro e w8 ⟨rfl, hb8⟩; have p8 := p7.up hb8; have q8 := q7.up hb8; have x8 := (Ls.own (l := l1) hx7).up hb8; have y8 := (Ls.own (l := m1) hy7).up hb8; have hS8 := hSS _ _ p8)
              | ((with_reducible refine hS8.mono ?_); rintro e w9 ⟨p', rfl, ho9, hb9⟩; obtain ⟨pa', pc', rfl⟩ := own_form ho9; have hE9 := hE _ _ _ (x8.up hb9) (Ls.own ho9))
              | ((with_reducible refine hE9.mono ?_); rintro e w10 ⟨rfl, hb10⟩; have hS10 := hSS' _ _ ((q8.up hb9).up hb10))
              | ((with_reducible refine hS10.mono ?_); rintro e w11 ⟨q', rfl, ho11, hb11⟩; obtain ⟨qa', qc', rfl⟩ := own_form ho11; have hE11 := hE' _ _ _ (((y8.up hb9).up hb10).up hb11) (Ls.own ho11))
              | ((with_reducible refine hE11.mono ?_); rintro e w12 ⟨rfl, hb12⟩)
              | fail)
            go_ret
            exact ⟨rfl, bnx (bnx (bnx (bnx (bnx (bnx (bnx (bnx (bnx (bnx (bnx hb1 hb2) hb3) hb4) hb5) hb6) hb7) hb8) hb9) hb10) hb11) hb12⟩
          · go_enter Try.func6, Try.ntmps6
            go_wp2_with (first
              | ((with_reducible refine hF1.mono ?_); rintro e w1 ⟨rfl, hb1⟩; have hG2 := hG1 _ (g.up hb1))
              | ((with_reducible refine hG2.mono ?_); rintro e w2 ⟨rfl, hb2⟩; have hR2 := hR _ ((h.up hb1).up hb2))
              | ((with_reducible refine hR2.mono ?_); rintro e w3 ⟨rfl, hb3⟩; have hT3 := hT _ (((g.up hb1).up hb2).up hb3))
              | ((with_reducible refine hT3.mono ?_); rintro e w4 ⟨rfl, hb4⟩; have h4 := (((h.up hb1).up hb2).up hb3).up hb4; have g4 := (((g.up hb1).up hb2).up hb3).up hb4; have hX4 := hX1 _ _ _ h4 g4)
              | ((with_reducible refine hX4.mono ?_); rintro e w7 ⟨x, y, rfl, hx7, hy7, hb7⟩; obtain ⟨xa, xc, rfl⟩ := own_form hx7; obtain ⟨ya, yc, rfl⟩ := own_form hy7; have p7 := h4.up hb7; have q7 := g4.up hb7)
              | ((with_reducible refine (alive_any _).mono ?_); rintro e w8 ⟨rfl, hb8⟩; have p8 := p7.up hb8; have q8 := q7.up hb8; have x8 := (Ls.own (l := l1) hx7).up hb8; have y8 := (Ls.own (l := m1) hy7).up hb8; have hS8 := hS _ _ p8)
              | ((with_reducible refine hS8.mono ?_); rintro e w9 ⟨p', rfl, ho9, hb9⟩; obtain ⟨pa', pc', rfl⟩ := own_form ho9; have hE9 := hE _ _ _ (x8.up hb9) (Ls.own ho9))
              | ((with_reducible refine hE9.mono ?_); rintro e w10 ⟨rfl, hb10⟩; have hS10 := hS' _ _ ((q8.up hb9).up hb10))
              | ((with_reducible refine hS10.mono ?_); rintro e w11 ⟨q', rfl, ho11, hb11⟩; obtain ⟨qa', qc', rfl⟩ := own_form ho11; have hE11 := hE' _ _ _ (((y8.up hb9).up hb10).up hb11) (Ls.own ho11))
              | ((with_reducible refine hE11.mono ?_); rintro e w12 ⟨rfl, hb12⟩)
              | fail)
            go_ret
            exact ⟨rfl, bnx (bnx (bnx (bnx (bnx (bnx (bnx (bnx (bnx hb1 hb2) hb3) hb4) hb7) hb8) hb9) hb10) hb11) hb12⟩
        · have hT := fun w' (hv : Ls w' (.slice bo m.length bcap) m) => labels_any _ m false w' hv ⟨fun c => (by cases c), fun c => absurd c T⟩
          clear R T
          go_enter Try.func6, Try.ntmps6
          go_wp2_with (first
            | ((with_reducible refine hF1.mono ?_); rintro e w1 ⟨rfl, hb1⟩; have hG2 := hG1 _ (g.up hb1))
            | ((with_reducible refine hG2.mono ?_); rintro e w2 ⟨rfl, hb2⟩; have hR2 := hR _ ((h.up hb1).up hb2))
            | ((with_reducible refine hR2.mono ?_); rintro e w3 ⟨rfl, hb3⟩; have hT3 := hT _ (((g.up hb1).up hb2).up hb3))
            | ((with_reducible refine hT3.mono ?_); rintro e w4 ⟨rfl, hb4⟩)
            | ((with_reducible refine (alive_any _).mono ?_); rintro e w9 ⟨rfl, hb9⟩)
            | fail)
          go_ret
          exact ⟨rfl, bnx (bnx (bnx (bnx hb1 hb2) hb3) hb4) hb9⟩
      · have hR := fun w' (hv : Ls w' (.slice ao l.length cap) l) => labels_any _ l false w' hv ⟨fun c => (by cases c), fun c => absurd c R⟩
        clear R
        go_enter Try.func6, Try.ntmps6
        go_wp2_with (first
          | ((with_reducible refine hF1.mono ?_); rintro e w1 ⟨rfl, hb1⟩; have hG2 := hG1 _ (g.up hb1))
          | ((with_reducible refine hG2.mono ?_); rintro e w2 ⟨rfl, hb2⟩; have hR2 := hR _ ((h.up hb1).up hb2))
          | ((with_reducible refine hR2.mono ?_); rintro e w3 ⟨rfl, hb3⟩)
          | ((with_reducible refine (alive_any _).mono ?_); rintro e w9 ⟨rfl, hb9⟩)
          | fail)
        go_ret
        exact ⟨rfl, bnx (bnx (bnx hb1 hb2) hb3) hb9⟩
end Go.Proofs.Ytapoodnjkkhggaa
