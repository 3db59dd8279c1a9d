/-
  FnLabelsAsk: the walk of the law.
-/
import Derived.Test.YtapoodnjkkhggaaAlv
import Derived.Test.YtapoodnjkkhggaaSpL
namespace Go.Proofs.Ytapoodnjkkhggaa
set_option linter.unusedSimpArgs false
set_option linter.unusedVariables false
open Go.RowKit

set_option maxRecDepth 100000 in
set_option maxHeartbeats 4000000 in
theorem wAsk (v : Value) (l : List Lb) (n : ByteArray) (w : World) (h : Ls w v l) (hn : n.size ≤ 140737488351232) :
    Calls Try.prog 3 #[v, .string n] w fun e w' => e = .returned (.bool true) ∧ Below w.heap.size w w' := by
  have hF := fun c hc => fits10_any v l c w h hc
  obtain ⟨ao, cap, rfl, h1, h2⟩ := h.form
  cases hc : (decide (l.length ≤ 2147483647) && l.all lbB)
  · have hF0 := hF false hc
    clear hF hc
    go_enter Try.func3, Try.ntmps3
    go_wp2_with (first | ((with_reducible refine hF0.mono ?_); rintro e w1 ⟨rfl, hb1⟩) | fail)
    go_ret
    exact ⟨rfl, hb1⟩
  · have hF1 := hF true hc
    clear hF hc
    by_cases n1 : 2147483647 < n.size
    · have n1' : (2147483647 : Int) < (n.size : Int) := by omega
      go_enter Try.func3, Try.ntmps3
      go_wp2_with (first | ((with_reducible refine hF1.mono ?_); rintro e w1 ⟨rfl, hb1⟩) | fail)
      go_ret
      exact ⟨rfl, hb1⟩
    · have n1' : ¬ (2147483647 : Int) < (n.size : Int) := by omega
      by_cases R : Right 12 600 l
      · have hR := fun w' (hv : Ls w' (.slice ao l.length cap) l) => labels_any _ l true w' hv ⟨fun _ => R, fun _ => rfl⟩
        by_cases n2 : 600 < n.size
        · have n2' : (600 : Int) < (n.size : Int) := by omega
          go_enter Try.func3, Try.ntmps3
          go_wp2_with (first | ((with_reducible refine hF1.mono ?_); rintro e w1 ⟨rfl, hb1⟩; have hR1 := hR _ (h.up hb1)) | ((with_reducible refine hR1.mono ?_); rintro e w2 ⟨rfl, hb2⟩) | ((with_reducible refine (alive_any _).mono ?_); rintro e w3 ⟨rfl, hb3⟩) | fail)
          go_ret
          exact ⟨rfl, bnx (bnx hb1 hb2) hb3⟩
        · have n2' : ¬ (600 : Int) < (n.size : Int) := by omega
          have hl12 := R.1
          have hA := fun w' (hv : Ls w' (.slice ao l.length cap) l) => ask_any _ l n w' hv R.1 (R.fit (by omega)) (R.lbl (by omega) (by omega))
          have hV := fun w' (hv : Ls w' (.slice ao l.length cap) l) => valueOf_any _ l n w' hv (by omega)
          have hFi := fun w' (hv : Ls w' (.slice ao l.length cap) l) => find_any _ l n w' hv (by omega)
          rw [← look_perm R.2.2 (sortL_perm l).symm n] at hA
          rcases findI_look l n with ⟨k, hk, e1, e2⟩ | ⟨e1, e2⟩
          · rw [e2] at hA hV
            rw [e1] at hFi
            have k0 : (0 : Int) ≤ (k : Int) := by omega
            clear e1 e2 n1 n2
            generalize l[k].2 = val at *
            clear hk R
            go_enter Try.func3, Try.ntmps3
            go_wp2_with (first
              | ((with_reducible refine hF1.mono ?_); rintro e w1 ⟨rfl, hb1⟩; have hR1 := hR _ (h.up hb1))
              | ((with_reducible refine hR1.mono ?_); rintro e w2 ⟨rfl, hb2⟩; have hA2 := hA _ ((h.up hb1).up hb2))
              | ((with_reducible refine hA2.mono ?_); rintro e w3 ⟨rfl, hb3⟩)
              | ((with_reducible refine (alive_any _).mono ?_); rintro e w4 ⟨rfl, hb4⟩; have hl4 := (((h.up hb1).up hb2).up hb3).up hb4; have hV4 := hV _ hl4; have hFi4 := hFi _ hl4)
              | ((with_reducible refine hV4.mono ?_); rintro e w5 ⟨rfl, rfl⟩)
              | ((with_reducible refine hFi4.mono ?_); rintro e w6 ⟨rfl, rfl⟩)
              | fail)
            go_ret
            exact ⟨rfl, bnx (bnx (bnx hb1 hb2) hb3) hb4⟩
          · rw [e2] at hA hV
            rw [e1] at hFi
            clear e1 e2 n1 n2 R
            go_enter Try.func3, Try.ntmps3
            go_wp2_with (first
              | ((with_reducible refine hF1.mono ?_); rintro e w1 ⟨rfl, hb1⟩; have hR1 := hR _ (h.up hb1))
              | ((with_reducible refine hR1.mono ?_); rintro e w2 ⟨rfl, hb2⟩; have hA2 := hA _ ((h.up hb1).up hb2))
              | ((with_reducible refine hA2.mono ?_); rintro e w3 ⟨rfl, hb3⟩)
              | ((with_reducible refine (alive_any _).mono ?_); rintro e w4 ⟨rfl, hb4⟩; have hl4 := (((h.up hb1).up hb2).up hb3).up hb4; have hV4 := hV _ hl4; have hFi4 := hFi _ hl4)
              | ((with_reducible refine hV4.mono ?_); rintro e w5 ⟨rfl, rfl⟩)
              | ((with_reducible refine hFi4.mono ?_); rintro e w6 ⟨rfl, rfl⟩)
              | fail)
            go_ret
            exact ⟨rfl, bnx (bnx (bnx hb1 hb2) hb3) hb4⟩
      · have hR := fun w' (hv : Ls w' (.slice ao l.length cap) l) => labels_any _ l false w' hv ⟨fun c => (by cases c), fun c => absurd c R⟩
        clear R
        go_enter Try.func3, Try.ntmps3
        go_wp2_with (first | ((with_reducible refine hF1.mono ?_); rintro e w1 ⟨rfl, hb1⟩; have hR1 := hR _ (h.up hb1)) | ((with_reducible refine hR1.mono ?_); rintro e w2 ⟨rfl, hb2⟩) | ((with_reducible refine (alive_any _).mono ?_); rintro e w3 ⟨rfl, hb3⟩) | fail)
        go_ret
        exact ⟨rfl, bnx (bnx hb1 hb2) hb3⟩
end Go.Proofs.Ytapoodnjkkhggaa
