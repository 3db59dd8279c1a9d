/-
  FnSelector: the walk of the law.
-/
import Derived.Test.YtapoodnjkkhggaaGreatSel
import Derived.Test.YtapoodnjkkhggaaGreatAlv
import Derived.Test.YtapoodnjkkhggaaGreatOpen
import Derived.ProofKit
import Derived.OpenShut
import Derived.ChangeOld
namespace Go.Proofs.YtapoodnjkkhggaaGreat
set_option linter.unusedSimpArgs false
set_option linter.unusedVariables false
open Go.RowKit

/-- a match that the law speaks of -/
def mOk (m : Mt) : Prop := (m.1 = 0 ∨ m.1 = 1) ∧ m.2.1.size ≤ 600 ∧ m.2.2.size ≤ 600
set_option maxRecDepth 100000 in
set_option maxHeartbeats 8000000 in
theorem wSelector (va : Value) (ms : List Mt) (vb : Value) (l : List Lb) (w : World) (h : Ms w va ms) (g : Ls w vb l) :
    Calls Tryz.prog 3 #[va, vb] w fun e w' => e = .returned (.bool true) ∧ Below w.heap.size w w' := by
  have hF := fun c hc => fits24_any va ms c w h hc
  have hG := fun w' (hv : Ls w' vb l) c hc => fits10_any vb l c w' hv hc
  obtain ⟨ao, cap, rfl, h1, h2⟩ := h.form
  obtain ⟨bo, bcap, rfl, g1, g2⟩ := g.form
  cases hc : (decide (ms.length ≤ 2147483647) && ms.all mtB)
  · have hF0 := hF false hc
    clear hF hc
    go_enter Tryz.func3, Tryz.ntmps3
    go_wp2_with (first | ((with_reducible refine hF0.mono ?_); rintro e w1 ⟨rfl, hb1⟩) | fail)
    go_ret
    exact ⟨rfl, hb1⟩
  · have hF1 := hF true hc
    clear hF hc
    cases hc : (decide (l.length ≤ 2147483647) && l.all lbB)
    · have hG0 := fun w' hv => hG w' hv false hc
      clear hG hc
      go_enter Tryz.func3, Tryz.ntmps3
      go_wp2_with (first | ((with_reducible refine hF1.mono ?_); rintro e w1 ⟨rfl, hb1⟩; have hG2 := hG0 _ (g.up hb1)) | ((with_reducible refine hG2.mono ?_); rintro e w2 ⟨rfl, hb2⟩) | fail)
      go_ret
      exact ⟨rfl, bnx hb1 hb2⟩
    · have hG1 := fun w' hv => hG w' hv true hc
      clear hG hc
      by_cases R : Right 12 600 l
      · have hR := fun w' (hv : Ls w' (.slice bo l.length bcap) l) => labels_any _ l true w' hv ⟨fun _ => R, fun _ => rfl⟩
        by_cases n8 : 8 < ms.length
        · have n8' : (8 : Int) < (ms.length : Int) := by omega
          clear R
          go_enter Tryz.func3, Tryz.ntmps3
          go_wp2_with (first
            | ((with_reducible refine hF1.mono ?_); rintro e w1 ⟨rfl, hb1⟩; have hG2 := hG1 _ (g.up hb1))
            | ((with_reducible refine hG2.mono ?_); rintro e w2 ⟨rfl, hb2⟩; have hR2 := hR _ ((g.up hb1).up hb2))
            | ((with_reducible refine hR2.mono ?_); rintro e w3 ⟨rfl, hb3⟩)
            | ((with_reducible refine (alive_any _).mono ?_); rintro e w9 ⟨rfl, hb9⟩)
            | fail)
          go_ret
          exact ⟨rfl, bnx (bnx (bnx hb1 hb2) hb3) hb9⟩
        · have n8' : ¬ (8 : Int) < (ms.length : Int) := by omega
          have hl12 := R.1
          have hf := R.fit (by omega)
          have hL := R.lbl (by omega) (by omega)
          have hper := fun n => look_perm R.2.2 (sortL_perm l).symm n
          have HS : Hid (∀ w', Ms w' (.slice ao ms.length cap) ms → Ls w' (.slice bo l.length bcap) l → (∀ m ∈ ms, mOk m) → Calls Tryz.prog 16 #[.slice ao ms.length cap, .slice bo l.length bcap] w' fun e w'' => e = .returned (.bool (ms.all (okM l))) ∧ Below w'.heap.size w' w'') := Lib.hid (fun w' hm hv hall => by
            have := selector_any _ ms _ l w' hm hv (fun m hm => (hall m hm).1) (by omega) R.1 hf hL
            have e : okM (sortL l) = okM l := by
              funext m
              unfold okM valS
              rw [hper]
            rw [e] at this
            exact this)
          have hV := fun n w' (hv : Ls w' (.slice bo l.length bcap) l) => valueOf_any _ l n w' hv (by omega)
          clear R hf hL hper
          go_enter Tryz.func3, Tryz.ntmps3
          go_wp2_with (first
            | ((with_reducible refine hF1.mono ?_); rintro e w1 ⟨rfl, hb1⟩; have hG2 := hG1 _ (g.up hb1))
            | ((with_reducible refine hG2.mono ?_); rintro e w2 ⟨rfl, hb2⟩; have hR2 := hR _ ((g.up hb1).up hb2))
            | ((with_reducible refine hR2.mono ?_); rintro e w3 ⟨rfl, hb3⟩)
            | fail)
          have hB3 := bnx (bnx hb1 hb2) hb3
          clear hF1 hG2 hR2 hR hG1
          go_loopw [5, 27] (fun t i wr => ∃ k : Nat, k ≤ ms.length ∧ i = .int .i64 k ∧ t = .bool ((ms.take k).all (okM l)) ∧ Hid (∀ m ∈ ms.take k, mOk m) ∧ Below w.heap.size w wr) (fun _ i _ => ms.length - (intOf i).toNat)
          case atStart => exact ⟨0, Nat.zero_le _, rfl, by simp, Lib.hid (fun m hm => by simp at hm), hB3⟩
          case round =>
            clear hB3 hb1 hb2 hb3
            obtain ⟨k, hk, rfl, rfl, hall, hbel⟩ := hrel
            have gr := g.up hbel
            by_cases hlt : k < ms.length
            · obtain ⟨b, off, rfl, hb, hcc⟩ := h.at_ (by omega)
              obtain ⟨c0, c1, c2⟩ := hcc k hlt
              have d0 := (hbel.cell (p := ⟨b, off + k * 3, none⟩) hb).trans c0
              have d1 := (hbel.cell (p := ⟨b, off + k * 3 + 1, none⟩) hb).trans c1
              have d2 := (hbel.cell (p := ⟨b, off + k * 3 + 2, none⟩) hb).trans c2
              have HA := Lib.hid (show (ms.take (k + 1)).all (okM l) = ((ms.take k).all (okM l) && okM l ms[k]) by rw [take_next hlt, List.all_append]; simp)
              have HT := Lib.hid (take_next hlt)
              clear c0 c1 c2 hcc
              generalize ms[k] = m at *
              obtain ⟨ty, nm, vl⟩ := m
              simp only at d0 d1 d2
              have i0 : (0 : Int) ≤ (k : Int) := by omega
              have i1 : (k : Int) < (ms.length : Int) := by omega
              have hbA := hbel.alloc hbel.size (.cells #[.int .i64 ty, .string nm, .string vl] IMT)
              by_cases hty : ty = 0 ∨ ty = 1
              · by_cases hn : 600 < nm.size
                · have t0 : ¬ ty < 0 := by omega
                  have t1 : ¬ 1 < ty := by omega
                  have n1 : (600 : Int) < (nm.size : Int) := by omega
                  clear hty hn
                  go_wp2_with (first | ((with_reducible refine (alive_any _).mono ?_); rintro e w9 ⟨rfl, hb9⟩) | fail)
                  go_ret
                  exact ⟨rfl, bnx hbA hb9⟩
                · by_cases hv : 600 < vl.size
                  · have t0 : ¬ ty < 0 := by omega
                    have t1 : ¬ 1 < ty := by omega
                    have n1 : ¬ (600 : Int) < (nm.size : Int) := by omega
                    have n2 : (600 : Int) < (vl.size : Int) := by omega
                    clear hty hn hv
                    go_wp2_with (first | ((with_reducible refine (alive_any _).mono ?_); rintro e w9 ⟨rfl, hb9⟩) | fail)
                    go_ret
                    exact ⟨rfl, bnx hbA hb9⟩
                  · have t0 : ¬ ty < 0 := by omega
                    have t1 : ¬ 1 < ty := by omega
                    have n1 : ¬ (600 : Int) < (nm.size : Int) := by omega
                    have n2 : ¬ (600 : Int) < (vl.size : Int) := by omega
                    have HOK : Hid (∀ x ∈ ms.take (k + 1), mOk x) := Lib.hid (by
                      rw [HT.out]
                      intro x hx
                      rcases List.mem_append.1 hx with hx | hx
                      · exact hall.out x hx
                      · simp at hx; subst hx; exact ⟨hty, by simp only; omega, by simp only; omega⟩)
                    have hBl := Blk.new wr [.int .i64 ty, .string nm, .string vl] IMT
                    have gA := gr.up (below_new wr (.cells #[.int .i64 ty, .string nm, .string vl] IMT))
                    have hSM := fun s w => specMatches_any (ty, nm, vl) s w hty
                    simp only at hSM
                    have HQ : Hid (mP (ty, nm, vl) ((look l nm).getD ⟨#[]⟩) = okM l (ty, nm, vl)) := Lib.hid rfl
                    have hVn := hV nm
                    clear hty hn hv hV
                    cases hq : (ms.take k).all (okM l)
                    · have HAk := Lib.hid (show (ms.take (k + 1)).all (okM l) = false by rw [HA.out, hq]; rfl)
                      clear hq
                      go_wp2_with fail
                      go_quiet (fail)
                      go_wp2_with fail
                      go_roundw
                      case rel => exact ⟨k + 1, by omega, by go_num, by rw [HAk.out], HOK, below_drewN hbA _⟩
                      case measure => simp [intOf]; omega
                    · have HAk := Lib.hid (show (ms.take (k + 1)).all (okM l) = mP (ty, nm, vl) ((look l nm).getD ⟨#[]⟩) by rw [HA.out, hq, HQ.out]; rfl)
                      clear hq HQ
                      generalize (look l nm).getD ⟨#[]⟩ = val at *
                      go_upto_region 11 with fail
                      generalize hWA : wr.alloc (.cells #[.int .i64 ty, .string nm, .string vl] IMT) = WA at *
                      have hS0 : WA.drew.cell? ⟨wr.heap.size, 0, none⟩ = some (.int .i64 ty) ∧ WA.drew.cell? ⟨wr.heap.size, 1, none⟩ = some (.string nm) ∧ WA.drew.cell? ⟨wr.heap.size, 2, none⟩ = some (.string vl) := ⟨hBl.cell 0, hBl.cell 1, hBl.cell 2⟩
                      have hV2 := hVn WA.drew (gA.up ((Below.refl _ _).drew))
                      go_region_held3 (fun w' => w'.cell? ⟨wr.heap.size, 0, none⟩ = some (.int .i64 ty) ∧ w'.cell? ⟨wr.heap.size, 1, none⟩ = some (.string nm) ∧ w'.cell? ⟨wr.heap.size, 2, none⟩ = some (.string vl)) (first | (with_reducible exact hS0) | (with_reducible exact hS1) | fail) (first
                        | ((with_reducible refine hV2.mono ?_); rintro e w1 ⟨rfl, rfl⟩)
                        | ((with_reducible refine (hSM _ _).mono ?_); rintro e w2 ⟨rfl, hb2⟩; have hS1 : w2.cell? ⟨wr.heap.size, 0, none⟩ = some (.int .i64 ty) ∧ w2.cell? ⟨wr.heap.size, 1, none⟩ = some (.string nm) ∧ w2.cell? ⟨wr.heap.size, 2, none⟩ = some (.string vl) := ⟨(hb2.cell (lt_of_cell hS0.1).1).trans hS0.1, (hb2.cell (lt_of_cell hS0.2.1).1).trans hS0.2.1, (hb2.cell (lt_of_cell hS0.2.2).1).trans hS0.2.2⟩)
                        | fail)
                      have hbE := hbA.drew.trans (hb2.mono (by have := hbA.size; exact this))
                      clear hS0 hS1 hV2 hSM hVn hBl gA
                      go_wp2_with fail
                      go_roundw
                      case rel => exact ⟨k + 1, by omega, by go_num, by rw [HAk.out], HOK, hbE⟩
                      case measure => simp [intOf]; omega
              · by_cases t0 : ty < 0
                · clear hty
                  go_wp2_with (first | ((with_reducible refine (alive_any _).mono ?_); rintro e w9 ⟨rfl, hb9⟩) | fail)
                  go_ret
                  exact ⟨rfl, bnx hbA hb9⟩
                · have t1 : 1 < ty := by omega
                  clear hty
                  go_wp2_with (first | ((with_reducible refine (alive_any _).mono ?_); rintro e w9 ⟨rfl, hb9⟩) | fail)
                  go_ret
                  exact ⟨rfl, bnx hbA hb9⟩
            · obtain rfl : k = ms.length := by omega
              rw [List.take_length] at hall ⊢
              have hSx := fun w' (hb : Below wr.heap.size wr w') => HS.out w' ((h.up hbel).up hb) (gr.up hb) hall.out
              generalize ms.all (okM l) = res at *
              go_wp2_with (first | ((with_reducible refine (alive_any _).mono ?_); rintro e w9 ⟨rfl, hb9⟩; have hS9 := hSx _ hb9) | ((with_reducible refine hS9.mono ?_); rintro e w10 ⟨rfl, hb10⟩) | fail)
              go_ret
              exact ⟨rfl, bnx (bnx hbel hb9) hb10⟩
      · have hR := fun w' (hv : Ls w' (.slice bo l.length bcap) l) => labels_any _ l false w' hv ⟨fun c => (by cases c), fun c => absurd c R⟩
        clear R
        go_enter Tryz.func3, Tryz.ntmps3
        go_wp2_with (first
          | ((with_reducible refine hF1.mono ?_); rintro e w1 ⟨rfl, hb1⟩; have hG2 := hG1 _ (g.up hb1))
          | ((with_reducible refine hG2.mono ?_); rintro e w2 ⟨rfl, hb2⟩; have hR2 := hR _ ((g.up hb1).up hb2))
          | ((with_reducible refine hR2.mono ?_); rintro e w3 ⟨rfl, hb3⟩)
          | ((with_reducible refine (alive_any _).mono ?_); rintro e w9 ⟨rfl, hb9⟩)
          | fail)
        go_ret
        exact ⟨rfl, bnx (bnx (bnx hb1 hb2) hb3) hb9⟩
end Go.Proofs.YtapoodnjkkhggaaGreat
