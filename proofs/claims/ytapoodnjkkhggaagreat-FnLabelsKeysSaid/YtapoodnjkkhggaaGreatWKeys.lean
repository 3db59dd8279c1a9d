/-
  FnLabelsKeys: the walks joined.
-/
import Derived.Test.YtapoodnjkkhggaaGreatWK0
import Derived.Test.YtapoodnjkkhggaaGreatWK1
import Derived.Test.YtapoodnjkkhggaaGreatWK2
namespace Go.Proofs.YtapoodnjkkhggaaGreat
set_option linter.unusedSimpArgs false
set_option linter.unusedVariables false
open Go.RowKit

theorem wKeys (va : Value) (l : List Lb) (vb : Value) (m : List Lb) (z : Int) (vu : Value) (names : List ByteArray) (w : World) (h : Ls w va l) (g : Ls w vb m) (hz : (Lit.int .u8 z).wf = true) (k : Strs w vu names) :
    Calls Tryz.prog 4 #[va, vb, .int .u8 z, vu] w fun e w' => e = .returned (.bool true) ∧ Below w.heap.size w w' := by
  obtain ⟨y, rfl, hy⟩ := rngU8 hz
  have hF := fun c hc => fits10_any va l c w h hc
  have hG := fun w' (hv : Ls w' vb m) c hc => fits10_any vb m c w' hv hc
  have hH := fun w' (hv : Strs w' vu names) c hc => fits13_any vu names c w' hv hc
  obtain ⟨ao, cap, rfl, h1, h2⟩ := h.form
  obtain ⟨bo, bcap, rfl, g1, g2⟩ := g.form
  obtain ⟨uo, ucap, rfl, k1, k2⟩ := k.form
  cases c0 : (decide (l.length ≤ 2147483647) && l.all lbB)
  · exact wKeys_o0 ao cap l bo bcap m y uo ucap names w h g hy k (hF false c0)
  have C0 := hF true c0
  cases c1 : (decide (m.length ≤ 2147483647) && m.all lbB)
  · exact wKeys_o1 ao cap l bo bcap m y uo ucap names w h g hy k C0 (fun w' hv => hG w' hv false c1)
  have C1 := fun w' hv => hG w' hv true c1
  cases c2 : (decide (names.length ≤ 2147483647) && names.all strB)
  · exact wKeys_o2 ao cap l bo bcap m y uo ucap names w h g hy k C0 C1 (fun w' hv => hH w' hv false c2)
  have C2 := fun w' hv => hH w' hv true c2
  by_cases R : Right 12 600 l
  case neg => exact wKeys_o3 ao cap l bo bcap m y uo ucap names w h g hy k C0 C1 C2 (fun w' hv => labels_any _ l false w' hv ⟨fun c => (by cases c), fun c => absurd c R⟩)
  have C3 := fun w' (hv : Ls w' (.slice ao l.length cap) l) => labels_any _ l true w' hv ⟨fun _ => R, fun _ => rfl⟩
  by_cases Q : Right 12 600 m
  case neg => exact wKeys_o4 ao cap l bo bcap m y uo ucap names w h g hy k C0 C1 C2 C3 (fun w' hv => labels_any _ m false w' hv ⟨fun c => (by cases c), fun c => absurd c Q⟩)
  have C4 := fun w' (hv : Ls w' (.slice bo m.length bcap) m) => labels_any _ m true w' hv ⟨fun _ => Q, fun _ => rfl⟩
  cases c5 : (decide (names.length ≤ 12) && names.all (nmB 600))
  · exact wKeys_o5 ao cap l bo bcap m y uo ucap names w h g hy k C0 C1 C2 C3 C4 (fun w' hv => namesRight_any _ names 12 600 false w' hv c5 (by omega) (by omega))
  have C5 := fun w' (hv : Strs w' (.slice uo names.length ucap) names) => namesRight_any _ names 12 600 true w' hv c5 (by omega) (by omega)
  have hn : names.length ≤ 12 := of_decide_eq_true (Bool.and_eq_true_iff.1 c5).1
  by_cases hN : Rise names
  case neg => exact wKeys_o6 ao cap l bo bcap m y uo ucap names w h g hy k C0 C1 C2 C3 C4 C5 (fun w' hv => rising_any _ names false w' hv ⟨fun c => (by cases c), fun c => absurd c hN⟩ (by omega))
  have C6 := fun w' (hv : Strs w' (.slice uo names.length ucap) names) => rising_any _ names true w' hv ⟨fun _ => hN, fun _ => rfl⟩ (by omega)
  have hl := R.1
  have hm := Q.1
  have C7 := fun w' (hv : Ls w' (.slice ao l.length cap) l) => find_any _ l (⟨#[95, 95, 110, 97, 109, 101, 95, 95]⟩ : ByteArray) w' hv (by omega)
  by_cases q7 : 0 ≤ findI l (⟨#[95, 95, 110, 97, 109, 101, 95, 95]⟩ : ByteArray)
  · exact wKeys_o7 ao cap l bo bcap m y uo ucap names w h g hy k C0 C1 C2 C3 C4 C5 C6 _ q7 C7
  have C8 := fun w' (hv : Ls w' (.slice bo m.length bcap) m) => find_any _ m (⟨#[95, 95, 110, 97, 109, 101, 95, 95]⟩ : ByteArray) w' hv (by omega)
  by_cases q8 : 0 ≤ findI m (⟨#[95, 95, 110, 97, 109, 101, 95, 95]⟩ : ByteArray)
  · exact wKeys_o8 ao cap l bo bcap m y uo ucap names w h g hy k C0 C1 C2 C3 C4 C5 C6 _ q7 C7 _ q8 C8
  have C9 := fun w' (hv : Strs w' (.slice uo names.length ucap) names) => among_any _ names (⟨#[95, 95, 110, 97, 109, 101, 95, 95]⟩ : ByteArray) w' hv (by omega)
  cases c9 : amg names (⟨#[95, 95, 110, 97, 109, 101, 95, 95]⟩ : ByteArray)
  case true =>
    rw [c9] at C9
    exact wKeys_o9 ao cap l bo bcap m y uo ucap names w h g hy k C0 C1 C2 C3 C4 C5 C6 _ q7 C7 _ q8 C8 C9
  rw [c9] at C9
  have hr : y % 3 = 0 ∨ y % 3 = 1 ∨ y % 3 = 2 := by omega
  rcases hr with hr | hr | hr
  · exact wKeys_t0 ao cap l bo bcap m y uo ucap names w h g hy k C0 C1 C2 C3 C4 C5 C6 _ q7 C7 _ q8 C8 C9 hr R Q hN hn
  · exact wKeys_t1 ao cap l bo bcap m y uo ucap names w h g hy k C0 C1 C2 C3 C4 C5 C6 _ q7 C7 _ q8 C8 C9 hr R Q hN hn
  · exact wKeys_t2 ao cap l bo bcap m y uo ucap names w h g hy k C0 C1 C2 C3 C4 C5 C6 _ q7 C7 _ q8 C8 C9 hr R Q hN hn
end Go.Proofs.YtapoodnjkkhggaaGreat
