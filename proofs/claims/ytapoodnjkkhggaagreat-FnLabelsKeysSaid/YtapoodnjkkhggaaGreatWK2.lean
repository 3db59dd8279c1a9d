/-
  FnLabelsKeys: the walk of the law (printed by gen_wkeys.py).
-/
import Derived.Test.YtapoodnjkkhggaaGreatAlv
import Derived.Test.YtapoodnjkkhggaaGreatSpL
import Derived.Test.YtapoodnjkkhggaaGreatSpS
import Derived.Test.YtapoodnjkkhggaaGreatSrt
import Derived.Test.YtapoodnjkkhggaaGreatLKey
import Derived.Test.YtapoodnjkkhggaaGreatWKh
namespace Go.Proofs.YtapoodnjkkhggaaGreat
set_option linter.unusedSimpArgs false
set_option linter.unusedVariables false
open Go.RowKit

set_option maxRecDepth 100000 in
set_option maxHeartbeats 16000000 in
theorem wKeys_t2 (ao : Option Addr) (cap : Nat) (l : List Lb) (bo : Option Addr) (bcap : Nat) (m : List Lb) (y : Nat) (uo : Option Addr) (ucap : Nat) (names : List ByteArray) (w : World) (h : Ls w (.slice ao l.length cap) l) (g : Ls w (.slice bo m.length bcap) m) (hy : y ≤ 255) (k : Strs w (.slice uo names.length ucap) names) (C0 : Calls Tryz.prog 11 #[.slice ao l.length cap] w fun e w'' => e = .returned (.bool true) ∧ Below w.heap.size w w'') (C1 : ∀ w', Ls w' (.slice bo m.length bcap) m → Calls Tryz.prog 11 #[.slice bo m.length bcap] w' fun e w'' => e = .returned (.bool true) ∧ Below w'.heap.size w' w'') (C2 : ∀ w', Strs w' (.slice uo names.length ucap) names → Calls Tryz.prog 17 #[.slice uo names.length ucap] w' fun e w'' => e = .returned (.bool true) ∧ Below w'.heap.size w' w'') (C3 : ∀ w', Ls w' (.slice ao l.length cap) l → Calls Tryz.prog 12 #[.slice ao l.length cap] w' fun e w'' => e = .returned (.bool true) ∧ Below w'.heap.size w' w'') (C4 : ∀ w', Ls w' (.slice bo m.length bcap) m → Calls Tryz.prog 12 #[.slice bo m.length bcap] w' fun e w'' => e = .returned (.bool true) ∧ Below w'.heap.size w' w'') (C5 : ∀ w', Strs w' (.slice uo names.length ucap) names → Calls Tryz.prog 18 #[.slice uo names.length ucap, .int .i64 12, .int .i64 600] w' fun e w'' => e = .returned (.bool true) ∧ w' = w'') (C6 : ∀ w', Strs w' (.slice uo names.length ucap) names → Calls Tryz.prog 19 #[.slice uo names.length ucap] w' fun e w'' => e = .returned (.bool true) ∧ Below w'.heap.size w' w'') (F7 : Int) (q7 : ¬ 0 ≤ F7) (C7 : ∀ w', Ls w' (.slice ao l.length cap) l → Calls Tryz.prog 20 #[.slice ao l.length cap, .string (⟨#[95, 95, 110, 97, 109, 101, 95, 95]⟩ : ByteArray)] w' fun e w'' => e = .returned (.int .i64 F7) ∧ w' = w'') (F8 : Int) (q8 : ¬ 0 ≤ F8) (C8 : ∀ w', Ls w' (.slice bo m.length bcap) m → Calls Tryz.prog 20 #[.slice bo m.length bcap, .string (⟨#[95, 95, 110, 97, 109, 101, 95, 95]⟩ : ByteArray)] w' fun e w'' => e = .returned (.int .i64 F8) ∧ w' = w'') (C9 : ∀ w', Strs w' (.slice uo names.length ucap) names → Calls Tryz.prog 21 #[.slice uo names.length ucap, .string (⟨#[95, 95, 110, 97, 109, 101, 95, 95]⟩ : ByteArray)] w' fun e w'' => e = .returned (.bool false) ∧ w' = w'') (hr : y % 3 = 2) (R : Right 12 600 l) (Q : Right 12 600 m) (hN : Rise names) (hn : names.length ≤ 12) :
    Calls Tryz.prog 4 #[.slice ao l.length cap, .slice bo m.length bcap, .int .u8 y, .slice uo names.length ucap] w fun e w' => e = .returned (.bool true) ∧ Below w.heap.size w w' := by
  have hll : (sortL l).length = l.length := sortL_length l
  have hml : (sortL m).length = m.length := sortL_length m
  have hl12 := R.1
  have hm12 := Q.1
  have hfl := R.fit (by omega)
  have hfm := Q.fit (by omega)
  have e1 : (y : Int) % 3 = 2 := by omega
  have e2 : (y : Int).tmod 3 = 2 := by rw [Int.tmod_eq_emod_of_nonneg (by omega)]; exact e1
  have e3 : (0 : Int) ≤ (y : Int) := by omega
  have e4 : (y : Int) < 256 := by omega
  have hS := fun w' v (hv : Ls w' v l) => sorted_any v l w' hv (by omega)
  have hS' := fun w' v (hv : Ls w' v m) => sorted_any v m w' hv (by omega)
  have hY := fun w' v u (hv : Ls w' v l) (hu : Strs w' u names) => key2_any v l u names w' hv hu hl12 hfl R.2.2 hN (by omega)
  have hY' := fun w' v u (hv : Ls w' v m) (hu : Strs w' u names) => key2_any v m u names w' hv hu hm12 hfm Q.2.2 hN (by omega)
  have hsx := enc_same (selK_fit (way := 2) (names := names) hfl.sort) (selK_fit (way := 2) (names := names) hfm.sort)
  have hK := fun w' v u (hv : Ls w' v (sortL l)) (hu : Strs w' u names) => kept_any v (sortL l) u names false w' hv hu (by omega) (by omega)
  have hK' := fun w' v u (hv : Ls w' v (sortL m)) (hu : Strs w' u names) => kept_any v (sortL m) u names false w' hv hu (by omega) (by omega)
  rw [show kept names false (sortL l) = selK 2 names (sortL l) from rfl] at hK
  rw [show kept names false (sortL m) = selK 2 names (sortL m) from rfl] at hK'
  have hxl : (selK 2 names (sortL l)).length ≤ 12 := by have := kept_le names false (sortL l); unfold selK; rw [if_neg (by decide)]; exact Nat.le_trans this (by omega)
  have hxm : (selK 2 names (sortL m)).length ≤ 12 := by have := kept_le names false (sortL m); unfold selK; rw [if_neg (by decide)]; exact Nat.le_trans this (by omega)
  have hE := fun va vb w' h1 h2 => sameLabels_any va vb (selK 2 names (sortL l)) (selK 2 names (sortL m)) w' h1 h2 (by omega) (by omega)
  generalize selK 2 names (sortL l) = X at *
  generalize selK 2 names (sortL m) = Y at *
  clear hxl hxm R Q hN hfl hfm hl12 hm12 hr hn
  generalize sortL l = l1 at *
  generalize sortL m = m1 at *
  generalize decide (X = Y) = D at *
  have HSX := Lib.hid hsx
  clear hsx
  go_enter Tryz.func4, Tryz.ntmps4
  go_wp2_with (first
    | ((with_reducible refine C0.mono ?_); rintro e w1 ⟨rfl, hb1⟩; have D1 := C1 _ (g.up hb1))
    | ((with_reducible refine D1.mono ?_); rintro e w2 ⟨rfl, hb2⟩; have D2 := C2 _ ((k.up hb1).up hb2))
    | ((with_reducible refine D2.mono ?_); rintro e w3 ⟨rfl, hb3⟩; have h3 := ((h.up hb1).up hb2).up hb3; have g3 := ((g.up hb1).up hb2).up hb3; have k3 := ((k.up hb1).up hb2).up hb3; have D3 := C3 _ h3)
    | ((with_reducible refine D3.mono ?_); rintro e w4 ⟨rfl, hb4⟩; have D4 := C4 _ (g3.up hb4))
    | ((with_reducible refine D4.mono ?_); rintro e w5 ⟨rfl, hb5⟩; have k5 := (k3.up hb4).up hb5; have D5 := C5 _ k5)
    | ((with_reducible refine D5.mono ?_); rintro e _ ⟨rfl, rfl⟩; have D6 := C6 _ k5)
    | ((with_reducible refine D6.mono ?_); rintro e w6 ⟨rfl, hb6⟩; have h6 := ((h3.up hb4).up hb5).up hb6; have g6 := ((g3.up hb4).up hb5).up hb6; have k6 := k5.up hb6; have D7 := C7 _ h6)
    | ((with_reducible refine D7.mono ?_); rintro e _ ⟨rfl, rfl⟩; have D8 := C8 _ g6)
    | ((with_reducible refine D8.mono ?_); rintro e _ ⟨rfl, rfl⟩; have D9 := C9 _ k6)
    | ((with_reducible refine D9.mono ?_); rintro e _ ⟨rfl, rfl⟩; have S1 := hS _ _ h6)
    | ((with_reducible refine S1.mono ?_); rintro e w7 ⟨x, rfl, hx7, hb7⟩; obtain ⟨xa, xc, rfl⟩ := own_form hx7; have S2 := hS' _ _ (g6.up hb7))
    | ((with_reducible refine S2.mono ?_); rintro e w8' ⟨x', rfl, hy8, hb8'⟩; obtain ⟨ya, yc, rfl⟩ := own_form hy8; have x8' := Ls.own (l := l1) (own_dn hx7 hb8'); have y8' := Ls.own (l := m1) hy8; have k8' := (k6.up hb7).up hb8'; have T1 := hK _ _ _ x8' k8')
    | ((with_reducible refine T1.mono ?_); rintro e w8₂ ⟨x₂, rfl, hx9, hb8₂⟩; obtain ⟨za, zc, rfl⟩ := own_form hx9; have T2 := hK' _ _ _ (y8'.up hb8₂) (k8'.up hb8₂))
    | ((with_reducible refine T2.mono ?_); rintro e w8 ⟨x₃, rfl, hy9, hb8⟩; obtain ⟨ta, tc, rfl⟩ := own_form hy9; have x8 := Ls.own (l := X) (own_dn hx9 hb8); have y8 := Ls.own (l := Y) hy9; have k8 := (k8'.up hb8₂).up hb8; have h8 := (((h6.up hb7).up hb8').up hb8₂).up hb8; have g8 := (((g6.up hb7).up hb8').up hb8₂).up hb8; have hbz := bnx (bnx (bnx (bnx (bnx (bnx (bnx (bnx (bnx hb1 hb2) hb3) hb4) hb5) hb6) hb7) hb8') hb8₂) hb8)
    | fail)
  clear C0 C1 C2 C3 C4 C5 C6 C7 C8 C9 D1 D2 D3 D4 D5 D6 D7 D8 D9 S1 S2 hS hS'
  have AL := alive_any w8.drew
  have x8d := x8.up (Below.drew (Below.refl w8.heap.size w8))
  have y8d := y8.up (Below.drew (Below.refl w8.heap.size w8))
  have k8d := k8.up (Below.drew (Below.refl w8.heap.size w8))
  have h8d := h8.up (Below.drew (Below.refl w8.heap.size w8))
  have g8d := g8.up (Below.drew (Below.refl w8.heap.size w8))
  have HBZ := Lib.hid hbz
  clear h g k h3 g3 k3 k5 h6 g6 k6 x8 y8 k8 h8 g8 hb1 hb2 hb3 hb4 hb5 hb6 hbz e1 e2 e3 e4 hy
  generalize encL X = EX at *
  generalize encL Y = EY at *
  go_region_held (fun _ => True) (first | exact trivial | fail) (first
    | ((with_reducible refine AL.mono ?_); rintro e w9 ⟨rfl, hb9⟩; have Y9 := hY _ _ _ (h8d.up hb9) (k8d.up hb9))
    | ((with_reducible refine Y9.mono ?_); rintro e w10 ⟨x₅, rfl, ho10, hb10⟩; obtain ⟨pa, pc, rfl⟩ := own_form ho10; have hcv10 := conv_own ho10; have Y10 := hY' _ _ _ ((g8d.up hb9).up hb10) ((k8d.up hb9).up hb10))
    | ((with_reducible refine Y10.mono ?_); rintro e w11 ⟨x₆, rfl, ho11, hb11⟩; obtain ⟨qa, qc, rfl⟩ := own_form ho11; have hcv11 := conv_own ho11; have hcv12 := conv_own (own_dn ho10 hb11); have E11 := hE _ _ _ (((x8d.up hb9).up hb10).up hb11) (((y8d.up hb9).up hb10).up hb11))
    | ((with_reducible refine E11.mono ?_); rintro e w12 ⟨rfl, hb12⟩; have hcv13 := conv_own (own_dn ho11 hb12); have hcv14 := conv_own (own_dn (own_dn ho10 hb11) hb12))
    | fail)
  all_goals (go_wp2_with fail; go_ret; exact ⟨by simp; exact HSX.out, bnx (bnx (bnx (bnx (HBZ.out.drew) hb9) hb10) hb11) hb12⟩)

end Go.Proofs.YtapoodnjkkhggaaGreat
