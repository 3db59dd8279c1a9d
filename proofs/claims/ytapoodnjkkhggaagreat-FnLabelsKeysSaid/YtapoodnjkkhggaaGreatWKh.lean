/-
  FnLabelsKeys: the walk of the law (printed by gen_wkeys.py).
-/
import Derived.Test.YtapoodnjkkhggaaGreatAlv
import Derived.Test.YtapoodnjkkhggaaGreatSpL
import Derived.Test.YtapoodnjkkhggaaGreatSpS
import Derived.Test.YtapoodnjkkhggaaGreatSrt
import Derived.Test.YtapoodnjkkhggaaGreatLKey
namespace Go.Proofs.YtapoodnjkkhggaaGreat
set_option linter.unusedSimpArgs false
set_option linter.unusedVariables false
open Go.RowKit

theorem rngU8 {z : Int} (hz : (Lit.int .u8 z).wf = true) : ∃ k : Nat, z = k ∧ k ≤ 255 := by
  have m0 : IntKind.u8.min = 0 := by decide
  have m1 : IntKind.u8.max = 255 := by decide
  have h0 : 0 ≤ z ∧ z ≤ 255 := by simpa only [Lit.wf, Bool.and_eq_true, decide_eq_true_eq, m0, m1] using hz
  exact ⟨z.toNat, by omega, by omega⟩
theorem enc_same {X Y : List Lb} (hX : FitL X) (hY : FitL Y) : (encL X == encL Y) = decide (X = Y) := by
  by_cases e : X = Y
  · subst e; simp
  · rw [decide_eq_false e, beq_eq_false_iff_ne]
    exact fun c => e (encL_inj hX hY c)

set_option maxRecDepth 100000 in
set_option maxHeartbeats 16000000 in
theorem wKeys_o0 (ao : Option Addr) (cap : Nat) (l : List Lb) (bo : Option Addr) (bcap : Nat) (m : List Lb) (y : Nat) (uo : Option Addr) (ucap : Nat) (names : List ByteArray) (w : World) (h : Ls w (.slice ao l.length cap) l) (g : Ls w (.slice bo m.length bcap) m) (hy : y ≤ 255) (k : Strs w (.slice uo names.length ucap) names) (C0 : Calls Tryz.prog 11 #[.slice ao l.length cap] w fun e w'' => e = .returned (.bool false) ∧ Below w.heap.size w w'') :
    Calls Tryz.prog 4 #[.slice ao l.length cap, .slice bo m.length bcap, .int .u8 y, .slice uo names.length ucap] w fun e w' => e = .returned (.bool true) ∧ Below w.heap.size w w' := by
  go_enter Tryz.func4, Tryz.ntmps4
  go_wp2_with (first
    | ((with_reducible refine C0.mono ?_); rintro e w1 ⟨rfl, hb1⟩)
    | fail)
  go_ret
  exact ⟨rfl, hb1⟩

set_option maxRecDepth 100000 in
set_option maxHeartbeats 16000000 in
theorem wKeys_o1 (ao : Option Addr) (cap : Nat) (l : List Lb) (bo : Option Addr) (bcap : Nat) (m : List Lb) (y : Nat) (uo : Option Addr) (ucap : Nat) (names : List ByteArray) (w : World) (h : Ls w (.slice ao l.length cap) l) (g : Ls w (.slice bo m.length bcap) m) (hy : y ≤ 255) (k : Strs w (.slice uo names.length ucap) names) (C0 : Calls Tryz.prog 11 #[.slice ao l.length cap] w fun e w'' => e = .returned (.bool true) ∧ Below w.heap.size w w'') (C1 : ∀ w', Ls w' (.slice bo m.length bcap) m → Calls Tryz.prog 11 #[.slice bo m.length bcap] w' fun e w'' => e = .returned (.bool false) ∧ Below w'.heap.size w' w'') :
    Calls Tryz.prog 4 #[.slice ao l.length cap, .slice bo m.length bcap, .int .u8 y, .slice uo names.length ucap] w fun e w' => e = .returned (.bool true) ∧ Below w.heap.size w w' := by
  go_enter Tryz.func4, Tryz.ntmps4
  go_wp2_with (first
    | ((with_reducible refine C0.mono ?_); rintro e w1 ⟨rfl, hb1⟩; have D1 := C1 _ (g.up hb1))
    | ((with_reducible refine D1.mono ?_); rintro e w2 ⟨rfl, hb2⟩)
    | fail)
  go_ret
  exact ⟨rfl, bnx hb1 hb2⟩

set_option maxRecDepth 100000 in
set_option maxHeartbeats 16000000 in
theorem wKeys_o2 (ao : Option Addr) (cap : Nat) (l : List Lb) (bo : Option Addr) (bcap : Nat) (m : List Lb) (y : Nat) (uo : Option Addr) (ucap : Nat) (names : List ByteArray) (w : World) (h : Ls w (.slice ao l.length cap) l) (g : Ls w (.slice bo m.length bcap) m) (hy : y ≤ 255) (k : Strs w (.slice uo names.length ucap) names) (C0 : Calls Tryz.prog 11 #[.slice ao l.length cap] w fun e w'' => e = .returned (.bool true) ∧ Below w.heap.size w w'') (C1 : ∀ w', Ls w' (.slice bo m.length bcap) m → Calls Tryz.prog 11 #[.slice bo m.length bcap] w' fun e w'' => e = .returned (.bool true) ∧ Below w'.heap.size w' w'') (C2 : ∀ w', Strs w' (.slice uo names.length ucap) names → Calls Tryz.prog 17 #[.slice uo names.length ucap] w' fun e w'' => e = .returned (.bool false) ∧ Below w'.heap.size w' w'') :
    Calls Tryz.prog 4 #[.slice ao l.length cap, .slice bo m.length bcap, .int .u8 y, .slice uo names.length ucap] w fun e w' => e = .returned (.bool true) ∧ Below w.heap.size w w' := by
  go_enter Tryz.func4, Tryz.ntmps4
  go_wp2_with (first
    | ((with_reducible refine C0.mono ?_); rintro e w1 ⟨rfl, hb1⟩; have D1 := C1 _ (g.up hb1))
    | ((with_reducible refine D1.mono ?_); rintro e w2 ⟨rfl, hb2⟩; have D2 := C2 _ ((k.up hb1).up hb2))
    | ((with_reducible refine D2.mono ?_); rintro e w3 ⟨rfl, hb3⟩; have h3 := ((h.up hb1).up hb2).up hb3; have g3 := ((g.up hb1).up hb2).up hb3; have k3 := ((k.up hb1).up hb2).up hb3)
    | fail)
  go_ret
  exact ⟨rfl, bnx (bnx hb1 hb2) hb3⟩

set_option maxRecDepth 100000 in
set_option maxHeartbeats 16000000 in
theorem wKeys_o3 (ao : Option Addr) (cap : Nat) (l : List Lb) (bo : Option Addr) (bcap : Nat) (m : List Lb) (y : Nat) (uo : Option Addr) (ucap : Nat) (names : List ByteArray) (w : World) (h : Ls w (.slice ao l.length cap) l) (g : Ls w (.slice bo m.length bcap) m) (hy : y ≤ 255) (k : Strs w (.slice uo names.length ucap) names) (C0 : Calls Tryz.prog 11 #[.slice ao l.length cap] w fun e w'' => e = .returned (.bool true) ∧ Below w.heap.size w w'') (C1 : ∀ w', Ls w' (.slice bo m.length bcap) m → Calls Tryz.prog 11 #[.slice bo m.length bcap] w' fun e w'' => e = .returned (.bool true) ∧ Below w'.heap.size w' w'') (C2 : ∀ w', Strs w' (.slice uo names.length ucap) names → Calls Tryz.prog 17 #[.slice uo names.length ucap] w' fun e w'' => e = .returned (.bool true) ∧ Below w'.heap.size w' w'') (C3 : ∀ w', Ls w' (.slice ao l.length cap) l → Calls Tryz.prog 12 #[.slice ao l.length cap] w' fun e w'' => e = .returned (.bool false) ∧ Below w'.heap.size w' w'') :
    Calls Tryz.prog 4 #[.slice ao l.length cap, .slice bo m.length bcap, .int .u8 y, .slice uo names.length ucap] w fun e w' => e = .returned (.bool true) ∧ Below w.heap.size w w' := by
  go_enter Tryz.func4, Tryz.ntmps4
  go_wp2_with (first
    | ((with_reducible refine C0.mono ?_); rintro e w1 ⟨rfl, hb1⟩; have D1 := C1 _ (g.up hb1))
    | ((with_reducible refine D1.mono ?_); rintro e w2 ⟨rfl, hb2⟩; have D2 := C2 _ ((k.up hb1).up hb2))
    | ((with_reducible refine D2.mono ?_); rintro e w3 ⟨rfl, hb3⟩; have h3 := ((h.up hb1).up hb2).up hb3; have g3 := ((g.up hb1).up hb2).up hb3; have k3 := ((k.up hb1).up hb2).up hb3; have D3 := C3 _ h3)
    | ((with_reducible refine D3.mono ?_); rintro e w4 ⟨rfl, hb4⟩)
    | ((with_reducible refine (alive_any _).mono ?_); rintro e wa ⟨rfl, hba⟩)
    | fail)
  go_ret
  exact ⟨rfl, bnx (bnx (bnx (bnx hb1 hb2) hb3) hb4) hba⟩

set_option maxRecDepth 100000 in
set_option maxHeartbeats 16000000 in
theorem wKeys_o4 (ao : Option Addr) (cap : Nat) (l : List Lb) (bo : Option Addr) (bcap : Nat) (m : List Lb) (y : Nat) (uo : Option Addr) (ucap : Nat) (names : List ByteArray) (w : World) (h : Ls w (.slice ao l.length cap) l) (g : Ls w (.slice bo m.length bcap) m) (hy : y ≤ 255) (k : Strs w (.slice uo names.length ucap) names) (C0 : Calls Tryz.prog 11 #[.slice ao l.length cap] w fun e w'' => e = .returned (.bool true) ∧ Below w.heap.size w w'') (C1 : ∀ w', Ls w' (.slice bo m.length bcap) m → Calls Tryz.prog 11 #[.slice bo m.length bcap] w' fun e w'' => e = .returned (.bool true) ∧ Below w'.heap.size w' w'') (C2 : ∀ w', Strs w' (.slice uo names.length ucap) names → Calls Tryz.prog 17 #[.slice uo names.length ucap] w' fun e w'' => e = .returned (.bool true) ∧ Below w'.heap.size w' w'') (C3 : ∀ w', Ls w' (.slice ao l.length cap) l → Calls Tryz.prog 12 #[.slice ao l.length cap] w' fun e w'' => e = .returned (.bool true) ∧ Below w'.heap.size w' w'') (C4 : ∀ w', Ls w' (.slice bo m.length bcap) m → Calls Tryz.prog 12 #[.slice bo m.length bcap] w' fun e w'' => e = .returned (.bool false) ∧ Below w'.heap.size w' w'') :
    Calls Tryz.prog 4 #[.slice ao l.length cap, .slice bo m.length bcap, .int .u8 y, .slice uo names.length ucap] w fun e w' => e = .returned (.bool true) ∧ Below w.heap.size w w' := by
  go_enter Tryz.func4, Tryz.ntmps4
  go_wp2_with (first
    | ((with_reducible refine C0.mono ?_); rintro e w1 ⟨rfl, hb1⟩; have D1 := C1 _ (g.up hb1))
    | ((with_reducible refine D1.mono ?_); rintro e w2 ⟨rfl, hb2⟩; have D2 := C2 _ ((k.up hb1).up hb2))
    | ((with_reducible refine D2.mono ?_); rintro e w3 ⟨rfl, hb3⟩; have h3 := ((h.up hb1).up hb2).up hb3; have g3 := ((g.up hb1).up hb2).up hb3; have k3 := ((k.up hb1).up hb2).up hb3; have D3 := C3 _ h3)
    | ((with_reducible refine D3.mono ?_); rintro e w4 ⟨rfl, hb4⟩; have D4 := C4 _ (g3.up hb4))
    | ((with_reducible refine D4.mono ?_); rintro e w5 ⟨rfl, hb5⟩; have k5 := (k3.up hb4).up hb5)
    | ((with_reducible refine (alive_any _).mono ?_); rintro e wa ⟨rfl, hba⟩)
    | fail)
  go_ret
  exact ⟨rfl, bnx (bnx (bnx (bnx (bnx hb1 hb2) hb3) hb4) hb5) hba⟩

set_option maxRecDepth 100000 in
set_option maxHeartbeats 16000000 in
theorem wKeys_o5 (ao : Option Addr) (cap : Nat) (l : List Lb) (bo : Option Addr) (bcap : Nat) (m : List Lb) (y : Nat) (uo : Option Addr) (ucap : Nat) (names : List ByteArray) (w : World) (h : Ls w (.slice ao l.length cap) l) (g : Ls w (.slice bo m.length bcap) m) (hy : y ≤ 255) (k : Strs w (.slice uo names.length ucap) names) (C0 : Calls Tryz.prog 11 #[.slice ao l.length cap] w fun e w'' => e = .returned (.bool true) ∧ Below w.heap.size w w'') (C1 : ∀ w', Ls w' (.slice bo m.length bcap) m → Calls Tryz.prog 11 #[.slice bo m.length bcap] w' fun e w'' => e = .returned (.bool true) ∧ Below w'.heap.size w' w'') (C2 : ∀ w', Strs w' (.slice uo names.length ucap) names → Calls Tryz.prog 17 #[.slice uo names.length ucap] w' fun e w'' => e = .returned (.bool true) ∧ Below w'.heap.size w' w'') (C3 : ∀ w', Ls w' (.slice ao l.length cap) l → Calls Tryz.prog 12 #[.slice ao l.length cap] w' fun e w'' => e = .returned (.bool true) ∧ Below w'.heap.size w' w'') (C4 : ∀ w', Ls w' (.slice bo m.length bcap) m → Calls Tryz.prog 12 #[.slice bo m.length bcap] w' fun e w'' => e = .returned (.bool true) ∧ Below w'.heap.size w' w'') (C5 : ∀ w', Strs w' (.slice uo names.length ucap) names → Calls Tryz.prog 18 #[.slice uo names.length ucap, .int .i64 12, .int .i64 600] w' fun e w'' => e = .returned (.bool false) ∧ w' = w'') :
    Calls Tryz.prog 4 #[.slice ao l.length cap, .slice bo m.length bcap, .int .u8 y, .slice uo names.length ucap] w fun e w' => e = .returned (.bool true) ∧ Below w.heap.size w w' := by
  go_enter Tryz.func4, Tryz.ntmps4
  go_wp2_with (first
    | ((with_reducible refine C0.mono ?_); rintro e w1 ⟨rfl, hb1⟩; have D1 := C1 _ (g.up hb1))
    | ((with_reducible refine D1.mono ?_); rintro e w2 ⟨rfl, hb2⟩; have D2 := C2 _ ((k.up hb1).up hb2))
    | ((with_reducible refine D2.mono ?_); rintro e w3 ⟨rfl, hb3⟩; have h3 := ((h.up hb1).up hb2).up hb3; have g3 := ((g.up hb1).up hb2).up hb3; have k3 := ((k.up hb1).up hb2).up hb3; have D3 := C3 _ h3)
    | ((with_reducible refine D3.mono ?_); rintro e w4 ⟨rfl, hb4⟩; have D4 := C4 _ (g3.up hb4))
    | ((with_reducible refine D4.mono ?_); rintro e w5 ⟨rfl, hb5⟩; have k5 := (k3.up hb4).up hb5; have D5 := C5 _ k5)
    | ((with_reducible refine D5.mono ?_); rintro e _ ⟨rfl, rfl⟩)
    | ((with_reducible refine (alive_any _).mono ?_); rintro e wa ⟨rfl, hba⟩)
    | fail)
  go_ret
  exact ⟨rfl, bnx (bnx (bnx (bnx (bnx hb1 hb2) hb3) hb4) hb5) hba⟩

set_option maxRecDepth 100000 in
set_option maxHeartbeats 16000000 in
theorem wKeys_o6 (ao : Option Addr) (cap : Nat) (l : List Lb) (bo : Option Addr) (bcap : Nat) (m : List Lb) (y : Nat) (uo : Option Addr) (ucap : Nat) (names : List ByteArray) (w : World) (h : Ls w (.slice ao l.length cap) l) (g : Ls w (.slice bo m.length bcap) m) (hy : y ≤ 255) (k : Strs w (.slice uo names.length ucap) names) (C0 : Calls Tryz.prog 11 #[.slice ao l.length cap] w fun e w'' => e = .returned (.bool true) ∧ Below w.heap.size w w'') (C1 : ∀ w', Ls w' (.slice bo m.length bcap) m → Calls Tryz.prog 11 #[.slice bo m.length bcap] w' fun e w'' => e = .returned (.bool true) ∧ Below w'.heap.size w' w'') (C2 : ∀ w', Strs w' (.slice uo names.length ucap) names → Calls Tryz.prog 17 #[.slice uo names.length ucap] w' fun e w'' => e = .returned (.bool true) ∧ Below w'.heap.size w' w'') (C3 : ∀ w', Ls w' (.slice ao l.length cap) l → Calls Tryz.prog 12 #[.slice ao l.length cap] w' fun e w'' => e = .returned (.bool true) ∧ Below w'.heap.size w' w'') (C4 : ∀ w', Ls w' (.slice bo m.length bcap) m → Calls Tryz.prog 12 #[.slice bo m.length bcap] w' fun e w'' => e = .returned (.bool true) ∧ Below w'.heap.size w' w'') (C5 : ∀ w', Strs w' (.slice uo names.length ucap) names → Calls Tryz.prog 18 #[.slice uo names.length ucap, .int .i64 12, .int .i64 600] w' fun e w'' => e = .returned (.bool true) ∧ w' = w'') (C6 : ∀ w', Strs w' (.slice uo names.length ucap) names → Calls Tryz.prog 19 #[.slice uo names.length ucap] w' fun e w'' => e = .returned (.bool false) ∧ Below w'.heap.size w' w'') :
    Calls Tryz.prog 4 #[.slice ao l.length cap, .slice bo m.length bcap, .int .u8 y, .slice uo names.length ucap] w fun e w' => e = .returned (.bool true) ∧ Below w.heap.size w w' := by
  go_enter Tryz.func4, Tryz.ntmps4
  go_wp2_with (first
    | ((with_reducible refine C0.mono ?_); rintro e w1 ⟨rfl, hb1⟩; have D1 := C1 _ (g.up hb1))
    | ((with_reducible refine D1.mono ?_); rintro e w2 ⟨rfl, hb2⟩; have D2 := C2 _ ((k.up hb1).up hb2))
    | ((with_reducible refine D2.mono ?_); rintro e w3 ⟨rfl, hb3⟩; have h3 := ((h.up hb1).up hb2).up hb3; have g3 := ((g.up hb1).up hb2).up hb3; have k3 := ((k.up hb1).up hb2).up hb3; have D3 := C3 _ h3)
    | ((with_reducible refine D3.mono ?_); rintro e w4 ⟨rfl, hb4⟩; have D4 := C4 _ (g3.up hb4))
    | ((with_reducible refine D4.mono ?_); rintro e w5 ⟨rfl, hb5⟩; have k5 := (k3.up hb4).up hb5; have D5 := C5 _ k5)
    | ((with_reducible refine D5.mono ?_); rintro e _ ⟨rfl, rfl⟩; have D6 := C6 _ k5)
    | ((with_reducible refine D6.mono ?_); rintro e w6 ⟨rfl, hb6⟩; have h6 := ((h3.up hb4).up hb5).up hb6; have g6 := ((g3.up hb4).up hb5).up hb6; have k6 := k5.up hb6)
    | ((with_reducible refine (alive_any _).mono ?_); rintro e wa ⟨rfl, hba⟩)
    | fail)
  go_ret
  exact ⟨rfl, bnx (bnx (bnx (bnx (bnx (bnx hb1 hb2) hb3) hb4) hb5) hb6) hba⟩

set_option maxRecDepth 100000 in
set_option maxHeartbeats 16000000 in
theorem wKeys_o7 (ao : Option Addr) (cap : Nat) (l : List Lb) (bo : Option Addr) (bcap : Nat) (m : List Lb) (y : Nat) (uo : Option Addr) (ucap : Nat) (names : List ByteArray) (w : World) (h : Ls w (.slice ao l.length cap) l) (g : Ls w (.slice bo m.length bcap) m) (hy : y ≤ 255) (k : Strs w (.slice uo names.length ucap) names) (C0 : Calls Tryz.prog 11 #[.slice ao l.length cap] w fun e w'' => e = .returned (.bool true) ∧ Below w.heap.size w w'') (C1 : ∀ w', Ls w' (.slice bo m.length bcap) m → Calls Tryz.prog 11 #[.slice bo m.length bcap] w' fun e w'' => e = .returned (.bool true) ∧ Below w'.heap.size w' w'') (C2 : ∀ w', Strs w' (.slice uo names.length ucap) names → Calls Tryz.prog 17 #[.slice uo names.length ucap] w' fun e w'' => e = .returned (.bool true) ∧ Below w'.heap.size w' w'') (C3 : ∀ w', Ls w' (.slice ao l.length cap) l → Calls Tryz.prog 12 #[.slice ao l.length cap] w' fun e w'' => e = .returned (.bool true) ∧ Below w'.heap.size w' w'') (C4 : ∀ w', Ls w' (.slice bo m.length bcap) m → Calls Tryz.prog 12 #[.slice bo m.length bcap] w' fun e w'' => e = .returned (.bool true) ∧ Below w'.heap.size w' w'') (C5 : ∀ w', Strs w' (.slice uo names.length ucap) names → Calls Tryz.prog 18 #[.slice uo names.length ucap, .int .i64 12, .int .i64 600] w' fun e w'' => e = .returned (.bool true) ∧ w' = w'') (C6 : ∀ w', Strs w' (.slice uo names.length ucap) names → Calls Tryz.prog 19 #[.slice uo names.length ucap] w' fun e w'' => e = .returned (.bool true) ∧ Below w'.heap.size w' w'') (F7 : Int) (q7 : 0 ≤ F7) (C7 : ∀ w', Ls w' (.slice ao l.length cap) l → Calls Tryz.prog 20 #[.slice ao l.length cap, .string (⟨#[95, 95, 110, 97, 109, 101, 95, 95]⟩ : ByteArray)] w' fun e w'' => e = .returned (.int .i64 F7) ∧ w' = w'') :
    Calls Tryz.prog 4 #[.slice ao l.length cap, .slice bo m.length bcap, .int .u8 y, .slice uo names.length ucap] w fun e w' => e = .returned (.bool true) ∧ Below w.heap.size w w' := by
  go_enter Tryz.func4, Tryz.ntmps4
  go_wp2_with (first
    | ((with_reducible refine C0.mono ?_); rintro e w1 ⟨rfl, hb1⟩; have D1 := C1 _ (g.up hb1))
    | ((with_reducible refine D1.mono ?_); rintro e w2 ⟨rfl, hb2⟩; have D2 := C2 _ ((k.up hb1).up hb2))
    | ((with_reducible refine D2.mono ?_); rintro e w3 ⟨rfl, hb3⟩; have h3 := ((h.up hb1).up hb2).up hb3; have g3 := ((g.up hb1).up hb2).up hb3; have k3 := ((k.up hb1).up hb2).up hb3; have D3 := C3 _ h3)
    | ((with_reducible refine D3.mono ?_); rintro e w4 ⟨rfl, hb4⟩; have D4 := C4 _ (g3.up hb4))
    | ((with_reducible refine D4.mono ?_); rintro e w5 ⟨rfl, hb5⟩; have k5 := (k3.up hb4).up hb5; have D5 := C5 _ k5)
    | ((with_reducible refine D5.mono ?_); rintro e _ ⟨rfl, rfl⟩; have D6 := C6 _ k5)
    | ((with_reducible refine D6.mono ?_); rintro e w6 ⟨rfl, hb6⟩; have h6 := ((h3.up hb4).up hb5).up hb6; have g6 := ((g3.up hb4).up hb5).up hb6; have k6 := k5.up hb6; have D7 := C7 _ h6)
    | ((with_reducible refine D7.mono ?_); rintro e _ ⟨rfl, rfl⟩)
    | ((with_reducible refine (alive_any _).mono ?_); rintro e wa ⟨rfl, hba⟩)
    | fail)
  go_ret
  exact ⟨rfl, bnx (bnx (bnx (bnx (bnx (bnx hb1 hb2) hb3) hb4) hb5) hb6) hba⟩

set_option maxRecDepth 100000 in
set_option maxHeartbeats 16000000 in
theorem wKeys_o8 (ao : Option Addr) (cap : Nat) (l : List Lb) (bo : Option Addr) (bcap : Nat) (m : List Lb) (y : Nat) (uo : Option Addr) (ucap : Nat) (names : List ByteArray) (w : World) (h : Ls w (.slice ao l.length cap) l) (g : Ls w (.slice bo m.length bcap) m) (hy : y ≤ 255) (k : Strs w (.slice uo names.length ucap) names) (C0 : Calls Tryz.prog 11 #[.slice ao l.length cap] w fun e w'' => e = .returned (.bool true) ∧ Below w.heap.size w w'') (C1 : ∀ w', Ls w' (.slice bo m.length bcap) m → Calls Tryz.prog 11 #[.slice bo m.length bcap] w' fun e w'' => e = .returned (.bool true) ∧ Below w'.heap.size w' w'') (C2 : ∀ w', Strs w' (.slice uo names.length ucap) names → Calls Tryz.prog 17 #[.slice uo names.length ucap] w' fun e w'' => e = .returned (.bool true) ∧ Below w'.heap.size w' w'') (C3 : ∀ w', Ls w' (.slice ao l.length cap) l → Calls Tryz.prog 12 #[.slice ao l.length cap] w' fun e w'' => e = .returned (.bool true) ∧ Below w'.heap.size w' w'') (C4 : ∀ w', Ls w' (.slice bo m.length bcap) m → Calls Tryz.prog 12 #[.slice bo m.length bcap] w' fun e w'' => e = .returned (.bool true) ∧ Below w'.heap.size w' w'') (C5 : ∀ w', Strs w' (.slice uo names.length ucap) names → Calls Tryz.prog 18 #[.slice uo names.length ucap, .int .i64 12, .int .i64 600] w' fun e w'' => e = .returned (.bool true) ∧ w' = w'') (C6 : ∀ w', Strs w' (.slice uo names.length ucap) names → Calls Tryz.prog 19 #[.slice uo names.length ucap] w' fun e w'' => e = .returned (.bool true) ∧ Below w'.heap.size w' w'') (F7 : Int) (q7 : ¬ 0 ≤ F7) (C7 : ∀ w', Ls w' (.slice ao l.length cap) l → Calls Tryz.prog 20 #[.slice ao l.length cap, .string (⟨#[95, 95, 110, 97, 109, 101, 95, 95]⟩ : ByteArray)] w' fun e w'' => e = .returned (.int .i64 F7) ∧ w' = w'') (F8 : Int) (q8 : 0 ≤ F8) (C8 : ∀ w', Ls w' (.slice bo m.length bcap) m → Calls Tryz.prog 20 #[.slice bo m.length bcap, .string (⟨#[95, 95, 110, 97, 109, 101, 95, 95]⟩ : ByteArray)] w' fun e w'' => e = .returned (.int .i64 F8) ∧ w' = w'') :
    Calls Tryz.prog 4 #[.slice ao l.length cap, .slice bo m.length bcap, .int .u8 y, .slice uo names.length ucap] w fun e w' => e = .returned (.bool true) ∧ Below w.heap.size w w' := by
  go_enter Tryz.func4, Tryz.ntmps4
  go_wp2_with (first
    | ((with_reducible refine C0.mono ?_); rintro e w1 ⟨rfl, hb1⟩; have D1 := C1 _ (g.up hb1))
    | ((with_reducible refine D1.mono ?_); rintro e w2 ⟨rfl, hb2⟩; have D2 := C2 _ ((k.up hb1).up hb2))
    | ((with_reducible refine D2.mono ?_); rintro e w3 ⟨rfl, hb3⟩; have h3 := ((h.up hb1).up hb2).up hb3; have g3 := ((g.up hb1).up hb2).up hb3; have k3 := ((k.up hb1).up hb2).up hb3; have D3 := C3 _ h3)
    | ((with_reducible refine D3.mono ?_); rintro e w4 ⟨rfl, hb4⟩; have D4 := C4 _ (g3.up hb4))
    | ((with_reducible refine D4.mono ?_); rintro e w5 ⟨rfl, hb5⟩; have k5 := (k3.up hb4).up hb5; have D5 := C5 _ k5)
    | ((with_reducible refine D5.mono ?_); rintro e _ ⟨rfl, rfl⟩; have D6 := C6 _ k5)
    | ((with_reducible refine D6.mono ?_); rintro e w6 ⟨rfl, hb6⟩; have h6 := ((h3.up hb4).up hb5).up hb6; have g6 := ((g3.up hb4).up hb5).up hb6; have k6 := k5.up hb6; have D7 := C7 _ h6)
    | ((with_reducible refine D7.mono ?_); rintro e _ ⟨rfl, rfl⟩; have D8 := C8 _ g6)
    | ((with_reducible refine D8.mono ?_); rintro e _ ⟨rfl, rfl⟩)
    | ((with_reducible refine (alive_any _).mono ?_); rintro e wa ⟨rfl, hba⟩)
    | fail)
  go_ret
  exact ⟨rfl, bnx (bnx (bnx (bnx (bnx (bnx hb1 hb2) hb3) hb4) hb5) hb6) hba⟩

set_option maxRecDepth 100000 in
set_option maxHeartbeats 16000000 in
theorem wKeys_o9 (ao : Option Addr) (cap : Nat) (l : List Lb) (bo : Option Addr) (bcap : Nat) (m : List Lb) (y : Nat) (uo : Option Addr) (ucap : Nat) (names : List ByteArray) (w : World) (h : Ls w (.slice ao l.length cap) l) (g : Ls w (.slice bo m.length bcap) m) (hy : y ≤ 255) (k : Strs w (.slice uo names.length ucap) names) (C0 : Calls Tryz.prog 11 #[.slice ao l.length cap] w fun e w'' => e = .returned (.bool true) ∧ Below w.heap.size w w'') (C1 : ∀ w', Ls w' (.slice bo m.length bcap) m → Calls Tryz.prog 11 #[.slice bo m.length bcap] w' fun e w'' => e = .returned (.bool true) ∧ Below w'.heap.size w' w'') (C2 : ∀ w', Strs w' (.slice uo names.length ucap) names → Calls Tryz.prog 17 #[.slice uo names.length ucap] w' fun e w'' => e = .returned (.bool true) ∧ Below w'.heap.size w' w'') (C3 : ∀ w', Ls w' (.slice ao l.length cap) l → Calls Tryz.prog 12 #[.slice ao l.length cap] w' fun e w'' => e = .returned (.bool true) ∧ Below w'.heap.size w' w'') (C4 : ∀ w', Ls w' (.slice bo m.length bcap) m → Calls Tryz.prog 12 #[.slice bo m.length bcap] w' fun e w'' => e = .returned (.bool true) ∧ Below w'.heap.size w' w'') (C5 : ∀ w', Strs w' (.slice uo names.length ucap) names → Calls Tryz.prog 18 #[.slice uo names.length ucap, .int .i64 12, .int .i64 600] w' fun e w'' => e = .returned (.bool true) ∧ w' = w'') (C6 : ∀ w', Strs w' (.slice uo names.length ucap) names → Calls Tryz.prog 19 #[.slice uo names.length ucap] w' fun e w'' => e = .returned (.bool true) ∧ Below w'.heap.size w' w'') (F7 : Int) (q7 : ¬ 0 ≤ F7) (C7 : ∀ w', Ls w' (.slice ao l.length cap) l → Calls Tryz.prog 20 #[.slice ao l.length cap, .string (⟨#[95, 95, 110, 97, 109, 101, 95, 95]⟩ : ByteArray)] w' fun e w'' => e = .returned (.int .i64 F7) ∧ w' = w'') (F8 : Int) (q8 : ¬ 0 ≤ F8) (C8 : ∀ w', Ls w' (.slice bo m.length bcap) m → Calls Tryz.prog 20 #[.slice bo m.length bcap, .string (⟨#[95, 95, 110, 97, 109, 101, 95, 95]⟩ : ByteArray)] w' fun e w'' => e = .returned (.int .i64 F8) ∧ w' = w'') (C9 : ∀ w', Strs w' (.slice uo names.length ucap) names → Calls Tryz.prog 21 #[.slice uo names.length ucap, .string (⟨#[95, 95, 110, 97, 109, 101, 95, 95]⟩ : ByteArray)] w' fun e w'' => e = .returned (.bool true) ∧ w' = w'') :
    Calls Tryz.prog 4 #[.slice ao l.length cap, .slice bo m.length bcap, .int .u8 y, .slice uo names.length ucap] w fun e w' => e = .returned (.bool true) ∧ Below w.heap.size w w' := by
  go_enter Tryz.func4, Tryz.ntmps4
  go_wp2_with (first
    | ((with_reducible refine C0.mono ?_); rintro e w1 ⟨rfl, hb1⟩; have D1 := C1 _ (g.up hb1))
    | ((with_reducible refine D1.mono ?_); rintro e w2 ⟨rfl, hb2⟩; have D2 := C2 _ ((k.up hb1).up hb2))
    | ((with_reducible refine D2.mono ?_); rintro e w3 ⟨rfl, hb3⟩; have h3 := ((h.up hb1).up hb2).up hb3; have g3 := ((g.up hb1).up hb2).up hb3; have k3 := ((k.up hb1).up hb2).up hb3; have D3 := C3 _ h3)
    | ((with_reducible refine D3.mono ?_); rintro e w4 ⟨rfl, hb4⟩; have D4 := C4 _ (g3.up hb4))
    | ((with_reducible refine D4.mono ?_); rintro e w5 ⟨rfl, hb5⟩; have k5 := (k3.up hb4).up hb5; have D5 := C5 _ k5)
    | ((with_reducible refine D5.mono ?_); rintro e _ ⟨rfl, rfl⟩; have D6 := C6 _ k5)
    | ((with_reducible refine D6.mono ?_); rintro e w6 ⟨rfl, hb6⟩; have h6 := ((h3.up hb4).up hb5).up hb6; have g6 := ((g3.up hb4).up hb5).up hb6; have k6 := k5.up hb6; have D7 := C7 _ h6)
    | ((with_reducible refine D7.mono ?_); rintro e _ ⟨rfl, rfl⟩; have D8 := C8 _ g6)
    | ((with_reducible refine D8.mono ?_); rintro e _ ⟨rfl, rfl⟩; have D9 := C9 _ k6)
    | ((with_reducible refine D9.mono ?_); rintro e _ ⟨rfl, rfl⟩)
    | ((with_reducible refine (alive_any _).mono ?_); rintro e wa ⟨rfl, hba⟩)
    | fail)
  go_ret
  exact ⟨rfl, bnx (bnx (bnx (bnx (bnx (bnx hb1 hb2) hb3) hb4) hb5) hb6) hba⟩

end Go.Proofs.YtapoodnjkkhggaaGreat
