-- PRINTED BY print.sh 35421559b90ae4d0a3588c463048766b98c2df88dd9212a6774a882060cdf62d: not written by this session
import Derived.Test.YtdinjpemofkdaaaPFnHintHeaderx0
namespace Go.Proofs.Ytdinjpemofkdaaa.PFnHintHeader
open Go.RowKit Go.Proofs.YtdinjpemofkdaaaW.PrintWords Go.Proofs.YtdinjpemofkdaaaW.PrintLast Go.Proofs.YtdinjpemofkdaaaW.PrintMore
attribute [local go_sem] max2_int min2_int max_two min_two max_three min_three max_four min_four   -- for this text's walks alone
set_option linter.unusedVariables false
set_option linter.unusedSimpArgs false

/-! ### impl_reset: function 33 -/
def impl_reset.f (a0 : Int) : Option (Int) := if a0 = 128 then (some 1) else (if a0 = 64 then (some 2) else (if a0 = 192 then (some 3) else (some 0)))
set_option maxHeartbeats 8000000 in
set_option maxRecDepth 100000 in
theorem impl_reset.calls (a0 : Int) (r : Int) (w : World) (h : impl_reset.f a0 = some r) :
    Calls Try.prog 33 #[.int .u8 a0] w fun e w' => e = .returned (.int .i64 r) ∧ Drawn0 w w' := by
  have H : (if a0 = 128 then (some 1) else (if a0 = 64 then (some 2) else (if a0 = 192 then (some 3) else (some 0)))) = some r := h
  clear h
  by_cases c2 : a0 = 128
  · rw [if_pos c2] at H
    have c2b0 : (a0 == 128) = true := beq_iff_eq.mpr c2
    have c2b1 : (a0 != 128) = false := bne_eq_false_iff_eq.mpr c2
    clear c2
    obtain rfl := Option.some.inj H
    go_enter Try.func33, Try.ntmps33
    go_wp2
    go_ret
    exact ⟨by first | rfl | (simp; done) | (simp [*]; done), by repeat (first | exact Drawn0.refl _ | apply Drawn0.step)⟩
  · rw [if_neg c2] at H
    have c2b0 : (a0 == 128) = false := beq_eq_false_iff_ne.mpr c2
    have c2b1 : (a0 != 128) = true := bne_iff_ne.mpr c2
    by_cases c3 : a0 = 64
    · rw [if_pos c3] at H
      have c3b0 : (a0 == 64) = true := beq_iff_eq.mpr c3
      have c3b1 : (a0 != 64) = false := bne_eq_false_iff_eq.mpr c3
      clear c3
      obtain rfl := Option.some.inj H
      go_enter Try.func33, Try.ntmps33
      go_wp2
      go_ret
      exact ⟨by first | rfl | (simp; done) | (simp [*]; done), by repeat (first | exact Drawn0.refl _ | apply Drawn0.step)⟩
    · rw [if_neg c3] at H
      have c3b0 : (a0 == 64) = false := beq_eq_false_iff_ne.mpr c3
      have c3b1 : (a0 != 64) = true := bne_iff_ne.mpr c3
      by_cases c4 : a0 = 192
      · rw [if_pos c4] at H
        have c4b0 : (a0 == 192) = true := beq_iff_eq.mpr c4
        have c4b1 : (a0 != 192) = false := bne_eq_false_iff_eq.mpr c4
        clear c4
        obtain rfl := Option.some.inj H
        go_enter Try.func33, Try.ntmps33
        go_wp2
        go_ret
        exact ⟨by first | rfl | (simp; done) | (simp [*]; done), by repeat (first | exact Drawn0.refl _ | apply Drawn0.step)⟩
      · rw [if_neg c4] at H
        have c4b0 : (a0 == 192) = false := beq_eq_false_iff_ne.mpr c4
        have c4b1 : (a0 != 192) = true := bne_iff_ne.mpr c4
        obtain rfl := Option.some.inj H
        go_enter Try.func33, Try.ntmps33
        go_wp2
        go_ret
        exact ⟨by first | rfl | (simp; done) | (simp [*]; done), by repeat (first | exact Drawn0.refl _ | apply Drawn0.step)⟩

/-! ### chunkenc_CounterResetHintToHeader: function 34 -/
def chunkenc_CounterResetHintToHeader.f (a0 : Int) : Option (Int) := if a0 = 1 then (some 128) else (if a0 = 2 then (some 64) else (if a0 = 3 then (some 192) else (some 0)))
set_option maxHeartbeats 8000000 in
set_option maxRecDepth 100000 in
theorem chunkenc_CounterResetHintToHeader.calls (a0 : Int) (r : Int) (w : World) (h : chunkenc_CounterResetHintToHeader.f a0 = some r) :
    Calls Try.prog 34 #[.int .u8 a0] w fun e w' => e = .returned (.int .u8 r) ∧ Drawn0 w w' := by
  have H : (if a0 = 1 then (some 128) else (if a0 = 2 then (some 64) else (if a0 = 3 then (some 192) else (some 0)))) = some r := h
  clear h
  by_cases c2 : a0 = 1
  · rw [if_pos c2] at H
    have c2b0 : (a0 == 1) = true := beq_iff_eq.mpr c2
    have c2b1 : (a0 != 1) = false := bne_eq_false_iff_eq.mpr c2
    clear c2
    obtain rfl := Option.some.inj H
    go_enter Try.func34, Try.ntmps34
    go_wp2
    go_ret
    exact ⟨by first | rfl | (simp; done) | (simp [*]; done), by repeat (first | exact Drawn0.refl _ | apply Drawn0.step)⟩
  · rw [if_neg c2] at H
    have c2b0 : (a0 == 1) = false := beq_eq_false_iff_ne.mpr c2
    have c2b1 : (a0 != 1) = true := bne_iff_ne.mpr c2
    by_cases c3 : a0 = 2
    · rw [if_pos c3] at H
      have c3b0 : (a0 == 2) = true := beq_iff_eq.mpr c3
      have c3b1 : (a0 != 2) = false := bne_eq_false_iff_eq.mpr c3
      clear c3
      obtain rfl := Option.some.inj H
      go_enter Try.func34, Try.ntmps34
      go_wp2
      go_ret
      exact ⟨by first | rfl | (simp; done) | (simp [*]; done), by repeat (first | exact Drawn0.refl _ | apply Drawn0.step)⟩
    · rw [if_neg c3] at H
      have c3b0 : (a0 == 2) = false := beq_eq_false_iff_ne.mpr c3
      have c3b1 : (a0 != 2) = true := bne_iff_ne.mpr c3
      by_cases c4 : a0 = 3
      · rw [if_pos c4] at H
        have c4b0 : (a0 == 3) = true := beq_iff_eq.mpr c4
        have c4b1 : (a0 != 3) = false := bne_eq_false_iff_eq.mpr c4
        clear c4
        obtain rfl := Option.some.inj H
        go_enter Try.func34, Try.ntmps34
        go_wp2
        go_ret
        exact ⟨by first | rfl | (simp; done) | (simp [*]; done), by repeat (first | exact Drawn0.refl _ | apply Drawn0.step)⟩
      · rw [if_neg c4] at H
        have c4b0 : (a0 == 3) = false := beq_eq_false_iff_ne.mpr c4
        have c4b1 : (a0 != 3) = true := bne_iff_ne.mpr c4
        obtain rfl := Option.some.inj H
        go_enter Try.func34, Try.ntmps34
        go_wp2
        go_ret
        exact ⟨by first | rfl | (simp; done) | (simp [*]; done), by repeat (first | exact Drawn0.refl _ | apply Drawn0.step)⟩

/-! ### impl_HintHeader: function 12 -/
def impl_HintHeader.f (a0 : Int) : Option (Int) := (chunkenc_CounterResetHintToHeader.f a0).bind fun t101 => ((impl_reset.f t101).bind fun t102 => (some t102))
set_option maxHeartbeats 8000000 in
set_option maxRecDepth 100000 in
theorem impl_HintHeader.calls (a0 : Int) (r : Int) (w : World) (h : impl_HintHeader.f a0 = some r) :
    Calls Try.prog 12 #[.int .u8 a0] w fun e w' => e = .returned (.int .i64 r) ∧ Drawn0 w w' := by
  have H : ((chunkenc_CounterResetHintToHeader.f a0).bind fun t101 => ((impl_reset.f t101).bind fun t102 => (some t102))) = some r := h
  clear h
  replace H := Option.bind_eq_some_iff.mp H
  obtain ⟨t101, A20, H⟩ := H
  replace H : ((impl_reset.f t101).bind fun t102 => (some t102)) = some r := H
  have A2 := Aside0.mk A20
  clear A20
  replace H := Option.bind_eq_some_iff.mp H
  obtain ⟨t102, A30, H⟩ := H
  replace H : (some t102) = some r := H
  have A3 := Aside0.mk A30
  clear A30
  obtain rfl := Option.some.inj H
  go_enter Try.func12, Try.ntmps12
  go_wp2_with (first | ((with_reducible refine gate_callee (f := 34) rfl ?_); refine goesL_ (some 4) rfl rfl Try.func34 (by kernel_rfl) rfl #[.int .u8 a0] rfl (by (try simp only [List.map_toArray, List.map_cons, List.map_nil]); first | done | rfl | (simp only [List.length_drop, List.length_take]; rfl)) ?_; (with_reducible refine (chunkenc_CounterResetHintToHeader.calls a0 t101 _ A2.out).mono ?_); rintro e w' ⟨rfl, ⟨nd, rfl⟩⟩; refine ⟨_, rfl, ?_⟩) | ((with_reducible refine gate_callee (f := 33) rfl ?_); refine goesL_ (some 5) rfl rfl Try.func33 (by kernel_rfl) rfl #[.int .u8 t101] rfl (by (try simp only [List.map_toArray, List.map_cons, List.map_nil]); first | done | rfl | (simp only [List.length_drop, List.length_take]; rfl)) ?_; (with_reducible refine (impl_reset.calls t101 t102 _ A3.out).mono ?_); rintro e w' ⟨rfl, ⟨nd, rfl⟩⟩; refine ⟨_, rfl, ?_⟩))
  go_ret
  exact ⟨by first | rfl | (simp; done) | (simp [*]; done), by repeat (first | exact Drawn0.refl _ | apply Drawn0.step)⟩

/-! ### laws_FnHintHeader: function 4 -/
def laws_FnHintHeader.f (a0 : Int) : Option (Bool) := if a0 > 3 then ((impl_HintHeader.f 1).bind fun t103 => (if t103 = 1 then ((impl_HintHeader.f a0).bind fun t104 => (some (t104 == 0))) else (some false))) else ((impl_HintHeader.f 1).bind fun t105 => (if t105 = 1 then ((impl_HintHeader.f a0).bind fun t106 => (some (t106 == (wrap64 (a0))))) else (some false)))
set_option maxHeartbeats 8000000 in
set_option maxRecDepth 100000 in
theorem laws_FnHintHeader.calls (a0 : Int) (r : Bool) (w : World) (h : laws_FnHintHeader.f a0 = some r) :
    Calls Try.prog 4 #[.int .u8 a0] w fun e w' => e = .returned (.bool r) ∧ Drawn0 w w' := by
  have H : (if a0 > 3 then ((impl_HintHeader.f 1).bind fun t103 => (if t103 = 1 then ((impl_HintHeader.f a0).bind fun t104 => (some (t104 == 0))) else (some false))) else ((impl_HintHeader.f 1).bind fun t105 => (if t105 = 1 then ((impl_HintHeader.f a0).bind fun t106 => (some (t106 == (wrap64 (a0))))) else (some false)))) = some r := h
  clear h
  by_cases c2 : a0 > 3
  · rw [if_pos c2] at H
    have c2b0 : decide (3 < a0) = true := decide_eq_true c2
    clear c2
    replace H := Option.bind_eq_some_iff.mp H
    obtain ⟨t103, A30, H⟩ := H
    replace H : (if t103 = 1 then ((impl_HintHeader.f a0).bind fun t104 => (some (t104 == 0))) else (some false)) = some r := H
    have A3 := Aside0.mk A30
    clear A30
    by_cases c4 : t103 = 1
    · rw [if_pos c4] at H
      have c4b0 : (t103 == 1) = true := beq_iff_eq.mpr c4
      have c4b1 : (t103 != 1) = false := bne_eq_false_iff_eq.mpr c4
      clear c4
      replace H := Option.bind_eq_some_iff.mp H
      obtain ⟨t104, A50, H⟩ := H
      replace H : (some (t104 == 0)) = some r := H
      have A5 := Aside0.mk A50
      clear A50
      obtain rfl := Option.some.inj H
      go_enter Try.func4, Try.ntmps4
      go_wp2_with (first | ((with_reducible refine gate_callee (f := 12) rfl ?_); refine goesL_ (some 8) rfl rfl Try.func12 (by kernel_rfl) rfl #[.int .u8 1] rfl (by (try simp only [List.map_toArray, List.map_cons, List.map_nil]); first | done | rfl | (simp only [List.length_drop, List.length_take]; rfl)) ?_; (with_reducible refine (impl_HintHeader.calls 1 t103 _ A3.out).mono ?_); rintro e w' ⟨rfl, ⟨nd, rfl⟩⟩; refine ⟨_, rfl, ?_⟩) | (go_at_call 12; (with_reducible refine (impl_HintHeader.calls a0 t104 _ A5.out).mono ?_); rintro e w' ⟨rfl, ⟨nd, rfl⟩⟩))
      go_ret
      exact ⟨by first | rfl | (simp; done) | (simp [*]; done), by repeat (first | exact Drawn0.refl _ | apply Drawn0.step)⟩
    · rw [if_neg c4] at H
      have c4b0 : (t103 == 1) = false := beq_eq_false_iff_ne.mpr c4
      have c4b1 : (t103 != 1) = true := bne_iff_ne.mpr c4
      obtain rfl := Option.some.inj H
      go_enter Try.func4, Try.ntmps4
      go_wp2_with (first | ((with_reducible refine gate_callee (f := 12) rfl ?_); refine goesL_ (some 8) rfl rfl Try.func12 (by kernel_rfl) rfl #[.int .u8 1] rfl (by (try simp only [List.map_toArray, List.map_cons, List.map_nil]); first | done | rfl | (simp only [List.length_drop, List.length_take]; rfl)) ?_; (with_reducible refine (impl_HintHeader.calls 1 t103 _ A3.out).mono ?_); rintro e w' ⟨rfl, ⟨nd, rfl⟩⟩; refine ⟨_, rfl, ?_⟩))
      go_ret
      exact ⟨by first | rfl | (simp; done) | (simp [*]; done), by repeat (first | exact Drawn0.refl _ | apply Drawn0.step)⟩
  · rw [if_neg c2] at H
    have c2b0 : decide (3 < a0) = false := decide_eq_false c2
    clear c2
    replace H := Option.bind_eq_some_iff.mp H
    obtain ⟨t105, A60, H⟩ := H
    replace H : (if t105 = 1 then ((impl_HintHeader.f a0).bind fun t106 => (some (t106 == (wrap64 (a0))))) else (some false)) = some r := H
    have A6 := Aside0.mk A60
    clear A60
    by_cases c7 : t105 = 1
    · rw [if_pos c7] at H
      have c7b0 : (t105 == 1) = true := beq_iff_eq.mpr c7
      have c7b1 : (t105 != 1) = false := bne_eq_false_iff_eq.mpr c7
      clear c7
      replace H := Option.bind_eq_some_iff.mp H
      obtain ⟨t106, A80, H⟩ := H
      replace H : (some (t106 == (wrap64 (a0)))) = some r := H
      have A8 := Aside0.mk A80
      clear A80
      obtain rfl := Option.some.inj H
      go_enter Try.func4, Try.ntmps4
      go_wp2_with (first | ((with_reducible refine gate_callee (f := 12) rfl ?_); refine goesL_ (some 8) rfl rfl Try.func12 (by kernel_rfl) rfl #[.int .u8 1] rfl (by (try simp only [List.map_toArray, List.map_cons, List.map_nil]); first | done | rfl | (simp only [List.length_drop, List.length_take]; rfl)) ?_; (with_reducible refine (impl_HintHeader.calls 1 t105 _ A6.out).mono ?_); rintro e w' ⟨rfl, ⟨nd, rfl⟩⟩; refine ⟨_, rfl, ?_⟩) | (go_at_call 12; (with_reducible refine (impl_HintHeader.calls a0 t106 _ A8.out).mono ?_); rintro e w' ⟨rfl, ⟨nd, rfl⟩⟩))
      go_ret
      exact ⟨by first | rfl | (simp; done) | (simp [*]; done), by repeat (first | exact Drawn0.refl _ | apply Drawn0.step)⟩
    · rw [if_neg c7] at H
      have c7b0 : (t105 == 1) = false := beq_eq_false_iff_ne.mpr c7
      have c7b1 : (t105 != 1) = true := bne_iff_ne.mpr c7
      obtain rfl := Option.some.inj H
      go_enter Try.func4, Try.ntmps4
      go_wp2_with (first | ((with_reducible refine gate_callee (f := 12) rfl ?_); refine goesL_ (some 8) rfl rfl Try.func12 (by kernel_rfl) rfl #[.int .u8 1] rfl (by (try simp only [List.map_toArray, List.map_cons, List.map_nil]); first | done | rfl | (simp only [List.length_drop, List.length_take]; rfl)) ?_; (with_reducible refine (impl_HintHeader.calls 1 t105 _ A6.out).mono ?_); rintro e w' ⟨rfl, ⟨nd, rfl⟩⟩; refine ⟨_, rfl, ?_⟩))
      go_ret
      exact ⟨by first | rfl | (simp; done) | (simp [*]; done), by repeat (first | exact Drawn0.refl _ | apply Drawn0.step)⟩

/-- THE ONE PURE STATEMENT of laws_FnHintHeader: yours. -/
def laws_FnHintHeader.Pure : Prop := ∀ (a0 : Int), (Lit.int .u8 a0).wf = true → laws_FnHintHeader.f a0 = some true
theorem laws_FnHintHeader.walk (P : laws_FnHintHeader.Pure) (a0 : Int) (w : World) (w0 : (Lit.int .u8 a0).wf = true) :
    Calls Try.prog 4 #[.int .u8 a0] w fun e w' => e = .returned (.bool true) ∧ Below w.heap.size w w' := by
  have h := P a0 w0
  refine (laws_FnHintHeader.calls a0 true w h).mono ?_
  rintro e w' ⟨rfl, hd⟩
  exact ⟨rfl, hd.below⟩

end Go.Proofs.Ytdinjpemofkdaaa.PFnHintHeader
