-- PRINTED BY print.sh 35421559b90ae4d0a3588c463048766b98c2df88dd9212a6774a882060cdf62d: not written by this session
import Derived.Test.YtdinjpemofkdaaaPFnKindsx0
namespace Go.Proofs.Ytdinjpemofkdaaa.PFnKinds
open Go.RowKit Go.Proofs.YtdinjpemofkdaaaW.PrintWords Go.Proofs.YtdinjpemofkdaaaW.PrintLast Go.Proofs.YtdinjpemofkdaaaW.PrintMore
attribute [local go_sem] max2_int min2_int max_two min_two max_three min_three max_four min_four   -- for this text's walks alone
set_option linter.unusedVariables false
set_option linter.unusedSimpArgs false

/-! ### chunkenc_Encoding_String: function 47 -/
def chunkenc_Encoding_String.f (a0 : Int) : Option (ByteArray) := if a0 = 0 then (some (⟨#[110, 111, 110, 101]⟩ : ByteArray)) else (if a0 = 1 then (some (⟨#[88, 79, 82]⟩ : ByteArray)) else (if a0 = 2 then (some (⟨#[104, 105, 115, 116, 111, 103, 114, 97, 109]⟩ : ByteArray)) else (if a0 = 3 then (some (⟨#[102, 108, 111, 97, 116, 104, 105, 115, 116, 111, 103, 114, 97, 109]⟩ : ByteArray)) else (some (⟨#[60, 117, 110, 107, 110, 111, 119, 110, 62]⟩ : ByteArray)))))
set_option maxHeartbeats 8000000 in
set_option maxRecDepth 100000 in
theorem chunkenc_Encoding_String.calls (a0 : Int) (r : ByteArray) (w : World) (h : chunkenc_Encoding_String.f a0 = some r) :
    Calls Try.prog 47 #[.int .u8 a0] w fun e w' => e = .returned (.string r) ∧ Drawn0 w w' := by
  have H : (if a0 = 0 then (some (⟨#[110, 111, 110, 101]⟩ : ByteArray)) else (if a0 = 1 then (some (⟨#[88, 79, 82]⟩ : ByteArray)) else (if a0 = 2 then (some (⟨#[104, 105, 115, 116, 111, 103, 114, 97, 109]⟩ : ByteArray)) else (if a0 = 3 then (some (⟨#[102, 108, 111, 97, 116, 104, 105, 115, 116, 111, 103, 114, 97, 109]⟩ : ByteArray)) else (some (⟨#[60, 117, 110, 107, 110, 111, 119, 110, 62]⟩ : ByteArray)))))) = some r := h
  clear h
  by_cases c2 : a0 = 0
  · rw [if_pos c2] at H
    have c2b0 : (a0 == 0) = true := beq_iff_eq.mpr c2
    have c2b1 : (a0 != 0) = false := bne_eq_false_iff_eq.mpr c2
    clear c2
    obtain rfl := Option.some.inj H
    go_enter Try.func47, Try.ntmps47
    go_wp2
    go_ret
    exact ⟨by first | rfl | (simp; done) | (simp [*]; done), by repeat (first | exact Drawn0.refl _ | apply Drawn0.step)⟩
  · rw [if_neg c2] at H
    have c2b0 : (a0 == 0) = false := beq_eq_false_iff_ne.mpr c2
    have c2b1 : (a0 != 0) = true := bne_iff_ne.mpr c2
    by_cases c3 : a0 = 1
    · rw [if_pos c3] at H
      have c3b0 : (a0 == 1) = true := beq_iff_eq.mpr c3
      have c3b1 : (a0 != 1) = false := bne_eq_false_iff_eq.mpr c3
      clear c3
      obtain rfl := Option.some.inj H
      go_enter Try.func47, Try.ntmps47
      go_wp2
      go_ret
      exact ⟨by first | rfl | (simp; done) | (simp [*]; done), by repeat (first | exact Drawn0.refl _ | apply Drawn0.step)⟩
    · rw [if_neg c3] at H
      have c3b0 : (a0 == 1) = false := beq_eq_false_iff_ne.mpr c3
      have c3b1 : (a0 != 1) = true := bne_iff_ne.mpr c3
      by_cases c4 : a0 = 2
      · rw [if_pos c4] at H
        have c4b0 : (a0 == 2) = true := beq_iff_eq.mpr c4
        have c4b1 : (a0 != 2) = false := bne_eq_false_iff_eq.mpr c4
        clear c4
        obtain rfl := Option.some.inj H
        go_enter Try.func47, Try.ntmps47
        go_wp2
        go_ret
        exact ⟨by first | rfl | (simp; done) | (simp [*]; done), by repeat (first | exact Drawn0.refl _ | apply Drawn0.step)⟩
      · rw [if_neg c4] at H
        have c4b0 : (a0 == 2) = false := beq_eq_false_iff_ne.mpr c4
        have c4b1 : (a0 != 2) = true := bne_iff_ne.mpr c4
        by_cases c5 : a0 = 3
        · rw [if_pos c5] at H
          have c5b0 : (a0 == 3) = true := beq_iff_eq.mpr c5
          have c5b1 : (a0 != 3) = false := bne_eq_false_iff_eq.mpr c5
          clear c5
          obtain rfl := Option.some.inj H
          go_enter Try.func47, Try.ntmps47
          go_wp2
          go_ret
          exact ⟨by first | rfl | (simp; done) | (simp [*]; done), by repeat (first | exact Drawn0.refl _ | apply Drawn0.step)⟩
        · rw [if_neg c5] at H
          have c5b0 : (a0 == 3) = false := beq_eq_false_iff_ne.mpr c5
          have c5b1 : (a0 != 3) = true := bne_iff_ne.mpr c5
          obtain rfl := Option.some.inj H
          go_enter Try.func47, Try.ntmps47
          go_wp2
          go_ret
          exact ⟨by first | rfl | (simp; done) | (simp [*]; done), by repeat (first | exact Drawn0.refl _ | apply Drawn0.step)⟩

/-! ### impl_EncodingText: function 25 -/
def impl_EncodingText.f (a0 : Int) : Option (ByteArray) := if a0 < 0 then (some (⟨#[]⟩ : ByteArray)) else (if a0 > 255 then (some (⟨#[]⟩ : ByteArray)) else ((chunkenc_Encoding_String.f ((a0) % 256)).bind fun t101 => (some t101)))
set_option maxHeartbeats 8000000 in
set_option maxRecDepth 100000 in
theorem impl_EncodingText.calls (a0 : Int) (r : ByteArray) (w : World) (h : impl_EncodingText.f a0 = some r) :
    Calls Try.prog 25 #[.int .i64 a0] w fun e w' => e = .returned (.string r) ∧ Drawn0 w w' := by
  have H : (if a0 < 0 then (some (⟨#[]⟩ : ByteArray)) else (if a0 > 255 then (some (⟨#[]⟩ : ByteArray)) else ((chunkenc_Encoding_String.f ((a0) % 256)).bind fun t101 => (some t101)))) = some r := h
  clear h
  by_cases c2 : a0 < 0
  · rw [if_pos c2] at H
    have c2b0 : decide (a0 < 0) = true := decide_eq_true c2
    clear c2
    obtain rfl := Option.some.inj H
    go_enter Try.func25, Try.ntmps25
    go_wp2
    go_ret
    exact ⟨by first | rfl | (simp; done) | (simp [*]; done), by repeat (first | exact Drawn0.refl _ | apply Drawn0.step)⟩
  · rw [if_neg c2] at H
    have c2b0 : decide (a0 < 0) = false := decide_eq_false c2
    clear c2
    by_cases c3 : a0 > 255
    · rw [if_pos c3] at H
      have c3b0 : decide (255 < a0) = true := decide_eq_true c3
      clear c3
      obtain rfl := Option.some.inj H
      go_enter Try.func25, Try.ntmps25
      go_wp2
      go_ret
      exact ⟨by first | rfl | (simp; done) | (simp [*]; done), by repeat (first | exact Drawn0.refl _ | apply Drawn0.step)⟩
    · rw [if_neg c3] at H
      have c3b0 : decide (255 < a0) = false := decide_eq_false c3
      clear c3
      replace H := Option.bind_eq_some_iff.mp H
      obtain ⟨t101, A40, H⟩ := H
      replace H : (some t101) = some r := H
      have A4 := Aside0.mk A40
      clear A40
      obtain rfl := Option.some.inj H
      go_enter Try.func25, Try.ntmps25
      go_wp2_with (first | ((with_reducible refine gate_callee (f := 47) rfl ?_); refine goesL_ (some 11) rfl rfl Try.func47 (by kernel_rfl) rfl #[.int .u8 ((a0) % 256)] rfl (by (try simp only [List.map_toArray, List.map_cons, List.map_nil]); first | done | rfl | (simp only [List.length_drop, List.length_take]; rfl)) ?_; (with_reducible refine (chunkenc_Encoding_String.calls ((a0) % 256) t101 _ A4.out).mono ?_); rintro e w' ⟨rfl, ⟨nd, rfl⟩⟩; refine ⟨_, rfl, ?_⟩))
      go_ret
      exact ⟨by first | rfl | (simp; done) | (simp [*]; done), by repeat (first | exact Drawn0.refl _ | apply Drawn0.step)⟩

/-! ### spec_EncodingText: function 26 -/
def spec_EncodingText.f (a0 : Int) : Option (ByteArray) := if a0 < 0 then (some (⟨#[60, 117, 110, 107, 110, 111, 119, 110, 62]⟩ : ByteArray)) else (if a0 > 3 then (some (⟨#[60, 117, 110, 107, 110, 111, 119, 110, 62]⟩ : ByteArray)) else ((some (([(⟨#[110, 111, 110, 101]⟩ : ByteArray), (⟨#[88, 79, 82]⟩ : ByteArray), (⟨#[104, 105, 115, 116, 111, 103, 114, 97, 109]⟩ : ByteArray), (⟨#[102, 108, 111, 97, 116, 104, 105, 115, 116, 111, 103, 114, 97, 109]⟩ : ByteArray)] : List ByteArray) : List ByteArray)).bind fun y102 => (if 0 ≤ a0 then (if a0 < (y102.length : Int) then (some (rdOf ByteArray.empty y102 a0)) else (none)) else (none))))
set_option maxHeartbeats 8000000 in
set_option maxRecDepth 100000 in
theorem spec_EncodingText.calls (a0 : Int) (r : ByteArray) (w : World) (h : spec_EncodingText.f a0 = some r) :
    Calls Try.prog 26 #[.int .i64 a0] w fun e w' => e = .returned (.string r) ∧ Below w.heap.size w w' := by
  have HB := Aside0.mk (Below.refl w.heap.size w)
  have H : (if a0 < 0 then (some (⟨#[60, 117, 110, 107, 110, 111, 119, 110, 62]⟩ : ByteArray)) else (if a0 > 3 then (some (⟨#[60, 117, 110, 107, 110, 111, 119, 110, 62]⟩ : ByteArray)) else ((some (([(⟨#[110, 111, 110, 101]⟩ : ByteArray), (⟨#[88, 79, 82]⟩ : ByteArray), (⟨#[104, 105, 115, 116, 111, 103, 114, 97, 109]⟩ : ByteArray), (⟨#[102, 108, 111, 97, 116, 104, 105, 115, 116, 111, 103, 114, 97, 109]⟩ : ByteArray)] : List ByteArray) : List ByteArray)).bind fun y102 => (if 0 ≤ a0 then (if a0 < (y102.length : Int) then (some (rdOf ByteArray.empty y102 a0)) else (none)) else (none))))) = some r := h
  clear h
  by_cases c2 : a0 < 0
  · rw [if_pos c2] at H
    have c2b0 : decide (a0 < 0) = true := decide_eq_true c2
    clear c2
    obtain rfl := Option.some.inj H
    go_enter Try.func26, Try.ntmps26
    go_wp2
    go_ret
    exact ⟨by first | rfl | (simp [errW_none, errW_some] <;> rfl) | (simp [*, errW_none, errW_some] <;> rfl), by repeat (first | (with_reducible first | exact HB.out | apply below_alloc | apply pw_below_drewN | apply below_drew1) | exact HB.out)⟩
  · rw [if_neg c2] at H
    have c2b0 : decide (a0 < 0) = false := decide_eq_false c2
    clear c2
    by_cases c3 : a0 > 3
    · rw [if_pos c3] at H
      have c3b0 : decide (3 < a0) = true := decide_eq_true c3
      clear c3
      obtain rfl := Option.some.inj H
      go_enter Try.func26, Try.ntmps26
      go_wp2
      go_ret
      exact ⟨by first | rfl | (simp [errW_none, errW_some] <;> rfl) | (simp [*, errW_none, errW_some] <;> rfl), by repeat (first | (with_reducible first | exact HB.out | apply below_alloc | apply pw_below_drewN | apply below_drew1) | exact HB.out)⟩
    · rw [if_neg c3] at H
      have c3b0 : decide (3 < a0) = false := decide_eq_false c3
      clear c3
      obtain ⟨y102, hy102⟩ : ∃ y_ : List ByteArray, y_ = (([(⟨#[110, 111, 110, 101]⟩ : ByteArray), (⟨#[88, 79, 82]⟩ : ByteArray), (⟨#[104, 105, 115, 116, 111, 103, 114, 97, 109]⟩ : ByteArray), (⟨#[102, 108, 111, 97, 116, 104, 105, 115, 116, 111, 103, 114, 97, 109]⟩ : ByteArray)] : List ByteArray)) := ⟨_, rfl⟩
      replace H : (if 0 ≤ a0 then (if a0 < (y102.length : Int) then (some (rdOf ByteArray.empty y102 a0)) else (none)) else (none)) = some r := by first | (rw [hy102]; with_reducible exact H) | (have H2_ := (Option.bind_some _ _).symm.trans H; rw [hy102]; with_reducible exact H2_) | (have H2_ := (Option.bind_some _ _).symm.trans H; with_reducible exact H2_) | with_reducible exact H | (rw [hy102]; exact H) | exact H
      have Ny102 := Aside0.mk hy102
      clear hy102
      by_cases c4 : 0 ≤ a0
      · rw [if_pos c4] at H
        have c4b0 : decide (0 ≤ a0) = true := decide_eq_true c4
        clear c4
        by_cases c5 : a0 < (y102.length : Int)
        · rw [if_pos c5] at H
          have c5b0 : decide (a0 < (y102.length : Int)) = true := decide_eq_true c5
          clear c5
          obtain rfl := Option.some.inj H
          go_enter Try.func26, Try.ntmps26
          go_wp2_with (first | ((with_reducible refine gate_dst (N := 9) rfl ?_); refine Kd.R_lit Kd.string _ 9 ?hg (N := 9) ?hd (xs := ([(⟨#[110, 111, 110, 101]⟩ : ByteArray), (⟨#[88, 79, 82]⟩ : ByteArray), (⟨#[104, 105, 115, 116, 111, 103, 114, 97, 109]⟩ : ByteArray), (⟨#[102, 108, 111, 97, 116, 104, 105, 115, 116, 111, 103, 114, 97, 109]⟩ : ByteArray)] : List ByteArray)) (inner := [.string (⟨#[110, 111, 110, 101]⟩ : ByteArray), .string (⟨#[88, 79, 82]⟩ : ByteArray), .string (⟨#[104, 105, 115, 116, 111, 103, 114, 97, 109]⟩ : ByteArray), .string (⟨#[102, 108, 111, 97, 116, 104, 105, 115, 116, 111, 103, 114, 97, 109]⟩ : ByteArray)]) (ok := fun _ => True) (okp := fun _ => True) ?hr ?hp (fun _ hk => hk) trivial (Below.refl _ _) (Nat.le_refl _) (by simp) ?_; (case hd => rfl); (case hg => rfl); (case hr => first | (go_simp; done) | (go_simp; rfl)); (case hp => exact (Reps.one (show Kd.M Kd.string _ _ _ (⟨#[110, 111, 110, 101]⟩ : ByteArray) [.string (⟨#[110, 111, 110, 101]⟩ : ByteArray)] from rfl) (Reps.one (show Kd.M Kd.string _ _ _ (⟨#[88, 79, 82]⟩ : ByteArray) [.string (⟨#[88, 79, 82]⟩ : ByteArray)] from rfl) (Reps.one (show Kd.M Kd.string _ _ _ (⟨#[104, 105, 115, 116, 111, 103, 114, 97, 109]⟩ : ByteArray) [.string (⟨#[104, 105, 115, 116, 111, 103, 114, 97, 109]⟩ : ByteArray)] from rfl) (Reps.one (show Kd.M Kd.string _ _ _ (⟨#[102, 108, 111, 97, 116, 104, 105, 115, 116, 111, 103, 114, 97, 109]⟩ : ByteArray) [.string (⟨#[102, 108, 111, 97, 116, 104, 105, 115, 116, 111, 103, 114, 97, 109]⟩ : ByteArray)] from rfl) (Reps.none _ _)))))); intro v103 w6 ho7 hb hg_ hnew_; clear hg_ hnew_; (first | rw [← Ny102.out] at ho7 | (simp only [Int.reduceToNat] at ho7; rw [← Ny102.out] at ho7)); have n0_ := Aside0.mk (Kd.R_lower ho7 (below_size (by repeat (first | (with_reducible first | exact HB.out | apply below_alloc | apply pw_below_drewN | apply below_drew1) | exact HB.out)))); have n1_ := Aside0.mk (below_step (by repeat (first | (with_reducible first | exact HB.out | apply below_alloc | apply pw_below_drewN | apply below_drew1) | exact HB.out)) hb); clear HB; have HO104 := n0_; have HB := n1_; clear n0_ n1_; clear hb ho7; obtain ⟨Ao8, co8, eo8⟩ := Kd.R_slice HO104.out; subst eo8; have p105 : 0 ≤ (a0 : Int) := of_decide_eq_true (by first | (with_reducible assumption) | assumption); have q105 : a0 < (y102.length : Int) := of_decide_eq_true (by first | (with_reducible assumption) | assumption); obtain ⟨ad105, e105, hx105_0⟩ := Kd.at_string (Kd.R_reads' HO104.out).2.2 a0 p105 q105; cases e105; replace p105 := eq_true p105; replace q105 := eq_true q105))
          go_ret
          exact ⟨by first | rfl | (simp [errW_none, errW_some] <;> rfl) | (simp [*, errW_none, errW_some] <;> rfl), by repeat (first | (with_reducible first | exact HB.out | apply below_alloc | apply pw_below_drewN | apply below_drew1) | exact HB.out)⟩
        · rw [if_neg c5] at H
          exact absurd H (by simp)
      · rw [if_neg c4] at H
        exact absurd H (by simp)

/-! ### chunkenc_ValueType_String: function 48 -/
def chunkenc_ValueType_String.f (a0 : Int) : Option (ByteArray) := if a0 = 0 then (some (⟨#[110, 111, 110, 101]⟩ : ByteArray)) else (if a0 = 1 then (some (⟨#[102, 108, 111, 97, 116]⟩ : ByteArray)) else (if a0 = 2 then (some (⟨#[104, 105, 115, 116, 111, 103, 114, 97, 109]⟩ : ByteArray)) else (if a0 = 3 then (some (⟨#[102, 108, 111, 97, 116, 104, 105, 115, 116, 111, 103, 114, 97, 109]⟩ : ByteArray)) else (some (⟨#[117, 110, 107, 110, 111, 119, 110]⟩ : ByteArray)))))
set_option maxHeartbeats 8000000 in
set_option maxRecDepth 100000 in
theorem chunkenc_ValueType_String.calls (a0 : Int) (r : ByteArray) (w : World) (h : chunkenc_ValueType_String.f a0 = some r) :
    Calls Try.prog 48 #[.int .u8 a0] w fun e w' => e = .returned (.string r) ∧ Drawn0 w w' := by
  have H : (if a0 = 0 then (some (⟨#[110, 111, 110, 101]⟩ : ByteArray)) else (if a0 = 1 then (some (⟨#[102, 108, 111, 97, 116]⟩ : ByteArray)) else (if a0 = 2 then (some (⟨#[104, 105, 115, 116, 111, 103, 114, 97, 109]⟩ : ByteArray)) else (if a0 = 3 then (some (⟨#[102, 108, 111, 97, 116, 104, 105, 115, 116, 111, 103, 114, 97, 109]⟩ : ByteArray)) else (some (⟨#[117, 110, 107, 110, 111, 119, 110]⟩ : ByteArray)))))) = some r := h
  clear h
  by_cases c2 : a0 = 0
  · rw [if_pos c2] at H
    have c2b0 : (a0 == 0) = true := beq_iff_eq.mpr c2
    have c2b1 : (a0 != 0) = false := bne_eq_false_iff_eq.mpr c2
    clear c2
    obtain rfl := Option.some.inj H
    go_enter Try.func48, Try.ntmps48
    go_wp2
    go_ret
    exact ⟨by first | rfl | (simp; done) | (simp [*]; done), by repeat (first | exact Drawn0.refl _ | apply Drawn0.step)⟩
  · rw [if_neg c2] at H
    have c2b0 : (a0 == 0) = false := beq_eq_false_iff_ne.mpr c2
    have c2b1 : (a0 != 0) = true := bne_iff_ne.mpr c2
    by_cases c3 : a0 = 1
    · rw [if_pos c3] at H
      have c3b0 : (a0 == 1) = true := beq_iff_eq.mpr c3
      have c3b1 : (a0 != 1) = false := bne_eq_false_iff_eq.mpr c3
      clear c3
      obtain rfl := Option.some.inj H
      go_enter Try.func48, Try.ntmps48
      go_wp2
      go_ret
      exact ⟨by first | rfl | (simp; done) | (simp [*]; done), by repeat (first | exact Drawn0.refl _ | apply Drawn0.step)⟩
    · rw [if_neg c3] at H
      have c3b0 : (a0 == 1) = false := beq_eq_false_iff_ne.mpr c3
      have c3b1 : (a0 != 1) = true := bne_iff_ne.mpr c3
      by_cases c4 : a0 = 2
      · rw [if_pos c4] at H
        have c4b0 : (a0 == 2) = true := beq_iff_eq.mpr c4
        have c4b1 : (a0 != 2) = false := bne_eq_false_iff_eq.mpr c4
        clear c4
        obtain rfl := Option.some.inj H
        go_enter Try.func48, Try.ntmps48
        go_wp2
        go_ret
        exact ⟨by first | rfl | (simp; done) | (simp [*]; done), by repeat (first | exact Drawn0.refl _ | apply Drawn0.step)⟩
      · rw [if_neg c4] at H
        have c4b0 : (a0 == 2) = false := beq_eq_false_iff_ne.mpr c4
        have c4b1 : (a0 != 2) = true := bne_iff_ne.mpr c4
        by_cases c5 : a0 = 3
        · rw [if_pos c5] at H
          have c5b0 : (a0 == 3) = true := beq_iff_eq.mpr c5
          have c5b1 : (a0 != 3) = false := bne_eq_false_iff_eq.mpr c5
          clear c5
          obtain rfl := Option.some.inj H
          go_enter Try.func48, Try.ntmps48
          go_wp2
          go_ret
          exact ⟨by first | rfl | (simp; done) | (simp [*]; done), by repeat (first | exact Drawn0.refl _ | apply Drawn0.step)⟩
        · rw [if_neg c5] at H
          have c5b0 : (a0 == 3) = false := beq_eq_false_iff_ne.mpr c5
          have c5b1 : (a0 != 3) = true := bne_iff_ne.mpr c5
          obtain rfl := Option.some.inj H
          go_enter Try.func48, Try.ntmps48
          go_wp2
          go_ret
          exact ⟨by first | rfl | (simp; done) | (simp [*]; done), by repeat (first | exact Drawn0.refl _ | apply Drawn0.step)⟩

/-! ### impl_ValueText: function 27 -/
def impl_ValueText.f (a0 : Int) : Option (ByteArray) := if a0 < 0 then (some (⟨#[]⟩ : ByteArray)) else (if a0 > 255 then (some (⟨#[]⟩ : ByteArray)) else ((chunkenc_ValueType_String.f ((a0) % 256)).bind fun t106 => (some t106)))
set_option maxHeartbeats 8000000 in
set_option maxRecDepth 100000 in
theorem impl_ValueText.calls (a0 : Int) (r : ByteArray) (w : World) (h : impl_ValueText.f a0 = some r) :
    Calls Try.prog 27 #[.int .i64 a0] w fun e w' => e = .returned (.string r) ∧ Drawn0 w w' := by
  have H : (if a0 < 0 then (some (⟨#[]⟩ : ByteArray)) else (if a0 > 255 then (some (⟨#[]⟩ : ByteArray)) else ((chunkenc_ValueType_String.f ((a0) % 256)).bind fun t106 => (some t106)))) = some r := h
  clear h
  by_cases c2 : a0 < 0
  · rw [if_pos c2] at H
    have c2b0 : decide (a0 < 0) = true := decide_eq_true c2
    clear c2
    obtain rfl := Option.some.inj H
    go_enter Try.func27, Try.ntmps27
    go_wp2
    go_ret
    exact ⟨by first | rfl | (simp; done) | (simp [*]; done), by repeat (first | exact Drawn0.refl _ | apply Drawn0.step)⟩
  · rw [if_neg c2] at H
    have c2b0 : decide (a0 < 0) = false := decide_eq_false c2
    clear c2
    by_cases c3 : a0 > 255
    · rw [if_pos c3] at H
      have c3b0 : decide (255 < a0) = true := decide_eq_true c3
      clear c3
      obtain rfl := Option.some.inj H
      go_enter Try.func27, Try.ntmps27
      go_wp2
      go_ret
      exact ⟨by first | rfl | (simp; done) | (simp [*]; done), by repeat (first | exact Drawn0.refl _ | apply Drawn0.step)⟩
    · rw [if_neg c3] at H
      have c3b0 : decide (255 < a0) = false := decide_eq_false c3
      clear c3
      replace H := Option.bind_eq_some_iff.mp H
      obtain ⟨t106, A40, H⟩ := H
      replace H : (some t106) = some r := H
      have A4 := Aside0.mk A40
      clear A40
      obtain rfl := Option.some.inj H
      go_enter Try.func27, Try.ntmps27
      go_wp2_with (first | ((with_reducible refine gate_callee (f := 48) rfl ?_); refine goesL_ (some 11) rfl rfl Try.func48 (by kernel_rfl) rfl #[.int .u8 ((a0) % 256)] rfl (by (try simp only [List.map_toArray, List.map_cons, List.map_nil]); first | done | rfl | (simp only [List.length_drop, List.length_take]; rfl)) ?_; (with_reducible refine (chunkenc_ValueType_String.calls ((a0) % 256) t106 _ A4.out).mono ?_); rintro e w' ⟨rfl, ⟨nd, rfl⟩⟩; refine ⟨_, rfl, ?_⟩))
      go_ret
      exact ⟨by first | rfl | (simp; done) | (simp [*]; done), by repeat (first | exact Drawn0.refl _ | apply Drawn0.step)⟩

/-! ### spec_ValueText: function 28 -/
def spec_ValueText.f (a0 : Int) : Option (ByteArray) := if a0 < 0 then (some (⟨#[117, 110, 107, 110, 111, 119, 110]⟩ : ByteArray)) else (if a0 > 3 then (some (⟨#[117, 110, 107, 110, 111, 119, 110]⟩ : ByteArray)) else ((some (([(⟨#[110, 111, 110, 101]⟩ : ByteArray), (⟨#[102, 108, 111, 97, 116]⟩ : ByteArray), (⟨#[104, 105, 115, 116, 111, 103, 114, 97, 109]⟩ : ByteArray), (⟨#[102, 108, 111, 97, 116, 104, 105, 115, 116, 111, 103, 114, 97, 109]⟩ : ByteArray)] : List ByteArray) : List ByteArray)).bind fun y107 => (if 0 ≤ a0 then (if a0 < (y107.length : Int) then (some (rdOf ByteArray.empty y107 a0)) else (none)) else (none))))
set_option maxHeartbeats 8000000 in
set_option maxRecDepth 100000 in
theorem spec_ValueText.calls (a0 : Int) (r : ByteArray) (w : World) (h : spec_ValueText.f a0 = some r) :
    Calls Try.prog 28 #[.int .i64 a0] w fun e w' => e = .returned (.string r) ∧ Below w.heap.size w w' := by
  have HB := Aside0.mk (Below.refl w.heap.size w)
  have H : (if a0 < 0 then (some (⟨#[117, 110, 107, 110, 111, 119, 110]⟩ : ByteArray)) else (if a0 > 3 then (some (⟨#[117, 110, 107, 110, 111, 119, 110]⟩ : ByteArray)) else ((some (([(⟨#[110, 111, 110, 101]⟩ : ByteArray), (⟨#[102, 108, 111, 97, 116]⟩ : ByteArray), (⟨#[104, 105, 115, 116, 111, 103, 114, 97, 109]⟩ : ByteArray), (⟨#[102, 108, 111, 97, 116, 104, 105, 115, 116, 111, 103, 114, 97, 109]⟩ : ByteArray)] : List ByteArray) : List ByteArray)).bind fun y107 => (if 0 ≤ a0 then (if a0 < (y107.length : Int) then (some (rdOf ByteArray.empty y107 a0)) else (none)) else (none))))) = some r := h
  clear h
  by_cases c2 : a0 < 0
  · rw [if_pos c2] at H
    have c2b0 : decide (a0 < 0) = true := decide_eq_true c2
    clear c2
    obtain rfl := Option.some.inj H
    go_enter Try.func28, Try.ntmps28
    go_wp2
    go_ret
    exact ⟨by first | rfl | (simp [errW_none, errW_some] <;> rfl) | (simp [*, errW_none, errW_some] <;> rfl), by repeat (first | (with_reducible first | exact HB.out | apply below_alloc | apply pw_below_drewN | apply below_drew1) | exact HB.out)⟩
  · rw [if_neg c2] at H
    have c2b0 : decide (a0 < 0) = false := decide_eq_false c2
    clear c2
    by_cases c3 : a0 > 3
    · rw [if_pos c3] at H
      have c3b0 : decide (3 < a0) = true := decide_eq_true c3
      clear c3
      obtain rfl := Option.some.inj H
      go_enter Try.func28, Try.ntmps28
      go_wp2
      go_ret
      exact ⟨by first | rfl | (simp [errW_none, errW_some] <;> rfl) | (simp [*, errW_none, errW_some] <;> rfl), by repeat (first | (with_reducible first | exact HB.out | apply below_alloc | apply pw_below_drewN | apply below_drew1) | exact HB.out)⟩
    · rw [if_neg c3] at H
      have c3b0 : decide (3 < a0) = false := decide_eq_false c3
      clear c3
      obtain ⟨y107, hy107⟩ : ∃ y_ : List ByteArray, y_ = (([(⟨#[110, 111, 110, 101]⟩ : ByteArray), (⟨#[102, 108, 111, 97, 116]⟩ : ByteArray), (⟨#[104, 105, 115, 116, 111, 103, 114, 97, 109]⟩ : ByteArray), (⟨#[102, 108, 111, 97, 116, 104, 105, 115, 116, 111, 103, 114, 97, 109]⟩ : ByteArray)] : List ByteArray)) := ⟨_, rfl⟩
      replace H : (if 0 ≤ a0 then (if a0 < (y107.length : Int) then (some (rdOf ByteArray.empty y107 a0)) else (none)) else (none)) = some r := by first | (rw [hy107]; with_reducible exact H) | (have H2_ := (Option.bind_some _ _).symm.trans H; rw [hy107]; with_reducible exact H2_) | (have H2_ := (Option.bind_some _ _).symm.trans H; with_reducible exact H2_) | with_reducible exact H | (rw [hy107]; exact H) | exact H
      have Ny107 := Aside0.mk hy107
      clear hy107
      by_cases c4 : 0 ≤ a0
      · rw [if_pos c4] at H
        have c4b0 : decide (0 ≤ a0) = true := decide_eq_true c4
        clear c4
        by_cases c5 : a0 < (y107.length : Int)
        · rw [if_pos c5] at H
          have c5b0 : decide (a0 < (y107.length : Int)) = true := decide_eq_true c5
          clear c5
          obtain rfl := Option.some.inj H
          go_enter Try.func28, Try.ntmps28
          go_wp2_with (first | ((with_reducible refine gate_dst (N := 9) rfl ?_); refine Kd.R_lit Kd.string _ 9 ?hg (N := 9) ?hd (xs := ([(⟨#[110, 111, 110, 101]⟩ : ByteArray), (⟨#[102, 108, 111, 97, 116]⟩ : ByteArray), (⟨#[104, 105, 115, 116, 111, 103, 114, 97, 109]⟩ : ByteArray), (⟨#[102, 108, 111, 97, 116, 104, 105, 115, 116, 111, 103, 114, 97, 109]⟩ : ByteArray)] : List ByteArray)) (inner := [.string (⟨#[110, 111, 110, 101]⟩ : ByteArray), .string (⟨#[102, 108, 111, 97, 116]⟩ : ByteArray), .string (⟨#[104, 105, 115, 116, 111, 103, 114, 97, 109]⟩ : ByteArray), .string (⟨#[102, 108, 111, 97, 116, 104, 105, 115, 116, 111, 103, 114, 97, 109]⟩ : ByteArray)]) (ok := fun _ => True) (okp := fun _ => True) ?hr ?hp (fun _ hk => hk) trivial (Below.refl _ _) (Nat.le_refl _) (by simp) ?_; (case hd => rfl); (case hg => rfl); (case hr => first | (go_simp; done) | (go_simp; rfl)); (case hp => exact (Reps.one (show Kd.M Kd.string _ _ _ (⟨#[110, 111, 110, 101]⟩ : ByteArray) [.string (⟨#[110, 111, 110, 101]⟩ : ByteArray)] from rfl) (Reps.one (show Kd.M Kd.string _ _ _ (⟨#[102, 108, 111, 97, 116]⟩ : ByteArray) [.string (⟨#[102, 108, 111, 97, 116]⟩ : ByteArray)] from rfl) (Reps.one (show Kd.M Kd.string _ _ _ (⟨#[104, 105, 115, 116, 111, 103, 114, 97, 109]⟩ : ByteArray) [.string (⟨#[104, 105, 115, 116, 111, 103, 114, 97, 109]⟩ : ByteArray)] from rfl) (Reps.one (show Kd.M Kd.string _ _ _ (⟨#[102, 108, 111, 97, 116, 104, 105, 115, 116, 111, 103, 114, 97, 109]⟩ : ByteArray) [.string (⟨#[102, 108, 111, 97, 116, 104, 105, 115, 116, 111, 103, 114, 97, 109]⟩ : ByteArray)] from rfl) (Reps.none _ _)))))); intro v108 w6 ho7 hb hg_ hnew_; clear hg_ hnew_; (first | rw [← Ny107.out] at ho7 | (simp only [Int.reduceToNat] at ho7; rw [← Ny107.out] at ho7)); have n0_ := Aside0.mk (Kd.R_lower ho7 (below_size (by repeat (first | (with_reducible first | exact HB.out | apply below_alloc | apply pw_below_drewN | apply below_drew1) | exact HB.out)))); have n1_ := Aside0.mk (below_step (by repeat (first | (with_reducible first | exact HB.out | apply below_alloc | apply pw_below_drewN | apply below_drew1) | exact HB.out)) hb); clear HB; have HO109 := n0_; have HB := n1_; clear n0_ n1_; clear hb ho7; obtain ⟨Ao8, co8, eo8⟩ := Kd.R_slice HO109.out; subst eo8; have p110 : 0 ≤ (a0 : Int) := of_decide_eq_true (by first | (with_reducible assumption) | assumption); have q110 : a0 < (y107.length : Int) := of_decide_eq_true (by first | (with_reducible assumption) | assumption); obtain ⟨ad110, e110, hx110_0⟩ := Kd.at_string (Kd.R_reads' HO109.out).2.2 a0 p110 q110; cases e110; replace p110 := eq_true p110; replace q110 := eq_true q110))
          go_ret
          exact ⟨by first | rfl | (simp [errW_none, errW_some] <;> rfl) | (simp [*, errW_none, errW_some] <;> rfl), by repeat (first | (with_reducible first | exact HB.out | apply below_alloc | apply pw_below_drewN | apply below_drew1) | exact HB.out)⟩
        · rw [if_neg c5] at H
          exact absurd H (by simp)
      · rw [if_neg c4] at H
        exact absurd H (by simp)

/-! ### chunkenc_IsValidEncoding: function 49 -/
def chunkenc_IsValidEncoding.f (a0 : Int) : Option (Bool) := if a0 = 1 then (some true) else (if a0 = 2 then (some true) else (some (a0 == 3)))
set_option maxHeartbeats 8000000 in
set_option maxRecDepth 100000 in
theorem chunkenc_IsValidEncoding.calls (a0 : Int) (r : Bool) (w : World) (h : chunkenc_IsValidEncoding.f a0 = some r) :
    Calls Try.prog 49 #[.int .u8 a0] w fun e w' => e = .returned (.bool r) ∧ Drawn0 w w' := by
  have H : (if a0 = 1 then (some true) else (if a0 = 2 then (some true) else (some (a0 == 3)))) = some r := h
  clear h
  by_cases c2 : a0 = 1
  · rw [if_pos c2] at H
    have c2b0 : (a0 == 1) = true := beq_iff_eq.mpr c2
    have c2b1 : (a0 != 1) = false := bne_eq_false_iff_eq.mpr c2
    clear c2
    obtain rfl := Option.some.inj H
    go_enter Try.func49, Try.ntmps49
    go_wp2
    go_ret
    exact ⟨by first | rfl | (simp; done) | (simp [*]; done), by repeat (first | exact Drawn0.refl _ | apply Drawn0.step)⟩
  · rw [if_neg c2] at H
    have c2b0 : (a0 == 1) = false := beq_eq_false_iff_ne.mpr c2
    have c2b1 : (a0 != 1) = true := bne_iff_ne.mpr c2
    by_cases c3 : a0 = 2
    · rw [if_pos c3] at H
      have c3b0 : (a0 == 2) = true := beq_iff_eq.mpr c3
      have c3b1 : (a0 != 2) = false := bne_eq_false_iff_eq.mpr c3
      clear c3
      obtain rfl := Option.some.inj H
      go_enter Try.func49, Try.ntmps49
      go_wp2
      go_ret
      exact ⟨by first | rfl | (simp; done) | (simp [*]; done), by repeat (first | exact Drawn0.refl _ | apply Drawn0.step)⟩
    · rw [if_neg c3] at H
      have c3b0 : (a0 == 2) = false := beq_eq_false_iff_ne.mpr c3
      have c3b1 : (a0 != 2) = true := bne_iff_ne.mpr c3
      obtain rfl := Option.some.inj H
      go_enter Try.func49, Try.ntmps49
      go_wp2
      go_ret
      exact ⟨by first | rfl | (simp; done) | (simp [*]; done), by repeat (first | exact Drawn0.refl _ | apply Drawn0.step)⟩

/-! ### impl_EncodingValid: function 29 -/
def impl_EncodingValid.f (a0 : Int) : Option (Bool) := if a0 ≥ 0 then (if a0 ≤ 255 then ((chunkenc_IsValidEncoding.f ((a0) % 256)).bind fun t111 => (some t111)) else (some false)) else (some false)
set_option maxHeartbeats 8000000 in
set_option maxRecDepth 100000 in
theorem impl_EncodingValid.calls (a0 : Int) (r : Bool) (w : World) (h : impl_EncodingValid.f a0 = some r) :
    Calls Try.prog 29 #[.int .i64 a0] w fun e w' => e = .returned (.bool r) ∧ Drawn0 w w' := by
  have H : (if a0 ≥ 0 then (if a0 ≤ 255 then ((chunkenc_IsValidEncoding.f ((a0) % 256)).bind fun t111 => (some t111)) else (some false)) else (some false)) = some r := h
  clear h
  by_cases c2 : a0 ≥ 0
  · rw [if_pos c2] at H
    have c2b0 : decide (0 ≤ a0) = true := decide_eq_true c2
    clear c2
    by_cases c3 : a0 ≤ 255
    · rw [if_pos c3] at H
      have c3b0 : decide (a0 ≤ 255) = true := decide_eq_true c3
      clear c3
      replace H := Option.bind_eq_some_iff.mp H
      obtain ⟨t111, A40, H⟩ := H
      replace H : (some t111) = some r := H
      have A4 := Aside0.mk A40
      clear A40
      obtain rfl := Option.some.inj H
      go_enter Try.func29, Try.ntmps29
      go_wp2_with (first | (go_at_call 49; (with_reducible refine (chunkenc_IsValidEncoding.calls ((a0) % 256) t111 _ A4.out).mono ?_); rintro e w' ⟨rfl, ⟨nd, rfl⟩⟩))
      go_ret
      exact ⟨by first | rfl | (simp; done) | (simp [*]; done), by repeat (first | exact Drawn0.refl _ | apply Drawn0.step)⟩
    · rw [if_neg c3] at H
      have c3b0 : decide (a0 ≤ 255) = false := decide_eq_false c3
      clear c3
      obtain rfl := Option.some.inj H
      go_enter Try.func29, Try.ntmps29
      go_wp2
      go_ret
      exact ⟨by first | rfl | (simp; done) | (simp [*]; done), by repeat (first | exact Drawn0.refl _ | apply Drawn0.step)⟩
  · rw [if_neg c2] at H
    have c2b0 : decide (0 ≤ a0) = false := decide_eq_false c2
    clear c2
    obtain rfl := Option.some.inj H
    go_enter Try.func29, Try.ntmps29
    go_wp2
    go_ret
    exact ⟨by first | rfl | (simp; done) | (simp [*]; done), by repeat (first | exact Drawn0.refl _ | apply Drawn0.step)⟩

/-! ### chunkenc_ValueType_ChunkEncoding: function 50 -/
def chunkenc_ValueType_ChunkEncoding.f (a0 : Int) : Option (Int) := if a0 = 1 then (some 1) else (if a0 = 2 then (some 2) else (if a0 = 3 then (some 3) else (some 0)))
set_option maxHeartbeats 8000000 in
set_option maxRecDepth 100000 in
theorem chunkenc_ValueType_ChunkEncoding.calls (a0 : Int) (r : Int) (w : World) (h : chunkenc_ValueType_ChunkEncoding.f a0 = some r) :
    Calls Try.prog 50 #[.int .u8 a0] w fun e w' => e = .returned (.int .u8 r) ∧ Drawn0 w w' := by
  have H : (if a0 = 1 then (some 1) else (if a0 = 2 then (some 2) else (if a0 = 3 then (some 3) else (some 0)))) = some r := h
  clear h
  by_cases c2 : a0 = 1
  · rw [if_pos c2] at H
    have c2b0 : (a0 == 1) = true := beq_iff_eq.mpr c2
    have c2b1 : (a0 != 1) = false := bne_eq_false_iff_eq.mpr c2
    clear c2
    obtain rfl := Option.some.inj H
    go_enter Try.func50, Try.ntmps50
    go_wp2
    go_ret
    exact ⟨by first | rfl | (simp; done) | (simp [*]; done), by repeat (first | exact Drawn0.refl _ | apply Drawn0.step)⟩
  · rw [if_neg c2] at H
    have c2b0 : (a0 == 1) = false := beq_eq_false_iff_ne.mpr c2
    have c2b1 : (a0 != 1) = true := bne_iff_ne.mpr c2
    by_cases c3 : a0 = 2
    · rw [if_pos c3] at H
      have c3b0 : (a0 == 2) = true := beq_iff_eq.mpr c3
      have c3b1 : (a0 != 2) = false := bne_eq_false_iff_eq.mpr c3
      clear c3
      obtain rfl := Option.some.inj H
      go_enter Try.func50, Try.ntmps50
      go_wp2
      go_ret
      exact ⟨by first | rfl | (simp; done) | (simp [*]; done), by repeat (first | exact Drawn0.refl _ | apply Drawn0.step)⟩
    · rw [if_neg c3] at H
      have c3b0 : (a0 == 2) = false := beq_eq_false_iff_ne.mpr c3
      have c3b1 : (a0 != 2) = true := bne_iff_ne.mpr c3
      by_cases c4 : a0 = 3
      · rw [if_pos c4] at H
        have c4b0 : (a0 == 3) = true := beq_iff_eq.mpr c4
        have c4b1 : (a0 != 3) = false := bne_eq_false_iff_eq.mpr c4
        clear c4
        obtain rfl := Option.some.inj H
        go_enter Try.func50, Try.ntmps50
        go_wp2
        go_ret
        exact ⟨by first | rfl | (simp; done) | (simp [*]; done), by repeat (first | exact Drawn0.refl _ | apply Drawn0.step)⟩
      · rw [if_neg c4] at H
        have c4b0 : (a0 == 3) = false := beq_eq_false_iff_ne.mpr c4
        have c4b1 : (a0 != 3) = true := bne_iff_ne.mpr c4
        obtain rfl := Option.some.inj H
        go_enter Try.func50, Try.ntmps50
        go_wp2
        go_ret
        exact ⟨by first | rfl | (simp; done) | (simp [*]; done), by repeat (first | exact Drawn0.refl _ | apply Drawn0.step)⟩

/-! ### impl_ValueEncoding: function 30 -/
def impl_ValueEncoding.f (a0 : Int) : Option (Int) := if a0 < 0 then (some 0) else (if a0 > 255 then (some 0) else ((chunkenc_ValueType_ChunkEncoding.f ((a0) % 256)).bind fun t112 => (some (wrap64 (t112)))))
set_option maxHeartbeats 8000000 in
set_option maxRecDepth 100000 in
theorem impl_ValueEncoding.calls (a0 : Int) (r : Int) (w : World) (h : impl_ValueEncoding.f a0 = some r) :
    Calls Try.prog 30 #[.int .i64 a0] w fun e w' => e = .returned (.int .i64 r) ∧ Drawn0 w w' := by
  have H : (if a0 < 0 then (some 0) else (if a0 > 255 then (some 0) else ((chunkenc_ValueType_ChunkEncoding.f ((a0) % 256)).bind fun t112 => (some (wrap64 (t112)))))) = some r := h
  clear h
  by_cases c2 : a0 < 0
  · rw [if_pos c2] at H
    have c2b0 : decide (a0 < 0) = true := decide_eq_true c2
    clear c2
    obtain rfl := Option.some.inj H
    go_enter Try.func30, Try.ntmps30
    go_wp2
    go_ret
    exact ⟨by first | rfl | (simp; done) | (simp [*]; done), by repeat (first | exact Drawn0.refl _ | apply Drawn0.step)⟩
  · rw [if_neg c2] at H
    have c2b0 : decide (a0 < 0) = false := decide_eq_false c2
    clear c2
    by_cases c3 : a0 > 255
    · rw [if_pos c3] at H
      have c3b0 : decide (255 < a0) = true := decide_eq_true c3
      clear c3
      obtain rfl := Option.some.inj H
      go_enter Try.func30, Try.ntmps30
      go_wp2
      go_ret
      exact ⟨by first | rfl | (simp; done) | (simp [*]; done), by repeat (first | exact Drawn0.refl _ | apply Drawn0.step)⟩
    · rw [if_neg c3] at H
      have c3b0 : decide (255 < a0) = false := decide_eq_false c3
      clear c3
      replace H := Option.bind_eq_some_iff.mp H
      obtain ⟨t112, A40, H⟩ := H
      replace H : (some (wrap64 (t112))) = some r := H
      have A4 := Aside0.mk A40
      clear A40
      obtain rfl := Option.some.inj H
      go_enter Try.func30, Try.ntmps30
      go_wp2_with (first | ((with_reducible refine gate_callee (f := 50) rfl ?_); refine goesL_ (some 11) rfl rfl Try.func50 (by kernel_rfl) rfl #[.int .u8 ((a0) % 256)] rfl (by (try simp only [List.map_toArray, List.map_cons, List.map_nil]); first | done | rfl | (simp only [List.length_drop, List.length_take]; rfl)) ?_; (with_reducible refine (chunkenc_ValueType_ChunkEncoding.calls ((a0) % 256) t112 _ A4.out).mono ?_); rintro e w' ⟨rfl, ⟨nd, rfl⟩⟩; refine ⟨_, rfl, ?_⟩))
      go_ret
      exact ⟨by first | rfl | (simp; done) | (simp [*]; done), by repeat (first | exact Drawn0.refl _ | apply Drawn0.step)⟩

/-! ### laws_FnKinds: function 10 -/
def laws_FnKinds.f (a0 : Int) : Option (Bool) := (impl_EncodingText.f 1).bind fun t113 => (if t113.toList = ([88, 79, 82] : List UInt8) then ((impl_EncodingText.f (wrap64 (a0))).bind fun t114 => ((spec_EncodingText.f (wrap64 (a0))).bind fun t115 => (if t114.toList = t115.toList then ((impl_ValueText.f (wrap64 (a0))).bind fun t116 => ((spec_ValueText.f (wrap64 (a0))).bind fun t117 => (if t116.toList = t117.toList then ((impl_EncodingValid.f (wrap64 (a0))).bind fun t118 => (if (wrap64 (a0)) ≥ 1 then (if (t118 == (decide ((wrap64 (a0)) ≤ 3))) = true then (if (wrap64 (a0)) > 3 then (some true) else ((impl_ValueEncoding.f (wrap64 (a0))).bind fun t119 => (some (t119 == (wrap64 (a0)))))) else (some false)) else (if (t118 == false) = true then (if (wrap64 (a0)) > 3 then (some true) else ((impl_ValueEncoding.f (wrap64 (a0))).bind fun t120 => (some (t120 == (wrap64 (a0)))))) else (some false)))) else (some false)))) else (some false)))) else (some false))
set_option maxHeartbeats 8000000 in
set_option maxRecDepth 100000 in
theorem laws_FnKinds.calls (a0 : Int) (r : Bool) (w : World) (h : laws_FnKinds.f a0 = some r) :
    Calls Try.prog 10 #[.int .u8 a0] w fun e w' => e = .returned (.bool r) ∧ Below w.heap.size w w' := by
  have HB := Aside0.mk (Below.refl w.heap.size w)
  have H : ((impl_EncodingText.f 1).bind fun t113 => (if t113.toList = ([88, 79, 82] : List UInt8) then ((impl_EncodingText.f (wrap64 (a0))).bind fun t114 => ((spec_EncodingText.f (wrap64 (a0))).bind fun t115 => (if t114.toList = t115.toList then ((impl_ValueText.f (wrap64 (a0))).bind fun t116 => ((spec_ValueText.f (wrap64 (a0))).bind fun t117 => (if t116.toList = t117.toList then ((impl_EncodingValid.f (wrap64 (a0))).bind fun t118 => (if (wrap64 (a0)) ≥ 1 then (if (t118 == (decide ((wrap64 (a0)) ≤ 3))) = true then (if (wrap64 (a0)) > 3 then (some true) else ((impl_ValueEncoding.f (wrap64 (a0))).bind fun t119 => (some (t119 == (wrap64 (a0)))))) else (some false)) else (if (t118 == false) = true then (if (wrap64 (a0)) > 3 then (some true) else ((impl_ValueEncoding.f (wrap64 (a0))).bind fun t120 => (some (t120 == (wrap64 (a0)))))) else (some false)))) else (some false)))) else (some false)))) else (some false))) = some r := h
  clear h
  replace H := Option.bind_eq_some_iff.mp H
  obtain ⟨t113, A20, H⟩ := H
  replace H : (if t113.toList = ([88, 79, 82] : List UInt8) then ((impl_EncodingText.f (wrap64 (a0))).bind fun t114 => ((spec_EncodingText.f (wrap64 (a0))).bind fun t115 => (if t114.toList = t115.toList then ((impl_ValueText.f (wrap64 (a0))).bind fun t116 => ((spec_ValueText.f (wrap64 (a0))).bind fun t117 => (if t116.toList = t117.toList then ((impl_EncodingValid.f (wrap64 (a0))).bind fun t118 => (if (wrap64 (a0)) ≥ 1 then (if (t118 == (decide ((wrap64 (a0)) ≤ 3))) = true then (if (wrap64 (a0)) > 3 then (some true) else ((impl_ValueEncoding.f (wrap64 (a0))).bind fun t119 => (some (t119 == (wrap64 (a0)))))) else (some false)) else (if (t118 == false) = true then (if (wrap64 (a0)) > 3 then (some true) else ((impl_ValueEncoding.f (wrap64 (a0))).bind fun t120 => (some (t120 == (wrap64 (a0)))))) else (some false)))) else (some false)))) else (some false)))) else (some false)) = some r := H
  have A2 := Aside0.mk A20
  clear A20
  by_cases c3 : t113.toList = ([88, 79, 82] : List UInt8)
  · rw [if_pos c3] at H
    have c3b0 : (t113.toList == ([88, 79, 82] : List UInt8)) = true := beq_iff_eq.mpr c3
    have c3b1 : (t113.toList != ([88, 79, 82] : List UInt8)) = false := bne_eq_false_iff_eq.mpr c3
    clear c3
    replace H := Option.bind_eq_some_iff.mp H
    obtain ⟨t114, A40, H⟩ := H
    replace H : ((spec_EncodingText.f (wrap64 (a0))).bind fun t115 => (if t114.toList = t115.toList then ((impl_ValueText.f (wrap64 (a0))).bind fun t116 => ((spec_ValueText.f (wrap64 (a0))).bind fun t117 => (if t116.toList = t117.toList then ((impl_EncodingValid.f (wrap64 (a0))).bind fun t118 => (if (wrap64 (a0)) ≥ 1 then (if (t118 == (decide ((wrap64 (a0)) ≤ 3))) = true then (if (wrap64 (a0)) > 3 then (some true) else ((impl_ValueEncoding.f (wrap64 (a0))).bind fun t119 => (some (t119 == (wrap64 (a0)))))) else (some false)) else (if (t118 == false) = true then (if (wrap64 (a0)) > 3 then (some true) else ((impl_ValueEncoding.f (wrap64 (a0))).bind fun t120 => (some (t120 == (wrap64 (a0)))))) else (some false)))) else (some false)))) else (some false))) = some r := H
    have A4 := Aside0.mk A40
    clear A40
    replace H := Option.bind_eq_some_iff.mp H
    obtain ⟨t115, A50, H⟩ := H
    replace H : (if t114.toList = t115.toList then ((impl_ValueText.f (wrap64 (a0))).bind fun t116 => ((spec_ValueText.f (wrap64 (a0))).bind fun t117 => (if t116.toList = t117.toList then ((impl_EncodingValid.f (wrap64 (a0))).bind fun t118 => (if (wrap64 (a0)) ≥ 1 then (if (t118 == (decide ((wrap64 (a0)) ≤ 3))) = true then (if (wrap64 (a0)) > 3 then (some true) else ((impl_ValueEncoding.f (wrap64 (a0))).bind fun t119 => (some (t119 == (wrap64 (a0)))))) else (some false)) else (if (t118 == false) = true then (if (wrap64 (a0)) > 3 then (some true) else ((impl_ValueEncoding.f (wrap64 (a0))).bind fun t120 => (some (t120 == (wrap64 (a0)))))) else (some false)))) else (some false)))) else (some false)) = some r := H
    have A5 := Aside0.mk A50
    clear A50
    by_cases c6 : t114.toList = t115.toList
    · rw [if_pos c6] at H
      have c6b0 : (t114.toList == t115.toList) = true := beq_iff_eq.mpr c6
      have c6b1 : (t114.toList != t115.toList) = false := bne_eq_false_iff_eq.mpr c6
      clear c6
      replace H := Option.bind_eq_some_iff.mp H
      obtain ⟨t116, A70, H⟩ := H
      replace H : ((spec_ValueText.f (wrap64 (a0))).bind fun t117 => (if t116.toList = t117.toList then ((impl_EncodingValid.f (wrap64 (a0))).bind fun t118 => (if (wrap64 (a0)) ≥ 1 then (if (t118 == (decide ((wrap64 (a0)) ≤ 3))) = true then (if (wrap64 (a0)) > 3 then (some true) else ((impl_ValueEncoding.f (wrap64 (a0))).bind fun t119 => (some (t119 == (wrap64 (a0)))))) else (some false)) else (if (t118 == false) = true then (if (wrap64 (a0)) > 3 then (some true) else ((impl_ValueEncoding.f (wrap64 (a0))).bind fun t120 => (some (t120 == (wrap64 (a0)))))) else (some false)))) else (some false))) = some r := H
      have A7 := Aside0.mk A70
      clear A70
      replace H := Option.bind_eq_some_iff.mp H
      obtain ⟨t117, A80, H⟩ := H
      replace H : (if t116.toList = t117.toList then ((impl_EncodingValid.f (wrap64 (a0))).bind fun t118 => (if (wrap64 (a0)) ≥ 1 then (if (t118 == (decide ((wrap64 (a0)) ≤ 3))) = true then (if (wrap64 (a0)) > 3 then (some true) else ((impl_ValueEncoding.f (wrap64 (a0))).bind fun t119 => (some (t119 == (wrap64 (a0)))))) else (some false)) else (if (t118 == false) = true then (if (wrap64 (a0)) > 3 then (some true) else ((impl_ValueEncoding.f (wrap64 (a0))).bind fun t120 => (some (t120 == (wrap64 (a0)))))) else (some false)))) else (some false)) = some r := H
      have A8 := Aside0.mk A80
      clear A80
      by_cases c9 : t116.toList = t117.toList
      · rw [if_pos c9] at H
        have c9b0 : (t116.toList == t117.toList) = true := beq_iff_eq.mpr c9
        have c9b1 : (t116.toList != t117.toList) = false := bne_eq_false_iff_eq.mpr c9
        clear c9
        replace H := Option.bind_eq_some_iff.mp H
        obtain ⟨t118, A100, H⟩ := H
        replace H : (if (wrap64 (a0)) ≥ 1 then (if (t118 == (decide ((wrap64 (a0)) ≤ 3))) = true then (if (wrap64 (a0)) > 3 then (some true) else ((impl_ValueEncoding.f (wrap64 (a0))).bind fun t119 => (some (t119 == (wrap64 (a0)))))) else (some false)) else (if (t118 == false) = true then (if (wrap64 (a0)) > 3 then (some true) else ((impl_ValueEncoding.f (wrap64 (a0))).bind fun t120 => (some (t120 == (wrap64 (a0)))))) else (some false))) = some r := H
        have A10 := Aside0.mk A100
        clear A100
        by_cases c11 : (wrap64 (a0)) ≥ 1
        · rw [if_pos c11] at H
          have c11b0 : decide (1 ≤ (wrap64 (a0))) = true := decide_eq_true c11
          clear c11
          by_cases c12 : (t118 == (decide ((wrap64 (a0)) ≤ 3))) = true
          · rw [if_pos c12] at H
            have c12b0 : (t118 == (decide ((wrap64 (a0)) ≤ 3))) = true := c12
            (try (have c12b1 : decide (t118 = (decide ((wrap64 (a0)) ≤ 3))) = true := by simpa using c12))
            (try (have c12b2 : (t118 == (decide ((wrap64 (a0)) ≤ 3))) = true := by simpa using c12))
            clear c12
            by_cases c13 : (wrap64 (a0)) > 3
            · rw [if_pos c13] at H
              have c13b0 : decide (3 < (wrap64 (a0))) = true := decide_eq_true c13
              clear c13
              obtain rfl := Option.some.inj H
              go_enter Try.func10, Try.ntmps10
              go_wp2_with (first | ((with_reducible refine gate_callee (f := 25) rfl ?_); refine goesL_ (some 6) rfl rfl Try.func25 (by kernel_rfl) rfl #[.int .i64 1] rfl (by (try simp only [List.map_toArray, List.map_cons, List.map_nil]); first | done | rfl | (simp only [List.length_drop, List.length_take]; rfl)) ?_; (with_reducible refine (impl_EncodingText.calls 1 t113 _ A2.out).mono ?_); rintro e w' ⟨rfl, ⟨nd, rfl⟩⟩; refine ⟨_, rfl, ?_⟩) | (go_at_call 25; (with_reducible refine (impl_EncodingText.calls (wrap64 (a0)) t114 _ A4.out).mono ?_); rintro e w' ⟨rfl, ⟨nd, rfl⟩⟩) | (go_at_call 26; (with_reducible refine (spec_EncodingText.calls (wrap64 (a0)) t115 _ A5.out).mono ?_); rintro e w14 ⟨rfl, hb⟩; have n0_ := Aside0.mk (below_step (by repeat (first | (with_reducible first | exact HB.out | apply below_alloc | apply pw_below_drewN | apply below_drew1) | exact HB.out)) hb); clear HB; have HB := n0_; clear n0_; (try clear hb); (try clear hb2); (try clear hk); (try clear hi)) | (go_at_call 27; (with_reducible refine (impl_ValueText.calls (wrap64 (a0)) t116 _ A7.out).mono ?_); rintro e w' ⟨rfl, ⟨nd, rfl⟩⟩) | (go_at_call 28; (with_reducible refine (spec_ValueText.calls (wrap64 (a0)) t117 _ A8.out).mono ?_); rintro e w15 ⟨rfl, hb⟩; have n0_ := Aside0.mk (below_step (by repeat (first | (with_reducible first | exact HB.out | apply below_alloc | apply pw_below_drewN | apply below_drew1) | exact HB.out)) hb); clear HB; have HB := n0_; clear n0_; (try clear hb); (try clear hb2); (try clear hk); (try clear hi)) | (go_at_call 29; (with_reducible refine (impl_EncodingValid.calls (wrap64 (a0)) t118 _ A10.out).mono ?_); rintro e w' ⟨rfl, ⟨nd, rfl⟩⟩))
              go_ret
              exact ⟨by first | rfl | (simp [errW_none, errW_some] <;> rfl) | (simp [*, errW_none, errW_some] <;> rfl), by repeat (first | (with_reducible first | exact HB.out | apply below_alloc | apply pw_below_drewN | apply below_drew1) | exact HB.out)⟩
            · rw [if_neg c13] at H
              have c13b0 : decide (3 < (wrap64 (a0))) = false := decide_eq_false c13
              clear c13
              replace H := Option.bind_eq_some_iff.mp H
              obtain ⟨t119, A160, H⟩ := H
              replace H : (some (t119 == (wrap64 (a0)))) = some r := H
              have A16 := Aside0.mk A160
              clear A160
              obtain rfl := Option.some.inj H
              go_enter Try.func10, Try.ntmps10
              go_wp2_with (first | ((with_reducible refine gate_callee (f := 25) rfl ?_); refine goesL_ (some 6) rfl rfl Try.func25 (by kernel_rfl) rfl #[.int .i64 1] rfl (by (try simp only [List.map_toArray, List.map_cons, List.map_nil]); first | done | rfl | (simp only [List.length_drop, List.length_take]; rfl)) ?_; (with_reducible refine (impl_EncodingText.calls 1 t113 _ A2.out).mono ?_); rintro e w' ⟨rfl, ⟨nd, rfl⟩⟩; refine ⟨_, rfl, ?_⟩) | (go_at_call 25; (with_reducible refine (impl_EncodingText.calls (wrap64 (a0)) t114 _ A4.out).mono ?_); rintro e w' ⟨rfl, ⟨nd, rfl⟩⟩) | (go_at_call 26; (with_reducible refine (spec_EncodingText.calls (wrap64 (a0)) t115 _ A5.out).mono ?_); rintro e w17 ⟨rfl, hb⟩; have n0_ := Aside0.mk (below_step (by repeat (first | (with_reducible first | exact HB.out | apply below_alloc | apply pw_below_drewN | apply below_drew1) | exact HB.out)) hb); clear HB; have HB := n0_; clear n0_; (try clear hb); (try clear hb2); (try clear hk); (try clear hi)) | (go_at_call 27; (with_reducible refine (impl_ValueText.calls (wrap64 (a0)) t116 _ A7.out).mono ?_); rintro e w' ⟨rfl, ⟨nd, rfl⟩⟩) | (go_at_call 28; (with_reducible refine (spec_ValueText.calls (wrap64 (a0)) t117 _ A8.out).mono ?_); rintro e w18 ⟨rfl, hb⟩; have n0_ := Aside0.mk (below_step (by repeat (first | (with_reducible first | exact HB.out | apply below_alloc | apply pw_below_drewN | apply below_drew1) | exact HB.out)) hb); clear HB; have HB := n0_; clear n0_; (try clear hb); (try clear hb2); (try clear hk); (try clear hi)) | (go_at_call 29; (with_reducible refine (impl_EncodingValid.calls (wrap64 (a0)) t118 _ A10.out).mono ?_); rintro e w' ⟨rfl, ⟨nd, rfl⟩⟩) | (go_at_call 30; (with_reducible refine (impl_ValueEncoding.calls (wrap64 (a0)) t119 _ A16.out).mono ?_); rintro e w' ⟨rfl, ⟨nd, rfl⟩⟩))
              go_ret
              exact ⟨by first | rfl | (simp [errW_none, errW_some] <;> rfl) | (simp [*, errW_none, errW_some] <;> rfl), by repeat (first | (with_reducible first | exact HB.out | apply below_alloc | apply pw_below_drewN | apply below_drew1) | exact HB.out)⟩
          · rw [if_neg c12] at H
            have c12b0 : (t118 == (decide ((wrap64 (a0)) ≤ 3))) = false := by simpa using c12
            (try (have c12b1 : decide (t118 = (decide ((wrap64 (a0)) ≤ 3))) = false := by simpa using c12))
            (try (have c12b2 : (t118 == (decide ((wrap64 (a0)) ≤ 3))) = false := by simpa using c12))
            (try (have c12b3 : ¬ (t118 = (decide ((wrap64 (a0)) ≤ 3))) := by simpa using c12))
            clear c12
            obtain rfl := Option.some.inj H
            go_enter Try.func10, Try.ntmps10
            go_wp2_with (first | ((with_reducible refine gate_callee (f := 25) rfl ?_); refine goesL_ (some 6) rfl rfl Try.func25 (by kernel_rfl) rfl #[.int .i64 1] rfl (by (try simp only [List.map_toArray, List.map_cons, List.map_nil]); first | done | rfl | (simp only [List.length_drop, List.length_take]; rfl)) ?_; (with_reducible refine (impl_EncodingText.calls 1 t113 _ A2.out).mono ?_); rintro e w' ⟨rfl, ⟨nd, rfl⟩⟩; refine ⟨_, rfl, ?_⟩) | (go_at_call 25; (with_reducible refine (impl_EncodingText.calls (wrap64 (a0)) t114 _ A4.out).mono ?_); rintro e w' ⟨rfl, ⟨nd, rfl⟩⟩) | (go_at_call 26; (with_reducible refine (spec_EncodingText.calls (wrap64 (a0)) t115 _ A5.out).mono ?_); rintro e w19 ⟨rfl, hb⟩; have n0_ := Aside0.mk (below_step (by repeat (first | (with_reducible first | exact HB.out | apply below_alloc | apply pw_below_drewN | apply below_drew1) | exact HB.out)) hb); clear HB; have HB := n0_; clear n0_; (try clear hb); (try clear hb2); (try clear hk); (try clear hi)) | (go_at_call 27; (with_reducible refine (impl_ValueText.calls (wrap64 (a0)) t116 _ A7.out).mono ?_); rintro e w' ⟨rfl, ⟨nd, rfl⟩⟩) | (go_at_call 28; (with_reducible refine (spec_ValueText.calls (wrap64 (a0)) t117 _ A8.out).mono ?_); rintro e w20 ⟨rfl, hb⟩; have n0_ := Aside0.mk (below_step (by repeat (first | (with_reducible first | exact HB.out | apply below_alloc | apply pw_below_drewN | apply below_drew1) | exact HB.out)) hb); clear HB; have HB := n0_; clear n0_; (try clear hb); (try clear hb2); (try clear hk); (try clear hi)) | (go_at_call 29; (with_reducible refine (impl_EncodingValid.calls (wrap64 (a0)) t118 _ A10.out).mono ?_); rintro e w' ⟨rfl, ⟨nd, rfl⟩⟩))
            go_ret
            exact ⟨by first | rfl | (simp [errW_none, errW_some] <;> rfl) | (simp [*, errW_none, errW_some] <;> rfl), by repeat (first | (with_reducible first | exact HB.out | apply below_alloc | apply pw_below_drewN | apply below_drew1) | exact HB.out)⟩
        · rw [if_neg c11] at H
          have c11b0 : decide (1 ≤ (wrap64 (a0))) = false := decide_eq_false c11
          clear c11
          by_cases c21 : (t118 == false) = true
          · rw [if_pos c21] at H
            have c21b0 : (t118 == false) = true := c21
            (try (have c21b1 : decide (t118 = false) = true := by simpa using c21))
            (try (have c21b2 : (t118 == false) = true := by simpa using c21))
            clear c21
            by_cases c22 : (wrap64 (a0)) > 3
            · rw [if_pos c22] at H
              have c22b0 : decide (3 < (wrap64 (a0))) = true := decide_eq_true c22
              clear c22
              obtain rfl := Option.some.inj H
              go_enter Try.func10, Try.ntmps10
              go_wp2_with (first | ((with_reducible refine gate_callee (f := 25) rfl ?_); refine goesL_ (some 6) rfl rfl Try.func25 (by kernel_rfl) rfl #[.int .i64 1] rfl (by (try simp only [List.map_toArray, List.map_cons, List.map_nil]); first | done | rfl | (simp only [List.length_drop, List.length_take]; rfl)) ?_; (with_reducible refine (impl_EncodingText.calls 1 t113 _ A2.out).mono ?_); rintro e w' ⟨rfl, ⟨nd, rfl⟩⟩; refine ⟨_, rfl, ?_⟩) | (go_at_call 25; (with_reducible refine (impl_EncodingText.calls (wrap64 (a0)) t114 _ A4.out).mono ?_); rintro e w' ⟨rfl, ⟨nd, rfl⟩⟩) | (go_at_call 26; (with_reducible refine (spec_EncodingText.calls (wrap64 (a0)) t115 _ A5.out).mono ?_); rintro e w23 ⟨rfl, hb⟩; have n0_ := Aside0.mk (below_step (by repeat (first | (with_reducible first | exact HB.out | apply below_alloc | apply pw_below_drewN | apply below_drew1) | exact HB.out)) hb); clear HB; have HB := n0_; clear n0_; (try clear hb); (try clear hb2); (try clear hk); (try clear hi)) | (go_at_call 27; (with_reducible refine (impl_ValueText.calls (wrap64 (a0)) t116 _ A7.out).mono ?_); rintro e w' ⟨rfl, ⟨nd, rfl⟩⟩) | (go_at_call 28; (with_reducible refine (spec_ValueText.calls (wrap64 (a0)) t117 _ A8.out).mono ?_); rintro e w24 ⟨rfl, hb⟩; have n0_ := Aside0.mk (below_step (by repeat (first | (with_reducible first | exact HB.out | apply below_alloc | apply pw_below_drewN | apply below_drew1) | exact HB.out)) hb); clear HB; have HB := n0_; clear n0_; (try clear hb); (try clear hb2); (try clear hk); (try clear hi)) | (go_at_call 29; (with_reducible refine (impl_EncodingValid.calls (wrap64 (a0)) t118 _ A10.out).mono ?_); rintro e w' ⟨rfl, ⟨nd, rfl⟩⟩))
              go_ret
              exact ⟨by first | rfl | (simp [errW_none, errW_some] <;> rfl) | (simp [*, errW_none, errW_some] <;> rfl), by repeat (first | (with_reducible first | exact HB.out | apply below_alloc | apply pw_below_drewN | apply below_drew1) | exact HB.out)⟩
            · rw [if_neg c22] at H
              have c22b0 : decide (3 < (wrap64 (a0))) = false := decide_eq_false c22
              clear c22
              replace H := Option.bind_eq_some_iff.mp H
              obtain ⟨t120, A250, H⟩ := H
              replace H : (some (t120 == (wrap64 (a0)))) = some r := H
              have A25 := Aside0.mk A250
              clear A250
              obtain rfl := Option.some.inj H
              go_enter Try.func10, Try.ntmps10
              go_wp2_with (first | ((with_reducible refine gate_callee (f := 25) rfl ?_); refine goesL_ (some 6) rfl rfl Try.func25 (by kernel_rfl) rfl #[.int .i64 1] rfl (by (try simp only [List.map_toArray, List.map_cons, List.map_nil]); first | done | rfl | (simp only [List.length_drop, List.length_take]; rfl)) ?_; (with_reducible refine (impl_EncodingText.calls 1 t113 _ A2.out).mono ?_); rintro e w' ⟨rfl, ⟨nd, rfl⟩⟩; refine ⟨_, rfl, ?_⟩) | (go_at_call 25; (with_reducible refine (impl_EncodingText.calls (wrap64 (a0)) t114 _ A4.out).mono ?_); rintro e w' ⟨rfl, ⟨nd, rfl⟩⟩) | (go_at_call 26; (with_reducible refine (spec_EncodingText.calls (wrap64 (a0)) t115 _ A5.out).mono ?_); rintro e w26 ⟨rfl, hb⟩; have n0_ := Aside0.mk (below_step (by repeat (first | (with_reducible first | exact HB.out | apply below_alloc | apply pw_below_drewN | apply below_drew1) | exact HB.out)) hb); clear HB; have HB := n0_; clear n0_; (try clear hb); (try clear hb2); (try clear hk); (try clear hi)) | (go_at_call 27; (with_reducible refine (impl_ValueText.calls (wrap64 (a0)) t116 _ A7.out).mono ?_); rintro e w' ⟨rfl, ⟨nd, rfl⟩⟩) | (go_at_call 28; (with_reducible refine (spec_ValueText.calls (wrap64 (a0)) t117 _ A8.out).mono ?_); rintro e w27 ⟨rfl, hb⟩; have n0_ := Aside0.mk (below_step (by repeat (first | (with_reducible first | exact HB.out | apply below_alloc | apply pw_below_drewN | apply below_drew1) | exact HB.out)) hb); clear HB; have HB := n0_; clear n0_; (try clear hb); (try clear hb2); (try clear hk); (try clear hi)) | (go_at_call 29; (with_reducible refine (impl_EncodingValid.calls (wrap64 (a0)) t118 _ A10.out).mono ?_); rintro e w' ⟨rfl, ⟨nd, rfl⟩⟩) | (go_at_call 30; (with_reducible refine (impl_ValueEncoding.calls (wrap64 (a0)) t120 _ A25.out).mono ?_); rintro e w' ⟨rfl, ⟨nd, rfl⟩⟩))
              go_ret
              exact ⟨by first | rfl | (simp [errW_none, errW_some] <;> rfl) | (simp [*, errW_none, errW_some] <;> rfl), by repeat (first | (with_reducible first | exact HB.out | apply below_alloc | apply pw_below_drewN | apply below_drew1) | exact HB.out)⟩
          · rw [if_neg c21] at H
            have c21b0 : (t118 == false) = false := by simpa using c21
            (try (have c21b1 : decide (t118 = false) = false := by simpa using c21))
            (try (have c21b2 : (t118 == false) = false := by simpa using c21))
            (try (have c21b3 : ¬ (t118 = false) := by simpa using c21))
            clear c21
            obtain rfl := Option.some.inj H
            go_enter Try.func10, Try.ntmps10
            go_wp2_with (first | ((with_reducible refine gate_callee (f := 25) rfl ?_); refine goesL_ (some 6) rfl rfl Try.func25 (by kernel_rfl) rfl #[.int .i64 1] rfl (by (try simp only [List.map_toArray, List.map_cons, List.map_nil]); first | done | rfl | (simp only [List.length_drop, List.length_take]; rfl)) ?_; (with_reducible refine (impl_EncodingText.calls 1 t113 _ A2.out).mono ?_); rintro e w' ⟨rfl, ⟨nd, rfl⟩⟩; refine ⟨_, rfl, ?_⟩) | (go_at_call 25; (with_reducible refine (impl_EncodingText.calls (wrap64 (a0)) t114 _ A4.out).mono ?_); rintro e w' ⟨rfl, ⟨nd, rfl⟩⟩) | (go_at_call 26; (with_reducible refine (spec_EncodingText.calls (wrap64 (a0)) t115 _ A5.out).mono ?_); rintro e w28 ⟨rfl, hb⟩; have n0_ := Aside0.mk (below_step (by repeat (first | (with_reducible first | exact HB.out | apply below_alloc | apply pw_below_drewN | apply below_drew1) | exact HB.out)) hb); clear HB; have HB := n0_; clear n0_; (try clear hb); (try clear hb2); (try clear hk); (try clear hi)) | (go_at_call 27; (with_reducible refine (impl_ValueText.calls (wrap64 (a0)) t116 _ A7.out).mono ?_); rintro e w' ⟨rfl, ⟨nd, rfl⟩⟩) | (go_at_call 28; (with_reducible refine (spec_ValueText.calls (wrap64 (a0)) t117 _ A8.out).mono ?_); rintro e w29 ⟨rfl, hb⟩; have n0_ := Aside0.mk (below_step (by repeat (first | (with_reducible first | exact HB.out | apply below_alloc | apply pw_below_drewN | apply below_drew1) | exact HB.out)) hb); clear HB; have HB := n0_; clear n0_; (try clear hb); (try clear hb2); (try clear hk); (try clear hi)) | (go_at_call 29; (with_reducible refine (impl_EncodingValid.calls (wrap64 (a0)) t118 _ A10.out).mono ?_); rintro e w' ⟨rfl, ⟨nd, rfl⟩⟩))
            go_ret
            exact ⟨by first | rfl | (simp [errW_none, errW_some] <;> rfl) | (simp [*, errW_none, errW_some] <;> rfl), by repeat (first | (with_reducible first | exact HB.out | apply below_alloc | apply pw_below_drewN | apply below_drew1) | exact HB.out)⟩
      · rw [if_neg c9] at H
        have c9b0 : (t116.toList == t117.toList) = false := beq_eq_false_iff_ne.mpr c9
        have c9b1 : (t116.toList != t117.toList) = true := bne_iff_ne.mpr c9
        obtain rfl := Option.some.inj H
        go_enter Try.func10, Try.ntmps10
        go_wp2_with (first | ((with_reducible refine gate_callee (f := 25) rfl ?_); refine goesL_ (some 6) rfl rfl Try.func25 (by kernel_rfl) rfl #[.int .i64 1] rfl (by (try simp only [List.map_toArray, List.map_cons, List.map_nil]); first | done | rfl | (simp only [List.length_drop, List.length_take]; rfl)) ?_; (with_reducible refine (impl_EncodingText.calls 1 t113 _ A2.out).mono ?_); rintro e w' ⟨rfl, ⟨nd, rfl⟩⟩; refine ⟨_, rfl, ?_⟩) | (go_at_call 25; (with_reducible refine (impl_EncodingText.calls (wrap64 (a0)) t114 _ A4.out).mono ?_); rintro e w' ⟨rfl, ⟨nd, rfl⟩⟩) | (go_at_call 26; (with_reducible refine (spec_EncodingText.calls (wrap64 (a0)) t115 _ A5.out).mono ?_); rintro e w30 ⟨rfl, hb⟩; have n0_ := Aside0.mk (below_step (by repeat (first | (with_reducible first | exact HB.out | apply below_alloc | apply pw_below_drewN | apply below_drew1) | exact HB.out)) hb); clear HB; have HB := n0_; clear n0_; (try clear hb); (try clear hb2); (try clear hk); (try clear hi)) | (go_at_call 27; (with_reducible refine (impl_ValueText.calls (wrap64 (a0)) t116 _ A7.out).mono ?_); rintro e w' ⟨rfl, ⟨nd, rfl⟩⟩) | (go_at_call 28; (with_reducible refine (spec_ValueText.calls (wrap64 (a0)) t117 _ A8.out).mono ?_); rintro e w31 ⟨rfl, hb⟩; have n0_ := Aside0.mk (below_step (by repeat (first | (with_reducible first | exact HB.out | apply below_alloc | apply pw_below_drewN | apply below_drew1) | exact HB.out)) hb); clear HB; have HB := n0_; clear n0_; (try clear hb); (try clear hb2); (try clear hk); (try clear hi)))
        go_ret
        exact ⟨by first | rfl | (simp [errW_none, errW_some] <;> rfl) | (simp [*, errW_none, errW_some] <;> rfl), by repeat (first | (with_reducible first | exact HB.out | apply below_alloc | apply pw_below_drewN | apply below_drew1) | exact HB.out)⟩
    · rw [if_neg c6] at H
      have c6b0 : (t114.toList == t115.toList) = false := beq_eq_false_iff_ne.mpr c6
      have c6b1 : (t114.toList != t115.toList) = true := bne_iff_ne.mpr c6
      obtain rfl := Option.some.inj H
      go_enter Try.func10, Try.ntmps10
      go_wp2_with (first | ((with_reducible refine gate_callee (f := 25) rfl ?_); refine goesL_ (some 6) rfl rfl Try.func25 (by kernel_rfl) rfl #[.int .i64 1] rfl (by (try simp only [List.map_toArray, List.map_cons, List.map_nil]); first | done | rfl | (simp only [List.length_drop, List.length_take]; rfl)) ?_; (with_reducible refine (impl_EncodingText.calls 1 t113 _ A2.out).mono ?_); rintro e w' ⟨rfl, ⟨nd, rfl⟩⟩; refine ⟨_, rfl, ?_⟩) | (go_at_call 25; (with_reducible refine (impl_EncodingText.calls (wrap64 (a0)) t114 _ A4.out).mono ?_); rintro e w' ⟨rfl, ⟨nd, rfl⟩⟩) | (go_at_call 26; (with_reducible refine (spec_EncodingText.calls (wrap64 (a0)) t115 _ A5.out).mono ?_); rintro e w32 ⟨rfl, hb⟩; have n0_ := Aside0.mk (below_step (by repeat (first | (with_reducible first | exact HB.out | apply below_alloc | apply pw_below_drewN | apply below_drew1) | exact HB.out)) hb); clear HB; have HB := n0_; clear n0_; (try clear hb); (try clear hb2); (try clear hk); (try clear hi)))
      go_ret
      exact ⟨by first | rfl | (simp [errW_none, errW_some] <;> rfl) | (simp [*, errW_none, errW_some] <;> rfl), by repeat (first | (with_reducible first | exact HB.out | apply below_alloc | apply pw_below_drewN | apply below_drew1) | exact HB.out)⟩
  · rw [if_neg c3] at H
    have c3b0 : (t113.toList == ([88, 79, 82] : List UInt8)) = false := beq_eq_false_iff_ne.mpr c3
    have c3b1 : (t113.toList != ([88, 79, 82] : List UInt8)) = true := bne_iff_ne.mpr c3
    obtain rfl := Option.some.inj H
    go_enter Try.func10, Try.ntmps10
    go_wp2_with (first | ((with_reducible refine gate_callee (f := 25) rfl ?_); refine goesL_ (some 6) rfl rfl Try.func25 (by kernel_rfl) rfl #[.int .i64 1] rfl (by (try simp only [List.map_toArray, List.map_cons, List.map_nil]); first | done | rfl | (simp only [List.length_drop, List.length_take]; rfl)) ?_; (with_reducible refine (impl_EncodingText.calls 1 t113 _ A2.out).mono ?_); rintro e w' ⟨rfl, ⟨nd, rfl⟩⟩; refine ⟨_, rfl, ?_⟩))
    go_ret
    exact ⟨by first | rfl | (simp [errW_none, errW_some] <;> rfl) | (simp [*, errW_none, errW_some] <;> rfl), by repeat (first | (with_reducible first | exact HB.out | apply below_alloc | apply pw_below_drewN | apply below_drew1) | exact HB.out)⟩

/-- THE ONE PURE STATEMENT of laws_FnKinds: yours. -/
def laws_FnKinds.Pure : Prop := ∀ (a0 : Int), (Lit.int .u8 a0).wf = true → laws_FnKinds.f a0 = some true
theorem laws_FnKinds.walk (P : laws_FnKinds.Pure) (a0 : Int) (w : World) (w0 : (Lit.int .u8 a0).wf = true) :
    Calls Try.prog 10 #[.int .u8 a0] w fun e w' => e = .returned (.bool true) ∧ Below w.heap.size w w' := by
  have h := P a0 w0
  refine (laws_FnKinds.calls a0 true w h).mono ?_
  rintro e w' ⟨rfl, hd⟩
  exact ⟨rfl, hd⟩

end Go.Proofs.Ytdinjpemofkdaaa.PFnKinds
