/-
  Seconds become milliseconds: a thousand times the seconds, rounded. Of seconds of at most 2^40 in size; of others the law asks 1.5 in their place.
-/
import Derived.Test.YtdinjpemofkdaaaStale
import Derived.Test.YtdinjpemofkdaaaFltB
import Derived.Lib.Hide
namespace Go.Proofs.Ytdinjpemofkdaaa
open Go.RowKit

set_option maxRecDepth 100000 in
set_option maxHeartbeats 800000 in
theorem round_any (b : Nat) (w : World) :
    Calls Try.prog 20 #[.float .f64 b] w fun e w' => e = .returned (.float .f64 (Flt.rnd b)) ∧ w = w' := by
  have hx := run19
  have hy := run40
  have hr := Lib.hid (Flt.rnd.eq_def b)
  by_cases h1 : bits .and .u64 (↑b / 4503599627370496) 2047 < 1023
  · by_cases h2 : (bits .and .u64 (↑b / 4503599627370496) 2047 == 1022) = true
    · go_enter Try.func20, Try.ntmps20
      go_wp2
      go_ret
      exact ⟨by rw [hr.out, if_pos h1, if_pos h2]; rfl, rfl⟩
    · go_enter Try.func20, Try.ntmps20
      go_wp2
      go_ret
      exact ⟨by rw [hr.out, if_pos h1, if_neg (by simpa using h2)]; rfl, rfl⟩
  · by_cases h2 : bits .and .u64 (↑b / 4503599627370496) 2047 < 1075
    · go_enter Try.func20, Try.ntmps20
      go_wp2
      go_ret
      exact ⟨by rw [hr.out, if_neg (Int.not_lt.2 h1), if_pos h2]; rfl, rfl⟩
    · go_enter Try.func20, Try.ntmps20
      go_wp2
      go_ret
      exact ⟨by rw [hr.out, if_neg (Int.not_lt.2 h1), if_neg (Int.not_lt.2 h2)]; rfl, rfl⟩

theorem eqb {a b : Bool} (h : a = b) : Ending.returned (.bool a) = .returned (.bool b) := by rw [h]

/-- a thousand times x is r, and its rounded whole part is n -/
structure Sec (x r : Nat) (n : Int) : Prop where
  mul : ∀ W, (binOp .mul 34 (.float .f64 x) (.float .f64 4652007308841189376)).run Try.prog W = .ok (.float .f64 r) W
  conv : ∀ W, (convert 34 2 (.float .f64 (Flt.rnd r))).run Try.prog W = .ok (.int .i64 n) W

theorem sec_of (x : Nat) (h1 : (Ieee.double.order x 4787326403894837248 == some .lt || Ieee.double.order x 4787326403894837248 == some .eq) = true)
    (h2 : (Ieee.double.order x 14010698440749613056 == some .gt || Ieee.double.order x 14010698440749613056 == some .eq) = true) : ∃ r n, Sec x r n := by
  obtain ⟨r, hr, hl⟩ := Flt.mul_small x h1 h2
  have hb : r < 18446744073709551616 := Ieee.Format.mul_lt _ hr
  obtain ⟨n, hn⟩ := Flt.toInt_small (Flt.rnd r) (Flt.rnd_small r hb hl)
  exact ⟨r, n, fun W => run_float_arith W .mul 34 .f64 x 4652007308841189376 r hr, fun W => run_convert_float_int W 34 2 .f64 .i64 (Flt.rnd r) n (by rw [Try.underlying34]; rfl) Try.underlying2 hn⟩

set_option maxRecDepth 100000 in
theorem fromFloat (x r : Nat) (n : Int) (h : Sec x r n) (w : World) :
    Calls Try.prog 41 #[.float .f64 x] w fun e w' => e = .returned (.int .i64 n) ∧ w = w' := by
  have h1 := h.mul
  have h2 := h.conv
  go_enter Try.func41, Try.ntmps41
  go_wp2_with (go_at_call 20; refine (round_any _ _).mono ?_; rintro e w' ⟨rfl, rfl⟩)
  go_ret
  exact ⟨rfl, rfl⟩

set_option maxRecDepth 100000 in
theorem floatSeconds (x r : Nat) (n : Int) (h : Sec x r n) (w : World) :
    Calls Try.prog 18 #[.int .u64 x] w fun e w' => e = .returned (.int .i64 n) ∧ w = w' := by
  go_enter Try.func18, Try.ntmps18
  go_wp2_with (first | (go_at_call 32; refine (float_any _ _).mono ?_; rintro e w' ⟨rfl, rfl⟩) | (go_at_call 41; refine (fromFloat _ r n h _).mono ?_; rintro e w' ⟨rfl, rfl⟩))
  go_ret
  exact ⟨rfl, rfl⟩

theorem sec_one : ∃ r, Sec 4612248968380809216 r 2250 :=
  ⟨4657166217398714368, fun W => run_float_arith W .mul 34 .f64 _ _ _ (by decide +kernel), fun W => run_convert_float_int W 34 2 .f64 .i64 _ _ (by rw [Try.underlying34]; rfl) Try.underlying2 (by decide +kernel)⟩
theorem sec_half : ∃ r n, Sec 4609434218613702656 r n := sec_of _ (by decide +kernel) (by decide +kernel)

/-- the seconds that the law asks -/
theorem pick (x : Nat) : ∃ z r n, Sec z r n ∧ ∃ o1 o2, FloatKind.f64.format.order x 4787326403894837248 = o1 ∧ FloatKind.f64.format.order x 14010698440749613056 = o2 ∧
    (((o1 == some .lt || o1 == some .eq) && (o2 == some .gt || o2 == some .eq)) = true ∧ z = x ∨ ((o1 == some .lt || o1 == some .eq) && (o2 == some .gt || o2 == some .eq)) = false ∧ z = 4609434218613702656) := by
  cases h : ((FloatKind.f64.format.order x 4787326403894837248 == some .lt || FloatKind.f64.format.order x 4787326403894837248 == some .eq) && (FloatKind.f64.format.order x 14010698440749613056 == some .gt || FloatKind.f64.format.order x 14010698440749613056 == some .eq))
  · obtain ⟨r, n, h'⟩ := sec_half
    exact ⟨_, r, n, h', _, _, rfl, rfl, .inr ⟨h, rfl⟩⟩
  · have h' := h
    rw [Bool.and_eq_true] at h'
    obtain ⟨r, n, h''⟩ := sec_of x h'.1 h'.2
    exact ⟨_, r, n, h'', _, _, rfl, rfl, .inl ⟨h, rfl⟩⟩

set_option maxRecDepth 100000 in
theorem specFloat (a : Nat) (w : World) :
    Calls Try.prog 17 #[.int .u64 a] w fun e w' => e = .returned (.float .f64 a) ∧ w = w' := by
  have hx := run40
  go_enter Try.func17, Try.ntmps17
  go_wp2
  go_ret
  exact ⟨rfl, rfl⟩

set_option maxRecDepth 100000 in
set_option maxHeartbeats 1000000 in
theorem fnFloatSeconds_walk (a : Int) (wa : (Lit.int .u64 a).wf = true) (w : World) :
    Calls Try.prog 7 #[.int .u64 a] w fun e w' => e = .returned (.bool true) ∧ Below w.heap.size w w' := by
  obtain ⟨a, rfl⟩ : ∃ n : Nat, a = n := Int.eq_ofNat_of_zero_le (by simp [Lit.wf, IntKind.min, IntKind.max, IntKind.signed, IntKind.bits] at wa; omega)
  clear wa
  obtain ⟨r1, s1⟩ := sec_one
  have hx := run19
  obtain ⟨z, r, n, hs, o1, o2, h1, h2, hz⟩ := pick a
  rcases o1 with _ | (_ | _ | _) <;> rcases o2 with _ | (_ | _ | _) <;> simp at hz
  all_goals
    have hmul := hs.mul
    have hconv := hs.conv
    have HS := Lib.hid hs
    clear hs
    subst hz
    go_enter Try.func7, Try.ntmps7
    go_wp2_with fail
    refine (specFloat _ _).mono ?_
    rintro e w' ⟨rfl, rfl⟩
    go_wp2_with fail
    refine (floatSeconds _ r1 _ s1 _).mono ?_
    rintro e w' ⟨rfl, rfl⟩
    go_wp2_with fail
    refine (floatSeconds _ r n HS.out _).mono ?_
    rintro e w' ⟨rfl, rfl⟩
    go_wp2_with fail
    refine (round_any _ _).mono ?_
    rintro e w' ⟨rfl, rfl⟩
    go_wp2_with fail
    go_ret
    exact ⟨eqb (by simp), Below.refl _ _⟩
end Go.Proofs.Ytdinjpemofkdaaa
