/-
  The walk of the law on schemas.
-/
import Derived.Test.YtoccjbehfbnjiaaDoorMatch
namespace Go.Proofs.YtoccjbehfbnjiaaDoor
open Go.RowKit

set_option maxRecDepth 100000 in
set_option maxHeartbeats 4000000 in
theorem schemas_core (s : Int) (va vb : Value) (a b : List Nat) (w : World) (ha : Ints w w.heap.size .u64 va (a.map Int.ofNat)) (hb : Ints w w.heap.size .u64 vb (b.map Int.ofNat)) (he : Errs w) :
    Calls Tryd.prog 4 #[.int .i32 s, va, vb] w fun e w' => e = .returned (.bool true) ∧ Below w.heap.size w w' := by
  obtain ⟨ao, cap, rfl, h1, h2⟩ := ha.form
  obtain ⟨bo, bcap, rfl, g1, g2⟩ := hb.form
  rw [List.length_map] at *
  go_enter Tryd.func4, Tryd.ntmps4
  by_cases ca : a.length ≤ 2147483647
  · by_cases cb : b.length ≤ 2147483647
    · by_cases da : a.length ≤ 100
      · by_cases db : b.length ≤ 100
        · by_cases h4 : -4 ≤ s
          · go_wp2_with (first | (go_at_call 14; refine (kinds_any s _).mono ?_; rintro e w' ⟨rfl, rfl⟩) | fail)
            refine (countAlive_any w he).mono ?_
            rintro e w1 ⟨rfl, hb1⟩
            go_wp2_with fail
            refine (boundsMatch_any _ _ a b w1 (ha.below hb1 (Nat.le_refl _) |>.mono hb1.size (Nat.le_refl _)) (hb.below hb1 (Nat.le_refl _) |>.mono hb1.size (Nat.le_refl _)) (by omega) (by omega)).mono ?_
            rintro e w2 ⟨rfl, hb2⟩
            have hB2 := hb1.trans (hb2.mono hb1.size)
            go_wp2_with fail
            refine (sameBits_any _ _ a b w.heap.size w2 (ha.below hB2 (Nat.le_refl _)) (hb.below hB2 (Nat.le_refl _)) (by omega) (by omega)).mono ?_
            rintro e w3 ⟨rfl, hb3⟩
            have hB3 := hB2.trans (hb3.mono hB2.size)
            go_wp2_with fail
            refine (boundsMatch_any _ _ a a w3 (ha.below hB3 (Nat.le_refl _) |>.mono hB3.size (Nat.le_refl _)) (ha.below hB3 (Nat.le_refl _) |>.mono hB3.size (Nat.le_refl _)) (by omega) (by omega)).mono ?_
            rintro e w4 ⟨rfl, hb4⟩
            have hB4 := hB3.trans (hb4.mono hB3.size)
            go_wp2_with fail
            go_ret
            exact ⟨eqb (by simp), hB4⟩
          · go_wp2_with (first | (go_at_call 14; refine (kinds_any s _).mono ?_; rintro e w' ⟨rfl, rfl⟩) | fail)
            refine (countAlive_any w he).mono ?_
            rintro e w1 ⟨rfl, hb1⟩
            go_wp2_with fail
            refine (boundsMatch_any _ _ a b w1 (ha.below hb1 (Nat.le_refl _) |>.mono hb1.size (Nat.le_refl _)) (hb.below hb1 (Nat.le_refl _) |>.mono hb1.size (Nat.le_refl _)) (by omega) (by omega)).mono ?_
            rintro e w2 ⟨rfl, hb2⟩
            have hB2 := hb1.trans (hb2.mono hb1.size)
            go_wp2_with fail
            refine (sameBits_any _ _ a b w.heap.size w2 (ha.below hB2 (Nat.le_refl _)) (hb.below hB2 (Nat.le_refl _)) (by omega) (by omega)).mono ?_
            rintro e w3 ⟨rfl, hb3⟩
            have hB3 := hB2.trans (hb3.mono hB2.size)
            go_wp2_with fail
            refine (boundsMatch_any _ _ a a w3 (ha.below hB3 (Nat.le_refl _) |>.mono hB3.size (Nat.le_refl _)) (ha.below hB3 (Nat.le_refl _) |>.mono hB3.size (Nat.le_refl _)) (by omega) (by omega)).mono ?_
            rintro e w4 ⟨rfl, hb4⟩
            have hB4 := hB3.trans (hb4.mono hB3.size)
            go_wp2_with fail
            go_ret
            exact ⟨eqb (by simp), hB4⟩
        · by_cases h4 : -4 ≤ s
          · go_wp2_with (first | (go_at_call 14; refine (kinds_any s _).mono ?_; rintro e w' ⟨rfl, rfl⟩) | fail)
            refine (countAlive_any w he).mono ?_
            rintro e w1 ⟨rfl, hb1⟩
            go_wp2_with fail
            refine (boundsMatch_any _ _ ([] : List Nat) ([] : List Nat) w1 ((show Ints w w.heap.size .u64 (.slice none 0 0) (([] : List Nat).map Int.ofNat) from Sl.nil _ _ _ _).below hb1 (Nat.le_refl _) |>.mono hb1.size (Nat.le_refl _)) ((show Ints w w.heap.size .u64 (.slice none 0 0) (([] : List Nat).map Int.ofNat) from Sl.nil _ _ _ _).below hb1 (Nat.le_refl _) |>.mono hb1.size (Nat.le_refl _)) (by simp) (by simp)).mono ?_
            rintro e w2 ⟨rfl, hb2⟩
            have hB2 := hb1.trans (hb2.mono hb1.size)
            go_wp2_with fail
            refine (sameBits_any _ _ ([] : List Nat) ([] : List Nat) w.heap.size w2 ((show Ints w w.heap.size .u64 (.slice none 0 0) (([] : List Nat).map Int.ofNat) from Sl.nil _ _ _ _).below hB2 (Nat.le_refl _)) ((show Ints w w.heap.size .u64 (.slice none 0 0) (([] : List Nat).map Int.ofNat) from Sl.nil _ _ _ _).below hB2 (Nat.le_refl _)) (by simp) (by simp)).mono ?_
            rintro e w3 ⟨rfl, hb3⟩
            have hB3 := hB2.trans (hb3.mono hB2.size)
            go_wp2_with fail
            refine (boundsMatch_any _ _ ([] : List Nat) ([] : List Nat) w3 ((show Ints w w.heap.size .u64 (.slice none 0 0) (([] : List Nat).map Int.ofNat) from Sl.nil _ _ _ _).below hB3 (Nat.le_refl _) |>.mono hB3.size (Nat.le_refl _)) ((show Ints w w.heap.size .u64 (.slice none 0 0) (([] : List Nat).map Int.ofNat) from Sl.nil _ _ _ _).below hB3 (Nat.le_refl _) |>.mono hB3.size (Nat.le_refl _)) (by simp) (by simp)).mono ?_
            rintro e w4 ⟨rfl, hb4⟩
            have hB4 := hB3.trans (hb4.mono hB3.size)
            go_wp2_with fail
            go_ret
            exact ⟨eqb (by simp), hB4⟩
          · go_wp2_with (first | (go_at_call 14; refine (kinds_any s _).mono ?_; rintro e w' ⟨rfl, rfl⟩) | fail)
            refine (countAlive_any w he).mono ?_
            rintro e w1 ⟨rfl, hb1⟩
            go_wp2_with fail
            refine (boundsMatch_any _ _ ([] : List Nat) ([] : List Nat) w1 ((show Ints w w.heap.size .u64 (.slice none 0 0) (([] : List Nat).map Int.ofNat) from Sl.nil _ _ _ _).below hb1 (Nat.le_refl _) |>.mono hb1.size (Nat.le_refl _)) ((show Ints w w.heap.size .u64 (.slice none 0 0) (([] : List Nat).map Int.ofNat) from Sl.nil _ _ _ _).below hb1 (Nat.le_refl _) |>.mono hb1.size (Nat.le_refl _)) (by simp) (by simp)).mono ?_
            rintro e w2 ⟨rfl, hb2⟩
            have hB2 := hb1.trans (hb2.mono hb1.size)
            go_wp2_with fail
            refine (sameBits_any _ _ ([] : List Nat) ([] : List Nat) w.heap.size w2 ((show Ints w w.heap.size .u64 (.slice none 0 0) (([] : List Nat).map Int.ofNat) from Sl.nil _ _ _ _).below hB2 (Nat.le_refl _)) ((show Ints w w.heap.size .u64 (.slice none 0 0) (([] : List Nat).map Int.ofNat) from Sl.nil _ _ _ _).below hB2 (Nat.le_refl _)) (by simp) (by simp)).mono ?_
            rintro e w3 ⟨rfl, hb3⟩
            have hB3 := hB2.trans (hb3.mono hB2.size)
            go_wp2_with fail
            refine (boundsMatch_any _ _ ([] : List Nat) ([] : List Nat) w3 ((show Ints w w.heap.size .u64 (.slice none 0 0) (([] : List Nat).map Int.ofNat) from Sl.nil _ _ _ _).below hB3 (Nat.le_refl _) |>.mono hB3.size (Nat.le_refl _)) ((show Ints w w.heap.size .u64 (.slice none 0 0) (([] : List Nat).map Int.ofNat) from Sl.nil _ _ _ _).below hB3 (Nat.le_refl _) |>.mono hB3.size (Nat.le_refl _)) (by simp) (by simp)).mono ?_
            rintro e w4 ⟨rfl, hb4⟩
            have hB4 := hB3.trans (hb4.mono hB3.size)
            go_wp2_with fail
            go_ret
            exact ⟨eqb (by simp), hB4⟩
      · by_cases h4 : -4 ≤ s
        · go_wp2_with (first | (go_at_call 14; refine (kinds_any s _).mono ?_; rintro e w' ⟨rfl, rfl⟩) | fail)
          refine (countAlive_any w he).mono ?_
          rintro e w1 ⟨rfl, hb1⟩
          go_wp2_with fail
          refine (boundsMatch_any _ _ ([] : List Nat) ([] : List Nat) w1 ((show Ints w w.heap.size .u64 (.slice none 0 0) (([] : List Nat).map Int.ofNat) from Sl.nil _ _ _ _).below hb1 (Nat.le_refl _) |>.mono hb1.size (Nat.le_refl _)) ((show Ints w w.heap.size .u64 (.slice none 0 0) (([] : List Nat).map Int.ofNat) from Sl.nil _ _ _ _).below hb1 (Nat.le_refl _) |>.mono hb1.size (Nat.le_refl _)) (by simp) (by simp)).mono ?_
          rintro e w2 ⟨rfl, hb2⟩
          have hB2 := hb1.trans (hb2.mono hb1.size)
          go_wp2_with fail
          refine (sameBits_any _ _ ([] : List Nat) ([] : List Nat) w.heap.size w2 ((show Ints w w.heap.size .u64 (.slice none 0 0) (([] : List Nat).map Int.ofNat) from Sl.nil _ _ _ _).below hB2 (Nat.le_refl _)) ((show Ints w w.heap.size .u64 (.slice none 0 0) (([] : List Nat).map Int.ofNat) from Sl.nil _ _ _ _).below hB2 (Nat.le_refl _)) (by simp) (by simp)).mono ?_
          rintro e w3 ⟨rfl, hb3⟩
          have hB3 := hB2.trans (hb3.mono hB2.size)
          go_wp2_with fail
          refine (boundsMatch_any _ _ ([] : List Nat) ([] : List Nat) w3 ((show Ints w w.heap.size .u64 (.slice none 0 0) (([] : List Nat).map Int.ofNat) from Sl.nil _ _ _ _).below hB3 (Nat.le_refl _) |>.mono hB3.size (Nat.le_refl _)) ((show Ints w w.heap.size .u64 (.slice none 0 0) (([] : List Nat).map Int.ofNat) from Sl.nil _ _ _ _).below hB3 (Nat.le_refl _) |>.mono hB3.size (Nat.le_refl _)) (by simp) (by simp)).mono ?_
          rintro e w4 ⟨rfl, hb4⟩
          have hB4 := hB3.trans (hb4.mono hB3.size)
          go_wp2_with fail
          go_ret
          exact ⟨eqb (by simp), hB4⟩
        · go_wp2_with (first | (go_at_call 14; refine (kinds_any s _).mono ?_; rintro e w' ⟨rfl, rfl⟩) | fail)
          refine (countAlive_any w he).mono ?_
          rintro e w1 ⟨rfl, hb1⟩
          go_wp2_with fail
          refine (boundsMatch_any _ _ ([] : List Nat) ([] : List Nat) w1 ((show Ints w w.heap.size .u64 (.slice none 0 0) (([] : List Nat).map Int.ofNat) from Sl.nil _ _ _ _).below hb1 (Nat.le_refl _) |>.mono hb1.size (Nat.le_refl _)) ((show Ints w w.heap.size .u64 (.slice none 0 0) (([] : List Nat).map Int.ofNat) from Sl.nil _ _ _ _).below hb1 (Nat.le_refl _) |>.mono hb1.size (Nat.le_refl _)) (by simp) (by simp)).mono ?_
          rintro e w2 ⟨rfl, hb2⟩
          have hB2 := hb1.trans (hb2.mono hb1.size)
          go_wp2_with fail
          refine (sameBits_any _ _ ([] : List Nat) ([] : List Nat) w.heap.size w2 ((show Ints w w.heap.size .u64 (.slice none 0 0) (([] : List Nat).map Int.ofNat) from Sl.nil _ _ _ _).below hB2 (Nat.le_refl _)) ((show Ints w w.heap.size .u64 (.slice none 0 0) (([] : List Nat).map Int.ofNat) from Sl.nil _ _ _ _).below hB2 (Nat.le_refl _)) (by simp) (by simp)).mono ?_
          rintro e w3 ⟨rfl, hb3⟩
          have hB3 := hB2.trans (hb3.mono hB2.size)
          go_wp2_with fail
          refine (boundsMatch_any _ _ ([] : List Nat) ([] : List Nat) w3 ((show Ints w w.heap.size .u64 (.slice none 0 0) (([] : List Nat).map Int.ofNat) from Sl.nil _ _ _ _).below hB3 (Nat.le_refl _) |>.mono hB3.size (Nat.le_refl _)) ((show Ints w w.heap.size .u64 (.slice none 0 0) (([] : List Nat).map Int.ofNat) from Sl.nil _ _ _ _).below hB3 (Nat.le_refl _) |>.mono hB3.size (Nat.le_refl _)) (by simp) (by simp)).mono ?_
          rintro e w4 ⟨rfl, hb4⟩
          have hB4 := hB3.trans (hb4.mono hB3.size)
          go_wp2_with fail
          go_ret
          exact ⟨eqb (by simp), hB4⟩
    · go_wp2
      go_ret
      exact ⟨rfl, Below.refl _ _⟩
  · go_wp2
    go_ret
    exact ⟨rfl, Below.refl _ _⟩

theorem schemas_walk (s : Int) (va : Value) (a : List Nat) (vb : Value) (b : List Nat) (w : World) (ha : Ints w w.heap.size .u64 va (a.map Int.ofNat)) (hb : Ints w w.heap.size .u64 vb (b.map Int.ofNat)) (he : Errs w) :
    Calls Tryd.prog 4 #[.int .i32 s, va, vb] w fun e w' => e = .returned (.bool true) ∧ Below w.heap.size w w' := schemas_core s va vb a b w ha hb he
end Go.Proofs.YtoccjbehfbnjiaaDoor
