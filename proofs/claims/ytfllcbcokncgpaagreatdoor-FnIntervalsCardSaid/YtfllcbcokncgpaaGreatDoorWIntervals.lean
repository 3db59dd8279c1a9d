/-
  Covers; FnIntervals: the walk of the law.
-/
import Derived.Test.YtfllcbcokncgpaaGreatDoorCover
namespace Go.Proofs.YtfllcbcokncgpaaGreatDoor
set_option linter.unusedSimpArgs false
set_option linter.unusedVariables false
open Go.RowKit

theorem rise_real {l : List (Int × Int)} (h : Rise l) : RealL l := fun y hy => by
  obtain ⟨i, hi, rfl⟩ := List.getElem_of_mem hy
  exact h.at_ i hi

set_option maxRecDepth 100000 in
set_option maxHeartbeats 2000000 in
theorem covers_any (v : Value) (l : List (Int × Int)) (w : World) (h : Pairs w w.heap.size .i64 .i64 v l) (hl : l.length ≤ 1000000) (hR : RealL l) :
    Calls Tryz.prog 15 #[v] w fun e w' => ∃ x, e = .returned x ∧ w'.ownsRow w.heap.size 47 2 x (covers l).length (flatI (covers l)) ∧ Below w.heap.size w w' := by
  obtain ⟨ao, cap, rfl, h1, h2⟩ := h.form
  go_enter Tryz.func15, Tryz.ntmps15
  go_wp2_with fail
  go_loopw [3, 4] (fun ov i wr => ∃ k : Nat, k ≤ l.length ∧ i = .int .i64 k ∧ wr.ownsRow w.heap.size 47 2 ov (covers (l.take k)).length (flatI (covers (l.take k))) ∧ Below w.heap.size w wr) (fun _ i _ => l.length - (intOf i).toNat)
  case atStart => exact ⟨0, Nat.zero_le _, rfl, World.ownsRow_nil _ _ _ _, Below.refl _ _⟩
  case round => as_aux_lemma =>
    obtain ⟨k, hk, rfl, hown, hbel⟩ := hrel
    have hz := hbel.size
    by_cases hlt : k < l.length
    · obtain ⟨b, off, rfl, hbB, hBw, hcc⟩ := h.at_ (by omega)
      have c2 := (hbel.cell (p := ⟨b, off + k * 2, none⟩) hbB).trans (hcc k hlt).1
      have c3 := (hbel.cell (p := ⟨b, off + k * 2 + 1, none⟩) hbB).trans (hcc k hlt).2
      clear hcc
      have i0' : (0 : Int) ≤ (k : Int) := by omega
      have i1 : (k : Int) < (l.length : Int) := by omega
      have hcr := covers_rise (l.take k) (fun x hx => hR x (List.mem_of_mem_take hx))
      have hcl : (covers (l.take k)).length ≤ 1000000 := by
        have := hcr.2
        rw [List.length_take] at this
        omega
      have hrl := rise_real hcr.1
      obtain ⟨r1, r2, r3⟩ := hR _ (List.getElem_mem hlt)
      have HT := Lib.hid (show covers (l.take (k + 1)) = coverL (covers (l.take k)) l[k].1 l[k].2 by rw [take_next hlt, covers_snoc])
      have hP := Pairs.ownI hown
      generalize l[k] = x at *
      obtain ⟨x0, x1⟩ := x
      simp only at r1 r2 r3
      go_wp2_with (first | (go_at_call 39; refine (cover_any _ (covers (l.take k)) x0 x1 _ hP hcl hrl r1 r2 r3).mono ?_; rintro e w1 ⟨y, rfl, ho, hb1⟩) | fail)
      go_roundw
      case rel => exact ⟨k + 1, by omega, by simp, by rw [HT.out]; exact own_base ho hz, bnx hbel hb1⟩
      case measure => simp [intOf]; omega
    · obtain rfl : k = l.length := by omega
      go_wp2_with fail
      go_ret
      rw [List.take_length] at hown
      exact ⟨_, rfl, hown, hbel⟩

set_option maxRecDepth 100000 in
set_option maxHeartbeats 4000000 in
theorem wIntervals (v : Value) (l : List (Int × Int)) (w : World) (hh : Pairs w w.heap.size .i64 .i64 v l ∧ ∀ z ∈ l, (-9223372036854775808 ≤ z.1 ∧ z.1 ≤ 9223372036854775807) ∧ -9223372036854775808 ≤ z.2 ∧ z.2 ≤ 9223372036854775807) :
    Calls Tryz.prog 3 #[v] w fun e w' => e = .returned (.bool true) ∧ Below w.heap.size w w' := by
  obtain ⟨h, hr⟩ := hh
  obtain ⟨ao, cap, rfl, h1, h2⟩ := h.form
  by_cases c1 : 2147483647 < l.length
  · have c1' : (2147483647 : Int) < (l.length : Int) := by omega
    go_enter Tryz.func3, Tryz.ntmps3
    go_wp2_with fail
    go_ret
    exact ⟨rfl, Below.refl _ _⟩
  · by_cases c2 : 30 < l.length
    · have c2' : (30 : Int) < (l.length : Int) := by omega
      go_enter Tryz.func3, Tryz.ntmps3
      go_wp2_with (first | (go_at_call 12; refine (awake_any _).mono ?_; rintro e w1 ⟨rfl, hb1⟩) | fail)
      go_ret
      exact ⟨rfl, hb1⟩
    · have c2' : ¬ (30 : Int) < (l.length : Int) := by omega
      cases hc : l.all realB
      · have HC := Lib.hid hc
        clear hc
        go_enter Tryz.func3, Tryz.ntmps3
        go_wp2_with (first
          | (go_at_call 11; refine (real_any _ l false _ h (by omega) HC.out).mono ?_; rintro e w1 ⟨rfl, hb1⟩)
          | (go_at_call 12; refine (awake_any _).mono ?_; rintro e w2 ⟨rfl, hb2⟩)
          | fail)
        go_ret
        exact ⟨rfl, bnx hb1 hb2⟩
      · have HC := Lib.hid hc
        have hR : RealL l := fun x hx => by
          have h3 := List.all_eq_true.1 hc x hx
          have h4 := hr x hx
          simp [realB] at h3
          omega
        clear hc hr
        have hz1 : l.length ≤ 100000 := by omega
        have hz2 : l.length ≤ 1000000 := by omega
        have hz3 : (covers l).length ≤ 2147483646 := by have := (covers_rise l hR).2; omega
        go_enter Tryz.func3, Tryz.ntmps3
        go_wp2_with (first
          | (go_at_call 11; refine (real_any _ l true _ h (by omega) HC.out).mono ?_; rintro e w1 ⟨rfl, hb1⟩)
          | (go_at_call 12; refine (awake_any _).mono ?_; rintro e w2 ⟨rfl, hb2⟩; have hB2 := bnx hb1 hb2)
          | (go_at_call 14; refine (addIntervals_any _ l _ (h.up hB2) hz1 hR).mono ?_; rintro e w3 ⟨x3, rfl, ho3, hb3⟩; have hB3 := bnx hB2 hb3)
          | (go_at_call 15; refine (covers_any _ l _ (h.up hB3) hz2 hR).mono ?_; rintro e w4 ⟨x4, rfl, ho4, hb4⟩; have hB4 := bnx hB3 hb4)
          | (go_at_call 13; refine (sameIntervals_eq _ _ (covers l) _ ((Pairs.ownI ho3).up hb4) (Pairs.ownI ho4) hz3).mono ?_; rintro e w5 ⟨rfl, hb5⟩; have hB5 := bnx hB4 hb5)
          | fail)
        go_ret
        exact ⟨rfl, hB5⟩
end Go.Proofs.YtfllcbcokncgpaaGreatDoor
