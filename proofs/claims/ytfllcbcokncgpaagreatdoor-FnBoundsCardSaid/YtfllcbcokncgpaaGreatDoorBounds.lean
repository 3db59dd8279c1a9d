/-
  FnBounds: its walk.
-/
import Derived.Test.YtfllcbcokncgpaaGreatDoorAwake
namespace Go.Proofs.YtfllcbcokncgpaaGreatDoor
set_option linter.unusedSimpArgs false
set_option linter.unusedVariables false
open Go.RowKit

def inb (a b t : Int) : Bool := decide (a ≤ t) && decide (t ≤ b)
set_option maxRecDepth 100000 in
theorem inBoundsT_any (a b t : Int) (c : Bool) (w : World) (hc : inb a b t = c) : Calls Tryz.prog 50 #[.agg #[.int .i64 a, .int .i64 b], .int .i64 t] w fun e w' => e = .returned (.bool c) ∧ Below w.heap.size w w' := by
  subst hc
  have hb := below_new w (.cells #[.int .i64 a, .int .i64 b] 72)
  unfold inb
  by_cases h1 : a ≤ t
  · by_cases h2 : t ≤ b
    · go_enter Tryz.func50, Tryz.ntmps50
      go_wp2_with fail
      go_ret
      exact ⟨eqb (by simp [h1, h2]), hb⟩
    · have h2' : b < t := by omega
      go_enter Tryz.func50, Tryz.ntmps50
      go_wp2_with fail
      go_ret
      exact ⟨eqb (by simp [h1, h2]), hb⟩
  · have h1' : t < a := by omega
    go_enter Tryz.func50, Tryz.ntmps50
    go_wp2_with fail
    go_ret
    exact ⟨eqb (by rw [decide_eq_false (show ¬ a ≤ t by omega)]; rfl), hb⟩
set_option maxRecDepth 100000 in
theorem inBounds_any (a b t : Int) (c : Bool) (w : World) (hc : inb a b t = c) : Calls Tryz.prog 25 #[.agg #[.int .i64 a, .int .i64 b], .int .i64 t] w fun e w' => e = .returned (.bool c) ∧ Below w.heap.size w w' := by
  have HC := Lib.hid hc
  clear hc
  have hb := below_new w (.cells #[.int .i64 a, .int .i64 b] 47)
  go_enter Tryz.func25, Tryz.ntmps25
  go_wp2_with (first | (go_at_call 50; refine (inBoundsT_any a b t c _ HC.out).mono ?_; rintro e w1 ⟨rfl, hb1⟩) | fail)
  go_ret
  exact ⟨rfl, bnx hb hb1⟩

def inP (x0 x1 : Int) (r : Int × Int) : Bool := inb r.1 r.2 x0 && inb r.1 r.2 x1
theorem any_take {α : Type} (p : α → Bool) (l : List α) (k : Nat) (h : k < l.length) : (l.take (k + 1)).any p = ((l.take k).any p || p l[k]) := by rw [take_next h, List.any_append]; simp

set_option maxRecDepth 100000 in
set_option maxHeartbeats 2000000 in
theorem isSubrangeT_any (x0 x1 : Int) (v : Value) (l : List (Int × Int)) (c : Bool) (w : World) (h : Pairs w w.heap.size .i64 .i64 v l) (hl : l.length ≤ 2147483646) (hc : l.any (inP x0 x1) = c) :
    Calls Tryz.prog 51 #[.agg #[.int .i64 x0, .int .i64 x1], v] w fun e w' => e = .returned (.bool c) ∧ Below w.heap.size w w' := by
  obtain ⟨ao, cap, rfl, h1, h2⟩ := h.form
  have hb0 := below_new w (.cells #[.int .i64 x0, .int .i64 x1] 72)
  have hbx := Blk.new w [.int .i64 x0, .int .i64 x1] 72
  have hI := h.up hb0
  have HC := Lib.hid hc
  clear hc
  go_enter Tryz.func51, Tryz.ntmps51
  go_wp2_with fail
  generalize hbb : w.heap.size = b0 at *
  generalize w.alloc _ = W at *
  go_loopw [9] (fun i wr => ∃ k : Nat, k ≤ l.length ∧ i = .int .i64 k ∧ Hid ((l.take k).any (inP x0 x1) = false) ∧ Below W.heap.size W wr) (fun i _ => l.length - (intOf i).toNat)
  case atStart => exact ⟨0, Nat.zero_le _, rfl, Lib.hid (by simp), Below.refl _ _⟩
  case round => as_aux_lemma =>
    obtain ⟨k, hk, rfl, hany, hbel⟩ := hrel
    have hz := hbel.size
    by_cases hlt : k < l.length
    · obtain ⟨b, off, rfl, hbB, hBw, hcc⟩ := hI.at_ (by omega)
      have c2 := (hbel.cell (p := ⟨b, off + k * 2, none⟩) hbB).trans (hcc k hlt).1
      have c3 := (hbel.cell (p := ⟨b, off + k * 2 + 1, none⟩) hbB).trans (hcc k hlt).2
      clear hcc
      have i0' : (0 : Int) ≤ (k : Int) := by omega
      have i1 : (k : Int) < (l.length : Int) := by omega
      have HA := Lib.hid (any_take (inP x0 x1) l k hlt)
      have HM := Lib.hid (List.getElem_mem hlt)
      generalize l[k] = x at *
      obtain ⟨r0, r1⟩ := x
      have hbw := hbx.chg (Chg.ofBelow hbel) (by have := hbx.lt; omega)
      have k0 := (hbw.alloc (.cells #[.int .i64 r0, .int .i64 r1] 72)).cell 0
      have hw1 := below_new wr (.cells #[.int .i64 r0, .int .i64 r1] 72)
      have hB1 := bnx hbel hw1
      have hel := Blk.new wr [.int .i64 r0, .int .i64 r1] 72
      have d0 := hel.cell 0
      have d1 := hel.cell 1
      cases hq0 : inb r0 r1 x0
      · have HQ := Lib.hid hq0
        clear hq0
        go_wp2_with (first | (go_at_call 50; refine (inBoundsT_any r0 r1 x0 false _ HQ.out).mono ?_; rintro e w1 ⟨rfl, hb1⟩; have hB2 := bnx hB1 hb1) | fail)
        go_roundw
        case rel => exact ⟨k + 1, by omega, by simp, Lib.hid (by rw [HA.out, hany.out]; simp [inP, HQ.out]), hB2⟩
        case measure => simp [intOf]; omega
      · have HQ := Lib.hid hq0
        clear hq0
        cases hq1 : inb r0 r1 x1
        · have HQ1 := Lib.hid hq1
          clear hq1
          go_wp2_with (first
            | (go_at_call 50; ((with_reducible refine (inBoundsT_any r0 r1 x0 true _ HQ.out).mono ?_); rintro e w1 ⟨rfl, hb1⟩; have hB2 := bnx hB1 hb1; have t0 := (hel.chg (Chg.ofBelow hb1) (by have := hel.lt; omega)).cell 0; have t1 := (hel.chg (Chg.ofBelow hb1) (by have := hel.lt; omega)).cell 1; have t2 := (hbx.chg (Chg.ofBelow hB2) (by have := hbx.lt; omega)).cell 1))
            | (go_at_call 50; refine (inBoundsT_any r0 r1 x1 false _ HQ1.out).mono ?_; rintro e w2 ⟨rfl, hb2⟩; have hB3 := bnx hB2 hb2)
            | fail)
          go_roundw
          case rel => exact ⟨k + 1, by omega, by simp, Lib.hid (by rw [HA.out, hany.out]; simp [inP, HQ.out, HQ1.out]), hB3⟩
          case measure => simp [intOf]; omega
        · have HQ1 := Lib.hid hq1
          clear hq1
          go_wp2_with (first
            | (go_at_call 50; ((with_reducible refine (inBoundsT_any r0 r1 x0 true _ HQ.out).mono ?_); rintro e w1 ⟨rfl, hb1⟩; have hB2 := bnx hB1 hb1; have t0 := (hel.chg (Chg.ofBelow hb1) (by have := hel.lt; omega)).cell 0; have t1 := (hel.chg (Chg.ofBelow hb1) (by have := hel.lt; omega)).cell 1; have t2 := (hbx.chg (Chg.ofBelow hB2) (by have := hbx.lt; omega)).cell 1))
            | (go_at_call 50; refine (inBoundsT_any r0 r1 x1 true _ HQ1.out).mono ?_; rintro e w2 ⟨rfl, hb2⟩; have hB3 := bnx hB2 hb2)
            | fail)
          go_ret
          have hcT : c = true := by
            rw [← HC.out, List.any_eq_true]
            exact ⟨_, HM.out, by simp [inP, HQ.out, HQ1.out]⟩
          subst hbb
          exact ⟨eqb hcT.symm, bnx hb0 hB3⟩
    · obtain rfl : k = l.length := by omega
      go_wp2_with fail
      go_ret
      have := hany.out
      rw [List.take_length] at this
      subst hbb
      exact ⟨eqb (by rw [← HC.out, this]), bnx hb0 hbel⟩
set_option maxRecDepth 100000 in
set_option maxHeartbeats 2000000 in
theorem isSubrange_any (x0 x1 : Int) (v : Value) (l : List (Int × Int)) (c : Bool) (w : World) (h : Pairs w w.heap.size .i64 .i64 v l) (hl : l.length ≤ 2147483646) (hc : l.any (inP x0 x1) = c) :
    Calls Tryz.prog 26 #[.agg #[.int .i64 x0, .int .i64 x1], v] w fun e w' => e = .returned (.bool c) ∧ Below w.heap.size w w' := by
  have hb0 := below_newd w (.cells #[.int .i64 x0, .int .i64 x1] 47)
  have hbx := Blk.new w [.int .i64 x0, .int .i64 x1] 47
  have hI := h.up hb0
  have HC := Lib.hid hc
  clear hc
  have hS : (w.alloc (.cells #[.int .i64 x0, .int .i64 x1] 47)).drew.cell? ⟨w.heap.size, 0, none⟩ = some (.int .i64 x0) ∧ (w.alloc (.cells #[.int .i64 x0, .int .i64 x1] 47)).drew.cell? ⟨w.heap.size, 1, none⟩ = some (.int .i64 x1) := ⟨hbx.cell 0, hbx.cell 1⟩
  go_enter Tryz.func26, Tryz.ntmps26
  go_wp2_with fail
  generalize hbb : w.heap.size = b0 at *
  generalize w.alloc _ = W at *
  have hzx := hbx.lt
  go_region_held3 (fun w' => w'.cell? ⟨b0, 0, none⟩ = some (.int .i64 x0) ∧ w'.cell? ⟨b0, 1, none⟩ = some (.int .i64 x1)) (first | (with_reducible assumption) | fail)
    (first
      | (go_at_call 52; refine (intervals_any v l _ hI hl).mono ?_; rintro e w1 ⟨x, rfl, ho, hb1⟩; have hS1 := keepB_below hS hb1 (show b0 < W.drew.heap.size from hzx); have hB1 := bnx hb0 hb1 (by omega))
      | (go_at_call 51; refine (isSubrangeT_any x0 x1 x l c _ (Pairs.own ho) hl HC.out).mono ?_; rintro e w2 ⟨rfl, hb2⟩; have hS2 := keepB_below hS1 hb2 (show b0 < w1.heap.size by have := hb1.size; have : W.heap.size ≤ w1.heap.size := this; omega); have hB2 := bnx hB1 hb2 (by omega))
      | fail)
  go_wp2_with fail
  go_ret
  subst hbb
  exact ⟨rfl, hB2⟩
end Go.Proofs.YtfllcbcokncgpaaGreatDoor
