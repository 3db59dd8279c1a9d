/-
  FnBounds: the walk of the law.
-/
import Derived.Test.YtfllcbcokncgpaaGreatDoorBounds
namespace Go.Proofs.YtfllcbcokncgpaaGreatDoor
set_option linter.unusedSimpArgs false
set_option linter.unusedVariables false
open Go.RowKit

set_option maxRecDepth 100000 in
set_option maxHeartbeats 8000000 in
theorem wBounds (x0 x1 t : Int) (v : Value) (l : List (Int × Int)) (w : World) (h : Pairs w w.heap.size .i64 .i64 v l) :
    Calls Tryz.prog 8 #[.agg #[.int .i64 x0, .int .i64 x1], .int .i64 t, v] w fun e w' => e = .returned (.bool true) ∧ Below w.heap.size w w' := by
  obtain ⟨ao, cap, rfl, h1, h2⟩ := h.form
  have hb0 := below_new w (.cells #[.int .i64 x0, .int .i64 x1] 47)
  have hbx := Blk.new w [.int .i64 x0, .int .i64 x1] 47
  have hI := h.up hb0
  go_enter Tryz.func8, Tryz.ntmps8
  by_cases c1 : 2147483647 < l.length
  · have c1' : (2147483647 : Int) < (l.length : Int) := by omega
    go_wp2_with fail
    go_ret
    exact ⟨rfl, hb0⟩
  · by_cases c2 : 30 < l.length
    · have c2' : (30 : Int) < (l.length : Int) := by omega
      go_wp2_with (first | (go_at_call 12; refine (awake_any _).mono ?_; rintro e w1 ⟨rfl, hb1⟩) | fail)
      go_ret
      exact ⟨rfl, bnx hb0 hb1⟩
    · have c2' : ¬ (30 : Int) < (l.length : Int) := by omega
      go_wp2_with fail
      generalize hbb : w.heap.size = b0 at *
      generalize w.alloc _ = W at *
      have hzx := hbx.lt
      go_loopw [7, 8] (fun v i wr => ∃ k : Nat, k ≤ l.length ∧ i = .int .i64 k ∧ v = .bool ((l.take k).any (inP x0 x1)) ∧ Below W.heap.size W wr) (fun _ i _ => l.length - (intOf i).toNat)
      case atStart => exact ⟨0, Nat.zero_le _, rfl, rfl, Below.refl _ _⟩
      case round => as_aux_lemma =>
        obtain ⟨k, hk, rfl, rfl, hbel⟩ := hrel
        have hz := hbel.size
        by_cases hlt : k < l.length
        · obtain ⟨b, off, rfl, hbB, hBw, hcc⟩ := hI.at_ (by omega)
          have d0 := (hbel.cell (p := ⟨b, off + k * 2, none⟩) hbB).trans (hcc k hlt).1
          have d1 := (hbel.cell (p := ⟨b, off + k * 2 + 1, none⟩) hbB).trans (hcc k hlt).2
          clear hcc
          have i0' : (0 : Int) ≤ (k : Int) := by omega
          have i1 : (k : Int) < (l.length : Int) := by omega
          have HA := Lib.hid (any_take (inP x0 x1) l k hlt)
          generalize l[k] = x at *
          obtain ⟨r0, r1⟩ := x
          have hbw := hbx.chg (Chg.ofBelow hbel) (by omega)
          have s0 := hbw.cell 0
          have s1 := hbw.cell 1
          cases hin : (l.take k).any (inP x0 x1)
          · have HI := Lib.hid hin
            clear hin
            by_cases q0 : r0 ≤ x0
            · have q0d : decide (r0 ≤ x0) = true := decide_eq_true q0
              by_cases q1 : x0 ≤ r1
              · have q1d : decide (x0 ≤ r1) = true := decide_eq_true q1
                by_cases q2 : r0 ≤ x1
                · have q2d : decide (r0 ≤ x1) = true := decide_eq_true q2
                  by_cases q3 : x1 ≤ r1
                  · have q3d : decide (x1 ≤ r1) = true := decide_eq_true q3
                    have HV := Lib.hid (show inP x0 x1 (r0, r1) = true by simp [inP, inb]; omega)
                    go_wp2_with fail
                    go_quiet (fail)
                    go_wp2_with fail
                    go_roundw
                    case rel => exact ⟨k + 1, by omega, by simp, by rw [HA.out]; exact congrArg Value.bool (by rw [HV.out, Bool.or_true]), below_drewN hbel nq⟩
                    case measure => simp [intOf]; omega
                  · have HV := Lib.hid (show inP x0 x1 (r0, r1) = false from Bool.eq_false_iff.2 (fun hh => by simp [inP, inb] at hh; omega))
                    have q3d : decide (x1 ≤ r1) = false := decide_eq_false q3
                    clear q3
                    go_wp2_with fail
                    go_quiet (fail)
                    go_wp2_with fail
                    go_roundw
                    case rel => exact ⟨k + 1, by omega, by simp, by rw [HA.out]; exact congrArg Value.bool (by rw [HI.out, HV.out]; rfl), below_drewN hbel nq⟩
                    case measure => simp [intOf]; omega
                · have HV := Lib.hid (show inP x0 x1 (r0, r1) = false from Bool.eq_false_iff.2 (fun hh => by simp [inP, inb] at hh; omega))
                  have q2d : decide (r0 ≤ x1) = false := decide_eq_false q2
                  clear q2
                  go_wp2_with fail
                  go_quiet (fail)
                  go_wp2_with fail
                  go_roundw
                  case rel => exact ⟨k + 1, by omega, by simp, by rw [HA.out]; exact congrArg Value.bool (by rw [HI.out, HV.out]; rfl), below_drewN hbel nq⟩
                  case measure => simp [intOf]; omega
              · have HV := Lib.hid (show inP x0 x1 (r0, r1) = false from Bool.eq_false_iff.2 (fun hh => by simp [inP, inb] at hh; omega))
                have q1d : decide (x0 ≤ r1) = false := decide_eq_false q1
                clear q1
                go_wp2_with fail
                go_quiet (fail)
                go_wp2_with fail
                go_roundw
                case rel => exact ⟨k + 1, by omega, by simp, by rw [HA.out]; exact congrArg Value.bool (by rw [HI.out, HV.out]; rfl), below_drewN hbel nq⟩
                case measure => simp [intOf]; omega
            · have HV := Lib.hid (show inP x0 x1 (r0, r1) = false from Bool.eq_false_iff.2 (fun hh => by simp [inP, inb] at hh; omega))
              have q0d : decide (r0 ≤ x0) = false := decide_eq_false q0
              clear q0
              go_wp2_with fail
              go_quiet (fail)
              go_wp2_with fail
              go_roundw
              case rel => exact ⟨k + 1, by omega, by simp, by rw [HA.out]; exact congrArg Value.bool (by rw [HI.out, HV.out]; rfl), below_drewN hbel nq⟩
              case measure => simp [intOf]; omega
          · have HI := Lib.hid hin
            clear hin
            go_wp2_with fail
            go_quiet (fail)
            go_wp2_with fail
            go_roundw
            case rel => exact ⟨k + 1, by omega, by simp, by rw [HA.out]; exact congrArg Value.bool (by rw [HI.out, Bool.true_or]), below_drewN hbel nq⟩
            case measure => simp [intOf]; omega
        · obtain rfl : k = l.length := by omega
          rw [List.take_length]
          generalize hc : l.any (inP x0 x1) = c
          · have HC := Lib.hid hc
            clear hc
            by_cases q0 : x0 ≤ t
            · have q0d : decide (x0 ≤ t) = true := decide_eq_true q0
              by_cases q1 : t ≤ x1
              · have q1d : decide (t ≤ x1) = true := decide_eq_true q1
                have HQ := Lib.hid (show inb x0 x1 t = true by simp [inb, q0, q1])
                go_wp2_with fail
                have hbw := hbx.chg (Chg.ofBelow hbel) (by omega)
                have hS : wr.drew.cell? ⟨b0, 0, none⟩ = some (.int .i64 x0) ∧ wr.drew.cell? ⟨b0, 1, none⟩ = some (.int .i64 x1) := ⟨hbw.cell 0, hbw.cell 1⟩
                have hB0 := hbel.drew
                have hW0 : b0 < wr.drew.heap.size := show b0 < wr.heap.size by omega
                go_region_held3 (fun w' => w'.cell? ⟨b0, 0, none⟩ = some (.int .i64 x0) ∧ w'.cell? ⟨b0, 1, none⟩ = some (.int .i64 x1)) (first | (with_reducible assumption) | fail)
                  (first
                    | (go_at_call 12; refine (awake_any _).mono ?_; rintro e w1 ⟨rfl, hb1⟩; have hS1 := keepB_below hS hb1 hW0; have hB1 := bnx hB0 hb1 (by omega); have hW1 : b0 < w1.heap.size := by have := hb1.size; omega)
                    | (go_at_call 25; refine (inBounds_any x0 x1 t _ _ HQ.out).mono ?_; rintro e w2 ⟨rfl, hb2⟩; have hS2 := keepB_below hS1 hb2 hW1; have hB2 := bnx hB1 hb2 (by omega); have hW2 : b0 < w2.heap.size := by have := hb2.size; omega)
                    | (go_at_call 26; refine (isSubrange_any x0 x1 _ l _ _ (hI.up hB2) (by omega) HC.out).mono ?_; rintro e w3 ⟨rfl, hb3⟩; have hS3 := keepB_below hS2 hb3 hW2; have hB3 := bnx hB2 hb3 (by omega))
                    | fail)
                go_wp2_with fail
                go_ret
                subst hbb
                exact ⟨rfl, bnx hb0 hB3⟩
              · have HQ := Lib.hid (show inb x0 x1 t = false by simp [inb, q1])
                have q1d : decide (t ≤ x1) = false := decide_eq_false q1
                clear q1
                go_wp2_with fail
                have hbw := hbx.chg (Chg.ofBelow hbel) (by omega)
                have hS : wr.drew.cell? ⟨b0, 0, none⟩ = some (.int .i64 x0) ∧ wr.drew.cell? ⟨b0, 1, none⟩ = some (.int .i64 x1) := ⟨hbw.cell 0, hbw.cell 1⟩
                have hB0 := hbel.drew
                have hW0 : b0 < wr.drew.heap.size := show b0 < wr.heap.size by omega
                go_region_held3 (fun w' => w'.cell? ⟨b0, 0, none⟩ = some (.int .i64 x0) ∧ w'.cell? ⟨b0, 1, none⟩ = some (.int .i64 x1)) (first | (with_reducible assumption) | fail)
                  (first
                    | (go_at_call 12; refine (awake_any _).mono ?_; rintro e w1 ⟨rfl, hb1⟩; have hS1 := keepB_below hS hb1 hW0; have hB1 := bnx hB0 hb1 (by omega); have hW1 : b0 < w1.heap.size := by have := hb1.size; omega)
                    | (go_at_call 25; refine (inBounds_any x0 x1 t _ _ HQ.out).mono ?_; rintro e w2 ⟨rfl, hb2⟩; have hS2 := keepB_below hS1 hb2 hW1; have hB2 := bnx hB1 hb2 (by omega); have hW2 : b0 < w2.heap.size := by have := hb2.size; omega)
                    | (go_at_call 26; refine (isSubrange_any x0 x1 _ l _ _ (hI.up hB2) (by omega) HC.out).mono ?_; rintro e w3 ⟨rfl, hb3⟩; have hS3 := keepB_below hS2 hb3 hW2; have hB3 := bnx hB2 hb3 (by omega))
                    | fail)
                go_wp2_with fail
                go_ret
                subst hbb
                exact ⟨rfl, bnx hb0 hB3⟩
            · have HQ := Lib.hid (show inb x0 x1 t = false by simp [inb, q0])
              have q0d : decide (x0 ≤ t) = false := decide_eq_false q0
              have q0' : t < x0 := by omega
              go_wp2_with fail
              have hbw := hbx.chg (Chg.ofBelow hbel) (by omega)
              have hS : wr.drew.cell? ⟨b0, 0, none⟩ = some (.int .i64 x0) ∧ wr.drew.cell? ⟨b0, 1, none⟩ = some (.int .i64 x1) := ⟨hbw.cell 0, hbw.cell 1⟩
              have hB0 := hbel.drew
              have hW0 : b0 < wr.drew.heap.size := show b0 < wr.heap.size by omega
              refine wp_region_held_drew (S := (fun w' => w'.cell? ⟨b0, 0, none⟩ = some (.int .i64 x0) ∧ w'.cell? ⟨b0, 1, none⟩ = some (.int .i64 x1))) (by kernel_rfl) hS (fun hHeld => ?_)
              refine wpAnyH_ready (rs := [0]) (by kernel_rfl) (by simp) ?_
              refine AllReadyH.cons (o := ?oi1) ?hi1 (fun K hK => ?rest1) AllReadyH.nil
              case hi1 => (simp only [List.getElem?_toArray, List.getElem?_cons_succ, List.getElem?_cons_zero]; rfl)
              rw [if_pos (by rfl)]
              go_simp
              (go_at_call 12; refine (awake_any _).mono ?_; rintro e w1 ⟨rfl, hb1⟩; have hS1 := keepB_below hS hb1 hW0; have hB1 := bnx hB0 hb1 (by omega); have hW1 : b0 < w1.heap.size := by have := hb1.size; omega)
              refine hK.out _ _ hS1 (fun hHeld => ?_)
              clear hK K
              try simp only [Act.put, List.setIfInBounds_toArray, List.set_cons_zero, List.set_cons_succ]
              refine wpAnyH_take (i := 1) (oi := ?oi2) (v := ?v2) ?hi2 (by kernel_rfl) (by kernel_rfl) (by kernel_rfl) ?hQ2 ?hy2 (by assumption) ?rest2
              case hi2 => (simp only [List.getElem?_toArray, List.getElem?_cons_succ, List.getElem?_cons_zero]; rfl)
              case hQ2 => exact fun _ _ _ h => h
              case hy2 => (refine Or.inl ⟨by rfl, ?_⟩; intro w hSw; (try dsimp only at hSw); go_simp; first | done | with_reducible rfl)
              try simp only [Act.put, List.setIfInBounds_toArray, List.set_cons_zero, List.set_cons_succ]
              refine wpAnyH_take (i := 2) (oi := ?oi3) (v := ?v3) ?hi3 (by kernel_rfl) (by kernel_rfl) (by kernel_rfl) ?hQ3 ?hy3 (by assumption) ?rest3
              case hi3 => (simp only [List.getElem?_toArray, List.getElem?_cons_succ, List.getElem?_cons_zero]; rfl)
              case hQ3 => exact fun _ _ _ h => h
              case hy3 => (refine Or.inl ⟨by rfl, ?_⟩; intro w hSw; (try dsimp only at hSw); go_simp; first | done | with_reducible rfl)
              try simp only [Act.put, List.setIfInBounds_toArray, List.set_cons_zero, List.set_cons_succ]
              refine wpAnyH_take (i := 3) (oi := ?oi4) (v := ?v4) ?hi4 (by kernel_rfl) (by kernel_rfl) (by kernel_rfl) ?hQ4 ?hy4 (by assumption) ?rest4
              case hi4 => (simp only [List.getElem?_toArray, List.getElem?_cons_succ, List.getElem?_cons_zero]; rfl)
              case hQ4 => exact fun _ _ _ h => h
              case hy4 => (refine Or.inl ⟨by rfl, ?_⟩; intro w hSw; (try dsimp only at hSw); go_simp; first | done | with_reducible rfl)
              try simp only [Act.put, List.setIfInBounds_toArray, List.set_cons_zero, List.set_cons_succ]
              refine wpAnyH_take (i := 5) (oi := ?oi5) (v := ?v5) ?hi5 (by kernel_rfl) (by kernel_rfl) (by kernel_rfl) ?hQ5 ?hy5 (by assumption) ?rest5
              case hi5 => (simp only [List.getElem?_toArray, List.getElem?_cons_succ, List.getElem?_cons_zero]; rfl)
              case hQ5 => exact fun _ _ _ h => h
              case hy5 => (refine Or.inl ⟨by rfl, ?_⟩; intro w hSw; (try dsimp only at hSw); go_simp; first | done | with_reducible rfl)
              try simp only [Act.put, List.setIfInBounds_toArray, List.set_cons_zero, List.set_cons_succ]
              refine wpAnyH_take (i := 6) (oi := ?oi6) (v := ?v6) ?hi6 (by kernel_rfl) (by kernel_rfl) (by kernel_rfl) ?hQ6 ?hy6 (by assumption) ?rest6
              case hi6 => (simp only [List.getElem?_toArray, List.getElem?_cons_succ, List.getElem?_cons_zero]; rfl)
              case hQ6 => exact fun _ _ _ h => h
              case hy6 => (refine Or.inl ⟨by rfl, ?_⟩; intro w hSw; (try dsimp only at hSw); go_simp; first | done | with_reducible rfl)
              try simp only [Act.put, List.setIfInBounds_toArray, List.set_cons_zero, List.set_cons_succ]
              refine wpAnyH_take (i := 7) (oi := ?oi7) (v := ?v7) ?hi7 (by kernel_rfl) (by kernel_rfl) (by kernel_rfl) ?hQ7 ?hy7 (by assumption) ?rest7
              case hi7 => (simp only [List.getElem?_toArray, List.getElem?_cons_succ, List.getElem?_cons_zero]; rfl)
              case hQ7 => exact fun _ _ _ h => h
              case hy7 => (refine Or.inl ⟨by rfl, ?_⟩; intro w hSw; (try dsimp only at hSw); go_simp; first | done | with_reducible rfl)
              try simp only [Act.put, List.setIfInBounds_toArray, List.set_cons_zero, List.set_cons_succ]
              refine wpAnyH_take (i := 8) (oi := ?oi8) (v := ?v8) ?hi8 (by kernel_rfl) (by kernel_rfl) (by kernel_rfl) ?hQ8 ?hy8 (by assumption) ?rest8
              case hi8 => (simp only [List.getElem?_toArray, List.getElem?_cons_succ, List.getElem?_cons_zero]; rfl)
              case hQ8 => exact fun _ _ _ h => h
              case hy8 => (refine Or.inl ⟨by rfl, ?_⟩; intro w hSw; (try dsimp only at hSw); go_simp; first | done | with_reducible rfl)
              try simp only [Act.put, List.setIfInBounds_toArray, List.set_cons_zero, List.set_cons_succ]
              refine wpAnyH_ready (rs := [4]) (by kernel_rfl) (by simp) ?_
              refine AllReadyH.cons (o := ?oi9) ?hi9 (fun K hK => ?rest9) AllReadyH.nil
              case hi9 => (simp only [List.getElem?_toArray, List.getElem?_cons_succ, List.getElem?_cons_zero]; rfl)
              rw [if_pos (by rfl)]
              go_simp
              (go_at_call 25; refine (inBounds_any x0 x1 t _ _ HQ.out).mono ?_; rintro e w2 ⟨rfl, hb2⟩; have hS2 := keepB_below hS1 hb2 hW1; have hB2 := bnx hB1 hb2 (by omega); have hW2 : b0 < w2.heap.size := by have := hb2.size; omega)
              refine hK.out _ _ hS2 (fun hHeld => ?_)
              clear hK K
              try simp only [Act.put, List.setIfInBounds_toArray, List.set_cons_zero, List.set_cons_succ]
              refine wpAnyH_take (i := 9) (oi := ?oi10) (v := ?v10) ?hi10 (by kernel_rfl) (by kernel_rfl) (by kernel_rfl) ?hQ10 ?hy10 (by assumption) ?rest10
              case hi10 => (simp only [List.getElem?_toArray, List.getElem?_cons_succ, List.getElem?_cons_zero]; rfl)
              case hQ10 => exact fun _ _ _ h => h
              case hy10 => (refine Or.inl ⟨by rfl, ?_⟩; intro w hSw; (try dsimp only at hSw); go_simp; first | done | with_reducible rfl)
              try simp only [Act.put, List.setIfInBounds_toArray, List.set_cons_zero, List.set_cons_succ]
              refine wpAnyH_take (i := 10) (oi := ?oi11) (v := undef) ?hi11 (by kernel_rfl) (by kernel_rfl) (by kernel_rfl) ?hQ11 ?hy11 (by assumption) ?rest11
              case hi11 => (simp only [List.getElem?_toArray, List.getElem?_cons_succ, List.getElem?_cons_zero]; rfl)
              case hQ11 => exact fun _ _ _ h => h
              case hy11 => exact Or.inr ⟨by rfl, rfl⟩
              try simp only [Act.put, List.setIfInBounds_toArray, List.set_cons_zero, List.set_cons_succ]
              refine wpAnyH_take (i := 11) (oi := ?oi12) (v := undef) ?hi12 (by kernel_rfl) (by kernel_rfl) (by kernel_rfl) ?hQ12 ?hy12 (by assumption) ?rest12
              case hi12 => (simp only [List.getElem?_toArray, List.getElem?_cons_succ, List.getElem?_cons_zero]; rfl)
              case hQ12 => exact fun _ _ _ h => h
              case hy12 => exact Or.inr ⟨by rfl, rfl⟩
              try simp only [Act.put, List.setIfInBounds_toArray, List.set_cons_zero, List.set_cons_succ]
              refine wpAnyH_take (i := 12) (oi := ?oi13) (v := undef) ?hi13 (by kernel_rfl) (by kernel_rfl) (by kernel_rfl) ?hQ13 ?hy13 (by assumption) ?rest13
              case hi13 => (simp only [List.getElem?_toArray, List.getElem?_cons_succ, List.getElem?_cons_zero]; rfl)
              case hQ13 => exact fun _ _ _ h => h
              case hy13 => exact Or.inr ⟨by rfl, rfl⟩
              try simp only [Act.put, List.setIfInBounds_toArray, List.set_cons_zero, List.set_cons_succ]
              refine wpAnyH_take (i := 13) (oi := ?oi14) (v := undef) ?hi14 (by kernel_rfl) (by kernel_rfl) (by kernel_rfl) ?hQ14 ?hy14 (by assumption) ?rest14
              case hi14 => (simp only [List.getElem?_toArray, List.getElem?_cons_succ, List.getElem?_cons_zero]; rfl)
              case hQ14 => exact fun _ _ _ h => h
              case hy14 => exact Or.inr ⟨by rfl, rfl⟩
              try simp only [Act.put, List.setIfInBounds_toArray, List.set_cons_zero, List.set_cons_succ]
              refine wpAnyH_take (i := 14) (oi := ?oi15) (v := ?v15) ?hi15 (by kernel_rfl) (by kernel_rfl) (by kernel_rfl) ?hQ15 ?hy15 (by assumption) ?rest15
              case hi15 => (simp only [List.getElem?_toArray, List.getElem?_cons_succ, List.getElem?_cons_zero]; rfl)
              case hQ15 => exact fun _ _ _ h => h
              case hy15 => (refine Or.inl ⟨by rfl, ?_⟩; intro w hSw; (try dsimp only at hSw); go_simp; first | done | with_reducible rfl)
              try simp only [Act.put, List.setIfInBounds_toArray, List.set_cons_zero, List.set_cons_succ]
              refine wpAnyH_take (i := 15) (oi := ?oi16) (v := ?v16) ?hi16 (by kernel_rfl) (by kernel_rfl) (by kernel_rfl) ?hQ16 ?hy16 (by assumption) ?rest16
              case hi16 => (simp only [List.getElem?_toArray, List.getElem?_cons_succ, List.getElem?_cons_zero]; rfl)
              case hQ16 => exact fun _ _ _ h => h
              case hy16 => (refine Or.inl ⟨by rfl, ?_⟩; intro w hSw; (try dsimp only at hSw); go_simp; first | done | with_reducible rfl)
              try simp only [Act.put, List.setIfInBounds_toArray, List.set_cons_zero, List.set_cons_succ]
              refine wpAnyH_take (i := 16) (oi := ?oi17) (v := ?v17) ?hi17 (by kernel_rfl) (by kernel_rfl) (by kernel_rfl) ?hQ17 ?hy17 (by assumption) ?rest17
              case hi17 => (simp only [List.getElem?_toArray, List.getElem?_cons_succ, List.getElem?_cons_zero]; rfl)
              case hQ17 => exact fun _ _ _ h => h
              case hy17 => (refine Or.inl ⟨by rfl, ?_⟩; intro w hSw; (try dsimp only at hSw); go_simp; first | done | with_reducible rfl)
              try simp only [Act.put, List.setIfInBounds_toArray, List.set_cons_zero, List.set_cons_succ]
              refine wpAnyH_take (i := 17) (oi := ?oi18) (v := ?v18) ?hi18 (by kernel_rfl) (by kernel_rfl) (by kernel_rfl) ?hQ18 ?hy18 (by assumption) ?rest18
              case hi18 => (simp only [List.getElem?_toArray, List.getElem?_cons_succ, List.getElem?_cons_zero]; rfl)
              case hQ18 => exact fun _ _ _ h => h
              case hy18 => (refine Or.inl ⟨by rfl, ?_⟩; intro w hSw; (try dsimp only at hSw); go_simp; first | done | with_reducible rfl)
              try simp only [Act.put, List.setIfInBounds_toArray, List.set_cons_zero, List.set_cons_succ]
              refine wpAnyH_take (i := 18) (oi := ?oi19) (v := ?v19) ?hi19 (by kernel_rfl) (by kernel_rfl) (by kernel_rfl) ?hQ19 ?hy19 (by assumption) ?rest19
              case hi19 => (simp only [List.getElem?_toArray, List.getElem?_cons_succ, List.getElem?_cons_zero]; rfl)
              case hQ19 => exact fun _ _ _ h => h
              case hy19 => (refine Or.inl ⟨by rfl, ?_⟩; intro w hSw; (try dsimp only at hSw); go_simp; first | done | with_reducible rfl)
              try simp only [Act.put, List.setIfInBounds_toArray, List.set_cons_zero, List.set_cons_succ]
              refine wpAnyH_take (i := 19) (oi := ?oi20) (v := ?v20) ?hi20 (by kernel_rfl) (by kernel_rfl) (by kernel_rfl) ?hQ20 ?hy20 (by assumption) ?rest20
              case hi20 => (simp only [List.getElem?_toArray, List.getElem?_cons_succ, List.getElem?_cons_zero]; rfl)
              case hQ20 => exact fun _ _ _ h => h
              case hy20 => (refine Or.inl ⟨by rfl, ?_⟩; intro w hSw; (try dsimp only at hSw); go_simp; first | done | with_reducible rfl)
              try simp only [Act.put, List.setIfInBounds_toArray, List.set_cons_zero, List.set_cons_succ]
              refine wpAnyH_take (i := 21) (oi := ?oi21) (v := ?v21) ?hi21 (by kernel_rfl) (by kernel_rfl) (by kernel_rfl) ?hQ21 ?hy21 (by assumption) ?rest21
              case hi21 => (simp only [List.getElem?_toArray, List.getElem?_cons_succ, List.getElem?_cons_zero]; rfl)
              case hQ21 => exact fun _ _ _ h => h
              case hy21 => (refine Or.inl ⟨by rfl, ?_⟩; intro w hSw; (try dsimp only at hSw); go_simp; first | done | with_reducible rfl)
              try simp only [Act.put, List.setIfInBounds_toArray, List.set_cons_zero, List.set_cons_succ]
              refine wpAnyH_ready (rs := [20]) (by kernel_rfl) (by simp) ?_
              refine AllReadyH.cons (o := ?oi22) ?hi22 (fun K hK => ?rest22) AllReadyH.nil
              case hi22 => (simp only [List.getElem?_toArray, List.getElem?_cons_succ, List.getElem?_cons_zero]; rfl)
              rw [if_pos (by rfl)]
              go_simp
              (go_at_call 26; refine (isSubrange_any x0 x1 _ l _ _ (hI.up hB2) (by omega) HC.out).mono ?_; rintro e w3 ⟨rfl, hb3⟩; have hS3 := keepB_below hS2 hb3 hW2; have hB3 := bnx hB2 hb3 (by omega))
              refine hK.out _ _ hS3 (fun hHeld => ?_)
              clear hK K
              try simp only [Act.put, List.setIfInBounds_toArray, List.set_cons_zero, List.set_cons_succ]
              refine wpAnyH_take (i := 22) (oi := ?oi23) (v := ?v23) ?hi23 (by kernel_rfl) (by kernel_rfl) (by kernel_rfl) ?hQ23 ?hy23 (by assumption) ?rest23
              case hi23 => (simp only [List.getElem?_toArray, List.getElem?_cons_succ, List.getElem?_cons_zero]; rfl)
              case hQ23 => exact fun _ _ _ h => h
              case hy23 => (refine Or.inl ⟨by rfl, ?_⟩; intro w hSw; (try dsimp only at hSw); go_simp; first | done | with_reducible rfl)
              try simp only [Act.put, List.setIfInBounds_toArray, List.set_cons_zero, List.set_cons_succ]
              refine wpAnyH_take (i := 23) (oi := ?oi24) (v := ?v24) ?hi24 (by kernel_rfl) (by kernel_rfl) (by kernel_rfl) ?hQ24 ?hy24 (by assumption) ?rest24
              case hi24 => (simp only [List.getElem?_toArray, List.getElem?_cons_succ, List.getElem?_cons_zero]; rfl)
              case hQ24 => exact fun _ _ _ h => h
              case hy24 => (refine Or.inl ⟨by rfl, ?_⟩; intro w hSw; (try dsimp only at hSw); go_simp; first | done | with_reducible rfl)
              try simp only [Act.put, List.setIfInBounds_toArray, List.set_cons_zero, List.set_cons_succ]
              refine wpAnyH_take (i := 24) (oi := ?oi25) (v := ?v25) ?hi25 (by kernel_rfl) (by kernel_rfl) (by kernel_rfl) ?hQ25 ?hy25 (by assumption) ?rest25
              case hi25 => (simp only [List.getElem?_toArray, List.getElem?_cons_succ, List.getElem?_cons_zero]; rfl)
              case hQ25 => exact fun _ _ _ h => h
              case hy25 => (refine Or.inl ⟨by rfl, ?_⟩; intro w hSw; (try dsimp only at hSw); go_simp; first | done | with_reducible rfl)
              try simp only [Act.put, List.setIfInBounds_toArray, List.set_cons_zero, List.set_cons_succ]
              refine wpAnyH_done (by kernel_rfl) ?_ _
              go_wp2_with fail
              go_ret
              subst hbb
              exact ⟨rfl, bnx hb0 hB3⟩
end Go.Proofs.YtfllcbcokncgpaaGreatDoor
