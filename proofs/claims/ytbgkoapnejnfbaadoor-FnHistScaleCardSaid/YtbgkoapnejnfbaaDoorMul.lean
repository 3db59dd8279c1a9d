/-
  FloatHistogram.Mul and Div.
-/
import Derived.Test.YtbgkoapnejnfbaaDoorFH
import Derived.Deep.Cut
namespace Go.Proofs.YtbgkoapnejnfbaaDoor
set_option linter.unusedSimpArgs false
set_option linter.unusedVariables false
open Go.RowKit
attribute [local go_sem] run_store_float

theorem getD_set_same (l : List Nat) (k r : Nat) (h : k < l.length) : (l.set k r).getD k 0 = r := by simp [List.getD_eq_getElem?_getD, h]
theorem getD_set_other (l : List Nat) (k j r : Nat) (h : j ≠ k) : (l.set k r).getD j 0 = l.getD j 0 := by
  rw [List.getD_eq_getElem?_getD, List.getD_eq_getElem?_getD, List.getElem?_set_ne (Ne.symm h)]

set_option maxRecDepth 100000 in
set_option maxHeartbeats 8000000 in
theorem mul_any (b f : Nat) (x1 x2 x3 x4 x5 : Value) (h : Hist) (w : World) (lo : Nat) (F0 : FH w lo b x1 x2 x3 x4 x5 h) (hf : Fits h) :
    Calls Tryd.prog 46 #[.pointer (some ⟨b, 0, none⟩), .float .f64 f] w fun e w' => ∃ h', e = .returned (.pointer (some ⟨b, 0, none⟩)) ∧ Scl false f h h' ∧ FH w' lo b x1 x2 x3 x4 x5 h' ∧ Below lo w w' := by
  have hlo := F0.lo_le
  obtain ⟨⟨z3, d3, rfl⟩, ⟨z4, d4, rfl⟩⟩ := F0.forms
  have hl3 := hf.fups
  have hl4 := hf.fdowns
  obtain ⟨r1, hr1, run1⟩ := run_mul (P := Tryd.prog) 67 h.zc f w
  generalize (scaleN false f h.zc).isNone = c1 at *
  have F1 : FH ((dr c1 w).setCell ⟨b, 3, none⟩ (.float .f64 r1)) lo b x1 x2 (.slice z3 h.fups.length d3) (.slice z4 h.fdowns.length d4) x5 (hwx h r1 h.cnt h.sum h.fups h.fdowns) := (F0.dr c1).zc r1
  obtain ⟨r2, hr2, run2⟩ := run_mul (P := Tryd.prog) 67 h.cnt f ((dr c1 w).setCell ⟨b, 3, none⟩ (.float .f64 r1))
  generalize (scaleN false f h.cnt).isNone = c2 at *
  have F2 : FH ((dr c2 ((dr c1 w).setCell ⟨b, 3, none⟩ (.float .f64 r1))).setCell ⟨b, 4, none⟩ (.float .f64 r2)) lo b x1 x2 (.slice z3 h.fups.length d3) (.slice z4 h.fdowns.length d4) x5 (hwx h r1 r2 h.sum h.fups h.fdowns) := (F1.dr c2).cnt r2
  obtain ⟨r3, hr3, run3⟩ := run_mul (P := Tryd.prog) 67 h.sum f ((dr c2 ((dr c1 w).setCell ⟨b, 3, none⟩ (.float .f64 r1))).setCell ⟨b, 4, none⟩ (.float .f64 r2))
  generalize (scaleN false f h.sum).isNone = c3 at *
  have F3 : FH ((dr c3 ((dr c2 ((dr c1 w).setCell ⟨b, 3, none⟩ (.float .f64 r1))).setCell ⟨b, 4, none⟩ (.float .f64 r2))).setCell ⟨b, 5, none⟩ (.float .f64 r3)) lo b x1 x2 (.slice z3 h.fups.length d3) (.slice z4 h.fdowns.length d4) x5 (hwx h r1 r2 r3 h.fups h.fdowns) := (F2.dr c3).sum r3
  have a3 : w.cell? ⟨b, 3, none⟩ = some (.float .f64 h.zc) := cells_of_block F0.cells 3
  have b3 : (dr c1 w).cell? ⟨b, 3, none⟩ = some (.float .f64 h.zc) := (cell_dr _ _ _).trans a3
  have g3 := (F0.dr c1).frozen 3
  have a4 : ((dr c1 w).setCell ⟨b, 3, none⟩ (.float .f64 r1)).cell? ⟨b, 4, none⟩ = some (.float .f64 h.cnt) := cells_of_block F1.cells 4
  have b4 : (dr c2 ((dr c1 w).setCell ⟨b, 3, none⟩ (.float .f64 r1))).cell? ⟨b, 4, none⟩ = some (.float .f64 h.cnt) := (cell_dr _ _ _).trans a4
  have g4 := (F1.dr c2).frozen 4
  have a5 : ((dr c2 ((dr c1 w).setCell ⟨b, 3, none⟩ (.float .f64 r1))).setCell ⟨b, 4, none⟩ (.float .f64 r2)).cell? ⟨b, 5, none⟩ = some (.float .f64 h.sum) := cells_of_block F2.cells 5
  have b5 : (dr c3 ((dr c2 ((dr c1 w).setCell ⟨b, 3, none⟩ (.float .f64 r1))).setCell ⟨b, 4, none⟩ (.float .f64 r2))).cell? ⟨b, 5, none⟩ = some (.float .f64 h.sum) := (cell_dr _ _ _).trans a5
  have g5 := (F2.dr c3).frozen 5
  have a8 : ((dr c3 ((dr c2 ((dr c1 w).setCell ⟨b, 3, none⟩ (.float .f64 r1))).setCell ⟨b, 4, none⟩ (.float .f64 r2))).setCell ⟨b, 5, none⟩ (.float .f64 r3)).cell? ⟨b, 8, none⟩ = some (.slice z3 h.fups.length d3) := cells_of_block F3.cells 8
  have hB3 : Below lo w ((dr c3 ((dr c2 ((dr c1 w).setCell ⟨b, 3, none⟩ (.float .f64 r1))).setCell ⟨b, 4, none⟩ (.float .f64 r2))).setCell ⟨b, 5, none⟩ (.float .f64 r3)) := (below_dr ((below_dr ((below_dr (Below.refl lo w) c1).setCell hlo _) c2).setCell hlo _) c3).setCell hlo _
  have HF3 := Lib.hid F3
  clear F0 F1 F2 F3
  go_enter Tryd.func46, Tryd.ntmps46
  go_wp2_with fail
  have F3 := HF3.out
  clear HF3 a3 b3 g3 a4 b4 g4 a5 b5 g5 run1 run2 run3 a8
  generalize World.setCell _ _ (.float .f64 r3) = W3 at *
  go_loopw [36] (fun i wr => ∃ (k : Nat) (us : List Nat), k ≤ h.fups.length ∧ i = .int .i64 k ∧ us.length = h.fups.length ∧ (∀ j, j < k → ScR false f (h.fups.getD j 0) (us.getD j 0)) ∧ (∀ j, k ≤ j → us.getD j 0 = h.fups.getD j 0) ∧ FH wr lo b x1 x2 (.slice z3 h.fups.length d3) (.slice z4 h.fdowns.length d4) x5 (hwx h r1 r2 r3 us h.fdowns) ∧ Below lo w wr) (fun i _ => h.fups.length - (intOf i).toNat)
  case atStart => exact ⟨0, h.fups, Nat.zero_le _, rfl, rfl, fun j hj => absurd hj (Nat.not_lt_zero _), fun _ _ => rfl, F3, hB3⟩
  case round => as_aux_lemma =>
    obtain ⟨k, us, hk, rfl, hlen, hsc, hrest, F, hB⟩ := hrel
    by_cases hlt : k < h.fups.length
    · obtain ⟨r, hr, hrun⟩ := run_mul (P := Tryd.prog) 67 (us.getD k 0) f wr
      rw [hrest k (Nat.le_refl _)] at hr
      generalize hc : (scaleN false f (us.getD k 0)).isNone = c at *
      clear hc
      obtain ⟨g, rfl, hn, hg, hce, hfr, hset⟩ := (F.dr c).at3 (k := k) (by show k < us.length; omega)
      have hce' : wr.cell? ⟨g, k, none⟩ = some (.float .f64 (us.getD k 0)) := (cell_dr c wr _).symm.trans hce
      have hce4 : (dr c wr).cell? ⟨g, k, none⟩ = some (.float .f64 (us.getD k 0)) := hce
      have hce2 : wr.cell? ⟨g, 0 + k, none⟩ = some (.float .f64 (us.getD k 0)) := by rw [Nat.zero_add]; exact hce'
      have hce3 : (dr c wr).cell? ⟨g, 0 + k, none⟩ = some (.float .f64 (us.getD k 0)) := by rw [Nat.zero_add]; exact hce
      have hfr3 : (dr c wr).frozen? ⟨g, 0 + k, none⟩ = false := by rw [Nat.zero_add]; exact hfr
      have c8 : wr.cell? ⟨b, 8, none⟩ = some (.slice (some ⟨g, 0, none⟩) h.fups.length d3) := cells_of_block F.cells 8
      have hset' : FH ((dr c wr).setCell ⟨g, k, none⟩ (.float .f64 r)) lo b x1 x2 (.slice (some ⟨g, 0, none⟩) h.fups.length d3) (.slice z4 h.fdowns.length d4) x5 (hwx h r1 r2 r3 (us.set k r) h.fdowns) := hset r
      have HS := Lib.hid hset'
      have HSC := Lib.hid hsc
      have HRS := Lib.hid hrest
      have HF := Lib.hid F
      have i0 : (0 : Int) ≤ (k : Int) := by omega
      have i1 : (k : Int) < (h.fups.length : Int) := by omega
      clear hset hset' hsc hrest F hn hce
      generalize us.getD k 0 = v at hrun hce' hce2 hce3 hce4
      go_wp2_with fail
      go_roundw
      case rel =>
        refine ⟨k + 1, us.set k r, by omega, by simp, by rw [List.length_set]; exact hlen, fun j hj => ?_, fun j hj => ?_, by first | exact HS.out | (rw [Nat.zero_add]; exact HS.out), (below_dr hB c).setCell (by show lo ≤ g; exact hg) _⟩
        · by_cases hjk : j = k
          · subst hjk
            rw [getD_set_same _ _ _ (by omega)]
            exact hr
          · rw [getD_set_other _ _ _ _ hjk]
            exact HSC.out j (by omega)
        · rw [getD_set_other _ _ _ _ (by omega)]
          exact HRS.out j (by omega)
      case measure => simp [intOf]; omega
    · have hke : k = h.fups.length := by omega
      subst hke
      have hkn : ¬ ((h.fups.length : Int) < (h.fups.length : Int)) := by omega
      have a9 : wr.cell? ⟨b, 9, none⟩ = some (.slice z4 h.fdowns.length d4) := cells_of_block F.cells 9
      have HF := Lib.hid F
      have HSC := Lib.hid hsc
      have hlen1 := hlen
      clear F hsc hrest
      go_wp2_with fail
      have F1 := HF.out
      have hB1 := hB
      clear HF a9
      generalize us = us1 at *
      go_loopw [55] (fun i wr => ∃ (k : Nat) (us : List Nat), k ≤ h.fdowns.length ∧ i = .int .i64 k ∧ us.length = h.fdowns.length ∧ (∀ j, j < k → ScR false f (h.fdowns.getD j 0) (us.getD j 0)) ∧ (∀ j, k ≤ j → us.getD j 0 = h.fdowns.getD j 0) ∧ FH wr lo b x1 x2 (.slice z3 h.fups.length d3) (.slice z4 h.fdowns.length d4) x5 (hwx h r1 r2 r3 us1 us) ∧ Below lo w wr) (fun i _ => h.fdowns.length - (intOf i).toNat)
      case atStart => exact ⟨0, h.fdowns, Nat.zero_le _, rfl, rfl, fun j hj => absurd hj (Nat.not_lt_zero _), fun _ _ => rfl, F1, hB1⟩
      case round => as_aux_lemma =>
        obtain ⟨k, us, hk, rfl, hlen, hsc, hrest, F, hB⟩ := hrel
        by_cases hlt : k < h.fdowns.length
        · obtain ⟨r, hr, hrun⟩ := run_mul (P := Tryd.prog) 67 (us.getD k 0) f wr
          rw [hrest k (Nat.le_refl _)] at hr
          generalize hc : (scaleN false f (us.getD k 0)).isNone = c at *
          clear hc
          obtain ⟨g, rfl, hn, hg, hce, hfr, hset⟩ := (F.dr c).at4 (k := k) (by show k < us.length; omega)
          have hce' : wr.cell? ⟨g, k, none⟩ = some (.float .f64 (us.getD k 0)) := (cell_dr c wr _).symm.trans hce
          have hce4 : (dr c wr).cell? ⟨g, k, none⟩ = some (.float .f64 (us.getD k 0)) := hce
          have hce2 : wr.cell? ⟨g, 0 + k, none⟩ = some (.float .f64 (us.getD k 0)) := by rw [Nat.zero_add]; exact hce'
          have hce3 : (dr c wr).cell? ⟨g, 0 + k, none⟩ = some (.float .f64 (us.getD k 0)) := by rw [Nat.zero_add]; exact hce
          have hfr3 : (dr c wr).frozen? ⟨g, 0 + k, none⟩ = false := by rw [Nat.zero_add]; exact hfr
          have c8 : wr.cell? ⟨b, 9, none⟩ = some (.slice (some ⟨g, 0, none⟩) h.fdowns.length d4) := cells_of_block F.cells 9
          have hset' : FH ((dr c wr).setCell ⟨g, k, none⟩ (.float .f64 r)) lo b x1 x2 (.slice z3 h.fups.length d3) (.slice (some ⟨g, 0, none⟩) h.fdowns.length d4) x5 (hwx h r1 r2 r3 us1 (us.set k r)) := hset r
          have HS := Lib.hid hset'
          have HSC := Lib.hid hsc
          have HRS := Lib.hid hrest
          have HF := Lib.hid F
          have i0 : (0 : Int) ≤ (k : Int) := by omega
          have i1 : (k : Int) < (h.fdowns.length : Int) := by omega
          clear hset hset' hsc hrest F hn hce
          generalize us.getD k 0 = v at hrun hce' hce2 hce3 hce4
          go_wp2_with fail
          go_roundw
          case rel =>
            refine ⟨k + 1, us.set k r, by omega, by simp, by rw [List.length_set]; exact hlen, fun j hj => ?_, fun j hj => ?_, by first | exact HS.out | (rw [Nat.zero_add]; exact HS.out), (below_dr hB c).setCell (by show lo ≤ g; exact hg) _⟩
            · by_cases hjk : j = k
              · subst hjk
                rw [getD_set_same _ _ _ (by omega)]
                exact hr
              · rw [getD_set_other _ _ _ _ hjk]
                exact HSC.out j (by omega)
            · rw [getD_set_other _ _ _ _ (by omega)]
              exact HRS.out j (by omega)
          case measure => simp [intOf]; omega
        · have hke : k = h.fdowns.length := by omega
          subst hke
          have hkn : ¬ ((h.fdowns.length : Int) < (h.fdowns.length : Int)) := by omega
          have HF := Lib.hid F
          have HSC2 := Lib.hid hsc
          clear F hsc hrest
          go_wp2_with fail
          go_ret
          exact ⟨rfl, hwx h r1 r2 r3 us1 us, ⟨hr1, hr2, hr3, hlen1, hlen, HSC.out, HSC2.out, rfl, rfl, ⟨rfl, rfl, rfl, rfl, rfl, rfl⟩⟩, HF.out, hB⟩

set_option maxRecDepth 100000 in
set_option maxHeartbeats 8000000 in
theorem div_any (b f : Nat) (x1 x2 x3 x4 x5 : Value) (h : Hist) (w : World) (lo : Nat) (F0 : FH w lo b x1 x2 x3 x4 x5 h) (hf : Fits h) (hz : (FloatKind.f64.format.order f 0 == some .eq) = false) :
    Calls Tryd.prog 48 #[.pointer (some ⟨b, 0, none⟩), .float .f64 f] w fun e w' => ∃ h', e = .returned (.pointer (some ⟨b, 0, none⟩)) ∧ Scl true f h h' ∧ FH w' lo b x1 x2 x3 x4 x5 h' ∧ Below lo w w' := by
  have hlo := F0.lo_le
  obtain ⟨⟨z3, d3, rfl⟩, ⟨z4, d4, rfl⟩⟩ := F0.forms
  have hl3 := hf.fups
  have hl4 := hf.fdowns
  obtain ⟨r1, hr1, run1⟩ := run_quo (P := Tryd.prog) 67 h.zc f w
  generalize (scaleN true f h.zc).isNone = c1 at *
  have F1 : FH ((dr c1 w).setCell ⟨b, 3, none⟩ (.float .f64 r1)) lo b x1 x2 (.slice z3 h.fups.length d3) (.slice z4 h.fdowns.length d4) x5 (hwx h r1 h.cnt h.sum h.fups h.fdowns) := (F0.dr c1).zc r1
  obtain ⟨r2, hr2, run2⟩ := run_quo (P := Tryd.prog) 67 h.cnt f ((dr c1 w).setCell ⟨b, 3, none⟩ (.float .f64 r1))
  generalize (scaleN true f h.cnt).isNone = c2 at *
  have F2 : FH ((dr c2 ((dr c1 w).setCell ⟨b, 3, none⟩ (.float .f64 r1))).setCell ⟨b, 4, none⟩ (.float .f64 r2)) lo b x1 x2 (.slice z3 h.fups.length d3) (.slice z4 h.fdowns.length d4) x5 (hwx h r1 r2 h.sum h.fups h.fdowns) := (F1.dr c2).cnt r2
  obtain ⟨r3, hr3, run3⟩ := run_quo (P := Tryd.prog) 67 h.sum f ((dr c2 ((dr c1 w).setCell ⟨b, 3, none⟩ (.float .f64 r1))).setCell ⟨b, 4, none⟩ (.float .f64 r2))
  generalize (scaleN true f h.sum).isNone = c3 at *
  have F3 : FH ((dr c3 ((dr c2 ((dr c1 w).setCell ⟨b, 3, none⟩ (.float .f64 r1))).setCell ⟨b, 4, none⟩ (.float .f64 r2))).setCell ⟨b, 5, none⟩ (.float .f64 r3)) lo b x1 x2 (.slice z3 h.fups.length d3) (.slice z4 h.fdowns.length d4) x5 (hwx h r1 r2 r3 h.fups h.fdowns) := (F2.dr c3).sum r3
  have a3 : w.cell? ⟨b, 3, none⟩ = some (.float .f64 h.zc) := cells_of_block F0.cells 3
  have b3 : (dr c1 w).cell? ⟨b, 3, none⟩ = some (.float .f64 h.zc) := (cell_dr _ _ _).trans a3
  have g3 := (F0.dr c1).frozen 3
  have a4 : ((dr c1 w).setCell ⟨b, 3, none⟩ (.float .f64 r1)).cell? ⟨b, 4, none⟩ = some (.float .f64 h.cnt) := cells_of_block F1.cells 4
  have b4 : (dr c2 ((dr c1 w).setCell ⟨b, 3, none⟩ (.float .f64 r1))).cell? ⟨b, 4, none⟩ = some (.float .f64 h.cnt) := (cell_dr _ _ _).trans a4
  have g4 := (F1.dr c2).frozen 4
  have a5 : ((dr c2 ((dr c1 w).setCell ⟨b, 3, none⟩ (.float .f64 r1))).setCell ⟨b, 4, none⟩ (.float .f64 r2)).cell? ⟨b, 5, none⟩ = some (.float .f64 h.sum) := cells_of_block F2.cells 5
  have b5 : (dr c3 ((dr c2 ((dr c1 w).setCell ⟨b, 3, none⟩ (.float .f64 r1))).setCell ⟨b, 4, none⟩ (.float .f64 r2))).cell? ⟨b, 5, none⟩ = some (.float .f64 h.sum) := (cell_dr _ _ _).trans a5
  have g5 := (F2.dr c3).frozen 5
  have a8 : ((dr c3 ((dr c2 ((dr c1 w).setCell ⟨b, 3, none⟩ (.float .f64 r1))).setCell ⟨b, 4, none⟩ (.float .f64 r2))).setCell ⟨b, 5, none⟩ (.float .f64 r3)).cell? ⟨b, 8, none⟩ = some (.slice z3 h.fups.length d3) := cells_of_block F3.cells 8
  have hB3 : Below lo w ((dr c3 ((dr c2 ((dr c1 w).setCell ⟨b, 3, none⟩ (.float .f64 r1))).setCell ⟨b, 4, none⟩ (.float .f64 r2))).setCell ⟨b, 5, none⟩ (.float .f64 r3)) := (below_dr ((below_dr ((below_dr (Below.refl lo w) c1).setCell hlo _) c2).setCell hlo _) c3).setCell hlo _
  have HF3 := Lib.hid F3
  clear F0 F1 F2 F3
  go_enter Tryd.func48, Tryd.ntmps48
  go_wp2_with fail
  have F3 := HF3.out
  clear HF3 a3 b3 g3 a4 b4 g4 a5 b5 g5 run1 run2 run3 a8
  generalize World.setCell _ _ (.float .f64 r3) = W3 at *
  go_loopw [51] (fun i wr => ∃ (k : Nat) (us : List Nat), k ≤ h.fups.length ∧ i = .int .i64 k ∧ us.length = h.fups.length ∧ (∀ j, j < k → ScR true f (h.fups.getD j 0) (us.getD j 0)) ∧ (∀ j, k ≤ j → us.getD j 0 = h.fups.getD j 0) ∧ FH wr lo b x1 x2 (.slice z3 h.fups.length d3) (.slice z4 h.fdowns.length d4) x5 (hwx h r1 r2 r3 us h.fdowns) ∧ Below lo w wr) (fun i _ => h.fups.length - (intOf i).toNat)
  case atStart => exact ⟨0, h.fups, Nat.zero_le _, rfl, rfl, fun j hj => absurd hj (Nat.not_lt_zero _), fun _ _ => rfl, F3, hB3⟩
  case round => as_aux_lemma =>
    obtain ⟨k, us, hk, rfl, hlen, hsc, hrest, F, hB⟩ := hrel
    by_cases hlt : k < h.fups.length
    · obtain ⟨r, hr, hrun⟩ := run_quo (P := Tryd.prog) 67 (us.getD k 0) f wr
      rw [hrest k (Nat.le_refl _)] at hr
      generalize hc : (scaleN true f (us.getD k 0)).isNone = c at *
      clear hc
      obtain ⟨g, rfl, hn, hg, hce, hfr, hset⟩ := (F.dr c).at3 (k := k) (by show k < us.length; omega)
      have hce' : wr.cell? ⟨g, k, none⟩ = some (.float .f64 (us.getD k 0)) := (cell_dr c wr _).symm.trans hce
      have hce4 : (dr c wr).cell? ⟨g, k, none⟩ = some (.float .f64 (us.getD k 0)) := hce
      have hce2 : wr.cell? ⟨g, 0 + k, none⟩ = some (.float .f64 (us.getD k 0)) := by rw [Nat.zero_add]; exact hce'
      have hce3 : (dr c wr).cell? ⟨g, 0 + k, none⟩ = some (.float .f64 (us.getD k 0)) := by rw [Nat.zero_add]; exact hce
      have hfr3 : (dr c wr).frozen? ⟨g, 0 + k, none⟩ = false := by rw [Nat.zero_add]; exact hfr
      have c8 : wr.cell? ⟨b, 8, none⟩ = some (.slice (some ⟨g, 0, none⟩) h.fups.length d3) := cells_of_block F.cells 8
      have hset' : FH ((dr c wr).setCell ⟨g, k, none⟩ (.float .f64 r)) lo b x1 x2 (.slice (some ⟨g, 0, none⟩) h.fups.length d3) (.slice z4 h.fdowns.length d4) x5 (hwx h r1 r2 r3 (us.set k r) h.fdowns) := hset r
      have HS := Lib.hid hset'
      have HSC := Lib.hid hsc
      have HRS := Lib.hid hrest
      have HF := Lib.hid F
      have i0 : (0 : Int) ≤ (k : Int) := by omega
      have i1 : (k : Int) < (h.fups.length : Int) := by omega
      clear hset hset' hsc hrest F hn hce
      generalize us.getD k 0 = v at hrun hce' hce2 hce3 hce4
      go_wp2_with fail
      go_roundw
      case rel =>
        refine ⟨k + 1, us.set k r, by omega, by simp, by rw [List.length_set]; exact hlen, fun j hj => ?_, fun j hj => ?_, by first | exact HS.out | (rw [Nat.zero_add]; exact HS.out), (below_dr hB c).setCell (by show lo ≤ g; exact hg) _⟩
        · by_cases hjk : j = k
          · subst hjk
            rw [getD_set_same _ _ _ (by omega)]
            exact hr
          · rw [getD_set_other _ _ _ _ hjk]
            exact HSC.out j (by omega)
        · rw [getD_set_other _ _ _ _ (by omega)]
          exact HRS.out j (by omega)
      case measure => simp [intOf]; omega
    · have hke : k = h.fups.length := by omega
      subst hke
      have hkn : ¬ ((h.fups.length : Int) < (h.fups.length : Int)) := by omega
      have a9 : wr.cell? ⟨b, 9, none⟩ = some (.slice z4 h.fdowns.length d4) := cells_of_block F.cells 9
      have HF := Lib.hid F
      have HSC := Lib.hid hsc
      have hlen1 := hlen
      clear F hsc hrest
      go_wp2_with fail
      have F1 := HF.out
      have hB1 := hB
      clear HF a9
      generalize us = us1 at *
      go_loopw [70] (fun i wr => ∃ (k : Nat) (us : List Nat), k ≤ h.fdowns.length ∧ i = .int .i64 k ∧ us.length = h.fdowns.length ∧ (∀ j, j < k → ScR true f (h.fdowns.getD j 0) (us.getD j 0)) ∧ (∀ j, k ≤ j → us.getD j 0 = h.fdowns.getD j 0) ∧ FH wr lo b x1 x2 (.slice z3 h.fups.length d3) (.slice z4 h.fdowns.length d4) x5 (hwx h r1 r2 r3 us1 us) ∧ Below lo w wr) (fun i _ => h.fdowns.length - (intOf i).toNat)
      case atStart => exact ⟨0, h.fdowns, Nat.zero_le _, rfl, rfl, fun j hj => absurd hj (Nat.not_lt_zero _), fun _ _ => rfl, F1, hB1⟩
      case round => as_aux_lemma =>
        obtain ⟨k, us, hk, rfl, hlen, hsc, hrest, F, hB⟩ := hrel
        by_cases hlt : k < h.fdowns.length
        · obtain ⟨r, hr, hrun⟩ := run_quo (P := Tryd.prog) 67 (us.getD k 0) f wr
          rw [hrest k (Nat.le_refl _)] at hr
          generalize hc : (scaleN true f (us.getD k 0)).isNone = c at *
          clear hc
          obtain ⟨g, rfl, hn, hg, hce, hfr, hset⟩ := (F.dr c).at4 (k := k) (by show k < us.length; omega)
          have hce' : wr.cell? ⟨g, k, none⟩ = some (.float .f64 (us.getD k 0)) := (cell_dr c wr _).symm.trans hce
          have hce4 : (dr c wr).cell? ⟨g, k, none⟩ = some (.float .f64 (us.getD k 0)) := hce
          have hce2 : wr.cell? ⟨g, 0 + k, none⟩ = some (.float .f64 (us.getD k 0)) := by rw [Nat.zero_add]; exact hce'
          have hce3 : (dr c wr).cell? ⟨g, 0 + k, none⟩ = some (.float .f64 (us.getD k 0)) := by rw [Nat.zero_add]; exact hce
          have hfr3 : (dr c wr).frozen? ⟨g, 0 + k, none⟩ = false := by rw [Nat.zero_add]; exact hfr
          have c8 : wr.cell? ⟨b, 9, none⟩ = some (.slice (some ⟨g, 0, none⟩) h.fdowns.length d4) := cells_of_block F.cells 9
          have hset' : FH ((dr c wr).setCell ⟨g, k, none⟩ (.float .f64 r)) lo b x1 x2 (.slice z3 h.fups.length d3) (.slice (some ⟨g, 0, none⟩) h.fdowns.length d4) x5 (hwx h r1 r2 r3 us1 (us.set k r)) := hset r
          have HS := Lib.hid hset'
          have HSC := Lib.hid hsc
          have HRS := Lib.hid hrest
          have HF := Lib.hid F
          have i0 : (0 : Int) ≤ (k : Int) := by omega
          have i1 : (k : Int) < (h.fdowns.length : Int) := by omega
          clear hset hset' hsc hrest F hn hce
          generalize us.getD k 0 = v at hrun hce' hce2 hce3 hce4
          go_wp2_with fail
          go_roundw
          case rel =>
            refine ⟨k + 1, us.set k r, by omega, by simp, by rw [List.length_set]; exact hlen, fun j hj => ?_, fun j hj => ?_, by first | exact HS.out | (rw [Nat.zero_add]; exact HS.out), (below_dr hB c).setCell (by show lo ≤ g; exact hg) _⟩
            · by_cases hjk : j = k
              · subst hjk
                rw [getD_set_same _ _ _ (by omega)]
                exact hr
              · rw [getD_set_other _ _ _ _ hjk]
                exact HSC.out j (by omega)
            · rw [getD_set_other _ _ _ _ (by omega)]
              exact HRS.out j (by omega)
          case measure => simp [intOf]; omega
        · have hke : k = h.fdowns.length := by omega
          subst hke
          have hkn : ¬ ((h.fdowns.length : Int) < (h.fdowns.length : Int)) := by omega
          have HF := Lib.hid F
          have HSC2 := Lib.hid hsc
          clear F hsc hrest
          go_wp2_with fail
          go_ret
          exact ⟨rfl, hwx h r1 r2 r3 us1 us, ⟨hr1, hr2, hr3, hlen1, hlen, HSC.out, HSC2.out, rfl, rfl, ⟨rfl, rfl, rfl, rfl, rfl, rfl⟩⟩, HF.out, hB⟩
end Go.Proofs.YtbgkoapnejnfbaaDoor
