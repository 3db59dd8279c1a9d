/-
  spec.Scaled: a histogram with its counts multiplied, or divided.
-/
import Derived.Test.YtbgkoapnejnfbaaDoorHistMul
import Derived.Test.YtbgkoapnejnfbaaDoorNear
import Derived.Deep.RegionHeld3
namespace Go.Proofs.YtbgkoapnejnfbaaDoor
set_option linter.unusedSimpArgs false
set_option linter.unusedVariables false
open Go.RowKit
attribute [local go_sem ↓] Go.wp_at_zero Go.wp_at_succ
attribute [local go_sem] cell_there frozen_there

theorem step_bin {ops : Array Oper} {o : Oper} {a : Act} {K : Act → World → Prop} {Q : Exit → Act → World → Prop} {E : Prop} {w : World} (hgd : o.guard = none) (op : BinOp) (t t2 : TypeId) (x y : Operand)
    (ho : o.op = .binOp op t x y t2) (vx vy v : Value) (w1 : World) (hx : a.eval x = vx) (hy : a.eval y = vy) (hrun : (binOp op t vx vy).run Tryd.prog w = .ok v w1) (hop : ∀ u, (eqGuard op t x y vx vy).run Tryd.prog u = .ok () u)
    (hK : K (a.put o.dst v) w1) :
    if Region.wanted o (yielded ops a.tmps) = true then Oper.wp Tryd.prog o a w K Q else E := by
  have hw : Region.wanted o (yielded ops a.tmps) = true := by simp [Region.wanted, hgd]
  rw [if_pos hw]
  unfold Oper.wp execOp
  simp only [ho, hx, hy, hop, hrun, Sem.run_bind, Result.andThen_ok, Sem.run_pure]
  exact hK

set_option maxRecDepth 100000 in
set_option maxHeartbeats 2000000 in
theorem scaled1_mul (f x p5 p4 : Nat) (w : World) (h5 : w.cell? ⟨p5, 0, none⟩ = some (.bool false)) (h4 : w.cell? ⟨p4, 0, none⟩ = some (.int .u64 f)) :
    Calls Tryd.prog 53 #[.int .u64 x, .pointer (some ⟨p5, 0, none⟩), .pointer (some ⟨p4, 0, none⟩)] w fun e w' => ∃ y : Nat, e = .returned (.int .u64 y) ∧ ScR false f x y ∧ ∃ c, w' = dr c w.drew := by
  have hx61 := run61
  have hx94 := run94
  obtain ⟨r, hr, hrun⟩ := run_mul (P := Tryd.prog) 67 x f w.drew
  generalize (scaleN false f x).isNone = c at *
  have h4' : w.drew.cell? ⟨p4, 0, none⟩ = some (.int .u64 f) := h4
  go_enter Tryd.func53, Tryd.ntmps53
  go_wp2_with fail
  go_region_with (first
    | (go_at_call 37; refine (flt_bits _ _).mono ?_; rintro e w' ⟨rfl, rfl⟩)
    | fail)
  all_goals
    go_wp2
    go_ret
    exact ⟨r, rfl, hr, c, rfl⟩

set_option maxRecDepth 100000 in
set_option maxHeartbeats 2000000 in
theorem scaled1_quo (f x p5 p4 : Nat) (w : World) (h5 : w.cell? ⟨p5, 0, none⟩ = some (.bool true)) (h4 : w.cell? ⟨p4, 0, none⟩ = some (.int .u64 f)) :
    Calls Tryd.prog 53 #[.int .u64 x, .pointer (some ⟨p5, 0, none⟩), .pointer (some ⟨p4, 0, none⟩)] w fun e w' => ∃ y : Nat, e = .returned (.int .u64 y) ∧ ScR true f x y ∧ ∃ c, w' = dr c w.drew := by
  have hx61 := run61
  have hx94 := run94
  obtain ⟨r, hr, hrun⟩ := run_quo (P := Tryd.prog) 67 x f w.drew
  generalize (scaleN true f x).isNone = c at *
  have h4' : w.drew.cell? ⟨p4, 0, none⟩ = some (.int .u64 f) := h4
  go_enter Tryd.func53, Tryd.ntmps53
  go_wp2_with fail
  go_region_with (first
    | (go_at_call 37; refine (flt_bits _ _).mono ?_; rintro e w' ⟨rfl, rfl⟩)
    | fail)
  all_goals
    go_wp2
    go_ret
    exact ⟨r, rfl, hr, c, rfl⟩

theorem scaled1_any (dv : Bool) (f x p5 p4 : Nat) (w : World) (h5 : w.cell? ⟨p5, 0, none⟩ = some (.bool dv)) (h4 : w.cell? ⟨p4, 0, none⟩ = some (.int .u64 f)) :
    Calls Tryd.prog 53 #[.int .u64 x, .pointer (some ⟨p5, 0, none⟩), .pointer (some ⟨p4, 0, none⟩)] w fun e w' => ∃ y : Nat, e = .returned (.int .u64 y) ∧ ScR dv f x y ∧ ∃ c, w' = dr c w.drew := by
  cases dv
  · exact scaled1_mul f x p5 p4 w h5 h4
  · exact scaled1_quo f x p5 p4 w h5 h4
end Go.Proofs.YtbgkoapnejnfbaaDoor
