/-
  The iterator of a chunk with one sample: its steps.
-/
import Derived.Test.YthkdjjejcbndnaaGreatDoorBr
namespace Go.Proofs.YthkdjjejcbndnaaGreatDoor
set_option linter.unusedSimpArgs false
set_option linter.unusedVariables false
open Go.RowKit

theorem run_store_float (P : Program) (w : World) (a : Addr) (m : Mode) (k : FloatKind) (x : Nat) : (store a (.float k x) m).run P w = stored P w a (.float k x) m := run_store P w a _ m rfl
theorem run_store_iface (P : Program) (w : World) (a : Addr) (m : Mode) (t : TypeId) (x : Value) : (store a (.iface t x) m).run P w = stored P w a (.iface t x) m := run_store P w a _ m rfl
attribute [local go_sem] run_store_float run_store_iface

set_option maxRecDepth 100000 in
theorem f64from (n : Int) (w : World) : (callFunc 58 #[.int .u64 n]).run Tryz.prog w = .ok (.value (.float .f64 n.toNat)) w := rfl
set_option maxRecDepth 100000 in
theorem f64bits (n : Nat) (w : World) : (callFunc 62 #[.float .f64 n]).run Tryz.prog w = .ok (.value (.int .u64 n)) w := rfl

set_option maxRecDepth 100000 in
set_option maxHeartbeats 2000000 in
theorem next1_any (I G C : Nat) (b t v le tr td : Value) (w : World) (hC : 9 ≤ C) (h : Rd w I G C [.int .i64 0, b, .int .u8 0, .int .u8 0, .int .u16 1, .int .u16 0, t, v, le, tr, td, .nilIface]) :
    Calls Tryz.prog 56 #[.pointer (some ⟨I, 0, none⟩)] w fun e w' => e = .returned (.int .u8 1) ∧ Rd w' I G C [.int .i64 9, .int .u64 0, .int .u8 0, .int .u8 0, .int .u16 1, .int .u16 1, .int .i64 1, .float .f64 4607182418800017408, le, tr, td, .nilIface] ∧ Chg (fun q => q = I) w w' := by
  have hx := f64from
  have hcg := Chg.refl (fun q => q = I) w
  have k5 := h.blk.cell 5
  have k6 := h.blk.cell 6
  have k12 := h.blk.cell 12
  go_enter Tryz.func56, Tryz.ntmps56
  go_wp2_with fail
  go_quiet (fail)
  have h := h.drewN nq
  have hcg := hcg.drewN nq
  generalize w.drewN nq = W1 at *
  have k5 := h.blk.cell 5
  have k6 := h.blk.cell 6
  have k12 := h.blk.cell 12
  go_wp2_with (first
    | (go_at_call 65; refine (readV_any I G C _ _ _ _ hC h).mono ?_; rintro e w1 ⟨rfl, h1, hc1⟩)
    | (go_at_call 66; refine (bits64_any I G C _ _ hC h1).mono ?_; rintro e w2 ⟨rfl, h2, hc2⟩; have j7 := h2.blk.cell 7; have j8 := h2.blk.cell 8; have j6 := h2.blk.cell 6; have z6 := h2.blk.free 6; have z7 := h2.blk.free 7; have z8 := h2.blk.free 8)
    | fail)
  go_ret
  exact ⟨rfl, ((h2.set 6 _).set 7 _).set 5 _, (((((hcg.trans hc1).trans hc2).setCell ⟨I, 7, none⟩ rfl _).setCell ⟨I, 8, none⟩ rfl _).setCell ⟨I, 6, none⟩ rfl _)⟩

set_option maxRecDepth 100000 in
set_option maxHeartbeats 2000000 in
theorem nextEnd_any (I : Nat) (a : Int) (w : World) (k5 : w.cell? ⟨I, 5, none⟩ = some (.int .u16 a)) (k6 : w.cell? ⟨I, 6, none⟩ = some (.int .u16 a)) (k12 : w.cell? ⟨I, 12, none⟩ = some .nilIface) :
    Calls Tryz.prog 56 #[.pointer (some ⟨I, 0, none⟩)] w fun e w' => e = .returned (.int .u8 0) ∧ ∃ q, w' = w.drewN q := by
  go_enter Tryz.func56, Tryz.ntmps56
  go_wp2_with fail
  go_quiet (fail)
  go_wp2_with fail
  go_ret
  exact ⟨rfl, _, rfl⟩
theorem err_any (I : Nat) (w : World) (k12 : w.cell? ⟨I, 12, none⟩ = some .nilIface) :
    Calls Tryz.prog 57 #[.pointer (some ⟨I, 0, none⟩)] w fun e w' => e = .returned .nilIface ∧ w = w' := by
  go_enter Tryz.func57, Tryz.ntmps57
  go_wp2_with fail
  go_ret
  exact ⟨rfl, rfl⟩
theorem at_any (I : Nat) (t : Int) (v : Nat) (w : World) (k7 : w.cell? ⟨I, 7, none⟩ = some (.int .i64 t)) (k8 : w.cell? ⟨I, 8, none⟩ = some (.float .f64 v)) :
    Calls Tryz.prog 115 #[.pointer (some ⟨I, 0, none⟩)] w fun e w' => e = .returned (.tuple #[.int .i64 t, .float .f64 v]) ∧ ∃ q, w' = w.drewN q := by
  go_enter Tryz.func115, Tryz.ntmps115
  go_wp2_with fail
  go_quiet (fail)
  go_wp2_with fail
  go_ret2
  exact ⟨rfl, _, rfl⟩
end Go.Proofs.YthkdjjejcbndnaaGreatDoor
