/-
  The three kinds of chunks: their encodings, bytes, numbers of samples; empty ones.
-/
import Derived.Test.YthkdjjejcbndnaaGreatDoorXh
namespace Go.Proofs.YthkdjjejcbndnaaGreatDoor
set_option linter.unusedSimpArgs false
set_option linter.unusedVariables false
open Go.RowKit
attribute [local go_sem] run_store_float run_store_iface

theorem bytesA_any (p : Nat) (a : Option Addr) (n c : Nat) (w : World) (k0 : w.cell? ⟨p, 0, none⟩ = some (.slice a n c)) :
    Calls Tryz.prog 48 #[.pointer (some ⟨p, 0, none⟩)] w fun e w' => e = .returned (.slice a n c) ∧ w = w' := by
  go_enter Tryz.func48, Tryz.ntmps48
  go_wp2_with fail
  go_ret
  exact ⟨rfl, rfl⟩
set_option maxRecDepth 100000 in
theorem bsReset_any (p : Nat) (a : Option Addr) (n c : Nat) (u v : Value) (t : TypeId) (w : World) (h : Blk w p [u, v] t) :
    Calls Tryz.prog 59 #[.pointer (some ⟨p, 0, none⟩), .slice a n c] w fun e w' => e = .returned (.tuple #[]) ∧ Blk w' p [.slice a n c, .int .u8 0] t ∧ Chg (fun k => k = p) w w' := by
  have k0 := h.cell 0
  have z0 := h.free 0
  have h1 := h.set 0 (.slice a n c)
  have k1 := h1.cell 1
  have z1 := h1.free 1
  go_enter Tryz.func59, Tryz.ntmps59
  go_wp2_with fail
  go_end0
  exact ⟨rfl, h1.set 1 _, (chg_set _ _ _ _).trans (chg_set _ _ _ _)⟩
theorem newX_any (w : World) : Calls Tryz.prog 38 #[] w fun e w' => e = .returned (.pointer (some ⟨w.heap.size + 1, 0, none⟩)) ∧ (w'.cell? ⟨w.heap.size + 1, 0, none⟩ = some (.slice (some ⟨w.heap.size, 0, none⟩) 2 128) ∧ w'.cell? ⟨w.heap.size, 0, none⟩ = some (.int .u8 0) ∧ w'.cell? ⟨w.heap.size, 1, none⟩ = some (.int .u8 0)) ∧ Below w.heap.size w w' :=
  (newXOR_any w).mono fun e w' ⟨he, hx, hB⟩ => ⟨he, ⟨hx.blk.cell 0, hx.row.cell 0, hx.row.cell 1⟩, hB⟩
theorem errNew_any (s : ByteArray) (w : World) : Calls Tryz.prog 51 #[.string s] w fun e w' => e = .returned (.iface 143 (.pointer (some ⟨w.heap.size, 0, none⟩))) ∧ Below w.heap.size w w' := by
  go_enter Tryz.func51, Tryz.ntmps51
  go_wp2_with fail
  go_ret
  exact ⟨rfl, below_new w _⟩

set_option maxRecDepth 100000 in
theorem encX_any (p : Nat) (w : World) : Calls Tryz.prog 90 #[.pointer (some ⟨p, 0, none⟩)] w fun e w' => e = .returned (.int .u8 1) ∧ w = w' := by
  go_enter Tryz.func90, Tryz.ntmps90
  go_wp2_with fail
  go_ret
  exact ⟨rfl, rfl⟩
theorem mEncX (p : Nat) (t : World) : (method 350 57 (.pointer (some ⟨p, 0, none⟩)) "Encoding").run Tryz.prog t = .ok (90, .pointer (some ⟨p, 0, none⟩)) t := by kernel_rfl
theorem mNumX (p : Nat) (t : World) : (method 350 57 (.pointer (some ⟨p, 0, none⟩)) "NumSamples").run Tryz.prog t = .ok (27, .pointer (some ⟨p, 0, none⟩)) t := by kernel_rfl
theorem mBytX (p : Nat) (t : World) : (method 350 57 (.pointer (some ⟨p, 0, none⟩)) "Bytes").run Tryz.prog t = .ok (26, .pointer (some ⟨p, 0, none⟩)) t := by kernel_rfl
theorem mResX (p : Nat) (t : World) : (method 350 57 (.pointer (some ⟨p, 0, none⟩)) "Reset").run Tryz.prog t = .ok (42, .pointer (some ⟨p, 0, none⟩)) t := by kernel_rfl

set_option maxRecDepth 100000 in
theorem bytX_any (p : Nat) (a : Option Addr) (n c : Nat) (w : World) (k0 : w.cell? ⟨p, 0, none⟩ = some (.slice a n c)) :
    Calls Tryz.prog 26 #[.pointer (some ⟨p, 0, none⟩)] w fun e w' => e = .returned (.slice a n c) ∧ w = w' := by
  go_enter Tryz.func26, Tryz.ntmps26
  go_wp2_with (first
    | (go_at_call 48; refine (bytesA_any p a n c _ k0).mono ?_; rintro e w' ⟨rfl, rfl⟩)
    | fail)
  go_ret
  exact ⟨rfl, rfl⟩
set_option maxRecDepth 100000 in
set_option maxHeartbeats 2000000 in
theorem numX_any (p g n c : Nat) (w : World) (k0 : w.cell? ⟨p, 0, none⟩ = some (.slice (some ⟨g, 0, none⟩) n c)) (hn : 2 ≤ n) (c0 : w.cell? ⟨g, 0, none⟩ = some (.int .u8 0)) (c1 : w.cell? ⟨g, 1, none⟩ = some (.int .u8 0)) :
    Calls Tryz.prog 27 #[.pointer (some ⟨p, 0, none⟩)] w fun e w' => e = .returned (.int .i64 0) ∧ Below w.heap.size w w' := by
  have hU := u16_0 g n c w.drew hn c0 c1
  have k0' : w.drew.cell? ⟨p, 0, none⟩ = some (.slice (some ⟨g, 0, none⟩) n c) := k0
  go_enter Tryz.func27, Tryz.ntmps27
  go_wp2_with fail
  go_region_with (first
    | (go_at_call 26; refine (bytX_any p _ n c _ k0').mono ?_; rintro e w' ⟨rfl, rfl⟩)
    | (go_at_call 49; refine hU.mono ?_; rintro e w1 ⟨rfl, hb1⟩)
    | fail)
  all_goals
    go_wp2_with fail
    go_ret
    exact ⟨rfl, (Below.refl w.heap.size w).drew.trans hb1⟩
set_option maxRecDepth 100000 in
set_option maxHeartbeats 2000000 in
theorem resX_any (p : Nat) (a : Option Addr) (n c : Nat) (u v : Value) (w : World) (h : Blk w p [u, v] 115) :
    Calls Tryz.prog 42 #[.pointer (some ⟨p, 0, none⟩), .slice a n c] w fun e w' => e = .returned (.tuple #[]) ∧ Blk w' p [.slice a n c, .int .u8 0] 115 ∧ Chg (fun k => k = p) w w' := by
  go_enter Tryz.func42, Tryz.ntmps42
  go_wp2_with (first
    | (go_at_call 59; refine (bsReset_any p a n c u v _ _ h).mono ?_; rintro e w1 ⟨rfl, h1, hc1⟩)
    | fail)
  go_end0
  exact ⟨rfl, h1, hc1⟩

set_option maxRecDepth 100000 in
theorem encH_any (p : Nat) (w : World) : Calls Tryz.prog 98 #[.pointer (some ⟨p, 0, none⟩)] w fun e w' => e = .returned (.int .u8 2) ∧ w = w' := by
  go_enter Tryz.func98, Tryz.ntmps98
  go_wp2_with fail
  go_ret
  exact ⟨rfl, rfl⟩
theorem mEncH (p : Nat) (t : World) : (method 350 120 (.pointer (some ⟨p, 0, none⟩)) "Encoding").run Tryz.prog t = .ok (98, .pointer (some ⟨p, 0, none⟩)) t := by kernel_rfl
theorem mNumH (p : Nat) (t : World) : (method 350 120 (.pointer (some ⟨p, 0, none⟩)) "NumSamples").run Tryz.prog t = .ok (100, .pointer (some ⟨p, 0, none⟩)) t := by kernel_rfl
theorem mBytH (p : Nat) (t : World) : (method 350 120 (.pointer (some ⟨p, 0, none⟩)) "Bytes").run Tryz.prog t = .ok (96, .pointer (some ⟨p, 0, none⟩)) t := by kernel_rfl
theorem mResH (p : Nat) (t : World) : (method 350 120 (.pointer (some ⟨p, 0, none⟩)) "Reset").run Tryz.prog t = .ok (101, .pointer (some ⟨p, 0, none⟩)) t := by kernel_rfl

set_option maxRecDepth 100000 in
theorem bytH_any (p : Nat) (a : Option Addr) (n c : Nat) (w : World) (k0 : w.cell? ⟨p, 0, none⟩ = some (.slice a n c)) :
    Calls Tryz.prog 96 #[.pointer (some ⟨p, 0, none⟩)] w fun e w' => e = .returned (.slice a n c) ∧ w = w' := by
  go_enter Tryz.func96, Tryz.ntmps96
  go_wp2_with (first
    | (go_at_call 48; refine (bytesA_any p a n c _ k0).mono ?_; rintro e w' ⟨rfl, rfl⟩)
    | fail)
  go_ret
  exact ⟨rfl, rfl⟩
set_option maxRecDepth 100000 in
set_option maxHeartbeats 2000000 in
theorem numH_any (p g n c : Nat) (w : World) (k0 : w.cell? ⟨p, 0, none⟩ = some (.slice (some ⟨g, 0, none⟩) n c)) (hn : 2 ≤ n) (c0 : w.cell? ⟨g, 0, none⟩ = some (.int .u8 0)) (c1 : w.cell? ⟨g, 1, none⟩ = some (.int .u8 0)) :
    Calls Tryz.prog 100 #[.pointer (some ⟨p, 0, none⟩)] w fun e w' => e = .returned (.int .i64 0) ∧ Below w.heap.size w w' := by
  have hU := u16_0 g n c w.drew hn c0 c1
  have k0' : w.drew.cell? ⟨p, 0, none⟩ = some (.slice (some ⟨g, 0, none⟩) n c) := k0
  go_enter Tryz.func100, Tryz.ntmps100
  go_wp2_with fail
  go_region_with (first
    | (go_at_call 96; refine (bytH_any p _ n c _ k0').mono ?_; rintro e w' ⟨rfl, rfl⟩)
    | (go_at_call 49; refine hU.mono ?_; rintro e w1 ⟨rfl, hb1⟩)
    | fail)
  all_goals
    go_wp2_with fail
    go_ret
    exact ⟨rfl, (Below.refl w.heap.size w).drew.trans hb1⟩
set_option maxRecDepth 100000 in
set_option maxHeartbeats 2000000 in
theorem resH_any (p : Nat) (a : Option Addr) (n c : Nat) (u v : Value) (w : World) (h : Blk w p [u, v] 121) :
    Calls Tryz.prog 101 #[.pointer (some ⟨p, 0, none⟩), .slice a n c] w fun e w' => e = .returned (.tuple #[]) ∧ Blk w' p [.slice a n c, .int .u8 0] 121 ∧ Chg (fun k => k = p) w w' := by
  go_enter Tryz.func101, Tryz.ntmps101
  go_wp2_with (first
    | (go_at_call 59; refine (bsReset_any p a n c u v _ _ h).mono ?_; rintro e w1 ⟨rfl, h1, hc1⟩)
    | fail)
  go_end0
  exact ⟨rfl, h1, hc1⟩

set_option maxRecDepth 100000 in
set_option maxHeartbeats 2000000 in
theorem newH_any (w : World) : Calls Tryz.prog 60 #[] w fun e w' => e = .returned (.pointer (some ⟨w.heap.size + 1, 0, none⟩)) ∧ (w'.cell? ⟨w.heap.size + 1, 0, none⟩ = some (.slice (some ⟨w.heap.size, 0, none⟩) 3 128) ∧ w'.cell? ⟨w.heap.size, 0, none⟩ = some (.int .u8 0) ∧ w'.cell? ⟨w.heap.size, 1, none⟩ = some (.int .u8 0)) ∧ Below w.heap.size w w' := by
  have hmk := made_u8 w 3 128 (by decide) (by decide)
  have hb := blk_made w 128
  have hB := below_new w (.cells (madeCells #[.int .u8 0] 128) 5)
  have hz : (w.alloc (.cells (madeCells #[.int .u8 0] 128) 5)).heap.size = w.heap.size + 1 := by simp
  have hmk : (Instr.makeSlice 26 (.int .i64 3) (.int .i64 128)).run Tryz.prog w = .ok (.slice (some ⟨w.heap.size, 0, none⟩) 3 128) (w.alloc (.cells (madeCells #[.int .u8 0] 128) 5)) := hmk
  generalize w.alloc (.cells (madeCells #[.int .u8 0] 128) 5) = W at *
  go_enter Tryz.func60, Tryz.ntmps60
  go_wp2_with fail
  go_ret
  have hn := Blk.new W [.slice (some ⟨w.heap.size, 0, none⟩) 3 128, .int .u8 0] 121
  rw [hz] at hn
  exact ⟨by first | rfl | simp [hz], ⟨hn.cell 0, (hb.alloc _).cell 0, (hb.alloc _).cell 1⟩, bnx hB (below_new W _)⟩

set_option maxRecDepth 100000 in
theorem encF_any (p : Nat) (w : World) : Calls Tryz.prog 108 #[.pointer (some ⟨p, 0, none⟩)] w fun e w' => e = .returned (.int .u8 3) ∧ w = w' := by
  go_enter Tryz.func108, Tryz.ntmps108
  go_wp2_with fail
  go_ret
  exact ⟨rfl, rfl⟩
theorem mEncF (p : Nat) (t : World) : (method 350 122 (.pointer (some ⟨p, 0, none⟩)) "Encoding").run Tryz.prog t = .ok (108, .pointer (some ⟨p, 0, none⟩)) t := by kernel_rfl
theorem mNumF (p : Nat) (t : World) : (method 350 122 (.pointer (some ⟨p, 0, none⟩)) "NumSamples").run Tryz.prog t = .ok (110, .pointer (some ⟨p, 0, none⟩)) t := by kernel_rfl
theorem mBytF (p : Nat) (t : World) : (method 350 122 (.pointer (some ⟨p, 0, none⟩)) "Bytes").run Tryz.prog t = .ok (106, .pointer (some ⟨p, 0, none⟩)) t := by kernel_rfl
theorem mResF (p : Nat) (t : World) : (method 350 122 (.pointer (some ⟨p, 0, none⟩)) "Reset").run Tryz.prog t = .ok (111, .pointer (some ⟨p, 0, none⟩)) t := by kernel_rfl

set_option maxRecDepth 100000 in
theorem bytF_any (p : Nat) (a : Option Addr) (n c : Nat) (w : World) (k0 : w.cell? ⟨p, 0, none⟩ = some (.slice a n c)) :
    Calls Tryz.prog 106 #[.pointer (some ⟨p, 0, none⟩)] w fun e w' => e = .returned (.slice a n c) ∧ w = w' := by
  go_enter Tryz.func106, Tryz.ntmps106
  go_wp2_with (first
    | (go_at_call 48; refine (bytesA_any p a n c _ k0).mono ?_; rintro e w' ⟨rfl, rfl⟩)
    | fail)
  go_ret
  exact ⟨rfl, rfl⟩
set_option maxRecDepth 100000 in
set_option maxHeartbeats 2000000 in
theorem numF_any (p g n c : Nat) (w : World) (k0 : w.cell? ⟨p, 0, none⟩ = some (.slice (some ⟨g, 0, none⟩) n c)) (hn : 2 ≤ n) (c0 : w.cell? ⟨g, 0, none⟩ = some (.int .u8 0)) (c1 : w.cell? ⟨g, 1, none⟩ = some (.int .u8 0)) :
    Calls Tryz.prog 110 #[.pointer (some ⟨p, 0, none⟩)] w fun e w' => e = .returned (.int .i64 0) ∧ Below w.heap.size w w' := by
  have hU := u16_0 g n c w.drew hn c0 c1
  have k0' : w.drew.cell? ⟨p, 0, none⟩ = some (.slice (some ⟨g, 0, none⟩) n c) := k0
  go_enter Tryz.func110, Tryz.ntmps110
  go_wp2_with fail
  go_region_with (first
    | (go_at_call 106; refine (bytF_any p _ n c _ k0').mono ?_; rintro e w' ⟨rfl, rfl⟩)
    | (go_at_call 49; refine hU.mono ?_; rintro e w1 ⟨rfl, hb1⟩)
    | fail)
  all_goals
    go_wp2_with fail
    go_ret
    exact ⟨rfl, (Below.refl w.heap.size w).drew.trans hb1⟩
set_option maxRecDepth 100000 in
set_option maxHeartbeats 2000000 in
theorem resF_any (p : Nat) (a : Option Addr) (n c : Nat) (u v : Value) (w : World) (h : Blk w p [u, v] 123) :
    Calls Tryz.prog 111 #[.pointer (some ⟨p, 0, none⟩), .slice a n c] w fun e w' => e = .returned (.tuple #[]) ∧ Blk w' p [.slice a n c, .int .u8 0] 123 ∧ Chg (fun k => k = p) w w' := by
  go_enter Tryz.func111, Tryz.ntmps111
  go_wp2_with (first
    | (go_at_call 59; refine (bsReset_any p a n c u v _ _ h).mono ?_; rintro e w1 ⟨rfl, h1, hc1⟩)
    | fail)
  go_end0
  exact ⟨rfl, h1, hc1⟩

set_option maxRecDepth 100000 in
set_option maxHeartbeats 2000000 in
theorem newF_any (w : World) : Calls Tryz.prog 61 #[] w fun e w' => e = .returned (.pointer (some ⟨w.heap.size + 1, 0, none⟩)) ∧ (w'.cell? ⟨w.heap.size + 1, 0, none⟩ = some (.slice (some ⟨w.heap.size, 0, none⟩) 3 128) ∧ w'.cell? ⟨w.heap.size, 0, none⟩ = some (.int .u8 0) ∧ w'.cell? ⟨w.heap.size, 1, none⟩ = some (.int .u8 0)) ∧ Below w.heap.size w w' := by
  have hmk := made_u8 w 3 128 (by decide) (by decide)
  have hb := blk_made w 128
  have hB := below_new w (.cells (madeCells #[.int .u8 0] 128) 5)
  have hz : (w.alloc (.cells (madeCells #[.int .u8 0] 128) 5)).heap.size = w.heap.size + 1 := by simp
  have hmk : (Instr.makeSlice 26 (.int .i64 3) (.int .i64 128)).run Tryz.prog w = .ok (.slice (some ⟨w.heap.size, 0, none⟩) 3 128) (w.alloc (.cells (madeCells #[.int .u8 0] 128) 5)) := hmk
  generalize w.alloc (.cells (madeCells #[.int .u8 0] 128) 5) = W at *
  go_enter Tryz.func61, Tryz.ntmps61
  go_wp2_with fail
  go_ret
  have hn := Blk.new W [.slice (some ⟨w.heap.size, 0, none⟩) 3 128, .int .u8 0] 123
  rw [hz] at hn
  exact ⟨by first | rfl | simp [hz], ⟨hn.cell 0, (hb.alloc _).cell 0, (hb.alloc _).cell 1⟩, bnx hB (below_new W _)⟩
end Go.Proofs.YthkdjjejcbndnaaGreatDoor
