/-
  An XOR chunk's iterator and appender are made.
-/
import Derived.Test.YthkdjjejcbndnaaGreatDoorCk
import Derived.Handy
namespace Go.Proofs.YthkdjjejcbndnaaGreatDoor
set_option linter.unusedSimpArgs false
set_option linter.unusedVariables false
open Go.RowKit
attribute [local go_sem] run_store_float run_store_iface

set_option maxRecDepth 100000 in
set_option maxHeartbeats 2000000 in
theorem newBR0_any (g c : Nat) (w : World) :
    Calls Tryz.prog 64 #[.slice (some ⟨g, 2, none⟩) 0 c] w fun e w' => e = .returned (.agg #[.slice (some ⟨g, 2, none⟩) 0 c, .int .i64 0, .int .u64 0, .int .u8 0, .int .u8 0]) ∧ Below w.heap.size w w' := by
  have hB := below_new w (.cells #[.slice none 0 0, .int .i64 0, .int .u64 0, .int .u8 0, .int .u8 0] 134)
  go_enter Tryz.func64, Tryz.ntmps64
  go_wp2_with fail
  go_returns
  exact ⟨rfl, below_new _ _⟩
set_option maxRecDepth 100000 in
set_option maxHeartbeats 2000000 in
theorem newBR9_any (g c : Nat) (x : Int) (w : World) (hx : w.cell? ⟨g, 10, none⟩ = some (.int .u8 x)) :
    Calls Tryz.prog 64 #[.slice (some ⟨g, 2, none⟩) 9 c] w fun e w' => e = .returned (.agg #[.slice (some ⟨g, 2, none⟩) 9 c, .int .i64 0, .int .u64 0, .int .u8 0, .int .u8 x]) ∧ Below w.heap.size w w' := by
  have hB := below_new w (.cells #[.slice none 0 0, .int .i64 0, .int .u64 0, .int .u8 0, .int .u8 0] 134)
  have hl := lt_of_cell hx
  have hx1 := (hB.cell (p := ⟨g, 10, none⟩) hl.1).trans hx
  go_enter Tryz.func64, Tryz.ntmps64
  go_wp2_with fail
  go_returns
  exact ⟨rfl, below_new _ _⟩

theorem assert_nil (w : World) : (Instr.typeAssert .nilIface 71 129 true).run Tryz.prog w = .ok (.tuple #[.pointer none, .bool false]) w := by kernel_rfl

set_option maxRecDepth 100000 in
set_option maxHeartbeats 2000000 in
/-- the iterator of a chunk without samples -/
theorem iter0_any (p g : Nat) (cs : List Value) (w : World) (h : XC w p g 2 cs) (e0 : cs[0]? = some (.int .u8 0)) (e1 : cs[1]? = some (.int .u8 0)) :
    Calls Tryz.prog 55 #[.pointer (some ⟨p, 0, none⟩), .nilIface] w fun e w' => ∃ I, e = .returned (.pointer (some ⟨I, 0, none⟩)) ∧ w.heap.size ≤ I ∧ Blk w' I [.slice (some ⟨g, 2, none⟩) 0 126, .int .i64 0, .int .u64 0, .int .u8 0, .int .u8 0, .int .u16 0, .int .u16 0, .int .i64 (-9223372036854775808), .float .f64 0, .int .u8 0, .int .u8 0, .int .u64 0, .nilIface] IT ∧ Below w.heap.size w w' := by
  have c0 : w.drew.cell? ⟨g, 0, none⟩ = some (.int .u8 0) := (h.row.cell 0).trans e0
  have c1 : w.drew.cell? ⟨g, 1, none⟩ = some (.int .u8 0) := (h.row.cell 1).trans e1
  have k0 : w.drew.cell? ⟨p, 0, none⟩ = some (.slice (some ⟨g, 0, none⟩) 2 128) := h.blk.cell 0
  have hb0 := (Below.refl w.heap.size w).drew
  have hta := assert_nil
  go_enter Tryz.func55, Tryz.ntmps55
  go_wp2_with fail
  go_region_held3 (fun _ => True) (trivial) (first
    | (go_at_call 48; (with_reducible refine (bytes_any p g 2 128 _ k0).mono ?_); rintro e w' ⟨rfl, rfl⟩)
    | (go_at_call 48; (with_reducible refine (bytes_any p g 2 128 _ k1).mono ?_); rintro e w' ⟨rfl, rfl⟩)
    | (go_at_call 64; refine (newBR0_any g 126 _).mono ?_; rintro e w1 ⟨rfl, hb1⟩; have hc1 := (Chg.refl (fun _ => False) w).drew.calls hb1; have h1 := h.chg hc1 (fun h => h) (fun h => h); have k1 : w1.cell? ⟨p, 0, none⟩ = some (.slice (some ⟨g, 0, none⟩) 2 128) := h1.blk.cell 0; have d0 := (h1.row.cell 0).trans e0; have d1 := (h1.row.cell 1).trans e1)
    | (go_at_call 49; refine (u16_0 g 2 128 _ (by decide) d0 d1).mono ?_; rintro e w2 ⟨rfl, hb2⟩; have hB := bnx (hb0.trans hb1) hb2; have hz := hB.size)
    | fail)
  go_wp2_with fail
  go_ret
  exact ⟨_, rfl, hz, Blk.new w2 [.slice (some ⟨g, 2, none⟩) 0 126, .int .i64 0, .int .u64 0, .int .u8 0, .int .u8 0, .int .u16 0, .int .u16 0, .int .i64 (-9223372036854775808), .float .f64 0, .int .u8 0, .int .u8 0, .int .u64 0, .nilIface] IT, bnx hB (below_new w2 _)⟩
end Go.Proofs.YthkdjjejcbndnaaGreatDoor
