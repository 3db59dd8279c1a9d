/-
  The appender of a new XOR chunk.
-/
import Derived.Test.YthkdjjejcbndnaaGreatDoorXa
namespace Go.Proofs.YthkdjjejcbndnaaGreatDoor
set_option linter.unusedSimpArgs false
set_option linter.unusedVariables false
open Go.RowKit
attribute [local go_sem] run_store_float run_store_iface

abbrev AT : TypeId := 138

set_option maxRecDepth 100000 in
set_option maxHeartbeats 4000000 in
theorem appender0_any (p g : Nat) (cs : List Value) (w : World) (h : XC w p g 2 cs) (e0 : cs[0]? = some (.int .u8 0)) (e1 : cs[1]? = some (.int .u8 0)) :
    Calls Tryz.prog 39 #[.pointer (some ⟨p, 0, none⟩)] w fun e w' => ∃ q, e = .returned (.tuple #[.iface 131 (.pointer (some ⟨q, 0, none⟩)), .nilIface]) ∧ w.heap.size ≤ q ∧ Blk w' q [.pointer (some ⟨p, 0, none⟩), .int .i64 (-9223372036854775808), .float .f64 0, .int .u64 0, .int .u8 255, .int .u8 0] AT ∧ Below w.heap.size w w' := by
  go_enter Tryz.func39, Tryz.ntmps39
  go_wp2_with (first | (go_at_call 55; refine (iter0_any p g cs _ h e0 e1).mono ?_; rintro e w1 ⟨I, rfl, hI, hb, hB⟩; have k5 := hb.cell 5; have k6 := hb.cell 6; have k12 := hb.cell 12) | fail)
  refine wp_loop_rounds 1 ?_
  rw [rounds_succ]
  go_wp2_with (first
    | (go_at_call 56; refine (nextEnd_any I 0 _ k5 k6 k12).mono ?_; rintro e w2 ⟨rfl, q, rfl⟩)
    | (go_at_call 57; refine (err_any I _ (by exact k12)).mono ?_; rintro e w2 ⟨rfl, rfl⟩)
    | fail)
  have hb := hb.drewN q
  have hB := below_drewN hB q
  generalize w1.drewN q = W at *
  have k7 := hb.cell 7
  have k8 := hb.cell 8
  have k11 := hb.cell 11
  have k9 := hb.cell 9
  have k10 := hb.cell 10
  have k5 := hb.cell 5
  have hlt := hb.lt
  have hne : I ≠ W.heap.size := by omega
  have hz := hB.size
  go_region_held3 (fun w' => w'.cell? ⟨I, 7, none⟩ = some (.int .i64 (-9223372036854775808)) ∧ w'.cell? ⟨I, 8, none⟩ = some (.float .f64 0) ∧ w'.cell? ⟨I, 11, none⟩ = some (.int .u64 0) ∧ w'.cell? ⟨I, 9, none⟩ = some (.int .u8 0) ∧ w'.cell? ⟨I, 10, none⟩ = some (.int .u8 0)) (first | trivial | go_keep) (fail)
  go_wp2_with fail
  refine bodyPost_ret (v := .tuple #[.iface 131 (.pointer (some ⟨W.heap.size, 0, none⟩)), .nilIface]) (by simp [results, Tryz.results39, go_sem]) rfl ?_
  exact ⟨_, rfl, hz, Blk.new W [.pointer (some ⟨p, 0, none⟩), .int .i64 (-9223372036854775808), .float .f64 0, .int .u64 0, .int .u8 255, .int .u8 0] AT, (bnx hB (below_new W _)).drew⟩
end Go.Proofs.YthkdjjejcbndnaaGreatDoor
