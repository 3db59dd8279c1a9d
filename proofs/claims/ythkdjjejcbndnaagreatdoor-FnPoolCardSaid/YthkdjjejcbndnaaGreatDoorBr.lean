/-
  A stream of bits is read: the nine bytes of one sample.
-/
import Derived.Test.YthkdjjejcbndnaaGreatDoorBs
import Derived.Deep.RegionHeld3
namespace Go.Proofs.YthkdjjejcbndnaaGreatDoor
set_option linter.unusedSimpArgs false
set_option linter.unusedVariables false
open Go.RowKit

/-- the bytes of a chunk with one sample -/
def by11 : List Int := [0, 1, 2, 63, 240, 0, 0, 0, 0, 0, 0]
def B11 (w : World) (G : Nat) : Prop := ∃ cur : Array Value, w.heap[G]? = some (.cells cur 5 (0, 0)) ∧ ∀ j, j < 11 → cur[j]? = some (.int .u8 (by11.getD j 0))
theorem B11.cell {w : World} {G : Nat} (h : B11 w G) (j : Nat) (hj : j < 11) : w.cell? ⟨G, j, none⟩ = some (.int .u8 (by11.getD j 0)) := by
  obtain ⟨cur, h1, h2⟩ := h
  simp only [World.cell?, h1]
  simpa using h2 j hj
theorem B11.chg {w w' : World} {G : Nat} (h : B11 w G) {S : Nat → Prop} (hc : Chg S w w') (hs : ¬ S G) : B11 w' G := by
  obtain ⟨cur, h1, h2⟩ := h
  exact ⟨cur, blk_chg hc h1 hs, h2⟩
abbrev IT : TypeId := 136
theorem B11.ne {w : World} {I G : Nat} {cs : List Value} (h : B11 w G) (hb : Blk w I cs IT) : G ≠ I := by
  rintro rfl
  obtain ⟨cur, h1, _⟩ := h
  unfold Blk at hb
  rw [hb] at h1
  injection h1 with h1
  injection h1 with _ h1
  exact absurd h1 (by decide)
/-- an iterator at block I, over the nine bytes behind the head in block G -/
structure Rd (w : World) (I G C : Nat) (cs : List Value) : Prop where
  blk : Blk w I (.slice (some ⟨G, 2, none⟩) 9 C :: cs) IT
  src : B11 w G
theorem Rd.ne {w : World} {I G C : Nat} {cs : List Value} (h : Rd w I G C cs) : G ≠ I := h.src.ne h.blk
theorem Rd.set {w : World} {I G C : Nat} {cs : List Value} (h : Rd w I G C cs) (j : Nat) (u : Value) : Rd (w.setCell ⟨I, j + 1, none⟩ u) I G C (cs.set j u) := ⟨h.blk.set (j + 1) u, h.src.chg (chg_set _ _ _ _) h.ne⟩
theorem Rd.chg {w w' : World} {I G C : Nat} {cs : List Value} (h : Rd w I G C cs) {S : Nat → Prop} (hc : Chg S w w') (hi : ¬ S I) (hg : ¬ S G) : Rd w' I G C cs := ⟨h.blk.chg hc hi, h.src.chg hc hg⟩
theorem Rd.drewN {w : World} {I G C : Nat} {cs : List Value} (h : Rd w I G C cs) (q : Nat) : Rd (w.drewN q) I G C cs := h.chg ((Chg.refl (fun _ => False) w).drewN q) (fun h => h) (fun h => h)
theorem Rd.drew {w : World} {I G C : Nat} {cs : List Value} (h : Rd w I G C cs) : Rd w.drew I G C cs := h.chg ((Chg.refl (fun _ => False) w).drew) (fun h => h) (fun h => h)

theorem u64_c (G C : Nat) (w : World) (h : B11 w G) : Calls Tryz.prog 74 #[.agg #[], .slice (some ⟨G, 2, none⟩) 9 C] w fun e w' => e = .returned (.int .u64 162111994399293440) ∧ Below w.heap.size w w' :=
  Tryz.binary_BE_Uint64 G 2 9 C 2 63 240 0 0 0 0 0 w (by decide) (h.cell 2 (by decide)) (h.cell 3 (by decide)) (h.cell 4 (by decide)) (h.cell 5 (by decide)) (h.cell 6 (by decide)) (h.cell 7 (by decide)) (h.cell 8 (by decide)) (h.cell 9 (by decide))

set_option maxRecDepth 100000 in
set_option maxHeartbeats 2000000 in
theorem load1_any (I G C : Nat) (b l : Value) (R : List Value) (k : Int) (w : World) (hC : 9 ≤ C) (h : Rd w I G C (.int .i64 0 :: b :: .int .u8 0 :: l :: R)) :
    Calls Tryz.prog 72 #[.pointer (some ⟨I, 0, none⟩), .int .u8 k] w fun e w' => e = .returned (.bool true) ∧ Rd w' I G C (.int .i64 8 :: .int .u64 162111994399293440 :: .int .u8 64 :: l :: R) ∧ Chg (fun q => q = I) w w' := by
  have hcg := Chg.refl (fun q => q = I) w
  go_enter Tryz.func72, Tryz.ntmps72
  have k0 := h.blk.cell 0
  have k1 := h.blk.cell 1
  go_wp2_with fail
  go_quiet (fail)
  have h := h.drewN nq
  have hcg := hcg.drewN nq
  generalize w.drewN nq = W1 at *
  have k0 := h.blk.cell 0
  have k1 := h.blk.cell 1
  go_wp2_with fail
  go_quiet (fail)
  have h := h.drewN nq
  have hcg := hcg.drewN nq
  generalize W1.drewN nq = W2 at *
  have k0 := h.blk.cell 0
  have k1 := h.blk.cell 1
  have hU := u64_c G C _ h.drew.src
  go_wp2_with fail
  go_region_with (first | (go_at_call 74; refine hU.mono ?_; rintro e w1 ⟨rfl, hb1⟩; have hc1 := hcg.drew.calls hb1; have h1 := h.drew.chg ((Chg.refl (fun _ => False) _).calls hb1) (fun h => h) (fun h => h); have z0 := h1.blk.free 2; have j0 := h1.blk.cell 2; have j1 := h1.blk.cell 1; have j3 := h1.blk.cell 3; have z1 := h1.blk.free 1; have z3 := h1.blk.free 3) | fail)
  all_goals
    go_wp2_with fail
    go_ret
    exact ⟨rfl, ((h1.set 1 _).set 0 _).set 2 _, ((hc1.setCell ⟨I, 2, none⟩ rfl _).setCell ⟨I, 1, none⟩ rfl _).setCell ⟨I, 3, none⟩ rfl _⟩

set_option maxRecDepth 100000 in
set_option maxHeartbeats 2000000 in
theorem load2_any (I G C : Nat) (b : Value) (R : List Value) (w : World) (hC : 9 ≤ C) (h : Rd w I G C (.int .i64 8 :: b :: .int .u8 0 :: .int .u8 0 :: R)) :
    Calls Tryz.prog 72 #[.pointer (some ⟨I, 0, none⟩), .int .u8 8] w fun e w' => e = .returned (.bool true) ∧ Rd w' I G C (.int .i64 9 :: .int .u64 0 :: .int .u8 8 :: .int .u8 0 :: R) ∧ Chg (fun q => q = I) w w' := by
  have hcg := Chg.refl (fun q => q = I) w
  go_enter Tryz.func72, Tryz.ntmps72
  have k0 := h.blk.cell 0
  have k1 := h.blk.cell 1
  go_wp2_with fail
  go_quiet (fail)
  have h := h.drewN nq
  have hcg := hcg.drewN nq
  generalize w.drewN nq = W1 at *
  have k0 := h.blk.cell 0
  have k1 := h.blk.cell 1
  go_wp2_with fail
  go_quiet (fail)
  have h := h.drewN nq
  have hcg := hcg.drewN nq
  generalize W1.drewN nq = W2 at *
  have k0 := h.blk.cell 0
  have k1 := h.blk.cell 1
  go_wp2_with fail
  go_quiet (fail)
  have h := h.drewN nq
  have hcg := hcg.drewN nq
  generalize W2.drewN nq = W3 at *
  have k0 := h.blk.cell 0
  have k1 := h.blk.cell 1
  go_wp2_with fail
  go_quiet (fail)
  have h := h.drewN nq
  have hcg := hcg.drewN nq
  generalize W3.drewN nq = W4 at *
  have k0 := h.blk.cell 0
  have k1 := h.blk.cell 1
  go_wp2_with fail
  go_quiet (fail)
  have h := h.drewN nq
  have hcg := hcg.drewN nq
  generalize W4.drewN nq = W5 at *
  have k0 := h.blk.cell 0
  have k1 := h.blk.cell 1
  have k2 := h.blk.cell 2
  have k3 := h.blk.cell 3
  have k4 := h.blk.cell 4
  have z1 := h.blk.free 1
  have z2 := h.blk.free 2
  have z3 := h.blk.free 3
  go_wp2_with fail
  refine wp_loop_rounds 1 ?_
  rw [rounds_succ]
  go_wp2_with fail
  go_ret
  exact ⟨rfl, ((h.set 1 _).set 0 _).set 2 _, ((hcg.setCell ⟨I, 2, none⟩ rfl _).setCell ⟨I, 1, none⟩ rfl _).setCell ⟨I, 3, none⟩ rfl _⟩

set_option maxRecDepth 100000 in
set_option maxHeartbeats 2000000 in
theorem fast8_any (I G C : Nat) (o l : Value) (R : List Value) (w : World) (h : Rd w I G C (o :: .int .u64 162111994399293440 :: .int .u8 64 :: l :: R)) :
    Calls Tryz.prog 71 #[.pointer (some ⟨I, 0, none⟩), .int .u8 8] w fun e w' => e = .returned (.tuple #[.int .u64 2, .nilIface]) ∧ Rd w' I G C (o :: .int .u64 162111994399293440 :: .int .u8 56 :: l :: R) ∧ Chg (fun q => q = I) w w' := by
  have k2 := h.blk.cell 2
  have k3 := h.blk.cell 3
  have z3 := h.blk.free 3
  go_enter Tryz.func71, Tryz.ntmps71
  go_wp2_with fail
  have h1 := h.set 2 (.int .u8 56)
  have hc := chg_set w I 3 (.int .u8 56)
  generalize w.setCell ⟨I, 3, none⟩ (.int .u8 56) = W at *
  have k2 := h1.blk.cell 2
  have k3 := h1.blk.cell 3
  go_quiet (fail)
  go_wp2_with fail
  go_ret2
  exact ⟨rfl, h1.drewN nq, hc.drewN nq⟩

set_option maxRecDepth 100000 in
set_option maxHeartbeats 2000000 in
theorem bits8_any (I G C : Nat) (b l : Value) (R : List Value) (w : World) (hC : 9 ≤ C) (h : Rd w I G C (.int .i64 0 :: b :: .int .u8 0 :: l :: R)) :
    Calls Tryz.prog 66 #[.pointer (some ⟨I, 0, none⟩), .int .u8 8] w fun e w' => e = .returned (.tuple #[.int .u64 2, .nilIface]) ∧ Rd w' I G C (.int .i64 8 :: .int .u64 162111994399293440 :: .int .u8 56 :: l :: R) ∧ Chg (fun q => q = I) w w' := by
  have k3 := h.blk.cell 3
  go_enter Tryz.func66, Tryz.ntmps66
  go_wp2_with (first
    | (go_at_call 72; refine (load1_any I G C b l R 8 _ hC h).mono ?_; rintro e w1 ⟨rfl, h1, hc1⟩; have j3 := h1.blk.cell 3)
    | (go_at_call 71; refine (fast8_any I G C _ l R _ h1).mono ?_; rintro e w2 ⟨rfl, h2, hc2⟩)
    | fail)
  go_ret2
  exact ⟨rfl, h2, hc1.trans hc2⟩

set_option maxRecDepth 100000 in
set_option maxHeartbeats 2000000 in
theorem bits64_any (I G C : Nat) (R : List Value) (w : World) (hC : 9 ≤ C) (h : Rd w I G C (.int .i64 8 :: .int .u64 162111994399293440 :: .int .u8 56 :: .int .u8 0 :: R)) :
    Calls Tryz.prog 66 #[.pointer (some ⟨I, 0, none⟩), .int .u8 64] w fun e w' => e = .returned (.tuple #[.int .u64 4607182418800017408, .nilIface]) ∧ Rd w' I G C (.int .i64 9 :: .int .u64 0 :: .int .u8 0 :: .int .u8 0 :: R) ∧ Chg (fun q => q = I) w w' := by
  have k2 := h.blk.cell 2
  have k3 := h.blk.cell 3
  have z3 := h.blk.free 3
  have h0 := h.set 2 (.int .u8 0)
  have hc0 := chg_set w I 3 (.int .u8 0)
  go_enter Tryz.func66, Tryz.ntmps66
  go_wp2_with (first
    | (go_at_call 72; refine (load2_any I G C _ R _ hC h0).mono ?_; rintro e w1 ⟨rfl, h1, hc1⟩; have j3 := h1.blk.cell 3; have j2 := h1.blk.cell 2)
    | fail)
  go_quiet (fail)
  have h2 := h1.drewN nq
  have hc2 := (hc0.trans hc1).drewN nq
  generalize w1.drewN nq = W2 at *
  have k2 := h2.blk.cell 2
  have k3 := h2.blk.cell 3
  have z3 := h2.blk.free 3
  go_wp2_with fail
  go_ret2
  exact ⟨rfl, h2.set 2 _, hc2.setCell ⟨I, 3, none⟩ rfl _⟩

set_option maxRecDepth 100000 in
set_option maxHeartbeats 2000000 in
theorem readByte_any (I G C : Nat) (b l : Value) (R : List Value) (w : World) (hC : 9 ≤ C) (h : Rd w I G C (.int .i64 0 :: b :: .int .u8 0 :: l :: R)) :
    Calls Tryz.prog 138 #[.pointer (some ⟨I, 0, none⟩)] w fun e w' => e = .returned (.tuple #[.int .u8 2, .nilIface]) ∧ Rd w' I G C (.int .i64 8 :: .int .u64 162111994399293440 :: .int .u8 56 :: l :: R) ∧ Chg (fun q => q = I) w w' := by
  go_enter Tryz.func138, Tryz.ntmps138
  go_wp2_with (first
    | (go_at_call 66; refine (bits8_any I G C b l R _ hC h).mono ?_; rintro e w1 ⟨rfl, h1, hc1⟩)
    | fail)
  go_ret2
  exact ⟨rfl, h1, hc1⟩

theorem rb_method (I : Nat) (t : World) : (method 350 150 (.pointer (some ⟨I, 0, none⟩)) "ReadByte").run Tryz.prog t = .ok (138, .pointer (some ⟨I, 0, none⟩)) t := by kernel_rfl

set_option maxRecDepth 100000 in
set_option maxHeartbeats 2000000 in
theorem readUv_any (I G C : Nat) (b l : Value) (R : List Value) (w : World) (hC : 9 ≤ C) (h : Rd w I G C (.int .i64 0 :: b :: .int .u8 0 :: l :: R)) :
    Calls Tryz.prog 67 #[.iface 150 (.pointer (some ⟨I, 0, none⟩))] w fun e w' => e = .returned (.tuple #[.int .u64 2, .nilIface]) ∧ Rd w' I G C (.int .i64 8 :: .int .u64 162111994399293440 :: .int .u8 56 :: l :: R) ∧ Chg (fun q => q = I) w w' := by
  have hm := rb_method
  go_enter Tryz.func67, Tryz.ntmps67
  go_wp2_with fail
  refine wp_loop_rounds 1 ?_
  rw [rounds_succ]
  go_wp2_with (first
    | (go_at_call 138; refine (readByte_any I G C b l R _ hC h).mono ?_; rintro e w1 ⟨rfl, h1, hc1⟩)
    | fail)
  go_ret2
  exact ⟨rfl, h1, hc1⟩

set_option maxRecDepth 100000 in
set_option maxHeartbeats 2000000 in
theorem readV_any (I G C : Nat) (b l : Value) (R : List Value) (w : World) (hC : 9 ≤ C) (h : Rd w I G C (.int .i64 0 :: b :: .int .u8 0 :: l :: R)) :
    Calls Tryz.prog 65 #[.iface 150 (.pointer (some ⟨I, 0, none⟩))] w fun e w' => e = .returned (.tuple #[.int .i64 1, .nilIface]) ∧ Rd w' I G C (.int .i64 8 :: .int .u64 162111994399293440 :: .int .u8 56 :: l :: R) ∧ Chg (fun q => q = I) w w' := by
  go_enter Tryz.func65, Tryz.ntmps65
  go_wp2_with (first
    | (go_at_call 67; refine (readUv_any I G C b l R _ hC h).mono ?_; rintro e w1 ⟨rfl, h1, hc1⟩)
    | fail)
  go_ret2
  exact ⟨rfl, h1, hc1⟩
end Go.Proofs.YthkdjjejcbndnaaGreatDoor
