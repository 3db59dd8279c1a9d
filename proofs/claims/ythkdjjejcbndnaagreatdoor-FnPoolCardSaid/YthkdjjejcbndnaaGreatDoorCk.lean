/-
  An XOR chunk: made, its appender, its iterator.
-/
import Derived.Test.YthkdjjejcbndnaaGreatDoorBn
namespace Go.Proofs.YthkdjjejcbndnaaGreatDoor
set_option linter.unusedSimpArgs false
set_option linter.unusedVariables false
open Go.RowKit
attribute [local go_sem] run_store_float run_store_iface

theorem Chg.setNew {S : Nat → Prop} {a b : World} (h : Chg S a b) (p : Addr) (hp : a.heap.size ≤ p.block) (u : Value) : Chg S a (b.setCell p u) :=
  ⟨h.os, h.tape, h.output, by rw [size_set]; exact h.size, fun k hk hn => by rw [Below.heap_setCell b p u k (by omega)]; exact h.block k hk hn⟩
theorem Blk.ne {w : World} {a b : Nat} {cs cs' : List Value} {t t' : TypeId} (h : Blk w a cs t) (h' : Blk w b cs' t') (ht : t ≠ t') : a ≠ b := by
  rintro rfl
  unfold Blk at h h'
  rw [h] at h'
  injection h' with h'
  injection h' with _ h'
  exact ht h'
theorem bytes_any (p g n c : Nat) (w : World) (k0 : w.cell? ⟨p, 0, none⟩ = some (.slice (some ⟨g, 0, none⟩) n c)) :
    Calls Tryz.prog 48 #[.pointer (some ⟨p, 0, none⟩)] w fun e w' => e = .returned (.slice (some ⟨g, 0, none⟩) n c) ∧ w = w' := by
  go_enter Tryz.func48, Tryz.ntmps48
  go_wp2_with fail
  go_ret
  exact ⟨rfl, rfl⟩
theorem u16_0 (g n c : Nat) (w : World) (hn : 2 ≤ n) (c0 : w.cell? ⟨g, 0, none⟩ = some (.int .u8 0)) (c1 : w.cell? ⟨g, 1, none⟩ = some (.int .u8 0)) :
    Calls Tryz.prog 49 #[.agg #[], .slice (some ⟨g, 0, none⟩) n c] w fun e w' => e = .returned (.int .u16 0) ∧ Below w.heap.size w w' := Tryz.binary_BE_Uint16 g 0 n c 0 0 w hn c0 c1
theorem u16_1 (g n c : Nat) (w : World) (hn : 2 ≤ n) (c0 : w.cell? ⟨g, 0, none⟩ = some (.int .u8 0)) (c1 : w.cell? ⟨g, 1, none⟩ = some (.int .u8 1)) :
    Calls Tryz.prog 49 #[.agg #[], .slice (some ⟨g, 0, none⟩) n c] w fun e w' => e = .returned (.int .u16 1) ∧ Below w.heap.size w w' := Tryz.binary_BE_Uint16 g 0 n c 0 1 w hn c0 c1
theorem put16_1 (p g n : Nat) (cs : List Value) (w : World) (hn : 2 ≤ n) (h : XC w p g n cs) :
    Calls Tryz.prog 130 #[.agg #[], .slice (some ⟨g, 0, none⟩) n 128, .int .u16 1] w fun e w' => e = .returned (.tuple #[]) ∧ XC w' p g n ((cs.set 0 (.int .u8 0)).set 1 (.int .u8 1)) ∧ Chg (fun k => k = g) w w' := by
  have hl := h.len
  have hx : ∀ j, j < 128 → ∃ u, w.cell? ⟨g, j, none⟩ = some u := fun j hj => ⟨cs[j]'(by omega), by rw [h.row.cell, List.getElem?_eq_getElem]⟩
  obtain ⟨x0, y0⟩ := hx 0 (by decide)
  obtain ⟨x1, y1⟩ := hx 1 (by decide)
  refine (Tryz.binary_BE_PutUint16 g 0 n 128 1 (by decide) x0 x1 w hn y0 y1 (h.row.free _) (h.row.free _)).mono ?_
  rintro e w' ⟨he, rfl⟩
  have hr := h.row.alloc (.cells #[] 118)
  have hb := h.blk.alloc (.cells #[] 118)
  have hc : Chg (fun k => k = g) w _ := ((((Chg.refl (fun k => k = g) w).alloc (.cells #[] 118)).setCell ⟨g, 0, none⟩ rfl (.int .u8 0)).setCell ⟨g, 1, none⟩ rfl (.int .u8 1))
  exact ⟨he, ⟨hb.chg (((Chg.refl (fun k => k = g) _).setCell ⟨g, 0, none⟩ rfl (.int .u8 0)).setCell ⟨g, 1, none⟩ rfl (.int .u8 1)) (fun c => h.ne c.symm), (hr.set 0 (.int .u8 0)).set 1 (.int .u8 1), by simp [hl]⟩, hc⟩

theorem made_u8 (w : World) (n c : Nat) (hn : n ≤ c) (hc : c ≤ 1000) : (Instr.makeSlice 26 (.int .i64 (n : Int)) (.int .i64 (c : Int))).run Tryz.prog w = .ok (.slice (some ⟨w.heap.size, 0, none⟩) n c) (w.alloc (.cells (madeCells #[.int .u8 0] c) 5)) := by
  obtain ⟨i0, hi, hz0, hz1, hz2⟩ := info_parts infoU8
  have := run_make (P := Tryz.prog) w 26 5 i0 _ Tryz.underlying26 hi hz0 .i64 .i64 n c (by omega) (by omega) (by rw [hz2]; omega) (by omega)
  rw [this, hz1]
  simp
  rfl
theorem blk_made (w : World) (c : Nat) : Blk (w.alloc (.cells (madeCells #[.int .u8 0] c) 5)) w.heap.size (List.replicate c (.int .u8 0)) 5 := by
  have := Blk.new w (List.replicate c (.int .u8 0)) 5
  have e : (List.replicate c (Value.int .u8 0)).toArray = madeCells #[.int .u8 0] c := by
    apply Array.ext
    · simp [madeCells]
    · intro i h1 h2
      simp [madeCells, Nat.mod_one]
  rw [e] at this
  exact this

set_option maxRecDepth 100000 in
set_option maxHeartbeats 2000000 in
theorem newXOR_any (w : World) : Calls Tryz.prog 38 #[] w fun e w' => e = .returned (.pointer (some ⟨w.heap.size + 1, 0, none⟩)) ∧ XC w' (w.heap.size + 1) w.heap.size 2 (List.replicate 128 (.int .u8 0)) ∧ Below w.heap.size w w' := by
  have hmk := made_u8 w 2 128 (by decide) (by decide)
  have hb := blk_made w 128
  have hB := below_new w (.cells (madeCells #[.int .u8 0] 128) 5)
  have hz : (w.alloc (.cells (madeCells #[.int .u8 0] 128) 5)).heap.size = w.heap.size + 1 := by simp
  have hmk : (Instr.makeSlice 26 (.int .i64 2) (.int .i64 128)).run Tryz.prog w = .ok (.slice (some ⟨w.heap.size, 0, none⟩) 2 128) (w.alloc (.cells (madeCells #[.int .u8 0] 128) 5)) := hmk
  generalize w.alloc (.cells (madeCells #[.int .u8 0] 128) 5) = W at *
  go_enter Tryz.func38, Tryz.ntmps38
  go_wp2_with fail
  go_ret
  have hn := Blk.new W [.slice (some ⟨w.heap.size, 0, none⟩) 2 128, .int .u8 0] 115
  rw [hz] at hn
  exact ⟨by first | rfl | simp [hz], ⟨hn, hb.alloc _, List.length_replicate⟩, bnx hB (below_new W _)⟩

theorem uv1 : Lib.uvarint (Lib.zigzag 1) = [2] := by
  have : Lib.zigzag 1 = 2 := by decide
  rw [this]
  unfold Lib.uvarint
  rfl
theorem putV1 (m : Nat) (W : World) (hm : Blk W m (List.replicate 10 (.int .u8 0)) 5) :
    Calls Tryz.prog 124 #[.slice (some ⟨m, 0, none⟩) 10 10, .int .i64 1] W fun e w' => e = .returned (.int .i64 1) ∧ w' = W.setCell ⟨m, 0, none⟩ (.int .u8 2) := by
  have := Tryz.binary_PutVarint m 0 10 10 1 (by decide) (by decide) W (by rw [uv1]; decide) (fun j hj => by
    rw [uv1] at hj
    have : j = 0 := by simpa using hj
    subst this
    exact ⟨by rw [hm.cell]; rfl, hm.free _⟩)
  rw [uv1] at this
  exact this

/-- the bytes of one sample -/
def setOne (cs : List Value) : List Value := ((set8 (cs.set 2 (.int .u8 2)) 3).set 0 (.int .u8 0)).set 1 (.int .u8 1)

set_option maxRecDepth 100000 in
set_option maxHeartbeats 4000000 in
theorem append_any (q p g : Nat) (cs : List Value) (d2 td le tr : Value) (d1 : Int) (w : World) (h : XC w p g 2 cs) (ha : Blk w q [.pointer (some ⟨p, 0, none⟩), .int .i64 d1, d2, td, le, tr] 138) (e0 : cs[0]? = some (.int .u8 0)) (e1 : cs[1]? = some (.int .u8 0)) :
    Calls Tryz.prog 120 #[.pointer (some ⟨q, 0, none⟩), .int .i64 1, .float .f64 4607182418800017408] w fun e w' => e = .returned (.tuple #[]) ∧ XC w' p g 11 (setOne cs) ∧ Chg (fun k => k = p ∨ k = g ∨ k = q) w w' := by
  have hx := f64bits
  have c0 := (h.row.cell 0).trans e0
  have c1 := (h.row.cell 1).trans e1
  have k0 : w.drew.cell? ⟨p, 0, none⟩ = some (.slice (some ⟨g, 0, none⟩) 2 128) := h.blk.cell 0
  have c0 : w.drew.cell? ⟨g, 0, none⟩ = some (.int .u8 0) := c0
  have c1 : w.drew.cell? ⟨g, 1, none⟩ = some (.int .u8 0) := c1
  have a0 := ha.cell 0
  have hcg := Chg.refl (fun k => k = p ∨ k = g ∨ k = q) w
  go_enter Tryz.func120, Tryz.ntmps120
  go_wp2_with fail
  have a0' : w.drew.cell? ⟨q, 0, none⟩ = some (.pointer (some ⟨p, 0, none⟩)) := a0
  go_region_held3 (fun w' => w'.cell? ⟨q, 0, none⟩ = some (.pointer (some ⟨p, 0, none⟩))) (first | (with_reducible assumption) | go_keep) (first
    | (go_at_call 48; refine (bytes_any p g 2 128 _ k0).mono ?_; rintro e w' ⟨rfl, rfl⟩)
    | (go_at_call 49; refine (u16_0 g 2 128 _ (by decide) c0 c1).mono ?_; rintro e w1 ⟨rfl, hb1⟩; have hcg := hcg.drew.calls hb1; have hf := (Chg.refl (fun _ => False) w).drew.calls hb1; have h := h.chg hf (fun h => h) (fun h => h); have ha := ha.chg hf (fun h => h); have a1 : w1.cell? ⟨q, 0, none⟩ = some (.pointer (some ⟨p, 0, none⟩)) := ha.cell 0)
    | fail)
  have hmk : (Instr.makeSlice 26 (.int .i64 10) (.int .i64 10)).run Tryz.prog w1 = .ok (.slice (some ⟨w1.heap.size, 0, none⟩) 10 10) (w1.alloc (.cells (madeCells #[.int .u8 0] 10) 5)) := made_u8 w1 10 10 (by decide) (by decide)
  have hm := blk_made w1 10
  have lp := h.blk.lt
  have lg := h.row.lt
  have lq := ha.lt
  have lw := hcg.size
  have hcg := hcg.alloc (.cells (madeCells #[.int .u8 0] 10) 5)
  have h := XC.chg h ((Chg.refl (fun _ => False) w1).alloc (.cells (madeCells #[.int .u8 0] 10) 5)) (fun h => h) (fun h => h)
  have ha := Blk.chg ha ((Chg.refl (fun _ => False) w1).alloc (.cells (madeCells #[.int .u8 0] 10) 5)) (fun h => h)
  generalize w1.alloc (.cells (madeCells #[.int .u8 0] 10) 5) = W at *
  generalize w1.heap.size = m at *
  have hput := putV1 m W hm
  have hm1 := hm.set 0 (.int .u8 2)
  have m0 := hm1.cell 0
  have hcm := chg_set W m 0 (.int .u8 2)
  have h := h.chg hcm (by omega) (by omega)
  have ha := ha.chg hcm (by omega)
  have hcg := hcg.setNew ⟨m, 0, none⟩ lw (.int .u8 2)
  generalize W.setCell ⟨m, 0, none⟩ (.int .u8 2) = W1 at *
  have a1 : W1.cell? ⟨q, 0, none⟩ = some (.pointer (some ⟨p, 0, none⟩)) := ha.cell 0
  go_wp2_with (first | (go_at_call 124; refine hput.mono ?_; rintro e w' ⟨rfl, rfl⟩) | fail)
  refine wp_loop_rounds 2 ?_
  rw [rounds_succ]
  have hne : q ≠ p ∧ q ≠ g := ⟨ha.ne h.blk (by decide), ha.ne h.row (by decide)⟩
  go_wp2_with (first | (go_at_call 125; refine (writeByte_any p g 2 cs 2 _ h (by decide)).mono ?_; rintro e w2 ⟨rfl, h2, hc2⟩; have ha2 := ha.chg hc2 (by omega)) | fail)
  have hcg2 := hcg.trans (hc2.mono (T := fun k => k = p ∨ k = g ∨ k = q) (fun k hk => by omega))
  rw [rounds_succ]
  go_wp2_with fail
  have b0 : w2.drew.cell? ⟨q, 0, none⟩ = some (.pointer (some ⟨p, 0, none⟩)) := ha2.cell 0
  go_region_held3 (fun w' => w'.cell? ⟨q, 0, none⟩ = some (.pointer (some ⟨p, 0, none⟩))) (first | (with_reducible assumption) | go_keep) (first
    | (go_at_call 126; refine (writeBits_any p g 3 _ _ (h2.chg (Chg.refl (fun _ => False) w2).drew (fun h => h) (fun h => h)) (by decide)).mono ?_; rintro e w3 ⟨rfl, h3, hc3⟩; have ha3 := Blk.chg ha2.drew hc3 (by omega); have b1 : w3.cell? ⟨q, 0, none⟩ = some (.pointer (some ⟨p, 0, none⟩)) := ha3.cell 0)
    | fail)
  have hcg3 := hcg2.drew.trans (hc3.mono (T := fun k => k = p ∨ k = g ∨ k = q) (fun k hk => by omega))
  have c1 := ha3.cell 1
  have c2 := ha3.cell 2
  have z1 := ha3.free 1
  have z2 := ha3.free 2
  have ha4 := (ha3.set 1 (.int .i64 1)).set 2 (.float .f64 4607182418800017408)
  have h4 := XC.chg h3 ((chg_set w3 q 1 (.int .i64 1)).trans (chg_set _ q 2 (.float .f64 4607182418800017408))) (by omega) (by omega)
  have hcg4 := (hcg3.setCell ⟨q, 1, none⟩ (.inr (.inr rfl)) (.int .i64 1)).setCell ⟨q, 2, none⟩ (.inr (.inr rfl)) (.float .f64 4607182418800017408)
  go_wp2_with fail
  generalize (w3.setCell ⟨q, 1, none⟩ (.int .i64 1)).setCell ⟨q, 2, none⟩ (.float .f64 4607182418800017408) = W4 at *
  have f0 : W4.drew.cell? ⟨q, 0, none⟩ = some (.pointer (some ⟨p, 0, none⟩)) := ha4.cell 0
  have hk : W4.drew.cell? ⟨p, 0, none⟩ = some (.slice (some ⟨g, 0, none⟩) 11 128) := h4.blk.cell 0
  go_region_held3 (fun w' => w'.cell? ⟨q, 0, none⟩ = some (.pointer (some ⟨p, 0, none⟩))) (first | (with_reducible assumption) | go_keep) (first
    | (go_at_call 48; refine (bytes_any p g 11 128 _ hk).mono ?_; rintro e w' ⟨rfl, rfl⟩)
    | (go_at_call 130; refine (put16_1 p g 11 _ _ (by decide) (h4.chg (Chg.refl (fun _ => False) W4).drew (fun h => h) (fun h => h))).mono ?_; rintro e w5 ⟨rfl, h5, hc5⟩; have ha5 := Blk.chg ha4.drew hc5 (by omega); have f1 : w5.cell? ⟨q, 0, none⟩ = some (.pointer (some ⟨p, 0, none⟩)) := ha5.cell 0)
    | fail)
  have hcg5 := hcg4.drew.trans (hc5.mono (T := fun k => k = p ∨ k = g ∨ k = q) (fun k hk => by omega))
  have c3 := ha5.cell 3
  have z3 := ha5.free 3
  go_wp2_with fail
  go_end0
  exact ⟨rfl, h5.chg (chg_set w5 q 3 _) (by omega) (by omega), hcg5.setCell ⟨q, 3, none⟩ (.inr (.inr rfl)) _⟩
end Go.Proofs.YthkdjjejcbndnaaGreatDoor
