/-
  impl.get: a datum that is a number.
-/
import Derived.Test.YtkbkggamfkadnaaGreatDoorDxA
namespace Go.Proofs.YtkbkggamfkadnaaGreatDoor
set_option linter.unusedSimpArgs false
set_option linter.unusedVariables false
open Go.RowKit

abbrev DaT : TypeId := 28
/-- the cells of impl.get -/
theorem get_cells (w : World) (k N : Int) (S : Value) : ∃ W, W = ((w.alloc (.cells #[.int .i64 k, .int .u64 N, S] DaT)).alloc (.cells #[.int .i64 0, .int .u64 0, .slice none 0 0] DaT)).alloc (.cells #[.int .i64 k, .int .u64 0, .slice none 0 0] DaT) ∧ Blk W w.heap.size [.int .i64 k, .int .u64 N, S] DaT ∧ Blk W (w.heap.size + 1) [.int .i64 0, .int .u64 0, .slice none 0 0] DaT ∧ Blk W (w.heap.size + 1 + 1) [.int .i64 k, .int .u64 0, .slice none 0 0] DaT ∧ W.heap.size = w.heap.size + 3 ∧ Below w.heap.size w W := by
  refine ⟨_, rfl, ((Blk.new w [.int .i64 k, .int .u64 N, S] _).alloc _).alloc _, ?_, ?_, by simp, ((below_new w _).alloc (by simp) _).alloc (by simp; omega) _⟩
  · have := (Blk.new (w.alloc (.cells #[.int .i64 k, .int .u64 N, S] DaT)) [.int .i64 0, .int .u64 0, .slice none 0 0] DaT).alloc (.cells #[.int .i64 k, .int .u64 0, .slice none 0 0] DaT)
    simpa using this
  · have := Blk.new ((w.alloc (.cells #[.int .i64 k, .int .u64 N, S] DaT)).alloc (.cells #[.int .i64 0, .int .u64 0, .slice none 0 0] DaT)) [.int .i64 k, .int .u64 0, .slice none 0 0] DaT
    simpa using this
theorem Chg.mono' {S : Nat → Prop} {w w' : World} (h : Chg (fun k => w.heap.size ≤ k) w w') (hB : Below w.heap.size w w') : Chg S w w' := ⟨hB.os, hB.tape, hB.output, hB.size, fun k hk _ => hB.block k hk⟩
theorem DSt.low {D : Nat} {w w' : World} {m : List UInt8} {E : Value} (h : DSt D w m E) (hb : Below w.heap.size w w') : DSt D w' m E := by
  obtain ⟨v, h1, h2⟩ := h
  have hlt := h1.lt
  exact ⟨v, h1.chg (Chg.ofBelow hb) (by omega), Sl.below h2 hb (by omega)⟩
theorem DSt.lt {D : Nat} {w : World} {m : List UInt8} {E : Value} (h : DSt D w m E) : D < w.heap.size := let ⟨_, h1, _⟩ := h; h1.lt
theorem ErrV.low {w w' : World} (h : ErrV w) (hb : Below w.heap.size w w') : ErrV w' := let ⟨t, u, h1⟩ := h; ⟨t, u, (hb.cell (p := ⟨EG, 0, none⟩) (cell_lt h1)).trans h1⟩
theorem DRes.chg {D : Nat} {w w' : World} {E : Value} {o : Option (Nat × List UInt8)} {x : Nat} (h : DRes D w E o x) {S : Nat → Prop} (hc : Chg S w w') (hs : ∀ k, k ≤ D → ¬ S k) : DRes D w' E o x := by
  rcases h with ⟨r, h1, h2, h3⟩ | ⟨h1, h2, m, t, u, h3, h4⟩
  · exact .inl ⟨r, h1, h2, h3.chg hc hs⟩
  · exact .inr ⟨h1, h2, m, t, u, h3, h4.chg hc hs⟩
theorem IntKind.wrap_u64 (n : Int) : IntKind.u64.wrap n = n % 18446744073709551616 := by simp [IntKind.wrap, IntKind.bits, IntKind.signed]
set_option maxRecDepth 100000 in
theorem bitsOf_any (n : Nat) (w : World) : Calls Tryz.prog 64 #[.float .f64 n] w fun e w' => e = .returned (.int .u64 n) ∧ w = w' := by
  have hx := f64bits
  go_enter Tryz.func64, Tryz.ntmps64
  go_wp2_with fail
  go_ret
  exact ⟨rfl, rfl⟩
theorem w64_mod (x : Int) (h0 : 0 ≤ x) (h1 : x < 18446744073709551616) : wrap64 x % 18446744073709551616 = x := by
  unfold wrap64
  omega

set_option maxRecDepth 100000 in
set_option maxHeartbeats 2000000 in
theorem get0 (D : Nat) (m : List UInt8) (E : Value) (N : Int) (S : Value) (hS : ∃ a n c, S = .slice a n c) (w : World) (h : DSt D w m E) (hE : E = .nilIface ∨ ∃ t u, E = .iface t u) (hl : m.length ≤ 2147483647) (hg : ErrV w) :
    Calls Tryz.prog 25 #[.pointer (some ⟨D, 0, none⟩), .agg #[.int .i64 0, .int .u64 N, S]] w fun e w' => ∃ x : Nat, e = .returned (.agg #[.int .i64 0, .int .u64 (x : Int), .slice none 0 0]) ∧ DRes D w' E ((decB 1) m) x ∧ Chg (fun q => q = D) w w' := by
  obtain ⟨sa, sn, sc, rfl⟩ := hS
  obtain ⟨W, hWe, b0, b1, b2, hsz, hB⟩ := get_cells w 0 N (.slice sa sn sc)
  have HW := Lib.hid hWe.symm
  have hG := byte_num D m E W (h.low hB) hE hl (hg.low hB)
  have hlt := h.lt
  have e0 := b0.cell 0
  have hcW : Chg (fun q => q = D) w W := (Chg.ofBelow hB).mono' hB
  have hbf := f64bits
  clear hWe
  go_enter Tryz.func25, Tryz.ntmps25
  go_upto_region 2 with fail
  rw [HW.out]
  go_wp2_with fail
  refine hG.mono ?_
  rintro e w1 ⟨x, rfl, hd, hc⟩
  have d1 := b1.chg hc (by omega)
  have d2 := b2.chg hc (by omega)
  have i0 := d2.cell 0
  have i1 := d2.cell 1
  have i2 := d2.cell 2
  have z1 := d2.free 1
  have j0 := d1.free 0
  have j1 := d1.free 1
  have j2 := d1.free 2
  have c0 := d1.cell 0
  have c1 := d1.cell 1
  have c2 := d1.cell 2
  have hx := hd.lt (B := 4294967296) (fun y r h => by have := (decB_lt h).1; omega) (by decide)
  have hx0 : (0 : Int) ≤ (x : Int) := by omega
  have hx1 : (x : Int) < 4294967296 := by omega
  go_wp2_with fail
  have hF := (((d1.chg (chg_set w1 (w.heap.size + 1 + 1) 1 (.int .u64 (x : Int))) (by omega)).set 0 (.int .i64 0)).set 1 (.int .u64 (x : Int))).set 2 (.slice none 0 0)
  have r0 := hF.cell 0
  have r1 := hF.cell 1
  have r2 := hF.cell 2
  have hcs : Chg (fun q => w.heap.size < q) w1 ((((w1.setCell ⟨w.heap.size + 1 + 1, 1, none⟩ (.int .u64 (x : Int))).setCell ⟨w.heap.size + 1, 0, none⟩ (.int .i64 0)).setCell ⟨w.heap.size + 1, 1, none⟩ (.int .u64 (x : Int))).setCell ⟨w.heap.size + 1, 2, none⟩ (.slice none 0 0)) := ((((Chg.refl (fun q => w.heap.size < q) w1).setCell ⟨w.heap.size + 1 + 1, 1, none⟩ (by simp only; omega) _).setCell ⟨w.heap.size + 1, 0, none⟩ (by simp only; omega) _).setCell ⟨w.heap.size + 1, 1, none⟩ (by simp only; omega) _).setCell ⟨w.heap.size + 1, 2, none⟩ (by simp only; omega) _
  refine bodyPost_ret (v := .agg #[.int .i64 0, .int .u64 (x : Int), .slice none 0 0]) (by simp [results, Tryz.results25, go_sem, r0, r1, r2]) rfl ⟨x, rfl, hd.chg hcs (fun q hq => by omega), ?_⟩
  exact ⟨hcs.os.trans (hc.os.trans hB.os), hcs.tape.trans (hc.tape.trans hB.tape), hcs.output.trans (hc.output.trans hB.output), by have := hc.size; have := hcs.size; omega, fun q hq hn => by rw [hcs.block q (by have := hc.size; omega) (by omega), hc.block q (by omega) hn, hB.block q hq]⟩

set_option maxRecDepth 100000 in
set_option maxHeartbeats 2000000 in
theorem get1 (D : Nat) (m : List UInt8) (E : Value) (N : Int) (S : Value) (hS : ∃ a n c, S = .slice a n c) (w : World) (h : DSt D w m E) (hE : E = .nilIface ∨ ∃ t u, E = .iface t u) (hl : m.length ≤ 2147483647) (hg : ErrV w) :
    Calls Tryz.prog 25 #[.pointer (some ⟨D, 0, none⟩), .agg #[.int .i64 1, .int .u64 N, S]] w fun e w' => ∃ x : Nat, e = .returned (.agg #[.int .i64 1, .int .u64 (x : Int), .slice none 0 0]) ∧ DRes D w' E ((decB 4) m) x ∧ Chg (fun q => q = D) w w' := by
  obtain ⟨sa, sn, sc, rfl⟩ := hS
  obtain ⟨W, hWe, b0, b1, b2, hsz, hB⟩ := get_cells w 1 N (.slice sa sn sc)
  have HW := Lib.hid hWe.symm
  have hG := be32_num D m E W (h.low hB) hE hl (hg.low hB)
  have hlt := h.lt
  have e0 := b0.cell 0
  have hcW : Chg (fun q => q = D) w W := (Chg.ofBelow hB).mono' hB
  have hbf := f64bits
  clear hWe
  go_enter Tryz.func25, Tryz.ntmps25
  go_upto_region 2 with fail
  rw [HW.out]
  go_wp2_with fail
  refine hG.mono ?_
  rintro e w1 ⟨x, rfl, hd, hc⟩
  have d1 := b1.chg hc (by omega)
  have d2 := b2.chg hc (by omega)
  have i0 := d2.cell 0
  have i1 := d2.cell 1
  have i2 := d2.cell 2
  have z1 := d2.free 1
  have j0 := d1.free 0
  have j1 := d1.free 1
  have j2 := d1.free 2
  have c0 := d1.cell 0
  have c1 := d1.cell 1
  have c2 := d1.cell 2
  have hx := hd.lt (B := 4294967296) (fun y r h => by have := (decB_lt h).1; omega) (by decide)
  have hx0 : (0 : Int) ≤ (x : Int) := by omega
  have hx1 : (x : Int) < 4294967296 := by omega
  go_wp2_with fail
  have hF := (((d1.chg (chg_set w1 (w.heap.size + 1 + 1) 1 (.int .u64 (x : Int))) (by omega)).set 0 (.int .i64 1)).set 1 (.int .u64 (x : Int))).set 2 (.slice none 0 0)
  have r0 := hF.cell 0
  have r1 := hF.cell 1
  have r2 := hF.cell 2
  have hcs : Chg (fun q => w.heap.size < q) w1 ((((w1.setCell ⟨w.heap.size + 1 + 1, 1, none⟩ (.int .u64 (x : Int))).setCell ⟨w.heap.size + 1, 0, none⟩ (.int .i64 1)).setCell ⟨w.heap.size + 1, 1, none⟩ (.int .u64 (x : Int))).setCell ⟨w.heap.size + 1, 2, none⟩ (.slice none 0 0)) := ((((Chg.refl (fun q => w.heap.size < q) w1).setCell ⟨w.heap.size + 1 + 1, 1, none⟩ (by simp only; omega) _).setCell ⟨w.heap.size + 1, 0, none⟩ (by simp only; omega) _).setCell ⟨w.heap.size + 1, 1, none⟩ (by simp only; omega) _).setCell ⟨w.heap.size + 1, 2, none⟩ (by simp only; omega) _
  refine bodyPost_ret (v := .agg #[.int .i64 1, .int .u64 (x : Int), .slice none 0 0]) (by simp [results, Tryz.results25, go_sem, r0, r1, r2]) rfl ⟨x, rfl, hd.chg hcs (fun q hq => by omega), ?_⟩
  exact ⟨hcs.os.trans (hc.os.trans hB.os), hcs.tape.trans (hc.tape.trans hB.tape), hcs.output.trans (hc.output.trans hB.output), by have := hc.size; have := hcs.size; omega, fun q hq hn => by rw [hcs.block q (by have := hc.size; omega) (by omega), hc.block q (by omega) hn, hB.block q hq]⟩

set_option maxRecDepth 100000 in
set_option maxHeartbeats 2000000 in
theorem get2 (D : Nat) (m : List UInt8) (E : Value) (N : Int) (S : Value) (hS : ∃ a n c, S = .slice a n c) (w : World) (h : DSt D w m E) (hE : E = .nilIface ∨ ∃ t u, E = .iface t u) (hl : m.length ≤ 2147483647) (hg : ErrV w) :
    Calls Tryz.prog 25 #[.pointer (some ⟨D, 0, none⟩), .agg #[.int .i64 2, .int .u64 N, S]] w fun e w' => ∃ x : Nat, e = .returned (.agg #[.int .i64 2, .int .u64 (x : Int), .slice none 0 0]) ∧ DRes D w' E ((decB 8) m) x ∧ Chg (fun q => q = D) w w' := by
  obtain ⟨sa, sn, sc, rfl⟩ := hS
  obtain ⟨W, hWe, b0, b1, b2, hsz, hB⟩ := get_cells w 2 N (.slice sa sn sc)
  have HW := Lib.hid hWe.symm
  have hG := be64_num D m E W (h.low hB) hE hl (hg.low hB)
  have hlt := h.lt
  have e0 := b0.cell 0
  have hcW : Chg (fun q => q = D) w W := (Chg.ofBelow hB).mono' hB
  have hbf := f64bits
  clear hWe
  go_enter Tryz.func25, Tryz.ntmps25
  go_upto_region 2 with fail
  rw [HW.out]
  go_wp2_with fail
  refine hG.mono ?_
  rintro e w1 ⟨x, rfl, hd, hc⟩
  have d1 := b1.chg hc (by omega)
  have d2 := b2.chg hc (by omega)
  have i0 := d2.cell 0
  have i1 := d2.cell 1
  have i2 := d2.cell 2
  have z1 := d2.free 1
  have j0 := d1.free 0
  have j1 := d1.free 1
  have j2 := d1.free 2
  have c0 := d1.cell 0
  have c1 := d1.cell 1
  have c2 := d1.cell 2
  go_wp2_with fail
  have hF := (((d1.chg (chg_set w1 (w.heap.size + 1 + 1) 1 (.int .u64 (x : Int))) (by omega)).set 0 (.int .i64 2)).set 1 (.int .u64 (x : Int))).set 2 (.slice none 0 0)
  have r0 := hF.cell 0
  have r1 := hF.cell 1
  have r2 := hF.cell 2
  have hcs : Chg (fun q => w.heap.size < q) w1 ((((w1.setCell ⟨w.heap.size + 1 + 1, 1, none⟩ (.int .u64 (x : Int))).setCell ⟨w.heap.size + 1, 0, none⟩ (.int .i64 2)).setCell ⟨w.heap.size + 1, 1, none⟩ (.int .u64 (x : Int))).setCell ⟨w.heap.size + 1, 2, none⟩ (.slice none 0 0)) := ((((Chg.refl (fun q => w.heap.size < q) w1).setCell ⟨w.heap.size + 1 + 1, 1, none⟩ (by simp only; omega) _).setCell ⟨w.heap.size + 1, 0, none⟩ (by simp only; omega) _).setCell ⟨w.heap.size + 1, 1, none⟩ (by simp only; omega) _).setCell ⟨w.heap.size + 1, 2, none⟩ (by simp only; omega) _
  refine bodyPost_ret (v := .agg #[.int .i64 2, .int .u64 (x : Int), .slice none 0 0]) (by simp [results, Tryz.results25, go_sem, r0, r1, r2]) rfl ⟨x, rfl, hd.chg hcs (fun q hq => by omega), ?_⟩
  exact ⟨hcs.os.trans (hc.os.trans hB.os), hcs.tape.trans (hc.tape.trans hB.tape), hcs.output.trans (hc.output.trans hB.output), by have := hc.size; have := hcs.size; omega, fun q hq hn => by rw [hcs.block q (by have := hc.size; omega) (by omega), hc.block q (by omega) hn, hB.block q hq]⟩

set_option maxRecDepth 100000 in
set_option maxHeartbeats 2000000 in
theorem get3 (D : Nat) (m : List UInt8) (E : Value) (N : Int) (S : Value) (hS : ∃ a n c, S = .slice a n c) (w : World) (h : DSt D w m E) (hE : E = .nilIface ∨ ∃ t u, E = .iface t u) (hl : m.length ≤ 2147483647) (hg : ErrV w) :
    Calls Tryz.prog 25 #[.pointer (some ⟨D, 0, none⟩), .agg #[.int .i64 3, .int .u64 N, S]] w fun e w' => ∃ x : Nat, e = .returned (.agg #[.int .i64 3, .int .u64 (x : Int), .slice none 0 0]) ∧ DRes D w' E ((decB 4) m) x ∧ Chg (fun q => q = D) w w' := by
  obtain ⟨sa, sn, sc, rfl⟩ := hS
  obtain ⟨W, hWe, b0, b1, b2, hsz, hB⟩ := get_cells w 3 N (.slice sa sn sc)
  have HW := Lib.hid hWe.symm
  have hG := be32int_num D m E W (h.low hB) hE hl (hg.low hB)
  have hlt := h.lt
  have e0 := b0.cell 0
  have hcW : Chg (fun q => q = D) w W := (Chg.ofBelow hB).mono' hB
  have hbf := f64bits
  clear hWe
  go_enter Tryz.func25, Tryz.ntmps25
  go_upto_region 2 with fail
  rw [HW.out]
  go_wp2_with fail
  refine hG.mono ?_
  rintro e w1 ⟨x, rfl, hd, hc⟩
  have d1 := b1.chg hc (by omega)
  have d2 := b2.chg hc (by omega)
  have i0 := d2.cell 0
  have i1 := d2.cell 1
  have i2 := d2.cell 2
  have z1 := d2.free 1
  have j0 := d1.free 0
  have j1 := d1.free 1
  have j2 := d1.free 2
  have c0 := d1.cell 0
  have c1 := d1.cell 1
  have c2 := d1.cell 2
  have hx := hd.lt (B := 4294967296) (fun y r h => by have := (decB_lt h).1; omega) (by decide)
  have hx0 : (0 : Int) ≤ (x : Int) := by omega
  have hx1 : (x : Int) < 4294967296 := by omega
  go_wp2_with fail
  have hF := (((d1.chg (chg_set w1 (w.heap.size + 1 + 1) 1 (.int .u64 (x : Int))) (by omega)).set 0 (.int .i64 3)).set 1 (.int .u64 (x : Int))).set 2 (.slice none 0 0)
  have r0 := hF.cell 0
  have r1 := hF.cell 1
  have r2 := hF.cell 2
  have hcs : Chg (fun q => w.heap.size < q) w1 ((((w1.setCell ⟨w.heap.size + 1 + 1, 1, none⟩ (.int .u64 (x : Int))).setCell ⟨w.heap.size + 1, 0, none⟩ (.int .i64 3)).setCell ⟨w.heap.size + 1, 1, none⟩ (.int .u64 (x : Int))).setCell ⟨w.heap.size + 1, 2, none⟩ (.slice none 0 0)) := ((((Chg.refl (fun q => w.heap.size < q) w1).setCell ⟨w.heap.size + 1 + 1, 1, none⟩ (by simp only; omega) _).setCell ⟨w.heap.size + 1, 0, none⟩ (by simp only; omega) _).setCell ⟨w.heap.size + 1, 1, none⟩ (by simp only; omega) _).setCell ⟨w.heap.size + 1, 2, none⟩ (by simp only; omega) _
  refine bodyPost_ret (v := .agg #[.int .i64 3, .int .u64 (x : Int), .slice none 0 0]) (by simp [results, Tryz.results25, go_sem, r0, r1, r2]) rfl ⟨x, rfl, hd.chg hcs (fun q hq => by omega), ?_⟩
  exact ⟨hcs.os.trans (hc.os.trans hB.os), hcs.tape.trans (hc.tape.trans hB.tape), hcs.output.trans (hc.output.trans hB.output), by have := hc.size; have := hcs.size; omega, fun q hq hn => by rw [hcs.block q (by have := hc.size; omega) (by omega), hc.block q (by omega) hn, hB.block q hq]⟩

set_option maxRecDepth 100000 in
set_option maxHeartbeats 2000000 in
theorem get4 (D : Nat) (m : List UInt8) (E : Value) (N : Int) (S : Value) (hS : ∃ a n c, S = .slice a n c) (w : World) (h : DSt D w m E) (hE : E = .nilIface ∨ ∃ t u, E = .iface t u) (hl : m.length ≤ 2147483647) (hg : ErrV w) :
    Calls Tryz.prog 25 #[.pointer (some ⟨D, 0, none⟩), .agg #[.int .i64 4, .int .u64 N, S]] w fun e w' => ∃ x : Nat, e = .returned (.agg #[.int .i64 4, .int .u64 (x : Int), .slice none 0 0]) ∧ DRes D w' E ((decB 8) m) x ∧ Chg (fun q => q = D) w w' := by
  obtain ⟨sa, sn, sc, rfl⟩ := hS
  obtain ⟨W, hWe, b0, b1, b2, hsz, hB⟩ := get_cells w 4 N (.slice sa sn sc)
  have HW := Lib.hid hWe.symm
  have hG := be64i_num D m E W (h.low hB) hE hl (hg.low hB)
  have hlt := h.lt
  have e0 := b0.cell 0
  have hcW : Chg (fun q => q = D) w W := (Chg.ofBelow hB).mono' hB
  have hbf := f64bits
  clear hWe
  go_enter Tryz.func25, Tryz.ntmps25
  go_upto_region 2 with fail
  rw [HW.out]
  go_wp2_with fail
  refine hG.mono ?_
  rintro e w1 ⟨x, rfl, hd, hc⟩
  have d1 := b1.chg hc (by omega)
  have d2 := b2.chg hc (by omega)
  have i0 := d2.cell 0
  have i1 := d2.cell 1
  have i2 := d2.cell 2
  have z1 := d2.free 1
  have j0 := d1.free 0
  have j1 := d1.free 1
  have j2 := d1.free 2
  have c0 := d1.cell 0
  have c1 := d1.cell 1
  have c2 := d1.cell 2
  have hx := hd.lt (B := 18446744073709551616) (fun y r h => by have := (decB_lt h).1; omega) (by decide)
  have hw : IntKind.u64.wrap (wrap64 (x : Int)) = (x : Int) := by
    rw [IntKind.wrap_u64]
    exact w64_mod (x : Int) (by omega) (by omega)
  go_wp2_with fail
  have hF := (((d1.chg (chg_set w1 (w.heap.size + 1 + 1) 1 (.int .u64 (x : Int))) (by omega)).set 0 (.int .i64 4)).set 1 (.int .u64 (x : Int))).set 2 (.slice none 0 0)
  have r0 := hF.cell 0
  have r1 := hF.cell 1
  have r2 := hF.cell 2
  have hcs : Chg (fun q => w.heap.size < q) w1 ((((w1.setCell ⟨w.heap.size + 1 + 1, 1, none⟩ (.int .u64 (x : Int))).setCell ⟨w.heap.size + 1, 0, none⟩ (.int .i64 4)).setCell ⟨w.heap.size + 1, 1, none⟩ (.int .u64 (x : Int))).setCell ⟨w.heap.size + 1, 2, none⟩ (.slice none 0 0)) := ((((Chg.refl (fun q => w.heap.size < q) w1).setCell ⟨w.heap.size + 1 + 1, 1, none⟩ (by simp only; omega) _).setCell ⟨w.heap.size + 1, 0, none⟩ (by simp only; omega) _).setCell ⟨w.heap.size + 1, 1, none⟩ (by simp only; omega) _).setCell ⟨w.heap.size + 1, 2, none⟩ (by simp only; omega) _
  refine bodyPost_ret (v := .agg #[.int .i64 4, .int .u64 (x : Int), .slice none 0 0]) (by simp [results, Tryz.results25, go_sem, r0, r1, r2]) rfl ⟨x, rfl, hd.chg hcs (fun q hq => by omega), ?_⟩
  exact ⟨hcs.os.trans (hc.os.trans hB.os), hcs.tape.trans (hc.tape.trans hB.tape), hcs.output.trans (hc.output.trans hB.output), by have := hc.size; have := hcs.size; omega, fun q hq hn => by rw [hcs.block q (by have := hc.size; omega) (by omega), hc.block q (by omega) hn, hB.block q hq]⟩

set_option maxRecDepth 100000 in
set_option maxHeartbeats 2000000 in
theorem get5 (D : Nat) (m : List UInt8) (E : Value) (N : Int) (S : Value) (hS : ∃ a n c, S = .slice a n c) (w : World) (h : DSt D w m E) (hE : E = .nilIface ∨ ∃ t u, E = .iface t u) (hl : m.length ≤ 2147483647) (hg : ErrV w) :
    Calls Tryz.prog 25 #[.pointer (some ⟨D, 0, none⟩), .agg #[.int .i64 5, .int .u64 N, S]] w fun e w' => ∃ x : Nat, e = .returned (.agg #[.int .i64 5, .int .u64 (x : Int), .slice none 0 0]) ∧ DRes D w' E ((decB 8) m) x ∧ Chg (fun q => q = D) w w' := by
  obtain ⟨sa, sn, sc, rfl⟩ := hS
  obtain ⟨W, hWe, b0, b1, b2, hsz, hB⟩ := get_cells w 5 N (.slice sa sn sc)
  have HW := Lib.hid hWe.symm
  have hG := be64f_num D m E W (h.low hB) hE hl (hg.low hB)
  have hlt := h.lt
  have e0 := b0.cell 0
  have hcW : Chg (fun q => q = D) w W := (Chg.ofBelow hB).mono' hB
  have hbf := f64bits
  clear hWe
  go_enter Tryz.func25, Tryz.ntmps25
  go_upto_region 2 with fail
  rw [HW.out]
  go_wp2_with fail
  refine hG.mono ?_
  rintro e w1 ⟨x, rfl, hd, hc⟩
  have d1 := b1.chg hc (by omega)
  have d2 := b2.chg hc (by omega)
  have i0 := d2.cell 0
  have i1 := d2.cell 1
  have i2 := d2.cell 2
  have z1 := d2.free 1
  have j0 := d1.free 0
  have j1 := d1.free 1
  have j2 := d1.free 2
  have c0 := d1.cell 0
  have c1 := d1.cell 1
  have c2 := d1.cell 2
  go_wp2_with (first | (go_at_call 64; refine (bitsOf_any x _).mono ?_; rintro e w2 ⟨rfl, rfl⟩) | fail)
  have hF := (((d1.chg (chg_set w1 (w.heap.size + 1 + 1) 1 (.int .u64 (x : Int))) (by omega)).set 0 (.int .i64 5)).set 1 (.int .u64 (x : Int))).set 2 (.slice none 0 0)
  have r0 := hF.cell 0
  have r1 := hF.cell 1
  have r2 := hF.cell 2
  have hcs : Chg (fun q => w.heap.size < q) w1 ((((w1.setCell ⟨w.heap.size + 1 + 1, 1, none⟩ (.int .u64 (x : Int))).setCell ⟨w.heap.size + 1, 0, none⟩ (.int .i64 5)).setCell ⟨w.heap.size + 1, 1, none⟩ (.int .u64 (x : Int))).setCell ⟨w.heap.size + 1, 2, none⟩ (.slice none 0 0)) := ((((Chg.refl (fun q => w.heap.size < q) w1).setCell ⟨w.heap.size + 1 + 1, 1, none⟩ (by simp only; omega) _).setCell ⟨w.heap.size + 1, 0, none⟩ (by simp only; omega) _).setCell ⟨w.heap.size + 1, 1, none⟩ (by simp only; omega) _).setCell ⟨w.heap.size + 1, 2, none⟩ (by simp only; omega) _
  refine bodyPost_ret (v := .agg #[.int .i64 5, .int .u64 (x : Int), .slice none 0 0]) (by simp [results, Tryz.results25, go_sem, r0, r1, r2]) rfl ⟨x, rfl, hd.chg hcs (fun q hq => by omega), ?_⟩
  exact ⟨hcs.os.trans (hc.os.trans hB.os), hcs.tape.trans (hc.tape.trans hB.tape), hcs.output.trans (hc.output.trans hB.output), by have := hc.size; have := hcs.size; omega, fun q hq hn => by rw [hcs.block q (by have := hc.size; omega) (by omega), hc.block q (by omega) hn, hB.block q hq]⟩

set_option maxRecDepth 100000 in
set_option maxHeartbeats 2000000 in
theorem get6 (D : Nat) (m : List UInt8) (E : Value) (N : Int) (S : Value) (hS : ∃ a n c, S = .slice a n c) (w : World) (h : DSt D w m E) (hE : E = .nilIface ∨ ∃ t u, E = .iface t u) (hl : m.length ≤ 2147483647) (hg : ErrV w) :
    Calls Tryz.prog 25 #[.pointer (some ⟨D, 0, none⟩), .agg #[.int .i64 6, .int .u64 N, S]] w fun e w' => ∃ x : Nat, e = .returned (.agg #[.int .i64 6, .int .u64 (x : Int), .slice none 0 0]) ∧ DRes D w' E ((decU) m) x ∧ Chg (fun q => q = D) w w' := by
  obtain ⟨sa, sn, sc, rfl⟩ := hS
  obtain ⟨W, hWe, b0, b1, b2, hsz, hB⟩ := get_cells w 6 N (.slice sa sn sc)
  have HW := Lib.hid hWe.symm
  have hG := uvInt_num D m E W (h.low hB) hE hl (hg.low hB)
  have hlt := h.lt
  have e0 := b0.cell 0
  have hcW : Chg (fun q => q = D) w W := (Chg.ofBelow hB).mono' hB
  have hbf := f64bits
  clear hWe
  go_enter Tryz.func25, Tryz.ntmps25
  go_upto_region 2 with fail
  rw [HW.out]
  go_wp2_with fail
  refine hG.mono ?_
  rintro e w1 ⟨x, rfl, hd, hc⟩
  have d1 := b1.chg hc (by omega)
  have d2 := b2.chg hc (by omega)
  have i0 := d2.cell 0
  have i1 := d2.cell 1
  have i2 := d2.cell 2
  have z1 := d2.free 1
  have j0 := d1.free 0
  have j1 := d1.free 1
  have j2 := d1.free 2
  have c0 := d1.cell 0
  have c1 := d1.cell 1
  have c2 := d1.cell 2
  have hx := hd.lt (B := 18446744073709551616) (fun y r h => by have := decU_lt h; omega) (by decide)
  have hw : IntKind.u64.wrap (wrap64 (x : Int)) = (x : Int) := by
    rw [IntKind.wrap_u64]
    exact w64_mod (x : Int) (by omega) (by omega)
  go_wp2_with fail
  have hF := (((d1.chg (chg_set w1 (w.heap.size + 1 + 1) 1 (.int .u64 (x : Int))) (by omega)).set 0 (.int .i64 6)).set 1 (.int .u64 (x : Int))).set 2 (.slice none 0 0)
  have r0 := hF.cell 0
  have r1 := hF.cell 1
  have r2 := hF.cell 2
  have hcs : Chg (fun q => w.heap.size < q) w1 ((((w1.setCell ⟨w.heap.size + 1 + 1, 1, none⟩ (.int .u64 (x : Int))).setCell ⟨w.heap.size + 1, 0, none⟩ (.int .i64 6)).setCell ⟨w.heap.size + 1, 1, none⟩ (.int .u64 (x : Int))).setCell ⟨w.heap.size + 1, 2, none⟩ (.slice none 0 0)) := ((((Chg.refl (fun q => w.heap.size < q) w1).setCell ⟨w.heap.size + 1 + 1, 1, none⟩ (by simp only; omega) _).setCell ⟨w.heap.size + 1, 0, none⟩ (by simp only; omega) _).setCell ⟨w.heap.size + 1, 1, none⟩ (by simp only; omega) _).setCell ⟨w.heap.size + 1, 2, none⟩ (by simp only; omega) _
  refine bodyPost_ret (v := .agg #[.int .i64 6, .int .u64 (x : Int), .slice none 0 0]) (by simp [results, Tryz.results25, go_sem, r0, r1, r2]) rfl ⟨x, rfl, hd.chg hcs (fun q hq => by omega), ?_⟩
  exact ⟨hcs.os.trans (hc.os.trans hB.os), hcs.tape.trans (hc.tape.trans hB.tape), hcs.output.trans (hc.output.trans hB.output), by have := hc.size; have := hcs.size; omega, fun q hq hn => by rw [hcs.block q (by have := hc.size; omega) (by omega), hc.block q (by omega) hn, hB.block q hq]⟩

set_option maxRecDepth 100000 in
set_option maxHeartbeats 2000000 in
theorem get7 (D : Nat) (m : List UInt8) (E : Value) (N : Int) (S : Value) (hS : ∃ a n c, S = .slice a n c) (w : World) (h : DSt D w m E) (hE : E = .nilIface ∨ ∃ t u, E = .iface t u) (hl : m.length ≤ 2147483647) (hg : ErrV w) :
    Calls Tryz.prog 25 #[.pointer (some ⟨D, 0, none⟩), .agg #[.int .i64 7, .int .u64 N, S]] w fun e w' => ∃ x : Nat, e = .returned (.agg #[.int .i64 7, .int .u64 ((x : Int) % 4294967296), .slice none 0 0]) ∧ DRes D w' E ((decU) m) x ∧ Chg (fun q => q = D) w w' := by
  obtain ⟨sa, sn, sc, rfl⟩ := hS
  obtain ⟨W, hWe, b0, b1, b2, hsz, hB⟩ := get_cells w 7 N (.slice sa sn sc)
  have HW := Lib.hid hWe.symm
  have hG := uv32_num D m E W (h.low hB) hE hl (hg.low hB)
  have hlt := h.lt
  have e0 := b0.cell 0
  have hcW : Chg (fun q => q = D) w W := (Chg.ofBelow hB).mono' hB
  have hbf := f64bits
  clear hWe
  go_enter Tryz.func25, Tryz.ntmps25
  go_upto_region 2 with fail
  rw [HW.out]
  go_wp2_with fail
  refine hG.mono ?_
  rintro e w1 ⟨x, rfl, hd, hc⟩
  have d1 := b1.chg hc (by omega)
  have d2 := b2.chg hc (by omega)
  have i0 := d2.cell 0
  have i1 := d2.cell 1
  have i2 := d2.cell 2
  have z1 := d2.free 1
  have j0 := d1.free 0
  have j1 := d1.free 1
  have j2 := d1.free 2
  have c0 := d1.cell 0
  have c1 := d1.cell 1
  have c2 := d1.cell 2
  have hx0 : (0 : Int) ≤ (x : Int) % 4294967296 := by omega
  have hx1 : (x : Int) % 4294967296 < 4294967296 := by omega
  generalize hy : (x : Int) % 4294967296 = y at *
  have HY := Lib.hid hy
  clear hy
  go_wp2_with fail
  have hF := (((d1.chg (chg_set w1 (w.heap.size + 1 + 1) 1 (.int .u64 y)) (by omega)).set 0 (.int .i64 7)).set 1 (.int .u64 y)).set 2 (.slice none 0 0)
  have r0 := hF.cell 0
  have r1 := hF.cell 1
  have r2 := hF.cell 2
  have hcs : Chg (fun q => w.heap.size < q) w1 ((((w1.setCell ⟨w.heap.size + 1 + 1, 1, none⟩ (.int .u64 y)).setCell ⟨w.heap.size + 1, 0, none⟩ (.int .i64 7)).setCell ⟨w.heap.size + 1, 1, none⟩ (.int .u64 y)).setCell ⟨w.heap.size + 1, 2, none⟩ (.slice none 0 0)) := ((((Chg.refl (fun q => w.heap.size < q) w1).setCell ⟨w.heap.size + 1 + 1, 1, none⟩ (by simp only; omega) _).setCell ⟨w.heap.size + 1, 0, none⟩ (by simp only; omega) _).setCell ⟨w.heap.size + 1, 1, none⟩ (by simp only; omega) _).setCell ⟨w.heap.size + 1, 2, none⟩ (by simp only; omega) _
  refine bodyPost_ret (v := .agg #[.int .i64 7, .int .u64 y, .slice none 0 0]) (by simp [results, Tryz.results25, go_sem, r0, r1, r2]) rfl ⟨x, by rw [HY.out], hd.chg hcs (fun q hq => by omega), ?_⟩
  exact ⟨hcs.os.trans (hc.os.trans hB.os), hcs.tape.trans (hc.tape.trans hB.tape), hcs.output.trans (hc.output.trans hB.output), by have := hc.size; have := hcs.size; omega, fun q hq hn => by rw [hcs.block q (by have := hc.size; omega) (by omega), hc.block q (by omega) hn, hB.block q hq]⟩

set_option maxRecDepth 100000 in
set_option maxHeartbeats 2000000 in
theorem get8 (D : Nat) (m : List UInt8) (E : Value) (N : Int) (S : Value) (hS : ∃ a n c, S = .slice a n c) (w : World) (h : DSt D w m E) (hE : E = .nilIface ∨ ∃ t u, E = .iface t u) (hl : m.length ≤ 2147483647) (hg : ErrV w) :
    Calls Tryz.prog 25 #[.pointer (some ⟨D, 0, none⟩), .agg #[.int .i64 8, .int .u64 N, S]] w fun e w' => ∃ x : Nat, e = .returned (.agg #[.int .i64 8, .int .u64 (x : Int), .slice none 0 0]) ∧ DRes D w' E ((decU) m) x ∧ Chg (fun q => q = D) w w' := by
  obtain ⟨sa, sn, sc, rfl⟩ := hS
  obtain ⟨W, hWe, b0, b1, b2, hsz, hB⟩ := get_cells w 8 N (.slice sa sn sc)
  have HW := Lib.hid hWe.symm
  have hG := uv64_num D m E W (h.low hB) hE hl (hg.low hB)
  have hlt := h.lt
  have e0 := b0.cell 0
  have hcW : Chg (fun q => q = D) w W := (Chg.ofBelow hB).mono' hB
  have hbf := f64bits
  clear hWe
  go_enter Tryz.func25, Tryz.ntmps25
  go_upto_region 2 with fail
  rw [HW.out]
  go_wp2_with fail
  refine hG.mono ?_
  rintro e w1 ⟨x, rfl, hd, hc⟩
  have d1 := b1.chg hc (by omega)
  have d2 := b2.chg hc (by omega)
  have i0 := d2.cell 0
  have i1 := d2.cell 1
  have i2 := d2.cell 2
  have z1 := d2.free 1
  have j0 := d1.free 0
  have j1 := d1.free 1
  have j2 := d1.free 2
  have c0 := d1.cell 0
  have c1 := d1.cell 1
  have c2 := d1.cell 2
  go_wp2_with fail
  have hF := (((d1.chg (chg_set w1 (w.heap.size + 1 + 1) 1 (.int .u64 (x : Int))) (by omega)).set 0 (.int .i64 8)).set 1 (.int .u64 (x : Int))).set 2 (.slice none 0 0)
  have r0 := hF.cell 0
  have r1 := hF.cell 1
  have r2 := hF.cell 2
  have hcs : Chg (fun q => w.heap.size < q) w1 ((((w1.setCell ⟨w.heap.size + 1 + 1, 1, none⟩ (.int .u64 (x : Int))).setCell ⟨w.heap.size + 1, 0, none⟩ (.int .i64 8)).setCell ⟨w.heap.size + 1, 1, none⟩ (.int .u64 (x : Int))).setCell ⟨w.heap.size + 1, 2, none⟩ (.slice none 0 0)) := ((((Chg.refl (fun q => w.heap.size < q) w1).setCell ⟨w.heap.size + 1 + 1, 1, none⟩ (by simp only; omega) _).setCell ⟨w.heap.size + 1, 0, none⟩ (by simp only; omega) _).setCell ⟨w.heap.size + 1, 1, none⟩ (by simp only; omega) _).setCell ⟨w.heap.size + 1, 2, none⟩ (by simp only; omega) _
  refine bodyPost_ret (v := .agg #[.int .i64 8, .int .u64 (x : Int), .slice none 0 0]) (by simp [results, Tryz.results25, go_sem, r0, r1, r2]) rfl ⟨x, rfl, hd.chg hcs (fun q hq => by omega), ?_⟩
  exact ⟨hcs.os.trans (hc.os.trans hB.os), hcs.tape.trans (hc.tape.trans hB.tape), hcs.output.trans (hc.output.trans hB.output), by have := hc.size; have := hcs.size; omega, fun q hq hn => by rw [hcs.block q (by have := hc.size; omega) (by omega), hc.block q (by omega) hn, hB.block q hq]⟩

set_option maxRecDepth 100000 in
set_option maxHeartbeats 2000000 in
theorem get9 (D : Nat) (m : List UInt8) (E : Value) (N : Int) (S : Value) (hS : ∃ a n c, S = .slice a n c) (w : World) (h : DSt D w m E) (hE : E = .nilIface ∨ ∃ t u, E = .iface t u) (hl : m.length ≤ 2147483647) (hg : ErrV w) :
    Calls Tryz.prog 25 #[.pointer (some ⟨D, 0, none⟩), .agg #[.int .i64 9, .int .u64 N, S]] w fun e w' => ∃ x : Nat, e = .returned (.agg #[.int .i64 9, .int .u64 (IntKind.u64.wrap (zagI x)), .slice none 0 0]) ∧ DRes D w' E ((decU) m) x ∧ Chg (fun q => q = D) w w' := by
  obtain ⟨sa, sn, sc, rfl⟩ := hS
  obtain ⟨W, hWe, b0, b1, b2, hsz, hB⟩ := get_cells w 9 N (.slice sa sn sc)
  have HW := Lib.hid hWe.symm
  have hG := var64_num D m E W (h.low hB) hE hl (hg.low hB)
  have hlt := h.lt
  have e0 := b0.cell 0
  have hcW : Chg (fun q => q = D) w W := (Chg.ofBelow hB).mono' hB
  have hbf := f64bits
  clear hWe
  go_enter Tryz.func25, Tryz.ntmps25
  go_upto_region 2 with fail
  rw [HW.out]
  go_wp2_with fail
  refine hG.mono ?_
  rintro e w1 ⟨x, rfl, hd, hc⟩
  have d1 := b1.chg hc (by omega)
  have d2 := b2.chg hc (by omega)
  have i0 := d2.cell 0
  have i1 := d2.cell 1
  have i2 := d2.cell 2
  have z1 := d2.free 1
  have j0 := d1.free 0
  have j1 := d1.free 1
  have j2 := d1.free 2
  have c0 := d1.cell 0
  have c1 := d1.cell 1
  have c2 := d1.cell 2
  generalize hy : zagI x = y at *
  have HY := Lib.hid hy
  clear hy
  go_wp2_with fail
  have hF := (((d1.chg (chg_set w1 (w.heap.size + 1 + 1) 1 (.int .u64 (IntKind.u64.wrap y))) (by omega)).set 0 (.int .i64 9)).set 1 (.int .u64 (IntKind.u64.wrap y))).set 2 (.slice none 0 0)
  have r0 := hF.cell 0
  have r1 := hF.cell 1
  have r2 := hF.cell 2
  have hcs : Chg (fun q => w.heap.size < q) w1 ((((w1.setCell ⟨w.heap.size + 1 + 1, 1, none⟩ (.int .u64 (IntKind.u64.wrap y))).setCell ⟨w.heap.size + 1, 0, none⟩ (.int .i64 9)).setCell ⟨w.heap.size + 1, 1, none⟩ (.int .u64 (IntKind.u64.wrap y))).setCell ⟨w.heap.size + 1, 2, none⟩ (.slice none 0 0)) := ((((Chg.refl (fun q => w.heap.size < q) w1).setCell ⟨w.heap.size + 1 + 1, 1, none⟩ (by simp only; omega) _).setCell ⟨w.heap.size + 1, 0, none⟩ (by simp only; omega) _).setCell ⟨w.heap.size + 1, 1, none⟩ (by simp only; omega) _).setCell ⟨w.heap.size + 1, 2, none⟩ (by simp only; omega) _
  refine bodyPost_ret (v := .agg #[.int .i64 9, .int .u64 (IntKind.u64.wrap y), .slice none 0 0]) (by simp [results, Tryz.results25, go_sem, r0, r1, r2]) rfl ⟨x, by rw [HY.out], hd.chg hcs (fun q hq => by omega), ?_⟩
  exact ⟨hcs.os.trans (hc.os.trans hB.os), hcs.tape.trans (hc.tape.trans hB.tape), hcs.output.trans (hc.output.trans hB.output), by have := hc.size; have := hcs.size; omega, fun q hq hn => by rw [hcs.block q (by have := hc.size; omega) (by omega), hc.block q (by omega) hn, hB.block q hq]⟩
end Go.Proofs.YtkbkggamfkadnaaGreatDoor
