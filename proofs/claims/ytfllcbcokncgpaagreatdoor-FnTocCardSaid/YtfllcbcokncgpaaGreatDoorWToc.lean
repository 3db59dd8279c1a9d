/-
  FnToc: the walk of the law.
-/
import Derived.Test.YtfllcbcokncgpaaGreatDoorReadToc
import Derived.Test.YtfllcbcokncgpaaGreatDoorAwake
import Derived.ChangeKeysEq
namespace Go.Proofs.YtfllcbcokncgpaaGreatDoor
set_option linter.unusedSimpArgs false
set_option linter.unusedVariables false
open Go.RowKit

set_option maxRecDepth 100000 in
theorem eq6 (a0 a1 a2 a3 a4 a5 : Int) (w : World) : (binOp .eql T6 (.agg #[.int .u64 a0, .int .u64 a1, .int .u64 a2, .int .u64 a3, .int .u64 a4, .int .u64 a5]) (.agg #[.int .u64 a0, .int .u64 a1, .int .u64 a2, .int .u64 a3, .int .u64 a4, .int .u64 a5])).run Tryz.prog w = .ok (.bool true) w := by
  have hu : Tryz.prog.underlying T6 = some (.array 6 28) := by kernel_rfl
  have hv : Tryz.prog.underlying 28 = some (.int .u64) := by kernel_rfl
  have hc : Tryz.prog.cellsOf 28 = 1 := by kernel_rfl
  obtain ⟨i0, hi, hz0, hz1, hz2⟩ := info_parts infoU64
  have hq : ∀ a : Int, (Op.equalIn 9999 28 (.int .u64 a) (.int .u64 a)).run Tryz.prog w = .ok true w := fun a => by
    have := run_equalIn_int (P := Tryz.prog) (w := w) 9998 28 .u64 .u64 a a hv
    rw [this]
    simp
  have p0 : (part 28 #[.int .u64 a0, .int .u64 a1, .int .u64 a2, .int .u64 a3, .int .u64 a4, .int .u64 a5] (0 * 1)).run Tryz.prog w = .ok (.int .u64 a0) w := by kernel_rfl
  have p1 : (part 28 #[.int .u64 a0, .int .u64 a1, .int .u64 a2, .int .u64 a3, .int .u64 a4, .int .u64 a5] (1 * 1)).run Tryz.prog w = .ok (.int .u64 a1) w := by kernel_rfl
  have p2 : (part 28 #[.int .u64 a0, .int .u64 a1, .int .u64 a2, .int .u64 a3, .int .u64 a4, .int .u64 a5] (2 * 1)).run Tryz.prog w = .ok (.int .u64 a2) w := by kernel_rfl
  have p3 : (part 28 #[.int .u64 a0, .int .u64 a1, .int .u64 a2, .int .u64 a3, .int .u64 a4, .int .u64 a5] (3 * 1)).run Tryz.prog w = .ok (.int .u64 a3) w := by kernel_rfl
  have p4 : (part 28 #[.int .u64 a0, .int .u64 a1, .int .u64 a2, .int .u64 a3, .int .u64 a4, .int .u64 a5] (4 * 1)).run Tryz.prog w = .ok (.int .u64 a4) w := by kernel_rfl
  have p5 : (part 28 #[.int .u64 a0, .int .u64 a1, .int .u64 a2, .int .u64 a3, .int .u64 a4, .int .u64 a5] (5 * 1)).run Tryz.prog w = .ok (.int .u64 a5) w := by kernel_rfl
  unfold binOp
  simp only [Sem.run_bind, Sem.run_pure]
  have hm : (Op.equal T6 (.agg #[.int .u64 a0, .int .u64 a1, .int .u64 a2, .int .u64 a3, .int .u64 a4, .int .u64 a5]) (.agg #[.int .u64 a0, .int .u64 a1, .int .u64 a2, .int .u64 a3, .int .u64 a4, .int .u64 a5])).run Tryz.prog w = .ok true w := by
    show (Op.equalIn (9999 + 1) T6 (.agg #[.int .u64 a0, .int .u64 a1, .int .u64 a2, .int .u64 a3, .int .u64 a4, .int .u64 a5]) (.agg #[.int .u64 a0, .int .u64 a1, .int .u64 a2, .int .u64 a3, .int .u64 a4, .int .u64 a5])).run Tryz.prog w = .ok true w
    rw [run_equalIn_array w 9999 _ _ hu hi, hc]
    simp [Op.eqItems, List.range, List.range.loop, p0, p1, p2, p3, p4, p5, hq]
  rw [hm]
  rfl


set_option maxRecDepth 100000 in
set_option maxHeartbeats 4000000 in
theorem wToc (v : Value) (m : List UInt8) (w : World) (h : Bytes w v m) (hE : ∃ t u, w.cell? ⟨EG, 0, none⟩ = some (.iface t u)) :
    Calls Tryz.prog 9 #[v] w fun e w' => e = .returned (.bool true) ∧ Below w.heap.size w w' := by
  obtain ⟨t, u, hE⟩ := hE
  have hEl := cell_lt hE
  by_cases c1 : 2147483647 < m.length
  · obtain ⟨ao, cap, rfl, h1, h2⟩ := h.form
    have c1' : (2147483647 : Int) < (m.length : Int) := by omega
    go_enter Tryz.func9, Tryz.ntmps9
    go_wp2_with fail
    go_ret
    exact ⟨rfl, Below.refl _ _⟩
  by_cases c2 : 2000 < m.length
  · obtain ⟨ao, cap, rfl, h1, h2⟩ := h.form
    have c2' : (2000 : Int) < (m.length : Int) := by omega
    go_enter Tryz.func9, Tryz.ntmps9
    go_wp2_with (first | (go_at_call 12; refine (awake_any _).mono ?_; rintro e w1 ⟨rfl, hb1⟩) | fail)
    go_ret
    exact ⟨rfl, hb1⟩
  have c2' : ¬ (2000 : Int) < (m.length : Int) := by omega
  by_cases hq : ∃ s, m.length = s + 52 ∧ Lib.beNat ((m.drop s).drop 48) = crcOf ((m.drop s).take 48)
  · obtain ⟨s, hm, hq⟩ := hq
    have hR := fun W (hB : Bytes W v m) => readToc_ok v m s W hB hm (by omega) hq
    have hT := fun W (hB : Bytes W v m) => toc_ok v m s W hB hm (by omega) hq
    obtain ⟨ao, cap, rfl, h1, h2⟩ := h.form
    clear hm hq h1
    generalize m.drop s = T at *
    have hR1 := hR w h
    have heq := eq6 (tocN T 0) (tocN T 1) (tocN T 2) (tocN T 3) (tocN T 4) (tocN T 5)
    generalize m.length = n at *
    go_enter Tryz.func9, Tryz.ntmps9
    go_wp2_with (first
      | (go_at_call 27; refine hR1.mono ?_; rintro e w1 ⟨rfl, hb1⟩; have ha1 := below_new w1 (.cells (tocCells T).toArray T6))
      | (go_at_call 28; refine (hT _ ((h.up hb1).up ha1)).mono ?_; rintro e w2 ⟨rfl, hb2⟩; have ha2 := below_new w2 (.cells (tocCells T).toArray T6))
      | (go_at_call 12; refine (awake_any _).mono ?_; rintro e w3 ⟨rfl, hb3⟩; have B3 := (((Blk.new w1 (tocCells T) T6).chg (Chg.ofBelow hb2) (by simp)).alloc (.cells (tocCells T).toArray T6)).chg (Chg.ofBelow hb3) (by have := hb2.size; simp at this ⊢; omega); have B5 := (Blk.new w2 (tocCells T) T6).chg (Chg.ofBelow hb3) (by simp); have r0 := B3.cell 0; have k0 := B5.cell 0; have r1 := B3.cell 1; have k1 := B5.cell 1; have r2 := B3.cell 2; have k2 := B5.cell 2; have r3 := B3.cell 3; have k3 := B5.cell 3; have r4 := B3.cell 4; have k4 := B5.cell 4; have r5 := B3.cell 5; have k5 := B5.cell 5; have hq3 := heq w3)
      | fail)
    go_ret
    exact ⟨rfl, bnx (bnx (bnx (bnx hb1 ha1) hb2) ha2) hb3⟩
  · have hno : m.length < 52 ∨ ∃ s, m.length = s + 52 ∧ ¬ Lib.beNat ((m.drop s).drop 48) = crcOf ((m.drop s).take 48) := by
      by_cases h52 : m.length < 52
      · exact .inl h52
      · exact .inr ⟨m.length - 52, by omega, fun hh => hq ⟨m.length - 52, by omega, hh⟩⟩
    have hR1 : Calls Tryz.prog 27 #[v] w fun e w' => e = .returned (.tuple #[.agg zero6.toArray, .bool false]) ∧ Below w.heap.size w w' := by
      rcases hno with hno | ⟨s, hm, hno⟩
      · exact readToc_short v m w h hno
      · exact readToc_sum v m s w h hm (by omega) hno
    have hT := fun W (hB : Bytes W v m) (hEW : W.cell? ⟨EG, 0, none⟩ = some (.iface t u)) => toc_bad v m W t u hEW hB (by omega) hno
    obtain ⟨ao, cap, rfl, h1, h2⟩ := h.form
    clear hno hq h1
    generalize m.length = n at *
    go_enter Tryz.func9, Tryz.ntmps9
    go_wp2_with (first
      | (go_at_call 27; refine hR1.mono ?_; rintro e w1 ⟨rfl, hb1⟩; have ha1 := below_new w1 (.cells zero6.toArray T6); have hb2 := bnx hb1 ha1)
      | (go_at_call 28; refine (hT _ (h.up hb2) ((hb2.cell (p := ⟨EG, 0, none⟩) hEl).trans hE)).mono ?_; rintro e w2 ⟨rfl, hb3⟩; have ha2 := below_new w2 (.cells zero6.toArray T6))
      | (go_at_call 12; refine (awake_any _).mono ?_; rintro e w3 ⟨rfl, hb4⟩)
      | fail)
    go_ret
    exact ⟨rfl, bnx (bnx (bnx hb2 hb3) ha2) hb4⟩
end Go.Proofs.YtfllcbcokncgpaaGreatDoor
