/-
  The scratch builder: New, Reset, Overwrite.
-/
import Derived.Test.YtapoodnjkkhggaaScr
namespace Go.Proofs.Ytapoodnjkkhggaa
set_option linter.unusedSimpArgs false
set_option linter.unusedVariables false
open Go.RowKit

theorem made_lb (w : World) : (Instr.makeSlice 57 (.int .i64 0) (.int .i64 0)).run Try.prog w = .ok (.slice (some ⟨w.heap.size, 0, none⟩) 0 0) (w.alloc (.cells (madeCells #[.string ⟨#[]⟩, .string ⟨#[]⟩] 0) LT)) := by
  obtain ⟨i0, hi, hz0, hz1, hz2⟩ := info_parts infoLb
  have := run_make (P := Try.prog) w 57 LT i0 _ Try.underlying57 hi hz0 .i64 .i64 0 0 (by omega) (by omega) (by rw [hz2]; omega) (by omega)
  rw [hz1] at this
  exact this
set_option maxRecDepth 100000 in
theorem newScr_any (w : World) : Calls Try.prog 32 #[.int .i64 0] w fun e w' => ∃ v, e = .returned (.agg #[v, .string ⟨#[]⟩, .slice none 0 0]) ∧ w'.ownsRow w.heap.size LT 2 v 0 [] ∧ Below w.heap.size w w' := by
  have hmk := made_lb
  have hR := (Blk.new w [.slice (some ⟨w.heap.size + 1, 0, none⟩) 0 0, .string ⟨#[]⟩, .slice none 0 0] SBT).alloc (.cells (madeCells #[.string ⟨#[]⟩, .string ⟨#[]⟩] 0) LT)
  have hO : ((w.alloc (.cells #[.slice (some ⟨w.heap.size + 1, 0, none⟩) 0 0, .string ⟨#[]⟩, .slice none 0 0] SBT)).alloc (.cells (madeCells #[.string ⟨#[]⟩, .string ⟨#[]⟩] 0) LT)).ownsRow w.heap.size LT 2 (.slice (some ⟨w.heap.size + 1, 0, none⟩) 0 0) 0 [] := by
    have := World.ownsRow_made (w := w.alloc (.cells #[.slice (some ⟨w.heap.size + 1, 0, none⟩) 0 0, .string ⟨#[]⟩, .slice none 0 0] SBT)) (base := w.heap.size) (e := LT) (size := 2) (madeCells #[.string ⟨#[]⟩, .string ⟨#[]⟩] 0) 0 (by simp) (by decide) (by simp [madeCells])
    rw [show (w.alloc (.cells #[.slice (some ⟨w.heap.size + 1, 0, none⟩) 0 0, .string ⟨#[]⟩, .slice none 0 0] SBT)).heap.size = w.heap.size + 1 from by simp] at this
    exact this
  have hb := (below_new w (.cells #[.slice (some ⟨w.heap.size + 1, 0, none⟩) 0 0, .string ⟨#[]⟩, .slice none 0 0] SBT)).alloc (by simp) (.cells (madeCells #[.string ⟨#[]⟩, .string ⟨#[]⟩] 0) LT)
  have c0 := hR.cell 0
  have c1 := hR.cell 1
  have c2 := hR.cell 2
  simp only [List.getElem?_cons_zero, List.getElem?_cons_succ] at c0 c1 c2
  have HC := Lib.hid c0
  have HC1 := Lib.hid c1
  have HC2 := Lib.hid c2
  clear c0 c1 c2
  go_enter Try.func32, Try.ntmps32
  go_wp2_with fail
  have c0 := HC.out
  have c1 := HC1.out
  have c2 := HC2.out
  exact bodyPost_ret (v := .agg #[.slice (some ⟨w.heap.size + 1, 0, none⟩) 0 0, .string ⟨#[]⟩, .slice none 0 0]) (by simp [results, Try.results32, go_sem, c0, c1, c2]) rfl ⟨_, rfl, hO, hb⟩
/-- Reset -/
theorem scrReset_any (S base : Nat) (l : List Lb) (out : ByteArray) (w : World) (h : Scr w S base l out) :
    Calls Try.prog 42 #[.pointer (some ⟨S, 0, none⟩)] w fun e w' => e = .returned (.tuple #[]) ∧ Scr w' S base [] ⟨#[]⟩ ∧ Chg (fun q => q = S) w w' := by
  obtain ⟨sv, hB, hO, hbw⟩ := h
  have hne := scr_ne hB hO
  obtain ⟨hlen, hO'⟩ := hO
  rcases hO' with ⟨rfl, hn⟩ | ⟨g, cap, cur, rfl, hg, hk, hcap, hmax, hsz, htk⟩
  · have HB := Lib.hid hB
    have c0 := hB.cell 0
    have z0 := hB.free 0
    have q1 := hB.set 0 (.slice none 0 0)
    have z1 := q1.free 1
    simp only [List.getElem?_cons_zero, List.set_cons_zero] at c0 q1
    go_enter Try.func42, Try.ntmps42
    go_wp2_with fail
    refine (emptyLabels_any _).mono ?_
    rintro e w1 ⟨rfl, hb1⟩
    have q2 := q1.chg (Chg.ofBelow hb1) (fun c => absurd (Nat.lt_of_lt_of_le q1.lt c) (Nat.lt_irrefl _))
    have z2 := q2.free 1
    have d2 := q2.cell 1
    simp only [List.getElem?_cons_zero, List.getElem?_cons_succ] at d2
    have q3 := q2.set 1 (.string ⟨#[]⟩)
    have hc := (((Chg.refl (fun q => q = S) w).setCell ⟨S, 0, none⟩ rfl (.slice none 0 0)).calls hb1).setCell ⟨S, 1, none⟩ rfl (.string ⟨#[]⟩)
    go_wp2_with fail
    go_end0
    exact ⟨rfl, ⟨_, q3, World.ownsRow_nil _ _ _ _, Nat.le_trans hbw hc.size⟩, hc⟩
  · have hgS := hne g rfl
    have c0 := hB.cell 0
    have z0 := hB.free 0
    have q1 := hB.set 0 (.slice (some ⟨g, 0, none⟩) 0 cap)
    have z1 := q1.free 1
    simp only [List.getElem?_cons_zero, List.set_cons_zero] at c0 q1
    have hO1 : w.ownsRow base LT 2 (.slice (some ⟨g, 0, none⟩) 0 cap) 0 [] := ⟨by simp, .inr ⟨g, cap, cur, rfl, hg, hk, Nat.zero_le _, hmax, hsz, by simp⟩⟩
    go_enter Try.func42, Try.ntmps42
    go_wp2_with fail
    refine (emptyLabels_any _).mono ?_
    rintro e w1 ⟨rfl, hb1⟩
    have q2 := q1.chg (Chg.ofBelow hb1) (fun c => absurd (Nat.lt_of_lt_of_le q1.lt c) (Nat.lt_irrefl _))
    have z2 := q2.free 1
    have d2 := q2.cell 1
    simp only [List.getElem?_cons_zero, List.getElem?_cons_succ] at d2
    have q3 := q2.set 1 (.string ⟨#[]⟩)
    have hc := (((Chg.refl (fun q => q = S) w).setCell ⟨S, 0, none⟩ rfl (.slice (some ⟨g, 0, none⟩) 0 cap)).calls hb1).setCell ⟨S, 1, none⟩ rfl (.string ⟨#[]⟩)
    go_wp2_with fail
    go_end0
    exact ⟨rfl, ⟨_, q3, own_chg hO1 hc (fun k _ ho c => by cases ho; exact hgS c), Nat.le_trans hbw hc.size⟩, hc⟩
end Go.Proofs.Ytapoodnjkkhggaa
