/-
  The scratch builder: Overwrite.
-/
import Derived.Test.YtapoodnjkkhggaaScr2
import Derived.BigQuiet
namespace Go.Proofs.Ytapoodnjkkhggaa
set_option linter.unusedSimpArgs false
set_option linter.unusedVariables false
open Go.RowKit

set_option maxRecDepth 100000 in
theorem marshal0_any (va vb : Option Addr) (vc vd : Nat) (w : World) : Calls Try.prog 56 #[.slice va 0 vc, .slice vb 0 vd] w fun e w' => e = .returned (.int .i64 0) ∧ w = w' := by
  go_enter Try.func56, Try.ntmps56
  go_wp2_with fail
  refine wp_loop_rounds 1 ?_
  rw [rounds_succ]
  go_wp2_with fail
  go_ret
  exact ⟨rfl, rfl⟩
theorem convE0 (w : World) : (convert 58 9 (.slice none 0 0)).run Try.prog w = .ok (.string ⟨#[]⟩) w := by
  rw [run_convert_bytes_string w 58 9 5 _ 0 0 Try.underlying58 Try.underlying5 Try.underlying9]
  simp [Conv.bytesToString, loadCells]
  all_goals rfl
theorem yolo0_any (w : World) : Calls Try.prog 57 #[.slice none 0 0] w fun e w' => e = .returned (.string ⟨#[]⟩) ∧ w = w' := by
  have hc := convE0
  go_enter Try.func57, Try.ntmps57
  go_wp2_with fail
  go_ret
  exact ⟨rfl, rfl⟩
set_option maxRecDepth 100000 in
set_option maxHeartbeats 4000000 in
theorem scrOver_any (S base L : Nat) (l : List Lb) (out x : ByteArray) (w : World) (h : Scr w S base l out) (hL : Blk w L [.string x] LST) (hl : l.length ≤ 12) (hf : FitL l) :
    Calls Try.prog 43 #[.pointer (some ⟨S, 0, none⟩), .pointer (some ⟨L, 0, none⟩)] w fun e w' => e = .returned (.tuple #[]) ∧ Blk w' L [.string ⟨(encL l).toArray⟩] LST ∧ Chg (fun q => q = S ∨ q = L) w w' := by
  obtain ⟨sv, hB, hO, hbw⟩ := h
  have hne := scr_ne hB hO
  have hLS : L ≠ S := by
    rintro rfl
    have h1 : w.heap[L]? = _ := hB
    have h2 : w.heap[L]? = _ := hL
    rw [h1] at h2
    exact absurd h2 (by simp)
  have hlt := hB.lt
  have hLlt := hL.lt
  have hown : ∀ g, sv.ownBlock = some g → base ≤ g ∧ g < w.heap.size := fun g hg => hO.lt g hg
  obtain ⟨va, vc, rfl⟩ := own_form hO
  have c0 := hB.cell 0
  have c2 := hB.cell 2
  have z2 := hB.free 2
  simp only [List.getElem?_cons_zero, List.getElem?_cons_succ] at c0 c2
  have hbn := lbsN_le hf
  have hE := encL_length l
  have hL1 : Ls w _ l := Ls.own hO
  have hZ := labelsSize_any _ _ _ hL1 hf (by omega)
  by_cases hl0 : l = []
  · subst hl0
    rw [show lbsN ([] : List Lb) = 0 from rfl] at hZ
    simp only [List.length_nil, Int.ofNat_zero, Int.natCast_zero] at *
    go_enter Try.func43, Try.ntmps43
    go_wp2_with fail
    refine hZ.mono ?_
    rintro e w2 ⟨rfl, hb2⟩
    have q2 := hB.chg (Chg.ofBelow hb2) (fun c => absurd (Nat.lt_of_lt_of_le hB.lt c) (Nat.lt_irrefl _))
    have k2 := hL.chg (Chg.ofBelow hb2) (fun c => absurd (Nat.lt_of_lt_of_le hL.lt c) (Nat.lt_irrefl _))
    have d2 := q2.cell 2
    have zz2 := q2.free 2
    have q3 := q2.set 2 (.slice none 0 0)
    have e0 := q3.cell 0
    have e2 := q3.cell 2
    have k3 := k2.chg (chg_set w2 S 2 (.slice none 0 0)) hLS
    simp only [List.getElem?_cons_zero, List.getElem?_cons_succ, List.set_cons_zero, List.set_cons_succ] at d2 e0 e2
    have f0 := k3.cell 0
    have zf0 := k3.free 0
    simp only [List.getElem?_cons_zero] at f0
    have k4 := k3.set 0 (.string ⟨#[]⟩)
    have hc := ((((Chg.refl (fun q => q = S ∨ q = L) w).calls hb2).setCell ⟨S, 2, none⟩ (.inl rfl) (.slice none 0 0))).setCell ⟨L, 0, none⟩ (.inr rfl) (.string ⟨#[]⟩)
    go_wp2_with fail
    go_region_held3 (fun w' => w'.cell? ⟨S, 0, none⟩ = some (.slice va 0 vc) ∧ w'.cell? ⟨S, 2, none⟩ = some (.slice none 0 0)) (first | exact ⟨e0, e2⟩ | fail) (first | ((with_reducible refine (marshal0_any _ _ _ _ _).mono ?_); rintro e w3 ⟨rfl, rfl⟩) | fail)
    go_wp2_with (first | ((with_reducible refine (yolo0_any _).mono ?_); rintro e w4 ⟨rfl, rfl⟩) | fail)
    go_end0
    exact ⟨rfl, k4, hc.drew⟩
  · have hN : 0 < lbsN l := by
      have : (encL l).length ≠ 0 := fun c => hl0 (encL_nil_iff.1 c)
      omega
    have hNle : lbsN l ≤ 1073741824 := by omega
    have hle : decide ((lbsN l : Int) ≤ 0) = false := decide_eq_false (by omega)
    have HM := fun (w2 : World) (hL2 : Ls w2 (.slice va l.length vc) l) (hvg : ∀ a m c, Value.slice va l.length vc = .slice (some a) m c → a.block ≠ w2.heap.size) => marshals_any (.slice va l.length vc) l w2.heap.size (lbsN l) (lbsN l) [] (List.replicate (lbsN l) (.int .u8 0)) []
    have hmk := fun w2 => made_u8 w2 (lbsN l) (lbsN l) (Nat.le_refl _) hNle
    clear HM
    have hMs := fun (w3 : World) (g : Nat) (h3 : Ls w3 (.slice va l.length vc) l) (hvg : ∀ a m c, Value.slice va l.length vc = .slice (some a) m c → a.block ≠ g) (hB3 : Blk w3 g ([] ++ (List.replicate (lbsN l) (.int .u8 0) ++ [])) UT) => marshals_any (.slice va l.length vc) l g (lbsN l) (lbsN l) [] (List.replicate (lbsN l) (.int .u8 0)) [] w3 h3 hvg hf hl hB3 rfl rfl (by simp) (Nat.le_refl _)
    have hy := fun (g : Nat) (w4 : World) (hB4 : Blk w4 g ((encL l).map u8v ++ []) UT) => yolo_any g (lbsN l) (lbsN l) (encL l) [] w4 hB4 hE.symm
    generalize lbsN l = N at *
    go_enter Try.func43, Try.ntmps43
    go_wp2_with fail
    refine hZ.mono ?_
    rintro e w2 ⟨rfl, hb2⟩
    have q2 := hB.chg (Chg.ofBelow hb2) (fun c => absurd (Nat.lt_of_lt_of_le hB.lt c) (Nat.lt_irrefl _))
    have k2 := hL.chg (Chg.ofBelow hb2) (fun c => absurd (Nat.lt_of_lt_of_le hL.lt c) (Nat.lt_irrefl _))
    have hsz := hb2.size
    have hvg : ∀ a m c, Value.slice va l.length vc = .slice (some a) m c → a.block ≠ w2.heap.size := fun a m c e h => by
      cases e
      have := (hown a.block rfl).2
      omega
    have hbm := below_new w2 (.cells (madeCells #[.int .u8 0] N) UT)
    have hBm := blk_made w2 N
    have q3 := q2.alloc (.cells (madeCells #[.int .u8 0] N) UT)
    have k3 := k2.alloc (.cells (madeCells #[.int .u8 0] N) UT)
    have hO3 := own_alloc (own_below hO hb2 (fun g hg => (hO.lt g hg).2)) (.cells (madeCells #[.int .u8 0] N) UT)
    have hc3 := ((Chg.refl (fun q => q = S ∨ q = L) w).calls hb2).alloc (.cells (madeCells #[.int .u8 0] N) UT)
    have d2 := q2.cell 2
    have zz2 := q3.free 2
    have d3 := q3.cell 2
    have q4 := q3.set 2 (.slice (some ⟨w2.heap.size, 0, none⟩) N N)
    have hcS := chg_set (w2.alloc (.cells (madeCells #[.int .u8 0] N) UT)) S 2 (.slice (some ⟨w2.heap.size, 0, none⟩) N N)
    have hB4 := hBm.chg hcS (by omega)
    have k4 := k3.chg hcS hLS
    have hO4 := own_chg hO3 hcS (fun g _ ho c => hne g ho c)
    have hc4 := hc3.setCell ⟨S, 2, none⟩ (.inl rfl) (.slice (some ⟨w2.heap.size, 0, none⟩) N N)
    have hsz4 : w2.heap.size < ((w2.alloc (.cells (madeCells #[.int .u8 0] N) UT)).setCell ⟨S, 2, none⟩ (.slice (some ⟨w2.heap.size, 0, none⟩) N N)).heap.size := hB4.lt
    have e0 := q4.cell 0
    have e2 := q4.cell 2
    have hM4 := hMs _ _ (Ls.own (own_drew hO4)) hvg (by rw [List.nil_append, List.append_nil]; exact hB4.drew)
    simp only [List.getElem?_cons_zero, List.getElem?_cons_succ, List.set_cons_zero, List.set_cons_succ] at d2 d3 e0 e2
    clear hMs hZ hBm hO3 hO hO4 q2 q3 hcS hc3 hbm k3 k2
    go_wp2_with fail
    generalize hW4 : (w2.alloc (.cells (madeCells #[.int .u8 0] N) UT)).setCell ⟨S, 2, none⟩ (.slice (some ⟨w2.heap.size, 0, none⟩) N N) = W4 at *
    go_region_held3 (fun w' => w'.cell? ⟨S, 0, none⟩ = some (.slice va l.length vc) ∧ w'.cell? ⟨S, 2, none⟩ = some (.slice (some ⟨w2.heap.size, 0, none⟩) N N)) (first | exact ⟨e0, e2⟩ | exact ⟨g0, g2⟩ | fail) (first | ((with_reducible refine hM4.mono ?_); rintro e w5 ⟨rfl, hB5, hc5⟩; have q5 := q4.drew.chg hc5 (by omega); have g0 := q5.cell 0; have g2 := q5.cell 2; simp only [List.getElem?_cons_zero, List.getElem?_cons_succ, List.set_cons_zero, List.set_cons_succ] at g0 g2) | fail)
    have k5 := k4.drew.chg hc5 (by omega)
    have hc6 : Chg (fun q => q = S ∨ q = L) w w5 := Chg.low ((hc4.drew.mono (fun q hq => .inl hq)).trans (hc5.mono (fun q hq => .inr (by omega))))
    have f0 := k5.cell 0
    have zf0 := k5.free 0
    simp only [List.getElem?_cons_zero] at f0
    have k6 := k5.set 0 (.string ⟨(encL l).toArray⟩)
    have hc7 := hc6.setCell ⟨L, 0, none⟩ (.inr rfl) (.string ⟨(encL l).toArray⟩)
    have hy5 := hy _ _ hB5
    clear hy
    go_wp2_with (first | ((with_reducible refine hy5.mono ?_); rintro e w6 ⟨rfl, rfl⟩) | fail)
    go_end0
    exact ⟨rfl, k6, hc7⟩
end Go.Proofs.Ytapoodnjkkhggaa
