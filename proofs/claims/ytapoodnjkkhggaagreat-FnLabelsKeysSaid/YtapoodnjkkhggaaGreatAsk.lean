/-
  impl.LabelsAsk, impl.LabelsCompare.
-/
import Derived.Test.YtapoodnjkkhggaaGreatGet
import Derived.Test.YtapoodnjkkhggaaGreatCmpW
import Derived.Test.YtapoodnjkkhggaaGreatSafe2
import Derived.Deep.RegionHeld3
import Derived.Deep.Cut
namespace Go.Proofs.YtapoodnjkkhggaaGreat
set_option linter.unusedSimpArgs false
set_option linter.unusedVariables false
open Go.RowKit

abbrev ST : TypeId := 9
abbrev BT : TypeId := 4
/-- labels whose names rise and are not empty -/
structure Lbl (l : List Lb) : Prop where
  asc : Asc l
  name : ∀ x ∈ l, x.1.size ≠ 0
  fit : FitL l
  enc : (encL l).length ≤ 1073741824
  len : l.length ≤ 1000000
theorem Right.lbl {most bytes : Nat} {l : List Lb} (h : Right most bytes l) (hm : most ≤ 12) (hb : bytes ≤ 600) : Lbl (sortL l) := by
  have hf := (h.fit (by omega)).sort
  have hl : (sortL l).length ≤ 12 := by rw [sortL_length]; have := h.1; omega
  refine ⟨sortL_asc h.2.2, fun x hx => (h.2.1 x ((sortL_perm l).subset hx)).1, hf, ?_, by omega⟩
  rw [encL_length]
  have := lbsN_le hf
  omega
set_option maxRecDepth 100000 in
set_option maxHeartbeats 4000000 in
theorem ask1_any (A : Nat) (v : Value) (l : List Lb) (n : ByteArray) (w : World) (hv : Ls w v l) (h0 : Blk w A [v] ILS) (h1 : Blk w (A + 1) [.string n] ST) (h2 : Blk w (A + 2) [.string ⟨#[]⟩] ST) (h3 : Blk w (A + 3) [.bool false] BT) (hl : l.length ≤ 12) (hf : FitL l) (hL : Lbl (sortL l)) :
    Calls Tryz.prog 81 #[.pointer (some ⟨A, 0, none⟩), .pointer (some ⟨A + 1, 0, none⟩), .pointer (some ⟨A + 2, 0, none⟩), .pointer (some ⟨A + 3, 0, none⟩)] w fun e w' => e = .returned (.tuple #[]) ∧ (Blk w' (A + 2) [.string ((look (sortL l) n).getD ⟨#[]⟩)] ST ∧ Blk w' (A + 3) [.bool (look (sortL l) n).isSome] BT) ∧ Chg (fun q => q = A + 2 ∨ q = A + 3) w w' := by
  have hM := made_any v l w hv hl hf
  have hG := fun w => get_any (sortL l) n w hL.asc hL.name hL.fit hL.enc hL.len
  have hH := fun w => has_any (sortL l) n w hL.asc hL.name hL.fit hL.enc hL.len
  obtain ⟨ao, cap, rfl, q1, q2⟩ := hv.form
  have d0 := h0.cell 0
  simp only [List.getElem?_cons_zero] at d0
  have l0 := h0.lt
  have l1 := h1.lt
  have l2 := h2.lt
  have l3 := h3.lt
  unfold lbsV at *
  generalize (⟨(encL (sortL l)).toArray⟩ : ByteArray) = d at *
  generalize (look (sortL l) n).getD ⟨#[]⟩ = val at *
  generalize (look (sortL l) n).isSome = has at *
  go_enter Tryz.func81, Tryz.ntmps81
  go_wp2_with ((with_reducible refine hM.mono ?_); rintro e w1 ⟨rfl, hb1⟩)
  have hX := Blk.new w1 [.string d] LST
  have e1 := (h1.chg (Chg.ofBelow hb1) (fun c => by omega)).alloc (.cells #[.string d] LST)
  have e2 := (h2.chg (Chg.ofBelow hb1) (fun c => by omega)).alloc (.cells #[.string d] LST)
  have e3 := (h3.chg (Chg.ofBelow hb1) (fun c => by omega)).alloc (.cells #[.string d] LST)
  have hz1 := hb1.size
  have hc1 : Chg (fun q => q = A + 2 ∨ q = A + 3) w (w1.alloc (.cells #[.string d] LST)) := ((Chg.refl _ w).calls hb1).alloc _
  have hS0 : (w1.alloc (.cells #[.string d] LST)).drew.cell? ⟨w1.heap.size, 0, none⟩ = some (.string d) ∧ (w1.alloc (.cells #[.string d] LST)).drew.cell? ⟨A + 1, 0, none⟩ = some (.string n) := ⟨hX.cell 0, e1.cell 0⟩
  generalize hWW : w1.alloc (.cells #[.string d] LST) = W at *
  have hXW : w1.heap.size < W.heap.size := hX.lt
  clear hWW hM h0 h1 h2 h3 hb1 d0
  go_region_held3 (fun w' => w'.cell? ⟨w1.heap.size, 0, none⟩ = some (.string d) ∧ w'.cell? ⟨A + 1, 0, none⟩ = some (.string n)) (first | (with_reducible exact hS0) | (with_reducible exact hS2) | (with_reducible exact hS3) | (with_reducible exact hS4) | (with_reducible exact hS5) | fail) (first
    | ((with_reducible refine (hG _).mono ?_); rintro e w2 ⟨rfl, hb2⟩; have hS2 : w2.cell? ⟨w1.heap.size, 0, none⟩ = some (.string d) ∧ w2.cell? ⟨A + 1, 0, none⟩ = some (.string n) := ⟨(hb2.cell (lt_of_cell hS0.1).1).trans hS0.1, (hb2.cell (lt_of_cell hS0.2).1).trans hS0.2⟩)
    | ((with_reducible refine (hH _).mono ?_); rintro e w3 ⟨rfl, hb3⟩; have hS3 : w3.cell? ⟨w1.heap.size, 0, none⟩ = some (.string d) ∧ w3.cell? ⟨A + 1, 0, none⟩ = some (.string n) := ⟨(hb3.cell (lt_of_cell hS2.1).1).trans hS2.1, (hb3.cell (lt_of_cell hS2.2).1).trans hS2.2⟩; have hbb := (hb2.trans (hb3.mono hb2.size)); have k2 := e2.drew.chg (Chg.ofBelow hbb) (fun c => by have := e2.lt; have c' : W.heap.size ≤ A + 2 := c; omega); have k3 := e3.drew.chg (Chg.ofBelow hbb) (fun c => by have := e3.lt; have c' : W.heap.size ≤ A + 3 := c; omega); have z2 := k2.free 0; have z3 := k3.free 0; have u2 := k2.cell 0; have u3 := k3.cell 0; have hS4 : (w3.setCell ⟨A + 2, 0, none⟩ (.string val)).cell? ⟨w1.heap.size, 0, none⟩ = some (.string d) ∧ (w3.setCell ⟨A + 2, 0, none⟩ (.string val)).cell? ⟨A + 1, 0, none⟩ = some (.string n) := ⟨by rw [World.cell?_setCell_far _ _ _ _ (by simp; omega)]; exact hS3.1, by rw [World.cell?_setCell_far _ _ _ _ (by simp)]; exact hS3.2⟩; have hS5 : ((w3.setCell ⟨A + 2, 0, none⟩ (.string val)).setCell ⟨A + 3, 0, none⟩ (.bool has)).cell? ⟨w1.heap.size, 0, none⟩ = some (.string d) ∧ ((w3.setCell ⟨A + 2, 0, none⟩ (.string val)).setCell ⟨A + 3, 0, none⟩ (.bool has)).cell? ⟨A + 1, 0, none⟩ = some (.string n) := ⟨by rw [World.cell?_setCell_far _ _ _ _ (by simp; omega)]; exact hS4.1, by rw [World.cell?_setCell_far _ _ _ _ (by simp)]; exact hS4.2⟩)
    | fail)
  go_end0
  have K2 := (k2.set 0 (.string val)).chg (chg_set _ (A + 3) 0 (.bool has)) (by omega)
  have K3 := (k3.chg (chg_set _ (A + 2) 0 (.string val)) (by omega)).set 0 (.bool has)
  exact ⟨rfl, ⟨K2, K3⟩, ((hc1.drew.calls hbb).setCell ⟨A + 2, 0, none⟩ (.inl rfl) _).setCell ⟨A + 3, 0, none⟩ (.inr rfl) _⟩
set_option maxRecDepth 100000 in
set_option maxHeartbeats 4000000 in
theorem ask_any (v : Value) (l : List Lb) (n : ByteArray) (w : World) (hv : Ls w v l) (hl : l.length ≤ 12) (hf : FitL l) (hL : Lbl (sortL l)) :
    Calls Tryz.prog 40 #[v, .string n] w fun e w' => e = .returned (.tuple #[.string ((look (sortL l) n).getD ⟨#[]⟩), .bool (look (sortL l) n).isSome]) ∧ Below w.heap.size w w' := by
  have hmf := hmk
  have b1 := below_new w (.cells #[v] ILS)
  have b2 := b1.alloc (by simp) (.cells #[.string n] ST)
  have b3 := b2.alloc (by simp; omega) (.cells #[.string ⟨#[]⟩] ST)
  have b4 := b3.alloc (by simp; omega) (.cells #[.bool false] BT)
  have b5 := b4.alloc (by simp; omega) (.cells #[.bool false] BT)
  have hz4 : ((((w.alloc (.cells #[v] ILS)).alloc (.cells #[.string n] ST)).alloc (.cells #[.string ⟨#[]⟩] ST)).alloc (.cells #[.bool false] BT)).heap.size = w.heap.size + 4 := by simp
  have B0 := ((((Blk.new w [v] ILS).alloc (.cells #[.string n] ST)).alloc (.cells #[.string ⟨#[]⟩] ST)).alloc (.cells #[.bool false] BT))
  have B1 : Blk ((((w.alloc (.cells #[v] ILS)).alloc (.cells #[.string n] ST)).alloc (.cells #[.string ⟨#[]⟩] ST)).alloc (.cells #[.bool false] BT)) (w.heap.size + 1) [.string n] ST := by
    have := ((Blk.new (w.alloc (.cells #[v] ILS)) [.string n] ST).alloc (.cells #[.string ⟨#[]⟩] ST)).alloc (.cells #[.bool false] BT)
    simpa using this
  have B2 : Blk ((((w.alloc (.cells #[v] ILS)).alloc (.cells #[.string n] ST)).alloc (.cells #[.string ⟨#[]⟩] ST)).alloc (.cells #[.bool false] BT)) (w.heap.size + 2) [.string ⟨#[]⟩] ST := by
    have := (Blk.new ((w.alloc (.cells #[v] ILS)).alloc (.cells #[.string n] ST)) [.string ⟨#[]⟩] ST).alloc (.cells #[.bool false] BT)
    simpa using this
  have B3 : Blk ((((w.alloc (.cells #[v] ILS)).alloc (.cells #[.string n] ST)).alloc (.cells #[.string ⟨#[]⟩] ST)).alloc (.cells #[.bool false] BT)) (w.heap.size + 3) [.bool false] BT := by
    have := (Blk.new (((w.alloc (.cells #[v] ILS)).alloc (.cells #[.string n] ST)).alloc (.cells #[.string ⟨#[]⟩] ST)) [.bool false] BT)
    simpa using this
  have hS := safe_ok 81 #[.pointer (some ⟨w.heap.size, 0, none⟩), .pointer (some ⟨w.heap.size + 1, 0, none⟩), .pointer (some ⟨w.heap.size + 2, 0, none⟩), .pointer (some ⟨w.heap.size + 3, 0, none⟩)] ((((w.alloc (.cells #[v] ILS)).alloc (.cells #[.string n] ST)).alloc (.cells #[.string ⟨#[]⟩] ST)).alloc (.cells #[.bool false] BT)) (fun w' => Blk w' (w.heap.size + 2) [.string ((look (sortL l) n).getD ⟨#[]⟩)] ST ∧ Blk w' (w.heap.size + 3) [.bool (look (sortL l) n).isSome] BT) (fun q => q = w.heap.size + 2 ∨ q = w.heap.size + 3) (fun _ => rfl) (by rw [hz4]; omega)
    (ask1_any w.heap.size v l n _ (hv.up b5) (B0.alloc _) (B1.alloc _) (B2.alloc _) (B3.alloc _) hl hf hL)
  obtain ⟨ao, cap, rfl, q1, q2⟩ := hv.form
  generalize (look (sortL l) n).getD ⟨#[]⟩ = val at *
  generalize (look (sortL l) n).isSome = has at *
  go_enter Tryz.func40, Tryz.ntmps40
  go_wp2_with ((with_reducible refine hS.mono ?_); rintro e w2 ⟨rfl, w1, ⟨K2, K3⟩, hc1, hc2⟩)
  rw [hz4] at hc2
  have hb1 : Below w.heap.size w w1 := b5.trans (hc1.below w.heap.size b5.size (fun k hk c => by omega))
  have hb2 : Below w.heap.size w w2 := hb1.trans (hc2.below w.heap.size hb1.size (fun k hk c => by omega))
  have k2 := K2.chg hc2 (by omega)
  have k3 := K3.chg hc2 (by omega)
  clear hS B0 B1 B2 B3 b1 b2 b3 b4 b5 hz4 hc1 hc2 K2 K3 hb1
  have u2 : w2.cell? ⟨w.heap.size + 1 + 1, 0, none⟩ = some (.string val) := k2.cell 0
  have u3 : w2.cell? ⟨w.heap.size + 1 + 1 + 1, 0, none⟩ = some (.bool has) := k3.cell 0
  have z2 : w2.frozen? ⟨w.heap.size + 1 + 1, 0, none⟩ = false := k2.free 0
  have z3 : w2.frozen? ⟨w.heap.size + 1 + 1 + 1, 0, none⟩ = false := k3.free 0
  have hb4 : Below w.heap.size w ((w2.setCell ⟨w.heap.size + 1 + 1, 0, none⟩ (.string val)).setCell ⟨w.heap.size + 1 + 1 + 1, 0, none⟩ (.bool has)).drew := ((hb2.setCell (p := ⟨w.heap.size + 1 + 1, 0, none⟩) (by show w.heap.size ≤ w.heap.size + 1 + 1; omega) _).setCell (p := ⟨w.heap.size + 1 + 1 + 1, 0, none⟩) (by show w.heap.size ≤ w.heap.size + 1 + 1 + 1; omega) _).drew
  go_region
  go_wp2_with fail
  refine bodyPost_ret (v := .tuple #[.string val, .bool has]) ?_ rfl ⟨rfl, hb4⟩
  simp [results, Tryz.results40, go_sem, u2, u3]
end Go.Proofs.YtapoodnjkkhggaaGreat
