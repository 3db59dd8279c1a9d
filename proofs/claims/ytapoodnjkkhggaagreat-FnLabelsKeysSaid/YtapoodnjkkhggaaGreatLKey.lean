/-
  impl.LabelsKey.
-/
import Derived.Test.YtapoodnjkkhggaaGreatBwo
namespace Go.Proofs.YtapoodnjkkhggaaGreat
set_option linter.unusedSimpArgs false
set_option linter.unusedVariables false
open Go.RowKit

/-- the labels that a key holds -/
def selK (way : Nat) (names : List ByteArray) (m : List Lb) : List Lb := if way = 0 then m else kept names (way == 1) m
theorem selK_fit {way : Nat} {names : List ByteArray} {m : List Lb} (h : FitL m) : FitL (selK way names m) := by
  unfold selK
  split
  · exact h
  · exact kept_fit h
theorem key_len {l : List Lb} (hf : FitL l) (hl : l.length ≤ 12) : (encL (sortL l)).length ≤ 1073741824 := by
  rw [encL_length]
  have h1 := lbsN_le hf.sort
  have h2 := sortL_length l
  rw [h2] at h1
  omega
set_option maxRecDepth 100000 in
set_option maxHeartbeats 4000000 in
theorem key0_any (v : Value) (l : List Lb) (u : Value) (names : List ByteArray) (w : World) (h : Ls w v l) (g : Strs w u names) (hl : l.length ≤ 12) (hf : FitL l) (hu : Uniq l) (hR : Rise names) (hn : names.length ≤ 1000000) :
    Calls Tryz.prog 24 #[v, .int .i64 0, u] w fun e w' => ∃ x, e = .returned x ∧ w'.ownsRow w.heap.size UT 1 x (encL (selK 0 names (sortL l))).length ((encL (selK 0 names (sortL l))).map u8v) ∧ Below w.heap.size w w' := by
  have hM := made_any v l w h hl hf
  obtain ⟨ao, cap, rfl, h1, h2⟩ := h.form
  obtain ⟨bo, bcap, rfl, g1, g2⟩ := g.form
  go_enter Tryz.func24, Tryz.ntmps24
  go_wp2_with fail
  refine hM.mono ?_
  rintro e w1 ⟨rfl, hb1⟩
  have hbA := hb1.alloc hb1.size (.cells #[.string ⟨(encL (sortL l)).toArray⟩] LST)
  have g1' := g.up hbA
  have hK := bytes_any (sortL l) (w1.alloc (.cells #[.string ⟨(encL (sortL l)).toArray⟩] LST)) (key_len hf hl)
  unfold lbsV at *
  have hB := Blk.new w1 [.string ⟨(encL (sortL l)).toArray⟩] LST
  have c0 := hB.cell 0
  simp only [List.getElem?_cons_zero] at c0
  generalize hdd : (⟨(encL (sortL l)).toArray⟩ : ByteArray) = d at *
  go_wp2_with fail
  (with_reducible refine hK.mono ?_)
  rintro e w2 ⟨x, rfl, hx, hb2⟩
  have hbx := bnx hbA hb2
  have hx' := own_base hx hbA.size
  obtain ⟨xa, xc, rfl⟩ := own_form hx'
  have HX := Lib.hid hx'
  clear hx hx'
  go_wp2_with fail
  go_ret
  exact ⟨_, rfl, HX.out, hbx⟩
set_option maxRecDepth 100000 in
set_option maxHeartbeats 4000000 in
theorem key1_any (v : Value) (l : List Lb) (u : Value) (names : List ByteArray) (w : World) (h : Ls w v l) (g : Strs w u names) (hl : l.length ≤ 12) (hf : FitL l) (hu : Uniq l) (hR : Rise names) (hn : names.length ≤ 1000000) :
    Calls Tryz.prog 24 #[v, .int .i64 1, u] w fun e w' => ∃ x, e = .returned x ∧ w'.ownsRow w.heap.size UT 1 x (encL (selK 1 names (sortL l))).length ((encL (selK 1 names (sortL l))).map u8v) ∧ Below w.heap.size w w' := by
  have hM := made_any v l w h hl hf
  obtain ⟨ao, cap, rfl, h1, h2⟩ := h.form
  obtain ⟨bo, bcap, rfl, g1, g2⟩ := g.form
  go_enter Tryz.func24, Tryz.ntmps24
  go_wp2_with fail
  refine hM.mono ?_
  rintro e w1 ⟨rfl, hb1⟩
  have hbA := hb1.alloc hb1.size (.cells #[.string ⟨(encL (sortL l)).toArray⟩] LST)
  have g1' := g.up hbA
  have hK := bwith_any (sortL l) _ names (w1.alloc (.cells #[.string ⟨(encL (sortL l)).toArray⟩] LST)) g1' (sortL_asc hu) hR hf.sort (key_len hf hl) hn
  unfold lbsV at *
  have hB := Blk.new w1 [.string ⟨(encL (sortL l)).toArray⟩] LST
  have c0 := hB.cell 0
  simp only [List.getElem?_cons_zero] at c0
  generalize hdd : (⟨(encL (sortL l)).toArray⟩ : ByteArray) = d at *
  go_wp2_with fail
  (with_reducible refine hK.mono ?_)
  rintro e w2 ⟨x, rfl, hx, hb2⟩
  have hbx := bnx hbA hb2
  have hx' := own_base hx hbA.size
  obtain ⟨xa, xc, rfl⟩ := own_form hx'
  have HX := Lib.hid hx'
  clear hx hx'
  go_wp2_with fail
  go_ret
  exact ⟨_, rfl, HX.out, hbx⟩
set_option maxRecDepth 100000 in
set_option maxHeartbeats 4000000 in
theorem key2_any (v : Value) (l : List Lb) (u : Value) (names : List ByteArray) (w : World) (h : Ls w v l) (g : Strs w u names) (hl : l.length ≤ 12) (hf : FitL l) (hu : Uniq l) (hR : Rise names) (hn : names.length ≤ 1000000) :
    Calls Tryz.prog 24 #[v, .int .i64 2, u] w fun e w' => ∃ x, e = .returned x ∧ w'.ownsRow w.heap.size UT 1 x (encL (selK 2 names (sortL l))).length ((encL (selK 2 names (sortL l))).map u8v) ∧ Below w.heap.size w w' := by
  have hM := made_any v l w h hl hf
  obtain ⟨ao, cap, rfl, h1, h2⟩ := h.form
  obtain ⟨bo, bcap, rfl, g1, g2⟩ := g.form
  go_enter Tryz.func24, Tryz.ntmps24
  go_wp2_with fail
  refine hM.mono ?_
  rintro e w1 ⟨rfl, hb1⟩
  have hbA := hb1.alloc hb1.size (.cells #[.string ⟨(encL (sortL l)).toArray⟩] LST)
  have g1' := g.up hbA
  have hK := bwout_any (sortL l) _ names (w1.alloc (.cells #[.string ⟨(encL (sortL l)).toArray⟩] LST)) g1' (sortL_asc hu) hR hf.sort (key_len hf hl) hn
  unfold lbsV at *
  have hB := Blk.new w1 [.string ⟨(encL (sortL l)).toArray⟩] LST
  have c0 := hB.cell 0
  simp only [List.getElem?_cons_zero] at c0
  generalize hdd : (⟨(encL (sortL l)).toArray⟩ : ByteArray) = d at *
  go_wp2_with fail
  (with_reducible refine hK.mono ?_)
  rintro e w2 ⟨x, rfl, hx, hb2⟩
  have hbx := bnx hbA hb2
  have hx' := own_base hx hbA.size
  obtain ⟨xa, xc, rfl⟩ := own_form hx'
  have HX := Lib.hid hx'
  clear hx hx'
  go_wp2_with fail
  go_ret
  exact ⟨_, rfl, HX.out, hbx⟩
end Go.Proofs.YtapoodnjkkhggaaGreat
