/-
  labelsAlive is true.
-/
import Derived.Test.YtapoodnjkkhggaaGreatSrt
import Derived.Test.YtapoodnjkkhggaaGreatSpS
import Derived.Test.YtapoodnjkkhggaaGreatLCmp
import Derived.Test.YtapoodnjkkhggaaGreatUnm
namespace Go.Proofs.YtapoodnjkkhggaaGreat
set_option linter.unusedSimpArgs false
set_option linter.unusedVariables false
open Go.RowKit

set_option maxRecDepth 100000 in
set_option maxHeartbeats 2000000 in
theorem made0_any (v : Value) (l : List Lb) (w : World) (h : Ls w v l) (hl : l.length ≤ 12) (hf : FitL l) :
    Calls Tryz.prog 42 #[.int .i64 0, v] w fun e w' => ∃ x, e = .returned x ∧ w'.ownsRow w.heap.size IT0 2 x l.length (lcells (sortL l)) ∧ Below w.heap.size w w' := by
  have hM := made_any v l w h hl hf
  have hls := sortL_length l
  have he : (encL (sortL l)).length ≤ 1073741824 := by rw [encL_length]; have := lbsN_le hf.sort; omega
  have hU := fun w => unmade_any (sortL l) w (by omega) hf.sort he
  rw [hls] at hU
  obtain ⟨ao, cap, rfl, h1, h2⟩ := h.form
  unfold lbsV at *
  clear he
  go_enter Tryz.func42, Tryz.ntmps42
  go_wp2_with (first | ((with_reducible refine hM.mono ?_); rintro e w1 ⟨rfl, hb1⟩) | ((with_reducible refine (hU _).mono ?_); rintro e w2 ⟨x, rfl, ho, hb2⟩; obtain ⟨xa, xc, rfl⟩ := own_form ho) | fail)
  go_ret
  exact ⟨_, rfl, own_base ho hb1.size, bnx hb1 hb2⟩
/-- the labels of labelsAlive -/
def alvL : List Lb := [(⟨#[98]⟩, ⟨#[50]⟩), (⟨#[97]⟩, ⟨#[49]⟩)]
theorem alv_sort : sortL alvL = [(⟨#[97]⟩, ⟨#[49]⟩), (⟨#[98]⟩, ⟨#[50]⟩)] := by
  have e1 : lt ⟨#[97]⟩ ⟨#[98]⟩ = true := by rw [lt_iff, ByteArray.toList_mk [97], ByteArray.toList_mk [98]]; decide
  unfold alvL sortL
  simp only [List.foldl_cons, List.foldl_nil]
  simp [ins, posR, e1]
theorem alv_right : Right 12 600 alvL := by
  refine ⟨by decide, ?_, ?_⟩
  · intro x hx
    simp [alvL] at hx
    rcases hx with rfl | rfl <;> exact ⟨by decide, by decide, by decide⟩
  · unfold Uniq alvL
    simp
theorem alv_right1 : Right 12 600 (alvL.take 1) := by
  refine ⟨by decide, ?_, ?_⟩
  · intro x hx
    simp [alvL] at hx
    subst hx
    exact ⟨by decide, by decide, by decide⟩
  · unfold Uniq alvL
    simp
theorem alv_look : look (sortL alvL) ⟨#[98]⟩ = some ⟨#[50]⟩ := by
  rw [alv_sort]
  rw [look_cons, if_neg (by decide), look_cons, if_pos rfl]
theorem alv_bef : befP (sortL alvL) (sortL (alvL.take 1)) = -1 := by
  have e1 : lt ⟨#[97]⟩ ⟨#[98]⟩ = true := by rw [lt_iff, ByteArray.toList_mk [97], ByteArray.toList_mk [98]]; decide
  have e2 : sortL (alvL.take 1) = [(⟨#[98]⟩, ⟨#[50]⟩)] := rfl
  rw [alv_sort, e2, befP, if_pos (.inl e1)]
set_option maxRecDepth 100000 in
set_option maxHeartbeats 4000000 in
theorem alive_any (w : World) : Calls Tryz.prog 13 #[] w fun e w' => e = .returned (.bool true) ∧ Below w.heap.size w w' := by
  have hB := Blk.new w (lcells alvL) IT0
  have hW : Ls (w.alloc (.cells (lcells alvL).toArray IT0)) (.slice (some ⟨w.heap.size, 0, none⟩) 2 2) alvL := by
    refine ⟨_, 2, rfl, Nat.le_refl _, by unfold maxLen; omega, .inr ⟨w.heap.size, 0, rfl, hB.lt, Nat.le_refl _, fun i hi => ?_⟩⟩
    rw [hB.cell]
    have hi' : i < alvL.length * 2 := hi
    rw [Nat.zero_add, List.getElem?_eq_getElem (by rw [lcells_length]; exact hi')]
    congr 1
    have := getD_lcells alvL i hi'
    rw [← this, List.getD_eq_getElem?_getD, List.getElem?_eq_getElem (by rw [lcells_length]; exact hi')]
    rfl
  have hW1 : Ls (w.alloc (.cells (lcells alvL).toArray IT0)) (.slice (some ⟨w.heap.size, 0, none⟩) 1 2) (alvL.take 1) := LsB.take hW (by decide)
  have hb0 := below_new w (.cells (lcells alvL).toArray IT0)
  have hf : FitL alvL := alv_right.fit (by omega)
  have hf1 : FitL (alvL.take 1) := alv_right1.fit (by omega)
  have hA := fun w' (hv : Ls w' (.slice (some ⟨w.heap.size, 0, none⟩) 2 2) alvL) => ask_any _ alvL ⟨#[98]⟩ w' hv (by decide) hf (alv_right.lbl (by omega) (by omega))
  rw [alv_look] at hA
  have hC := fun w' (hv : Ls w' (.slice (some ⟨w.heap.size, 0, none⟩) 2 2) alvL) (hv1 : Ls w' (.slice (some ⟨w.heap.size, 0, none⟩) 1 2) (alvL.take 1)) => labelsCompare_any _ _ alvL (alvL.take 1) w' hv hv1 (by decide) (by decide) hf hf1 (alv_right.lbl (by omega) (by omega)) (alv_right1.lbl (by omega) (by omega))
  have hne : decide (sortL alvL = sortL (alvL.take 1)) = false := by
    rw [decide_eq_false]
    intro c
    have := congrArg List.length c
    rw [sortL_length, sortL_length] at this
    exact absurd this (by decide)
  rw [alv_bef, hne] at hC
  have hM := fun w' (hv : Ls w' (.slice (some ⟨w.heap.size, 0, none⟩) 2 2) alvL) => made0_any _ alvL w' hv (by decide) hf
  have hS := fun w' (hv : Ls w' (.slice (some ⟨w.heap.size, 0, none⟩) 2 2) alvL) => sorted_any _ alvL w' hv (by decide)
  have ht : decide (sortL alvL = sortL alvL) = true := decide_eq_true rfl
  have hQ : ∀ va vb w', Ls w' va (sortL alvL) → Ls w' vb (sortL alvL) → Calls Tryz.prog 25 #[va, vb] w' fun e w'' => e = .returned (.bool true) ∧ Below w'.heap.size w' w'' := fun va vb w' h1 h2 => by
    have := sameLabels_any va vb _ _ w' h1 h2 (by rw [sortL_length]; decide) (by rw [sortL_length]; decide)
    rw [ht] at this
    exact this
  clear hne ht hB
  rw [show (lcells alvL).toArray = #[.string ⟨#[98]⟩, .string ⟨#[50]⟩, .string ⟨#[97]⟩, .string ⟨#[49]⟩] from rfl] at hW hW1 hb0
  have hA0 := hA _ hW
  go_enter Tryz.func13, Tryz.ntmps13
  go_wp2_with (first
    | ((with_reducible refine hA0.mono ?_); rintro e w1 ⟨rfl, hb1⟩; have hC1 := hC _ (hW.up hb1) (hW1.up hb1))
    | ((with_reducible refine hC1.mono ?_); rintro e w2 ⟨rfl, hb2⟩; have hM2 := hM _ ((hW.up hb1).up hb2))
    | ((with_reducible refine hM2.mono ?_); rintro e w3 ⟨x, rfl, ho3, hb3⟩; obtain ⟨xa, xc, rfl⟩ := own_form ho3; have hS3 := hS _ (((hW.up hb1).up hb2).up hb3))
    | ((with_reducible refine hS3.mono ?_); rintro e w4 ⟨y, rfl, ho4, hb4⟩; obtain ⟨ya, yc, rfl⟩ := own_form ho4; have hQ4 := hQ _ _ _ ((Ls.own ho3).up hb4) (Ls.own ho4))
    | ((with_reducible refine hQ4.mono ?_); rintro e w5 ⟨rfl, hb5⟩)
    | fail)
  go_ret
  exact ⟨rfl, bnx (bnx (bnx (bnx (bnx hb0 hb1) hb2) hb3) hb4) hb5⟩
end Go.Proofs.YtapoodnjkkhggaaGreat
