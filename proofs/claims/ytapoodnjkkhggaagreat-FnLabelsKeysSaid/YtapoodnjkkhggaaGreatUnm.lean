/-
  impl.unmade: labels as a list.
-/
import Derived.Test.YtapoodnjkkhggaaGreatRng
namespace Go.Proofs.YtapoodnjkkhggaaGreat
set_option linter.unusedSimpArgs false
set_option linter.unusedVariables false
open Go.RowKit

set_option maxRecDepth 100000 in
set_option maxHeartbeats 4000000 in
theorem unmade_any (l : List Lb) (w : World) (hl : l.length ≤ 1000000) (hf : FitL l) (hd : (encL l).length ≤ 1073741824) :
    Calls Tryz.prog 51 #[lbsV l] w fun e w' => ∃ x, e = .returned x ∧ w'.ownsRow w.heap.size ILT 2 x l.length (lcells l) ∧ Below w.heap.size w w' := by
  have hR := Blk.new w [.string ⟨(encL l).toArray⟩] LST
  have hb1 := below_new w (.cells #[.string ⟨(encL l).toArray⟩] LST)
  have hC := Blk.new (w.alloc (.cells #[.string ⟨(encL l).toArray⟩] LST)) [.slice none 0 0] ILS
  have hb2 := hb1.alloc (by simp) (.cells #[.slice none 0 0] ILS)
  have hz2 : ((w.alloc (.cells #[.string ⟨(encL l).toArray⟩] LST)).alloc (.cells #[.slice none 0 0] ILS)).heap.size = w.heap.size + 2 := by simp
  have hc : (w.alloc (.cells #[.string ⟨(encL l).toArray⟩] LST)).heap.size = w.heap.size + 1 := by simp
  rw [hc] at hC
  have hR2 := hR.alloc (.cells #[.slice none 0 0] ILS)
  have r2 := hR2.cell 0
  simp only [List.getElem?_cons_zero] at r2
  have hmf : ∀ (fn : Fn) (first cap : Array Value) (w : World), (Instr.makeFunc fn first cap).run Tryz.prog w = .ok (.func fn first cap) w := fun _ _ _ _ => rfl
  have key := range_any l hf hd 102 #[.pointer (some ⟨w.heap.size + 1, 0, none⟩)] ((w.alloc (.cells #[.string ⟨(encL l).toArray⟩] LST)).alloc (.cells #[.slice none 0 0] ILS))
    (fun k wr => wr.cell? ⟨w.heap.size + 2, 0, none⟩ = some (.string ⟨(encL l).toArray⟩) ∧ Below w.heap.size w wr ∧ w.heap.size + 3 ≤ wr.heap.size ∧ ∃ v, Blk wr (w.heap.size + 1) [v] ILS ∧ wr.ownsRow (w.heap.size + 3) ILT 2 v k (lcells (l.take k)))
    (fun _ _ => rfl)
    (by
      have hX := Blk.new ((w.alloc (.cells #[.string ⟨(encL l).toArray⟩] LST)).alloc (.cells #[.slice none 0 0] ILS)) [.string ⟨(encL l).toArray⟩] LST
      rw [hz2] at hX
      exact ⟨hX.cell 0, hb2.alloc (by omega) _, by simp, _, hC.alloc _, World.ownsRow_nil _ _ _ _⟩)
    (by
      rintro k w1 w2 ⟨h1, h2, h3, v, h4, h5⟩ hb
      exact ⟨(hb.cell (lt_of_cell h1).1).trans h1, h2.trans (hb.mono h2.size), Nat.le_trans h3 hb.size, v, h4.chg (Chg.ofBelow hb) (fun c => by have := h4.lt; omega), own_below h5 hb (fun g hg => (h5.lt g hg).2)⟩)
    (by
      rintro k w1 ⟨h1, _⟩
      rw [hz2]
      exact h1)
    (by
      rintro k hk w1 ⟨h1, h2, h3, v, h4, h5⟩
      refine (unm1_any (w.heap.size + 1) (w.heap.size + 3) k v _ l[k].1 l[k].2 w1 h4 h5 (by omega) h3 (by omega)).mono ?_
      rintro e w2 ⟨rfl, ⟨v', h6, h7⟩, h8⟩
      have hno : ∀ q, some q = v.ownBlock → w.heap.size + 3 ≤ q := fun q hq => (h5.lt q hq.symm).1
      refine ⟨rfl, cell_chg h8 h1 (fun c => ?_), h2.trans (h8.below w.heap.size h2.size (fun q hq c => ?_)), Nat.le_trans h3 h8.size, v', h6, by rw [lcells_take hk]; exact h7⟩
      · rcases c with c | c
        · simp at c
        · have := hno _ c; simp at this
      · rcases c with c | c
        · omega
        · have := hno _ c; omega)
  unfold lbsV at *
  clear hR hR2 hb1 hb2 hC hc
  go_enter Tryz.func51, Tryz.ntmps51
  go_wp2_with ((with_reducible refine key.mono ?_); rintro e w1 ⟨rfl, h1, h2, h3, v, h4, h5⟩; have d := h4.cell 0; simp only [List.getElem?_cons_zero] at d; obtain ⟨va, vc, rfl⟩ := own_form h5)
  go_ret
  rw [List.take_length] at h5
  exact ⟨_, rfl, own_base h5 (by omega), h2⟩
end Go.Proofs.YtapoodnjkkhggaaGreat
