/-
  impl.AddIntervals.
-/
import Derived.Test.YtkbkggamfkadnaaGreatDoorIv
namespace Go.Proofs.YtkbkggamfkadnaaGreatDoor
set_option linter.unusedSimpArgs false
set_option linter.unusedVariables false
open Go.RowKit

set_option maxRecDepth 100000 in
set_option maxHeartbeats 2000000 in
theorem addIntervals_any (lv : Value) (l : List (Int × Int)) (w : World) (h : Pairs w w.heap.size .i64 .i64 lv l) (hl : l.length ≤ 100000) (hR : RealL l) :
    Calls Tryz.prog 18 #[lv] w fun e w' => ∃ x, e = .returned x ∧ w'.ownsRow w.heap.size 49 2 x (covers l).length (flatI (covers l)) ∧ Below w.heap.size w w' := by
  have hmf := hmk
  obtain ⟨ao, cap, rfl, h1, h2⟩ := h.form
  have hA := ((Chg.refl (fun k => w.heap.size ≤ k) w).alloc (.cells #[.slice ao l.length cap] 46)).alloc (.cells #[.slice none 0 0] 46)
  have k0 : Blk ((w.alloc (.cells #[.slice ao l.length cap] 46)).alloc (.cells #[.slice none 0 0] 46)) w.heap.size [.slice ao l.length cap] 46 := (Blk.new w [.slice ao l.length cap] _).alloc _
  have k1 : Blk ((w.alloc (.cells #[.slice ao l.length cap] 46)).alloc (.cells #[.slice none 0 0] 46)) (w.heap.size + 1) [.slice none 0 0] 46 := by
    have := Blk.new (w.alloc (.cells #[.slice ao l.length cap] 46)) [.slice none 0 0] 46
    simpa using this
  have hsz : ((w.alloc (.cells #[.slice ao l.length cap] 46)).alloc (.cells #[.slice none 0 0] 46)).heap.size = w.heap.size + 2 := by simp
  have hAb := hA.below w.heap.size (Nat.le_refl _) (fun k hk => by omega)
  have j1 := h.up hAb
  go_enter Tryz.func18, Tryz.ntmps18
  go_wp2_with fail
  generalize (w.alloc _).alloc _ = W at *
  have n1 := below_new W (.cells #[.bool false] 4)
  refine (safe_ok 55 _ W (fun w' => ∃ x, Blk w' (w.heap.size + 1) [x] 46 ∧ w'.ownsRow (W.heap.size + 1) 49 2 x (covers l).length (flatI (covers l))) (fun k => k = w.heap.size + 1) (fun _ => by kernel_rfl) (by omega)
    ((addF_any w.heap.size (w.heap.size + 1) _ l (W.alloc (.cells #[.bool false] 4)) (j1.up n1) hl hR (k0.alloc _) (k1.alloc _)).mono ?_)).mono ?_
  · rintro e w' ⟨he, ⟨x, b1, ho⟩, hc⟩
    exact ⟨he, ⟨x, b1, own_base ho (by simp)⟩, hc⟩
  rintro e w2 ⟨rfl, w1, ⟨x, b1, ho⟩, hc1, hc2⟩
  obtain ⟨xa, xc, rfl⟩ := own_form ho
  have b1' := b1.chg hc2 (by omega)
  have ho' := own_chg ho hc2 (fun g h _ => by omega)
  have e1 := b1'.cell 0
  go_wp2_with fail
  go_ret
  have hW := ((hA.trans (((Chg.refl (fun k => w.heap.size ≤ k) W).alloc (.cells #[.bool false] 4)).trans (hc1.mono fun k hk => by omega))).trans (hc2.mono fun k hk => by omega))
  exact ⟨_, rfl, own_base ho' (by omega), hW.below _ (Nat.le_refl _) (fun k hk => by omega)⟩

end Go.Proofs.YtkbkggamfkadnaaGreatDoor
