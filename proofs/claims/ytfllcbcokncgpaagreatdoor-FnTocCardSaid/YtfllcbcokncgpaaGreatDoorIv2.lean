/-
  impl.AddIntervals; impl.intervals.
-/
import Derived.Test.YtfllcbcokncgpaaGreatDoorIv
namespace Go.Proofs.YtfllcbcokncgpaaGreatDoor
set_option linter.unusedSimpArgs false
set_option linter.unusedVariables false
open Go.RowKit

set_option maxRecDepth 100000 in
set_option maxHeartbeats 2000000 in
theorem addIntervals_any (lv : Value) (l : List (Int × Int)) (w : World) (h : Pairs w w.heap.size .i64 .i64 lv l) (hl : l.length ≤ 100000) (hR : RealL l) :
    Calls Tryz.prog 14 #[lv] w fun e w' => ∃ x, e = .returned x ∧ w'.ownsRow w.heap.size 47 2 x (covers l).length (flatI (covers l)) ∧ Below w.heap.size w w' := by
  have hmf := hmk
  obtain ⟨ao, cap, rfl, h1, h2⟩ := h.form
  have hA := ((Chg.refl (fun k => w.heap.size ≤ k) w).alloc (.cells #[.slice ao l.length cap] 22)).alloc (.cells #[.slice none 0 0] 22)
  have k0 : Blk ((w.alloc (.cells #[.slice ao l.length cap] 22)).alloc (.cells #[.slice none 0 0] 22)) w.heap.size [.slice ao l.length cap] 22 := (Blk.new w [.slice ao l.length cap] _).alloc _
  have k1 : Blk ((w.alloc (.cells #[.slice ao l.length cap] 22)).alloc (.cells #[.slice none 0 0] 22)) (w.heap.size + 1) [.slice none 0 0] 22 := by
    have := Blk.new (w.alloc (.cells #[.slice ao l.length cap] 22)) [.slice none 0 0] 22
    simpa using this
  have hsz : ((w.alloc (.cells #[.slice ao l.length cap] 22)).alloc (.cells #[.slice none 0 0] 22)).heap.size = w.heap.size + 2 := by simp
  have hAb := hA.below w.heap.size (Nat.le_refl _) (fun k hk => by omega)
  have j1 := h.up hAb
  go_enter Tryz.func14, Tryz.ntmps14
  go_wp2_with fail
  generalize (w.alloc _).alloc _ = W at *
  have n1 := below_new W (.cells #[.bool false] 4)
  refine (safe_ok 36 _ W (fun w' => ∃ x, Blk w' (w.heap.size + 1) [x] 22 ∧ w'.ownsRow (W.heap.size + 1) 47 2 x (covers l).length (flatI (covers l))) (fun k => k = w.heap.size + 1) (fun _ => by kernel_rfl) (by omega)
    ((addF_any w.heap.size (w.heap.size + 1) _ l (W.alloc (.cells #[.bool false] 4)) (j1.up n1) hl hR (k0.alloc _) (k1.alloc _)).mono ?_)).mono ?_
  · rintro e w' ⟨he, ⟨x, b1, ho⟩, hc⟩
    exact ⟨he, ⟨x, b1, own_base ho (by simp)⟩, hc⟩
  rintro e w2 ⟨rfl, w1, ⟨x, b1, ho⟩, hc1, hc2⟩
  obtain ⟨xa, xc, rfl⟩ := own_form ho
  have b1' := b1.chg hc2 (by omega)
  have ho' := own_chg ho hc2 (fun g h _ => by omega)
  have e1 := b1'.cell 0
  go_wp2_with fail
  go_ret
  have hW := ((hA.trans (((Chg.refl (fun k => w.heap.size ≤ k) W).alloc (.cells #[.bool false] 4)).trans (hc1.mono fun k hk => by omega))).trans (hc2.mono fun k hk => by omega))
  exact ⟨_, rfl, own_base ho' (by omega), hW.below _ (Nat.le_refl _) (fun k hk => by omega)⟩

set_option maxRecDepth 100000 in
set_option maxHeartbeats 1000000 in
theorem intervals_any (v : Value) (l : List (Int × Int)) (w : World) (h : Pairs w w.heap.size .i64 .i64 v l) (hl : l.length ≤ 2147483646) :
    Calls Tryz.prog 52 #[v] w fun e w' => ∃ v', e = .returned v' ∧ w'.ownsRow w.heap.size IT 2 v' l.length (flatI l) ∧ Below w.heap.size w w' := by
  obtain ⟨i0, hi, hz0, hz1, hz2⟩ := info_parts infoIv
  obtain ⟨ao, cap, rfl, h1, h2⟩ := h.form
  go_enter Tryz.func52, Tryz.ntmps52
  go_wp2_with fail
  go_loopw [3, 8] (fun v i wr => ∃ k : Nat, k ≤ l.length ∧ i = .int .i64 k ∧ wr.ownsRow w.heap.size IT 2 v k (flatI (l.take k)) ∧ Below w.heap.size w wr) (fun _ i _ => l.length - (intOf i).toNat)
  case atStart => exact ⟨0, Nat.zero_le _, rfl, World.ownsRow_nil _ _ _ _, Below.refl _ _⟩
  case round => as_aux_lemma =>
    obtain ⟨k, hk, rfl, hown, hbel⟩ := hrel
    obtain ⟨za, zc, rfl⟩ := own_form hown
    by_cases hlt : k < l.length
    · obtain ⟨b, off, rfl, hbB, hBw, hc⟩ := h.at_ (by omega)
      have c0 := (hbel.cell (p := ⟨b, off + k * 2, none⟩) (show b < w.heap.size by omega)).trans (hc k hlt).1
      have c1 := (hbel.cell (p := ⟨b, off + k * 2 + 1, none⟩) (show b < w.heap.size by omega)).trans (hc k hlt).2
      clear hc
      have i0' : (0 : Int) ≤ (k : Int) := by omega
      have i1 : (k : Int) < (l.length : Int) := by omega
      have HT := Lib.hid (show flatI (l.take (k + 1)) = flatI (l.take k) ++ [.int .i64 l[k].1, .int .i64 l[k].2] by rw [take_next hlt, flatI, flat_append]; rfl)
      have hz := hbel.size
      generalize l[k] = x at *
      obtain ⟨x0, x1⟩ := x
      have hO := own_alloc (own_alloc hown (.cells #[.int .i64 x0, .int .i64 x1] 47)) (.cells #[.int .i64 x0, .int .i64 x1] 72)
      have hb0 := (hbel.alloc hz (.cells #[.int .i64 x0, .int .i64 x1] 47)).alloc (by simp; omega) (.cells #[.int .i64 x0, .int .i64 x1] 72)
      have hnew : ((wr.alloc (.cells #[.int .i64 x0, .int .i64 x1] 47)).alloc (.cells #[.int .i64 x0, .int .i64 x1] 72)).heap[wr.heap.size + 1]? = some (.cells #[.int .i64 x0, .int .i64 x1] 72) := by
        have := heap_alloc_new (wr.alloc (.cells #[.int .i64 x0, .int .i64 x1] 47)) (.cells #[.int .i64 x0, .int .i64 x1] 72)
        simpa using this
      go_wp2_with (first | (at_builtin; refine list_app 70 IT i0 _ 2 16 rfl (.tmp 12) (.tmp 18) rfl rfl Tryz.underlying70 hi hz0 hz1 hz2 rfl (by decide) (by decide) w.heap.size (.slice za k zc) k (flatI (l.take k)) rfl hO (wr.heap.size + 1) rfl [.int .i64 x0, .int .i64 x1] rfl hnew (one2 _ _ _ _) (by omega) (by simp; omega) ?_; intro v' w1 ho hg) | fail)
      have hb1 := hb0.grown hg (by simp; omega) (fun q hq => (hO.lt q hq).1)
      rw [← HT.out] at ho
      clear hown hg hO hbel hz hb0 hnew
      go_roundw
      case rel => exact ⟨k + 1, by omega, by simp, ho, hb1⟩
      case measure => simp [intOf]; omega
    · obtain rfl : k = l.length := by omega
      go_wp2_with fail
      go_ret
      exact ⟨_, rfl, by simpa using hown, hbel⟩
end Go.Proofs.YtfllcbcokncgpaaGreatDoor
