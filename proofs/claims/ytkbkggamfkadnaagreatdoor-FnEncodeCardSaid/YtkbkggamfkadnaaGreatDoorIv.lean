/-
  impl.AddIntervals: intervals are added to none, one behind the other. And: intervals are copied.
-/
import Derived.Test.YtkbkggamfkadnaaGreatDoorAddAll
import Derived.Test.YtkbkggamfkadnaaGreatDoorSafe2
namespace Go.Proofs.YtkbkggamfkadnaaGreatDoor
set_option linter.unusedSimpArgs false
set_option linter.unusedVariables false
open Go.RowKit

theorem infoImIv : (Tryz.prog.info? 49).map (fun i => (i.zero, i.size, i.bytes)) = some (some (.agg #[.int .i64 0, .int .i64 0]), 2, 16) := by kernel_rfl

set_option maxRecDepth 100000 in
set_option maxHeartbeats 1000000 in
theorem unintervals_any (v : Value) (l : List (Int × Int)) (w : World) (h : Pairs w w.heap.size .i64 .i64 v l) (hl : l.length ≤ 2147483646) :
    Calls Tryz.prog 57 #[v] w fun e w' => ∃ v', e = .returned v' ∧ w'.ownsRow w.heap.size 49 2 v' l.length (flatI l) ∧ Below w.heap.size w w' := by
  obtain ⟨i0, hi, hz0, hz1, hz2⟩ := info_parts infoImIv
  obtain ⟨ao, cap, rfl, h1, h2⟩ := h.form
  go_enter Tryz.func57, Tryz.ntmps57
  go_wp2_with fail
  go_loopw [3, 8] (fun v i wr => ∃ k : Nat, k ≤ l.length ∧ i = .int .i64 k ∧ wr.ownsRow w.heap.size 49 2 v k (flatI (l.take k)) ∧ Below w.heap.size w wr) (fun _ i _ => l.length - (intOf i).toNat)
  case atStart => exact ⟨0, Nat.zero_le _, rfl, World.ownsRow_nil _ _ _ _, Below.refl _ _⟩
  case round => as_aux_lemma =>
    obtain ⟨k, hk, rfl, hown, hbel⟩ := hrel
    obtain ⟨za, zc, rfl⟩ := own_form hown
    by_cases hlt : k < l.length
    · obtain ⟨b, off, rfl, hbB, hBw, hc⟩ := h.at_ (by omega)
      have c0 := (hbel.cell (p := ⟨b, off + k * 2, none⟩) (show b < w.heap.size by omega)).trans (hc k hlt).1
      have c1 := (hbel.cell (p := ⟨b, off + k * 2 + 1, none⟩) (show b < w.heap.size by omega)).trans (hc k hlt).2
      clear hc
      have i0' : (0 : Int) ≤ (k : Int) := by omega
      have i1 : (k : Int) < (l.length : Int) := by omega
      have HT := Lib.hid (show flatI (l.take (k + 1)) = flatI (l.take k) ++ [.int .i64 l[k].1, .int .i64 l[k].2] by rw [take_next hlt, flatI, flat_append]; rfl)
      have hz := hbel.size
      generalize l[k] = x at *
      obtain ⟨x0, x1⟩ := x
      have hO := own_alloc (own_alloc hown (.cells #[.int .i64 x0, .int .i64 x1] 93)) (.cells #[.int .i64 x0, .int .i64 x1] 49)
      have hb0 := (hbel.alloc hz (.cells #[.int .i64 x0, .int .i64 x1] 93)).alloc (by simp; omega) (.cells #[.int .i64 x0, .int .i64 x1] 49)
      have hnew : ((wr.alloc (.cells #[.int .i64 x0, .int .i64 x1] 93)).alloc (.cells #[.int .i64 x0, .int .i64 x1] 49)).heap[wr.heap.size + 1]? = some (.cells #[.int .i64 x0, .int .i64 x1] 49) := by
        have := heap_alloc_new (wr.alloc (.cells #[.int .i64 x0, .int .i64 x1] 93)) (.cells #[.int .i64 x0, .int .i64 x1] 49)
        simpa using this
      go_wp2_with (first | (at_builtin; refine list_app 46 49 i0 _ 2 16 rfl (.tmp 12) (.tmp 18) rfl rfl Tryz.underlying46 hi hz0 hz1 hz2 rfl (by decide) (by decide) w.heap.size (.slice za k zc) k (flatI (l.take k)) rfl hO (wr.heap.size + 1) rfl [.int .i64 x0, .int .i64 x1] rfl hnew (one2 _ _ _ _) (by omega) (by simp; omega) ?_; intro v' w1 ho hg) | fail)
      have hb1 := hb0.grown hg (by simp; omega) (fun q hq => (hO.lt q hq).1)
      rw [← HT.out] at ho
      clear hown hg hO hbel hz hb0 hnew
      go_roundw
      case rel => exact ⟨k + 1, by omega, by simp, ho, hb1⟩
      case measure => simp [intOf]; omega
    · obtain rfl : k = l.length := by omega
      go_wp2_with fail
      go_ret
      exact ⟨_, rfl, by simpa using hown, hbel⟩

theorem Pairs.ownI {w : World} {base e : Nat} {v : Value} {n : Nat} {l : List (Int × Int)} (h : w.ownsRow base e 2 v n (flatI l)) : Pairs w w.heap.size .i64 .i64 v l := Pairs.own h

set_option maxRecDepth 100000 in
set_option maxHeartbeats 2000000 in
theorem addF_any (b0 b1 : Nat) (lv : Value) (l : List (Int × Int)) (w : World) (h : Pairs w w.heap.size .i64 .i64 lv l) (hl : l.length ≤ 100000) (hR : RealL l) (k0 : Blk w b0 [lv] 46) (k1 : Blk w b1 [.slice none 0 0] 46) :
    Calls Tryz.prog 55 #[.pointer (some ⟨b0, 0, none⟩), .pointer (some ⟨b1, 0, none⟩)] w fun e w' => e = .returned (.tuple #[]) ∧ (∃ x, Blk w' b1 [x] 46 ∧ w'.ownsRow w.heap.size 49 2 x (covers l).length (flatI (covers l))) ∧ Chg (fun k => k = b1) w w' := by
  obtain ⟨ao, cap, rfl, h1, h2⟩ := h.form
  have c0 := k0.cell 0
  have p1 := k1.lt
  go_enter Tryz.func55, Tryz.ntmps55
  go_wp2_with fail
  go_loopw [2, 7] (fun v i wr => ∃ k : Nat, k ≤ l.length ∧ i = .int .i64 k ∧ wr.ownsRow w.heap.size IT 2 v (covers (l.take k)).length (flatI (covers (l.take k))) ∧ Below w.heap.size w wr) (fun _ i _ => l.length - (intOf i).toNat)
  case atStart => exact ⟨0, Nat.zero_le _, rfl, World.ownsRow_nil _ _ _ _, Below.refl _ _⟩
  case round => as_aux_lemma =>
    obtain ⟨k, hk, rfl, hown, hbel⟩ := hrel
    obtain ⟨za, zc, rfl⟩ := own_form hown
    have hz := hbel.size
    by_cases hlt : k < l.length
    · obtain ⟨b, off, rfl, hbB, hBw, hc⟩ := h.at_ (by omega)
      have c2 := (hbel.cell (p := ⟨b, off + k * 2, none⟩) (show b < w.heap.size by omega)).trans (hc k hlt).1
      have c3 := (hbel.cell (p := ⟨b, off + k * 2 + 1, none⟩) (show b < w.heap.size by omega)).trans (hc k hlt).2
      clear hc
      have i0' : (0 : Int) ≤ (k : Int) := by omega
      have i1 : (k : Int) < (l.length : Int) := by omega
      obtain ⟨r1, r2⟩ := covers_rise (l.take k) (fun x hx => hR x (List.mem_of_mem_take hx))
      obtain ⟨g1, g2, g3⟩ := hR _ (List.getElem_mem hlt)
      have hlen : (l.take k).length ≤ k := List.length_take_le _ _
      have HT := Lib.hid (show covers (l.take (k + 1)) = addL (covers (l.take k)) l[k].1 l[k].2 by rw [take_next hlt, covers_snoc, addL_cover _ _ _ r1 g1])
      generalize l[k] = x at *
      obtain ⟨x0, x1⟩ := x
      have hO := own_alloc hown (.cells #[.int .i64 x0, .int .i64 x1] 49)
      have hadd := add_any w.heap.size (.slice za (covers (l.take k)).length zc) x0 x1 (covers (l.take k)) _ hO (by simp; omega) (by omega) r1 g2 g1 g3
      go_wp2_with (first | (go_at_call 56; refine hadd.mono ?_; rintro e w1 ⟨v', rfl, ho, hc1⟩) | fail)
      have hb1 : Below w.heap.size w w1 := (hbel.alloc hz _).trans (hc1.below _ (by simp; omega) (fun q hq c => by
        rcases c with c | c
        · have := (hO.lt q c.symm).1; omega
        · simp at c; omega))
      rw [← HT.out] at ho
      clear hown hO hadd hc1 hbel hz
      go_roundw
      case rel => exact ⟨k + 1, by omega, by simp, ho, hb1⟩
      case measure => simp [intOf]; omega
    · obtain rfl : k = l.length := by omega
      rw [List.take_length] at hown
      have hlen := (covers_rise l hR).2
      have hI := Pairs.ownI hown
      go_wp2_with fail
      rw [List.take_length]
      refine (unintervals_any _ (covers l) wr hI (by omega)).mono ?_
      rintro e w2 ⟨x, rfl, ho, hb2⟩
      obtain ⟨xa, xc, rfl⟩ := own_form ho
      have hb := bnx hbel hb2
      have j1 := k1.chg (Chg.ofBelow hb) (by omega)
      have z1 := j1.free 0
      have e1 := j1.cell 0
      go_wp2_with fail
      go_end0
      have hcc : Chg (fun k => k = b1) w w2 := ⟨hb.os, hb.tape, hb.output, hb.size, fun q hq _ => hb.block q hq⟩
      exact ⟨rfl, ⟨_, j1.set 0 _, own_base (own_chg ho (chg_set w2 b1 0 (.slice xa (covers l).length xc)) (fun g h _ => by omega)) hz⟩, hcc.setCell ⟨b1, 0, none⟩ rfl _⟩
end Go.Proofs.YtkbkggamfkadnaaGreatDoor
