/-
  The first part of indexAwake: [1, 2] without [2], expanded, is [1].
-/
import Derived.Test.YtkbkggamfkadnaaGreatDoorSets
import Derived.Test.YtkbkggamfkadnaaGreatDoorSafe2
namespace Go.Proofs.YtkbkggamfkadnaaGreatDoor
set_option linter.unusedSimpArgs false
set_option linter.unusedVariables false
open Go.RowKit

set_option maxRecDepth 100000 in
set_option maxHeartbeats 1000000 in
theorem expanded_any {T : TypeId} {rc : Value} {fN fA fE : FuncId} {B0 B : Nat} {I : Option Int → List Int → World → Prop} (H : PIter T rc fN fA fE B0 B I) (L : List Int) (w : World) (hI : I none L w) (hB : B0 ≤ B) (hw : w.heap.size = B) (hL : L.length ≤ 2147483646) :
    Calls Tryz.prog 53 #[.iface T rc] w fun e w' => ∃ x, e = .returned (.tuple #[x, .bool true]) ∧ w'.ownsRow B 26 1 x L.length (L.map (Value.int .u64)) ∧ Chg (fun k => B0 ≤ k) w w' := by
  go_enter Tryz.func53, Tryz.ntmps53
  go_wp2_with (first
    | (go_at_call 85; refine (expandP_any H L w hI hB hw hL).mono ?_; rintro e w1 ⟨x, rfl, ho, hc⟩; obtain ⟨xa, xc, rfl⟩ := own_form ho)
    | (go_at_call 86; refine (unrefs_any _ L _ (Ints.own ho) hL).mono ?_; rintro e w2 ⟨y, rfl, ho2, hb2⟩)
    | fail)
  go_ret2
  have hz := hc.size
  exact ⟨_, rfl, own_base ho2 (by omega), hc.calls hb2⟩

set_option maxRecDepth 100000 in
set_option maxHeartbeats 1000000 in
theorem expandF_any (l1 l2 : Value) (q b0 b1 b2 : Nat) (w : World) (h1 : Ints w w.heap.size .u64 l1 [1, 2]) (h2 : Ints w w.heap.size .u64 l2 [2]) (hq : Blk w q [.int .i64 0, l1, .slice none 0 0, .int .i64 0, l2, .slice none 0 0] 45)
    (k0 : Blk w b0 [.int .i64 4, .slice none 0 0, .slice (some ⟨q, 0, none⟩) 2 2] 45) (k1 : Blk w b1 [.slice none 0 0] 40) (k2 : Blk w b2 [.bool false] 4) (hne : b1 ≠ b2) :
    Calls Tryz.prog 52 #[.pointer (some ⟨b0, 0, none⟩), .pointer (some ⟨b1, 0, none⟩), .pointer (some ⟨b2, 0, none⟩)] w fun e w' => e = .returned (.tuple #[]) ∧ ∃ x, Blk w' b1 [x] 40 ∧ Blk w' b2 [.bool true] 4 ∧ w'.ownsRow w.heap.size 26 1 x 1 [.int .u64 1] ∧ Chg (fun k => k = b1 ∨ k = b2) w w' := by
  have c0 := k0.cell 0
  have c1 := k0.cell 1
  have c2 := k0.cell 2
  have p1 := k1.lt
  have p2 := k2.lt
  go_enter Tryz.func52, Tryz.ntmps52
  go_wp2_with (first
    | (go_at_call 54; refine (setWithout_any l1 l2 q w h1 h2 hq).mono ?_; rintro e w1 ⟨R, F, D, M1, M2, rfl, hR, hb1⟩; have hz1 := hb1.size; have hR' := Lib.hid hR)
    | (go_at_call 53; refine (expanded_any (rp_iter R F D w.heap.size M1 M2 w1.heap.size) [1] w1 (.inl ⟨rfl, rfl, hR'.out⟩) hz1 rfl (by decide)).mono ?_; rintro e w2 ⟨x, rfl, ho, hc2⟩; have hc := (Chg.ofBelow hb1).trans hc2; obtain ⟨xa, xc, rfl⟩ := own_form ho; have j1 := k1.chg hc (by omega); have j2 := k2.chg hc (by omega); have z1 := j1.free 0; have z2 := j2.free 0; have e1 := j1.cell 0; have e2 := j2.cell 0; have j1' := (j1.set 0 (.slice xa 1 xc)).chg (chg_set _ b2 0 (.bool true)) (by omega); have j2' := (j2.chg (chg_set w2 b1 0 (.slice xa 1 xc)) (by omega)).set 0 (.bool true))
    | fail)
  go_end0
  have hcc : Chg (fun k => k = b1 ∨ k = b2) w w2 := ⟨hc.os, hc.tape, hc.output, hc.size, fun k hk _ => hc.block k hk (by omega)⟩
  refine ⟨rfl, _, j1', j2', own_chg (own_chg (own_base ho hz1) (chg_set w2 b1 0 (.slice xa 1 xc)) (fun g h _ => by omega)) (chg_set _ b2 0 (.bool true)) (fun g h _ => by omega), ?_⟩
  exact (hcc.setCell ⟨b1, 0, none⟩ (.inl rfl) _).setCell ⟨b2, 0, none⟩ (.inr rfl) _

set_option maxRecDepth 100000 in
set_option maxHeartbeats 2000000 in
theorem expand_awake (l1 l2 : Value) (q : Nat) (w : World) (h1 : Ints w w.heap.size .u64 l1 [1, 2]) (h2 : Ints w w.heap.size .u64 l2 [2]) (hq : Blk w q [.int .i64 0, l1, .slice none 0 0, .int .i64 0, l2, .slice none 0 0] 45) :
    Calls Tryz.prog 17 #[.agg #[.int .i64 4, .slice none 0 0, .slice (some ⟨q, 0, none⟩) 2 2]] w fun e w' => ∃ x, e = .returned (.tuple #[x, .bool true]) ∧ w'.ownsRow w.heap.size 26 1 x 1 [.int .u64 1] ∧ Below w.heap.size w w' := by
  have hmf := hmk
  have hA := (((Chg.refl (fun k => w.heap.size ≤ k) w).alloc (.cells #[.int .i64 4, .slice none 0 0, .slice (some ⟨q, 0, none⟩) 2 2] 45)).alloc (.cells #[.slice none 0 0] 40)).alloc (.cells #[.bool false] 4)
  have k0 : Blk (((w.alloc (.cells #[.int .i64 4, .slice none 0 0, .slice (some ⟨q, 0, none⟩) 2 2] 45)).alloc (.cells #[.slice none 0 0] 40)).alloc (.cells #[.bool false] 4)) w.heap.size [.int .i64 4, .slice none 0 0, .slice (some ⟨q, 0, none⟩) 2 2] 45 := ((Blk.new w [.int .i64 4, .slice none 0 0, .slice (some ⟨q, 0, none⟩) 2 2] _).alloc _).alloc _
  have k1 : Blk (((w.alloc (.cells #[.int .i64 4, .slice none 0 0, .slice (some ⟨q, 0, none⟩) 2 2] 45)).alloc (.cells #[.slice none 0 0] 40)).alloc (.cells #[.bool false] 4)) (w.heap.size + 1) [.slice none 0 0] 40 := by
    have := (Blk.new (w.alloc (.cells #[.int .i64 4, .slice none 0 0, .slice (some ⟨q, 0, none⟩) 2 2] 45)) [.slice none 0 0] 40).alloc (.cells #[.bool false] 4)
    simpa using this
  have k2 : Blk (((w.alloc (.cells #[.int .i64 4, .slice none 0 0, .slice (some ⟨q, 0, none⟩) 2 2] 45)).alloc (.cells #[.slice none 0 0] 40)).alloc (.cells #[.bool false] 4)) (w.heap.size + 1 + 1) [.bool false] 4 := by
    have := Blk.new ((w.alloc (.cells #[.int .i64 4, .slice none 0 0, .slice (some ⟨q, 0, none⟩) 2 2] 45)).alloc (.cells #[.slice none 0 0] 40)) [.bool false] 4
    simpa using this
  have hsz : (((w.alloc (.cells #[.int .i64 4, .slice none 0 0, .slice (some ⟨q, 0, none⟩) 2 2] 45)).alloc (.cells #[.slice none 0 0] 40)).alloc (.cells #[.bool false] 4)).heap.size = w.heap.size + 3 := by simp
  have hAb := hA.below w.heap.size (Nat.le_refl _) (fun k hk => by omega)
  have hqA := hq.chg hA (by have := hq.lt; omega)
  have j1 := h1.up hAb
  have j2 := h2.up hAb
  go_enter Tryz.func17, Tryz.ntmps17
  go_wp2_with fail
  generalize ((w.alloc _).alloc _).alloc _ = W at *
  have n1 := below_new W (.cells #[.bool false] 4)
  refine (safe_ok 52 _ W (fun w' => ∃ x, Blk w' (w.heap.size + 1) [x] 40 ∧ Blk w' (w.heap.size + 1 + 1) [.bool true] 4 ∧ w'.ownsRow (W.heap.size + 1) 26 1 x 1 [.int .u64 1]) (fun k => k = w.heap.size + 1 ∨ k = w.heap.size + 1 + 1) (fun _ => by kernel_rfl) (by omega)
    ((expandF_any l1 l2 q w.heap.size (w.heap.size + 1) (w.heap.size + 1 + 1) (W.alloc (.cells #[.bool false] 4)) (j1.up n1) (j2.up n1) (hqA.alloc _) (k0.alloc _) (k1.alloc _) (k2.alloc _) (by omega)).mono ?_)).mono ?_
  · rintro e w' ⟨he, x, b1, b2, ho, hc⟩
    exact ⟨he, ⟨x, b1, b2, own_base ho (by simp)⟩, hc⟩
  rintro e w2 ⟨rfl, w1, ⟨x, b1, b2, ho⟩, hc1, hc2⟩
  obtain ⟨xa, xc, rfl⟩ := own_form ho
  have b1' := b1.chg hc2 (by omega)
  have b2' := b2.chg hc2 (by omega)
  have ho' := own_chg ho hc2 (fun g h _ => by omega)
  have e1 := b1'.cell 0
  have e2 := b2'.cell 0
  have z1 := b1'.free 0
  have z2 := b2'.free 0
  go_wp2_with fail
  have m1 := b1'.set 0 (.slice xa 1 xc)
  have m1' := m1.chg (chg_set _ (w.heap.size + 1 + 1) 0 (.bool true)) (by omega)
  have m2' := (b2'.chg (chg_set w2 (w.heap.size + 1) 0 (.slice xa 1 xc)) (by omega)).set 0 (.bool true)
  have r1 := m1'.cell 0
  have r2 := m2'.cell 0
  have hz1 := hc1.size
  simp at hz1
  have hW := ((hA.trans (((Chg.refl (fun k => w.heap.size ≤ k) W).alloc (.cells #[.bool false] 4)).trans (hc1.mono fun k hk => by omega))).trans (hc2.mono fun k hk => by omega))
  refine bodyPost_ret (v := .tuple #[.slice xa 1 xc, .bool true]) (by simp [results, Tryz.results17, go_sem, r1, r2]) rfl ⟨_, rfl, ?_, ?_⟩
  · exact own_base (own_chg (own_chg ho' (chg_set w2 (w.heap.size + 1) 0 (.slice xa 1 xc)) (fun g h _ => by omega)) (chg_set _ (w.heap.size + 1 + 1) 0 (.bool true)) (fun g h _ => by omega)) (by omega)
  · exact ((hW.setCell ⟨w.heap.size + 1, 0, none⟩ (show w.heap.size ≤ w.heap.size + 1 by omega) _).setCell ⟨w.heap.size + 1 + 1, 0, none⟩ (show w.heap.size ≤ w.heap.size + 1 + 1 by omega) _).below _ (Nat.le_refl _) (fun k hk => by omega)
end Go.Proofs.YtkbkggamfkadnaaGreatDoor
