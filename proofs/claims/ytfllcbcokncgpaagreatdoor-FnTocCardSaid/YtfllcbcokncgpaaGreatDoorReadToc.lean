/-
  spec.ReadToc.
-/
import Derived.Test.YtfllcbcokncgpaaGreatDoorToc2
import Derived.Test.YtfllcbcokncgpaaGreatDoorBig
import Derived.Deep.Cut
namespace Go.Proofs.YtfllcbcokncgpaaGreatDoor
set_option linter.unusedSimpArgs false
set_option linter.unusedVariables false
open Go.RowKit

set_option maxRecDepth 100000 in
set_option maxHeartbeats 4000000 in
theorem readToc_ok (v : Value) (m : List UInt8) (s : Nat) (w : World) (h : Bytes w v m) (hm : m.length = s + 52) (hs : s ≤ 2147483595) (hq : Lib.beNat ((m.drop s).drop 48) = crcOf ((m.drop s).take 48)) :
    Calls Tryz.prog 27 #[v] w fun e w' => e = .returned (.tuple #[.agg (tocCells (m.drop s)).toArray, .bool true]) ∧ Below w.heap.size w w' := by
  obtain ⟨ao, cap, rfl, hcap, hmax⟩ := h.form
  rw [hm] at h hcap ⊢
  obtain ⟨b, off, rfl, hb, hc⟩ := h.at_ (by omega)
  have hTb : Bytes w (.slice (some ⟨b, off + s, none⟩) 52 (cap - s)) (m.drop s) := by
    have := BB.from_ (s := s) h s 52 (by omega)
    rw [List.take_of_length_le (by rw [List.length_drop]; omega)] at this
    exact this
  have hTl : (m.drop s).length = 52 := by rw [List.length_drop]; omega
  clear hc h hm
  generalize m.drop s = T at *
  obtain ⟨W0, hW0, k2, K0, hsz, hbW⟩ : ∃ W, W = (w.alloc (.cells zero6.toArray T6)).alloc (.cells zero6.toArray T6) ∧ Blk W w.heap.size zero6 T6 ∧ Blk W (w.heap.size + 1) zero6 T6 ∧ W.heap.size = w.heap.size + 2 ∧ Below w.heap.size w W :=
    ⟨_, rfl, (Blk.new w zero6 T6).alloc _, by have := Blk.new (w.alloc (.cells zero6.toArray T6)) zero6 T6; simpa using this, by simp, (below_new w _).alloc (by simp) _⟩
  have hW := Lib.hid hW0.symm
  have n0 : (0 : Int) ≤ (s : Int) := by omega
  have n1 : ¬ (s : Int) + 52 < 52 := by omega
  have n2 : (s : Int) ≤ 2147483647 := by omega
  have n3 : (s : Int) ≤ (s : Int) + 52 := by omega
  have n4 : (s : Int) + 52 ≤ (cap : Int) := by omega
  have n5 : ¬ cap = s := by omega
  have n6 : s + 52 - s = 52 := by omega
  have hC1 : 52 ≤ cap - s ∧ cap - s ≤ maxLen := by omega
  clear hW0 hcap hmax
  go_enter Tryz.func27, Tryz.ntmps27
  go_wp2_with fail
  rw [hW.out]
  generalize off + s = O at *
  generalize cap - s = C at *
  clear n0 n1 n2 n3 n4 n5 n6
  have c0 : (52 : Int) ≤ (C : Int) := by omega
  have hB0 := hTb.up hbW
  refine wp_loop_rounds 7 ?_
  rw [rounds_succ]
  have i0 : Bytes W0 (.slice (some ⟨b, O, none⟩) 8 (C)) ((T.drop (8 * 0)).take 8) := by
    have : BB W0 W0.heap.size (.slice (some ⟨b, O, none⟩) 8 (C)) ((T.drop (8 * 0)).take 8) := by simpa using BB.from_ (s := s) hB0 (8 * 0) 8 (by omega)
    exact this
  have g0 : Calls Tryz.prog 16 #[.slice (some ⟨b, O, none⟩) 8 (C)] W0 fun e w' => e = .returned (.int .u64 (tocN T 0)) ∧ W0 = w' := big_any _ _ _ i0 (by rw [List.length_take]; omega)
  have d0 : ¬ C = 0 := by omega
  have f0 := K0.free 0
  have e0 := K0.cell 0
  go_wp2_with (first
    | (go_at_call 16; refine g0.mono ?_; rintro e w' ⟨rfl, rfl⟩)
    | fail)
  have K1 : Blk (W0.setCell ⟨w.heap.size + 1, 0, none⟩ (.int .u64 (tocN T 0))) (w.heap.size + 1) [.int .u64 (tocN T 0), .int .u64 0, .int .u64 0, .int .u64 0, .int .u64 0, .int .u64 0] T6 := K0.set 0 _
  have hc1 : Chg (fun k => k = w.heap.size + 1) W0 (W0.setCell ⟨w.heap.size + 1, 0, none⟩ (.int .u64 (tocN T 0))) := (Chg.refl (fun k => k = w.heap.size + 1) W0).setCell ⟨w.heap.size + 1, 0, none⟩ rfl _
  generalize W0.setCell ⟨w.heap.size + 1, 0, none⟩ (.int .u64 (tocN T 0)) = W1 at *
  have hB1 : Bytes W1 (.slice (some ⟨b, O, none⟩) 52 C) T := hTb.up (hbW.trans (hc1.below _ (by omega) (fun k hk => by omega)))
  clear i0 g0 d0 f0 e0 K0 hB0
  rw [rounds_succ]
  have i1 : Bytes W1 (.slice (some ⟨b, O + 8, none⟩) 8 (C - 8)) ((T.drop (8 * 1)).take 8) := by
    have : BB W1 W1.heap.size (.slice (some ⟨b, O + 8, none⟩) 8 (C - 8)) ((T.drop (8 * 1)).take 8) := by simpa using BB.from_ (s := s) hB1 (8 * 1) 8 (by omega)
    exact this
  have g1 : Calls Tryz.prog 16 #[.slice (some ⟨b, O + 8, none⟩) 8 (C - 8)] W1 fun e w' => e = .returned (.int .u64 (tocN T 1)) ∧ W1 = w' := big_any _ _ _ i1 (by rw [List.length_take]; omega)
  have d1 : ¬ C = 8 := by omega
  have f1 := K1.free 1
  have e1 := K1.cell 1
  go_wp2_with (first
    | (go_at_call 16; refine g1.mono ?_; rintro e w' ⟨rfl, rfl⟩)
    | fail)
  have K2 : Blk (W1.setCell ⟨w.heap.size + 1, 1, none⟩ (.int .u64 (tocN T 1))) (w.heap.size + 1) [.int .u64 (tocN T 0), .int .u64 (tocN T 1), .int .u64 0, .int .u64 0, .int .u64 0, .int .u64 0] T6 := K1.set 1 _
  have hc2 : Chg (fun k => k = w.heap.size + 1) W0 (W1.setCell ⟨w.heap.size + 1, 1, none⟩ (.int .u64 (tocN T 1))) := hc1.setCell ⟨w.heap.size + 1, 1, none⟩ rfl _
  generalize W1.setCell ⟨w.heap.size + 1, 1, none⟩ (.int .u64 (tocN T 1)) = W2 at *
  have hB2 : Bytes W2 (.slice (some ⟨b, O, none⟩) 52 C) T := hTb.up (hbW.trans (hc2.below _ (by omega) (fun k hk => by omega)))
  clear i1 g1 d1 f1 e1 K1 hB1 hc1
  rw [rounds_succ]
  have i2 : Bytes W2 (.slice (some ⟨b, O + 16, none⟩) 8 (C - 16)) ((T.drop (8 * 2)).take 8) := by
    have : BB W2 W2.heap.size (.slice (some ⟨b, O + 16, none⟩) 8 (C - 16)) ((T.drop (8 * 2)).take 8) := by simpa using BB.from_ (s := s) hB2 (8 * 2) 8 (by omega)
    exact this
  have g2 : Calls Tryz.prog 16 #[.slice (some ⟨b, O + 16, none⟩) 8 (C - 16)] W2 fun e w' => e = .returned (.int .u64 (tocN T 2)) ∧ W2 = w' := big_any _ _ _ i2 (by rw [List.length_take]; omega)
  have d2 : ¬ C = 16 := by omega
  have f2 := K2.free 2
  have e2 := K2.cell 2
  go_wp2_with (first
    | (go_at_call 16; refine g2.mono ?_; rintro e w' ⟨rfl, rfl⟩)
    | fail)
  have K3 : Blk (W2.setCell ⟨w.heap.size + 1, 2, none⟩ (.int .u64 (tocN T 2))) (w.heap.size + 1) [.int .u64 (tocN T 0), .int .u64 (tocN T 1), .int .u64 (tocN T 2), .int .u64 0, .int .u64 0, .int .u64 0] T6 := K2.set 2 _
  have hc3 : Chg (fun k => k = w.heap.size + 1) W0 (W2.setCell ⟨w.heap.size + 1, 2, none⟩ (.int .u64 (tocN T 2))) := hc2.setCell ⟨w.heap.size + 1, 2, none⟩ rfl _
  generalize W2.setCell ⟨w.heap.size + 1, 2, none⟩ (.int .u64 (tocN T 2)) = W3 at *
  have hB3 : Bytes W3 (.slice (some ⟨b, O, none⟩) 52 C) T := hTb.up (hbW.trans (hc3.below _ (by omega) (fun k hk => by omega)))
  clear i2 g2 d2 f2 e2 K2 hB2 hc2
  rw [rounds_succ]
  have i3 : Bytes W3 (.slice (some ⟨b, O + 24, none⟩) 8 (C - 24)) ((T.drop (8 * 3)).take 8) := by
    have : BB W3 W3.heap.size (.slice (some ⟨b, O + 24, none⟩) 8 (C - 24)) ((T.drop (8 * 3)).take 8) := by simpa using BB.from_ (s := s) hB3 (8 * 3) 8 (by omega)
    exact this
  have g3 : Calls Tryz.prog 16 #[.slice (some ⟨b, O + 24, none⟩) 8 (C - 24)] W3 fun e w' => e = .returned (.int .u64 (tocN T 3)) ∧ W3 = w' := big_any _ _ _ i3 (by rw [List.length_take]; omega)
  have d3 : ¬ C = 24 := by omega
  have f3 := K3.free 3
  have e3 := K3.cell 3
  go_wp2_with (first
    | (go_at_call 16; refine g3.mono ?_; rintro e w' ⟨rfl, rfl⟩)
    | fail)
  have K4 : Blk (W3.setCell ⟨w.heap.size + 1, 3, none⟩ (.int .u64 (tocN T 3))) (w.heap.size + 1) [.int .u64 (tocN T 0), .int .u64 (tocN T 1), .int .u64 (tocN T 2), .int .u64 (tocN T 3), .int .u64 0, .int .u64 0] T6 := K3.set 3 _
  have hc4 : Chg (fun k => k = w.heap.size + 1) W0 (W3.setCell ⟨w.heap.size + 1, 3, none⟩ (.int .u64 (tocN T 3))) := hc3.setCell ⟨w.heap.size + 1, 3, none⟩ rfl _
  generalize W3.setCell ⟨w.heap.size + 1, 3, none⟩ (.int .u64 (tocN T 3)) = W4 at *
  have hB4 : Bytes W4 (.slice (some ⟨b, O, none⟩) 52 C) T := hTb.up (hbW.trans (hc4.below _ (by omega) (fun k hk => by omega)))
  clear i3 g3 d3 f3 e3 K3 hB3 hc3
  rw [rounds_succ]
  have i4 : Bytes W4 (.slice (some ⟨b, O + 32, none⟩) 8 (C - 32)) ((T.drop (8 * 4)).take 8) := by
    have : BB W4 W4.heap.size (.slice (some ⟨b, O + 32, none⟩) 8 (C - 32)) ((T.drop (8 * 4)).take 8) := by simpa using BB.from_ (s := s) hB4 (8 * 4) 8 (by omega)
    exact this
  have g4 : Calls Tryz.prog 16 #[.slice (some ⟨b, O + 32, none⟩) 8 (C - 32)] W4 fun e w' => e = .returned (.int .u64 (tocN T 4)) ∧ W4 = w' := big_any _ _ _ i4 (by rw [List.length_take]; omega)
  have d4 : ¬ C = 32 := by omega
  have f4 := K4.free 4
  have e4 := K4.cell 4
  go_wp2_with (first
    | (go_at_call 16; refine g4.mono ?_; rintro e w' ⟨rfl, rfl⟩)
    | fail)
  have K5 : Blk (W4.setCell ⟨w.heap.size + 1, 4, none⟩ (.int .u64 (tocN T 4))) (w.heap.size + 1) [.int .u64 (tocN T 0), .int .u64 (tocN T 1), .int .u64 (tocN T 2), .int .u64 (tocN T 3), .int .u64 (tocN T 4), .int .u64 0] T6 := K4.set 4 _
  have hc5 : Chg (fun k => k = w.heap.size + 1) W0 (W4.setCell ⟨w.heap.size + 1, 4, none⟩ (.int .u64 (tocN T 4))) := hc4.setCell ⟨w.heap.size + 1, 4, none⟩ rfl _
  generalize W4.setCell ⟨w.heap.size + 1, 4, none⟩ (.int .u64 (tocN T 4)) = W5 at *
  have hB5 : Bytes W5 (.slice (some ⟨b, O, none⟩) 52 C) T := hTb.up (hbW.trans (hc5.below _ (by omega) (fun k hk => by omega)))
  clear i4 g4 d4 f4 e4 K4 hB4 hc4
  rw [rounds_succ]
  have i5 : Bytes W5 (.slice (some ⟨b, O + 40, none⟩) 8 (C - 40)) ((T.drop (8 * 5)).take 8) := by
    have : BB W5 W5.heap.size (.slice (some ⟨b, O + 40, none⟩) 8 (C - 40)) ((T.drop (8 * 5)).take 8) := by simpa using BB.from_ (s := s) hB5 (8 * 5) 8 (by omega)
    exact this
  have g5 : Calls Tryz.prog 16 #[.slice (some ⟨b, O + 40, none⟩) 8 (C - 40)] W5 fun e w' => e = .returned (.int .u64 (tocN T 5)) ∧ W5 = w' := big_any _ _ _ i5 (by rw [List.length_take]; omega)
  have d5 : ¬ C = 40 := by omega
  have f5 := K5.free 5
  have e5 := K5.cell 5
  go_wp2_with (first
    | (go_at_call 16; refine g5.mono ?_; rintro e w' ⟨rfl, rfl⟩)
    | fail)
  have K6 : Blk (W5.setCell ⟨w.heap.size + 1, 5, none⟩ (.int .u64 (tocN T 5))) (w.heap.size + 1) [.int .u64 (tocN T 0), .int .u64 (tocN T 1), .int .u64 (tocN T 2), .int .u64 (tocN T 3), .int .u64 (tocN T 4), .int .u64 (tocN T 5)] T6 := K5.set 5 _
  have hc6 : Chg (fun k => k = w.heap.size + 1) W0 (W5.setCell ⟨w.heap.size + 1, 5, none⟩ (.int .u64 (tocN T 5))) := hc5.setCell ⟨w.heap.size + 1, 5, none⟩ rfl _
  generalize W5.setCell ⟨w.heap.size + 1, 5, none⟩ (.int .u64 (tocN T 5)) = W6 at *
  have hB6 : Bytes W6 (.slice (some ⟨b, O, none⟩) 52 C) T := hTb.up (hbW.trans (hc6.below _ (by omega) (fun k hk => by omega)))
  clear i5 g5 d5 f5 e5 K5 hB5 hc5
  rw [rounds_succ]
  go_wp2_with fail
  have hb6 : Below w.heap.size w W6 := hbW.trans (hc6.below _ (by omega) (fun k hk => by omega))
  have K2 := k2.chg hc6 (by omega)
  have i6 : Bytes W6 (.slice (some ⟨b, O + 48, none⟩) 4 (C - 48)) (T.drop 48) := by
    have := BB.from_ (s := s) hB6 48 4 (by omega)
    rw [List.take_of_length_le (by rw [List.length_drop]; omega)] at this
    exact this
  have i7 : Bytes W6 (.slice (some ⟨b, O, none⟩) 48 C) (T.take 48) := by
    have : BB W6 W6.heap.size (.slice (some ⟨b, O, none⟩) 48 C) (T.take 48) := by simpa using BB.from_ (s := s) hB6 0 48 (by omega)
    exact this
  have g6 := fun q => big_any _ _ (W6.drewN q) (i6.up (below_drewN (Below.refl _ _) q)) (by rw [List.length_drop]; omega)
  have g7 := fun q => castagnoli_any _ _ (W6.drewN q) (i7.up (below_drewN (Below.refl _ _) q)) (by rw [List.length_take]; omega)
  have hl := crcOf_lt (T.take 48)
  have d6 : ¬ C = 48 := by omega
  have l0 : (0 : Int) ≤ ((crcOf (T.take 48) : Nat) : Int) := by omega
  have l1 : ((crcOf (T.take 48) : Nat) : Int) < 4294967296 := by omega
  rw [hq] at g6
  generalize ((crcOf (T.take 48) : Nat) : Int) = z at *
  clear hq hl
  go_quiet (first
    | (go_at_call 16; refine (g6 _).mono ?_; rintro e w' ⟨rfl, rfl⟩; exact ⟨rfl, _, rfl⟩)
    | (go_at_call 53; refine (g7 _).mono ?_; rintro e w' ⟨rfl, rfl⟩; exact ⟨rfl, _, rfl⟩)
    | fail)
  have hb7 := below_drewN hb6 nq
  have K3 := K2.drewN nq
  have K7 := K6.drewN nq
  generalize W6.drewN nq = W7 at *
  have f0 := K3.free 0
  have e0 := K3.cell 0
  have j0 := K7.cell 0
  have f1 := K3.free 1
  have e1 := K3.cell 1
  have j1 := K7.cell 1
  have f2 := K3.free 2
  have e2 := K3.cell 2
  have j2 := K7.cell 2
  have f3 := K3.free 3
  have e3 := K3.cell 3
  have j3 := K7.cell 3
  have f4 := K3.free 4
  have e4 := K3.cell 4
  have j4 := K7.cell 4
  have f5 := K3.free 5
  have e5 := K3.cell 5
  have j5 := K7.cell 5
  go_wp2_with fail
  obtain ⟨m1, c1⟩ := six_set K3 (.int .u64 (tocN T 0)) (.int .u64 (tocN T 1)) (.int .u64 (tocN T 2)) (.int .u64 (tocN T 3)) (.int .u64 (tocN T 4)) (.int .u64 (tocN T 5))
  have r0 := m1.cell 0
  have r1 := m1.cell 1
  have r2 := m1.cell 2
  have r3 := m1.cell 3
  have r4 := m1.cell 4
  have r5 := m1.cell 5
  have hz7 := hb7.size
  refine bodyPost_ret (v := .tuple #[.agg (tocCells T).toArray, .bool true]) (by simp [results, Tryz.results27, go_sem, r0, r1, r2, r3, r4, r5]) rfl ⟨rfl, ?_⟩
  exact hb7.trans (c1.below _ hz7 (fun k hk => by omega))

set_option maxRecDepth 100000 in
set_option maxHeartbeats 4000000 in
theorem readToc_sum (v : Value) (m : List UInt8) (s : Nat) (w : World) (h : Bytes w v m) (hm : m.length = s + 52) (hs : s ≤ 2147483595) (hq : ¬ Lib.beNat ((m.drop s).drop 48) = crcOf ((m.drop s).take 48)) :
    Calls Tryz.prog 27 #[v] w fun e w' => e = .returned (.tuple #[.agg zero6.toArray, .bool false]) ∧ Below w.heap.size w w' := by
  obtain ⟨ao, cap, rfl, hcap, hmax⟩ := h.form
  rw [hm] at h hcap ⊢
  obtain ⟨b, off, rfl, hb, hc⟩ := h.at_ (by omega)
  have hTb : Bytes w (.slice (some ⟨b, off + s, none⟩) 52 (cap - s)) (m.drop s) := by
    have := BB.from_ (s := s) h s 52 (by omega)
    rw [List.take_of_length_le (by rw [List.length_drop]; omega)] at this
    exact this
  have hTl : (m.drop s).length = 52 := by rw [List.length_drop]; omega
  clear hc h hm
  generalize m.drop s = T at *
  obtain ⟨W0, hW0, k2, K0, hsz, hbW⟩ : ∃ W, W = (w.alloc (.cells zero6.toArray T6)).alloc (.cells zero6.toArray T6) ∧ Blk W w.heap.size zero6 T6 ∧ Blk W (w.heap.size + 1) zero6 T6 ∧ W.heap.size = w.heap.size + 2 ∧ Below w.heap.size w W :=
    ⟨_, rfl, (Blk.new w zero6 T6).alloc _, by have := Blk.new (w.alloc (.cells zero6.toArray T6)) zero6 T6; simpa using this, by simp, (below_new w _).alloc (by simp) _⟩
  have hW := Lib.hid hW0.symm
  have n0 : (0 : Int) ≤ (s : Int) := by omega
  have n1 : ¬ (s : Int) + 52 < 52 := by omega
  have n2 : (s : Int) ≤ 2147483647 := by omega
  have n3 : (s : Int) ≤ (s : Int) + 52 := by omega
  have n4 : (s : Int) + 52 ≤ (cap : Int) := by omega
  have n5 : ¬ cap = s := by omega
  have n6 : s + 52 - s = 52 := by omega
  have hC1 : 52 ≤ cap - s ∧ cap - s ≤ maxLen := by omega
  clear hW0 hcap hmax
  go_enter Tryz.func27, Tryz.ntmps27
  go_wp2_with fail
  rw [hW.out]
  generalize off + s = O at *
  generalize cap - s = C at *
  clear n0 n1 n2 n3 n4 n5 n6
  have c0 : (52 : Int) ≤ (C : Int) := by omega
  have hB0 := hTb.up hbW
  refine wp_loop_rounds 7 ?_
  rw [rounds_succ]
  have i0 : Bytes W0 (.slice (some ⟨b, O, none⟩) 8 (C)) ((T.drop (8 * 0)).take 8) := by
    have : BB W0 W0.heap.size (.slice (some ⟨b, O, none⟩) 8 (C)) ((T.drop (8 * 0)).take 8) := by simpa using BB.from_ (s := s) hB0 (8 * 0) 8 (by omega)
    exact this
  have g0 : Calls Tryz.prog 16 #[.slice (some ⟨b, O, none⟩) 8 (C)] W0 fun e w' => e = .returned (.int .u64 (tocN T 0)) ∧ W0 = w' := big_any _ _ _ i0 (by rw [List.length_take]; omega)
  have d0 : ¬ C = 0 := by omega
  have f0 := K0.free 0
  have e0 := K0.cell 0
  go_wp2_with (first
    | (go_at_call 16; refine g0.mono ?_; rintro e w' ⟨rfl, rfl⟩)
    | fail)
  have K1 : Blk (W0.setCell ⟨w.heap.size + 1, 0, none⟩ (.int .u64 (tocN T 0))) (w.heap.size + 1) [.int .u64 (tocN T 0), .int .u64 0, .int .u64 0, .int .u64 0, .int .u64 0, .int .u64 0] T6 := K0.set 0 _
  have hc1 : Chg (fun k => k = w.heap.size + 1) W0 (W0.setCell ⟨w.heap.size + 1, 0, none⟩ (.int .u64 (tocN T 0))) := (Chg.refl (fun k => k = w.heap.size + 1) W0).setCell ⟨w.heap.size + 1, 0, none⟩ rfl _
  generalize W0.setCell ⟨w.heap.size + 1, 0, none⟩ (.int .u64 (tocN T 0)) = W1 at *
  have hB1 : Bytes W1 (.slice (some ⟨b, O, none⟩) 52 C) T := hTb.up (hbW.trans (hc1.below _ (by omega) (fun k hk => by omega)))
  clear i0 g0 d0 f0 e0 K0 hB0
  rw [rounds_succ]
  have i1 : Bytes W1 (.slice (some ⟨b, O + 8, none⟩) 8 (C - 8)) ((T.drop (8 * 1)).take 8) := by
    have : BB W1 W1.heap.size (.slice (some ⟨b, O + 8, none⟩) 8 (C - 8)) ((T.drop (8 * 1)).take 8) := by simpa using BB.from_ (s := s) hB1 (8 * 1) 8 (by omega)
    exact this
  have g1 : Calls Tryz.prog 16 #[.slice (some ⟨b, O + 8, none⟩) 8 (C - 8)] W1 fun e w' => e = .returned (.int .u64 (tocN T 1)) ∧ W1 = w' := big_any _ _ _ i1 (by rw [List.length_take]; omega)
  have d1 : ¬ C = 8 := by omega
  have f1 := K1.free 1
  have e1 := K1.cell 1
  go_wp2_with (first
    | (go_at_call 16; refine g1.mono ?_; rintro e w' ⟨rfl, rfl⟩)
    | fail)
  have K2 : Blk (W1.setCell ⟨w.heap.size + 1, 1, none⟩ (.int .u64 (tocN T 1))) (w.heap.size + 1) [.int .u64 (tocN T 0), .int .u64 (tocN T 1), .int .u64 0, .int .u64 0, .int .u64 0, .int .u64 0] T6 := K1.set 1 _
  have hc2 : Chg (fun k => k = w.heap.size + 1) W0 (W1.setCell ⟨w.heap.size + 1, 1, none⟩ (.int .u64 (tocN T 1))) := hc1.setCell ⟨w.heap.size + 1, 1, none⟩ rfl _
  generalize W1.setCell ⟨w.heap.size + 1, 1, none⟩ (.int .u64 (tocN T 1)) = W2 at *
  have hB2 : Bytes W2 (.slice (some ⟨b, O, none⟩) 52 C) T := hTb.up (hbW.trans (hc2.below _ (by omega) (fun k hk => by omega)))
  clear i1 g1 d1 f1 e1 K1 hB1 hc1
  rw [rounds_succ]
  have i2 : Bytes W2 (.slice (some ⟨b, O + 16, none⟩) 8 (C - 16)) ((T.drop (8 * 2)).take 8) := by
    have : BB W2 W2.heap.size (.slice (some ⟨b, O + 16, none⟩) 8 (C - 16)) ((T.drop (8 * 2)).take 8) := by simpa using BB.from_ (s := s) hB2 (8 * 2) 8 (by omega)
    exact this
  have g2 : Calls Tryz.prog 16 #[.slice (some ⟨b, O + 16, none⟩) 8 (C - 16)] W2 fun e w' => e = .returned (.int .u64 (tocN T 2)) ∧ W2 = w' := big_any _ _ _ i2 (by rw [List.length_take]; omega)
  have d2 : ¬ C = 16 := by omega
  have f2 := K2.free 2
  have e2 := K2.cell 2
  go_wp2_with (first
    | (go_at_call 16; refine g2.mono ?_; rintro e w' ⟨rfl, rfl⟩)
    | fail)
  have K3 : Blk (W2.setCell ⟨w.heap.size + 1, 2, none⟩ (.int .u64 (tocN T 2))) (w.heap.size + 1) [.int .u64 (tocN T 0), .int .u64 (tocN T 1), .int .u64 (tocN T 2), .int .u64 0, .int .u64 0, .int .u64 0] T6 := K2.set 2 _
  have hc3 : Chg (fun k => k = w.heap.size + 1) W0 (W2.setCell ⟨w.heap.size + 1, 2, none⟩ (.int .u64 (tocN T 2))) := hc2.setCell ⟨w.heap.size + 1, 2, none⟩ rfl _
  generalize W2.setCell ⟨w.heap.size + 1, 2, none⟩ (.int .u64 (tocN T 2)) = W3 at *
  have hB3 : Bytes W3 (.slice (some ⟨b, O, none⟩) 52 C) T := hTb.up (hbW.trans (hc3.below _ (by omega) (fun k hk => by omega)))
  clear i2 g2 d2 f2 e2 K2 hB2 hc2
  rw [rounds_succ]
  have i3 : Bytes W3 (.slice (some ⟨b, O + 24, none⟩) 8 (C - 24)) ((T.drop (8 * 3)).take 8) := by
    have : BB W3 W3.heap.size (.slice (some ⟨b, O + 24, none⟩) 8 (C - 24)) ((T.drop (8 * 3)).take 8) := by simpa using BB.from_ (s := s) hB3 (8 * 3) 8 (by omega)
    exact this
  have g3 : Calls Tryz.prog 16 #[.slice (some ⟨b, O + 24, none⟩) 8 (C - 24)] W3 fun e w' => e = .returned (.int .u64 (tocN T 3)) ∧ W3 = w' := big_any _ _ _ i3 (by rw [List.length_take]; omega)
  have d3 : ¬ C = 24 := by omega
  have f3 := K3.free 3
  have e3 := K3.cell 3
  go_wp2_with (first
    | (go_at_call 16; refine g3.mono ?_; rintro e w' ⟨rfl, rfl⟩)
    | fail)
  have K4 : Blk (W3.setCell ⟨w.heap.size + 1, 3, none⟩ (.int .u64 (tocN T 3))) (w.heap.size + 1) [.int .u64 (tocN T 0), .int .u64 (tocN T 1), .int .u64 (tocN T 2), .int .u64 (tocN T 3), .int .u64 0, .int .u64 0] T6 := K3.set 3 _
  have hc4 : Chg (fun k => k = w.heap.size + 1) W0 (W3.setCell ⟨w.heap.size + 1, 3, none⟩ (.int .u64 (tocN T 3))) := hc3.setCell ⟨w.heap.size + 1, 3, none⟩ rfl _
  generalize W3.setCell ⟨w.heap.size + 1, 3, none⟩ (.int .u64 (tocN T 3)) = W4 at *
  have hB4 : Bytes W4 (.slice (some ⟨b, O, none⟩) 52 C) T := hTb.up (hbW.trans (hc4.below _ (by omega) (fun k hk => by omega)))
  clear i3 g3 d3 f3 e3 K3 hB3 hc3
  rw [rounds_succ]
  have i4 : Bytes W4 (.slice (some ⟨b, O + 32, none⟩) 8 (C - 32)) ((T.drop (8 * 4)).take 8) := by
    have : BB W4 W4.heap.size (.slice (some ⟨b, O + 32, none⟩) 8 (C - 32)) ((T.drop (8 * 4)).take 8) := by simpa using BB.from_ (s := s) hB4 (8 * 4) 8 (by omega)
    exact this
  have g4 : Calls Tryz.prog 16 #[.slice (some ⟨b, O + 32, none⟩) 8 (C - 32)] W4 fun e w' => e = .returned (.int .u64 (tocN T 4)) ∧ W4 = w' := big_any _ _ _ i4 (by rw [List.length_take]; omega)
  have d4 : ¬ C = 32 := by omega
  have f4 := K4.free 4
  have e4 := K4.cell 4
  go_wp2_with (first
    | (go_at_call 16; refine g4.mono ?_; rintro e w' ⟨rfl, rfl⟩)
    | fail)
  have K5 : Blk (W4.setCell ⟨w.heap.size + 1, 4, none⟩ (.int .u64 (tocN T 4))) (w.heap.size + 1) [.int .u64 (tocN T 0), .int .u64 (tocN T 1), .int .u64 (tocN T 2), .int .u64 (tocN T 3), .int .u64 (tocN T 4), .int .u64 0] T6 := K4.set 4 _
  have hc5 : Chg (fun k => k = w.heap.size + 1) W0 (W4.setCell ⟨w.heap.size + 1, 4, none⟩ (.int .u64 (tocN T 4))) := hc4.setCell ⟨w.heap.size + 1, 4, none⟩ rfl _
  generalize W4.setCell ⟨w.heap.size + 1, 4, none⟩ (.int .u64 (tocN T 4)) = W5 at *
  have hB5 : Bytes W5 (.slice (some ⟨b, O, none⟩) 52 C) T := hTb.up (hbW.trans (hc5.below _ (by omega) (fun k hk => by omega)))
  clear i4 g4 d4 f4 e4 K4 hB4 hc4
  rw [rounds_succ]
  have i5 : Bytes W5 (.slice (some ⟨b, O + 40, none⟩) 8 (C - 40)) ((T.drop (8 * 5)).take 8) := by
    have : BB W5 W5.heap.size (.slice (some ⟨b, O + 40, none⟩) 8 (C - 40)) ((T.drop (8 * 5)).take 8) := by simpa using BB.from_ (s := s) hB5 (8 * 5) 8 (by omega)
    exact this
  have g5 : Calls Tryz.prog 16 #[.slice (some ⟨b, O + 40, none⟩) 8 (C - 40)] W5 fun e w' => e = .returned (.int .u64 (tocN T 5)) ∧ W5 = w' := big_any _ _ _ i5 (by rw [List.length_take]; omega)
  have d5 : ¬ C = 40 := by omega
  have f5 := K5.free 5
  have e5 := K5.cell 5
  go_wp2_with (first
    | (go_at_call 16; refine g5.mono ?_; rintro e w' ⟨rfl, rfl⟩)
    | fail)
  have K6 : Blk (W5.setCell ⟨w.heap.size + 1, 5, none⟩ (.int .u64 (tocN T 5))) (w.heap.size + 1) [.int .u64 (tocN T 0), .int .u64 (tocN T 1), .int .u64 (tocN T 2), .int .u64 (tocN T 3), .int .u64 (tocN T 4), .int .u64 (tocN T 5)] T6 := K5.set 5 _
  have hc6 : Chg (fun k => k = w.heap.size + 1) W0 (W5.setCell ⟨w.heap.size + 1, 5, none⟩ (.int .u64 (tocN T 5))) := hc5.setCell ⟨w.heap.size + 1, 5, none⟩ rfl _
  generalize W5.setCell ⟨w.heap.size + 1, 5, none⟩ (.int .u64 (tocN T 5)) = W6 at *
  have hB6 : Bytes W6 (.slice (some ⟨b, O, none⟩) 52 C) T := hTb.up (hbW.trans (hc6.below _ (by omega) (fun k hk => by omega)))
  clear i5 g5 d5 f5 e5 K5 hB5 hc5
  rw [rounds_succ]
  go_wp2_with fail
  have hb6 : Below w.heap.size w W6 := hbW.trans (hc6.below _ (by omega) (fun k hk => by omega))
  have K2 := k2.chg hc6 (by omega)
  have i6 : Bytes W6 (.slice (some ⟨b, O + 48, none⟩) 4 (C - 48)) (T.drop 48) := by
    have := BB.from_ (s := s) hB6 48 4 (by omega)
    rw [List.take_of_length_le (by rw [List.length_drop]; omega)] at this
    exact this
  have i7 : Bytes W6 (.slice (some ⟨b, O, none⟩) 48 C) (T.take 48) := by
    have : BB W6 W6.heap.size (.slice (some ⟨b, O, none⟩) 48 C) (T.take 48) := by simpa using BB.from_ (s := s) hB6 0 48 (by omega)
    exact this
  have g6 := fun q => big_any _ _ (W6.drewN q) (i6.up (below_drewN (Below.refl _ _) q)) (by rw [List.length_drop]; omega)
  have g7 := fun q => castagnoli_any _ _ (W6.drewN q) (i7.up (below_drewN (Below.refl _ _) q)) (by rw [List.length_take]; omega)
  have hl := crcOf_lt (T.take 48)
  have d6 : ¬ C = 48 := by omega
  have l0 : (0 : Int) ≤ ((crcOf (T.take 48) : Nat) : Int) := by omega
  have l1 : ((crcOf (T.take 48) : Nat) : Int) < 4294967296 := by omega
  have hne : (((Lib.beNat (T.drop 48) : Nat) : Int) == ((crcOf (T.take 48) : Nat) : Int)) = false := by rw [beq_eq_false_iff_ne]; omega
  generalize ((crcOf (T.take 48) : Nat) : Int) = z at *
  generalize ((Lib.beNat (T.drop 48) : Nat) : Int) = y at *
  clear hq hl
  go_quiet (first
    | (go_at_call 16; refine (g6 _).mono ?_; rintro e w' ⟨rfl, rfl⟩; exact ⟨rfl, _, rfl⟩)
    | (go_at_call 53; refine (g7 _).mono ?_; rintro e w' ⟨rfl, rfl⟩; exact ⟨rfl, _, rfl⟩)
    | fail)
  have hb7 := below_drewN hb6 nq
  have K3 := K2.drewN nq
  have K7 := K6.drewN nq
  generalize W6.drewN nq = W7 at *
  have f0 := K3.free 0
  have e0 := K3.cell 0
  have j0 := K7.cell 0
  have f1 := K3.free 1
  have e1 := K3.cell 1
  have j1 := K7.cell 1
  have f2 := K3.free 2
  have e2 := K3.cell 2
  have j2 := K7.cell 2
  have f3 := K3.free 3
  have e3 := K3.cell 3
  have j3 := K7.cell 3
  have f4 := K3.free 4
  have e4 := K3.cell 4
  have j4 := K7.cell 4
  have f5 := K3.free 5
  have e5 := K3.cell 5
  have j5 := K7.cell 5
  go_wp2_with fail
  obtain ⟨m1, c1⟩ := six_set K3 (.int .u64 0) (.int .u64 0) (.int .u64 0) (.int .u64 0) (.int .u64 0) (.int .u64 0)
  have r0 := m1.cell 0
  have r1 := m1.cell 1
  have r2 := m1.cell 2
  have r3 := m1.cell 3
  have r4 := m1.cell 4
  have r5 := m1.cell 5
  have hz7 := hb7.size
  refine bodyPost_ret (v := .tuple #[.agg zero6.toArray, .bool false]) (by simp [results, Tryz.results27, go_sem, r0, r1, r2, r3, r4, r5]) rfl ⟨rfl, ?_⟩
  exact hb7.trans (c1.below _ hz7 (fun k hk => by omega))

set_option maxRecDepth 100000 in
set_option maxHeartbeats 4000000 in
theorem readToc_short (v : Value) (m : List UInt8) (w : World) (h : Bytes w v m) (hm : m.length < 52) :
    Calls Tryz.prog 27 #[v] w fun e w' => e = .returned (.tuple #[.agg zero6.toArray, .bool false]) ∧ Below w.heap.size w w' := by
  obtain ⟨ao, cap, rfl, hcap, hmax⟩ := h.form
  obtain ⟨W0, hW0, K3, K7, hsz, hbW⟩ : ∃ W, W = (w.alloc (.cells zero6.toArray T6)).alloc (.cells zero6.toArray T6) ∧ Blk W w.heap.size zero6 T6 ∧ Blk W (w.heap.size + 1) zero6 T6 ∧ W.heap.size = w.heap.size + 2 ∧ Below w.heap.size w W :=
    ⟨_, rfl, (Blk.new w zero6 T6).alloc _, by have := Blk.new (w.alloc (.cells zero6.toArray T6)) zero6 T6; simpa using this, by simp, (below_new w _).alloc (by simp) _⟩
  have hW := Lib.hid hW0.symm
  have n1 : (m.length : Int) < 52 := by omega
  clear hW0 hcap hmax h hm
  generalize m.length = n at *
  have f0 := K3.free 0
  have e0 := K3.cell 0
  have j0 := K7.cell 0
  have f1 := K3.free 1
  have e1 := K3.cell 1
  have j1 := K7.cell 1
  have f2 := K3.free 2
  have e2 := K3.cell 2
  have j2 := K7.cell 2
  have f3 := K3.free 3
  have e3 := K3.cell 3
  have j3 := K7.cell 3
  have f4 := K3.free 4
  have e4 := K3.cell 4
  have j4 := K7.cell 4
  have f5 := K3.free 5
  have e5 := K3.cell 5
  have j5 := K7.cell 5
  go_enter Tryz.func27, Tryz.ntmps27
  go_upto_region 3 with fail
  rw [hW.out]
  go_wp2_with fail
  obtain ⟨m1, c1⟩ := six_set K3 (.int .u64 0) (.int .u64 0) (.int .u64 0) (.int .u64 0) (.int .u64 0) (.int .u64 0)
  have r0 := m1.cell 0
  have r1 := m1.cell 1
  have r2 := m1.cell 2
  have r3 := m1.cell 3
  have r4 := m1.cell 4
  have r5 := m1.cell 5
  refine bodyPost_ret (v := .tuple #[.agg zero6.toArray, .bool false]) (by simp [results, Tryz.results27, go_sem, r0, r1, r2, r3, r4, r5]) rfl ⟨rfl, ?_⟩
  exact hbW.trans (c1.below _ (by omega) (fun k hk => by omega))
end Go.Proofs.YtfllcbcokncgpaaGreatDoor
