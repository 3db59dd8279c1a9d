/-
  NewDecbufAt, where the bytes fit.
-/
import Derived.Test.YthcmpkpbdgnfpaaGreatDoorDecAt
namespace Go.Proofs.YthcmpkpbdgnfpaaGreatDoor
set_option linter.unusedSimpArgs false
set_option linter.unusedVariables false
open Go.RowKit

set_option maxRecDepth 100000 in
set_option maxHeartbeats 4000000 in
theorem newAt_fine (b off m cap t n T : Nat) (l : List UInt8) (w : World) (h : Bytes w (.slice (some ⟨b, off, none⟩) m cap) l) (hm : l.length = m) (ht : t ≤ 65535) (hs : t + 4 ≤ m) (hcm : m ≤ cap) (hcap : cap ≤ maxLen) (hml : m ≤ 2147483647) (hn : Lib.beNat ((l.drop t).take 4) = n) (hfit : t + 4 + n + 4 ≤ m) (hTab : Blk w T [.int .u32 2197175160] 103)
    (hq : Lib.beNat (((l.drop (t + 4)).drop n).take 4) = crcOf ((l.drop (t + 4)).take n)) :
    Calls Tryz.prog 29 #[.iface ST (.slice (some ⟨b, off, none⟩) m cap), .int .i64 t, .pointer (some ⟨T, 0, none⟩)] w fun e w' => ∃ a k c, e = .returned (.agg #[.slice a k c, .nilIface]) ∧ Bytes w (.slice a k c) ((l.drop (t + 4)).take n) ∧ Below w.heap.size w w' := by
  have hmL := sL
  have hmR := sR
  obtain ⟨W0, hW0, K0, hsz, hbW⟩ : ∃ W, W = w.alloc (.cells #[.slice none 0 0, .nilIface] DT) ∧ Blk W w.heap.size [.slice none 0 0, .nilIface] DT ∧ W.heap.size = w.heap.size + 1 ∧ Below w.heap.size w W := ⟨_, rfl, Blk.new w _ _, by simp, below_new w _⟩
  have hW := Lib.hid hW0.symm
  have hTl := hTab.lt
  have hTab0 := hTab.chg (Chg.ofBelow hbW) (by omega)
  have i4 : Bytes W0 (.slice (some ⟨b, off + t, none⟩) 4 (cap - t)) ((l.drop t).take 4) := (BB.from_ h t 4 (by omega) : Bytes w _ _).up hbW
  obtain ⟨t0, t1, t2, t3, hT4⟩ := four_of (l := (l.drop t).take 4) (by rw [List.length_take, List.length_drop]; omega)
  rw [hT4] at i4 hn
  obtain ⟨gb, go, hgo, _, hgc⟩ := i4.at_ (by simp)
  cases hgo
  have hU := Tryz.binary_BE_Uint32 b (off + t) 4 (cap - t) t0 t1 t2 t3 W0 (by omega) (hgc 0 (by simp)) (hgc 1 (by simp)) (hgc 2 (by simp)) (hgc 3 (by simp))
  have hn4 : n < 4294967296 := by have := beNat_lt [t0, t1, t2, t3]; rw [hn] at this; simpa using this
  rw [hn] at hU
  have hM : Bytes w (.slice (some ⟨b, off + (t + 4), none⟩) (n + 4) (cap - (t + 4))) ((l.drop (t + 4)).take (n + 4)) := BB.from_ h (t + 4) (n + 4) (by omega)
  have hMl : ((l.drop (t + 4)).take (n + 4)).length = n + 4 := by rw [List.length_take, List.length_drop]; omega
  have i5 : Bytes w (.slice (some ⟨b, off + (t + 4) + n, none⟩) 4 (cap - (t + 4) - n)) (((l.drop (t + 4)).drop n).take 4) := by
    have := BB.from_ hM n 4 (by omega)
    rw [List.drop_take, List.take_take, show min 4 (n + 4 - n) = 4 by omega] at this
    exact this
  have i6 : Bytes w (.slice (some ⟨b, off + (t + 4), none⟩) n (cap - (t + 4))) ((l.drop (t + 4)).take n) := by
    have := BB.from_ hM 0 n (by omega)
    rw [List.drop_zero, List.take_take, show min n (n + 4) = n by omega] at this
    exact this
  obtain ⟨s0, s1, s2, s3, hS4⟩ := four_of (l := ((l.drop (t + 4)).drop n).take 4) (by rw [List.length_take, List.length_drop, List.length_drop]; omega)
  rw [hS4] at i5 hq
  have hll : ((l.drop (t + 4)).take n).length ≤ 2147483647 := by rw [List.length_take]; omega
  have rg1 := fun W => slRange_any b off m cap t 4 (t : Int) ((t : Int) + 4) rfl (by omega) W (by omega) (by omega) hcap
  obtain ⟨z, hz⟩ : ∃ z : Int, z = (n : Int) := ⟨_, rfl⟩
  have rg2 := fun W => slRange_any b off m cap (t + 4) (n + 4) ((t : Int) + 4) ((t : Int) + 4 + z + 4) (by omega) (by omega) W (by omega) (by omega) hcap
  have n0 : (0 : Int) ≤ (t : Int) := by omega
  have n1 : (t : Int) ≤ 65535 := by omega
  have n2 : ¬ (m : Int) < (t : Int) + 4 := by omega
  have n3 : (0 : Int) ≤ z := by omega
  have n4 : z < 4294967296 := by omega
  have n5 : ¬ (m : Int) < (t : Int) + 4 + z + 4 := by omega
  rw [← hz] at hU
  have hC : n + 4 ≤ cap - (t + 4) ∧ cap - (t + 4) ≤ maxLen := by omega
  generalize off + (t + 4) = O at *
  generalize cap - (t + 4) = C at *
  generalize (l.drop (t + 4)).take n = L at *
  have n6 : (n : Int) + 4 ≤ (C : Int) := by omega
  have n7 : (n : Int) ≤ (C : Int) := by omega
  have n8 : ¬ C = n := by omega
  have n9 : n + 4 - n = 4 := by omega
  have n10 : (0 : Int) ≤ (n : Int) := by omega
  have n12 : (n : Int) ≤ (n : Int) + 4 := by omega
  have n11 : (n : Int) ≤ 2147483647 := by omega
  clear hW0 h hgc i4 hT4 hn hm hS4 hM hMl hz hTab
  go_enter Tryz.func29, Tryz.ntmps29
  go_upto_region 3 with (first
    | (go_at_call 123; refine (slLen_any _ _ _ _).mono ?_; rintro e w' ⟨rfl, rfl⟩)
    | fail)
  rw [hW.out]
  go_wp2_with (first
    | (go_at_call 123; refine (slLen_any _ _ _ _).mono ?_; rintro e w' ⟨rfl, rfl⟩)
    | (go_at_call 124; with_reducible refine (rg1 _).mono ?_; rintro e w' ⟨rfl, rfl⟩)
    | (go_at_call 124; with_reducible refine (rg2 _).mono ?_; rintro e w' ⟨rfl, rfl⟩)
    | (go_at_call 71; refine hU.mono ?_; rintro e w1 ⟨rfl, hb1⟩)
    | fail)
  obtain ⟨W2, hW2, KD, hsz2, hb2⟩ : ∃ W, W = w1.alloc (.cells #[.slice (some ⟨b, O, none⟩) n C, .nilIface] DT) ∧ Blk W w1.heap.size [.slice (some ⟨b, O, none⟩) n C, .nilIface] DT ∧ W.heap.size = w1.heap.size + 1 ∧ Below w1.heap.size w1 W := ⟨_, rfl, Blk.new w1 _ _, by simp, below_new w1 _⟩
  rw [← hW2]
  clear hW2
  have hz1 := hb1.size
  have K2 := (K0.chg (Chg.ofBelow hb1) (by omega)).chg (Chg.ofBelow hb2) (by omega)
  have T2 := (hTab0.chg (Chg.ofBelow hb1) (by omega)).chg (Chg.ofBelow hb2) (by omega)
  have hbA : Below w.heap.size w W2 := bnx (bnx hbW hb1) hb2
  have j5 := i5.up hbA
  have j6 := i6.up hbA
  obtain ⟨gb, go, hgo, _, hgc⟩ := j5.at_ (by simp)
  cases hgo
  have hU2 := Tryz.binary_BE_Uint32 b (O + n) 4 (C - n) s0 s1 s2 s3 W2.drew (by omega) (hgc 0 (by simp)) (hgc 1 (by simp)) (hgc 2 (by simp)) (hgc 3 (by simp))
  rw [hq] at hU2
  clear hgc j5
  go_cut [10] from 11 (fun s10 wx => s10 = .int .u32 ((crcOf L : Nat) : Int) ∧ Below W2.heap.size W2 wx)
  case first =>
    have hw : IntKind.i64.wrap (n : Int) = (n : Int) := IntWalk.i64_in _ (by omega)
    go_region_with (first
      | (go_at_call 71; refine hU2.mono ?_; rintro e w3 ⟨rfl, hb3⟩)
      | fail)
    all_goals
      clear hw
      go_wp2_with fail
      go_meet
      exact ⟨rfl, (below_drewN (Below.refl _ _) 1 : Below W2.heap.size W2 W2.drew).trans hb3⟩
  case rest =>
    obtain ⟨rfl, hb3⟩ := hcut
    have hz3 := hb3.size
    have KD3 := KD.chg (Chg.ofBelow hb3) (by omega)
    have K3 := K2.chg (Chg.ofBelow hb3) (by omega)
    have T3 := T2.chg (Chg.ofBelow hb3) (by omega)
    have hCr := crc32_any w1.heap.size _ _ L T wc KD3 (j6.up hb3) hll T3
    have f0 := K3.free 0
    have f1 := K3.free 1
    have e0 := K3.cell 0
    have e1 := K3.cell 1
    have d0 := KD3.cell 0
    have d1 := KD3.cell 1
    generalize ((crcOf L : Nat) : Int) = z at *
    go_wp2_with (first
      | (go_at_call 70; refine hCr.mono ?_; rintro e w' ⟨rfl, rfl⟩)
      | fail)
    obtain ⟨m1, c1⟩ := two_set2 K3 (.slice (some ⟨b, O, none⟩) n C) .nilIface
    have r0 := m1.cell 0
    have r1 := m1.cell 1
    have hB := bnx hbA hb3
    refine bodyPost_ret (v := .agg #[.slice (some ⟨b, O, none⟩) n C, .nilIface]) (by simp [results, Tryz.results29, go_sem, r0, r1]) rfl ⟨_, _, _, rfl, i6, ?_⟩
    exact hB.trans (c1.below _ hB.size (fun k hk => by omega))

set_option maxRecDepth 100000 in
set_option maxHeartbeats 4000000 in
theorem newAt_sum (b off m cap t n T : Nat) (l : List UInt8) (w : World) (p : Addr) (hE : w.cell? ⟨EC, 0, none⟩ = some (.iface ET (.pointer (some p)))) (h : Bytes w (.slice (some ⟨b, off, none⟩) m cap) l) (hm : l.length = m) (ht : t ≤ 65535) (hs : t + 4 ≤ m) (hcm : m ≤ cap) (hcap : cap ≤ maxLen) (hml : m ≤ 2147483647) (hn : Lib.beNat ((l.drop t).take 4) = n) (hfit : t + 4 + n + 4 ≤ m) (hTab : Blk w T [.int .u32 2197175160] 103)
    (hq : ¬ Lib.beNat (((l.drop (t + 4)).drop n).take 4) = crcOf ((l.drop (t + 4)).take n)) :
    Calls Tryz.prog 29 #[.iface ST (.slice (some ⟨b, off, none⟩) m cap), .int .i64 t, .pointer (some ⟨T, 0, none⟩)] w fun e w' => e = .returned (.agg #[.slice none 0 0, .iface ET (.pointer (some p))]) ∧ Below w.heap.size w w' := by
  have hmL := sL
  have hmR := sR
  have hEl := cell_lt hE
  obtain ⟨W0, hW0, K0, hsz, hbW⟩ : ∃ W, W = w.alloc (.cells #[.slice none 0 0, .nilIface] DT) ∧ Blk W w.heap.size [.slice none 0 0, .nilIface] DT ∧ W.heap.size = w.heap.size + 1 ∧ Below w.heap.size w W := ⟨_, rfl, Blk.new w _ _, by simp, below_new w _⟩
  have hW := Lib.hid hW0.symm
  have hTl := hTab.lt
  have hE0 := (hbW.cell (p := ⟨EC, 0, none⟩) hEl).trans hE
  have hTab0 := hTab.chg (Chg.ofBelow hbW) (by omega)
  have i4 : Bytes W0 (.slice (some ⟨b, off + t, none⟩) 4 (cap - t)) ((l.drop t).take 4) := (BB.from_ h t 4 (by omega) : Bytes w _ _).up hbW
  obtain ⟨t0, t1, t2, t3, hT4⟩ := four_of (l := (l.drop t).take 4) (by rw [List.length_take, List.length_drop]; omega)
  rw [hT4] at i4 hn
  obtain ⟨gb, go, hgo, _, hgc⟩ := i4.at_ (by simp)
  cases hgo
  have hU := Tryz.binary_BE_Uint32 b (off + t) 4 (cap - t) t0 t1 t2 t3 W0 (by omega) (hgc 0 (by simp)) (hgc 1 (by simp)) (hgc 2 (by simp)) (hgc 3 (by simp))
  have hn4 : n < 4294967296 := by have := beNat_lt [t0, t1, t2, t3]; rw [hn] at this; simpa using this
  rw [hn] at hU
  have hM : Bytes w (.slice (some ⟨b, off + (t + 4), none⟩) (n + 4) (cap - (t + 4))) ((l.drop (t + 4)).take (n + 4)) := BB.from_ h (t + 4) (n + 4) (by omega)
  have hMl : ((l.drop (t + 4)).take (n + 4)).length = n + 4 := by rw [List.length_take, List.length_drop]; omega
  have i5 : Bytes w (.slice (some ⟨b, off + (t + 4) + n, none⟩) 4 (cap - (t + 4) - n)) (((l.drop (t + 4)).drop n).take 4) := by
    have := BB.from_ hM n 4 (by omega)
    rw [List.drop_take, List.take_take, show min 4 (n + 4 - n) = 4 by omega] at this
    exact this
  have i6 : Bytes w (.slice (some ⟨b, off + (t + 4), none⟩) n (cap - (t + 4))) ((l.drop (t + 4)).take n) := by
    have := BB.from_ hM 0 n (by omega)
    rw [List.drop_zero, List.take_take, show min n (n + 4) = n by omega] at this
    exact this
  obtain ⟨s0, s1, s2, s3, hS4⟩ := four_of (l := ((l.drop (t + 4)).drop n).take 4) (by rw [List.length_take, List.length_drop, List.length_drop]; omega)
  rw [hS4] at i5 hq
  have hll : ((l.drop (t + 4)).take n).length ≤ 2147483647 := by rw [List.length_take]; omega
  have rg1 := fun W => slRange_any b off m cap t 4 (t : Int) ((t : Int) + 4) rfl (by omega) W (by omega) (by omega) hcap
  obtain ⟨z, hz⟩ : ∃ z : Int, z = (n : Int) := ⟨_, rfl⟩
  have rg2 := fun W => slRange_any b off m cap (t + 4) (n + 4) ((t : Int) + 4) ((t : Int) + 4 + z + 4) (by omega) (by omega) W (by omega) (by omega) hcap
  have n0 : (0 : Int) ≤ (t : Int) := by omega
  have n1 : (t : Int) ≤ 65535 := by omega
  have n2 : ¬ (m : Int) < (t : Int) + 4 := by omega
  have n3 : (0 : Int) ≤ z := by omega
  have n4 : z < 4294967296 := by omega
  have n5 : ¬ (m : Int) < (t : Int) + 4 + z + 4 := by omega
  rw [← hz] at hU
  have hC : n + 4 ≤ cap - (t + 4) ∧ cap - (t + 4) ≤ maxLen := by omega
  generalize off + (t + 4) = O at *
  generalize cap - (t + 4) = C at *
  generalize (l.drop (t + 4)).take n = L at *
  have n6 : (n : Int) + 4 ≤ (C : Int) := by omega
  have n7 : (n : Int) ≤ (C : Int) := by omega
  have n8 : ¬ C = n := by omega
  have n9 : n + 4 - n = 4 := by omega
  have n10 : (0 : Int) ≤ (n : Int) := by omega
  have n12 : (n : Int) ≤ (n : Int) + 4 := by omega
  have n11 : (n : Int) ≤ 2147483647 := by omega
  clear hW0 h hgc i4 hT4 hn hm hS4 hM hMl hz hTab
  go_enter Tryz.func29, Tryz.ntmps29
  go_upto_region 3 with (first
    | (go_at_call 123; refine (slLen_any _ _ _ _).mono ?_; rintro e w' ⟨rfl, rfl⟩)
    | fail)
  rw [hW.out]
  go_wp2_with (first
    | (go_at_call 123; refine (slLen_any _ _ _ _).mono ?_; rintro e w' ⟨rfl, rfl⟩)
    | (go_at_call 124; with_reducible refine (rg1 _).mono ?_; rintro e w' ⟨rfl, rfl⟩)
    | (go_at_call 124; with_reducible refine (rg2 _).mono ?_; rintro e w' ⟨rfl, rfl⟩)
    | (go_at_call 71; refine hU.mono ?_; rintro e w1 ⟨rfl, hb1⟩)
    | fail)
  obtain ⟨W2, hW2, KD, hsz2, hb2⟩ : ∃ W, W = w1.alloc (.cells #[.slice (some ⟨b, O, none⟩) n C, .nilIface] DT) ∧ Blk W w1.heap.size [.slice (some ⟨b, O, none⟩) n C, .nilIface] DT ∧ W.heap.size = w1.heap.size + 1 ∧ Below w1.heap.size w1 W := ⟨_, rfl, Blk.new w1 _ _, by simp, below_new w1 _⟩
  rw [← hW2]
  clear hW2
  have hz1 := hb1.size
  have K2 := (K0.chg (Chg.ofBelow hb1) (by omega)).chg (Chg.ofBelow hb2) (by omega)
  have T2 := (hTab0.chg (Chg.ofBelow hb1) (by omega)).chg (Chg.ofBelow hb2) (by omega)
  have hbA : Below w.heap.size w W2 := bnx (bnx hbW hb1) hb2
  have j5 := i5.up hbA
  have j6 := i6.up hbA
  obtain ⟨gb, go, hgo, _, hgc⟩ := j5.at_ (by simp)
  cases hgo
  have hU2 := Tryz.binary_BE_Uint32 b (O + n) 4 (C - n) s0 s1 s2 s3 W2.drew (by omega) (hgc 0 (by simp)) (hgc 1 (by simp)) (hgc 2 (by simp)) (hgc 3 (by simp))
  have E2 := (hb2.cell (p := ⟨EC, 0, none⟩) (show EC < w1.heap.size by omega)).trans ((hb1.cell (p := ⟨EC, 0, none⟩) (show EC < W0.heap.size by omega)).trans hE0)
  have hne : (((crcOf L : Nat) : Int) == ((Lib.beNat [s0, s1, s2, s3] : Nat) : Int)) = false := by rw [beq_eq_false_iff_ne]; omega
  generalize ((Lib.beNat [s0, s1, s2, s3] : Nat) : Int) = y at *
  clear hgc j5
  go_cut [10] from 11 (fun s10 wx => s10 = .int .u32 y ∧ Below W2.heap.size W2 wx)
  case first =>
    have hw : IntKind.i64.wrap (n : Int) = (n : Int) := IntWalk.i64_in _ (by omega)
    go_region_with (first
      | (go_at_call 71; refine hU2.mono ?_; rintro e w3 ⟨rfl, hb3⟩)
      | fail)
    all_goals
      clear hw
      go_wp2_with fail
      go_meet
      exact ⟨rfl, (below_drewN (Below.refl _ _) 1 : Below W2.heap.size W2 W2.drew).trans hb3⟩
  case rest =>
    obtain ⟨rfl, hb3⟩ := hcut
    have hz3 := hb3.size
    have KD3 := KD.chg (Chg.ofBelow hb3) (by omega)
    have K3 := K2.chg (Chg.ofBelow hb3) (by omega)
    have T3 := T2.chg (Chg.ofBelow hb3) (by omega)
    have hCr := crc32_any w1.heap.size _ _ L T wc KD3 (j6.up hb3) hll T3
    have f0 := K3.free 0
    have f1 := K3.free 1
    have e0 := K3.cell 0
    have e1 := K3.cell 1
    have d0 := KD3.cell 0
    have d1 := KD3.cell 1
    have g0 := (hb3.cell (p := ⟨EC, 0, none⟩) (show EC < W2.heap.size by omega)).trans E2
    generalize ((crcOf L : Nat) : Int) = z at *
    go_wp2_with (first
      | (go_at_call 70; refine hCr.mono ?_; rintro e w' ⟨rfl, rfl⟩)
      | fail)
    obtain ⟨m1, c1⟩ := two_set2 K3 (.slice none 0 0) (.iface ET (.pointer (some p)))
    have r0 := m1.cell 0
    have r1 := m1.cell 1
    have hB := bnx hbA hb3
    refine bodyPost_ret (v := .agg #[.slice none 0 0, .iface ET (.pointer (some p))]) (by simp [results, Tryz.results29, go_sem, r0, r1]) rfl ⟨rfl, ?_⟩
    exact hB.trans (c1.below _ hB.size (fun k hk => by omega))

end Go.Proofs.YthcmpkpbdgnfpaaGreatDoor
