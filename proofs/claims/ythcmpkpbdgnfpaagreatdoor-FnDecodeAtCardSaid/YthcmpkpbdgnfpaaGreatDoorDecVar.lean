/-
  NewDecbufUvarintAt.
-/
import Derived.Test.YthcmpkpbdgnfpaaGreatDoorDecAt
import Derived.StillTailTactics
namespace Go.Proofs.YthcmpkpbdgnfpaaGreatDoor
set_option linter.unusedSimpArgs false
set_option linter.unusedVariables false
open Go.RowKit

theorem errNew3_any (s : ByteArray) (w : World) :
    Calls Tryz.prog 69 #[.string s] w fun e w' => e = .returned (.iface ET (.pointer (some ⟨w.heap.size, 0, none⟩))) ∧ Below w.heap.size w w' ∧ ∃ c t, w'.heap[w.heap.size]? = some (.cells c t (0, 0)) := by
  refine (errNew2_any s w).mono ?_
  rintro e w' ⟨he, rfl⟩
  exact ⟨he, below_new w _, _, _, heap_alloc_new w _⟩
set_option maxRecDepth 100000 in
set_option maxHeartbeats 2000000 in
theorem newVar_short (a : Option Addr) (m cap t T : Nat) (w : World) (p : Addr) (hE : w.cell? ⟨EG, 0, none⟩ = some (.iface ET (.pointer (some p)))) (ht : t ≤ 65535) (hs : m < t + 5) :
    Calls Tryz.prog 28 #[.iface ST (.slice a m cap), .int .i64 t, .pointer (some ⟨T, 0, none⟩)] w fun e w' => e = .returned (.agg #[.slice none 0 0, .iface ET (.pointer (some p))]) ∧ Below w.heap.size w w' := by
  have hmL := sL
  have hEl := cell_lt hE
  obtain ⟨W0, hW0, K0, hsz, hbW⟩ : ∃ W, W = w.alloc (.cells #[.slice none 0 0, .nilIface] DT) ∧ Blk W w.heap.size [.slice none 0 0, .nilIface] DT ∧ W.heap.size = w.heap.size + 1 ∧ Below w.heap.size w W := ⟨_, rfl, Blk.new w _ _, by simp, below_new w _⟩
  have hW := Lib.hid hW0.symm
  have hE0 := (hbW.cell (p := ⟨EG, 0, none⟩) hEl).trans hE
  clear hW0
  have n0 : (0 : Int) ≤ (t : Int) := by omega
  have n1 : (t : Int) ≤ 65535 := by omega
  have n2 : (m : Int) < (t : Int) + 5 := by omega
  go_enter Tryz.func28, Tryz.ntmps28
  go_upto_region 2 with (first
    | (go_at_call 123; refine (slLen_any _ _ _ _).mono ?_; rintro e w' ⟨rfl, rfl⟩)
    | fail)
  rw [hW.out]
  have f0 := K0.free 0
  have f1 := K0.free 1
  have e0 := K0.cell 0
  have e1 := K0.cell 1
  go_wp2_with fail
  obtain ⟨m1, c1⟩ := two_set2 K0 (.slice none 0 0) (.iface ET (.pointer (some p)))
  have r0 := m1.cell 0
  have r1 := m1.cell 1
  refine bodyPost_ret (v := .agg #[.slice none 0 0, .iface ET (.pointer (some p))]) (by simp [results, Tryz.results28, go_sem, r0, r1]) rfl ⟨rfl, ?_⟩
  exact hbW.trans (c1.below _ (by omega) (fun k hk => by omega))

set_option maxRecDepth 100000 in
set_option maxHeartbeats 4000000 in
theorem newVar_other (b off m cap t n u T : Nat) (l : List UInt8) (w : World) (h : Bytes w (.slice (some ⟨b, off, none⟩) m cap) l) (hm : l.length = m) (ht : t ≤ 65535) (hs : t + 5 ≤ m) (hcm : m ≤ cap) (hcap : cap ≤ maxLen) (hml : m ≤ 2147483647) (hn : uvar ((l.drop t).take 5) = (n, u)) (hu : u = 0) :
    Calls Tryz.prog 28 #[.iface ST (.slice (some ⟨b, off, none⟩) m cap), .int .i64 t, .pointer (some ⟨T, 0, none⟩)] w fun e w' => ∃ x, e = .returned (.agg #[.slice none 0 0, .iface ET (.pointer (some x))]) ∧ w.heap.size ≤ x.block ∧ (∃ c t, w'.heap[x.block]? = some (.cells c t (0, 0))) ∧ Below w.heap.size w w' := by
  have hmL := sL
  have hmR := sR
  obtain ⟨W0, hW0, K0, hsz, hbW⟩ : ∃ W, W = w.alloc (.cells #[.slice none 0 0, .nilIface] DT) ∧ Blk W w.heap.size [.slice none 0 0, .nilIface] DT ∧ W.heap.size = w.heap.size + 1 ∧ Below w.heap.size w W := ⟨_, rfl, Blk.new w _ _, by simp, below_new w _⟩
  have hW := Lib.hid hW0.symm
  have i4 : Bytes W0 (.slice (some ⟨b, off + t, none⟩) 5 (cap - t)) ((l.drop t).take 5) := (BB.from_ h t 5 (by omega) : Bytes w _ _).up hbW
  have hU := uvar5_any _ _ _ _ W0 i4 (by rw [List.length_take, List.length_drop]; omega)
  have hlt := uvar_lt ((l.drop t).take 5)
  have hle := uvar_le ((l.drop t).take 5)
  rw [hn] at hU hlt hle
  rw [List.length_take, List.length_drop, show min 5 (l.length - t) = 5 by omega] at hlt hle
  have hn36 : n < 68719476736 := Nat.lt_of_lt_of_le hlt (by decide)
  have hu5 : u ≤ 5 := hle
  have n0 : (0 : Int) ≤ (t : Int) := by omega
  have n1 : (t : Int) ≤ 65535 := by omega
  have n2 : ¬ (m : Int) < (t : Int) + 5 := by omega
  have rg1 := fun W => slRange_any b off m cap t 5 (t : Int) ((t : Int) + 5) rfl (by omega) W (by omega) (by omega) hcap
  subst hu
  obtain ⟨z, hz⟩ : ∃ z : Int, z = (n : Int) := ⟨_, rfl⟩
  simp only at hU
  rw [← hz] at hU
  clear hW0 h i4 hm hn hlt hle hz hn36
  go_enter Tryz.func28, Tryz.ntmps28
  go_upto_region 3 with (first
    | (go_at_call 123; refine (slLen_any _ _ _ _).mono ?_; rintro e w' ⟨rfl, rfl⟩)
    | fail)
  rw [hW.out]
  go_upto_region 6 with (first
    | (go_at_call 123; refine (slLen_any _ _ _ _).mono ?_; rintro e w' ⟨rfl, rfl⟩)
    | (go_at_call 124; with_reducible refine (rg1 _).mono ?_; rintro e w' ⟨rfl, rfl⟩)
    | (go_at_call 68; refine hU.mono ?_; rintro e w' ⟨rfl, rfl⟩)
    | fail)
  generalize ByteArray.mk _ = S
  go_wp2_with (first
    | (go_at_call 69; refine (errNew3_any _ _).mono ?_; rintro e w5 ⟨rfl, hbA, hNew⟩; have KA := K0.chg (Chg.ofBelow hbA) (by omega); have f0 := KA.free 0; have f1 := KA.free 1; have e0 := KA.cell 0; have e1 := KA.cell 1)
    | fail)
  obtain ⟨m1, c1⟩ := two_set2 KA (.slice none 0 0) (.iface ET (.pointer (some ⟨w.heap.size + 1, 0, none⟩)))
  have r0 := m1.cell 0
  have r1 := m1.cell 1
  have hB := bnx hbW hbA
  refine bodyPost_ret (v := .agg #[.slice none 0 0, .iface ET (.pointer (some ⟨w.heap.size + 1, 0, none⟩))]) (by simp [results, Tryz.results28, go_sem, r0, r1]) rfl ⟨_, rfl, by simp, by rw [hsz] at hNew; obtain ⟨cc, tt, hh⟩ := hNew; exact ⟨cc, tt, blk_chg c1 hh (show ¬ (w.heap.size + 1 = w.heap.size) by omega)⟩, ?_⟩
  exact hB.trans (c1.below _ hB.size (fun k hk => by omega))

set_option maxRecDepth 100000 in
set_option maxHeartbeats 4000000 in
theorem newVar_size (b off m cap t n u T : Nat) (l : List UInt8) (w : World) (p : Addr) (hE : w.cell? ⟨EG, 0, none⟩ = some (.iface ET (.pointer (some p)))) (h : Bytes w (.slice (some ⟨b, off, none⟩) m cap) l) (hm : l.length = m) (ht : t ≤ 65535) (hs : t + 5 ≤ m) (hcm : m ≤ cap) (hcap : cap ≤ maxLen) (hml : m ≤ 2147483647) (hn : uvar ((l.drop t).take 5) = (n, u)) (hu : 0 < u) (hbig : m < t + u + n + 4) :
    Calls Tryz.prog 28 #[.iface ST (.slice (some ⟨b, off, none⟩) m cap), .int .i64 t, .pointer (some ⟨T, 0, none⟩)] w fun e w' => e = .returned (.agg #[.slice none 0 0, .iface ET (.pointer (some p))]) ∧ Below w.heap.size w w' := by
  have hmL := sL
  have hmR := sR
  have hEl := cell_lt hE
  obtain ⟨W0, hW0, K0, hsz, hbW⟩ : ∃ W, W = w.alloc (.cells #[.slice none 0 0, .nilIface] DT) ∧ Blk W w.heap.size [.slice none 0 0, .nilIface] DT ∧ W.heap.size = w.heap.size + 1 ∧ Below w.heap.size w W := ⟨_, rfl, Blk.new w _ _, by simp, below_new w _⟩
  have hW := Lib.hid hW0.symm
  have hE0 := (hbW.cell (p := ⟨EG, 0, none⟩) hEl).trans hE
  have i4 : Bytes W0 (.slice (some ⟨b, off + t, none⟩) 5 (cap - t)) ((l.drop t).take 5) := (BB.from_ h t 5 (by omega) : Bytes w _ _).up hbW
  have hU := uvar5_any _ _ _ _ W0 i4 (by rw [List.length_take, List.length_drop]; omega)
  have hlt := uvar_lt ((l.drop t).take 5)
  have hle := uvar_le ((l.drop t).take 5)
  rw [hn] at hU hlt hle
  rw [List.length_take, List.length_drop, show min 5 (l.length - t) = 5 by omega] at hlt hle
  have hn36 : n < 68719476736 := Nat.lt_of_lt_of_le hlt (by decide)
  have hu5 : u ≤ 5 := hle
  have n0 : (0 : Int) ≤ (t : Int) := by omega
  have n1 : (t : Int) ≤ 65535 := by omega
  have n2 : ¬ (m : Int) < (t : Int) + 5 := by omega
  have rg1 := fun W => slRange_any b off m cap t 5 (t : Int) ((t : Int) + 5) rfl (by omega) W (by omega) (by omega) hcap
  obtain ⟨z, hz⟩ : ∃ z : Int, z = (n : Int) := ⟨_, rfl⟩
  have n3 : (0 : Int) ≤ z := by omega
  have n4 : z < 68719476736 := by omega
  obtain ⟨y, hy⟩ : ∃ y : Int, y = (u : Int) := ⟨_, rfl⟩
  have m1 : ¬ y ≤ 0 := by omega
  have m2 : y ≤ 5 := by omega
  have m3 : ¬ 5 < y := by omega
  simp only at hU
  have n5 : (m : Int) < (t : Int) + y + z + 4 := by omega
  rw [← hz, ← hy] at hU
  clear hW0 h i4 hm hn hlt hle hz hn36 hy hu hbig hE
  go_enter Tryz.func28, Tryz.ntmps28
  go_upto_region 3 with (first
    | (go_at_call 123; refine (slLen_any _ _ _ _).mono ?_; rintro e w' ⟨rfl, rfl⟩)
    | fail)
  rw [hW.out]
  have f0 := K0.free 0
  have f1 := K0.free 1
  have e0 := K0.cell 0
  have e1 := K0.cell 1
  go_wp2_with (first
    | (go_at_call 123; refine (slLen_any _ _ _ _).mono ?_; rintro e w' ⟨rfl, rfl⟩)
    | (go_at_call 124; with_reducible refine (rg1 _).mono ?_; rintro e w' ⟨rfl, rfl⟩)
    | (go_at_call 68; refine hU.mono ?_; rintro e w' ⟨rfl, rfl⟩)
    | fail)
  obtain ⟨m1, c1⟩ := two_set2 K0 (.slice none 0 0) (.iface ET (.pointer (some p)))
  have r0 := m1.cell 0
  have r1 := m1.cell 1
  refine bodyPost_ret (v := .agg #[.slice none 0 0, .iface ET (.pointer (some p))]) (by simp [results, Tryz.results28, go_sem, r0, r1]) rfl ⟨rfl, ?_⟩
  exact hbW.trans (c1.below _ (by omega) (fun k hk => by omega))

set_option maxRecDepth 100000 in
set_option maxHeartbeats 4000000 in
theorem newVar_fine (b off m cap t n u T : Nat) (l : List UInt8) (w : World) (h : Bytes w (.slice (some ⟨b, off, none⟩) m cap) l) (hm : l.length = m) (ht : t ≤ 65535) (hs : t + 5 ≤ m) (hcm : m ≤ cap) (hcap : cap ≤ maxLen) (hml : m ≤ 2147483647) (hn : uvar ((l.drop t).take 5) = (n, u)) (hu : 0 < u) (hfit : t + u + n + 4 ≤ m) (hTab : Blk w T [.int .u32 2197175160] 103) (hq : Lib.beNat (((l.drop (t + u)).drop n).take 4) = crcOf ((l.drop (t + u)).take n)) :
    Calls Tryz.prog 28 #[.iface ST (.slice (some ⟨b, off, none⟩) m cap), .int .i64 t, .pointer (some ⟨T, 0, none⟩)] w fun e w' => ∃ a k c, e = .returned (.agg #[.slice a k c, .nilIface]) ∧ Bytes w (.slice a k c) ((l.drop (t + u)).take n) ∧ Below w.heap.size w w' := by
  have hmL := sL
  have hmR := sR
  obtain ⟨W0, hW0, K0, hsz, hbW⟩ : ∃ W, W = w.alloc (.cells #[.slice none 0 0, .nilIface] DT) ∧ Blk W w.heap.size [.slice none 0 0, .nilIface] DT ∧ W.heap.size = w.heap.size + 1 ∧ Below w.heap.size w W := ⟨_, rfl, Blk.new w _ _, by simp, below_new w _⟩
  have hW := Lib.hid hW0.symm
  have i4 : Bytes W0 (.slice (some ⟨b, off + t, none⟩) 5 (cap - t)) ((l.drop t).take 5) := (BB.from_ h t 5 (by omega) : Bytes w _ _).up hbW
  have hU := uvar5_any _ _ _ _ W0 i4 (by rw [List.length_take, List.length_drop]; omega)
  have hlt := uvar_lt ((l.drop t).take 5)
  have hle := uvar_le ((l.drop t).take 5)
  rw [hn] at hU hlt hle
  rw [List.length_take, List.length_drop, show min 5 (l.length - t) = 5 by omega] at hlt hle
  have hn36 : n < 68719476736 := Nat.lt_of_lt_of_le hlt (by decide)
  have hu5 : u ≤ 5 := hle
  have n0 : (0 : Int) ≤ (t : Int) := by omega
  have n1 : (t : Int) ≤ 65535 := by omega
  have n2 : ¬ (m : Int) < (t : Int) + 5 := by omega
  have rg1 := fun W => slRange_any b off m cap t 5 (t : Int) ((t : Int) + 5) rfl (by omega) W (by omega) (by omega) hcap
  have hTl := hTab.lt
  have hTab0 := hTab.chg (Chg.ofBelow hbW) (by omega)
  have hM : Bytes w (.slice (some ⟨b, off + (t + u), none⟩) (n + 4) (cap - (t + u))) ((l.drop (t + u)).take (n + 4)) := BB.from_ h (t + u) (n + 4) (by omega)
  have hMl : ((l.drop (t + u)).take (n + 4)).length = n + 4 := by rw [List.length_take, List.length_drop]; omega
  have i5 : Bytes w (.slice (some ⟨b, off + (t + u) + n, none⟩) 4 (cap - (t + u) - n)) (((l.drop (t + u)).drop n).take 4) := by
    have := BB.from_ hM n 4 (by omega)
    rw [List.drop_take, List.take_take, show min 4 (n + 4 - n) = 4 by omega] at this
    exact this
  have i6 : Bytes w (.slice (some ⟨b, off + (t + u), none⟩) n (cap - (t + u))) ((l.drop (t + u)).take n) := by
    have := BB.from_ hM 0 n (by omega)
    rw [List.drop_zero, List.take_take, show min n (n + 4) = n by omega] at this
    exact this
  obtain ⟨s0, s1, s2, s3, hS4⟩ := four_of (l := ((l.drop (t + u)).drop n).take 4) (by rw [List.length_take, List.length_drop, List.length_drop]; omega)
  rw [hS4] at i5 hq
  have hll : ((l.drop (t + u)).take n).length ≤ 2147483647 := by rw [List.length_take]; omega
  obtain ⟨z, hz⟩ : ∃ z : Int, z = (n : Int) := ⟨_, rfl⟩
  have n3 : (0 : Int) ≤ z := by omega
  have n4 : z < 68719476736 := by omega
  obtain ⟨y, hy⟩ : ∃ y : Int, y = (u : Int) := ⟨_, rfl⟩
  have m1 : ¬ y ≤ 0 := by omega
  have m2 : y ≤ 5 := by omega
  have m3 : ¬ 5 < y := by omega
  simp only at hU
  have rg2 := fun W => slRange_any b off m cap (t + u) (n + 4) ((t : Int) + y) ((t : Int) + y + z + 4) (by omega) (by omega) W (by omega) (by omega) hcap
  have n5 : ¬ (m : Int) < (t : Int) + y + z + 4 := by omega
  rw [← hz, ← hy] at hU
  have hC : n + 4 ≤ cap - (t + u) ∧ cap - (t + u) ≤ maxLen := by omega
  generalize off + (t + u) = O at *
  generalize cap - (t + u) = C at *
  generalize (l.drop (t + u)).take n = L at *
  have n6 : (n : Int) + 4 ≤ (C : Int) := by omega
  have n7 : (n : Int) ≤ (C : Int) := by omega
  have n8 : ¬ C = n := by omega
  have n9 : n + 4 - n = 4 := by omega
  have n10 : (0 : Int) ≤ (n : Int) := by omega
  have n12 : (n : Int) ≤ (n : Int) + 4 := by omega
  have n11 : (n : Int) ≤ 2147483647 := by omega
  clear hW0 h i4 hn hm hS4 hM hMl hz hTab hy hu hlt hle hn36
  go_enter Tryz.func28, Tryz.ntmps28
  go_upto_region 3 with (first
    | (go_at_call 123; refine (slLen_any _ _ _ _).mono ?_; rintro e w' ⟨rfl, rfl⟩)
    | fail)
  rw [hW.out]
  go_wp2_with (first
    | (go_at_call 123; refine (slLen_any _ _ _ _).mono ?_; rintro e w' ⟨rfl, rfl⟩)
    | (go_at_call 124; with_reducible refine (rg1 _).mono ?_; rintro e w' ⟨rfl, rfl⟩)
    | (go_at_call 68; refine hU.mono ?_; rintro e w' ⟨rfl, rfl⟩)
    | (go_at_call 124; with_reducible refine (rg2 _).mono ?_; rintro e w' ⟨rfl, rfl⟩)
    | fail)
  obtain ⟨W2, hW2, KD, hsz2, hb2⟩ : ∃ W, W = W0.alloc (.cells #[.slice (some ⟨b, O, none⟩) n C, .nilIface] DT) ∧ Blk W W0.heap.size [.slice (some ⟨b, O, none⟩) n C, .nilIface] DT ∧ W.heap.size = W0.heap.size + 1 ∧ Below W0.heap.size W0 W := ⟨_, rfl, Blk.new W0 _ _, by simp, below_new W0 _⟩
  rw [← hW2]
  clear hW2
  have K2 := K0.chg (Chg.ofBelow hb2) (by omega)
  have T2 := hTab0.chg (Chg.ofBelow hb2) (by omega)
  have hbA : Below w.heap.size w W2 := bnx hbW hb2
  have j5 := i5.up hbA
  have j6 := i6.up hbA
  obtain ⟨gb, go, hgo, _, hgc⟩ := j5.at_ (by simp)
  cases hgo
  have hU2 := Tryz.binary_BE_Uint32 b (O + n) 4 (C - n) s0 s1 s2 s3 W2.drew (by omega) (hgc 0 (by simp)) (hgc 1 (by simp)) (hgc 2 (by simp)) (hgc 3 (by simp))
  have hCr := fun W' (hb' : Below W2.heap.size W2 W') => crc32_any W0.heap.size _ _ L T W' (KD.chg (Chg.ofBelow hb') (by omega)) (j6.up hb') hll (T2.chg (Chg.ofBelow hb') (by omega))
  have hbd : Below W2.heap.size W2 W2.drew := below_drewN (Below.refl _ _) 1
  rw [hq] at hU2
  generalize ((crcOf L : Nat) : Int) = x at *
  clear hgc j5
  go_cut [75] from 11 (fun s75 wx => s75 = .bool false ∧ Below W2.heap.size W2 wx)
  case first =>
    have hw : IntKind.i64.wrap (n : Int) = (n : Int) := IntWalk.i64_in _ (by omega)
    have hCs : Calls Tryz.prog 70 #[.pointer (some ⟨w.heap.size + 1, 0, none⟩), .pointer (some ⟨T, 0, none⟩)] W2.drew fun e w'' => e = .returned (.int .u32 x) ∧ w'' = W2.drew := by
      have := hCr _ hbd
      rw [hsz] at this
      exact this.mono fun e w' ⟨h1, h2⟩ => ⟨h1, h2.symm⟩
    go_still_tail 8, (by kernel_rfl)
    still_call hCs
    repeat still_step
    refine wpStill_nil ?_
    change wpList _ _ _ _ _ W2.drew
    clear hw
    go_wp2_with (first
      | (go_at_call 71; refine hU2.mono ?_; rintro e w3 ⟨rfl, hb3⟩)
      | fail)
    go_meet
    exact ⟨rfl, hbd.trans hb3⟩
  case rest =>
    obtain ⟨rfl, hb3⟩ := hcut
    have hz3 := hb3.size
    have KD3 := KD.chg (Chg.ofBelow hb3) (by omega)
    rw [hsz] at KD3
    have K3 := K2.chg (Chg.ofBelow hb3) (by omega)
    have f0 := K3.free 0
    have f1 := K3.free 1
    have e0 := K3.cell 0
    have e1 := K3.cell 1
    have d0 := KD3.cell 0
    have d1 := KD3.cell 1
    go_wp2_with fail
    obtain ⟨m1, c1⟩ := two_set2 K3 (.slice (some ⟨b, O, none⟩) n C) .nilIface
    have r0 := m1.cell 0
    have r1 := m1.cell 1
    have hB := bnx hbA hb3
    refine bodyPost_ret (v := .agg #[.slice (some ⟨b, O, none⟩) n C, .nilIface]) (by simp [results, Tryz.results28, go_sem, r0, r1]) rfl ⟨_, _, _, rfl, i6, ?_⟩
    exact hB.trans (c1.below _ hB.size (fun k hk => by omega))

set_option maxRecDepth 100000 in
set_option maxHeartbeats 4000000 in
theorem newVar_sum (b off m cap t n u T : Nat) (l : List UInt8) (w : World) (p : Addr) (hE : w.cell? ⟨EC, 0, none⟩ = some (.iface ET (.pointer (some p)))) (h : Bytes w (.slice (some ⟨b, off, none⟩) m cap) l) (hm : l.length = m) (ht : t ≤ 65535) (hs : t + 5 ≤ m) (hcm : m ≤ cap) (hcap : cap ≤ maxLen) (hml : m ≤ 2147483647) (hn : uvar ((l.drop t).take 5) = (n, u)) (hu : 0 < u) (hfit : t + u + n + 4 ≤ m) (hTab : Blk w T [.int .u32 2197175160] 103) (hq : ¬ Lib.beNat (((l.drop (t + u)).drop n).take 4) = crcOf ((l.drop (t + u)).take n)) :
    Calls Tryz.prog 28 #[.iface ST (.slice (some ⟨b, off, none⟩) m cap), .int .i64 t, .pointer (some ⟨T, 0, none⟩)] w fun e w' => e = .returned (.agg #[.slice none 0 0, .iface ET (.pointer (some p))]) ∧ Below w.heap.size w w' := by
  have hmL := sL
  have hmR := sR
  have hEl := cell_lt hE
  obtain ⟨W0, hW0, K0, hsz, hbW⟩ : ∃ W, W = w.alloc (.cells #[.slice none 0 0, .nilIface] DT) ∧ Blk W w.heap.size [.slice none 0 0, .nilIface] DT ∧ W.heap.size = w.heap.size + 1 ∧ Below w.heap.size w W := ⟨_, rfl, Blk.new w _ _, by simp, below_new w _⟩
  have hW := Lib.hid hW0.symm
  have hE0 := (hbW.cell (p := ⟨EC, 0, none⟩) hEl).trans hE
  have i4 : Bytes W0 (.slice (some ⟨b, off + t, none⟩) 5 (cap - t)) ((l.drop t).take 5) := (BB.from_ h t 5 (by omega) : Bytes w _ _).up hbW
  have hU := uvar5_any _ _ _ _ W0 i4 (by rw [List.length_take, List.length_drop]; omega)
  have hlt := uvar_lt ((l.drop t).take 5)
  have hle := uvar_le ((l.drop t).take 5)
  rw [hn] at hU hlt hle
  rw [List.length_take, List.length_drop, show min 5 (l.length - t) = 5 by omega] at hlt hle
  have hn36 : n < 68719476736 := Nat.lt_of_lt_of_le hlt (by decide)
  have hu5 : u ≤ 5 := hle
  have n0 : (0 : Int) ≤ (t : Int) := by omega
  have n1 : (t : Int) ≤ 65535 := by omega
  have n2 : ¬ (m : Int) < (t : Int) + 5 := by omega
  have rg1 := fun W => slRange_any b off m cap t 5 (t : Int) ((t : Int) + 5) rfl (by omega) W (by omega) (by omega) hcap
  have hTl := hTab.lt
  have hTab0 := hTab.chg (Chg.ofBelow hbW) (by omega)
  have hM : Bytes w (.slice (some ⟨b, off + (t + u), none⟩) (n + 4) (cap - (t + u))) ((l.drop (t + u)).take (n + 4)) := BB.from_ h (t + u) (n + 4) (by omega)
  have hMl : ((l.drop (t + u)).take (n + 4)).length = n + 4 := by rw [List.length_take, List.length_drop]; omega
  have i5 : Bytes w (.slice (some ⟨b, off + (t + u) + n, none⟩) 4 (cap - (t + u) - n)) (((l.drop (t + u)).drop n).take 4) := by
    have := BB.from_ hM n 4 (by omega)
    rw [List.drop_take, List.take_take, show min 4 (n + 4 - n) = 4 by omega] at this
    exact this
  have i6 : Bytes w (.slice (some ⟨b, off + (t + u), none⟩) n (cap - (t + u))) ((l.drop (t + u)).take n) := by
    have := BB.from_ hM 0 n (by omega)
    rw [List.drop_zero, List.take_take, show min n (n + 4) = n by omega] at this
    exact this
  obtain ⟨s0, s1, s2, s3, hS4⟩ := four_of (l := ((l.drop (t + u)).drop n).take 4) (by rw [List.length_take, List.length_drop, List.length_drop]; omega)
  rw [hS4] at i5 hq
  have hll : ((l.drop (t + u)).take n).length ≤ 2147483647 := by rw [List.length_take]; omega
  obtain ⟨z, hz⟩ : ∃ z : Int, z = (n : Int) := ⟨_, rfl⟩
  have n3 : (0 : Int) ≤ z := by omega
  have n4 : z < 68719476736 := by omega
  obtain ⟨y, hy⟩ : ∃ y : Int, y = (u : Int) := ⟨_, rfl⟩
  have m1 : ¬ y ≤ 0 := by omega
  have m2 : y ≤ 5 := by omega
  have m3 : ¬ 5 < y := by omega
  simp only at hU
  have rg2 := fun W => slRange_any b off m cap (t + u) (n + 4) ((t : Int) + y) ((t : Int) + y + z + 4) (by omega) (by omega) W (by omega) (by omega) hcap
  have n5 : ¬ (m : Int) < (t : Int) + y + z + 4 := by omega
  rw [← hz, ← hy] at hU
  have hC : n + 4 ≤ cap - (t + u) ∧ cap - (t + u) ≤ maxLen := by omega
  generalize off + (t + u) = O at *
  generalize cap - (t + u) = C at *
  generalize (l.drop (t + u)).take n = L at *
  have n6 : (n : Int) + 4 ≤ (C : Int) := by omega
  have n7 : (n : Int) ≤ (C : Int) := by omega
  have n8 : ¬ C = n := by omega
  have n9 : n + 4 - n = 4 := by omega
  have n10 : (0 : Int) ≤ (n : Int) := by omega
  have n12 : (n : Int) ≤ (n : Int) + 4 := by omega
  have n11 : (n : Int) ≤ 2147483647 := by omega
  clear hW0 h i4 hn hm hS4 hM hMl hz hTab hy hu hlt hle hn36
  go_enter Tryz.func28, Tryz.ntmps28
  go_upto_region 3 with (first
    | (go_at_call 123; refine (slLen_any _ _ _ _).mono ?_; rintro e w' ⟨rfl, rfl⟩)
    | fail)
  rw [hW.out]
  go_wp2_with (first
    | (go_at_call 123; refine (slLen_any _ _ _ _).mono ?_; rintro e w' ⟨rfl, rfl⟩)
    | (go_at_call 124; with_reducible refine (rg1 _).mono ?_; rintro e w' ⟨rfl, rfl⟩)
    | (go_at_call 68; refine hU.mono ?_; rintro e w' ⟨rfl, rfl⟩)
    | (go_at_call 124; with_reducible refine (rg2 _).mono ?_; rintro e w' ⟨rfl, rfl⟩)
    | fail)
  obtain ⟨W2, hW2, KD, hsz2, hb2⟩ : ∃ W, W = W0.alloc (.cells #[.slice (some ⟨b, O, none⟩) n C, .nilIface] DT) ∧ Blk W W0.heap.size [.slice (some ⟨b, O, none⟩) n C, .nilIface] DT ∧ W.heap.size = W0.heap.size + 1 ∧ Below W0.heap.size W0 W := ⟨_, rfl, Blk.new W0 _ _, by simp, below_new W0 _⟩
  rw [← hW2]
  clear hW2
  have K2 := K0.chg (Chg.ofBelow hb2) (by omega)
  have T2 := hTab0.chg (Chg.ofBelow hb2) (by omega)
  have hbA : Below w.heap.size w W2 := bnx hbW hb2
  have j5 := i5.up hbA
  have j6 := i6.up hbA
  obtain ⟨gb, go, hgo, _, hgc⟩ := j5.at_ (by simp)
  cases hgo
  have hU2 := Tryz.binary_BE_Uint32 b (O + n) 4 (C - n) s0 s1 s2 s3 W2.drew (by omega) (hgc 0 (by simp)) (hgc 1 (by simp)) (hgc 2 (by simp)) (hgc 3 (by simp))
  have hCr := fun W' (hb' : Below W2.heap.size W2 W') => crc32_any W0.heap.size _ _ L T W' (KD.chg (Chg.ofBelow hb') (by omega)) (j6.up hb') hll (T2.chg (Chg.ofBelow hb') (by omega))
  have hbd : Below W2.heap.size W2 W2.drew := below_drewN (Below.refl _ _) 1
  have E2 := (hb2.cell (p := ⟨EC, 0, none⟩) (show EC < W0.heap.size by omega)).trans hE0
  have hne : (((crcOf L : Nat) : Int) == ((Lib.beNat [s0, s1, s2, s3] : Nat) : Int)) = false := by rw [beq_eq_false_iff_ne]; omega
  generalize ((Lib.beNat [s0, s1, s2, s3] : Nat) : Int) = v at *
  generalize ((crcOf L : Nat) : Int) = x at *
  clear hgc j5
  go_cut [75] from 11 (fun s75 wx => s75 = .bool true ∧ Below W2.heap.size W2 wx)
  case first =>
    have hw : IntKind.i64.wrap (n : Int) = (n : Int) := IntWalk.i64_in _ (by omega)
    have hCs : Calls Tryz.prog 70 #[.pointer (some ⟨w.heap.size + 1, 0, none⟩), .pointer (some ⟨T, 0, none⟩)] W2.drew fun e w'' => e = .returned (.int .u32 x) ∧ w'' = W2.drew := by
      have := hCr _ hbd
      rw [hsz] at this
      exact this.mono fun e w' ⟨h1, h2⟩ => ⟨h1, h2.symm⟩
    go_still_tail 8, (by kernel_rfl)
    still_call hCs
    repeat still_step
    refine wpStill_nil ?_
    change wpList _ _ _ _ _ W2.drew
    clear hw
    go_wp2_with (first
      | (go_at_call 71; refine hU2.mono ?_; rintro e w3 ⟨rfl, hb3⟩)
      | fail)
    go_meet
    exact ⟨by rw [bne, hne]; rfl, hbd.trans hb3⟩
  case rest =>
    obtain ⟨rfl, hb3⟩ := hcut
    have hz3 := hb3.size
    have KD3 := KD.chg (Chg.ofBelow hb3) (by omega)
    rw [hsz] at KD3
    have K3 := K2.chg (Chg.ofBelow hb3) (by omega)
    have f0 := K3.free 0
    have f1 := K3.free 1
    have e0 := K3.cell 0
    have e1 := K3.cell 1
    have d0 := KD3.cell 0
    have d1 := KD3.cell 1
    have g0 := (hb3.cell (p := ⟨EC, 0, none⟩) (show EC < W2.heap.size by omega)).trans E2
    go_wp2_with fail
    obtain ⟨m1, c1⟩ := two_set2 K3 (.slice none 0 0) (.iface ET (.pointer (some p)))
    have r0 := m1.cell 0
    have r1 := m1.cell 1
    have hB := bnx hbA hb3
    refine bodyPost_ret (v := .agg #[.slice none 0 0, .iface ET (.pointer (some p))]) (by simp [results, Tryz.results28, go_sem, r0, r1]) rfl ⟨rfl, ?_⟩
    exact hB.trans (c1.below _ hB.size (fun k hk => by omega))

end Go.Proofs.YthcmpkpbdgnfpaaGreatDoor
