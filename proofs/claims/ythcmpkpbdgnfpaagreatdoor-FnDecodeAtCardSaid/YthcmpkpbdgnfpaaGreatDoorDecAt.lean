/-
  A Decbuf at a place.
-/
import Derived.Test.YthcmpkpbdgnfpaaGreatDoorSealed2
import Derived.Test.YthcmpkpbdgnfpaaGreatDoorIdxErrs
import Derived.Test.YthcmpkpbdgnfpaaGreatDoorDec
import Derived.Deep.Cut
import Derived.Deep.RegionWith
import Derived.LaidEql
namespace Go.Proofs.YthcmpkpbdgnfpaaGreatDoor
set_option linter.unusedSimpArgs false
set_option linter.unusedVariables false
open Go.RowKit

abbrev ST : TypeId := 69
theorem sL (t : World) (a : Option Addr) (n c : Nat) : (method 294 ST (.slice a n c) "Len").run Tryz.prog t = .ok (123, .slice a n c) t := by kernel_rfl
theorem sR (t : World) (a : Option Addr) (n c : Nat) : (method 294 ST (.slice a n c) "Range").run Tryz.prog t = .ok (124, .slice a n c) t := by kernel_rfl
theorem slLen_any (a : Option Addr) (n c : Nat) (w : World) :
    Calls Tryz.prog 123 #[.slice a n c] w fun e w' => e = .returned (.int .i64 n) ∧ w = w' := by
  go_enter Tryz.func123, Tryz.ntmps123
  go_wp2_with fail
  go_ret
  exact ⟨rfl, rfl⟩
theorem slRange_any (b off m c s k : Nat) (zs ze : Int) (hs : zs = (s : Nat)) (he : ze = ((s + k : Nat) : Int)) (w : World) (hc : s + k ≤ c) (hne : ¬ c = s) (hm : c ≤ maxLen) :
    Calls Tryz.prog 124 #[.slice (some ⟨b, off, none⟩) m c, .int .i64 zs, .int .i64 ze] w fun e w' => e = .returned (.slice (some ⟨b, off + s, none⟩) k (c - s)) ∧ w = w' := by
  subst hs he
  have n0 : (0 : Int) ≤ (s : Int) := by omega
  have n1 : (s : Int) ≤ (s : Int) + (k : Int) := by omega
  have n2 : (s : Int) + (k : Int) ≤ (c : Int) := by omega
  go_enter Tryz.func124, Tryz.ntmps124
  go_wp2_with fail
  go_ret
  refine ⟨?_, rfl⟩
  show Ending.returned (Value.slice (some ⟨b, off + s, none⟩) (s + k - s) (c - s)) = _
  rw [Nat.add_sub_cancel_left]
theorem makeTable_any (w : World) : Calls Tryz.prog 27 #[.int .u32 2197175160] w fun e w' => e = .returned (.pointer (some ⟨w.heap.size, 0, none⟩)) ∧ w' = w.alloc (.cells #[.int .u32 2197175160] 103) := by
  go_enter Tryz.func27, Tryz.ntmps27
  go_wp2_with fail
  go_ret
  exact ⟨rfl, rfl⟩
theorem checksum_any (v : Value) (l : List UInt8) (T : Nat) (w : World) (h : Bytes w v l) (hl : l.length ≤ 2147483647) (hT : Blk w T [.int .u32 2197175160] 103) :
    Calls Tryz.prog 94 #[v, .pointer (some ⟨T, 0, none⟩)] w fun e w' => e = .returned (.int .u32 (crcOf l : Nat)) ∧ w = w' := by
  obtain ⟨ao, cap, rfl, h1, h2⟩ := h.form
  go_enter Tryz.func94, Tryz.ntmps94
  go_wp2_with (first | (go_at_call 102; refine (update_any _ l T w h hl hT).mono ?_; rintro e w' ⟨rfl, rfl⟩) | fail)
  go_ret
  exact ⟨rfl, rfl⟩
theorem crc32_any (D : Nat) (v E : Value) (l : List UInt8) (T : Nat) (w : World) (hD : Blk w D [v, E] DT) (h : Bytes w v l) (hl : l.length ≤ 2147483647) (hT : Blk w T [.int .u32 2197175160] 103) :
    Calls Tryz.prog 70 #[.pointer (some ⟨D, 0, none⟩), .pointer (some ⟨T, 0, none⟩)] w fun e w' => e = .returned (.int .u32 (crcOf l : Nat)) ∧ w = w' := by
  obtain ⟨ao, cap, rfl, h1, h2⟩ := h.form
  have c0 := hD.cell 0
  go_enter Tryz.func70, Tryz.ntmps70
  go_wp2_with (first | (go_at_call 94; refine (checksum_any _ l T w h hl hT).mono ?_; rintro e w' ⟨rfl, rfl⟩) | fail)
  go_ret
  exact ⟨rfl, rfl⟩
theorem four_of {l : List UInt8} (h : l.length = 4) : ∃ a b c d, l = [a, b, c, d] := by
  match l, h with
  | [a, b, c, d], _ => exact ⟨a, b, c, d, rfl⟩

theorem errNew2_any (s : ByteArray) (w : World) :
    Calls Tryz.prog 69 #[.string s] w fun e w' => e = .returned (.iface ET (.pointer (some ⟨w.heap.size, 0, none⟩))) ∧ w' = w.alloc (.cells #[.string s] 136) := by
  go_enter Tryz.func69, Tryz.ntmps69
  go_wp2_with fail
  go_ret
  exact ⟨rfl, rfl⟩
theorem two_set2 {w : World} {q : Nat} {t : TypeId} {x0 x1 : Value} (k : Blk w q [x0, x1] t) (a0 a1 : Value) :
    Blk ((w.setCell ⟨q, 0, none⟩ a0).setCell ⟨q, 1, none⟩ a1) q [a0, a1] t ∧ Chg (fun k => k = q) w ((w.setCell ⟨q, 0, none⟩ a0).setCell ⟨q, 1, none⟩ a1) :=
  ⟨(k.set 0 a0).set 1 a1, ((Chg.refl (fun k => k = q) w).setCell ⟨q, 0, none⟩ rfl a0).setCell ⟨q, 1, none⟩ rfl a1⟩

set_option maxRecDepth 100000 in
set_option maxHeartbeats 2000000 in
theorem newAt_short (a : Option Addr) (m cap t T : Nat) (w : World) (p : Addr) (hE : w.cell? ⟨EG, 0, none⟩ = some (.iface ET (.pointer (some p)))) (ht : t ≤ 65535) (hs : m < t + 4) :
    Calls Tryz.prog 29 #[.iface ST (.slice a m cap), .int .i64 t, .pointer (some ⟨T, 0, none⟩)] w fun e w' => e = .returned (.agg #[.slice none 0 0, .iface ET (.pointer (some p))]) ∧ Below w.heap.size w w' := by
  have hmL := sL
  have hEl := cell_lt hE
  obtain ⟨W0, hW0, K0, hsz, hbW⟩ : ∃ W, W = w.alloc (.cells #[.slice none 0 0, .nilIface] DT) ∧ Blk W w.heap.size [.slice none 0 0, .nilIface] DT ∧ W.heap.size = w.heap.size + 1 ∧ Below w.heap.size w W := ⟨_, rfl, Blk.new w _ _, by simp, below_new w _⟩
  have hW := Lib.hid hW0.symm
  have hE0 := (hbW.cell (p := ⟨EG, 0, none⟩) hEl).trans hE
  clear hW0
  have n0 : (0 : Int) ≤ (t : Int) := by omega
  have n1 : (t : Int) ≤ 65535 := by omega
  have n2 : (m : Int) < (t : Int) + 4 := by omega
  go_enter Tryz.func29, Tryz.ntmps29
  go_upto_region 2 with (first
    | (go_at_call 123; refine (slLen_any _ _ _ _).mono ?_; rintro e w' ⟨rfl, rfl⟩)
    | fail)
  rw [hW.out]
  have f0 := K0.free 0
  have f1 := K0.free 1
  have e0 := K0.cell 0
  have e1 := K0.cell 1
  go_wp2_with fail
  obtain ⟨m1, c1⟩ := two_set2 K0 (.slice none 0 0) (.iface ET (.pointer (some p)))
  have r0 := m1.cell 0
  have r1 := m1.cell 1
  refine bodyPost_ret (v := .agg #[.slice none 0 0, .iface ET (.pointer (some p))]) (by simp [results, Tryz.results29, go_sem, r0, r1]) rfl ⟨rfl, ?_⟩
  exact hbW.trans (c1.below _ (by omega) (fun k hk => by omega))

set_option maxRecDepth 100000 in
set_option maxHeartbeats 2000000 in
theorem newAt_size (b off m cap t n T : Nat) (l : List UInt8) (w : World) (p : Addr) (hE : w.cell? ⟨EG, 0, none⟩ = some (.iface ET (.pointer (some p)))) (h : Bytes w (.slice (some ⟨b, off, none⟩) m cap) l) (hm : l.length = m) (ht : t ≤ 65535) (hs : t + 4 ≤ m) (hcm : m ≤ cap) (hcap : cap ≤ maxLen) (hn : Lib.beNat ((l.drop t).take 4) = n) (hbig : m < t + 4 + n + 4) :
    Calls Tryz.prog 29 #[.iface ST (.slice (some ⟨b, off, none⟩) m cap), .int .i64 t, .pointer (some ⟨T, 0, none⟩)] w fun e w' => e = .returned (.agg #[.slice none 0 0, .iface ET (.pointer (some p))]) ∧ Below w.heap.size w w' := by
  have hmL := sL
  have hmR := sR
  have hEl := cell_lt hE
  obtain ⟨W0, hW0, K0, hsz, hbW⟩ : ∃ W, W = w.alloc (.cells #[.slice none 0 0, .nilIface] DT) ∧ Blk W w.heap.size [.slice none 0 0, .nilIface] DT ∧ W.heap.size = w.heap.size + 1 ∧ Below w.heap.size w W := ⟨_, rfl, Blk.new w _ _, by simp, below_new w _⟩
  have hW := Lib.hid hW0.symm
  have hE0 := (hbW.cell (p := ⟨EG, 0, none⟩) hEl).trans hE
  have i4 : Bytes W0 (.slice (some ⟨b, off + t, none⟩) 4 (cap - t)) ((l.drop t).take 4) := (BB.from_ h t 4 (by omega) : Bytes w _ _).up hbW
  obtain ⟨t0, t1, t2, t3, hT4⟩ := four_of (l := (l.drop t).take 4) (by rw [List.length_take, List.length_drop]; omega)
  rw [hT4] at i4 hn
  obtain ⟨gb, go, hgo, _, hgc⟩ := i4.at_ (by simp)
  cases hgo
  have hU := Tryz.binary_BE_Uint32 b (off + t) 4 (cap - t) t0 t1 t2 t3 W0 (by omega) (hgc 0 (by simp)) (hgc 1 (by simp)) (hgc 2 (by simp)) (hgc 3 (by simp))
  have hn4 : n < 4294967296 := by have := beNat_lt [t0, t1, t2, t3]; rw [hn] at this; simpa using this
  rw [hn] at hU
  have n0 : (0 : Int) ≤ (t : Int) := by omega
  have n1 : (t : Int) ≤ 65535 := by omega
  have n2 : ¬ (m : Int) < (t : Int) + 4 := by omega
  have n3 : (0 : Int) ≤ (n : Int) := by omega
  have n4 : (n : Int) < 4294967296 := by omega
  have rg1 := slRange_any b off m cap t 4 (t : Int) ((t : Int) + 4) rfl (by omega)
  have n5 : (m : Int) < (t : Int) + 4 + (n : Int) + 4 := by omega
  have q1 := fun W => rg1 W (by omega) (by omega) hcap
  obtain ⟨z, hz⟩ : ∃ z : Int, z = (n : Int) := ⟨_, rfl⟩
  rw [← hz] at hU n3 n4 n5
  clear hW0 h hgc i4 hT4 hn hm hbig rg1 hE hz
  go_enter Tryz.func29, Tryz.ntmps29
  go_upto_region 3 with (first
    | (go_at_call 123; refine (slLen_any _ _ _ _).mono ?_; rintro e w' ⟨rfl, rfl⟩)
    | fail)
  rw [hW.out]
  go_upto_region 6 with (first
    | (go_at_call 123; refine (slLen_any _ _ _ _).mono ?_; rintro e w' ⟨rfl, rfl⟩)
    | (go_at_call 124; refine (q1 _).mono ?_; rintro e w' ⟨rfl, rfl⟩)
    | (go_at_call 71; refine hU.mono ?_; rintro e w1 ⟨rfl, hb1⟩)
    | fail)
  have K1 := K0.chg (Chg.ofBelow hb1) (by omega)
  have f0 := K1.free 0
  have f1 := K1.free 1
  have e0 := K1.cell 0
  have e1 := K1.cell 1
  have g0 := (hb1.cell (p := ⟨EG, 0, none⟩) (show EG < W0.heap.size by omega)).trans hE0
  go_wp2_with fail
  obtain ⟨m1, c1⟩ := two_set2 K1 (.slice none 0 0) (.iface ET (.pointer (some p)))
  have r0 := m1.cell 0
  have r1 := m1.cell 1
  have hB := bnx hbW hb1
  refine bodyPost_ret (v := .agg #[.slice none 0 0, .iface ET (.pointer (some p))]) (by simp [results, Tryz.results29, go_sem, r0, r1]) rfl ⟨rfl, ?_⟩
  exact hB.trans (c1.below _ hB.size (fun k hk => by omega))
end Go.Proofs.YthcmpkpbdgnfpaaGreatDoor
