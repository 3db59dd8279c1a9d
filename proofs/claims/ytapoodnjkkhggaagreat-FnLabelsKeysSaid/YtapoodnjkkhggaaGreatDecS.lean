/-
  decodeSize, decodeString: a length, a string at a place of an encoding.
-/
import Derived.Test.YtapoodnjkkhggaaGreatLs
import Derived.BigQuiet
namespace Go.Proofs.YtapoodnjkkhggaaGreat
set_option linter.unusedSimpArgs false
set_option linter.unusedVariables false
open Go.RowKit

set_option maxRecDepth 100000 in
set_option maxHeartbeats 2000000 in
theorem decSize_any (d : ByteArray) (i n : Nat) (m : List UInt8) (w : World) (h : From d i (szE n ++ m)) (hn : n < 16777216) (hd : d.size ≤ 1073741824) :
    Calls Tryz.prog 105 #[.string d, .int .i64 i] w fun e w' => e = .returned (.tuple #[.int .i64 n, .int .i64 (i + szN n : Nat)]) ∧ Below w.heap.size w w' := by
  have hbel := Below.refl w.heap.size w
  by_cases c : n < 255
  · obtain ⟨hi, e0⟩ := h.small c
    have hz : szN n = 1 := by unfold szN; rw [if_pos c]
    have e1 : ((n : Int) == 255) = false := by rw [beq_eq_false_iff_ne]; omega
    have i1 : (i : Int) < (d.size : Int) := by omega
    have HZ := Lib.hid hz
    clear hz h
    go_enter Tryz.func105, Tryz.ntmps105
    go_wp2_with fail
    go_ret2
    rw [HZ.out]
    exact ⟨by simp, hbel⟩
  · obtain ⟨h0, h1, h2, h3, e0, e1, e2, e3⟩ := h.big c
    have hz : szN n = 4 := by unfold szN; rw [if_neg c]
    have i0 : (i : Int) < (d.size : Int) := by omega
    have i1 : (i : Int) + 1 < (d.size : Int) := by omega
    have i2 : (i : Int) + 1 + 1 < (d.size : Int) := by omega
    have i3 : (i : Int) + 1 + 2 < (d.size : Int) := by omega
    have j1 : (0 : Int) ≤ (i : Int) + 1 := by omega
    have j2 : (0 : Int) ≤ (i : Int) + 1 + 1 := by omega
    have j3 : (0 : Int) ≤ (i : Int) + 1 + 2 := by omega
    have t1 : ((i : Int) + 1).toNat = i + 1 := by omega
    have t2 : ((i : Int) + 1 + 1).toNat = i + 2 := by omega
    have t3 : ((i : Int) + 1 + 2).toNat = i + 3 := by omega
    have HZ := Lib.hid hz
    have HC := Lib.hid c
    clear hz h c
    go_enter Tryz.func105, Tryz.ntmps105
    go_wp2_with fail
    go_quiet (fail)
    go_wp2_with fail
    go_ret2
    rw [HZ.out]
    refine ⟨?_, below_drewN hbel nq⟩
    have := HC.out
    simp
    omega

set_option maxRecDepth 100000 in
set_option maxHeartbeats 2000000 in
theorem decStr_any (d s : ByteArray) (i : Nat) (m : List UInt8) (w : World) (h : From d i (strE s ++ m)) (hn : s.size < 16777216) (hd : d.size ≤ 1073741824) :
    Calls Tryz.prog 99 #[.string d, .int .i64 i] w fun e w' => e = .returned (.tuple #[.string s, .int .i64 (i + (strE s).length : Nat)]) ∧ Below w.heap.size w w' := by
  have hl := strE_length s
  have h' : From d i (szE s.size ++ (s.data.toList ++ m)) := by
    unfold strE at h
    rwa [List.append_assoc] at h
  have h2 : From d (i + szN s.size) (s.data.toList ++ m) := by
    have := h'.skip
    rwa [szE_length] at this
  have hcut := h2.cut
  have hsz := h2.size
  rw [List.length_append, show s.data.toList.length = s.size from rfl] at hsz
  have hS := decSize_any d i s.size _ w h' hn hd
  have HL := Lib.hid hl
  clear hl h h' h2
  generalize szN s.size = q at *
  have i0 : (i : Int) + (q : Int) + (s.size : Int) ≤ (d.size : Int) := by omega
  have i1 : (0 : Int) ≤ (i : Int) + (q : Int) := by omega
  have t1 : ((i : Int) + (q : Int)).toNat = i + q := by omega
  have t2 : ((i : Int) + (q : Int) + (s.size : Int)).toNat = i + q + s.size := by omega
  have i2 : (0 : Int) ≤ (i : Int) + (q : Int) + (s.size : Int) := by omega
  have i3 : (i : Int) + (q : Int) ≤ (i : Int) + (q : Int) + (s.size : Int) := by omega
  go_enter Tryz.func99, Tryz.ntmps99
  go_wp2_with (refine hS.mono ?_; rintro e w1 ⟨rfl, hb1⟩)
  go_ret2
  refine ⟨?_, hb1⟩
  rw [HL.out]
  simp [Int.add_assoc]
end Go.Proofs.YtapoodnjkkhggaaGreat
