/-
  NewTOCFromByteSlice.
-/
import Derived.Test.YtfllcbcokncgpaaGreatDoorDec64
import Derived.Test.YtfllcbcokncgpaaGreatDoorCrc
import Derived.Test.YtfllcbcokncgpaaGreatDoorRawDec
import Derived.BigQuiet
import Derived.Deep.Cut
import Derived.Deep.RegionWith
import Derived.Test.YtfllcbcokncgpaaGreatDoorSafe2
namespace Go.Proofs.YtfllcbcokncgpaaGreatDoor
set_option linter.unusedSimpArgs false
set_option linter.unusedVariables false
open Go.RowKit

theorem tL (t : World) (a : Option Addr) (n c : Nat) : (method 325 145 (.slice a n c) "Len").run Tryz.prog t = .ok (160, .slice a n c) t := by kernel_rfl
theorem tR (t : World) (a : Option Addr) (n c : Nat) : (method 325 145 (.slice a n c) "Range").run Tryz.prog t = .ok (161, .slice a n c) t := by kernel_rfl
theorem tN (t : World) (a : Option Addr) (n c : Nat) : (nilAhead 325 145 (.slice a n c) "Range").run Tryz.prog t = .ok (some false) t := by kernel_rfl
theorem rbLen_any (a : Option Addr) (n c : Nat) (w : World) :
    Calls Tryz.prog 160 #[.slice a n c] w fun e w' => e = .returned (.int .i64 n) ∧ w = w' := by
  go_enter Tryz.func160, Tryz.ntmps160
  go_wp2_with fail
  go_ret
  exact ⟨rfl, rfl⟩
theorem rbRange_any (b off s c : Nat) (w : World) (hc : s + 52 ≤ c) (hm : c ≤ maxLen) :
    Calls Tryz.prog 161 #[.slice (some ⟨b, off, none⟩) (s + 52) c, .int .i64 s, .int .i64 (s + 52)] w fun e w' => e = .returned (.slice (some ⟨b, off + s, none⟩) 52 (c - s)) ∧ w = w' := by
  have n0 : (0 : Int) ≤ (s : Int) := by omega
  have n1 : (s : Int) ≤ (s : Int) + 52 := by omega
  have n2 : (s : Int) + 52 ≤ (c : Int) := by omega
  have n3 : ¬ c = s := by omega
  go_enter Tryz.func161, Tryz.ntmps161
  go_wp2_with fail
  go_ret
  refine ⟨?_, rfl⟩
  show Ending.returned (Value.slice (some ⟨b, off + s, none⟩) (s + 52 - s) (c - s)) = _
  rw [show s + 52 - s = 52 by omega]
theorem castTable_any (w : World) :
    Calls Tryz.prog 91 #[] w fun e w' => e = .returned (.pointer (some ⟨w.heap.size, 0, none⟩)) ∧ w' = w.alloc (.cells #[.int .u32 2197175160] 188) := by
  have hm : Calls Tryz.prog 120 #[.int .u32 2197175160] w fun e w' => e = .returned (.pointer (some ⟨w.heap.size, 0, none⟩)) ∧ w' = w.alloc (.cells #[.int .u32 2197175160] 188) := by
    go_enter Tryz.func120, Tryz.ntmps120
    go_wp2_with fail
    go_ret
    exact ⟨rfl, rfl⟩
  go_enter Tryz.func91, Tryz.ntmps91
  go_wp2_with (first | (go_at_call 120; refine hm.mono ?_; rintro e w' ⟨rfl, rfl⟩) | fail)
  go_ret
  exact ⟨rfl, rfl⟩
theorem checksum_any (v : Value) (l : List UInt8) (T : Nat) (w : World) (h : Bytes w v l) (hl : l.length ≤ 2147483647) (hT : Blk w T [.int .u32 2197175160] 188) :
    Calls Tryz.prog 119 #[v, .pointer (some ⟨T, 0, none⟩)] w fun e w' => e = .returned (.int .u32 (crcOf l : Nat)) ∧ w = w' := by
  obtain ⟨ao, cap, rfl, h1, h2⟩ := h.form
  go_enter Tryz.func119, Tryz.ntmps119
  go_wp2_with (first | (go_at_call 129; refine (update_any _ l T w h hl hT).mono ?_; rintro e w' ⟨rfl, rfl⟩) | fail)
  go_ret
  exact ⟨rfl, rfl⟩
theorem crc32_any (D : Nat) (v E : Value) (l : List UInt8) (T : Nat) (w : World) (hD : Blk w D [v, E] DT) (h : Bytes w v l) (hl : l.length ≤ 2147483647) (hT : Blk w T [.int .u32 2197175160] 188) :
    Calls Tryz.prog 90 #[.pointer (some ⟨D, 0, none⟩), .pointer (some ⟨T, 0, none⟩)] w fun e w' => e = .returned (.int .u32 (crcOf l : Nat)) ∧ w = w' := by
  obtain ⟨ao, cap, rfl, h1, h2⟩ := h.form
  have c0 := hD.cell 0
  go_enter Tryz.func90, Tryz.ntmps90
  go_wp2_with (first | (go_at_call 119; refine (checksum_any _ l T w h hl hT).mono ?_; rintro e w' ⟨rfl, rfl⟩) | fail)
  go_ret
  exact ⟨rfl, rfl⟩
/-- the numbers of a table of contents -/
def tocN (T : List UInt8) (i : Nat) : Int := ((Lib.beNat ((T.drop (8 * i)).take 8) : Nat) : Int)
abbrev tocCells (T : List UInt8) : List Value := [.int .u64 (tocN T 0), .int .u64 (tocN T 1), .int .u64 (tocN T 2), .int .u64 (tocN T 3), .int .u64 (tocN T 4), .int .u64 (tocN T 5)]
theorem BB.from_ {w : World} {B b off s n cap : Nat} {m : List UInt8} (h : BB w B (.slice (some ⟨b, off, none⟩) n cap) m) (i k : Nat) (hk : i + k ≤ m.length) : BB w B (.slice (some ⟨b, off + i, none⟩) k (cap - i)) ((m.drop i).take k) := by
  obtain ⟨ao', cap', hv, h1, h2, h3⟩ := h
  cases hv
  have hl : ((m.drop i).take k).length = k := by rw [List.length_take, List.length_drop]; omega
  refine ⟨_, cap - i, by rw [hl], by rw [hl]; omega, by omega, ?_⟩
  rw [hl]
  rcases h3 with h3 | ⟨b', off', e, hb, hB, hc⟩
  · left; omega
  · cases e
    refine .inr ⟨b, off + i, rfl, hb, hB, fun j hj => ?_⟩
    have := hc (i + j) (by omega)
    rw [show off + i + j = off + (i + j) by omega, this]
    have hj' : j < k := by omega
    simp [List.getD_eq_getElem?_getD, List.getElem?_take, hj']
theorem four_of {l : List UInt8} (h : l.length = 4) : ∃ a b c d, l = [a, b, c, d] := by
  match l, h with
  | [a, b, c, d], _ => exact ⟨a, b, c, d, rfl⟩

set_option maxRecDepth 100000 in
set_option maxHeartbeats 4000000 in
theorem newToc_ok (b off s cap : Nat) (m : List UInt8) (w : World) (h : Bytes w (.slice (some ⟨b, off, none⟩) (s + 52) cap) m) (hm : m.length = s + 52) (hcap : s + 52 ≤ cap) (hmax : cap ≤ maxLen) (hs : s ≤ 2147483647) (hq : Lib.beNat ((m.drop s).drop 48) = crcOf ((m.drop s).take 48)) :
    Calls Tryz.prog 55 #[.iface 145 (.slice (some ⟨b, off, none⟩) (s + 52) cap)] w fun e w' => ∃ t, e = .returned (.tuple #[.pointer (some ⟨t, 0, none⟩), .nilIface]) ∧ Blk w' t (tocCells (m.drop s)) 107 ∧ w.heap.size ≤ t ∧ Below w.heap.size w w' := by
  have hTb : Bytes w (.slice (some ⟨b, off + s, none⟩) 52 (cap - s)) (m.drop s) := by
    have := BB.from_ (s := s) h s 52 (by omega)
    rw [List.take_of_length_le (by rw [List.length_drop]; omega)] at this
    exact this
  have hTl : (m.drop s).length = 52 := by rw [List.length_drop]; omega
  generalize m.drop s = T at *
  have hmL := tL
  have hmR := tR
  have hmN := tN
  have n0 : (0 : Int) ≤ (s : Int) := by omega
  have n1 : ¬ (s : Int) + 52 < 52 := by omega
  have n2 : (s : Int) ≤ 2147483647 := by omega
  have hmf := hmk
  clear h hm
  go_enter Tryz.func55, Tryz.ntmps55
  go_wp2_with (first
    | (go_at_call 160; refine (rbLen_any _ _ _ _).mono ?_; rintro e w' ⟨rfl, rfl⟩)
    | fail)
  go_quiet (first
    | (go_at_call 160; refine (rbLen_any _ _ _ _).mono ?_; rintro e w' ⟨rfl, rfl⟩; exact ⟨rfl, _, rfl⟩)
    | (go_at_call 161; refine (rbRange_any _ _ _ _ _ hcap hmax).mono ?_; rintro e w' ⟨rfl, rfl⟩; exact ⟨rfl, _, rfl⟩)
    | fail)
  have hb0 : Below w.heap.size w (w.drewN nq) := below_drewN (Below.refl _ _) nq
  have hT := hTb.up hb0
  have hC : 52 ≤ cap - s ∧ cap - s ≤ maxLen := by omega
  generalize off + s = O at *
  generalize cap - s = C at *
  generalize w.drewN nq = W at *
  clear hTb hmL hmR hmN hmf hcap hmax n0 n1 n2
  obtain ⟨t0, t1, t2, t3, hT4⟩ := four_of (l := T.drop 48) (by rw [List.length_drop]; omega)
  have hT4b : Bytes W (.slice (some ⟨b, O + 48, none⟩) 4 (C - 48)) [t0, t1, t2, t3] := by
    have := BB.from_ (s := s) hT 48 4 (by omega)
    rw [List.take_of_length_le (by rw [List.length_drop]; omega), hT4] at this
    exact this
  obtain ⟨gb, go, hgo, _, hgc⟩ := hT4b.at_ (by simp)
  cases hgo
  have hT48 : Bytes W (.slice (some ⟨b, O, none⟩) 48 C) (T.take 48) := by
    have : BB W W.heap.size (.slice (some ⟨b, O, none⟩) 48 C) (T.take 48) := by simpa using BB.from_ (s := s) hT 0 48 (by omega)
    exact this
  have hU := Tryz.binary_BE_Uint32 b (O + 48) 4 (C - 48) t0 t1 t2 t3 W.drew (by omega) (hgc 0 (by simp)) (hgc 1 (by simp)) (hgc 2 (by simp)) (hgc 3 (by simp))
  have hq2 : Hid (crcOf (T.take 48) = Lib.beNat [t0, t1, t2, t3]) := Lib.hid (by rw [← hq, hT4])
  clear hgc hT4b hT4 hq
  generalize Lib.beNat [t0, t1, t2, t3] = y at *
  have n3 : (48 : Int) ≤ (C : Int) := by omega
  have n4 : ¬ C = 48 := by omega
  go_wp2_with fail
  go_cut [5] from 8 (fun s5 wx => s5 = .int .u32 (y : Nat) ∧ Below W.heap.size W wx)
  case first =>
    go_region_with (first
      | (go_at_call 89; refine hU.mono ?_; rintro e w1 ⟨rfl, hb1⟩)
      | fail)
    all_goals
      go_wp2_with fail
      go_meet
      exact ⟨rfl, (below_drewN (Below.refl _ _) 1 : Below W.heap.size W W.drew).trans hb1⟩
  case rest =>
    obtain ⟨rfl, hb1⟩ := hcut
    have hTw := hT48.up hb1
    have hbA : Below wc.heap.size wc ((wc.alloc (.cells #[.slice (some ⟨b, O, none⟩) 48 C, .nilIface] DT)).alloc (.cells #[.int .u32 2197175160] 188)) := (below_new wc _).alloc (by simp) _
    have hD0 : Blk ((wc.alloc (.cells #[.slice (some ⟨b, O, none⟩) 48 C, .nilIface] DT)).alloc (.cells #[.int .u32 2197175160] 188)) wc.heap.size [.slice (some ⟨b, O, none⟩) 48 C, .nilIface] DT := (Blk.new wc _ _).alloc _
    have hTab : Blk ((wc.alloc (.cells #[.slice (some ⟨b, O, none⟩) 48 C, .nilIface] DT)).alloc (.cells #[.int .u32 2197175160] 188)) (wc.heap.size + 1) [.int .u32 2197175160] 188 := by
      have := Blk.new (wc.alloc (.cells #[.slice (some ⟨b, O, none⟩) 48 C, .nilIface] DT)) [.int .u32 2197175160] 188
      simpa using this
    have hB0 : BB ((wc.alloc (.cells #[.slice (some ⟨b, O, none⟩) 48 C, .nilIface] DT)).alloc (.cells #[.int .u32 2197175160] 188)) wc.heap.size (.slice (some ⟨b, O, none⟩) 48 C) (T.take 48) := Sl.below hTw hbA (Nat.le_refl _)
    have hCr := crc32_any wc.heap.size _ _ (T.take 48) (wc.heap.size + 1) _ hD0 (hTw.up hbA) (by rw [List.length_take]; omega) hTab
    rw [hq2.out] at hCr
    go_wp2_with (first
      | (go_at_call 91; refine (castTable_any _).mono ?_; rintro e w' ⟨rfl, rfl⟩)
      | (go_at_call 90; refine hCr.mono ?_; rintro e w' ⟨rfl, rfl⟩)
      | (go_at_call 92; with_reducible refine (be64_ok wc.heap.size _ _ _ hD0 hB0 (by simp only [List.length_drop, List.length_take]; omega)).mono ?_; rintro e x1 ⟨rfl, v1, hD1, hB1, hc1⟩)
      | (go_at_call 92; with_reducible refine (be64_ok wc.heap.size _ _ _ hD1 hB1 (by simp only [List.length_drop, List.length_take]; omega)).mono ?_; rintro e x2 ⟨rfl, v2, hD2, hB2, hc2⟩)
      | (go_at_call 92; with_reducible refine (be64_ok wc.heap.size _ _ _ hD2 hB2 (by simp only [List.length_drop, List.length_take]; omega)).mono ?_; rintro e x3 ⟨rfl, v3, hD3, hB3, hc3⟩)
      | (go_at_call 92; with_reducible refine (be64_ok wc.heap.size _ _ _ hD3 hB3 (by simp only [List.length_drop, List.length_take]; omega)).mono ?_; rintro e x4 ⟨rfl, v4, hD4, hB4, hc4⟩)
      | (go_at_call 92; with_reducible refine (be64_ok wc.heap.size _ _ _ hD4 hB4 (by simp only [List.length_drop, List.length_take]; omega)).mono ?_; rintro e x5 ⟨rfl, v5, hD5, hB5, hc5⟩)
      | (go_at_call 92; with_reducible refine (be64_ok wc.heap.size _ _ _ hD5 hB5 (by simp only [List.length_drop, List.length_take]; omega)).mono ?_; rintro e x6 ⟨rfl, v6, hD6, hB6, hc6⟩)
      | (go_at_call 46; refine (decErr_any wc.heap.size _ _ _ (hD6.alloc _) (.inl rfl)).mono ?_; rintro e w' ⟨rfl, rfl⟩)
      | fail)
    go_ret2
    have hcA := ((((hc1.trans hc2).trans hc3).trans hc4).trans hc5).trans hc6
    have hb6 : Below wc.heap.size wc x6 := hbA.trans (hcA.below wc.heap.size (by simp; omega) (fun q hq => by omega))
    have hb7 : Below w.heap.size w x6 := bnx (bnx hb0 hb1) hb6
    refine ⟨_, rfl, ?_, hb7.size, hb7.alloc hb7.size _⟩
    have key : ∀ k, k ≤ 40 → List.take 8 (List.drop k (List.take 48 T)) = List.take 8 (List.drop k T) := fun k hk => by
      rw [List.drop_take, List.take_take, Nat.min_eq_left (by omega)]
    have e0 : List.take 8 (List.take 48 T) = List.take 8 T := key 0 (by omega)
    have hN := Blk.new x6 (tocCells T) 107
    unfold tocCells tocN at hN ⊢
    rw [← key (8 * 1) (by omega), ← key (8 * 2) (by omega), ← key (8 * 3) (by omega), ← key (8 * 4) (by omega), ← key (8 * 5) (by omega), ← key (8 * 0) (by omega)] at hN ⊢
    simpa using hN

set_option maxRecDepth 100000 in
set_option maxHeartbeats 4000000 in
theorem newToc_sum (b off s cap : Nat) (m : List UInt8) (w : World) (h : Bytes w (.slice (some ⟨b, off, none⟩) (s + 52) cap) m) (hm : m.length = s + 52) (hcap : s + 52 ≤ cap) (hmax : cap ≤ maxLen) (hs : s ≤ 2147483647) (hq : ¬ Lib.beNat ((m.drop s).drop 48) = crcOf ((m.drop s).take 48)) :
    Calls Tryz.prog 55 #[.iface 145 (.slice (some ⟨b, off, none⟩) (s + 52) cap)] w fun e w' => (∃ t u, e = .returned (.tuple #[.pointer none, .iface t u])) ∧ Below w.heap.size w w' := by
  have hTb : Bytes w (.slice (some ⟨b, off + s, none⟩) 52 (cap - s)) (m.drop s) := by
    have := BB.from_ (s := s) h s 52 (by omega)
    rw [List.take_of_length_le (by rw [List.length_drop]; omega)] at this
    exact this
  have hTl : (m.drop s).length = 52 := by rw [List.length_drop]; omega
  generalize m.drop s = T at *
  have hmL := tL
  have hmR := tR
  have hmN := tN
  have n0 : (0 : Int) ≤ (s : Int) := by omega
  have n1 : ¬ (s : Int) + 52 < 52 := by omega
  have n2 : (s : Int) ≤ 2147483647 := by omega
  have hmf := hmk
  clear h hm
  go_enter Tryz.func55, Tryz.ntmps55
  go_wp2_with (first
    | (go_at_call 160; refine (rbLen_any _ _ _ _).mono ?_; rintro e w' ⟨rfl, rfl⟩)
    | fail)
  go_quiet (first
    | (go_at_call 160; refine (rbLen_any _ _ _ _).mono ?_; rintro e w' ⟨rfl, rfl⟩; exact ⟨rfl, _, rfl⟩)
    | (go_at_call 161; refine (rbRange_any _ _ _ _ _ hcap hmax).mono ?_; rintro e w' ⟨rfl, rfl⟩; exact ⟨rfl, _, rfl⟩)
    | fail)
  have hb0 : Below w.heap.size w (w.drewN nq) := below_drewN (Below.refl _ _) nq
  have hT := hTb.up hb0
  have hC : 52 ≤ cap - s ∧ cap - s ≤ maxLen := by omega
  generalize off + s = O at *
  generalize cap - s = C at *
  generalize w.drewN nq = W at *
  clear hTb hmL hmR hmN hmf hcap hmax n0 n1 n2
  obtain ⟨t0, t1, t2, t3, hT4⟩ := four_of (l := T.drop 48) (by rw [List.length_drop]; omega)
  have hT4b : Bytes W (.slice (some ⟨b, O + 48, none⟩) 4 (C - 48)) [t0, t1, t2, t3] := by
    have := BB.from_ (s := s) hT 48 4 (by omega)
    rw [List.take_of_length_le (by rw [List.length_drop]; omega), hT4] at this
    exact this
  obtain ⟨gb, go, hgo, _, hgc⟩ := hT4b.at_ (by simp)
  cases hgo
  have hT48 : Bytes W (.slice (some ⟨b, O, none⟩) 48 C) (T.take 48) := by
    have : BB W W.heap.size (.slice (some ⟨b, O, none⟩) 48 C) (T.take 48) := by simpa using BB.from_ (s := s) hT 0 48 (by omega)
    exact this
  have hU := Tryz.binary_BE_Uint32 b (O + 48) 4 (C - 48) t0 t1 t2 t3 W.drew (by omega) (hgc 0 (by simp)) (hgc 1 (by simp)) (hgc 2 (by simp)) (hgc 3 (by simp))
  have hq3 : (((crcOf (T.take 48) : Nat) : Int) == ((Lib.beNat [t0, t1, t2, t3] : Nat) : Int)) = false := by
    rw [beq_eq_false_iff_ne, ← hT4]
    omega
  clear hgc hT4b hT4 hq
  generalize Lib.beNat [t0, t1, t2, t3] = y at *
  have n3 : (48 : Int) ≤ (C : Int) := by omega
  have n4 : ¬ C = 48 := by omega
  go_wp2_with fail
  go_cut [5] from 8 (fun s5 wx => s5 = .int .u32 (y : Nat) ∧ Below W.heap.size W wx)
  case first =>
    go_region_with (first
      | (go_at_call 89; refine hU.mono ?_; rintro e w1 ⟨rfl, hb1⟩)
      | fail)
    all_goals
      go_wp2_with fail
      go_meet
      exact ⟨rfl, (below_drewN (Below.refl _ _) 1 : Below W.heap.size W W.drew).trans hb1⟩
  case rest =>
    obtain ⟨rfl, hb1⟩ := hcut
    have hTw := hT48.up hb1
    have hbA : Below wc.heap.size wc ((wc.alloc (.cells #[.slice (some ⟨b, O, none⟩) 48 C, .nilIface] DT)).alloc (.cells #[.int .u32 2197175160] 188)) := (below_new wc _).alloc (by simp) _
    have hD0 : Blk ((wc.alloc (.cells #[.slice (some ⟨b, O, none⟩) 48 C, .nilIface] DT)).alloc (.cells #[.int .u32 2197175160] 188)) wc.heap.size [.slice (some ⟨b, O, none⟩) 48 C, .nilIface] DT := (Blk.new wc _ _).alloc _
    have hTab : Blk ((wc.alloc (.cells #[.slice (some ⟨b, O, none⟩) 48 C, .nilIface] DT)).alloc (.cells #[.int .u32 2197175160] 188)) (wc.heap.size + 1) [.int .u32 2197175160] 188 := by
      have := Blk.new (wc.alloc (.cells #[.slice (some ⟨b, O, none⟩) 48 C, .nilIface] DT)) [.int .u32 2197175160] 188
      simpa using this
    have hCr := crc32_any wc.heap.size _ _ (T.take 48) (wc.heap.size + 1) _ hD0 (hTw.up hbA) (by rw [List.length_take]; omega) hTab
    generalize ((crcOf (T.take 48) : Nat) : Int) = z at *
    generalize (y : Int) = x at *
    go_wp2_with (first
      | (go_at_call 91; refine (castTable_any _).mono ?_; rintro e w' ⟨rfl, rfl⟩)
      | (go_at_call 90; refine hCr.mono ?_; rintro e w' ⟨rfl, rfl⟩)
      | (go_at_call 85; refine (errNew_any _ _).mono ?_; rintro e w4 ⟨⟨t4, u4, rfl⟩, hb4⟩)
      | fail)
    go_ret2
    exact ⟨⟨_, _, rfl⟩, bnx (bnx (bnx hb0 hb1) hbA) hb4⟩

set_option maxRecDepth 100000 in
set_option maxHeartbeats 4000000 in
theorem newToc_short (a : Option Addr) (n cap : Nat) (w : World) (t : TypeId) (u : Value) (hE : w.cell? ⟨EG, 0, none⟩ = some (.iface t u)) (hn : n < 52) :
    Calls Tryz.prog 55 #[.iface 145 (.slice a n cap)] w fun e w' => (∃ t u, e = .returned (.tuple #[.pointer none, .iface t u])) ∧ Below w.heap.size w w' := by
  have hmL := tL
  have n1 : (n : Int) < 52 := by omega
  go_enter Tryz.func55, Tryz.ntmps55
  go_wp2_with (first
    | (go_at_call 160; refine (rbLen_any _ _ _ _).mono ?_; rintro e w' ⟨rfl, rfl⟩)
    | fail)
  go_quiet (fail)
  go_wp2_with fail
  go_ret2
  exact ⟨⟨_, _, rfl⟩, below_drewN (Below.refl _ _) _⟩
end Go.Proofs.YtfllcbcokncgpaaGreatDoor
