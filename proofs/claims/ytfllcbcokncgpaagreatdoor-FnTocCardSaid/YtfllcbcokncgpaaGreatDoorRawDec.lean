/-
  DecodePostingsRaw: bytes are postings, if there are four of them for their number, and four for each one.
-/
import Derived.Test.YtfllcbcokncgpaaGreatDoorBigPost
namespace Go.Proofs.YtfllcbcokncgpaaGreatDoor
set_option linter.unusedSimpArgs false
set_option linter.unusedVariables false
open Go.RowKit

theorem be32int_ok (D : Nat) (v : Value) (b0 b1 b2 b3 : UInt8) (r : List UInt8) (w : World) (hD : Blk w D [v, .nilIface] DT) (hB : BB w D v (b0 :: b1 :: b2 :: b3 :: r)) :
    Calls Tryz.prog 84 #[.pointer (some ⟨D, 0, none⟩)] w fun e w' => e = .returned (.int .i64 (Lib.beNat [b0, b1, b2, b3] : Nat)) ∧ ∃ v', Blk w' D [v', .nilIface] DT ∧ BB w' D v' r ∧ Chg (fun q => q = D) w w' := by
  have hx : Lib.beNat [b0, b1, b2, b3] < 4294967296 := by have := beNat_lt [b0, b1, b2, b3]; simpa using this
  have h := be32_ok D v b0 b1 b2 b3 r w hD hB
  generalize Lib.beNat [b0, b1, b2, b3] = x at *
  go_enter Tryz.func84, Tryz.ntmps84
  go_wp2_with (first | (go_at_call 101; refine h.mono ?_; rintro e w1 ⟨rfl, v1, hD1, hB1, hc1⟩) | fail)
  go_ret
  exact ⟨rfl, v1, hD1, hB1, hc1⟩
theorem be32int_short (D : Nat) (v : Value) (m : List UInt8) (w : World) (t : TypeId) (u : Value) (hD : Blk w D [v, .nilIface] DT) (hB : BB w D v m) (hE : w.cell? ⟨EG, 0, none⟩ = some (.iface t u)) (hm : m.length < 4) :
    Calls Tryz.prog 84 #[.pointer (some ⟨D, 0, none⟩)] w fun e w' => e = .returned (.int .i64 0) ∧ Blk w' D [v, .iface t u] DT ∧ Chg (fun q => q = D) w w' := by
  go_enter Tryz.func84, Tryz.ntmps84
  go_wp2_with (first | (go_at_call 101; refine (be32_short D v m w t u hD hB hE hm).mono ?_; rintro e w1 ⟨rfl, hD1, hc1⟩) | fail)
  go_ret
  exact ⟨rfl, hD1, hc1⟩
theorem errNew_any (s : ByteArray) (w : World) :
    Calls Tryz.prog 85 #[.string s] w fun e w' => (∃ t u, e = .returned (.iface t u)) ∧ Below w.heap.size w w' := by
  go_enter Tryz.func85, Tryz.ntmps85
  go_wp2_with fail
  go_ret
  exact ⟨⟨_, _, rfl⟩, below_new w _⟩

set_option maxRecDepth 100000 in
set_option maxHeartbeats 2000000 in
theorem decodeRaw_ok (v : Value) (b0 b1 b2 b3 : UInt8) (r : List UInt8) (w : World) (h : Bytes w v (b0 :: b1 :: b2 :: b3 :: r)) (hr : r.length = 4 * Lib.beNat [b0, b1, b2, b3]) :
    Calls Tryz.prog 41 #[.agg #[v, .nilIface]] w fun e w' => ∃ g, e = .returned (.tuple #[.int .i64 (Lib.beNat [b0, b1, b2, b3] : Nat), .iface 128 (.pointer (some ⟨g, 0, none⟩)), .nilIface]) ∧ BP g w.heap.size w'.heap.size w' r 0 ∧ Below w.heap.size w w' := by
  have hx : Lib.beNat [b0, b1, b2, b3] < 4294967296 := by have := beNat_lt [b0, b1, b2, b3]; simpa using this
  obtain ⟨ao, cap, rfl, h1, h2⟩ := h.form
  have hDn := Blk.new w [.slice ao (b0 :: b1 :: b2 :: b3 :: r).length cap, .nilIface] DT
  have hBn : BB (w.alloc (.cells #[.slice ao (b0 :: b1 :: b2 :: b3 :: r).length cap, .nilIface] DT)) w.heap.size (.slice ao (b0 :: b1 :: b2 :: b3 :: r).length cap) (b0 :: b1 :: b2 :: b3 :: r) := Sl.below h (below_new w _) (Nat.le_refl _)
  have hbn := below_new w (.cells #[.slice ao (b0 :: b1 :: b2 :: b3 :: r).length cap, .nilIface] DT)
  have hG := be32int_ok w.heap.size _ b0 b1 b2 b3 r _ hDn hBn
  have HR := Lib.hid hr
  clear hDn hBn h hr h1
  generalize (b0 :: b1 :: b2 :: b3 :: r).length = n at *
  generalize Lib.beNat [b0, b1, b2, b3] = x at *
  have hxi : (x : Int) < 4294967296 := by omega
  have hxj : (0 : Int) ≤ (x : Int) := by omega
  go_enter Tryz.func41, Tryz.ntmps41
  go_wp2_with (first
    | (go_at_call 84; refine hG.mono ?_; rintro e w1 ⟨rfl, v1, hD1, hB1, hc1⟩; obtain ⟨ao1, cap1, rfl, g1, g2⟩ := hB1.form; rw [HR.out] at hD1 hB1 g1)
    | (go_at_call 47; refine (decGet_any _ _ _ _ _ _ hD1).mono ?_; rintro e w2 ⟨rfl, rfl⟩)
    | (go_at_call 46; refine (decErr_any _ _ _ _ hD1 (.inl rfl)).mono ?_; rintro e w3 ⟨rfl, rfl⟩)
    | (go_at_call 86; refine (newBig_any _ _ _ _).mono ?_; rintro e w4 ⟨rfl, rfl⟩)
    | fail)
  go_ret3
  have hb1 := hbn.trans (hc1.below w.heap.size (by simp) (fun q hq => by omega))
  have hz := hb1.size
  have hsz : w.heap.size + 1 ≤ w1.heap.size := by have := hc1.size; simp at this; exact this
  refine ⟨_, rfl, ⟨_, Blk.new w1 _ _, ?_, by omega, by simp⟩, hb1.alloc hz _⟩
  exact Sl.below (Sl.mono hB1 (by omega) (Nat.le_refl _)) (below_new w1 _) (by omega)

set_option maxRecDepth 100000 in
set_option maxHeartbeats 2000000 in
theorem decodeRaw_short (v : Value) (l : List UInt8) (w : World) (t : TypeId) (u : Value) (hE : w.cell? ⟨EG, 0, none⟩ = some (.iface t u)) (h : Bytes w v l) (hl : l.length < 4) :
    Calls Tryz.prog 41 #[.agg #[v, .nilIface]] w fun e w' => (∃ t u, e = .returned (.tuple #[.int .i64 0, .nilIface, .iface t u])) ∧ Below w.heap.size w w' := by
  have hEl := cell_lt hE
  obtain ⟨ao, cap, rfl, h1, h2⟩ := h.form
  have hDn := Blk.new w [.slice ao l.length cap, .nilIface] DT
  have hBn : BB (w.alloc (.cells #[.slice ao l.length cap, .nilIface] DT)) w.heap.size (.slice ao l.length cap) l := Sl.below h (below_new w _) (Nat.le_refl _)
  have hbn := below_new w (.cells #[.slice ao l.length cap, .nilIface] DT)
  have hEn := (hbn.cell (p := ⟨EG, 0, none⟩) hEl).trans hE
  have hG := be32int_short w.heap.size _ l _ t u hDn hBn hEn hl
  go_enter Tryz.func41, Tryz.ntmps41
  go_wp2_with (first
    | (go_at_call 84; refine hG.mono ?_; rintro e w1 ⟨rfl, hD1, hc1⟩)
    | (go_at_call 47; refine (decGet_any _ _ _ _ _ _ hD1).mono ?_; rintro e w2 ⟨rfl, rfl⟩)
    | (go_at_call 46; refine (decErr_any _ _ _ _ hD1 (.inr ⟨t, u, rfl⟩)).mono ?_; rintro e w3 ⟨rfl, rfl⟩)
    | fail)
  go_ret3
  exact ⟨⟨_, _, rfl⟩, hbn.trans (hc1.below w.heap.size (by simp) (fun q hq => by omega))⟩

set_option maxRecDepth 100000 in
set_option maxHeartbeats 2000000 in
theorem decodeRaw_odd (v : Value) (b0 b1 b2 b3 : UInt8) (r : List UInt8) (w : World) (h : Bytes w v (b0 :: b1 :: b2 :: b3 :: r)) (hr : ¬ r.length = 4 * Lib.beNat [b0, b1, b2, b3]) :
    Calls Tryz.prog 41 #[.agg #[v, .nilIface]] w fun e w' => (∃ t u, e = .returned (.tuple #[.int .i64 0, .nilIface, .iface t u])) ∧ Below w.heap.size w w' := by
  have hx : Lib.beNat [b0, b1, b2, b3] < 4294967296 := by have := beNat_lt [b0, b1, b2, b3]; simpa using this
  obtain ⟨ao, cap, rfl, h1, h2⟩ := h.form
  have hDn := Blk.new w [.slice ao (b0 :: b1 :: b2 :: b3 :: r).length cap, .nilIface] DT
  have hBn : BB (w.alloc (.cells #[.slice ao (b0 :: b1 :: b2 :: b3 :: r).length cap, .nilIface] DT)) w.heap.size (.slice ao (b0 :: b1 :: b2 :: b3 :: r).length cap) (b0 :: b1 :: b2 :: b3 :: r) := Sl.below h (below_new w _) (Nat.le_refl _)
  have hbn := below_new w (.cells #[.slice ao (b0 :: b1 :: b2 :: b3 :: r).length cap, .nilIface] DT)
  have hG := be32int_ok w.heap.size _ b0 b1 b2 b3 r _ hDn hBn
  clear hDn hBn h h1
  generalize (b0 :: b1 :: b2 :: b3 :: r).length = n at *
  generalize Lib.beNat [b0, b1, b2, b3] = x at *
  have hxi : (x : Int) < 4294967296 := by omega
  have hxj : (0 : Int) ≤ (x : Int) := by omega
  have hn : ¬ ((r.length : Int) = 4 * (x : Int)) := by omega
  clear hr hx
  generalize (x : Int) = z at *
  go_enter Tryz.func41, Tryz.ntmps41
  go_wp2_with (first
    | (go_at_call 84; refine hG.mono ?_; rintro e w1 ⟨rfl, v1, hD1, hB1, hc1⟩; obtain ⟨ao1, cap1, rfl, g1, g2⟩ := hB1.form)
    | (go_at_call 47; refine (decGet_any _ _ _ _ _ _ hD1).mono ?_; rintro e w2 ⟨rfl, rfl⟩)
    | (go_at_call 46; refine (decErr_any _ _ _ _ hD1 (.inl rfl)).mono ?_; rintro e w3 ⟨rfl, rfl⟩)
    | (go_at_call 85; refine (errNew_any _ _).mono ?_; rintro e w4 ⟨⟨t4, u4, rfl⟩, hb4⟩)
    | fail)
  go_ret3
  exact ⟨⟨_, _, rfl⟩, bnx (hbn.trans (hc1.below w.heap.size (by simp) (fun q hq => by omega))) hb4⟩
/-- bytes that are no postings -/
theorem decodeRaw_bad (v : Value) (l : List UInt8) (w : World) (t : TypeId) (u : Value) (hE : w.cell? ⟨EG, 0, none⟩ = some (.iface t u)) (h : Bytes w v l) (hl : rawIs l = false) :
    Calls Tryz.prog 41 #[.agg #[v, .nilIface]] w fun e w' => (∃ t u, e = .returned (.tuple #[.int .i64 0, .nilIface, .iface t u])) ∧ Below w.heap.size w w' := by
  by_cases h4 : 4 ≤ l.length
  · match l, h4 with
    | b0 :: b1 :: b2 :: b3 :: r, h4 =>
      refine decodeRaw_odd v b0 b1 b2 b3 r w h fun hr => ?_
      unfold rawIs at hl
      simp at hl
      exact hl hr
  · exact decodeRaw_short v l w t u hE h (by omega)
end Go.Proofs.YtfllcbcokncgpaaGreatDoor
