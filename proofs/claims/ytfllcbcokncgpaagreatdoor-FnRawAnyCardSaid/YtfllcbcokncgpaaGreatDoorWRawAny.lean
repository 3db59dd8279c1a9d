/-
  FnRawAny: the walk of the law.
-/
import Derived.Test.YtfllcbcokncgpaaGreatDoorReadRaw
import Derived.Test.YtfllcbcokncgpaaGreatDoorBig
import Derived.Test.YtfllcbcokncgpaaGreatDoorAwake
namespace Go.Proofs.YtfllcbcokncgpaaGreatDoor
set_option linter.unusedSimpArgs false
set_option linter.unusedVariables false
open Go.RowKit

theorem BB.sub {w : World} {B b off n cap : Nat} {l : List UInt8} (h : BB w B (.slice (some ⟨b, off, none⟩) n cap) l) (i k : Nat) (hk : i + k ≤ l.length) : BB w B (.slice (some ⟨b, off + i, none⟩) k (cap - i)) ((l.drop i).take k) := by
  obtain ⟨ao', cap', hv, h1, h2, h3⟩ := h
  cases hv
  have hl : ((l.drop i).take k).length = k := by rw [List.length_take, List.length_drop]; omega
  refine ⟨_, cap - i, by rw [hl], by rw [hl]; omega, by omega, ?_⟩
  rw [hl]
  rcases h3 with h3 | ⟨b', off', e, hb, hB, hc⟩
  · left; omega
  · cases e
    refine .inr ⟨b, off + i, rfl, hb, hB, fun j hj => ?_⟩
    have := hc (i + j) (by omega)
    rw [show off + i + j = off + (i + j) by omega, this]
    have hj' : j < k := by omega
    simp [List.getD_eq_getElem?_getD, List.getElem?_take, hj']

theorem cells_at {w1 : World} {base x : Nat} {xa : Option Addr} {xc : Nat} {L : List Int} (ho : w1.ownsRow base 28 1 (.slice xa x xc) x (L.map (Value.int .u64))) (hL : L.length = x) (hx : 0 < x) :
    ∃ g o, xa = some ⟨g, o, none⟩ ∧ g < w1.heap.size ∧ ∀ k, k < x → ∀ y, L[k]? = some y → w1.cell? ⟨g, o + k, none⟩ = some (.int .u64 y) := by
  subst hL
  obtain ⟨g, o, h1, h2, _, h3⟩ := (Ints.own (l := L) ho).at_ hx
  refine ⟨g, o, h1, h2, fun k hk y hy => ?_⟩
  rw [h3 k hk]
  rw [List.getElem?_eq_getElem hk] at hy
  injection hy with hy
  rw [hy]
set_option maxRecDepth 100000 in
set_option maxHeartbeats 4000000 in
theorem wRawAny_ok (v : Value) (b0 b1 b2 b3 : UInt8) (r : List UInt8) (w : World) (h : Bytes w v (b0 :: b1 :: b2 :: b3 :: r)) (hr : r.length = 4 * Lib.beNat [b0, b1, b2, b3]) (hl : (b0 :: b1 :: b2 :: b3 :: r).length ≤ 2000) :
    Calls Tryz.prog 4 #[v] w fun e w' => e = .returned (.bool true) ∧ Below w.heap.size w w' := by
  have hRd := readRaw_ok v b0 b1 b2 b3 r w h hr (by omega)
  obtain ⟨ao, cap, rfl, h1, h2⟩ := h.form
  obtain ⟨b, off, rfl, hb, hc⟩ := h.at_ (by simp)
  have hs4 : Bytes w (.slice (some ⟨b, off, none⟩) 4 cap) [b0, b1, b2, b3] := by
    have : BB w w.heap.size (.slice (some ⟨b, off, none⟩) 4 cap) [b0, b1, b2, b3] := by simpa using BB.sub h 0 4 (by simp)
    exact this
  have hBg := big_any _ _ w hs4 (by simp)
  have hN := nums4_length _ r hr
  have hn : (b0 :: b1 :: b2 :: b3 :: r).length = 4 * Lib.beNat [b0, b1, b2, b3] + 4 := by rw [← hr]; rfl
  have hget : ∀ k, k < Lib.beNat [b0, b1, b2, b3] → (nums4 r)[k]? = some ((Lib.beNat (((b0 :: b1 :: b2 :: b3 :: r).drop (4 * k + 4)).take 4) : Nat) : Int) := fun k hk => by
    rw [nums4_get k r (by omega)]
    rfl
  have HG := Lib.hid hget
  have HN := Lib.hid hN
  have HL := Lib.hid hn
  have HH := Lib.hid h
  have q0 : ((b0 :: b1 :: b2 :: b3 :: r).length : Int) ≤ 2000 := by omega
  have q1 : (4 : Int) ≤ ((b0 :: b1 :: b2 :: b3 :: r).length : Int) := by omega
  have q2 : (((b0 :: b1 :: b2 :: b3 :: r).length : Int) - 4 == 4 * ((Lib.beNat [b0, b1, b2, b3] : Nat) : Int)) = true := by rw [beq_iff_eq]; omega
  have q3 : (4 * ((Lib.beNat [b0, b1, b2, b3] : Nat) : Int) + 4 == ((b0 :: b1 :: b2 :: b3 :: r).length : Int)) = true := by rw [beq_iff_eq]; omega
  have q4 : (0 : Int) ≤ ((Lib.beNat [b0, b1, b2, b3] : Nat) : Int) := by omega
  have q5 : ((Lib.beNat [b0, b1, b2, b3] : Nat) : Int) ≤ 500 := by omega
  have q6 : (((Lib.beNat [b0, b1, b2, b3] : Nat) : Int) == ((Lib.beNat [b0, b1, b2, b3] : Nat) : Int)) = true := by simp
  have q7 : (4 : Int) ≤ (cap : Int) := by omega
  have hX : ∀ k, k < Lib.beNat [b0, b1, b2, b3] → decide (((b0 :: b1 :: b2 :: b3 :: r).length : Int) < 4 * (k : Int) + 8) = false := fun k hk => by rw [decide_eq_false_iff_not]; omega
  have HX := Lib.hid hX
  clear h hn hr hN hget hc hl hX
  generalize hl0 : b0 :: b1 :: b2 :: b3 :: r = l at *
  generalize Lib.beNat [b0, b1, b2, b3] = x at *
  clear hl0
  obtain ⟨z, hz⟩ : ∃ z : Int, z = (x : Int) := ⟨_, rfl⟩
  rw [← hz] at hBg hRd q2 q3 q4 q5
  have q6 : (z == (x : Int)) = true := by rw [hz]; simp
  clear hz
  generalize hln : l.length = n at *
  have HLN := Lib.hid hln
  clear hln
  go_enter Tryz.func4, Tryz.ntmps4
  go_wp2_with (first
    | (go_at_call 16; refine hBg.mono ?_; rintro e w1 ⟨rfl, rfl⟩)
    | (go_at_call 17; refine hRd.mono ?_; rintro e w1 ⟨x1, rfl, ho1, hb1⟩; obtain ⟨xa, xc, rfl⟩ := own_form ho1)
    | fail)
  go_loopw [7] (fun i wr => ∃ k : Nat, k ≤ x ∧ i = .int .i64 k ∧ Below w1.heap.size w1 wr) (fun i _ => x - (intOf i).toNat)
  case atStart => exact ⟨0, Nat.zero_le _, rfl, Below.refl _ _⟩
  case round =>
    obtain ⟨k, hk, rfl, hbel⟩ := hrel
    by_cases hlt : k < x
    · obtain ⟨g, o, rfl, hg, hcs⟩ := cells_at ho1 HN.out (by omega)
      have c0 := (hbel.cell (p := ⟨g, o + k, none⟩) hg).trans (hcs k hlt _ (HG.out k hlt))
      have hs4 : Bytes wr (.slice (some ⟨b, off + (4 * k + 4), none⟩) 4 (cap - (4 * k + 4))) ((l.drop (4 * k + 4)).take 4) := ((BB.sub HH.out (4 * k + 4) 4 (by rw [HLN.out, HL.out]; omega) : Bytes w _ _).up hb1).up hbel
      have hB2 := fun q => big_any _ _ (wr.drewN q) (hs4.up (below_drewN (Below.refl _ _) q)) (by simp; omega)
      generalize Lib.beNat ((l.drop (4 * k + 4)).take 4) = y at *
      have d0 := HX.out k hlt
      have i0 : (0 : Int) ≤ (k : Int) := by omega
      have i1 : (k : Int) < (x : Int) := by omega
      have i2 : 4 * (k : Int) + 8 ≤ (cap : Int) := by have := HL.out; omega
      have i3 : ¬ cap = 4 * k + 4 := by have := HL.out; omega
      have i4 : (k : Int) ≤ 500 := by have := HL.out; omega
      clear hs4 hcs
      go_wp2_with fail
      go_quiet (first | (go_at_call 16; refine (hB2 _).mono ?_; rintro e w' ⟨rfl, rfl⟩; exact ⟨rfl, _, rfl⟩) | fail)
      go_wp2_with fail
      go_roundw
      case rel => exact ⟨k + 1, by omega, by simp, below_drewN hbel nq⟩
      case measure => simp [intOf]; omega
    · obtain rfl : k = x := by omega
      go_wp2_with (first
        | (go_at_call 12; refine (awake_any _).mono ?_; rintro e w2 ⟨rfl, hb2⟩)
        | fail)
      go_ret
      exact ⟨rfl, (hb1.trans (hbel.mono hb1.size)).trans (hb2.mono (by have := hb1.size; have := hbel.size; omega))⟩

set_option maxRecDepth 100000 in
set_option maxHeartbeats 4000000 in
theorem wRawAny_odd (v : Value) (b0 b1 b2 b3 : UInt8) (r : List UInt8) (w : World) (t : TypeId) (u : Value) (hE : w.cell? ⟨EG, 0, none⟩ = some (.iface t u)) (h : Bytes w v (b0 :: b1 :: b2 :: b3 :: r)) (hr : ¬ r.length = 4 * Lib.beNat [b0, b1, b2, b3]) (hl : (b0 :: b1 :: b2 :: b3 :: r).length ≤ 2000) :
    Calls Tryz.prog 4 #[v] w fun e w' => e = .returned (.bool true) ∧ Below w.heap.size w w' := by
  have hno : rawIs (b0 :: b1 :: b2 :: b3 :: r) = false := by
    unfold rawIs
    simp
    exact hr
  have hRd := readRaw_bad v _ w t u hE h hno (by omega)
  have hx : Lib.beNat [b0, b1, b2, b3] < 4294967296 := by have := beNat_lt [b0, b1, b2, b3]; simpa using this
  obtain ⟨ao, cap, rfl, h1, h2⟩ := h.form
  obtain ⟨b, off, rfl, hb, hc⟩ := h.at_ (by simp)
  have hs4 : Bytes w (.slice (some ⟨b, off, none⟩) 4 cap) [b0, b1, b2, b3] := by
    have : BB w w.heap.size (.slice (some ⟨b, off, none⟩) 4 cap) [b0, b1, b2, b3] := by simpa using BB.sub h 0 4 (by simp)
    exact this
  have hBg := big_any _ _ w hs4 (by simp)
  have hn : (b0 :: b1 :: b2 :: b3 :: r).length = r.length + 4 := rfl
  have q0 : ((b0 :: b1 :: b2 :: b3 :: r).length : Int) ≤ 2000 := by omega
  have q1 : (4 : Int) ≤ ((b0 :: b1 :: b2 :: b3 :: r).length : Int) := by omega
  have q2 : (((b0 :: b1 :: b2 :: b3 :: r).length : Int) - 4 == 4 * ((Lib.beNat [b0, b1, b2, b3] : Nat) : Int)) = false := by rw [beq_eq_false_iff_ne]; omega
  have q4 : (0 : Int) ≤ ((Lib.beNat [b0, b1, b2, b3] : Nat) : Int) := by omega
  have q5 : ((Lib.beNat [b0, b1, b2, b3] : Nat) : Int) < 4294967296 := by omega
  have q7 : (4 : Int) ≤ (cap : Int) := by omega
  clear h hn hr hc hl hx hno
  generalize hl0 : b0 :: b1 :: b2 :: b3 :: r = l at *
  generalize ((Lib.beNat [b0, b1, b2, b3] : Nat) : Int) = z at *
  clear hl0
  generalize l.length = n at *
  go_enter Tryz.func4, Tryz.ntmps4
  go_wp2_with (first
    | (go_at_call 16; refine hBg.mono ?_; rintro e w1 ⟨rfl, rfl⟩)
    | (go_at_call 17; refine hRd.mono ?_; rintro e w1 ⟨rfl, hb1⟩)
    | (go_at_call 12; refine (awake_any _).mono ?_; rintro e w2 ⟨rfl, hb2⟩)
    | fail)
  go_ret
  exact ⟨rfl, bnx hb1 hb2⟩

set_option maxRecDepth 100000 in
set_option maxHeartbeats 4000000 in
theorem wRawAny_short (v : Value) (l : List UInt8) (w : World) (t : TypeId) (u : Value) (hE : w.cell? ⟨EG, 0, none⟩ = some (.iface t u)) (h : Bytes w v l) (hl : l.length < 4) :
    Calls Tryz.prog 4 #[v] w fun e w' => e = .returned (.bool true) ∧ Below w.heap.size w w' := by
  have hno : rawIs l = false := by
    unfold rawIs
    simp
    omega
  have hRd := readRaw_bad v _ w t u hE h hno (by omega)
  obtain ⟨ao, cap, rfl, h1, h2⟩ := h.form
  have q0 : (l.length : Int) < 4 := by omega
  clear h hno hl
  generalize l.length = n at *
  go_enter Tryz.func4, Tryz.ntmps4
  go_wp2_with (first
    | (go_at_call 17; refine hRd.mono ?_; rintro e w1 ⟨rfl, hb1⟩)
    | (go_at_call 12; refine (awake_any _).mono ?_; rintro e w2 ⟨rfl, hb2⟩)
    | fail)
  go_ret
  exact ⟨rfl, bnx hb1 hb2⟩

set_option maxRecDepth 100000 in
set_option maxHeartbeats 4000000 in
theorem wRawAny (v : Value) (l : List UInt8) (w : World) (h : Bytes w v l) (hE : ∃ t u, w.cell? ⟨EG, 0, none⟩ = some (.iface t u)) :
    Calls Tryz.prog 4 #[v] w fun e w' => e = .returned (.bool true) ∧ Below w.heap.size w w' := by
  obtain ⟨t, u, hE⟩ := hE
  by_cases c1 : 2147483647 < l.length
  · obtain ⟨ao, cap, rfl, h1, h2⟩ := h.form
    have c1' : (2147483647 : Int) < (l.length : Int) := by omega
    go_enter Tryz.func4, Tryz.ntmps4
    go_wp2_with fail
    go_ret
    exact ⟨rfl, Below.refl _ _⟩
  · by_cases c2 : 2000 < l.length
    · obtain ⟨ao, cap, rfl, h1, h2⟩ := h.form
      have c2' : (2000 : Int) < (l.length : Int) := by omega
      go_enter Tryz.func4, Tryz.ntmps4
      go_wp2_with (first | (go_at_call 12; refine (awake_any _).mono ?_; rintro e w1 ⟨rfl, hb1⟩) | fail)
      go_ret
      exact ⟨rfl, hb1⟩
    · by_cases c3 : l.length < 4
      · exact wRawAny_short v l w t u hE h c3
      · match l, h, c2, c3 with
        | b0 :: b1 :: b2 :: b3 :: r, h, c2, c3 =>
          by_cases c4 : r.length = 4 * Lib.beNat [b0, b1, b2, b3]
          · exact wRawAny_ok v b0 b1 b2 b3 r w h c4 (by omega)
          · exact wRawAny_odd v b0 b1 b2 b3 r w t u hE h c4 (by omega)
        | [], _, _, c3 => exact absurd (by simp) c3
        | [_], _, _, c3 => exact absurd (by simp) c3
        | [_, _], _, _, c3 => exact absurd (by simp) c3
        | [_, _, _], _, _, c3 => exact absurd (by simp) c3
end Go.Proofs.YtfllcbcokncgpaaGreatDoor
