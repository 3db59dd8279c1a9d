/-
  Decbuf: numbers of four bytes are got.
-/
import Derived.Test.YtkbkggamfkadnaaGreatDoorPad
import Derived.Test.YtkbkggamfkadnaaGreatDoorRawLaw
import Derived.Deep.RegionWith
namespace Go.Proofs.YtkbkggamfkadnaaGreatDoor
set_option linter.unusedSimpArgs false
set_option linter.unusedVariables false
open Go.RowKit

theorem BB.drop {w : World} {B b off n cap : Nat} {l : List UInt8} (h : BB w B (.slice (some ⟨b, off, none⟩) n cap) l) (k : Nat) (hk : k ≤ l.length) : BB w B (.slice (some ⟨b, off + k, none⟩) (l.length - k) (cap - k)) (l.drop k) := by
  obtain ⟨ao', cap', hv, h1, h2, h3⟩ := h
  cases hv
  refine ⟨_, cap - k, by rw [List.length_drop], by rw [List.length_drop]; omega, by omega, ?_⟩
  rcases h3 with h3 | ⟨b', off', e, hb, hB, hc⟩
  · left; rw [List.length_drop]; omega
  · cases e
    refine .inr ⟨b, off + k, rfl, hb, hB, fun i hi => ?_⟩
    rw [List.length_drop] at hi
    have := hc (k + i) (by omega)
    rw [show off + k + i = off + (k + i) by omega, this]
    simp [List.getD_eq_getElem?_getD, List.getElem?_drop]
theorem BB.empty (w : World) (B : Nat) (a : Option Addr) : BB w B (.slice a 0 0) [] := ⟨a, 0, rfl, Nat.le_refl _, by decide, .inl rfl⟩
theorem BB.chg {w w' : World} {B : Nat} {v : Value} {l : List UInt8} (h : BB w B v l) {S : Nat → Prop} (hc : Chg S w w') (hB : B ≤ w.heap.size) (hs : ∀ k, k < B → ¬ S k) : BB w' B v l := Sl.below h (hc.below B hB hs) (Nat.le_refl _)

set_option maxRecDepth 100000 in
set_option maxHeartbeats 2000000 in
theorem be32_ok (D : Nat) (v : Value) (b0 b1 b2 b3 : UInt8) (r : List UInt8) (w : World) (hD : Blk w D [v, .nilIface] DT) (hB : BB w D v (b0 :: b1 :: b2 :: b3 :: r)) :
    Calls Tryz.prog 60 #[.pointer (some ⟨D, 0, none⟩)] w fun e w' => e = .returned (.int .u32 (Lib.beNat [b0, b1, b2, b3] : Nat)) ∧ ∃ v', Blk w' D [v', .nilIface] DT ∧ BB w' D v' r ∧ Chg (fun q => q = D) w w' := by
  obtain ⟨ao, cap, rfl, h1, h2⟩ := hB.form
  obtain ⟨b, off, rfl, hb, hbB, hc⟩ := hB.at_ (by simp)
  have c0 : w.cell? ⟨b, off, none⟩ = some (.int .u8 b0.toNat) := hc 0 (by simp)
  have c1 : w.cell? ⟨b, off + 1, none⟩ = some (.int .u8 b1.toNat) := hc 1 (by simp)
  have c2 : w.cell? ⟨b, off + 2, none⟩ = some (.int .u8 b2.toNat) := hc 2 (by simp)
  have c3 : w.cell? ⟨b, off + 3, none⟩ = some (.int .u8 b3.toNat) := hc 3 (by simp)
  have hdr := hB.drop 4 (by simp)
  rw [show (b0 :: b1 :: b2 :: b3 :: r).drop 4 = r from rfl] at hdr
  have hn : (b0 :: b1 :: b2 :: b3 :: r).length = r.length + 4 := rfl
  clear hc hB
  generalize (b0 :: b1 :: b2 :: b3 :: r).length = n at *
  subst hn
  have hrd := Tryz.binary_BE_Uint32 b off (r.length + 4) cap b0 b1 b2 b3 w.drew (by omega) c0 c1 c2 c3
  have k0 := hD.cell 0
  have k1 := hD.cell 1
  generalize Lib.beNat [b0, b1, b2, b3] = x at *
  have n1 : ¬ ((r.length + 4 : Nat) : Int) < 4 := by omega
  have n2 : (4 : Int) ≤ ((r.length + 4 : Nat) : Int) := by omega
  have n3 : (4 : Int) ≤ (cap : Int) := by omega
  by_cases hk : cap = 4
  · subst hk
    obtain rfl : r = [] := List.length_eq_zero_iff.1 (by omega)
    go_enter Tryz.func60, Tryz.ntmps60
    go_wp2_with fail
    go_region_with (first | (go_at_call 84; refine hrd.mono ?_; rintro e w1 ⟨rfl, hb1⟩; have hc1 := (Chg.refl (fun q => q = D) w).drew.calls hb1; have hD1 := hD.chg ((Chg.refl (fun _ => False) w).drew.calls hb1) (fun h => h); have j0 := hD1.cell 0; have z0 := hD1.free 0) | fail)
    all_goals
      go_wp2_with fail
      go_ret
      exact ⟨rfl, _, hD1.set 0 _, BB.empty _ _ _, hc1.setCell ⟨D, 0, none⟩ rfl _⟩
  · have hk1 : ¬ (cap : Int) = 4 := by omega
    go_enter Tryz.func60, Tryz.ntmps60
    go_wp2_with fail
    go_region_with (first | (go_at_call 84; refine hrd.mono ?_; rintro e w1 ⟨rfl, hb1⟩; have hc1 := (Chg.refl (fun q => q = D) w).drew.calls hb1; have hD1 := hD.chg ((Chg.refl (fun _ => False) w).drew.calls hb1) (fun h => h); have j0 := hD1.cell 0; have z0 := hD1.free 0) | fail)
    all_goals
      go_wp2_with fail
      go_ret
      refine ⟨rfl, _, hD1.set 0 _, ?_, hc1.setCell ⟨D, 0, none⟩ rfl _⟩
      exact BB.chg hdr (hc1.setCell ⟨D, 0, none⟩ rfl _) (by omega) (fun q hq => by omega)

set_option maxRecDepth 100000 in
set_option maxHeartbeats 2000000 in
theorem be32_short (D : Nat) (v : Value) (m : List UInt8) (w : World) (t : TypeId) (u : Value) (hD : Blk w D [v, .nilIface] DT) (hB : BB w D v m) (hE : w.cell? ⟨EG, 0, none⟩ = some (.iface t u)) (hm : m.length < 4) :
    Calls Tryz.prog 60 #[.pointer (some ⟨D, 0, none⟩)] w fun e w' => e = .returned (.int .u32 0) ∧ Blk w' D [v, .iface t u] DT ∧ Chg (fun q => q = D) w w' := by
  obtain ⟨ao, cap, rfl, h1, h2⟩ := hB.form
  have k0 := hD.cell 0
  have k1 := hD.cell 1
  have z1 := hD.free 1
  have n1 : (m.length : Int) < 4 := by omega
  go_enter Tryz.func60, Tryz.ntmps60
  go_wp2_with fail
  go_ret
  exact ⟨rfl, hD.set 1 _, chg_set _ _ _ _⟩
end Go.Proofs.YtkbkggamfkadnaaGreatDoor
