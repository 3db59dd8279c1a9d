/-
  Decbuf: numbers of eight bytes are got.
-/
import Derived.Test.YtkbkggamfkadnaaGreatDoorDec
namespace Go.Proofs.YtkbkggamfkadnaaGreatDoor
set_option linter.unusedSimpArgs false
set_option linter.unusedVariables false
open Go.RowKit

set_option maxRecDepth 100000 in
set_option maxHeartbeats 2000000 in
theorem be64_cons (D : Nat) (v : Value) (b0 b1 b2 b3 b4 b5 b6 b7 : UInt8) (r : List UInt8) (w : World) (hD : Blk w D [v, .nilIface] DT) (hB : BB w D v (b0 :: b1 :: b2 :: b3 :: b4 :: b5 :: b6 :: b7 :: r)) :
    Calls Tryz.prog 61 #[.pointer (some ⟨D, 0, none⟩)] w fun e w' => e = .returned (.int .u64 (Lib.beNat [b0, b1, b2, b3, b4, b5, b6, b7] : Nat)) ∧ ∃ v', Blk w' D [v', .nilIface] DT ∧ BB w' D v' r ∧ Chg (fun q => q = D) w w' := by
  obtain ⟨ao, cap, rfl, h1, h2⟩ := hB.form
  obtain ⟨b, off, rfl, hb, hbB, hc⟩ := hB.at_ (by simp)
  have c0 : w.cell? ⟨b, off, none⟩ = some (.int .u8 b0.toNat) := hc 0 (by simp)
  have c1 : w.cell? ⟨b, off + 1, none⟩ = some (.int .u8 b1.toNat) := hc 1 (by simp)
  have c2 : w.cell? ⟨b, off + 2, none⟩ = some (.int .u8 b2.toNat) := hc 2 (by simp)
  have c3 : w.cell? ⟨b, off + 3, none⟩ = some (.int .u8 b3.toNat) := hc 3 (by simp)
  have c4 : w.cell? ⟨b, off + 4, none⟩ = some (.int .u8 b4.toNat) := hc 4 (by simp)
  have c5 : w.cell? ⟨b, off + 5, none⟩ = some (.int .u8 b5.toNat) := hc 5 (by simp)
  have c6 : w.cell? ⟨b, off + 6, none⟩ = some (.int .u8 b6.toNat) := hc 6 (by simp)
  have c7 : w.cell? ⟨b, off + 7, none⟩ = some (.int .u8 b7.toNat) := hc 7 (by simp)
  have hdr := hB.drop 8 (by simp)
  rw [show (b0 :: b1 :: b2 :: b3 :: b4 :: b5 :: b6 :: b7 :: r).drop 8 = r from rfl] at hdr
  have hn : (b0 :: b1 :: b2 :: b3 :: b4 :: b5 :: b6 :: b7 :: r).length = r.length + 8 := rfl
  clear hc hB
  generalize (b0 :: b1 :: b2 :: b3 :: b4 :: b5 :: b6 :: b7 :: r).length = n at *
  subst hn
  have hrd := Tryz.binary_BE_Uint64 b off (r.length + 8) cap b0 b1 b2 b3 b4 b5 b6 b7 w.drew (by omega) c0 c1 c2 c3 c4 c5 c6 c7
  have k0 := hD.cell 0
  have k1 := hD.cell 1
  generalize Lib.beNat [b0, b1, b2, b3, b4, b5, b6, b7] = x at *
  have n1 : ¬ ((r.length + 8 : Nat) : Int) < 8 := by omega
  have n2 : (8 : Int) ≤ ((r.length + 8 : Nat) : Int) := by omega
  have n3 : (8 : Int) ≤ (cap : Int) := by omega
  by_cases hk : cap = 8
  · subst hk
    obtain rfl : r = [] := List.length_eq_zero_iff.1 (by omega)
    go_enter Tryz.func61, Tryz.ntmps61
    go_wp2_with fail
    go_region_with (first | (go_at_call 99; refine hrd.mono ?_; rintro e w1 ⟨rfl, hb1⟩; have hc1 := (Chg.refl (fun q => q = D) w).drew.calls hb1; have hD1 := hD.chg ((Chg.refl (fun _ => False) w).drew.calls hb1) (fun h => h); have j0 := hD1.cell 0; have z0 := hD1.free 0) | fail)
    all_goals
      go_wp2_with fail
      go_ret
      exact ⟨rfl, _, hD1.set 0 _, BB.empty _ _ _, hc1.setCell ⟨D, 0, none⟩ rfl _⟩
  · have hk1 : ¬ (cap : Int) = 8 := by omega
    go_enter Tryz.func61, Tryz.ntmps61
    go_wp2_with fail
    go_region_with (first | (go_at_call 99; refine hrd.mono ?_; rintro e w1 ⟨rfl, hb1⟩; have hc1 := (Chg.refl (fun q => q = D) w).drew.calls hb1; have hD1 := hD.chg ((Chg.refl (fun _ => False) w).drew.calls hb1) (fun h => h); have j0 := hD1.cell 0; have z0 := hD1.free 0) | fail)
    all_goals
      go_wp2_with fail
      go_ret
      refine ⟨rfl, _, hD1.set 0 _, ?_, hc1.setCell ⟨D, 0, none⟩ rfl _⟩
      exact BB.chg hdr (hc1.setCell ⟨D, 0, none⟩ rfl _) (by omega) (fun q hq => by omega)


theorem be64_ok (D : Nat) (v : Value) (l : List UInt8) (w : World) (hD : Blk w D [v, .nilIface] DT) (hB : BB w D v l) (h8 : 8 ≤ l.length) :
    Calls Tryz.prog 61 #[.pointer (some ⟨D, 0, none⟩)] w fun e w' => e = .returned (.int .u64 (Lib.beNat (l.take 8) : Nat)) ∧ ∃ v', Blk w' D [v', .nilIface] DT ∧ BB w' D v' (l.drop 8) ∧ Chg (fun q => q = D) w w' := by
  match l, hB, h8 with
  | b0 :: b1 :: b2 :: b3 :: b4 :: b5 :: b6 :: b7 :: r, hB, _ => exact be64_cons D v b0 b1 b2 b3 b4 b5 b6 b7 r w hD hB
end Go.Proofs.YtkbkggamfkadnaaGreatDoor
