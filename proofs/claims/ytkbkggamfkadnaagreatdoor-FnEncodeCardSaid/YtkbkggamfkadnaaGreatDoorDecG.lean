/-
  Decbuf: a byte, numbers in groups of seven bits; what is left out.
-/
import Derived.Test.YtkbkggamfkadnaaGreatDoorUvarint
import Derived.Test.YtkbkggamfkadnaaGreatDoorSealed2
import Derived.Test.YtkbkggamfkadnaaGreatDoorDec
namespace Go.Proofs.YtkbkggamfkadnaaGreatDoor
set_option linter.unusedSimpArgs false
set_option linter.unusedVariables false
open Go.RowKit

/-- a Decbuf at block D: what is left, and its error -/
def DSt (D : Nat) (w : World) (m : List UInt8) (E : Value) : Prop := ∃ v, Blk w D [v, E] DT ∧ BB w D v m
theorem DSt.chg {D : Nat} {w w' : World} {m : List UInt8} {E : Value} (h : DSt D w m E) {S : Nat → Prop} (hc : Chg S w w') (hs : ∀ k, k ≤ D → ¬ S k) : DSt D w' m E := by
  obtain ⟨v, h1, h2⟩ := h
  exact ⟨v, h1.chg hc (hs D (Nat.le_refl _)), h2.chg hc (Nat.le_of_lt h1.lt) (fun k hk => hs k (by omega))⟩

set_option maxRecDepth 100000 in
set_option maxHeartbeats 2000000 in
theorem byte_ok (D : Nat) (x : UInt8) (r : List UInt8) (w : World) (h : DSt D w (x :: r) .nilIface) :
    Calls Tryz.prog 59 #[.pointer (some ⟨D, 0, none⟩)] w fun e w' => e = .returned (.int .u8 (x.toNat : Int)) ∧ DSt D w' r .nilIface ∧ Chg (fun q => q = D) w w' := by
  obtain ⟨v, hD, hB⟩ := h
  obtain ⟨ao, cap, rfl, h1, h2⟩ := hB.form
  obtain ⟨b, off, rfl, hb, hbB, hc⟩ := hB.at_ (by simp)
  have c0 : w.cell? ⟨b, off, none⟩ = some (.int .u8 x.toNat) := hc 0 (by simp)
  have hdr := hB.drop 1 (by simp)
  rw [show (x :: r).drop 1 = r from rfl] at hdr
  have hn : (x :: r).length = r.length + 1 := rfl
  clear hc hB
  generalize (x :: r).length = n at *
  subst hn
  have k0 := hD.cell 0
  have k1 := hD.cell 1
  have z0 := hD.free 0
  generalize x.toNat = y at *
  have n1 : ¬ ((r.length + 1 : Nat) : Int) < 1 := by omega
  have n2 : (0 : Int) < ((r.length + 1 : Nat) : Int) := by omega
  have n3 : (1 : Int) ≤ (cap : Int) := by omega
  have n4 : (1 : Int) ≤ ((r.length + 1 : Nat) : Int) := by omega
  by_cases hk : cap = 1
  · subst hk
    obtain rfl : r = [] := List.length_eq_zero_iff.1 (by omega)
    go_enter Tryz.func59, Tryz.ntmps59
    go_wp2_with fail
    go_ret
    exact ⟨rfl, ⟨_, hD.set 0 _, BB.empty _ _ _⟩, chg_set _ _ _ _⟩
  · have hk1 : ¬ (cap : Int) = 1 := by omega
    go_enter Tryz.func59, Tryz.ntmps59
    go_wp2_with fail
    go_ret
    exact ⟨rfl, ⟨_, hD.set 0 _, BB.chg hdr (chg_set _ _ _ _) (by omega) (fun q hq => by omega)⟩, chg_set _ _ _ _⟩
theorem byte_short (D : Nat) (w : World) (t : TypeId) (u : Value) (h : DSt D w [] .nilIface) (hE : w.cell? ⟨EG, 0, none⟩ = some (.iface t u)) :
    Calls Tryz.prog 59 #[.pointer (some ⟨D, 0, none⟩)] w fun e w' => e = .returned (.int .u8 0) ∧ DSt D w' [] (.iface t u) ∧ Chg (fun q => q = D) w w' := by
  obtain ⟨v, hD, hB⟩ := h
  obtain ⟨ao, cap, rfl, h1, h2⟩ := hB.form
  have k0 := hD.cell 0
  have k1 := hD.cell 1
  have z1 := hD.free 1
  rw [show ([] : List UInt8).length = 0 from rfl] at *
  have hB2 : BB w D (.slice ao 0 cap) [] := hB
  clear hB
  go_enter Tryz.func59, Tryz.ntmps59
  go_wp2_with fail
  go_ret
  exact ⟨rfl, ⟨_, hD.set 1 _, BB.chg hB2 (chg_set _ D 1 _) (Nat.le_of_lt hD.lt) (fun q hq => by omega)⟩, chg_set _ _ _ _⟩
theorem byte_err (D : Nat) (w : World) (m : List UInt8) (t : TypeId) (u : Value) (h : DSt D w m (.iface t u)) :
    Calls Tryz.prog 59 #[.pointer (some ⟨D, 0, none⟩)] w fun e w' => e = .returned (.int .u8 0) ∧ w = w' := by
  obtain ⟨v, hD, hB⟩ := h
  have k1 := hD.cell 1
  go_enter Tryz.func59, Tryz.ntmps59
  go_wp2_with fail
  go_ret
  exact ⟨rfl, rfl⟩

theorem uvar_pos {m : List UInt8} (h : uOk m = true) : 0 < (uvar (m.take 10)).2 ∧ (uvar (m.take 10)).2 ≤ m.length ∧ (uvar (m.take 10)).2 ≤ 10 := by
  have h2 := uvar_le (m.take 10)
  rw [List.length_take] at h2
  unfold uOk at h
  simp at h
  omega

set_option maxRecDepth 100000 in
set_option maxHeartbeats 2000000 in
theorem uv64_ok (D : Nat) (m : List UInt8) (w : World) (h : DSt D w m .nilIface) (hl : m.length ≤ 2147483647) (hok : uOk m = true) :
    Calls Tryz.prog 68 #[.pointer (some ⟨D, 0, none⟩)] w fun e w' => e = .returned (.int .u64 ((uvar (m.take 10)).1 : Nat)) ∧ DSt D w' (m.drop (uvar (m.take 10)).2) .nilIface ∧ Chg (fun q => q = D) w w' := by
  obtain ⟨v, hD, hB⟩ := h
  have hBy : Bytes w v m := Sl.mono hB (Nat.le_of_lt hD.lt) (Nat.le_refl _)
  have hUv := uvarint_any v m w hBy hl
  have hp := uvar_pos hok
  obtain ⟨ao, cap, rfl, h1, h2⟩ := hB.form
  obtain ⟨b, off, rfl, hb, hbB, hc⟩ := hB.at_ (by omega)
  have hUc : Calls Tryz.prog 81 #[.slice (some ⟨b, off, none⟩) m.length cap] w fun e w' => e = .returned (.tuple #[.int .u64 ((uvar (m.take 10)).1 : Nat), .int .i64 ((uvar (m.take 10)).2 : Nat)]) ∧ w = w' :=
    hUv.mono fun e w' ⟨x, n, he, hw, hx, _⟩ => ⟨by rw [he, (hx hok).1, (hx hok).2], hw⟩
  have hdr := hB.drop (uvar (m.take 10)).2 hp.2.1
  have hnil : cap = (uvar (m.take 10)).2 → m.drop (uvar (m.take 10)).2 = [] := fun h => List.drop_eq_nil_of_le (by omega)
  generalize m.drop (uvar (m.take 10)).2 = r at *
  generalize (uvar (m.take 10)).1 = X at *
  generalize (uvar (m.take 10)).2 = u at *
  clear hUv hc hBy hok hB
  have hmn : m.length = m.length := rfl
  generalize m.length = n at *
  have k0 := hD.cell 0
  have k1 := hD.cell 1
  have z0 := hD.free 0
  have n1 : ¬ (u : Int) < 1 := by omega
  have n2 : (u : Int) ≤ (n : Int) := by omega
  have n3 : (u : Int) ≤ (cap : Int) := by omega
  have n4 : (0 : Int) ≤ (u : Int) := by omega
  by_cases hk : cap = u
  · obtain rfl := hnil hk
    subst hk
    obtain rfl : n = cap := by omega
    go_enter Tryz.func68, Tryz.ntmps68
    go_wp2_with (first
      | (go_at_call 81; refine hUc.mono ?_; rintro e w' ⟨rfl, rfl⟩)
      | fail)
    go_ret
    exact ⟨rfl, ⟨_, hD.set 0 _, by first | exact BB.empty _ _ _ | (have := BB.empty (w.setCell ⟨D, 0, none⟩ (.slice (some ⟨b, off, none⟩) 0 0)) D (some ⟨b, off, none⟩); simpa using this)⟩, chg_set _ _ _ _⟩
  · go_enter Tryz.func68, Tryz.ntmps68
    go_wp2_with (first
      | (go_at_call 81; refine hUc.mono ?_; rintro e w' ⟨rfl, rfl⟩)
      | fail)
    go_ret
    exact ⟨rfl, ⟨_, hD.set 0 _, BB.chg hdr (chg_set _ _ _ _) (by omega) (fun q hq => by omega)⟩, chg_set _ _ _ _⟩
set_option maxRecDepth 100000 in
set_option maxHeartbeats 2000000 in
theorem uv64_bad (D : Nat) (m : List UInt8) (w : World) (t : TypeId) (u : Value) (h : DSt D w m .nilIface) (hl : m.length ≤ 2147483647) (hok : uOk m = false) (hE : w.cell? ⟨EG, 0, none⟩ = some (.iface t u)) :
    Calls Tryz.prog 68 #[.pointer (some ⟨D, 0, none⟩)] w fun e w' => e = .returned (.int .u64 0) ∧ DSt D w' m (.iface t u) ∧ Chg (fun q => q = D) w w' := by
  obtain ⟨v, hD, hB⟩ := h
  have hBy : Bytes w v m := Sl.mono hB (Nat.le_of_lt hD.lt) (Nat.le_refl _)
  have hUv := uvarint_any v m w hBy hl
  obtain ⟨ao, cap, rfl, h1, h2⟩ := hB.form
  have k0 := hD.cell 0
  have k1 := hD.cell 1
  have z1 := hD.free 1
  have HB := Lib.hid hB
  clear hBy hB h1
  go_enter Tryz.func68, Tryz.ntmps68
  go_wp2_with (first
    | (go_at_call 81; refine hUv.mono ?_; rintro e w' ⟨x, n, rfl, rfl, -, hx⟩; have hn : n < 1 := by have := hx hok; omega)
    | fail)
  go_ret
  exact ⟨rfl, ⟨_, hD.set 1 _, BB.chg HB.out (chg_set _ D 1 _) (Nat.le_of_lt hD.lt) (fun q hq => by omega)⟩, chg_set _ _ _ _⟩
theorem uv64_err (D : Nat) (w : World) (m : List UInt8) (t : TypeId) (u : Value) (h : DSt D w m (.iface t u)) :
    Calls Tryz.prog 68 #[.pointer (some ⟨D, 0, none⟩)] w fun e w' => e = .returned (.int .u64 0) ∧ w = w' := by
  obtain ⟨v, hD, hB⟩ := h
  have k1 := hD.cell 1
  go_enter Tryz.func68, Tryz.ntmps68
  go_wp2_with fail
  go_ret
  exact ⟨rfl, rfl⟩
end Go.Proofs.YtkbkggamfkadnaaGreatDoor
