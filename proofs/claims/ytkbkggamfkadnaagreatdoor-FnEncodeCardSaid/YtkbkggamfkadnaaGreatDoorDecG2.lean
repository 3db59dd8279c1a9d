/-
  Decbuf: more numbers; what is left out.
-/
import Derived.Test.YtkbkggamfkadnaaGreatDoorDecG
namespace Go.Proofs.YtkbkggamfkadnaaGreatDoor
set_option linter.unusedSimpArgs false
set_option linter.unusedVariables false
open Go.RowKit

theorem uvInt_ok (D : Nat) (m : List UInt8) (w : World) (h : DSt D w m .nilIface) (hl : m.length ≤ 2147483647) (hok : uOk m = true) :
    Calls Tryz.prog 66 #[.pointer (some ⟨D, 0, none⟩)] w fun e w' => e = .returned (.int .i64 (wrap64 ((uvar (m.take 10)).1 : Nat))) ∧ DSt D w' (m.drop (uvar (m.take 10)).2) .nilIface ∧ Chg (fun q => q = D) w w' := by
  have hU := uv64_ok D m w h hl hok
  generalize ((((uvar (m.take 10)).1 : Nat)) : Int) = X at *
  go_enter Tryz.func66, Tryz.ntmps66
  go_wp2_with (first
    | (go_at_call 68; refine hU.mono ?_; rintro e w1 ⟨rfl, h1, h2⟩)
    | fail)
  go_ret
  exact ⟨rfl, h1, h2⟩
theorem uv32_ok (D : Nat) (m : List UInt8) (w : World) (h : DSt D w m .nilIface) (hl : m.length ≤ 2147483647) (hok : uOk m = true) :
    Calls Tryz.prog 67 #[.pointer (some ⟨D, 0, none⟩)] w fun e w' => e = .returned (.int .u32 (((uvar (m.take 10)).1 : Nat) % 4294967296 : Int)) ∧ DSt D w' (m.drop (uvar (m.take 10)).2) .nilIface ∧ Chg (fun q => q = D) w w' := by
  have hU := uv64_ok D m w h hl hok
  generalize ((((uvar (m.take 10)).1 : Nat)) : Int) = X at *
  go_enter Tryz.func67, Tryz.ntmps67
  go_wp2_with (first
    | (go_at_call 68; refine hU.mono ?_; rintro e w1 ⟨rfl, h1, h2⟩)
    | fail)
  go_ret
  exact ⟨rfl, h1, h2⟩

set_option maxRecDepth 100000 in
set_option maxHeartbeats 2000000 in
theorem skip_ok (D : Nat) (m : List UInt8) (n : Nat) (E : Value) (w : World) (h : DSt D w m E) (hn : n ≤ m.length) (hl : m.length ≤ 2147483647) :
    Calls Tryz.prog 72 #[.pointer (some ⟨D, 0, none⟩), .int .i64 n] w fun e w' => e = .returned (.tuple #[]) ∧ DSt D w' (m.drop n) E ∧ Chg (fun q => q = D) w w' := by
  obtain ⟨v, hD, hB⟩ := h
  obtain ⟨ao, cap, rfl, h1, h2⟩ := hB.form
  have k0 := hD.cell 0
  have z0 := hD.free 0
  have n2 : ¬ (m.length : Int) < (n : Int) := by omega
  have n3 : (n : Int) ≤ (cap : Int) := by omega
  have n4 : (0 : Int) ≤ (n : Int) := by omega
  have n5 : (n : Int) ≤ (m.length : Int) := by omega
  have hnil : cap = n → m.drop n = [] := fun h => List.drop_eq_nil_of_le (by omega)
  have hdr : ∀ b off, ao = some ⟨b, off, none⟩ → BB w D (.slice (some ⟨b, off + n, none⟩) (m.length - n) (cap - n)) (m.drop n) := fun b off h => by subst h; exact hB.drop n hn
  rcases Nat.eq_zero_or_pos m.length with h0 | h0
  · have : m = [] := List.length_eq_zero_iff.1 h0
    subst this
    obtain rfl : n = 0 := by simpa using hn
    have HB := Lib.hid hB
    clear hB hdr hnil
    rw [show ([] : List UInt8).length = 0 from rfl] at *
    go_enter Tryz.func72, Tryz.ntmps72
    go_wp2_with fail
    go_end0
    exact ⟨rfl, ⟨_, hD.set 0 _, BB.chg HB.out (chg_set _ D 0 _) (Nat.le_of_lt hD.lt) (fun q hq => by omega)⟩, chg_set _ _ _ _⟩
  · obtain ⟨b, off, rfl, hb, hbB, hc⟩ := hB.at_ h0
    have hdr := hdr b off rfl
    clear hB hc
    generalize m.drop n = r at *
    generalize m.length = k at *
    by_cases hk : cap = n
    · obtain rfl := hnil hk
      subst hk
      obtain rfl : k = cap := by omega
      go_enter Tryz.func72, Tryz.ntmps72
      go_wp2_with fail
      go_end0
      exact ⟨rfl, ⟨_, hD.set 0 _, by first | exact BB.empty _ _ _ | (have := BB.empty (w.setCell ⟨D, 0, none⟩ (.slice (some ⟨b, off, none⟩) 0 0)) D (some ⟨b, off, none⟩); simpa using this)⟩, chg_set _ _ _ _⟩
    · go_enter Tryz.func72, Tryz.ntmps72
      go_wp2_with fail
      go_end0
      exact ⟨rfl, ⟨_, hD.set 0 _, BB.chg hdr (chg_set _ _ _ _) (by omega) (fun q hq => by omega)⟩, chg_set _ _ _ _⟩
theorem skip_short (D : Nat) (m : List UInt8) (n : Nat) (E : Value) (w : World) (t : TypeId) (u : Value) (h : DSt D w m E) (hn : m.length < n) (hl : n ≤ 4294967296) (hE : w.cell? ⟨EG, 0, none⟩ = some (.iface t u)) :
    Calls Tryz.prog 72 #[.pointer (some ⟨D, 0, none⟩), .int .i64 n] w fun e w' => e = .returned (.tuple #[]) ∧ DSt D w' m (.iface t u) ∧ Chg (fun q => q = D) w w' := by
  obtain ⟨v, hD, hB⟩ := h
  obtain ⟨ao, cap, rfl, h1, h2⟩ := hB.form
  have k0 := hD.cell 0
  have k1 := hD.cell 1
  have z1 := hD.free 1
  have n2 : (m.length : Int) < (n : Int) := by omega
  have HB := Lib.hid hB
  clear hB h1
  generalize m.length = k at *
  go_enter Tryz.func72, Tryz.ntmps72
  go_wp2_with fail
  refine bodyPost_ret (v := .tuple #[]) (by simp [results, Tryz.results72, go_sem]) rfl ⟨rfl, ⟨_, hD.set 1 _, BB.chg HB.out (chg_set _ D 1 _) (Nat.le_of_lt hD.lt) (fun q hq => by omega)⟩, chg_set _ _ _ _⟩
end Go.Proofs.YtkbkggamfkadnaaGreatDoor
