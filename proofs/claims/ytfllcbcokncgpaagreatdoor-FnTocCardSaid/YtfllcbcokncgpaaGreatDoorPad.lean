/-
  Padding: zeros ahead are consumed.
-/
import Derived.Test.YtfllcbcokncgpaaGreatDoorAwake
import Derived.Deep.LoopGhost
import Derived.Laws.BytesArg
namespace Go.Proofs.YtfllcbcokncgpaaGreatDoor
set_option linter.unusedSimpArgs false
set_option linter.unusedVariables false
open Go.RowKit

def pad : List UInt8 → List UInt8
  | [] => []
  | x :: l => if l ≠ [] ∧ x = 0 then pad l else x :: l
/-- a slice of bytes below B -/
def BB (w : World) (B : Nat) (v : Value) (l : List UInt8) : Prop := Sl w B 1 v l.length fun i => .int .u8 (l.getD i 0).toNat
theorem BB.form {w : World} {B : Nat} {v : Value} {l : List UInt8} (h : BB w B v l) : ∃ ao cap, v = .slice ao l.length cap ∧ l.length ≤ cap ∧ cap ≤ maxLen := Sl.form h
theorem BB.at_ {w : World} {B : Nat} {ao : Option Addr} {n cap : Nat} {l : List UInt8} (h : BB w B (.slice ao n cap) l) (hn : 0 < l.length) :
    ∃ b off, ao = some ⟨b, off, none⟩ ∧ b < B ∧ B ≤ w.heap.size ∧ ∀ i (hi : i < l.length), w.cell? ⟨b, off + i, none⟩ = some (.int .u8 l[i].toNat) := by
  obtain ⟨b, off, h1, h2, h2', h3⟩ := Sl.at_ h hn
  exact ⟨b, off, h1, h2, h2', fun i hi => by rw [h3 i (by omega)]; simp [hi]⟩
theorem BB.tail {w : World} {B b off n cap : Nat} {l : List UInt8} (h : BB w B (.slice (some ⟨b, off, none⟩) n cap) l) (hl : 0 < l.length) : BB w B (.slice (some ⟨b, off + 1, none⟩) (l.length - 1) (cap - 1)) l.tail := by
  obtain ⟨ao', cap', hv, h1, h2, h3⟩ := h
  cases hv
  rcases h3 with h3 | ⟨b', off', e, hb, hB, hc⟩
  · omega
  · cases e
    refine ⟨_, cap - 1, by rw [List.length_tail], by rw [List.length_tail]; omega, by omega, .inr ⟨b, off + 1, rfl, hb, hB, fun i hi => ?_⟩⟩
    rw [List.length_tail] at hi
    have := hc (i + 1) (by omega)
    rw [show off + 1 + i = off + (i + 1) by omega, this]
    cases l with
    | nil => simp at hl
    | cons x l => simp
theorem pad_tail : ∀ {l : List UInt8}, (hl : 1 < l.length) → l[0].toNat = 0 → pad l.tail = pad l
  | [], hl, _ => by simp at hl
  | [_], hl, _ => by simp at hl
  | x :: y :: l, _, h0 => by
    have hx : x = 0 := UInt8.toNat_inj.1 (by simpa using h0)
    rw [pad, if_pos ⟨by simp, hx⟩]
    rfl
theorem pad_stop : ∀ {l : List UInt8}, (l.length ≤ 1 ∨ ∃ h : 0 < l.length, l[0].toNat ≠ 0) → pad l = l
  | [], _ => rfl
  | x :: l, h => by
    rw [pad, if_neg]
    rintro ⟨h1, h2⟩
    rcases h with h | ⟨_, h⟩
    · exact h1 (List.length_eq_zero_iff.1 (by simpa using h))
    · subst h2
      exact h rfl
theorem tail_nil {l m : List UInt8} (h : 1 < l.length) (hn : l = [] ↔ m = []) : l.tail = [] ↔ m = [] := by
  constructor
  · intro h1
    have h5 : l.tail.length = 0 := by rw [h1]; rfl
    rw [List.length_tail] at h5
    omega
  · intro h1
    rw [hn.2 h1] at h
    simp at h
theorem cell_lt {w : World} {b o : Nat} {v : Value} (h : w.cell? ⟨b, o, none⟩ = some v) : b < w.heap.size := by
  rcases Nat.lt_or_ge b w.heap.size with h1 | h1
  · exact h1
  · unfold World.cell? at h
    simp [Array.getElem?_eq_none h1] at h
theorem pad_len : ∀ l : List UInt8, (pad l).length ≤ l.length
  | [] => Nat.le_refl _
  | x :: l => by
    rw [pad]
    split
    · have := pad_len l
      simp only [List.length_cons]
      omega
    · exact Nat.le_refl _
abbrev DT : TypeId := 83
abbrev EG : Nat := 0

set_option maxRecDepth 100000 in
set_option maxHeartbeats 2000000 in
theorem consume_any (D : Nat) (v : Value) (m : List UInt8) (w : World) (t : TypeId) (u : Value) (hD : Blk w D [v, .nilIface] DT) (hB : BB w D v m) (hE : w.cell? ⟨EG, 0, none⟩ = some (.iface t u)) (h0 : EG < D) (hl : m.length ≤ 2147483647) :
    Calls Tryz.prog 45 #[.pointer (some ⟨D, 0, none⟩)] w fun e w' => e = .returned (.tuple #[]) ∧ ∃ v', Blk w' D [v', if m = [] then .iface t u else .nilIface] DT ∧ BB w' D v' (pad m) ∧ Chg (fun q => q = D) w w' := by
  have k1 := hD.cell 1
  go_enter Tryz.func45, Tryz.ntmps45
  go_wp2_with fail
  go_loopg [] m.length (fun kx wr => ∃ v' m', m'.length = kx ∧ m'.length ≤ m.length ∧ Hid (m' = [] ↔ m = []) ∧ Hid (pad m' = pad m) ∧ Blk wr D [v', .nilIface] DT ∧ BB wr D v' m' ∧ Chg (fun q => q = D) w wr)
  case atStart => exact ⟨v, m, rfl, Nat.le_refl _, Lib.hid Iff.rfl, Lib.hid rfl, hD, hB, Chg.refl _ _⟩
  case round => as_aux_lemma =>
    obtain ⟨v', m', hk, hle, hnl, hpd, hDr, hBr, hch⟩ := hrel
    subst hk
    obtain ⟨ao, cap, rfl, h1, h2⟩ := hBr.form
    have d0 := hDr.cell 0
    have d1 := hDr.cell 1
    have z0 := hDr.free 0
    have z1 := hDr.free 1
    by_cases c1 : 1 < m'.length
    · have c1' : (1 : Int) < (m'.length : Int) := by omega
      obtain ⟨b, off, rfl, hb, hbB, hc⟩ := hBr.at_ (by omega)
      have c0 := hc 0 (by omega)
      rw [Nat.add_zero] at c0
      have n1 : (1 : Int) ≤ (m'.length : Int) := by omega
      have n2 : (1 : Int) ≤ (cap : Int) := by omega
      have n3 : ¬ cap = 1 := by omega
      have n4 : (m'.length : Int) ≤ (cap : Int) := by omega
      have i0 : (0 : Int) < (m'.length : Int) := by omega
      by_cases hz : m'[0].toNat = 0
      · have hP := Lib.hid (pad_tail c1 hz)
        have q0 : (m'[0].toNat : Int) = 0 := by omega
        rw [q0] at c0
        have hN := Lib.hid (tail_nil c1 hnl.out)
        have hT := hBr.tail (by omega)
        clear q0 hc hz
        go_wp2_with fail
        have hs := hDr.set 0 (.slice (some ⟨b, off + 1, none⟩) (m'.length - 1) (cap - 1))
        have hc2 := hch.setCell ⟨D, 0, none⟩ rfl (.slice (some ⟨b, off + 1, none⟩) (m'.length - 1) (cap - 1))
        have hT2 : BB (wr.setCell ⟨D, 0, none⟩ (.slice (some ⟨b, off + 1, none⟩) (m'.length - 1) (cap - 1))) D (.slice (some ⟨b, off + 1, none⟩) (m'.length - 1) (cap - 1)) m'.tail := Sl.below hT ((Chg.setCell (S := fun q => q = D) (Chg.refl (fun q => q = D) wr) ⟨D, 0, none⟩ rfl _).below D (by omega) (fun q hq => by omega)) (Nat.le_refl _)
        go_roundg (m'.length - 1)
        case rel => exact ⟨_, m'.tail, by simp, by simp; omega, hN, Lib.hid (hP.out.trans hpd.out), hs, hT2, hc2⟩
        case measure => omega
      · have hP := Lib.hid (pad_stop (.inr ⟨by omega, hz⟩))
        have q0 : ((m'[0].toNat : Int) == 0) = false := by rw [beq_eq_false_iff_ne]; omega
        have c2 : ¬ (m'.length : Int) < 1 := by omega
        have hM := Lib.hid (show ¬ m = [] from fun h => by have := hnl.out.2 h; subst this; simp at c1)
        clear hc hz
        go_wp2_with fail
        go_end0
        refine ⟨rfl, .slice (some ⟨b, off, none⟩) m'.length cap, ?_, ?_, hch⟩
        · first | exact hDr | (rw [if_neg hM.out]; exact hDr)
        · rw [← hpd.out, hP.out]; exact hBr
    · have c1' : ¬ (1 : Int) < (m'.length : Int) := by omega
      have hP := Lib.hid (pad_stop (l := m') (.inl (by omega)))
      by_cases c2 : m'.length < 1
      · have c2' : (m'.length : Int) < 1 := by omega
        have hM := Lib.hid (hnl.out.1 (List.length_eq_zero_iff.1 (by omega)))
        have hEr := cell_chg hch hE (show ¬ EG = D by omega)
        go_wp2_with fail
        go_end0
        refine ⟨rfl, .slice ao m'.length cap, ?_, ?_, hch.setCell ⟨D, 1, none⟩ rfl (.iface t u)⟩
        · first | exact hDr.set 1 (.iface t u) | (rw [if_pos hM.out]; exact hDr.set 1 (.iface t u))
        · first | rw [← hpd.out, hP.out] | rw [show pad [] = m' by rw [← hM.out, ← hpd.out, hP.out]]
          exact Sl.below hBr ((Chg.setCell (S := fun q => q = D) (Chg.refl (fun q => q = D) wr) ⟨D, 1, none⟩ rfl _).below D (by have := hDr.lt; omega) (fun q hq => by omega)) (Nat.le_refl _)
      · have c2' : ¬ (m'.length : Int) < 1 := by omega
        have hM := Lib.hid (show ¬ m = [] from fun h => by have := hnl.out.2 h; subst this; simp at c2)
        go_wp2_with fail
        go_end0
        refine ⟨rfl, .slice ao m'.length cap, ?_, ?_, hch⟩
        · first | exact hDr | (rw [if_neg hM.out]; exact hDr)
        · rw [← hpd.out, hP.out]; exact hBr

theorem decErr_any (D : Nat) (v E : Value) (w : World) (hD : Blk w D [v, E] DT) (hE : E = .nilIface ∨ ∃ t u, E = .iface t u) :
    Calls Tryz.prog 46 #[.pointer (some ⟨D, 0, none⟩)] w fun e w' => e = .returned E ∧ w = w' := by
  have c1 := hD.cell 1
  rcases hE with rfl | ⟨t, u, rfl⟩
  all_goals
    go_enter Tryz.func46, Tryz.ntmps46
    go_wp2_with fail
    go_ret
    exact ⟨rfl, rfl⟩
theorem decGet_any (D : Nat) (a : Option Addr) (n c : Nat) (E : Value) (w : World) (hD : Blk w D [.slice a n c, E] DT) :
    Calls Tryz.prog 47 #[.pointer (some ⟨D, 0, none⟩)] w fun e w' => e = .returned (.slice a n c) ∧ w = w' := by
  have c0 := hD.cell 0
  go_enter Tryz.func47, Tryz.ntmps47
  go_wp2_with fail
  go_ret
  exact ⟨rfl, rfl⟩

set_option maxRecDepth 100000 in
set_option maxHeartbeats 2000000 in
theorem padding_any (v : Value) (m : List UInt8) (w : World) (t : TypeId) (u : Value) (hB : Bytes w v m) (hE : w.cell? ⟨EG, 0, none⟩ = some (.iface t u)) (hl : m.length ≤ 2147483647) :
    Calls Tryz.prog 21 #[v] w fun e w' => ∃ x, e = .returned (.tuple #[x, .bool (!m.isEmpty)]) ∧ (m ≠ [] → Bytes w' x (pad m)) ∧ (m = [] → x = .slice none 0 0) ∧ Below w.heap.size w w' := by
  have hEl := cell_lt hE
  obtain ⟨ao, cap, rfl, h1, h2⟩ := hB.form
  obtain ⟨v', w1, hr, ho, hb1, gg, gc, rfl⟩ := copy_bytes w _ m hB hl
  have HR := Lib.hid hr
  clear hr
  have hz1 := hb1.size
  have hE1 := (hb1.cell (p := ⟨EG, 0, none⟩) hEl).trans hE
  go_enter Tryz.func21, Tryz.ntmps21
  have hDn := Blk.new w1 [.slice (some ⟨gg, 0, none⟩) m.length gc, .nilIface] DT
  have hBn : BB (w1.alloc (.cells #[.slice (some ⟨gg, 0, none⟩) m.length gc, .nilIface] DT)) w1.heap.size (.slice (some ⟨gg, 0, none⟩) m.length gc) m := Sl.below (Bytes.own ho) (below_new w1 _) (Nat.le_refl _)
  have hb2 := hb1.alloc hz1 (.cells #[.slice (some ⟨gg, 0, none⟩) m.length gc, .nilIface] DT)
  have hE2 := ((below_new w1 (.cells #[.slice (some ⟨gg, 0, none⟩) m.length gc, .nilIface] DT)).cell (p := ⟨EG, 0, none⟩) (show EG < w1.heap.size by omega)).trans hE1
  have hEl2 : EG < w1.heap.size := by omega
  cases m with
  | nil =>
    go_wp2_with (first
      | (at_builtin; refine list_run 27 27 rfl (.tmp 5) (.tmp 6) rfl rfl rfl rfl HR.out ?_)
      | (go_at_call 45; refine (consume_any _ _ _ _ t u hDn hBn hE2 hEl2 hl).mono ?_; rintro e w3 ⟨rfl, v3, hD3, hB3, hc3⟩; rw [if_pos rfl] at hD3)
      | (go_at_call 46; refine (decErr_any _ _ _ _ hD3 (.inr ⟨t, u, rfl⟩)).mono ?_; rintro e w4 ⟨rfl, rfl⟩)
      | fail)
    go_ret2
    exact ⟨_, rfl, rfl, hb2.trans (hc3.below _ (by have := hb2.size; exact this) (fun q hq => by omega))⟩
  | cons y m =>
    generalize hyy : y :: m = mm at *
    have hne : Hid (mm ≠ []) := Lib.hid (by rw [← hyy]; simp)
    have hnb : (!mm.isEmpty) = true := by rw [← hyy]; rfl
    rw [hnb]
    clear hyy
    go_wp2_with (first
      | (at_builtin; refine list_run 27 27 rfl (.tmp 5) (.tmp 6) rfl rfl rfl rfl HR.out ?_)
      | (go_at_call 45; refine (consume_any _ _ _ _ t u hDn hBn hE2 hEl2 hl).mono ?_; rintro e w3 ⟨rfl, v3, hD3, hB3, hc3⟩; rw [if_neg hne.out] at hD3)
      | (go_at_call 46; refine (decErr_any _ _ _ _ hD3 (.inl rfl)).mono ?_; rintro e w4 ⟨rfl, rfl⟩)
      | fail)
    obtain ⟨xa, xc, rfl, q1, q2⟩ := hB3.form
    have hD4 := hD3.alloc (.cells #[] 5)
    have hbb : Bytes w3 (.slice xa (pad mm).length xc) (pad mm) := Sl.mono hB3 (Nat.le_of_lt hD3.lt) (Nat.le_refl _)
    obtain ⟨v5, w5, hr5, ho5, hb5, g5, c5, rfl⟩ := copy_bytes w3 _ (pad mm) hbb (Nat.le_trans (pad_len mm) hl)
    have HR5 := Lib.hid hr5
    clear hr5
    refine (decGet_any _ _ _ _ _ _ hD4).mono ?_
    rintro e w4 ⟨rfl, rfl⟩
    go_wp2_with (first | (at_builtin; refine list_run 27 27 rfl (.tmp 12) (.tmp 13) rfl rfl rfl rfl HR5.out ?_) | fail)
    go_ret2
    exact ⟨_, rfl, fun _ => Bytes.own ho5, fun h => absurd h hne.out, bnx (hb2.trans (hc3.below _ (by have := hb2.size; exact this) (fun q hq => by omega))) hb5⟩
end Go.Proofs.YtfllcbcokncgpaaGreatDoor
