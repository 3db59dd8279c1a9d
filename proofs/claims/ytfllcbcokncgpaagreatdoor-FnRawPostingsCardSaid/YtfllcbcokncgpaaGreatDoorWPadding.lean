/-
  FnPadding: the walk of the law.
-/
import Derived.Test.YtfllcbcokncgpaaGreatDoorPad
namespace Go.Proofs.YtfllcbcokncgpaaGreatDoor
set_option linter.unusedSimpArgs false
set_option linter.unusedVariables false
open Go.RowKit

theorem conv_bytes (w : World) (v : Value) (l : List UInt8) (h : Bytes w v l) (hl : 0 < l.length) (s : ByteArray) (hs : strOfNums (l.map fun b => (b.toNat : Int)) = s) :
    (convert 27 9 v).run Tryz.prog w = .ok (.string s) w := by
  subst hs
  obtain ⟨ao, cap, rfl, h1, h2⟩ := h.form
  obtain ⟨b, off, rfl, hb, hc⟩ := h.at_ hl
  exact run_convert_bytes_arg w 27 5 Tryz.underlying27 Tryz.underlying5 b off l.length cap _ (by simp) (fun i hi => by rw [hc i hi]; simp [List.getD_eq_getElem?_getD, hi]) 9 Tryz.underlying9

theorem pad_pos {l : List UInt8} (h : l ≠ []) : 0 < (pad l).length := by
  induction l with
  | nil => exact absurd rfl h
  | cons x l ih =>
    rw [pad]
    split
    · rename_i hh
      exact ih hh.1
    · simp

theorem not_empty {l : List UInt8} (h : l ≠ []) : (!l.isEmpty) = true := by
  cases l with
  | nil => exact absurd rfl h
  | cons x l => rfl

set_option maxRecDepth 100000 in
set_option maxHeartbeats 4000000 in
theorem wPadding_nil (v : Value) (w : World) (h : Bytes w v []) (t : TypeId) (u : Value) (hE : w.cell? ⟨EG, 0, none⟩ = some (.iface t u)) :
    Calls Tryz.prog 6 #[v] w fun e w' => e = .returned (.bool true) ∧ Below w.heap.size w w' := by
  obtain ⟨ao, cap, rfl, h1, h2⟩ := h.form
  have hP := padding_any _ [] w t u h hE (by decide)
  simp only [List.length_nil] at hP
  go_enter Tryz.func6, Tryz.ntmps6
  go_wp2_with fail
  refine wp_loop_rounds 1 ?_
  rw [rounds_succ]
  go_wp2_with (first
    | (go_at_call 21; refine hP.mono ?_; rintro e w1 ⟨x, rfl, -, hx, hb1⟩; obtain rfl := hx trivial)
    | (go_at_call 12; refine (awake_any _).mono ?_; rintro e w2 ⟨rfl, hb2⟩; have hB2 := bnx hb1 hb2)
    | fail)
  go_ret
  exact ⟨rfl, hB2⟩

set_option maxRecDepth 100000 in
set_option maxHeartbeats 4000000 in
theorem wPadding (v : Value) (l : List UInt8) (w : World) (h : Bytes w v l) (hE : ∃ t u, w.cell? ⟨EG, 0, none⟩ = some (.iface t u)) :
    Calls Tryz.prog 6 #[v] w fun e w' => e = .returned (.bool true) ∧ Below w.heap.size w w' := by
  obtain ⟨t, u, hE⟩ := hE
  by_cases hne : l = []
  · subst hne
    exact wPadding_nil v w h t u hE
  have hEl := cell_lt hE
  obtain ⟨ao, cap, rfl, h1, h2⟩ := h.form
  have hM := Lib.hid hne
  clear hne
  by_cases c1 : 2147483647 < l.length
  · have c1' : (2147483647 : Int) < (l.length : Int) := by omega
    go_enter Tryz.func6, Tryz.ntmps6
    go_wp2_with fail
    go_ret
    exact ⟨rfl, Below.refl _ _⟩
  · by_cases c2 : 2000 < l.length
    · have c2' : (2000 : Int) < (l.length : Int) := by omega
      go_enter Tryz.func6, Tryz.ntmps6
      go_wp2_with (first | (go_at_call 12; refine (awake_any _).mono ?_; rintro e w1 ⟨rfl, hb1⟩) | fail)
      go_ret
      exact ⟨rfl, hb1⟩
    · have c2' : ¬ (2000 : Int) < (l.length : Int) := by omega
      go_enter Tryz.func6, Tryz.ntmps6
      go_wp2_with fail
      go_loopg [3] l.length (fun kx rv wr => ∃ m', m'.length = kx ∧ m'.length ≤ l.length ∧ Hid (m' = [] ↔ l = []) ∧ Hid (pad m' = pad l) ∧ BB wr w.heap.size rv m' ∧ Below w.heap.size w wr)
      case atStart => exact ⟨l, rfl, Nat.le_refl _, Lib.hid Iff.rfl, Lib.hid rfl, h, Below.refl _ _⟩
      case round => as_aux_lemma =>
        obtain ⟨m', hk, hle, hnl, hpd, hBr, hbel⟩ := hrel
        subst hk
        obtain ⟨ao', cap', rfl, q1, q2⟩ := hBr.form
        have hEr := (hbel.cell (p := ⟨EG, 0, none⟩) hEl).trans hE
        have hl1 : l.length ≤ 2147483647 := by omega
        have hBl := h.up hbel
        obtain ⟨s, hs⟩ : ∃ s, strOfNums ((pad l).map fun b => (b.toNat : Int)) = s := ⟨_, rfl⟩
        have HS := Lib.hid hs
        clear hs
        by_cases c3 : 1 < m'.length
        · have c3' : (1 : Int) < (m'.length : Int) := by omega
          obtain ⟨b, off, rfl, hb, hbB, hc⟩ := hBr.at_ (by omega)
          have c0 := hc 0 (by omega)
          rw [Nat.add_zero] at c0
          have n1 : (1 : Int) ≤ (m'.length : Int) := by omega
          have n2 : (1 : Int) ≤ (cap' : Int) := by omega
          have n3 : ¬ cap' = 1 := by omega
          have n4 : (m'.length : Int) ≤ (cap' : Int) := by omega
          have i0 : (0 : Int) < (m'.length : Int) := by omega
          by_cases hz : m'[0].toNat = 0
          · have hP := Lib.hid (pad_tail c3 hz)
            have q0 : (m'[0].toNat : Int) = 0 := by omega
            rw [q0] at c0
            have hN := Lib.hid (tail_nil c3 hnl.out)
            have hT := hBr.tail (by omega)
            clear q0 hc hz
            go_wp2_with fail
            go_roundg (m'.length - 1)
            case rel => exact ⟨m'.tail, by simp, by simp; omega, hN, Lib.hid (hP.out.trans hpd.out), hT, hbel⟩
            case measure => omega
          · have hP := Lib.hid (show m' = pad l by rw [← hpd.out]; exact (pad_stop (.inr ⟨by omega, hz⟩)).symm)
            have q0 : ((m'[0].toNat : Int) == 0) = false := by rw [beq_eq_false_iff_ne]; omega
            have hll : (0 : Int) < (l.length : Int) := by have := List.length_pos_iff.2 hM.out; omega
            have hnb : (!l.isEmpty) = true := not_empty hM.out
            clear hc hz
            go_wp2_with (first
              | (go_at_call 21; refine (padding_any _ l _ t u hBl hEr hl1).mono ?_; rw [hnb]; rintro e w1 ⟨x, rfl, hx, -, hb1⟩; have hB1 := bnx hbel hb1; have hx1 := hx hM.out; obtain ⟨xa, xc, rfl, y1, y2⟩ := hx1.form; have hRest := (Sl.mono hBr hbel.size (Nat.le_refl _) : Bytes wr _ m').up hb1)
              | (go_at_call 12; refine (awake_any _).mono ?_; rintro e w2 ⟨rfl, hb2⟩; have hB2 := bnx hB1 hb2; have cv1 := conv_bytes _ _ _ (hx1.up hb2) (pad_pos hM.out) s HS.out; have cv2 := conv_bytes _ _ _ (hRest.up hb2) (by rw [hP.out]; exact pad_pos hM.out) s (by rw [hP.out]; exact HS.out))
              | fail)
            go_ret
            exact ⟨rfl, hB2⟩
        · have c3' : ¬ (1 : Int) < (m'.length : Int) := by omega
          have hP := Lib.hid (show m' = pad l by rw [← hpd.out]; exact (pad_stop (l := m') (.inl (by omega))).symm)
          have hll : (0 : Int) < (l.length : Int) := by have := List.length_pos_iff.2 hM.out; omega
          have hnb : (!l.isEmpty) = true := not_empty hM.out
          go_wp2_with (first
            | (go_at_call 21; refine (padding_any _ l _ t u hBl hEr hl1).mono ?_; rw [hnb]; rintro e w1 ⟨x, rfl, hx, -, hb1⟩; have hB1 := bnx hbel hb1; have hx1 := hx hM.out; obtain ⟨xa, xc, rfl, y1, y2⟩ := hx1.form; have hRest := (Sl.mono hBr hbel.size (Nat.le_refl _) : Bytes wr _ m').up hb1)
            | (go_at_call 12; refine (awake_any _).mono ?_; rintro e w2 ⟨rfl, hb2⟩; have hB2 := bnx hB1 hb2; have cv1 := conv_bytes _ _ _ (hx1.up hb2) (pad_pos hM.out) s HS.out; have cv2 := conv_bytes _ _ _ (hRest.up hb2) (by rw [hP.out]; exact pad_pos hM.out) s (by rw [hP.out]; exact HS.out))
            | fail)
          go_ret
          exact ⟨rfl, hB2⟩
end Go.Proofs.YtfllcbcokncgpaaGreatDoor
