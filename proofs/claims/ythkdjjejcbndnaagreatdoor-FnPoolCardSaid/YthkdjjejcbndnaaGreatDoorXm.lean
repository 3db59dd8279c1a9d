/-
  The walk of FnPool.
-/
import Derived.Test.YthkdjjejcbndnaaGreatDoorXl
import Derived.Test.YthkdjjejcbndnaaGreatDoorXk
namespace Go.Proofs.YthkdjjejcbndnaaGreatDoor
set_option linter.unusedSimpArgs false
set_option linter.unusedVariables false
open Go.RowKit


set_option maxRecDepth 100000 in
set_option maxHeartbeats 2000000 in
theorem poolBack0 (k : Nat) (v : Value) (l : List UInt8) (w : World) (hv : Bytes w v l) (hl : l.length ≤ 2147483647) (h : k = 0 ∨ 3 < k) (h2 : k ≤ 255) : Calls Tryz.prog 19 #[v, .int .i64 k] w fun e w' => e = .returned (.tuple #[.int .i64 0, .slice none 0 0, .bool false]) ∧ Below w.heap.size w w' := by
  have hmg := get_method
  have hng := get_nil
  have hmf := hmk
  obtain ⟨a, c, rfl, _, _⟩ := hv.form
  obtain ⟨v2, w2, hr, ho, hb2, g2, c2, rfl⟩ := copy_bytes w.drew _ _ hv hl
  have hg := poolGet0 k (some ⟨g2, 0, none⟩) l.length c2 w2 h
  have HR := Lib.hid hr
  clear hr ho hv
  generalize hn : l.length = n at *
  have hbd : Below w.heap.size w w.drew := (Below.refl _ w).drew
  have n1 : (0 : Int) ≤ (k : Int) := by omega
  have n2 : (k : Int) ≤ 255 := by omega
  clear h hn
  go_enter Tryz.func19, Tryz.ntmps19
  go_wp2_with fail
  go_cut [7, 8] from 15 (fun s7 s8 wx => s7 = .nilIface ∧ (∃ t u, s8 = .iface t u) ∧ Below w.heap.size w wx)
  case first =>
    have hw : IntKind.u8.wrap (k : Int) = (k : Int) := by simp [IntKind.wrap, IntKind.bits, IntKind.signed]; omega
    go_region_held3 (fun _ => True) (trivial) (first
      | (refine step_run 26 26 rfl (.tmp 19) (.tmp 20) rfl rfl rfl rfl HR.out ?_)
      | (go_at_call 44; refine (newPool_any _).mono ?_; rintro e w' ⟨rfl, rfl⟩)
      | (go_at_call 135; refine hg.mono ?_; rintro e w3 ⟨t, u, rfl, hb3⟩)
      | fail)
    all_goals
      clear hw
      go_wp2_with fail
      go_meet
      exact ⟨rfl, ⟨t, u, rfl⟩, bnx (hbd.trans hb2) hb3⟩
  case rest =>
    obtain ⟨rfl, ⟨t, u, rfl⟩, hbw⟩ := hcut
    go_wp2_with fail
    go_ret3
    exact ⟨rfl, hbw⟩
theorem conv_bytes (w : World) (v : Value) (l : List UInt8) (h : Bytes w v l) (s : ByteArray) (hs : strOfNums (l.map fun b => (b.toNat : Int)) = s) :
    (convert 26 9 v).run Tryz.prog w = .ok (.string s) w := by
  rcases Nat.eq_zero_or_pos l.length with h0 | h0
  · obtain ⟨ao, cap, rfl, h1, h2⟩ := h.form
    have : l = [] := List.length_eq_zero_iff.1 h0
    subst this
    rw [show ([] : List UInt8).length = 0 from rfl, run_convert_bytes_string w 26 9 5 _ 0 cap Tryz.underlying26 Tryz.underlying5 Tryz.underlying9]
    subst hs
    cases ao <;> rfl
  · subst hs
    obtain ⟨ao, cap, rfl, h1, h2⟩ := h.form
    obtain ⟨b, off, rfl, hb, hc⟩ := h.at_ h0
    exact run_convert_bytes_arg w 26 5 Tryz.underlying26 Tryz.underlying5 b off l.length cap _ (by simp) (fun i hi => by rw [hc i hi]; simp [List.getD_eq_getElem?_getD, hi]) 9 Tryz.underlying9
set_option maxRecDepth 100000 in
theorem wPool_long (v : Value) (l : List UInt8) (k : Int) (w : World) (h : Bytes w v l) (hl : 500 < l.length) : Calls Tryz.prog 8 #[v, .int .u8 k] w fun e w' => e = .returned (.bool true) ∧ Below w.heap.size w w' := by
  obtain ⟨a, c, rfl, h1, h2⟩ := h.form
  have n2 : (500 : Int) < (l.length : Int) := by omega
  by_cases c1 : 2147483647 < l.length
  · have n1 : (2147483647 : Int) < (l.length : Int) := by omega
    go_enter Tryz.func8, Tryz.ntmps8
    go_wp2_with fail
    go_ret
    exact ⟨rfl, Below.refl _ _⟩
  · have n1 : ¬ (2147483647 : Int) < (l.length : Int) := by omega
    go_enter Tryz.func8, Tryz.ntmps8
    go_wp2_with (first | (go_at_call 12; refine (alive_any _).mono ?_; rintro e w3 ⟨rfl, hB3⟩) | fail)
    go_ret
    exact ⟨rfl, hB3⟩
set_option maxRecDepth 100000 in
set_option maxHeartbeats 1000000 in
theorem wPool0 (v : Value) (l : List UInt8) (k : Nat) (w : World) (h : Bytes w v l) (hl : l.length ≤ 500) (hk : k = 0 ∨ 3 < k) (hk2 : k ≤ 255) : Calls Tryz.prog 8 #[v, .int .u8 k] w fun e w' => e = .returned (.bool true) ∧ Below w.heap.size w w' := by
  have hP := poolBack0 k v l w h (by omega) hk hk2
  obtain ⟨a, c, rfl, h1, h2⟩ := h.form
  have n2 : ¬ (500 : Int) < (l.length : Int) := by omega
  have n3 : ¬ (2147483647 : Int) < (l.length : Int) := by omega
  have n4 : (0 : Int) ≤ (k : Int) := by omega
  have n5 : (k : Int) ≤ 255 := by omega
  rcases hk with hk | hk
  · subst hk
    go_enter Tryz.func8, Tryz.ntmps8
    go_wp2_with (first
      | (go_at_call 19; refine hP.mono ?_; rintro e w1 ⟨rfl, hB1⟩)
      | (go_at_call 12; refine (alive_any _).mono ?_; rintro e w3 ⟨rfl, hB3⟩)
      | fail)
    go_ret
    exact ⟨rfl, bnx hB1 hB3⟩
  · have e1 : (1 : Int) ≤ (k : Int) := by omega
    have e2 : decide ((k : Int) ≤ 3) = false := by simp; omega
    clear hk
    go_enter Tryz.func8, Tryz.ntmps8
    go_wp2_with (first
      | (go_at_call 19; refine hP.mono ?_; rintro e w1 ⟨rfl, hB1⟩)
      | (go_at_call 12; refine (alive_any _).mono ?_; rintro e w3 ⟨rfl, hB3⟩)
      | fail)
    go_ret
    exact ⟨rfl, bnx hB1 hB3⟩

set_option maxRecDepth 100000 in
set_option maxHeartbeats 1000000 in
theorem wPool1 (v : Value) (l : List UInt8) (w : World) (h : Bytes w v l) (hl : l.length ≤ 500) : Calls Tryz.prog 8 #[v, .int .u8 1] w fun e w' => e = .returned (.bool true) ∧ Below w.heap.size w w' := by
  have hP := poolBack1 v l w h (by omega)
  have HH := Lib.hid h
  obtain ⟨s, hs⟩ : ∃ s, strOfNums (l.map fun b => (b.toNat : Int)) = s := ⟨_, rfl⟩
  have HS := Lib.hid hs
  clear hs
  obtain ⟨a, c, rfl, h1, h2⟩ := h.form
  have n2 : ¬ (500 : Int) < (l.length : Int) := by omega
  have n3 : ¬ (2147483647 : Int) < (l.length : Int) := by omega
  go_enter Tryz.func8, Tryz.ntmps8
  go_wp2_with (first
    | (go_at_call 19; refine hP.mono ?_; rintro e w1 ⟨x, rfl, hx, hB1⟩; obtain ⟨xa, xc, rfl, _, _⟩ := hx.form)
    | (go_at_call 12; refine (alive_any _).mono ?_; rintro e w3 ⟨rfl, hB3⟩; have cv1 := conv_bytes _ _ _ (hx.up hB3) s HS.out; have cv2 := conv_bytes _ _ _ ((HH.out.up hB1).up hB3) s HS.out)
    | fail)
  go_ret
  exact ⟨rfl, bnx hB1 hB3⟩

set_option maxRecDepth 100000 in
set_option maxHeartbeats 1000000 in
theorem wPool2 (v : Value) (l : List UInt8) (w : World) (h : Bytes w v l) (hl : l.length ≤ 500) : Calls Tryz.prog 8 #[v, .int .u8 2] w fun e w' => e = .returned (.bool true) ∧ Below w.heap.size w w' := by
  have hP := poolBack2 v l w h (by omega)
  have HH := Lib.hid h
  obtain ⟨s, hs⟩ : ∃ s, strOfNums (l.map fun b => (b.toNat : Int)) = s := ⟨_, rfl⟩
  have HS := Lib.hid hs
  clear hs
  obtain ⟨a, c, rfl, h1, h2⟩ := h.form
  have n2 : ¬ (500 : Int) < (l.length : Int) := by omega
  have n3 : ¬ (2147483647 : Int) < (l.length : Int) := by omega
  go_enter Tryz.func8, Tryz.ntmps8
  go_wp2_with (first
    | (go_at_call 19; refine hP.mono ?_; rintro e w1 ⟨x, rfl, hx, hB1⟩; obtain ⟨xa, xc, rfl, _, _⟩ := hx.form)
    | (go_at_call 12; refine (alive_any _).mono ?_; rintro e w3 ⟨rfl, hB3⟩; have cv1 := conv_bytes _ _ _ (hx.up hB3) s HS.out; have cv2 := conv_bytes _ _ _ ((HH.out.up hB1).up hB3) s HS.out)
    | fail)
  go_ret
  exact ⟨rfl, bnx hB1 hB3⟩

set_option maxRecDepth 100000 in
set_option maxHeartbeats 1000000 in
theorem wPool3 (v : Value) (l : List UInt8) (w : World) (h : Bytes w v l) (hl : l.length ≤ 500) : Calls Tryz.prog 8 #[v, .int .u8 3] w fun e w' => e = .returned (.bool true) ∧ Below w.heap.size w w' := by
  have hP := poolBack3 v l w h (by omega)
  have HH := Lib.hid h
  obtain ⟨s, hs⟩ : ∃ s, strOfNums (l.map fun b => (b.toNat : Int)) = s := ⟨_, rfl⟩
  have HS := Lib.hid hs
  clear hs
  obtain ⟨a, c, rfl, h1, h2⟩ := h.form
  have n2 : ¬ (500 : Int) < (l.length : Int) := by omega
  have n3 : ¬ (2147483647 : Int) < (l.length : Int) := by omega
  go_enter Tryz.func8, Tryz.ntmps8
  go_wp2_with (first
    | (go_at_call 19; refine hP.mono ?_; rintro e w1 ⟨x, rfl, hx, hB1⟩; obtain ⟨xa, xc, rfl, _, _⟩ := hx.form)
    | (go_at_call 12; refine (alive_any _).mono ?_; rintro e w3 ⟨rfl, hB3⟩; have cv1 := conv_bytes _ _ _ (hx.up hB3) s HS.out; have cv2 := conv_bytes _ _ _ ((HH.out.up hB1).up hB3) s HS.out)
    | fail)
  go_ret
  exact ⟨rfl, bnx hB1 hB3⟩

theorem wPool (v : Value) (l : List UInt8) (z : Int) (w : World) (h : Bytes w v l) (hz : (Lit.int .u8 z).wf = true) : Calls Tryz.prog 8 #[v, .int .u8 z] w fun e w' => e = .returned (.bool true) ∧ Below w.heap.size w w' := by
  by_cases hl : 500 < l.length
  · exact wPool_long v l z w h hl
  obtain ⟨k, rfl, hk⟩ := rngU8 hz
  by_cases h0 : k = 0 ∨ 3 < k
  · exact wPool0 v l k w h (by omega) h0 hk
  · have : k = 1 ∨ k = 2 ∨ k = 3 := by omega
    rcases this with rfl | rfl | rfl
    · exact wPool1 v l w h (by omega)
    · exact wPool2 v l w h (by omega)
    · exact wPool3 v l w h (by omega)
end Go.Proofs.YthkdjjejcbndnaaGreatDoor
