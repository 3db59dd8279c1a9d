/-
  FnDecodeAt: the walk of the law.
-/
import Derived.Test.YthcmpkpbdgnfpaaGreatDoorDecode
import Derived.Test.YthcmpkpbdgnfpaaGreatDoorWPadding
import Derived.Laws.BytesString
namespace Go.Proofs.YthcmpkpbdgnfpaaGreatDoor
set_option linter.unusedSimpArgs false
set_option linter.unusedVariables false
open Go.RowKit

theorem conv_all (w : World) (v : Value) (l : List UInt8) (h : Bytes w v l) (s : ByteArray) (hs : strOfNums (l.map fun b => (b.toNat : Int)) = s) :
    (convert 22 9 v).run Tryz.prog w = .ok (.string s) w := by
  rcases Nat.eq_zero_or_pos l.length with h0 | h0
  · obtain rfl : l = [] := List.length_eq_zero_iff.1 h0
    obtain ⟨ao, cap, rfl, h1, h2⟩ := h.form
    subst hs
    rw [show ([] : List UInt8).length = 0 from rfl, run_convert_bytes_string w 22 9 5 _ 0 cap Tryz.underlying22 Tryz.underlying5 Tryz.underlying9]
    cases ao <;> simp [Conv.bytesToString, loadCells]
    all_goals rfl
  · exact conv_bytes w v l h h0 s hs

set_option maxRecDepth 100000 in
set_option maxHeartbeats 4000000 in
theorem wDecAt_be (v : Value) (l : List UInt8) (t : Nat) (w : World) (h : Bytes w v l) (ht : t ≤ 65535) (hl : l.length ≤ 2000) (htl : t ≤ l.length + 10) (ea eb : Addr) (he : Errs2 w ea eb) :
    Calls Tryz.prog 4 #[v, .int .u16 t, .bool false] w fun e w' => e = .returned (.bool true) ∧ Below w.heap.size w w' := by
  have hS := sealed_any v l t w h ht (by omega)
  have hV := fun q => sealedVar_any v l t (w.drewN q) (h.up (below_drewN (Below.refl _ _) q)) ht (by omega)
  have hD := fun W (hb : Below w.heap.size w W) => decodeAt_any v l t W ea eb (he.up hb) (h.up hb) ht (by omega)
  obtain ⟨ao, cap, rfl, h1, h2⟩ := h.form
  obtain ⟨s, hs⟩ : ∃ s, strOfNums ((sealGot l t).map fun b => (b.toNat : Int)) = s := ⟨_, rfl⟩
  have HS := Lib.hid hs
  clear hs h h1
  have n0 : (l.length : Int) ≤ 2000 := by omega
  have n1 : (t : Int) ≤ (l.length : Int) + 10 := by omega
  have n2 : (0 : Int) ≤ (t : Int) := by omega
  have n3 : (t : Int) ≤ 65535 := by omega
  have n4 : (0 : Int) ≤ (l.length : Int) := by omega
  generalize l.length = n at *
  generalize sealHow l t = how at *
  generalize sealGot l t = L at *
  have hbd := fun q => (below_drewN (Below.refl _ _) q : Below w.heap.size w (w.drewN q))
  by_cases h0 : how = 0
  · subst h0
    go_enter Tryz.func4, Tryz.ntmps4
    go_wp2_with (first
      | (go_at_call 9; refine hS.mono ?_; rintro e w1 ⟨a1, k1, c1, rfl, hb1, q1, rfl⟩)
      | (go_at_call 11; refine (hD _ (hbd q1)).mono ?_; rintro e w3 ⟨a3, k3, c3, rfl, hb3, hb3'⟩; have hB3 := bnx (hbd q1) hb3')
      | (go_at_call 6; refine (awake_any _).mono ?_; rintro e w4 ⟨rfl, hb4⟩; have cv1 := conv_all _ _ _ ((hb3 (by trivial)).up hb4) s HS.out; have cv2 := conv_all _ _ _ ((((hb1 (by trivial)).up (hbd q1)).up hb3').up hb4) s HS.out)
      | fail)
    go_ret
    exact ⟨rfl, bnx hB3 hb4⟩
  · have h0' : (how != 0) = true := by rw [bne_iff_ne]; exact h0
    go_enter Tryz.func4, Tryz.ntmps4
    go_wp2_with (first
      | (go_at_call 9; refine hS.mono ?_; rintro e w1 ⟨a1, k1, c1, rfl, hb1, q1, rfl⟩)
      | (go_at_call 11; refine (hD _ (hbd q1)).mono ?_; rintro e w3 ⟨a3, k3, c3, rfl, hb3, hb3'⟩; have hB3 := bnx (hbd q1) hb3')
      | (go_at_call 6; refine (awake_any _).mono ?_; rintro e w4 ⟨rfl, hb4⟩)
      | fail)
    go_ret
    exact ⟨rfl, bnx hB3 hb4⟩
set_option maxRecDepth 100000 in
set_option maxHeartbeats 4000000 in
theorem wDecAt_var (v : Value) (l : List UInt8) (t : Nat) (w : World) (h : Bytes w v l) (ht : t ≤ 65535) (hl : l.length ≤ 2000) (htl : t ≤ l.length + 10) (ea eb : Addr) (he : Errs2 w ea eb) :
    Calls Tryz.prog 4 #[v, .int .u16 t, .bool true] w fun e w' => e = .returned (.bool true) ∧ Below w.heap.size w w' := by
  have hS := sealed_any v l t w h ht (by omega)
  have hV := fun q => sealedVar_any v l t (w.drewN q) (h.up (below_drewN (Below.refl _ _) q)) ht (by omega)
  have hD := fun W (hb : Below w.heap.size w W) => decodeVar_any v l t W ea eb (he.up hb) (h.up hb) ht (by omega)
  obtain ⟨ao, cap, rfl, h1, h2⟩ := h.form
  obtain ⟨s, hs⟩ : ∃ s, strOfNums ((varGot l t).map fun b => (b.toNat : Int)) = s := ⟨_, rfl⟩
  have HS := Lib.hid hs
  clear hs h h1
  have n0 : (l.length : Int) ≤ 2000 := by omega
  have n1 : (t : Int) ≤ (l.length : Int) + 10 := by omega
  have n2 : (0 : Int) ≤ (t : Int) := by omega
  have n3 : (t : Int) ≤ 65535 := by omega
  have n4 : (0 : Int) ≤ (l.length : Int) := by omega
  generalize l.length = n at *
  generalize sealHow l t = how1 at *
  generalize sealGot l t = got1 at *
  generalize varHow l t = how at *
  generalize varGot l t = L at *
  have hbd := fun q => (below_drewN (Below.refl _ _) q : Below w.heap.size w (w.drewN q))
  by_cases h0 : how = 0
  · subst h0
    go_enter Tryz.func4, Tryz.ntmps4
    go_wp2_with (first
      | (go_at_call 9; refine hS.mono ?_; rintro e w1 ⟨a1, k1, c1, rfl, hb1, q1, rfl⟩)
      | (go_at_call 10; refine (hV q1).mono ?_; rintro e w2 ⟨a2, k2, c2, rfl, hb2, q2, rfl⟩; rw [drewN_drewN])
      | (go_at_call 11; refine (hD _ (hbd (q1 + q2))).mono ?_; rintro e w3 ⟨a3, k3, c3, rfl, hb3, hb3'⟩; have hB3 := bnx (hbd (q1 + q2)) hb3')
      | (go_at_call 6; refine (awake_any _).mono ?_; rintro e w4 ⟨rfl, hb4⟩; have cv1 := conv_all _ _ _ ((hb3 (by trivial)).up hb4) s HS.out; have cv2 := conv_all _ _ _ ((Bytes.up (show Bytes ((w.drewN q1).drewN q2) (.slice a2 k2 c2) L from (hb2 (by trivial)).up (below_drewN (Below.refl _ _) q2)) (by rw [drewN_drewN]; exact hb3')).up hb4) s HS.out)
      | fail)
    go_ret
    exact ⟨rfl, bnx hB3 hb4⟩
  · have h0' : (how != 0) = true := by rw [bne_iff_ne]; exact h0
    go_enter Tryz.func4, Tryz.ntmps4
    go_wp2_with (first
      | (go_at_call 9; refine hS.mono ?_; rintro e w1 ⟨a1, k1, c1, rfl, hb1, q1, rfl⟩)
      | (go_at_call 10; refine (hV q1).mono ?_; rintro e w2 ⟨a2, k2, c2, rfl, hb2, q2, rfl⟩; rw [drewN_drewN])
      | (go_at_call 11; refine (hD _ (hbd (q1 + q2))).mono ?_; rintro e w3 ⟨a3, k3, c3, rfl, hb3, hb3'⟩; have hB3 := bnx (hbd (q1 + q2)) hb3')
      | (go_at_call 6; refine (awake_any _).mono ?_; rintro e w4 ⟨rfl, hb4⟩)
      | fail)
    go_ret
    exact ⟨rfl, bnx hB3 hb4⟩

set_option maxRecDepth 100000 in
set_option maxHeartbeats 4000000 in
theorem wDecAt (v : Value) (l : List UInt8) (z : Int) (uv : Bool) (w : World) (h : Bytes w v l) (hz : (Lit.int .u16 z).wf = true) (hE : ∃ a b, Errs2 w a b) :
    Calls Tryz.prog 4 #[v, .int .u16 z, .bool uv] w fun e w' => e = .returned (.bool true) ∧ Below w.heap.size w w' := by
  obtain ⟨ea, eb, he⟩ := hE
  have m0 : IntKind.u16.min = 0 := by decide
  have m1 : IntKind.u16.max = 65535 := by decide
  have hz2 : 0 ≤ z ∧ z ≤ 65535 := by simpa only [Lit.wf, Bool.and_eq_true, decide_eq_true_eq, m0, m1] using hz
  obtain ⟨t, rfl⟩ : ∃ t : Nat, z = (t : Int) := ⟨z.toNat, by omega⟩
  clear hz m0 m1
  by_cases c1 : 2147483647 < l.length
  · obtain ⟨ao, cap, rfl, h1, h2⟩ := h.form
    have c1' : (2147483647 : Int) < (l.length : Int) := by omega
    go_enter Tryz.func4, Tryz.ntmps4
    go_wp2_with fail
    go_ret
    exact ⟨rfl, Below.refl _ _⟩
  by_cases c2 : 2000 < l.length
  · obtain ⟨ao, cap, rfl, h1, h2⟩ := h.form
    have c2' : (2000 : Int) < (l.length : Int) := by omega
    go_enter Tryz.func4, Tryz.ntmps4
    go_wp2_with (first | (go_at_call 6; refine (awake_any _).mono ?_; rintro e w1 ⟨rfl, hb1⟩) | fail)
    go_ret
    exact ⟨rfl, hb1⟩
  by_cases c3 : l.length + 10 < t
  · obtain ⟨ao, cap, rfl, h1, h2⟩ := h.form
    have c2' : ¬ (2000 : Int) < (l.length : Int) := by omega
    have c3' : (l.length : Int) + 10 < (t : Int) := by omega
    have c4' : (t : Int) ≤ 65535 := by omega
    have c5' : (0 : Int) ≤ (t : Int) := by omega
    go_enter Tryz.func4, Tryz.ntmps4
    go_wp2_with (first | (go_at_call 6; refine (awake_any _).mono ?_; rintro e w1 ⟨rfl, hb1⟩) | fail)
    go_ret
    exact ⟨rfl, hb1⟩
  cases uv with
  | false => exact wDecAt_be v l t w h (by omega) (by omega) (by omega) ea eb he
  | true => exact wDecAt_var v l t w h (by omega) (by omega) (by omega) ea eb he
end Go.Proofs.YthcmpkpbdgnfpaaGreatDoor
