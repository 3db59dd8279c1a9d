/-
  An XOR chunk's iterator over any bytes; a chunk of bytes.
-/
import Derived.Test.YthkdjjejcbndnaaGreatDoorXe
namespace Go.Proofs.YthkdjjejcbndnaaGreatDoor
set_option linter.unusedSimpArgs false
set_option linter.unusedVariables false
open Go.RowKit
attribute [local go_sem] run_store_float run_store_iface

/-- the last byte, as a reader keeps it -/
def lastB (m : List UInt8) : Int := (m.getLastD 0).toNat
set_option maxRecDepth 100000 in
set_option maxHeartbeats 2000000 in
theorem newBR_any (a : Option Addr) (c : Nat) (m : List UInt8) (w : World) (h : Bytes w (.slice a m.length c) m) (hm : m.length ≤ 2147483647) :
    Calls Tryz.prog 64 #[.slice a m.length c] w fun e w' => e = .returned (.agg #[.slice a m.length c, .int .i64 0, .int .u64 0, .int .u8 0, .int .u8 (lastB m)]) ∧ Below w.heap.size w w' := by
  have hB := below_new w (.cells #[.slice none 0 0, .int .i64 0, .int .u64 0, .int .u8 0, .int .u8 0] 134)
  rcases Nat.eq_zero_or_pos m.length with h0 | h0
  · have : m = [] := List.length_eq_zero_iff.1 h0
    subst this
    rw [show ([] : List UInt8).length = 0 from rfl]
    go_enter Tryz.func64, Tryz.ntmps64
    go_wp2_with fail
    go_returns
    exact ⟨rfl, below_new _ _⟩
  · obtain ⟨g, o, rfl, hb, hc⟩ := h.at_ h0
    have hx := hc (m.length - 1) (by omega)
    have hl : lastB m = (m[m.length - 1]).toNat := by
      unfold lastB
      rw [List.getLastD_eq_getLast?, List.getLast?_eq_getElem?, List.getElem?_eq_getElem (by omega)]
      rfl
    have HL := Lib.hid hl
    have hlt := lt_of_cell hx
    have hx1 := (hB.cell (p := ⟨g, o + (m.length - 1), none⟩) hlt.1).trans hx
    clear hc h hl
    generalize m[m.length - 1].toNat = x at *
    obtain ⟨n, hn⟩ : ∃ n, m.length = n + 1 := ⟨m.length - 1, by omega⟩
    rw [hn] at hx hx1 hm ⊢
    rw [Nat.add_sub_cancel] at hx hx1
    have n0 : (0 : Int) < ((n + 1 : Nat) : Int) := by omega
    clear h0
    go_enter Tryz.func64, Tryz.ntmps64
    go_wp2_with fail
    go_returns
    exact ⟨by rw [HL.out], below_new _ _⟩

set_option maxRecDepth 100000 in
set_option maxHeartbeats 4000000 in
/-- the iterator of a chunk -/
theorem iter_any (p g c : Nat) (x y : UInt8) (m : List UInt8) (w : World) (k0 : w.cell? ⟨p, 0, none⟩ = some (.slice (some ⟨g, 0, none⟩) (m.length + 2) c)) (hy : Bytes w (.slice (some ⟨g, 0, none⟩) (m.length + 2) c) (x :: y :: m)) (hm : m.length ≤ 2147483645) (sv : Value) (hsv : sv = if c = 2 then .slice (some ⟨g, 0, none⟩) 0 0 else .slice (some ⟨g, 2, none⟩) m.length (c - 2)) :
    Calls Tryz.prog 55 #[.pointer (some ⟨p, 0, none⟩), .nilIface] w fun e w' => ∃ I, e = .returned (.pointer (some ⟨I, 0, none⟩)) ∧ w.heap.size ≤ I ∧ Blk w' I [sv, .int .i64 0, .int .u64 0, .int .u8 0, .int .u8 (lastB m), .int .u16 (Lib.beNat [x, y] : Nat), .int .u16 0, .int .i64 (-9223372036854775808), .float .f64 0, .int .u8 0, .int .u8 0, .int .u64 0, .nilIface] IT ∧ Below w.heap.size w w' ∧ BB w' I sv m := by
  have hbc := hy.form
  obtain ⟨a1, c1, e1, h1, h2⟩ := hbc
  cases e1
  have x0 : w.cell? ⟨g, 0, none⟩ = some (.int .u8 x.toNat) := by
    obtain ⟨b, o, e, _, hc⟩ := hy.at_ (by simp)
    cases e
    exact hc 0 (by simp)
  have x1 : w.cell? ⟨g, 1, none⟩ = some (.int .u8 y.toNat) := by
    obtain ⟨b, o, e, _, hc⟩ := hy.at_ (by simp)
    cases e
    have := hc 1 (by simp)
    rwa [Nat.zero_add] at this
  have hdr := BB.drop hy 2 (by simp)
  rw [Nat.zero_add, show (x :: y :: m).length - 2 = m.length by simp, show (x :: y :: m).drop 2 = m from rfl] at hdr
  rw [show (x :: y :: m).length = m.length + 2 by simp] at h1
  have hsB : Bytes w sv m := by
    subst hsv
    split
    · rename_i h
      subst h
      have : m = [] := List.length_eq_zero_iff.1 (by omega)
      subst this
      exact ⟨_, 0, rfl, Nat.le_refl _, by decide, .inl rfl⟩
    · exact hdr
  have hBR : ∃ a q, sv = .slice a m.length q := by
    subst hsv
    split
    · rename_i h
      subst h
      exact ⟨some ⟨g, 0, none⟩, 0, by rw [show m.length = 0 by omega]⟩
    · exact ⟨_, _, rfl⟩
  obtain ⟨sa, sq, hse⟩ := hBR
  have hR := newBR_any sa sq m w.drew (hse ▸ hsB) (by omega)
  rw [← hse] at hR
  have hN : Lib.beNat [x, y] < 65536 := by
    have := x.toNat_lt
    have := y.toNat_lt
    simp [Lib.beNat, Lib.beFrom]
    omega
  have k0' : w.drew.cell? ⟨p, 0, none⟩ = some (.slice (some ⟨g, 0, none⟩) (m.length + 2) c) := k0
  have hb0 := (Below.refl w.heap.size w).drew
  have hta := assert_nil
  have hgl := (lt_of_cell x0).1
  have hpl := (lt_of_cell k0).1
  have HN := Lib.hid hN
  have HS := Lib.hid hsB
  have HV := Lib.hid hse
  have U16 := fun (W : World) (hW : Below w.heap.size w W) => Tryz.binary_BE_Uint16 g 0 (m.length + 2) c x y W (by omega) ((hW.cell (p := ⟨g, 0, none⟩) hgl).trans x0) ((hW.cell (p := ⟨g, 1, none⟩) hgl).trans x1)
  have KP := fun (W : World) (hW : Below w.heap.size w W) => ((hW.cell (p := ⟨p, 0, none⟩) hpl).trans k0)
  clear hN hsB hdr x0 x1 hy k0
  generalize Lib.beNat [x, y] = N at *
  generalize lastB m = lb at *
  generalize hn : m.length = n at *
  have n0 : (0 : Int) ≤ (n : Int) := by omega
  have n1 : (2 : Int) ≤ ((n + 2 : Nat) : Int) := by omega
  have n2 : ((n + 2 : Nat) : Int) ≤ (c : Int) := by omega
  have n3 : (2 : Int) ≤ (c : Int) := by omega
  have n4 : (2 : Int) ≤ (n : Int) + 2 := by omega
  have n5 : (n : Int) + 2 ≤ (c : Int) := by omega
  by_cases hc2 : c = 2
  · rw [if_pos hc2] at hsv
    subst hc2
    obtain rfl : n = 0 := by omega
    have HE := Lib.hid hsv
    go_enter Tryz.func55, Tryz.ntmps55
    go_wp2_with fail
    subst hsv
    go_region_held3 (fun _ => True) (trivial) (first
      | (go_at_call 48; (with_reducible refine (bytes_any p g 2 2 _ k0').mono ?_); rintro e w' ⟨rfl, rfl⟩)
      | (go_at_call 48; (with_reducible refine (bytes_any p g 2 2 _ k1).mono ?_); rintro e w' ⟨rfl, rfl⟩)
      | (go_at_call 64; refine hR.mono ?_; rintro e w1 ⟨rfl, hb1⟩; have hw1 := hb0.trans hb1; have k1 := KP w1 hw1; have u1 := U16 w1 hw1)
      | (go_at_call 49; refine u1.mono ?_; rintro e w2 ⟨rfl, hb2⟩; have hB := bnx hw1 hb2; have hz := hB.size)
      | fail)
    go_wp2_with fail
    go_ret
    exact ⟨_, rfl, hz, Blk.new w2 _ IT, bnx hB (below_new w2 _), Sl.below (HS.out.up hB) (below_new w2 _) (Nat.le_refl _)⟩
  · rw [if_neg hc2] at hsv
    have hc3 : ¬ (c : Int) = 2 := by omega
    have HE := Lib.hid hsv
    go_enter Tryz.func55, Tryz.ntmps55
    go_wp2_with fail
    subst hsv
    go_region_held3 (fun _ => True) (trivial) (first
      | (go_at_call 48; (with_reducible refine (bytes_any p g (n + 2) c _ k0').mono ?_); rintro e w' ⟨rfl, rfl⟩)
      | (go_at_call 48; (with_reducible refine (bytes_any p g (n + 2) c _ k1).mono ?_); rintro e w' ⟨rfl, rfl⟩)
      | (go_at_call 64; refine hR.mono ?_; rintro e w1 ⟨rfl, hb1⟩; have hw1 := hb0.trans hb1; have k1 := KP w1 hw1; have u1 := U16 w1 hw1)
      | (go_at_call 49; refine u1.mono ?_; rintro e w2 ⟨rfl, hb2⟩; have hB := bnx hw1 hb2; have hz := hB.size)
      | fail)
    go_wp2_with fail
    go_ret
    exact ⟨_, rfl, hz, Blk.new w2 _ IT, bnx hB (below_new w2 _), Sl.below (HS.out.up hB) (below_new w2 _) (Nat.le_refl _)⟩
end Go.Proofs.YthkdjjejcbndnaaGreatDoor
