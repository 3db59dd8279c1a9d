/-
  impl.XorBytes over one part.
-/
import Derived.Test.YthkdjjejcbndnaaGreatDoorXc
import Derived.Test.YthkdjjejcbndnaaGreatDoorBy
namespace Go.Proofs.YthkdjjejcbndnaaGreatDoor
set_option linter.unusedSimpArgs false
set_option linter.unusedVariables false
open Go.RowKit

/-- a chunk at block p, whose bytes are l, c bits of the last one free -/
def XB (w : World) (p : Nat) (l : List UInt8) (c : Int) : Prop := ∃ g cs, Blk w p [.slice (some ⟨g, 0, none⟩) l.length 128, .int .u8 c] 115 ∧ Blk w g cs 5 ∧ cs.length = 128 ∧ l.length ≤ 128 ∧ ∀ j (hj : j < l.length), cs[j]? = some (.int .u8 l[j].toNat)
theorem XB.chg {w w' : World} {p : Nat} {l : List UInt8} {c : Int} (h : XB w p l c) (hc : Chg (fun _ => False) w w') : XB w' p l c := by
  obtain ⟨g, cs, h1, h2, h3⟩ := h
  exact ⟨g, cs, h1.chg hc (fun h => h), h2.chg hc (fun h => h), h3⟩
theorem XB.bytes {w : World} {p : Nat} {l : List UInt8} {c : Int} (h : XB w p l c) : ∃ g, w.cell? ⟨p, 0, none⟩ = some (.slice (some ⟨g, 0, none⟩) l.length 128) ∧ Bytes w (.slice (some ⟨g, 0, none⟩) l.length 128) l ∧ ∀ j (hj : j < l.length), w.cell? ⟨g, j, none⟩ = some (.int .u8 l[j].toNat) := by
  obtain ⟨g, cs, h1, h2, h3, h4, h5⟩ := h
  have hc : ∀ j (hj : j < l.length), w.cell? ⟨g, j, none⟩ = some (.int .u8 l[j].toNat) := fun j hj => (h2.cell j).trans (h5 j hj)
  refine ⟨g, h1.cell 0, ⟨_, 128, rfl, h4, by decide, ?_⟩, hc⟩
  right
  exact ⟨g, 0, rfl, h2.lt, Nat.le_refl _, fun i hi => by rw [Nat.zero_add, hc i (by omega)]; simp [show i < l.length by omega]⟩

set_option maxRecDepth 100000 in
theorem chunkBytes_any (p g n c : Nat) (w : World) (k0 : w.cell? ⟨p, 0, none⟩ = some (.slice (some ⟨g, 0, none⟩) n c)) :
    Calls Tryz.prog 26 #[.pointer (some ⟨p, 0, none⟩)] w fun e w' => e = .returned (.slice (some ⟨g, 0, none⟩) n c) ∧ w = w' := by
  go_enter Tryz.func26, Tryz.ntmps26
  go_wp2_with (first
    | (go_at_call 48; refine (bytes_any p g n c _ k0).mono ?_; rintro e w' ⟨rfl, rfl⟩)
    | fail)
  go_ret
  exact ⟨rfl, rfl⟩
set_option maxRecDepth 100000 in
set_option maxHeartbeats 2000000 in
theorem numSamples_any (p g n c : Nat) (x y : UInt8) (w : World) (k0 : w.cell? ⟨p, 0, none⟩ = some (.slice (some ⟨g, 0, none⟩) n c)) (hn : 2 ≤ n) (c0 : w.cell? ⟨g, 0, none⟩ = some (.int .u8 x.toNat)) (c1 : w.cell? ⟨g, 1, none⟩ = some (.int .u8 y.toNat)) :
    Calls Tryz.prog 27 #[.pointer (some ⟨p, 0, none⟩)] w fun e w' => e = .returned (.int .i64 (Lib.beNat [x, y] : Nat)) ∧ Below w.heap.size w w' := by
  have hU := Tryz.binary_BE_Uint16 g 0 n c x y w.drew hn c0 c1
  have hlt : Lib.beNat [x, y] < 65536 := by
    have := x.toNat_lt
    have := y.toNat_lt
    simp [Lib.beNat, Lib.beFrom]
    omega
  generalize Lib.beNat [x, y] = N at *
  have k0' : w.drew.cell? ⟨p, 0, none⟩ = some (.slice (some ⟨g, 0, none⟩) n c) := k0
  have n0 : (0 : Int) ≤ (N : Int) := by omega
  have n1 : (N : Int) < 65536 := by omega
  go_enter Tryz.func27, Tryz.ntmps27
  go_wp2_with fail
  have hw : IntKind.i64.wrap (N : Int) = (N : Int) := IntWalk.i64_in _ (by omega)
  go_region_with (first
    | (go_at_call 26; refine (chunkBytes_any p g n c _ k0').mono ?_; rintro e w' ⟨rfl, rfl⟩)
    | (go_at_call 49; refine hU.mono ?_; rintro e w1 ⟨rfl, hb1⟩)
    | fail)
  all_goals
    go_wp2_with fail
    go_ret
    exact ⟨rfl, (Below.refl w.heap.size w).drew.trans hb1⟩

set_option maxRecDepth 100000 in
set_option maxHeartbeats 2000000 in
theorem xorBytes_of (v : Value) (x y : UInt8) (L : World → List UInt8 → Prop) (w : World) (hv : ∃ a n c, v = .slice a n c)
    (hX : Calls Tryz.prog 25 #[v] w fun e w' => ∃ p, e = .returned (.pointer (some ⟨p, 0, none⟩)) ∧ (∃ l c, XB w' p (x :: y :: l) c ∧ L w' (x :: y :: l)) ∧ Below w.heap.size w w')
    (hL : ∀ W W' l, L W l → L W' l) :
    Calls Tryz.prog 13 #[v] w fun e w' => ∃ b l, e = .returned (.tuple #[b, .int .i64 (Lib.beNat [x, y] : Nat), .bool true]) ∧ Bytes w' b (x :: y :: l) ∧ L w' (x :: y :: l) ∧ Below w.heap.size w w' := by
  obtain ⟨va, vn, vc, rfl⟩ := hv
  go_enter Tryz.func13, Tryz.ntmps13
  go_wp2_with (first
    | (go_at_call 25; refine hX.mono ?_; rintro e w1 ⟨p, rfl, ⟨l, c, hxb, hl⟩, hB⟩)
    | fail)
  obtain ⟨g, k0, hby, hcl⟩ := hxb.bytes
  have hll : (x :: y :: l).length ≤ 128 := by obtain ⟨_, _, _, _, _, h, _⟩ := hxb; exact h
  obtain ⟨v2, w2, hr, ho, hb2, g2, c2, rfl⟩ := copy_bytes w1 _ _ hby (by omega)
  have k1 : (w1.alloc (.cells #[] 5)).cell? ⟨p, 0, none⟩ = _ := ((below_new w1 _).cell (p := ⟨p, 0, none⟩) (lt_of_cell k0).1).trans k0
  have hN := numSamples_any p g (x :: y :: l).length 128 x y w2 ((hb2.cell (p := ⟨p, 0, none⟩) (lt_of_cell k0).1).trans k0) (by simp) ((hb2.cell (p := ⟨g, 0, none⟩) (lt_of_cell (hcl 0 (by simp))).1).trans (hcl 0 (by simp))) ((hb2.cell (p := ⟨g, 1, none⟩) (lt_of_cell (hcl 1 (by simp))).1).trans (hcl 1 (by simp)))
  have HR := Lib.hid hr
  have HO := Lib.hid ho
  have hL2 := hL w1
  clear hr ho hby hxb hcl k0 hll
  generalize (x :: y :: l).length = n at *
  go_wp2_with (first
    | (go_at_call 26; refine (chunkBytes_any p g n 128 _ k1).mono ?_; rintro e w' ⟨rfl, rfl⟩)
    | (at_builtin; refine list_run 26 26 rfl (.tmp 10) (.tmp 12) rfl rfl rfl rfl HR.out ?_)
    | (go_at_call 27; refine hN.mono ?_; rintro e w3 ⟨rfl, hb3⟩)
    | fail)
  go_ret3
  exact ⟨_, l, rfl, (Bytes.own HO.out).up hb3, hL _ _ _ hl, bnx (bnx hB hb2) hb3⟩
end Go.Proofs.YthkdjjejcbndnaaGreatDoor
