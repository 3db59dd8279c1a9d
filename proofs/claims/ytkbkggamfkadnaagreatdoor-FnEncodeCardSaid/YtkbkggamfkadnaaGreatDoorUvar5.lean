/-
  The varint package's Uvarint of five bytes.
-/
import Derived.Test.YtkbkggamfkadnaaGreatDoorDec
import Derived.Laws.BitsAllLaws
import Derived.Lib.VarintBits
namespace Go.Proofs.YtkbkggamfkadnaaGreatDoor
set_option linter.unusedSimpArgs false
set_option linter.unusedVariables false
open Go.RowKit

/-- a number in groups of seven bits, the lowest ones first, and how many bytes it has; no bytes: it is not whole -/
def uvar : List UInt8 → Nat × Nat
  | [] => (0, 0)
  | b :: r => if b.toNat < 128 then (b.toNat, 1) else if (uvar r).2 = 0 then (0, 0) else (b.toNat % 128 + 128 * (uvar r).1, (uvar r).2 + 1)

theorem and127 (b : UInt8) : bits .and .u8 (b.toNat : Int) 127 = ((b.toNat % 128 : Nat) : Int) := by
  have := u8_and_nat b.toNat 127 (by have := b.toNat_lt; omega) (by omega)
  rw [nat_mask7] at this
  exact this

set_option maxRecDepth 100000 in
set_option maxHeartbeats 2000000 in
theorem uvar5_0 (g o c : Nat) (b0 b1 b2 b3 b4 : UInt8) (w : World) (h : Bytes w (.slice (some ⟨g, o, none⟩) 5 c) [b0, b1, b2, b3, b4])  (h0 : b0.toNat < 128) :
    Calls Tryz.prog 81 #[.slice (some ⟨g, o, none⟩) 5 c] w fun e w' => e = .returned (.tuple #[.int .u64 (b0.toNat : Nat), .int .i64 1]) ∧ w = w' := by
  obtain ⟨b, off, hgo, hb, hc⟩ := h.at_ (by simp)
  cases hgo
  have c0 : w.cell? ⟨g, o, none⟩ = some (.int .u8 b0.toNat) := hc 0 (by simp)
  clear hc h
  have t0 := b0.toNat_lt
  generalize b0.toNat = x0 at *
  go_enter Tryz.func81, Tryz.ntmps81
  go_wp2_with fail
  go_ret2
  exact ⟨rfl, rfl⟩

set_option maxRecDepth 100000 in
set_option maxHeartbeats 2000000 in
theorem uvar5_1 (g o c : Nat) (b0 b1 b2 b3 b4 : UInt8) (w : World) (h : Bytes w (.slice (some ⟨g, o, none⟩) 5 c) [b0, b1, b2, b3, b4]) (h0 : ¬ b0.toNat < 128) (h1 : b1.toNat < 128) :
    Calls Tryz.prog 81 #[.slice (some ⟨g, o, none⟩) 5 c] w fun e w' => e = .returned (.tuple #[.int .u64 ((b0.toNat % 128 + 128 * b1.toNat) : Nat), .int .i64 2]) ∧ w = w' := by
  obtain ⟨b, off, hgo, hb, hc⟩ := h.at_ (by simp)
  cases hgo
  have c0 : w.cell? ⟨g, o, none⟩ = some (.int .u8 b0.toNat) := hc 0 (by simp)
  have c1 : w.cell? ⟨g, o + 1, none⟩ = some (.int .u8 b1.toNat) := hc 1 (by simp)
  have a0 := and127 b0
  have m0 : b0.toNat % 128 < 128 := by omega
  clear hc h
  have t0 := b0.toNat_lt
  have t1 := b1.toNat_lt
  generalize b0.toNat % 128 = y0 at *
  generalize b0.toNat = x0 at *
  generalize b1.toNat = x1 at *
  go_enter Tryz.func81, Tryz.ntmps81
  go_wp2_with fail
  go_ret2
  refine ⟨?_, rfl⟩
  have hV : bits .or .u64 ((y0 : Int)) ((x1 : Int) * 128) = ((y0 + x1 * 128 : Nat) : Int) := by
    rw [u64_orv7 (y := (y0 : Int)) (x := (x1 : Int) * 128) (by omega) (by omega) (by omega) (by omega) (by omega)]
    omega
  show Ending.returned (Value.tuple #[Value.int IntKind.u64 (bits .or .u64 ((y0 : Int)) ((x1 : Int) * 128)), Value.int IntKind.i64 2]) = _
  rw [hV, show y0 + x1 * 128 = (y0 + 128 * x1) by omega]
  first | rfl | done

set_option maxRecDepth 100000 in
set_option maxHeartbeats 2000000 in
theorem uvar5_2 (g o c : Nat) (b0 b1 b2 b3 b4 : UInt8) (w : World) (h : Bytes w (.slice (some ⟨g, o, none⟩) 5 c) [b0, b1, b2, b3, b4]) (h0 : ¬ b0.toNat < 128) (h1 : ¬ b1.toNat < 128) (h2 : b2.toNat < 128) :
    Calls Tryz.prog 81 #[.slice (some ⟨g, o, none⟩) 5 c] w fun e w' => e = .returned (.tuple #[.int .u64 ((b0.toNat % 128 + 128 * (b1.toNat % 128 + 128 * b2.toNat)) : Nat), .int .i64 3]) ∧ w = w' := by
  obtain ⟨b, off, hgo, hb, hc⟩ := h.at_ (by simp)
  cases hgo
  have c0 : w.cell? ⟨g, o, none⟩ = some (.int .u8 b0.toNat) := hc 0 (by simp)
  have c1 : w.cell? ⟨g, o + 1, none⟩ = some (.int .u8 b1.toNat) := hc 1 (by simp)
  have c2 : w.cell? ⟨g, o + 2, none⟩ = some (.int .u8 b2.toNat) := hc 2 (by simp)
  have a0 := and127 b0
  have m0 : b0.toNat % 128 < 128 := by omega
  have a1 := and127 b1
  have m1 : b1.toNat % 128 < 128 := by omega
  clear hc h
  have t0 := b0.toNat_lt
  have t1 := b1.toNat_lt
  have t2 := b2.toNat_lt
  generalize b0.toNat % 128 = y0 at *
  generalize b1.toNat % 128 = y1 at *
  generalize b0.toNat = x0 at *
  generalize b1.toNat = x1 at *
  generalize b2.toNat = x2 at *
  go_enter Tryz.func81, Tryz.ntmps81
  go_wp2_with fail
  go_ret2
  refine ⟨?_, rfl⟩
  have hV : bits .or .u64 (bits .or .u64 ((y0 : Int)) ((y1 : Int) * 128)) ((x2 : Int) * 16384) = ((y0 + y1 * 128 + x2 * 16384 : Nat) : Int) := by
    rw [u64_orv7 (y := (y0 : Int)) (x := (y1 : Int) * 128) (by omega) (by omega) (by omega) (by omega) (by omega)]
    rw [u64_orv14 (y := (y0 : Int) + (y1 : Int) * 128) (x := (x2 : Int) * 16384) (by omega) (by omega) (by omega) (by omega) (by omega)]
    omega
  show Ending.returned (Value.tuple #[Value.int IntKind.u64 (bits .or .u64 (bits .or .u64 ((y0 : Int)) ((y1 : Int) * 128)) ((x2 : Int) * 16384)), Value.int IntKind.i64 3]) = _
  rw [hV, show y0 + y1 * 128 + x2 * 16384 = (y0 + 128 * (y1 + 128 * x2)) by omega]
  first | rfl | done

set_option maxRecDepth 100000 in
set_option maxHeartbeats 2000000 in
theorem uvar5_3 (g o c : Nat) (b0 b1 b2 b3 b4 : UInt8) (w : World) (h : Bytes w (.slice (some ⟨g, o, none⟩) 5 c) [b0, b1, b2, b3, b4]) (h0 : ¬ b0.toNat < 128) (h1 : ¬ b1.toNat < 128) (h2 : ¬ b2.toNat < 128) (h3 : b3.toNat < 128) :
    Calls Tryz.prog 81 #[.slice (some ⟨g, o, none⟩) 5 c] w fun e w' => e = .returned (.tuple #[.int .u64 ((b0.toNat % 128 + 128 * (b1.toNat % 128 + 128 * (b2.toNat % 128 + 128 * b3.toNat))) : Nat), .int .i64 4]) ∧ w = w' := by
  obtain ⟨b, off, hgo, hb, hc⟩ := h.at_ (by simp)
  cases hgo
  have c0 : w.cell? ⟨g, o, none⟩ = some (.int .u8 b0.toNat) := hc 0 (by simp)
  have c1 : w.cell? ⟨g, o + 1, none⟩ = some (.int .u8 b1.toNat) := hc 1 (by simp)
  have c2 : w.cell? ⟨g, o + 2, none⟩ = some (.int .u8 b2.toNat) := hc 2 (by simp)
  have c3 : w.cell? ⟨g, o + 3, none⟩ = some (.int .u8 b3.toNat) := hc 3 (by simp)
  have a0 := and127 b0
  have m0 : b0.toNat % 128 < 128 := by omega
  have a1 := and127 b1
  have m1 : b1.toNat % 128 < 128 := by omega
  have a2 := and127 b2
  have m2 : b2.toNat % 128 < 128 := by omega
  clear hc h
  have t0 := b0.toNat_lt
  have t1 := b1.toNat_lt
  have t2 := b2.toNat_lt
  have t3 := b3.toNat_lt
  generalize b0.toNat % 128 = y0 at *
  generalize b1.toNat % 128 = y1 at *
  generalize b2.toNat % 128 = y2 at *
  generalize b0.toNat = x0 at *
  generalize b1.toNat = x1 at *
  generalize b2.toNat = x2 at *
  generalize b3.toNat = x3 at *
  go_enter Tryz.func81, Tryz.ntmps81
  go_wp2_with fail
  go_ret2
  refine ⟨?_, rfl⟩
  have hV : bits .or .u64 (bits .or .u64 (bits .or .u64 ((y0 : Int)) ((y1 : Int) * 128)) ((y2 : Int) * 16384)) ((x3 : Int) * 2097152) = ((y0 + y1 * 128 + y2 * 16384 + x3 * 2097152 : Nat) : Int) := by
    rw [u64_orv7 (y := (y0 : Int)) (x := (y1 : Int) * 128) (by omega) (by omega) (by omega) (by omega) (by omega)]
    rw [u64_orv14 (y := (y0 : Int) + (y1 : Int) * 128) (x := (y2 : Int) * 16384) (by omega) (by omega) (by omega) (by omega) (by omega)]
    rw [u64_orv21 (y := (y0 : Int) + (y1 : Int) * 128 + (y2 : Int) * 16384) (x := (x3 : Int) * 2097152) (by omega) (by omega) (by omega) (by omega) (by omega)]
    omega
  show Ending.returned (Value.tuple #[Value.int IntKind.u64 (bits .or .u64 (bits .or .u64 (bits .or .u64 ((y0 : Int)) ((y1 : Int) * 128)) ((y2 : Int) * 16384)) ((x3 : Int) * 2097152)), Value.int IntKind.i64 4]) = _
  rw [hV, show y0 + y1 * 128 + y2 * 16384 + x3 * 2097152 = (y0 + 128 * (y1 + 128 * (y2 + 128 * x3))) by omega]
  first | rfl | done

set_option maxRecDepth 100000 in
set_option maxHeartbeats 2000000 in
theorem uvar5_4 (g o c : Nat) (b0 b1 b2 b3 b4 : UInt8) (w : World) (h : Bytes w (.slice (some ⟨g, o, none⟩) 5 c) [b0, b1, b2, b3, b4]) (h0 : ¬ b0.toNat < 128) (h1 : ¬ b1.toNat < 128) (h2 : ¬ b2.toNat < 128) (h3 : ¬ b3.toNat < 128) (h4 : b4.toNat < 128) :
    Calls Tryz.prog 81 #[.slice (some ⟨g, o, none⟩) 5 c] w fun e w' => e = .returned (.tuple #[.int .u64 ((b0.toNat % 128 + 128 * (b1.toNat % 128 + 128 * (b2.toNat % 128 + 128 * (b3.toNat % 128 + 128 * b4.toNat)))) : Nat), .int .i64 5]) ∧ w = w' := by
  obtain ⟨b, off, hgo, hb, hc⟩ := h.at_ (by simp)
  cases hgo
  have c0 : w.cell? ⟨g, o, none⟩ = some (.int .u8 b0.toNat) := hc 0 (by simp)
  have c1 : w.cell? ⟨g, o + 1, none⟩ = some (.int .u8 b1.toNat) := hc 1 (by simp)
  have c2 : w.cell? ⟨g, o + 2, none⟩ = some (.int .u8 b2.toNat) := hc 2 (by simp)
  have c3 : w.cell? ⟨g, o + 3, none⟩ = some (.int .u8 b3.toNat) := hc 3 (by simp)
  have c4 : w.cell? ⟨g, o + 4, none⟩ = some (.int .u8 b4.toNat) := hc 4 (by simp)
  have a0 := and127 b0
  have m0 : b0.toNat % 128 < 128 := by omega
  have a1 := and127 b1
  have m1 : b1.toNat % 128 < 128 := by omega
  have a2 := and127 b2
  have m2 : b2.toNat % 128 < 128 := by omega
  have a3 := and127 b3
  have m3 : b3.toNat % 128 < 128 := by omega
  clear hc h
  have t0 := b0.toNat_lt
  have t1 := b1.toNat_lt
  have t2 := b2.toNat_lt
  have t3 := b3.toNat_lt
  have t4 := b4.toNat_lt
  generalize b0.toNat % 128 = y0 at *
  generalize b1.toNat % 128 = y1 at *
  generalize b2.toNat % 128 = y2 at *
  generalize b3.toNat % 128 = y3 at *
  generalize b0.toNat = x0 at *
  generalize b1.toNat = x1 at *
  generalize b2.toNat = x2 at *
  generalize b3.toNat = x3 at *
  generalize b4.toNat = x4 at *
  go_enter Tryz.func81, Tryz.ntmps81
  go_wp2_with fail
  go_ret2
  refine ⟨?_, rfl⟩
  have hV : bits .or .u64 (bits .or .u64 (bits .or .u64 (bits .or .u64 ((y0 : Int)) ((y1 : Int) * 128)) ((y2 : Int) * 16384)) ((y3 : Int) * 2097152)) ((x4 : Int) * 268435456) = ((y0 + y1 * 128 + y2 * 16384 + y3 * 2097152 + x4 * 268435456 : Nat) : Int) := by
    rw [u64_orv7 (y := (y0 : Int)) (x := (y1 : Int) * 128) (by omega) (by omega) (by omega) (by omega) (by omega)]
    rw [u64_orv14 (y := (y0 : Int) + (y1 : Int) * 128) (x := (y2 : Int) * 16384) (by omega) (by omega) (by omega) (by omega) (by omega)]
    rw [u64_orv21 (y := (y0 : Int) + (y1 : Int) * 128 + (y2 : Int) * 16384) (x := (y3 : Int) * 2097152) (by omega) (by omega) (by omega) (by omega) (by omega)]
    rw [u64_orv28 (y := (y0 : Int) + (y1 : Int) * 128 + (y2 : Int) * 16384 + (y3 : Int) * 2097152) (x := (x4 : Int) * 268435456) (by omega) (by omega) (by omega) (by omega) (by omega)]
    omega
  show Ending.returned (Value.tuple #[Value.int IntKind.u64 (bits .or .u64 (bits .or .u64 (bits .or .u64 (bits .or .u64 ((y0 : Int)) ((y1 : Int) * 128)) ((y2 : Int) * 16384)) ((y3 : Int) * 2097152)) ((x4 : Int) * 268435456)), Value.int IntKind.i64 5]) = _
  rw [hV, show y0 + y1 * 128 + y2 * 16384 + y3 * 2097152 + x4 * 268435456 = (y0 + 128 * (y1 + 128 * (y2 + 128 * (y3 + 128 * x4)))) by omega]
  first | rfl | done

set_option maxRecDepth 100000 in
set_option maxHeartbeats 2000000 in
theorem uvar5_5 (g o c : Nat) (b0 b1 b2 b3 b4 : UInt8) (w : World) (h : Bytes w (.slice (some ⟨g, o, none⟩) 5 c) [b0, b1, b2, b3, b4]) (h0 : ¬ b0.toNat < 128) (h1 : ¬ b1.toNat < 128) (h2 : ¬ b2.toNat < 128) (h3 : ¬ b3.toNat < 128) (h4 : ¬ b4.toNat < 128) :
    Calls Tryz.prog 81 #[.slice (some ⟨g, o, none⟩) 5 c] w fun e w' => e = .returned (.tuple #[.int .u64 0, .int .i64 0]) ∧ w = w' := by
  obtain ⟨b, off, hgo, hb, hc⟩ := h.at_ (by simp)
  cases hgo
  have c0 : w.cell? ⟨g, o, none⟩ = some (.int .u8 b0.toNat) := hc 0 (by simp)
  have c1 : w.cell? ⟨g, o + 1, none⟩ = some (.int .u8 b1.toNat) := hc 1 (by simp)
  have c2 : w.cell? ⟨g, o + 2, none⟩ = some (.int .u8 b2.toNat) := hc 2 (by simp)
  have c3 : w.cell? ⟨g, o + 3, none⟩ = some (.int .u8 b3.toNat) := hc 3 (by simp)
  have c4 : w.cell? ⟨g, o + 4, none⟩ = some (.int .u8 b4.toNat) := hc 4 (by simp)
  have a0 := and127 b0
  have m0 : b0.toNat % 128 < 128 := by omega
  have a1 := and127 b1
  have m1 : b1.toNat % 128 < 128 := by omega
  have a2 := and127 b2
  have m2 : b2.toNat % 128 < 128 := by omega
  have a3 := and127 b3
  have m3 : b3.toNat % 128 < 128 := by omega
  clear hc h
  have t0 := b0.toNat_lt
  have t1 := b1.toNat_lt
  have t2 := b2.toNat_lt
  have t3 := b3.toNat_lt
  have t4 := b4.toNat_lt
  generalize b0.toNat % 128 = y0 at *
  generalize b1.toNat % 128 = y1 at *
  generalize b2.toNat % 128 = y2 at *
  generalize b3.toNat % 128 = y3 at *
  generalize b0.toNat = x0 at *
  generalize b1.toNat = x1 at *
  generalize b2.toNat = x2 at *
  generalize b3.toNat = x3 at *
  generalize b4.toNat = x4 at *
  go_enter Tryz.func81, Tryz.ntmps81
  go_wp2_with fail
  go_ret2
  exact ⟨rfl, rfl⟩

theorem uvar5_any (g o c : Nat) (l : List UInt8) (w : World) (h : Bytes w (.slice (some ⟨g, o, none⟩) 5 c) l) (hl : l.length = 5) :
    Calls Tryz.prog 81 #[.slice (some ⟨g, o, none⟩) 5 c] w fun e w' => e = .returned (.tuple #[.int .u64 ((uvar l).1 : Nat), .int .i64 ((uvar l).2 : Nat)]) ∧ w = w' := by
  match l, hl, h with
  | [b0, b1, b2, b3, b4], _, h =>
    by_cases h0 : b0.toNat < 128
    · have hu : uvar [b0, b1, b2, b3, b4] = (b0.toNat, 1) := by simp [uvar, h0]
      rw [hu]
      exact uvar5_0 g o c b0 b1 b2 b3 b4 w h h0
    by_cases h1 : b1.toNat < 128
    · have hu : uvar [b0, b1, b2, b3, b4] = ((b0.toNat % 128 + 128 * b1.toNat), 2) := by simp [uvar, h0, h1]
      rw [hu]
      exact uvar5_1 g o c b0 b1 b2 b3 b4 w h h0 h1
    by_cases h2 : b2.toNat < 128
    · have hu : uvar [b0, b1, b2, b3, b4] = ((b0.toNat % 128 + 128 * (b1.toNat % 128 + 128 * b2.toNat)), 3) := by simp [uvar, h0, h1, h2]
      rw [hu]
      exact uvar5_2 g o c b0 b1 b2 b3 b4 w h h0 h1 h2
    by_cases h3 : b3.toNat < 128
    · have hu : uvar [b0, b1, b2, b3, b4] = ((b0.toNat % 128 + 128 * (b1.toNat % 128 + 128 * (b2.toNat % 128 + 128 * b3.toNat))), 4) := by simp [uvar, h0, h1, h2, h3]
      rw [hu]
      exact uvar5_3 g o c b0 b1 b2 b3 b4 w h h0 h1 h2 h3
    by_cases h4 : b4.toNat < 128
    · have hu : uvar [b0, b1, b2, b3, b4] = ((b0.toNat % 128 + 128 * (b1.toNat % 128 + 128 * (b2.toNat % 128 + 128 * (b3.toNat % 128 + 128 * b4.toNat)))), 5) := by simp [uvar, h0, h1, h2, h3, h4]
      rw [hu]
      exact uvar5_4 g o c b0 b1 b2 b3 b4 w h h0 h1 h2 h3 h4
    have hu : uvar [b0, b1, b2, b3, b4] = (0, 0) := by simp [uvar, h0, h1, h2, h3, h4]
    rw [hu]
    exact uvar5_5 g o c b0 b1 b2 b3 b4 w h h0 h1 h2 h3 h4
end Go.Proofs.YtkbkggamfkadnaaGreatDoor
