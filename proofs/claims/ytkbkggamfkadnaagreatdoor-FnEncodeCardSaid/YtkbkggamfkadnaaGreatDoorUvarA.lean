/-
  Uvarint of fewer than ten bytes, each way by itself.
-/
import Derived.Test.YtkbkggamfkadnaaGreatDoorUvar5
namespace Go.Proofs.YtkbkggamfkadnaaGreatDoor
set_option linter.unusedSimpArgs false
set_option linter.unusedVariables false
open Go.RowKit

set_option maxRecDepth 100000 in
set_option maxHeartbeats 2000000 in
theorem uvS_0 (v : Value) (m : Nat) (b0 : UInt8) (r : List UInt8) (w : World) (h : Bytes w v (b0 :: r)) (hml : (b0 :: r).length = m) (hm : m < 10) (hl : m ≤ 2147483647)  (h0 : b0.toNat < 128) :
    Calls Tryz.prog 81 #[v] w fun e w' => e = .returned (.tuple #[.int .u64 (b0.toNat : Nat), .int .i64 1]) ∧ w = w' := by
  obtain ⟨ao, cap, rfl, hcap, hmax⟩ := h.form
  obtain ⟨g, o, rfl, hb, hc⟩ := h.at_ (by simp)
  have c0 : w.cell? ⟨g, o, none⟩ = some (.int .u8 b0.toNat) := hc 0 (by simp)
  rw [hml] at hcap ⊢
  simp only [List.length_cons, List.length_nil] at hml
  clear hc h
  have t0 := b0.toNat_lt
  generalize b0.toNat = x0 at *
  have n0 : (0 : Int) ≤ (m : Int) := by omega
  have n1 : (m : Int) ≤ 2147483647 := by omega
  have k0 : ((m : Int) == 0) = false := by rw [beq_eq_false_iff_ne]; omega
  have n2 : ¬ (10 : Int) ≤ (m : Int) := by omega
  have n3 : (0 : Int) < (m : Int) := by omega
  have i0 : (0 : Int) < (m : Int) := by omega
  clear hml
  go_enter Tryz.func81, Tryz.ntmps81
  go_wp2_with fail
  go_ret2
  exact ⟨rfl, rfl⟩

set_option maxRecDepth 100000 in
set_option maxHeartbeats 2000000 in
theorem uvS_1 (v : Value) (m : Nat) (b0 b1 : UInt8) (r : List UInt8) (w : World) (h : Bytes w v (b0 :: b1 :: r)) (hml : (b0 :: b1 :: r).length = m) (hm : m < 10) (hl : m ≤ 2147483647) (h0 : ¬ b0.toNat < 128) (h1 : b1.toNat < 128) :
    Calls Tryz.prog 81 #[v] w fun e w' => e = .returned (.tuple #[.int .u64 ((b0.toNat % 128 + 128 * b1.toNat) : Nat), .int .i64 2]) ∧ w = w' := by
  obtain ⟨ao, cap, rfl, hcap, hmax⟩ := h.form
  obtain ⟨g, o, rfl, hb, hc⟩ := h.at_ (by simp)
  have c0 : w.cell? ⟨g, o, none⟩ = some (.int .u8 b0.toNat) := hc 0 (by simp)
  have c1 : w.cell? ⟨g, o + 1, none⟩ = some (.int .u8 b1.toNat) := hc 1 (by simp)
  have a0 := and127 b0
  have m0 : b0.toNat % 128 < 128 := by omega
  rw [hml] at hcap ⊢
  simp only [List.length_cons, List.length_nil] at hml
  clear hc h
  have t0 := b0.toNat_lt
  have t1 := b1.toNat_lt
  generalize b0.toNat % 128 = y0 at *
  generalize b0.toNat = x0 at *
  generalize b1.toNat = x1 at *
  have n0 : (0 : Int) ≤ (m : Int) := by omega
  have n1 : (m : Int) ≤ 2147483647 := by omega
  have k0 : ((m : Int) == 0) = false := by rw [beq_eq_false_iff_ne]; omega
  have n2 : ¬ (10 : Int) ≤ (m : Int) := by omega
  have k1 : ((m : Int) == 1) = false := by rw [beq_eq_false_iff_ne]; omega
  have n3 : (1 : Int) < (m : Int) := by omega
  have i0 : (0 : Int) < (m : Int) := by omega
  have i1 : (1 : Int) < (m : Int) := by omega
  clear hml
  go_enter Tryz.func81, Tryz.ntmps81
  go_wp2_with fail
  go_ret2
  refine ⟨?_, rfl⟩
  have hV : bits .or .u64 ((y0 : Int)) ((x1 : Int) * 128) = ((y0 + x1 * 128 : Nat) : Int) := by
    rw [u64_orv7 (y := (y0 : Int)) (x := (x1 : Int) * 128) (by omega) (by omega) (by omega) (by omega) (by omega)]
    omega
  show Ending.returned (Value.tuple #[Value.int IntKind.u64 (bits .or .u64 ((y0 : Int)) ((x1 : Int) * 128)), Value.int IntKind.i64 2]) = _
  rw [hV, show y0 + x1 * 128 = (y0 + 128 * x1) by omega]
  first | rfl | done

set_option maxRecDepth 100000 in
set_option maxHeartbeats 2000000 in
theorem uvS_2 (v : Value) (m : Nat) (b0 b1 b2 : UInt8) (r : List UInt8) (w : World) (h : Bytes w v (b0 :: b1 :: b2 :: r)) (hml : (b0 :: b1 :: b2 :: r).length = m) (hm : m < 10) (hl : m ≤ 2147483647) (h0 : ¬ b0.toNat < 128) (h1 : ¬ b1.toNat < 128) (h2 : b2.toNat < 128) :
    Calls Tryz.prog 81 #[v] w fun e w' => e = .returned (.tuple #[.int .u64 ((b0.toNat % 128 + 128 * (b1.toNat % 128 + 128 * b2.toNat)) : Nat), .int .i64 3]) ∧ w = w' := by
  obtain ⟨ao, cap, rfl, hcap, hmax⟩ := h.form
  obtain ⟨g, o, rfl, hb, hc⟩ := h.at_ (by simp)
  have c0 : w.cell? ⟨g, o, none⟩ = some (.int .u8 b0.toNat) := hc 0 (by simp)
  have c1 : w.cell? ⟨g, o + 1, none⟩ = some (.int .u8 b1.toNat) := hc 1 (by simp)
  have c2 : w.cell? ⟨g, o + 2, none⟩ = some (.int .u8 b2.toNat) := hc 2 (by simp)
  have a0 := and127 b0
  have m0 : b0.toNat % 128 < 128 := by omega
  have a1 := and127 b1
  have m1 : b1.toNat % 128 < 128 := by omega
  rw [hml] at hcap ⊢
  simp only [List.length_cons, List.length_nil] at hml
  clear hc h
  have t0 := b0.toNat_lt
  have t1 := b1.toNat_lt
  have t2 := b2.toNat_lt
  generalize b0.toNat % 128 = y0 at *
  generalize b1.toNat % 128 = y1 at *
  generalize b0.toNat = x0 at *
  generalize b1.toNat = x1 at *
  generalize b2.toNat = x2 at *
  have n0 : (0 : Int) ≤ (m : Int) := by omega
  have n1 : (m : Int) ≤ 2147483647 := by omega
  have k0 : ((m : Int) == 0) = false := by rw [beq_eq_false_iff_ne]; omega
  have n2 : ¬ (10 : Int) ≤ (m : Int) := by omega
  have k1 : ((m : Int) == 1) = false := by rw [beq_eq_false_iff_ne]; omega
  have k2 : ((m : Int) == 2) = false := by rw [beq_eq_false_iff_ne]; omega
  have n3 : (2 : Int) < (m : Int) := by omega
  have i0 : (0 : Int) < (m : Int) := by omega
  have i1 : (1 : Int) < (m : Int) := by omega
  have i2 : (2 : Int) < (m : Int) := by omega
  clear hml
  go_enter Tryz.func81, Tryz.ntmps81
  go_wp2_with fail
  go_ret2
  refine ⟨?_, rfl⟩
  have hV : bits .or .u64 (bits .or .u64 ((y0 : Int)) ((y1 : Int) * 128)) ((x2 : Int) * 16384) = ((y0 + y1 * 128 + x2 * 16384 : Nat) : Int) := by
    rw [u64_orv7 (y := (y0 : Int)) (x := (y1 : Int) * 128) (by omega) (by omega) (by omega) (by omega) (by omega)]
    rw [u64_orv14 (y := (y0 : Int) + (y1 : Int) * 128) (x := (x2 : Int) * 16384) (by omega) (by omega) (by omega) (by omega) (by omega)]
    omega
  show Ending.returned (Value.tuple #[Value.int IntKind.u64 (bits .or .u64 (bits .or .u64 ((y0 : Int)) ((y1 : Int) * 128)) ((x2 : Int) * 16384)), Value.int IntKind.i64 3]) = _
  rw [hV, show y0 + y1 * 128 + x2 * 16384 = (y0 + 128 * (y1 + 128 * x2)) by omega]
  first | rfl | done

set_option maxRecDepth 100000 in
set_option maxHeartbeats 2000000 in
theorem uvS_3 (v : Value) (m : Nat) (b0 b1 b2 b3 : UInt8) (r : List UInt8) (w : World) (h : Bytes w v (b0 :: b1 :: b2 :: b3 :: r)) (hml : (b0 :: b1 :: b2 :: b3 :: r).length = m) (hm : m < 10) (hl : m ≤ 2147483647) (h0 : ¬ b0.toNat < 128) (h1 : ¬ b1.toNat < 128) (h2 : ¬ b2.toNat < 128) (h3 : b3.toNat < 128) :
    Calls Tryz.prog 81 #[v] w fun e w' => e = .returned (.tuple #[.int .u64 ((b0.toNat % 128 + 128 * (b1.toNat % 128 + 128 * (b2.toNat % 128 + 128 * b3.toNat))) : Nat), .int .i64 4]) ∧ w = w' := by
  obtain ⟨ao, cap, rfl, hcap, hmax⟩ := h.form
  obtain ⟨g, o, rfl, hb, hc⟩ := h.at_ (by simp)
  have c0 : w.cell? ⟨g, o, none⟩ = some (.int .u8 b0.toNat) := hc 0 (by simp)
  have c1 : w.cell? ⟨g, o + 1, none⟩ = some (.int .u8 b1.toNat) := hc 1 (by simp)
  have c2 : w.cell? ⟨g, o + 2, none⟩ = some (.int .u8 b2.toNat) := hc 2 (by simp)
  have c3 : w.cell? ⟨g, o + 3, none⟩ = some (.int .u8 b3.toNat) := hc 3 (by simp)
  have a0 := and127 b0
  have m0 : b0.toNat % 128 < 128 := by omega
  have a1 := and127 b1
  have m1 : b1.toNat % 128 < 128 := by omega
  have a2 := and127 b2
  have m2 : b2.toNat % 128 < 128 := by omega
  rw [hml] at hcap ⊢
  simp only [List.length_cons, List.length_nil] at hml
  clear hc h
  have t0 := b0.toNat_lt
  have t1 := b1.toNat_lt
  have t2 := b2.toNat_lt
  have t3 := b3.toNat_lt
  generalize b0.toNat % 128 = y0 at *
  generalize b1.toNat % 128 = y1 at *
  generalize b2.toNat % 128 = y2 at *
  generalize b0.toNat = x0 at *
  generalize b1.toNat = x1 at *
  generalize b2.toNat = x2 at *
  generalize b3.toNat = x3 at *
  have n0 : (0 : Int) ≤ (m : Int) := by omega
  have n1 : (m : Int) ≤ 2147483647 := by omega
  have k0 : ((m : Int) == 0) = false := by rw [beq_eq_false_iff_ne]; omega
  have n2 : ¬ (10 : Int) ≤ (m : Int) := by omega
  have k1 : ((m : Int) == 1) = false := by rw [beq_eq_false_iff_ne]; omega
  have k2 : ((m : Int) == 2) = false := by rw [beq_eq_false_iff_ne]; omega
  have k3 : ((m : Int) == 3) = false := by rw [beq_eq_false_iff_ne]; omega
  have n3 : (3 : Int) < (m : Int) := by omega
  have i0 : (0 : Int) < (m : Int) := by omega
  have i1 : (1 : Int) < (m : Int) := by omega
  have i2 : (2 : Int) < (m : Int) := by omega
  have i3 : (3 : Int) < (m : Int) := by omega
  clear hml
  go_enter Tryz.func81, Tryz.ntmps81
  go_wp2_with fail
  go_ret2
  refine ⟨?_, rfl⟩
  have hV : bits .or .u64 (bits .or .u64 (bits .or .u64 ((y0 : Int)) ((y1 : Int) * 128)) ((y2 : Int) * 16384)) ((x3 : Int) * 2097152) = ((y0 + y1 * 128 + y2 * 16384 + x3 * 2097152 : Nat) : Int) := by
    rw [u64_orv7 (y := (y0 : Int)) (x := (y1 : Int) * 128) (by omega) (by omega) (by omega) (by omega) (by omega)]
    rw [u64_orv14 (y := (y0 : Int) + (y1 : Int) * 128) (x := (y2 : Int) * 16384) (by omega) (by omega) (by omega) (by omega) (by omega)]
    rw [u64_orv21 (y := (y0 : Int) + (y1 : Int) * 128 + (y2 : Int) * 16384) (x := (x3 : Int) * 2097152) (by omega) (by omega) (by omega) (by omega) (by omega)]
    omega
  show Ending.returned (Value.tuple #[Value.int IntKind.u64 (bits .or .u64 (bits .or .u64 (bits .or .u64 ((y0 : Int)) ((y1 : Int) * 128)) ((y2 : Int) * 16384)) ((x3 : Int) * 2097152)), Value.int IntKind.i64 4]) = _
  rw [hV, show y0 + y1 * 128 + y2 * 16384 + x3 * 2097152 = (y0 + 128 * (y1 + 128 * (y2 + 128 * x3))) by omega]
  first | rfl | done

set_option maxRecDepth 100000 in
set_option maxHeartbeats 2000000 in
theorem uvS_4 (v : Value) (m : Nat) (b0 b1 b2 b3 b4 : UInt8) (r : List UInt8) (w : World) (h : Bytes w v (b0 :: b1 :: b2 :: b3 :: b4 :: r)) (hml : (b0 :: b1 :: b2 :: b3 :: b4 :: r).length = m) (hm : m < 10) (hl : m ≤ 2147483647) (h0 : ¬ b0.toNat < 128) (h1 : ¬ b1.toNat < 128) (h2 : ¬ b2.toNat < 128) (h3 : ¬ b3.toNat < 128) (h4 : b4.toNat < 128) :
    Calls Tryz.prog 81 #[v] w fun e w' => e = .returned (.tuple #[.int .u64 ((b0.toNat % 128 + 128 * (b1.toNat % 128 + 128 * (b2.toNat % 128 + 128 * (b3.toNat % 128 + 128 * b4.toNat)))) : Nat), .int .i64 5]) ∧ w = w' := by
  obtain ⟨ao, cap, rfl, hcap, hmax⟩ := h.form
  obtain ⟨g, o, rfl, hb, hc⟩ := h.at_ (by simp)
  have c0 : w.cell? ⟨g, o, none⟩ = some (.int .u8 b0.toNat) := hc 0 (by simp)
  have c1 : w.cell? ⟨g, o + 1, none⟩ = some (.int .u8 b1.toNat) := hc 1 (by simp)
  have c2 : w.cell? ⟨g, o + 2, none⟩ = some (.int .u8 b2.toNat) := hc 2 (by simp)
  have c3 : w.cell? ⟨g, o + 3, none⟩ = some (.int .u8 b3.toNat) := hc 3 (by simp)
  have c4 : w.cell? ⟨g, o + 4, none⟩ = some (.int .u8 b4.toNat) := hc 4 (by simp)
  have a0 := and127 b0
  have m0 : b0.toNat % 128 < 128 := by omega
  have a1 := and127 b1
  have m1 : b1.toNat % 128 < 128 := by omega
  have a2 := and127 b2
  have m2 : b2.toNat % 128 < 128 := by omega
  have a3 := and127 b3
  have m3 : b3.toNat % 128 < 128 := by omega
  rw [hml] at hcap ⊢
  simp only [List.length_cons, List.length_nil] at hml
  clear hc h
  have t0 := b0.toNat_lt
  have t1 := b1.toNat_lt
  have t2 := b2.toNat_lt
  have t3 := b3.toNat_lt
  have t4 := b4.toNat_lt
  generalize b0.toNat % 128 = y0 at *
  generalize b1.toNat % 128 = y1 at *
  generalize b2.toNat % 128 = y2 at *
  generalize b3.toNat % 128 = y3 at *
  generalize b0.toNat = x0 at *
  generalize b1.toNat = x1 at *
  generalize b2.toNat = x2 at *
  generalize b3.toNat = x3 at *
  generalize b4.toNat = x4 at *
  have n0 : (0 : Int) ≤ (m : Int) := by omega
  have n1 : (m : Int) ≤ 2147483647 := by omega
  have k0 : ((m : Int) == 0) = false := by rw [beq_eq_false_iff_ne]; omega
  have n2 : ¬ (10 : Int) ≤ (m : Int) := by omega
  have k1 : ((m : Int) == 1) = false := by rw [beq_eq_false_iff_ne]; omega
  have k2 : ((m : Int) == 2) = false := by rw [beq_eq_false_iff_ne]; omega
  have k3 : ((m : Int) == 3) = false := by rw [beq_eq_false_iff_ne]; omega
  have k4 : ((m : Int) == 4) = false := by rw [beq_eq_false_iff_ne]; omega
  have n3 : (4 : Int) < (m : Int) := by omega
  have i0 : (0 : Int) < (m : Int) := by omega
  have i1 : (1 : Int) < (m : Int) := by omega
  have i2 : (2 : Int) < (m : Int) := by omega
  have i3 : (3 : Int) < (m : Int) := by omega
  have i4 : (4 : Int) < (m : Int) := by omega
  clear hml
  go_enter Tryz.func81, Tryz.ntmps81
  go_wp2_with fail
  go_ret2
  refine ⟨?_, rfl⟩
  have hV : bits .or .u64 (bits .or .u64 (bits .or .u64 (bits .or .u64 ((y0 : Int)) ((y1 : Int) * 128)) ((y2 : Int) * 16384)) ((y3 : Int) * 2097152)) ((x4 : Int) * 268435456) = ((y0 + y1 * 128 + y2 * 16384 + y3 * 2097152 + x4 * 268435456 : Nat) : Int) := by
    rw [u64_orv7 (y := (y0 : Int)) (x := (y1 : Int) * 128) (by omega) (by omega) (by omega) (by omega) (by omega)]
    rw [u64_orv14 (y := (y0 : Int) + (y1 : Int) * 128) (x := (y2 : Int) * 16384) (by omega) (by omega) (by omega) (by omega) (by omega)]
    rw [u64_orv21 (y := (y0 : Int) + (y1 : Int) * 128 + (y2 : Int) * 16384) (x := (y3 : Int) * 2097152) (by omega) (by omega) (by omega) (by omega) (by omega)]
    rw [u64_orv28 (y := (y0 : Int) + (y1 : Int) * 128 + (y2 : Int) * 16384 + (y3 : Int) * 2097152) (x := (x4 : Int) * 268435456) (by omega) (by omega) (by omega) (by omega) (by omega)]
    omega
  show Ending.returned (Value.tuple #[Value.int IntKind.u64 (bits .or .u64 (bits .or .u64 (bits .or .u64 (bits .or .u64 ((y0 : Int)) ((y1 : Int) * 128)) ((y2 : Int) * 16384)) ((y3 : Int) * 2097152)) ((x4 : Int) * 268435456)), Value.int IntKind.i64 5]) = _
  rw [hV, show y0 + y1 * 128 + y2 * 16384 + y3 * 2097152 + x4 * 268435456 = (y0 + 128 * (y1 + 128 * (y2 + 128 * (y3 + 128 * x4)))) by omega]
  first | rfl | done

set_option maxRecDepth 100000 in
set_option maxHeartbeats 2000000 in
theorem uvS_5 (v : Value) (m : Nat) (b0 b1 b2 b3 b4 b5 : UInt8) (r : List UInt8) (w : World) (h : Bytes w v (b0 :: b1 :: b2 :: b3 :: b4 :: b5 :: r)) (hml : (b0 :: b1 :: b2 :: b3 :: b4 :: b5 :: r).length = m) (hm : m < 10) (hl : m ≤ 2147483647) (h0 : ¬ b0.toNat < 128) (h1 : ¬ b1.toNat < 128) (h2 : ¬ b2.toNat < 128) (h3 : ¬ b3.toNat < 128) (h4 : ¬ b4.toNat < 128) (h5 : b5.toNat < 128) :
    Calls Tryz.prog 81 #[v] w fun e w' => e = .returned (.tuple #[.int .u64 ((b0.toNat % 128 + 128 * (b1.toNat % 128 + 128 * (b2.toNat % 128 + 128 * (b3.toNat % 128 + 128 * (b4.toNat % 128 + 128 * b5.toNat))))) : Nat), .int .i64 6]) ∧ w = w' := by
  obtain ⟨ao, cap, rfl, hcap, hmax⟩ := h.form
  obtain ⟨g, o, rfl, hb, hc⟩ := h.at_ (by simp)
  have c0 : w.cell? ⟨g, o, none⟩ = some (.int .u8 b0.toNat) := hc 0 (by simp)
  have c1 : w.cell? ⟨g, o + 1, none⟩ = some (.int .u8 b1.toNat) := hc 1 (by simp)
  have c2 : w.cell? ⟨g, o + 2, none⟩ = some (.int .u8 b2.toNat) := hc 2 (by simp)
  have c3 : w.cell? ⟨g, o + 3, none⟩ = some (.int .u8 b3.toNat) := hc 3 (by simp)
  have c4 : w.cell? ⟨g, o + 4, none⟩ = some (.int .u8 b4.toNat) := hc 4 (by simp)
  have c5 : w.cell? ⟨g, o + 5, none⟩ = some (.int .u8 b5.toNat) := hc 5 (by simp)
  have a0 := and127 b0
  have m0 : b0.toNat % 128 < 128 := by omega
  have a1 := and127 b1
  have m1 : b1.toNat % 128 < 128 := by omega
  have a2 := and127 b2
  have m2 : b2.toNat % 128 < 128 := by omega
  have a3 := and127 b3
  have m3 : b3.toNat % 128 < 128 := by omega
  have a4 := and127 b4
  have m4 : b4.toNat % 128 < 128 := by omega
  rw [hml] at hcap ⊢
  simp only [List.length_cons, List.length_nil] at hml
  clear hc h
  have t0 := b0.toNat_lt
  have t1 := b1.toNat_lt
  have t2 := b2.toNat_lt
  have t3 := b3.toNat_lt
  have t4 := b4.toNat_lt
  have t5 := b5.toNat_lt
  generalize b0.toNat % 128 = y0 at *
  generalize b1.toNat % 128 = y1 at *
  generalize b2.toNat % 128 = y2 at *
  generalize b3.toNat % 128 = y3 at *
  generalize b4.toNat % 128 = y4 at *
  generalize b0.toNat = x0 at *
  generalize b1.toNat = x1 at *
  generalize b2.toNat = x2 at *
  generalize b3.toNat = x3 at *
  generalize b4.toNat = x4 at *
  generalize b5.toNat = x5 at *
  have n0 : (0 : Int) ≤ (m : Int) := by omega
  have n1 : (m : Int) ≤ 2147483647 := by omega
  have k0 : ((m : Int) == 0) = false := by rw [beq_eq_false_iff_ne]; omega
  have n2 : ¬ (10 : Int) ≤ (m : Int) := by omega
  have k1 : ((m : Int) == 1) = false := by rw [beq_eq_false_iff_ne]; omega
  have k2 : ((m : Int) == 2) = false := by rw [beq_eq_false_iff_ne]; omega
  have k3 : ((m : Int) == 3) = false := by rw [beq_eq_false_iff_ne]; omega
  have k4 : ((m : Int) == 4) = false := by rw [beq_eq_false_iff_ne]; omega
  have k5 : ((m : Int) == 5) = false := by rw [beq_eq_false_iff_ne]; omega
  have n3 : (5 : Int) < (m : Int) := by omega
  have i0 : (0 : Int) < (m : Int) := by omega
  have i1 : (1 : Int) < (m : Int) := by omega
  have i2 : (2 : Int) < (m : Int) := by omega
  have i3 : (3 : Int) < (m : Int) := by omega
  have i4 : (4 : Int) < (m : Int) := by omega
  have i5 : (5 : Int) < (m : Int) := by omega
  clear hml
  go_enter Tryz.func81, Tryz.ntmps81
  go_wp2_with fail
  go_ret2
  refine ⟨?_, rfl⟩
  have hV : bits .or .u64 (bits .or .u64 (bits .or .u64 (bits .or .u64 (bits .or .u64 ((y0 : Int)) ((y1 : Int) * 128)) ((y2 : Int) * 16384)) ((y3 : Int) * 2097152)) ((y4 : Int) * 268435456)) ((x5 : Int) * 34359738368) = ((y0 + y1 * 128 + y2 * 16384 + y3 * 2097152 + y4 * 268435456 + x5 * 34359738368 : Nat) : Int) := by
    rw [u64_orv7 (y := (y0 : Int)) (x := (y1 : Int) * 128) (by omega) (by omega) (by omega) (by omega) (by omega)]
    rw [u64_orv14 (y := (y0 : Int) + (y1 : Int) * 128) (x := (y2 : Int) * 16384) (by omega) (by omega) (by omega) (by omega) (by omega)]
    rw [u64_orv21 (y := (y0 : Int) + (y1 : Int) * 128 + (y2 : Int) * 16384) (x := (y3 : Int) * 2097152) (by omega) (by omega) (by omega) (by omega) (by omega)]
    rw [u64_orv28 (y := (y0 : Int) + (y1 : Int) * 128 + (y2 : Int) * 16384 + (y3 : Int) * 2097152) (x := (y4 : Int) * 268435456) (by omega) (by omega) (by omega) (by omega) (by omega)]
    rw [u64_orv35 (y := (y0 : Int) + (y1 : Int) * 128 + (y2 : Int) * 16384 + (y3 : Int) * 2097152 + (y4 : Int) * 268435456) (x := (x5 : Int) * 34359738368) (by omega) (by omega) (by omega) (by omega) (by omega)]
    omega
  show Ending.returned (Value.tuple #[Value.int IntKind.u64 (bits .or .u64 (bits .or .u64 (bits .or .u64 (bits .or .u64 (bits .or .u64 ((y0 : Int)) ((y1 : Int) * 128)) ((y2 : Int) * 16384)) ((y3 : Int) * 2097152)) ((y4 : Int) * 268435456)) ((x5 : Int) * 34359738368)), Value.int IntKind.i64 6]) = _
  rw [hV, show y0 + y1 * 128 + y2 * 16384 + y3 * 2097152 + y4 * 268435456 + x5 * 34359738368 = (y0 + 128 * (y1 + 128 * (y2 + 128 * (y3 + 128 * (y4 + 128 * x5))))) by omega]
  first | rfl | done

set_option maxRecDepth 100000 in
set_option maxHeartbeats 2000000 in
theorem uvS_6 (v : Value) (m : Nat) (b0 b1 b2 b3 b4 b5 b6 : UInt8) (r : List UInt8) (w : World) (h : Bytes w v (b0 :: b1 :: b2 :: b3 :: b4 :: b5 :: b6 :: r)) (hml : (b0 :: b1 :: b2 :: b3 :: b4 :: b5 :: b6 :: r).length = m) (hm : m < 10) (hl : m ≤ 2147483647) (h0 : ¬ b0.toNat < 128) (h1 : ¬ b1.toNat < 128) (h2 : ¬ b2.toNat < 128) (h3 : ¬ b3.toNat < 128) (h4 : ¬ b4.toNat < 128) (h5 : ¬ b5.toNat < 128) (h6 : b6.toNat < 128) :
    Calls Tryz.prog 81 #[v] w fun e w' => e = .returned (.tuple #[.int .u64 ((b0.toNat % 128 + 128 * (b1.toNat % 128 + 128 * (b2.toNat % 128 + 128 * (b3.toNat % 128 + 128 * (b4.toNat % 128 + 128 * (b5.toNat % 128 + 128 * b6.toNat)))))) : Nat), .int .i64 7]) ∧ w = w' := by
  obtain ⟨ao, cap, rfl, hcap, hmax⟩ := h.form
  obtain ⟨g, o, rfl, hb, hc⟩ := h.at_ (by simp)
  have c0 : w.cell? ⟨g, o, none⟩ = some (.int .u8 b0.toNat) := hc 0 (by simp)
  have c1 : w.cell? ⟨g, o + 1, none⟩ = some (.int .u8 b1.toNat) := hc 1 (by simp)
  have c2 : w.cell? ⟨g, o + 2, none⟩ = some (.int .u8 b2.toNat) := hc 2 (by simp)
  have c3 : w.cell? ⟨g, o + 3, none⟩ = some (.int .u8 b3.toNat) := hc 3 (by simp)
  have c4 : w.cell? ⟨g, o + 4, none⟩ = some (.int .u8 b4.toNat) := hc 4 (by simp)
  have c5 : w.cell? ⟨g, o + 5, none⟩ = some (.int .u8 b5.toNat) := hc 5 (by simp)
  have c6 : w.cell? ⟨g, o + 6, none⟩ = some (.int .u8 b6.toNat) := hc 6 (by simp)
  have a0 := and127 b0
  have m0 : b0.toNat % 128 < 128 := by omega
  have a1 := and127 b1
  have m1 : b1.toNat % 128 < 128 := by omega
  have a2 := and127 b2
  have m2 : b2.toNat % 128 < 128 := by omega
  have a3 := and127 b3
  have m3 : b3.toNat % 128 < 128 := by omega
  have a4 := and127 b4
  have m4 : b4.toNat % 128 < 128 := by omega
  have a5 := and127 b5
  have m5 : b5.toNat % 128 < 128 := by omega
  rw [hml] at hcap ⊢
  simp only [List.length_cons, List.length_nil] at hml
  clear hc h
  have t0 := b0.toNat_lt
  have t1 := b1.toNat_lt
  have t2 := b2.toNat_lt
  have t3 := b3.toNat_lt
  have t4 := b4.toNat_lt
  have t5 := b5.toNat_lt
  have t6 := b6.toNat_lt
  generalize b0.toNat % 128 = y0 at *
  generalize b1.toNat % 128 = y1 at *
  generalize b2.toNat % 128 = y2 at *
  generalize b3.toNat % 128 = y3 at *
  generalize b4.toNat % 128 = y4 at *
  generalize b5.toNat % 128 = y5 at *
  generalize b0.toNat = x0 at *
  generalize b1.toNat = x1 at *
  generalize b2.toNat = x2 at *
  generalize b3.toNat = x3 at *
  generalize b4.toNat = x4 at *
  generalize b5.toNat = x5 at *
  generalize b6.toNat = x6 at *
  have n0 : (0 : Int) ≤ (m : Int) := by omega
  have n1 : (m : Int) ≤ 2147483647 := by omega
  have k0 : ((m : Int) == 0) = false := by rw [beq_eq_false_iff_ne]; omega
  have n2 : ¬ (10 : Int) ≤ (m : Int) := by omega
  have k1 : ((m : Int) == 1) = false := by rw [beq_eq_false_iff_ne]; omega
  have k2 : ((m : Int) == 2) = false := by rw [beq_eq_false_iff_ne]; omega
  have k3 : ((m : Int) == 3) = false := by rw [beq_eq_false_iff_ne]; omega
  have k4 : ((m : Int) == 4) = false := by rw [beq_eq_false_iff_ne]; omega
  have k5 : ((m : Int) == 5) = false := by rw [beq_eq_false_iff_ne]; omega
  have k6 : ((m : Int) == 6) = false := by rw [beq_eq_false_iff_ne]; omega
  have n3 : (6 : Int) < (m : Int) := by omega
  have i0 : (0 : Int) < (m : Int) := by omega
  have i1 : (1 : Int) < (m : Int) := by omega
  have i2 : (2 : Int) < (m : Int) := by omega
  have i3 : (3 : Int) < (m : Int) := by omega
  have i4 : (4 : Int) < (m : Int) := by omega
  have i5 : (5 : Int) < (m : Int) := by omega
  have i6 : (6 : Int) < (m : Int) := by omega
  clear hml
  go_enter Tryz.func81, Tryz.ntmps81
  go_wp2_with fail
  go_ret2
  refine ⟨?_, rfl⟩
  have hV : bits .or .u64 (bits .or .u64 (bits .or .u64 (bits .or .u64 (bits .or .u64 (bits .or .u64 ((y0 : Int)) ((y1 : Int) * 128)) ((y2 : Int) * 16384)) ((y3 : Int) * 2097152)) ((y4 : Int) * 268435456)) ((y5 : Int) * 34359738368)) ((x6 : Int) * 4398046511104) = ((y0 + y1 * 128 + y2 * 16384 + y3 * 2097152 + y4 * 268435456 + y5 * 34359738368 + x6 * 4398046511104 : Nat) : Int) := by
    rw [u64_orv7 (y := (y0 : Int)) (x := (y1 : Int) * 128) (by omega) (by omega) (by omega) (by omega) (by omega)]
    rw [u64_orv14 (y := (y0 : Int) + (y1 : Int) * 128) (x := (y2 : Int) * 16384) (by omega) (by omega) (by omega) (by omega) (by omega)]
    rw [u64_orv21 (y := (y0 : Int) + (y1 : Int) * 128 + (y2 : Int) * 16384) (x := (y3 : Int) * 2097152) (by omega) (by omega) (by omega) (by omega) (by omega)]
    rw [u64_orv28 (y := (y0 : Int) + (y1 : Int) * 128 + (y2 : Int) * 16384 + (y3 : Int) * 2097152) (x := (y4 : Int) * 268435456) (by omega) (by omega) (by omega) (by omega) (by omega)]
    rw [u64_orv35 (y := (y0 : Int) + (y1 : Int) * 128 + (y2 : Int) * 16384 + (y3 : Int) * 2097152 + (y4 : Int) * 268435456) (x := (y5 : Int) * 34359738368) (by omega) (by omega) (by omega) (by omega) (by omega)]
    rw [u64_orv42 (y := (y0 : Int) + (y1 : Int) * 128 + (y2 : Int) * 16384 + (y3 : Int) * 2097152 + (y4 : Int) * 268435456 + (y5 : Int) * 34359738368) (x := (x6 : Int) * 4398046511104) (by omega) (by omega) (by omega) (by omega) (by omega)]
    omega
  show Ending.returned (Value.tuple #[Value.int IntKind.u64 (bits .or .u64 (bits .or .u64 (bits .or .u64 (bits .or .u64 (bits .or .u64 (bits .or .u64 ((y0 : Int)) ((y1 : Int) * 128)) ((y2 : Int) * 16384)) ((y3 : Int) * 2097152)) ((y4 : Int) * 268435456)) ((y5 : Int) * 34359738368)) ((x6 : Int) * 4398046511104)), Value.int IntKind.i64 7]) = _
  rw [hV, show y0 + y1 * 128 + y2 * 16384 + y3 * 2097152 + y4 * 268435456 + y5 * 34359738368 + x6 * 4398046511104 = (y0 + 128 * (y1 + 128 * (y2 + 128 * (y3 + 128 * (y4 + 128 * (y5 + 128 * x6)))))) by omega]
  first | rfl | done

set_option maxRecDepth 100000 in
set_option maxHeartbeats 2000000 in
theorem uvS_7 (v : Value) (m : Nat) (b0 b1 b2 b3 b4 b5 b6 b7 : UInt8) (r : List UInt8) (w : World) (h : Bytes w v (b0 :: b1 :: b2 :: b3 :: b4 :: b5 :: b6 :: b7 :: r)) (hml : (b0 :: b1 :: b2 :: b3 :: b4 :: b5 :: b6 :: b7 :: r).length = m) (hm : m < 10) (hl : m ≤ 2147483647) (h0 : ¬ b0.toNat < 128) (h1 : ¬ b1.toNat < 128) (h2 : ¬ b2.toNat < 128) (h3 : ¬ b3.toNat < 128) (h4 : ¬ b4.toNat < 128) (h5 : ¬ b5.toNat < 128) (h6 : ¬ b6.toNat < 128) (h7 : b7.toNat < 128) :
    Calls Tryz.prog 81 #[v] w fun e w' => e = .returned (.tuple #[.int .u64 ((b0.toNat % 128 + 128 * (b1.toNat % 128 + 128 * (b2.toNat % 128 + 128 * (b3.toNat % 128 + 128 * (b4.toNat % 128 + 128 * (b5.toNat % 128 + 128 * (b6.toNat % 128 + 128 * b7.toNat))))))) : Nat), .int .i64 8]) ∧ w = w' := by
  obtain ⟨ao, cap, rfl, hcap, hmax⟩ := h.form
  obtain ⟨g, o, rfl, hb, hc⟩ := h.at_ (by simp)
  have c0 : w.cell? ⟨g, o, none⟩ = some (.int .u8 b0.toNat) := hc 0 (by simp)
  have c1 : w.cell? ⟨g, o + 1, none⟩ = some (.int .u8 b1.toNat) := hc 1 (by simp)
  have c2 : w.cell? ⟨g, o + 2, none⟩ = some (.int .u8 b2.toNat) := hc 2 (by simp)
  have c3 : w.cell? ⟨g, o + 3, none⟩ = some (.int .u8 b3.toNat) := hc 3 (by simp)
  have c4 : w.cell? ⟨g, o + 4, none⟩ = some (.int .u8 b4.toNat) := hc 4 (by simp)
  have c5 : w.cell? ⟨g, o + 5, none⟩ = some (.int .u8 b5.toNat) := hc 5 (by simp)
  have c6 : w.cell? ⟨g, o + 6, none⟩ = some (.int .u8 b6.toNat) := hc 6 (by simp)
  have c7 : w.cell? ⟨g, o + 7, none⟩ = some (.int .u8 b7.toNat) := hc 7 (by simp)
  have a0 := and127 b0
  have m0 : b0.toNat % 128 < 128 := by omega
  have a1 := and127 b1
  have m1 : b1.toNat % 128 < 128 := by omega
  have a2 := and127 b2
  have m2 : b2.toNat % 128 < 128 := by omega
  have a3 := and127 b3
  have m3 : b3.toNat % 128 < 128 := by omega
  have a4 := and127 b4
  have m4 : b4.toNat % 128 < 128 := by omega
  have a5 := and127 b5
  have m5 : b5.toNat % 128 < 128 := by omega
  have a6 := and127 b6
  have m6 : b6.toNat % 128 < 128 := by omega
  rw [hml] at hcap ⊢
  simp only [List.length_cons, List.length_nil] at hml
  clear hc h
  have t0 := b0.toNat_lt
  have t1 := b1.toNat_lt
  have t2 := b2.toNat_lt
  have t3 := b3.toNat_lt
  have t4 := b4.toNat_lt
  have t5 := b5.toNat_lt
  have t6 := b6.toNat_lt
  have t7 := b7.toNat_lt
  generalize b0.toNat % 128 = y0 at *
  generalize b1.toNat % 128 = y1 at *
  generalize b2.toNat % 128 = y2 at *
  generalize b3.toNat % 128 = y3 at *
  generalize b4.toNat % 128 = y4 at *
  generalize b5.toNat % 128 = y5 at *
  generalize b6.toNat % 128 = y6 at *
  generalize b0.toNat = x0 at *
  generalize b1.toNat = x1 at *
  generalize b2.toNat = x2 at *
  generalize b3.toNat = x3 at *
  generalize b4.toNat = x4 at *
  generalize b5.toNat = x5 at *
  generalize b6.toNat = x6 at *
  generalize b7.toNat = x7 at *
  have n0 : (0 : Int) ≤ (m : Int) := by omega
  have n1 : (m : Int) ≤ 2147483647 := by omega
  have k0 : ((m : Int) == 0) = false := by rw [beq_eq_false_iff_ne]; omega
  have n2 : ¬ (10 : Int) ≤ (m : Int) := by omega
  have k1 : ((m : Int) == 1) = false := by rw [beq_eq_false_iff_ne]; omega
  have k2 : ((m : Int) == 2) = false := by rw [beq_eq_false_iff_ne]; omega
  have k3 : ((m : Int) == 3) = false := by rw [beq_eq_false_iff_ne]; omega
  have k4 : ((m : Int) == 4) = false := by rw [beq_eq_false_iff_ne]; omega
  have k5 : ((m : Int) == 5) = false := by rw [beq_eq_false_iff_ne]; omega
  have k6 : ((m : Int) == 6) = false := by rw [beq_eq_false_iff_ne]; omega
  have k7 : ((m : Int) == 7) = false := by rw [beq_eq_false_iff_ne]; omega
  have n3 : (7 : Int) < (m : Int) := by omega
  have i0 : (0 : Int) < (m : Int) := by omega
  have i1 : (1 : Int) < (m : Int) := by omega
  have i2 : (2 : Int) < (m : Int) := by omega
  have i3 : (3 : Int) < (m : Int) := by omega
  have i4 : (4 : Int) < (m : Int) := by omega
  have i5 : (5 : Int) < (m : Int) := by omega
  have i6 : (6 : Int) < (m : Int) := by omega
  have i7 : (7 : Int) < (m : Int) := by omega
  clear hml
  go_enter Tryz.func81, Tryz.ntmps81
  go_wp2_with fail
  go_ret2
  refine ⟨?_, rfl⟩
  have hV : bits .or .u64 (bits .or .u64 (bits .or .u64 (bits .or .u64 (bits .or .u64 (bits .or .u64 (bits .or .u64 ((y0 : Int)) ((y1 : Int) * 128)) ((y2 : Int) * 16384)) ((y3 : Int) * 2097152)) ((y4 : Int) * 268435456)) ((y5 : Int) * 34359738368)) ((y6 : Int) * 4398046511104)) ((x7 : Int) * 562949953421312) = ((y0 + y1 * 128 + y2 * 16384 + y3 * 2097152 + y4 * 268435456 + y5 * 34359738368 + y6 * 4398046511104 + x7 * 562949953421312 : Nat) : Int) := by
    rw [u64_orv7 (y := (y0 : Int)) (x := (y1 : Int) * 128) (by omega) (by omega) (by omega) (by omega) (by omega)]
    rw [u64_orv14 (y := (y0 : Int) + (y1 : Int) * 128) (x := (y2 : Int) * 16384) (by omega) (by omega) (by omega) (by omega) (by omega)]
    rw [u64_orv21 (y := (y0 : Int) + (y1 : Int) * 128 + (y2 : Int) * 16384) (x := (y3 : Int) * 2097152) (by omega) (by omega) (by omega) (by omega) (by omega)]
    rw [u64_orv28 (y := (y0 : Int) + (y1 : Int) * 128 + (y2 : Int) * 16384 + (y3 : Int) * 2097152) (x := (y4 : Int) * 268435456) (by omega) (by omega) (by omega) (by omega) (by omega)]
    rw [u64_orv35 (y := (y0 : Int) + (y1 : Int) * 128 + (y2 : Int) * 16384 + (y3 : Int) * 2097152 + (y4 : Int) * 268435456) (x := (y5 : Int) * 34359738368) (by omega) (by omega) (by omega) (by omega) (by omega)]
    rw [u64_orv42 (y := (y0 : Int) + (y1 : Int) * 128 + (y2 : Int) * 16384 + (y3 : Int) * 2097152 + (y4 : Int) * 268435456 + (y5 : Int) * 34359738368) (x := (y6 : Int) * 4398046511104) (by omega) (by omega) (by omega) (by omega) (by omega)]
    rw [u64_orv49 (y := (y0 : Int) + (y1 : Int) * 128 + (y2 : Int) * 16384 + (y3 : Int) * 2097152 + (y4 : Int) * 268435456 + (y5 : Int) * 34359738368 + (y6 : Int) * 4398046511104) (x := (x7 : Int) * 562949953421312) (by omega) (by omega) (by omega) (by omega) (by omega)]
    omega
  show Ending.returned (Value.tuple #[Value.int IntKind.u64 (bits .or .u64 (bits .or .u64 (bits .or .u64 (bits .or .u64 (bits .or .u64 (bits .or .u64 (bits .or .u64 ((y0 : Int)) ((y1 : Int) * 128)) ((y2 : Int) * 16384)) ((y3 : Int) * 2097152)) ((y4 : Int) * 268435456)) ((y5 : Int) * 34359738368)) ((y6 : Int) * 4398046511104)) ((x7 : Int) * 562949953421312)), Value.int IntKind.i64 8]) = _
  rw [hV, show y0 + y1 * 128 + y2 * 16384 + y3 * 2097152 + y4 * 268435456 + y5 * 34359738368 + y6 * 4398046511104 + x7 * 562949953421312 = (y0 + 128 * (y1 + 128 * (y2 + 128 * (y3 + 128 * (y4 + 128 * (y5 + 128 * (y6 + 128 * x7))))))) by omega]
  first | rfl | done

set_option maxRecDepth 100000 in
set_option maxHeartbeats 2000000 in
theorem uvS_8 (v : Value) (m : Nat) (b0 b1 b2 b3 b4 b5 b6 b7 b8 : UInt8) (r : List UInt8) (w : World) (h : Bytes w v (b0 :: b1 :: b2 :: b3 :: b4 :: b5 :: b6 :: b7 :: b8 :: r)) (hml : (b0 :: b1 :: b2 :: b3 :: b4 :: b5 :: b6 :: b7 :: b8 :: r).length = m) (hm : m < 10) (hl : m ≤ 2147483647) (h0 : ¬ b0.toNat < 128) (h1 : ¬ b1.toNat < 128) (h2 : ¬ b2.toNat < 128) (h3 : ¬ b3.toNat < 128) (h4 : ¬ b4.toNat < 128) (h5 : ¬ b5.toNat < 128) (h6 : ¬ b6.toNat < 128) (h7 : ¬ b7.toNat < 128) (h8 : b8.toNat < 128) :
    Calls Tryz.prog 81 #[v] w fun e w' => e = .returned (.tuple #[.int .u64 ((b0.toNat % 128 + 128 * (b1.toNat % 128 + 128 * (b2.toNat % 128 + 128 * (b3.toNat % 128 + 128 * (b4.toNat % 128 + 128 * (b5.toNat % 128 + 128 * (b6.toNat % 128 + 128 * (b7.toNat % 128 + 128 * b8.toNat)))))))) : Nat), .int .i64 9]) ∧ w = w' := by
  obtain ⟨ao, cap, rfl, hcap, hmax⟩ := h.form
  obtain ⟨g, o, rfl, hb, hc⟩ := h.at_ (by simp)
  have c0 : w.cell? ⟨g, o, none⟩ = some (.int .u8 b0.toNat) := hc 0 (by simp)
  have c1 : w.cell? ⟨g, o + 1, none⟩ = some (.int .u8 b1.toNat) := hc 1 (by simp)
  have c2 : w.cell? ⟨g, o + 2, none⟩ = some (.int .u8 b2.toNat) := hc 2 (by simp)
  have c3 : w.cell? ⟨g, o + 3, none⟩ = some (.int .u8 b3.toNat) := hc 3 (by simp)
  have c4 : w.cell? ⟨g, o + 4, none⟩ = some (.int .u8 b4.toNat) := hc 4 (by simp)
  have c5 : w.cell? ⟨g, o + 5, none⟩ = some (.int .u8 b5.toNat) := hc 5 (by simp)
  have c6 : w.cell? ⟨g, o + 6, none⟩ = some (.int .u8 b6.toNat) := hc 6 (by simp)
  have c7 : w.cell? ⟨g, o + 7, none⟩ = some (.int .u8 b7.toNat) := hc 7 (by simp)
  have c8 : w.cell? ⟨g, o + 8, none⟩ = some (.int .u8 b8.toNat) := hc 8 (by simp)
  have a0 := and127 b0
  have m0 : b0.toNat % 128 < 128 := by omega
  have a1 := and127 b1
  have m1 : b1.toNat % 128 < 128 := by omega
  have a2 := and127 b2
  have m2 : b2.toNat % 128 < 128 := by omega
  have a3 := and127 b3
  have m3 : b3.toNat % 128 < 128 := by omega
  have a4 := and127 b4
  have m4 : b4.toNat % 128 < 128 := by omega
  have a5 := and127 b5
  have m5 : b5.toNat % 128 < 128 := by omega
  have a6 := and127 b6
  have m6 : b6.toNat % 128 < 128 := by omega
  have a7 := and127 b7
  have m7 : b7.toNat % 128 < 128 := by omega
  rw [hml] at hcap ⊢
  simp only [List.length_cons, List.length_nil] at hml
  clear hc h
  have t0 := b0.toNat_lt
  have t1 := b1.toNat_lt
  have t2 := b2.toNat_lt
  have t3 := b3.toNat_lt
  have t4 := b4.toNat_lt
  have t5 := b5.toNat_lt
  have t6 := b6.toNat_lt
  have t7 := b7.toNat_lt
  have t8 := b8.toNat_lt
  generalize b0.toNat % 128 = y0 at *
  generalize b1.toNat % 128 = y1 at *
  generalize b2.toNat % 128 = y2 at *
  generalize b3.toNat % 128 = y3 at *
  generalize b4.toNat % 128 = y4 at *
  generalize b5.toNat % 128 = y5 at *
  generalize b6.toNat % 128 = y6 at *
  generalize b7.toNat % 128 = y7 at *
  generalize b0.toNat = x0 at *
  generalize b1.toNat = x1 at *
  generalize b2.toNat = x2 at *
  generalize b3.toNat = x3 at *
  generalize b4.toNat = x4 at *
  generalize b5.toNat = x5 at *
  generalize b6.toNat = x6 at *
  generalize b7.toNat = x7 at *
  generalize b8.toNat = x8 at *
  have n0 : (0 : Int) ≤ (m : Int) := by omega
  have n1 : (m : Int) ≤ 2147483647 := by omega
  have k0 : ((m : Int) == 0) = false := by rw [beq_eq_false_iff_ne]; omega
  have n2 : ¬ (10 : Int) ≤ (m : Int) := by omega
  have k1 : ((m : Int) == 1) = false := by rw [beq_eq_false_iff_ne]; omega
  have k2 : ((m : Int) == 2) = false := by rw [beq_eq_false_iff_ne]; omega
  have k3 : ((m : Int) == 3) = false := by rw [beq_eq_false_iff_ne]; omega
  have k4 : ((m : Int) == 4) = false := by rw [beq_eq_false_iff_ne]; omega
  have k5 : ((m : Int) == 5) = false := by rw [beq_eq_false_iff_ne]; omega
  have k6 : ((m : Int) == 6) = false := by rw [beq_eq_false_iff_ne]; omega
  have k7 : ((m : Int) == 7) = false := by rw [beq_eq_false_iff_ne]; omega
  have k8 : ((m : Int) == 8) = false := by rw [beq_eq_false_iff_ne]; omega
  have n3 : (8 : Int) < (m : Int) := by omega
  have i0 : (0 : Int) < (m : Int) := by omega
  have i1 : (1 : Int) < (m : Int) := by omega
  have i2 : (2 : Int) < (m : Int) := by omega
  have i3 : (3 : Int) < (m : Int) := by omega
  have i4 : (4 : Int) < (m : Int) := by omega
  have i5 : (5 : Int) < (m : Int) := by omega
  have i6 : (6 : Int) < (m : Int) := by omega
  have i7 : (7 : Int) < (m : Int) := by omega
  have i8 : (8 : Int) < (m : Int) := by omega
  clear hml
  go_enter Tryz.func81, Tryz.ntmps81
  go_wp2_with fail
  go_ret2
  refine ⟨?_, rfl⟩
  have hV : bits .or .u64 (bits .or .u64 (bits .or .u64 (bits .or .u64 (bits .or .u64 (bits .or .u64 (bits .or .u64 (bits .or .u64 ((y0 : Int)) ((y1 : Int) * 128)) ((y2 : Int) * 16384)) ((y3 : Int) * 2097152)) ((y4 : Int) * 268435456)) ((y5 : Int) * 34359738368)) ((y6 : Int) * 4398046511104)) ((y7 : Int) * 562949953421312)) ((x8 : Int) * 72057594037927936) = ((y0 + y1 * 128 + y2 * 16384 + y3 * 2097152 + y4 * 268435456 + y5 * 34359738368 + y6 * 4398046511104 + y7 * 562949953421312 + x8 * 72057594037927936 : Nat) : Int) := by
    rw [u64_orv7 (y := (y0 : Int)) (x := (y1 : Int) * 128) (by omega) (by omega) (by omega) (by omega) (by omega)]
    rw [u64_orv14 (y := (y0 : Int) + (y1 : Int) * 128) (x := (y2 : Int) * 16384) (by omega) (by omega) (by omega) (by omega) (by omega)]
    rw [u64_orv21 (y := (y0 : Int) + (y1 : Int) * 128 + (y2 : Int) * 16384) (x := (y3 : Int) * 2097152) (by omega) (by omega) (by omega) (by omega) (by omega)]
    rw [u64_orv28 (y := (y0 : Int) + (y1 : Int) * 128 + (y2 : Int) * 16384 + (y3 : Int) * 2097152) (x := (y4 : Int) * 268435456) (by omega) (by omega) (by omega) (by omega) (by omega)]
    rw [u64_orv35 (y := (y0 : Int) + (y1 : Int) * 128 + (y2 : Int) * 16384 + (y3 : Int) * 2097152 + (y4 : Int) * 268435456) (x := (y5 : Int) * 34359738368) (by omega) (by omega) (by omega) (by omega) (by omega)]
    rw [u64_orv42 (y := (y0 : Int) + (y1 : Int) * 128 + (y2 : Int) * 16384 + (y3 : Int) * 2097152 + (y4 : Int) * 268435456 + (y5 : Int) * 34359738368) (x := (y6 : Int) * 4398046511104) (by omega) (by omega) (by omega) (by omega) (by omega)]
    rw [u64_orv49 (y := (y0 : Int) + (y1 : Int) * 128 + (y2 : Int) * 16384 + (y3 : Int) * 2097152 + (y4 : Int) * 268435456 + (y5 : Int) * 34359738368 + (y6 : Int) * 4398046511104) (x := (y7 : Int) * 562949953421312) (by omega) (by omega) (by omega) (by omega) (by omega)]
    rw [u64_orv56 (y := (y0 : Int) + (y1 : Int) * 128 + (y2 : Int) * 16384 + (y3 : Int) * 2097152 + (y4 : Int) * 268435456 + (y5 : Int) * 34359738368 + (y6 : Int) * 4398046511104 + (y7 : Int) * 562949953421312) (x := (x8 : Int) * 72057594037927936) (by omega) (by omega) (by omega) (by omega) (by omega)]
    omega
  show Ending.returned (Value.tuple #[Value.int IntKind.u64 (bits .or .u64 (bits .or .u64 (bits .or .u64 (bits .or .u64 (bits .or .u64 (bits .or .u64 (bits .or .u64 (bits .or .u64 ((y0 : Int)) ((y1 : Int) * 128)) ((y2 : Int) * 16384)) ((y3 : Int) * 2097152)) ((y4 : Int) * 268435456)) ((y5 : Int) * 34359738368)) ((y6 : Int) * 4398046511104)) ((y7 : Int) * 562949953421312)) ((x8 : Int) * 72057594037927936)), Value.int IntKind.i64 9]) = _
  rw [hV, show y0 + y1 * 128 + y2 * 16384 + y3 * 2097152 + y4 * 268435456 + y5 * 34359738368 + y6 * 4398046511104 + y7 * 562949953421312 + x8 * 72057594037927936 = (y0 + 128 * (y1 + 128 * (y2 + 128 * (y3 + 128 * (y4 + 128 * (y5 + 128 * (y6 + 128 * (y7 + 128 * x8)))))))) by omega]
  first | rfl | done

set_option maxRecDepth 100000 in
set_option maxHeartbeats 2000000 in
theorem uvF_0 (v : Value) (m : Nat) (b0 : UInt8) (w : World) (h : Bytes w v ([b0])) (hml : ([b0]).length = m) (hl : m ≤ 2147483647) (h0 : ¬ b0.toNat < 128) :
    Calls Tryz.prog 81 #[v] w fun e w' => (∃ n : Int, e = .returned (.tuple #[.int .u64 0, .int .i64 n]) ∧ n ≤ 0) ∧ w = w' := by
  obtain ⟨ao, cap, rfl, hcap, hmax⟩ := h.form
  obtain ⟨g, o, rfl, hb, hc⟩ := h.at_ (by simp)
  have c0 : w.cell? ⟨g, o, none⟩ = some (.int .u8 b0.toNat) := hc 0 (by simp)
  have a0 := and127 b0
  have m0 : b0.toNat % 128 < 128 := by omega
  rw [hml] at hcap ⊢
  simp only [List.length_cons, List.length_nil] at hml
  subst hml
  clear hc h
  have t0 := b0.toNat_lt
  generalize b0.toNat % 128 = y0 at *
  generalize b0.toNat = x0 at *
  go_enter Tryz.func81, Tryz.ntmps81
  go_wp2_with fail
  go_ret2
  exact ⟨⟨_, rfl, by decide⟩, rfl⟩

set_option maxRecDepth 100000 in
set_option maxHeartbeats 2000000 in
theorem uvF_1 (v : Value) (m : Nat) (b0 b1 : UInt8) (w : World) (h : Bytes w v ([b0, b1])) (hml : ([b0, b1]).length = m) (hl : m ≤ 2147483647) (h0 : ¬ b0.toNat < 128) (h1 : ¬ b1.toNat < 128) :
    Calls Tryz.prog 81 #[v] w fun e w' => (∃ n : Int, e = .returned (.tuple #[.int .u64 0, .int .i64 n]) ∧ n ≤ 0) ∧ w = w' := by
  obtain ⟨ao, cap, rfl, hcap, hmax⟩ := h.form
  obtain ⟨g, o, rfl, hb, hc⟩ := h.at_ (by simp)
  have c0 : w.cell? ⟨g, o, none⟩ = some (.int .u8 b0.toNat) := hc 0 (by simp)
  have c1 : w.cell? ⟨g, o + 1, none⟩ = some (.int .u8 b1.toNat) := hc 1 (by simp)
  have a0 := and127 b0
  have m0 : b0.toNat % 128 < 128 := by omega
  have a1 := and127 b1
  have m1 : b1.toNat % 128 < 128 := by omega
  rw [hml] at hcap ⊢
  simp only [List.length_cons, List.length_nil] at hml
  subst hml
  clear hc h
  have t0 := b0.toNat_lt
  have t1 := b1.toNat_lt
  generalize b0.toNat % 128 = y0 at *
  generalize b1.toNat % 128 = y1 at *
  generalize b0.toNat = x0 at *
  generalize b1.toNat = x1 at *
  go_enter Tryz.func81, Tryz.ntmps81
  go_wp2_with fail
  go_ret2
  exact ⟨⟨_, rfl, by decide⟩, rfl⟩

set_option maxRecDepth 100000 in
set_option maxHeartbeats 2000000 in
theorem uvF_2 (v : Value) (m : Nat) (b0 b1 b2 : UInt8) (w : World) (h : Bytes w v ([b0, b1, b2])) (hml : ([b0, b1, b2]).length = m) (hl : m ≤ 2147483647) (h0 : ¬ b0.toNat < 128) (h1 : ¬ b1.toNat < 128) (h2 : ¬ b2.toNat < 128) :
    Calls Tryz.prog 81 #[v] w fun e w' => (∃ n : Int, e = .returned (.tuple #[.int .u64 0, .int .i64 n]) ∧ n ≤ 0) ∧ w = w' := by
  obtain ⟨ao, cap, rfl, hcap, hmax⟩ := h.form
  obtain ⟨g, o, rfl, hb, hc⟩ := h.at_ (by simp)
  have c0 : w.cell? ⟨g, o, none⟩ = some (.int .u8 b0.toNat) := hc 0 (by simp)
  have c1 : w.cell? ⟨g, o + 1, none⟩ = some (.int .u8 b1.toNat) := hc 1 (by simp)
  have c2 : w.cell? ⟨g, o + 2, none⟩ = some (.int .u8 b2.toNat) := hc 2 (by simp)
  have a0 := and127 b0
  have m0 : b0.toNat % 128 < 128 := by omega
  have a1 := and127 b1
  have m1 : b1.toNat % 128 < 128 := by omega
  have a2 := and127 b2
  have m2 : b2.toNat % 128 < 128 := by omega
  rw [hml] at hcap ⊢
  simp only [List.length_cons, List.length_nil] at hml
  subst hml
  clear hc h
  have t0 := b0.toNat_lt
  have t1 := b1.toNat_lt
  have t2 := b2.toNat_lt
  generalize b0.toNat % 128 = y0 at *
  generalize b1.toNat % 128 = y1 at *
  generalize b2.toNat % 128 = y2 at *
  generalize b0.toNat = x0 at *
  generalize b1.toNat = x1 at *
  generalize b2.toNat = x2 at *
  go_enter Tryz.func81, Tryz.ntmps81
  go_wp2_with fail
  go_ret2
  exact ⟨⟨_, rfl, by decide⟩, rfl⟩

set_option maxRecDepth 100000 in
set_option maxHeartbeats 2000000 in
theorem uvF_3 (v : Value) (m : Nat) (b0 b1 b2 b3 : UInt8) (w : World) (h : Bytes w v ([b0, b1, b2, b3])) (hml : ([b0, b1, b2, b3]).length = m) (hl : m ≤ 2147483647) (h0 : ¬ b0.toNat < 128) (h1 : ¬ b1.toNat < 128) (h2 : ¬ b2.toNat < 128) (h3 : ¬ b3.toNat < 128) :
    Calls Tryz.prog 81 #[v] w fun e w' => (∃ n : Int, e = .returned (.tuple #[.int .u64 0, .int .i64 n]) ∧ n ≤ 0) ∧ w = w' := by
  obtain ⟨ao, cap, rfl, hcap, hmax⟩ := h.form
  obtain ⟨g, o, rfl, hb, hc⟩ := h.at_ (by simp)
  have c0 : w.cell? ⟨g, o, none⟩ = some (.int .u8 b0.toNat) := hc 0 (by simp)
  have c1 : w.cell? ⟨g, o + 1, none⟩ = some (.int .u8 b1.toNat) := hc 1 (by simp)
  have c2 : w.cell? ⟨g, o + 2, none⟩ = some (.int .u8 b2.toNat) := hc 2 (by simp)
  have c3 : w.cell? ⟨g, o + 3, none⟩ = some (.int .u8 b3.toNat) := hc 3 (by simp)
  have a0 := and127 b0
  have m0 : b0.toNat % 128 < 128 := by omega
  have a1 := and127 b1
  have m1 : b1.toNat % 128 < 128 := by omega
  have a2 := and127 b2
  have m2 : b2.toNat % 128 < 128 := by omega
  have a3 := and127 b3
  have m3 : b3.toNat % 128 < 128 := by omega
  rw [hml] at hcap ⊢
  simp only [List.length_cons, List.length_nil] at hml
  subst hml
  clear hc h
  have t0 := b0.toNat_lt
  have t1 := b1.toNat_lt
  have t2 := b2.toNat_lt
  have t3 := b3.toNat_lt
  generalize b0.toNat % 128 = y0 at *
  generalize b1.toNat % 128 = y1 at *
  generalize b2.toNat % 128 = y2 at *
  generalize b3.toNat % 128 = y3 at *
  generalize b0.toNat = x0 at *
  generalize b1.toNat = x1 at *
  generalize b2.toNat = x2 at *
  generalize b3.toNat = x3 at *
  go_enter Tryz.func81, Tryz.ntmps81
  go_wp2_with fail
  go_ret2
  exact ⟨⟨_, rfl, by decide⟩, rfl⟩

set_option maxRecDepth 100000 in
set_option maxHeartbeats 2000000 in
theorem uvF_4 (v : Value) (m : Nat) (b0 b1 b2 b3 b4 : UInt8) (w : World) (h : Bytes w v ([b0, b1, b2, b3, b4])) (hml : ([b0, b1, b2, b3, b4]).length = m) (hl : m ≤ 2147483647) (h0 : ¬ b0.toNat < 128) (h1 : ¬ b1.toNat < 128) (h2 : ¬ b2.toNat < 128) (h3 : ¬ b3.toNat < 128) (h4 : ¬ b4.toNat < 128) :
    Calls Tryz.prog 81 #[v] w fun e w' => (∃ n : Int, e = .returned (.tuple #[.int .u64 0, .int .i64 n]) ∧ n ≤ 0) ∧ w = w' := by
  obtain ⟨ao, cap, rfl, hcap, hmax⟩ := h.form
  obtain ⟨g, o, rfl, hb, hc⟩ := h.at_ (by simp)
  have c0 : w.cell? ⟨g, o, none⟩ = some (.int .u8 b0.toNat) := hc 0 (by simp)
  have c1 : w.cell? ⟨g, o + 1, none⟩ = some (.int .u8 b1.toNat) := hc 1 (by simp)
  have c2 : w.cell? ⟨g, o + 2, none⟩ = some (.int .u8 b2.toNat) := hc 2 (by simp)
  have c3 : w.cell? ⟨g, o + 3, none⟩ = some (.int .u8 b3.toNat) := hc 3 (by simp)
  have c4 : w.cell? ⟨g, o + 4, none⟩ = some (.int .u8 b4.toNat) := hc 4 (by simp)
  have a0 := and127 b0
  have m0 : b0.toNat % 128 < 128 := by omega
  have a1 := and127 b1
  have m1 : b1.toNat % 128 < 128 := by omega
  have a2 := and127 b2
  have m2 : b2.toNat % 128 < 128 := by omega
  have a3 := and127 b3
  have m3 : b3.toNat % 128 < 128 := by omega
  have a4 := and127 b4
  have m4 : b4.toNat % 128 < 128 := by omega
  rw [hml] at hcap ⊢
  simp only [List.length_cons, List.length_nil] at hml
  subst hml
  clear hc h
  have t0 := b0.toNat_lt
  have t1 := b1.toNat_lt
  have t2 := b2.toNat_lt
  have t3 := b3.toNat_lt
  have t4 := b4.toNat_lt
  generalize b0.toNat % 128 = y0 at *
  generalize b1.toNat % 128 = y1 at *
  generalize b2.toNat % 128 = y2 at *
  generalize b3.toNat % 128 = y3 at *
  generalize b4.toNat % 128 = y4 at *
  generalize b0.toNat = x0 at *
  generalize b1.toNat = x1 at *
  generalize b2.toNat = x2 at *
  generalize b3.toNat = x3 at *
  generalize b4.toNat = x4 at *
  go_enter Tryz.func81, Tryz.ntmps81
  go_wp2_with fail
  go_ret2
  exact ⟨⟨_, rfl, by decide⟩, rfl⟩

set_option maxRecDepth 100000 in
set_option maxHeartbeats 2000000 in
theorem uvF_5 (v : Value) (m : Nat) (b0 b1 b2 b3 b4 b5 : UInt8) (w : World) (h : Bytes w v ([b0, b1, b2, b3, b4, b5])) (hml : ([b0, b1, b2, b3, b4, b5]).length = m) (hl : m ≤ 2147483647) (h0 : ¬ b0.toNat < 128) (h1 : ¬ b1.toNat < 128) (h2 : ¬ b2.toNat < 128) (h3 : ¬ b3.toNat < 128) (h4 : ¬ b4.toNat < 128) (h5 : ¬ b5.toNat < 128) :
    Calls Tryz.prog 81 #[v] w fun e w' => (∃ n : Int, e = .returned (.tuple #[.int .u64 0, .int .i64 n]) ∧ n ≤ 0) ∧ w = w' := by
  obtain ⟨ao, cap, rfl, hcap, hmax⟩ := h.form
  obtain ⟨g, o, rfl, hb, hc⟩ := h.at_ (by simp)
  have c0 : w.cell? ⟨g, o, none⟩ = some (.int .u8 b0.toNat) := hc 0 (by simp)
  have c1 : w.cell? ⟨g, o + 1, none⟩ = some (.int .u8 b1.toNat) := hc 1 (by simp)
  have c2 : w.cell? ⟨g, o + 2, none⟩ = some (.int .u8 b2.toNat) := hc 2 (by simp)
  have c3 : w.cell? ⟨g, o + 3, none⟩ = some (.int .u8 b3.toNat) := hc 3 (by simp)
  have c4 : w.cell? ⟨g, o + 4, none⟩ = some (.int .u8 b4.toNat) := hc 4 (by simp)
  have c5 : w.cell? ⟨g, o + 5, none⟩ = some (.int .u8 b5.toNat) := hc 5 (by simp)
  have a0 := and127 b0
  have m0 : b0.toNat % 128 < 128 := by omega
  have a1 := and127 b1
  have m1 : b1.toNat % 128 < 128 := by omega
  have a2 := and127 b2
  have m2 : b2.toNat % 128 < 128 := by omega
  have a3 := and127 b3
  have m3 : b3.toNat % 128 < 128 := by omega
  have a4 := and127 b4
  have m4 : b4.toNat % 128 < 128 := by omega
  have a5 := and127 b5
  have m5 : b5.toNat % 128 < 128 := by omega
  rw [hml] at hcap ⊢
  simp only [List.length_cons, List.length_nil] at hml
  subst hml
  clear hc h
  have t0 := b0.toNat_lt
  have t1 := b1.toNat_lt
  have t2 := b2.toNat_lt
  have t3 := b3.toNat_lt
  have t4 := b4.toNat_lt
  have t5 := b5.toNat_lt
  generalize b0.toNat % 128 = y0 at *
  generalize b1.toNat % 128 = y1 at *
  generalize b2.toNat % 128 = y2 at *
  generalize b3.toNat % 128 = y3 at *
  generalize b4.toNat % 128 = y4 at *
  generalize b5.toNat % 128 = y5 at *
  generalize b0.toNat = x0 at *
  generalize b1.toNat = x1 at *
  generalize b2.toNat = x2 at *
  generalize b3.toNat = x3 at *
  generalize b4.toNat = x4 at *
  generalize b5.toNat = x5 at *
  go_enter Tryz.func81, Tryz.ntmps81
  go_wp2_with fail
  go_ret2
  exact ⟨⟨_, rfl, by decide⟩, rfl⟩

set_option maxRecDepth 100000 in
set_option maxHeartbeats 2000000 in
theorem uvF_6 (v : Value) (m : Nat) (b0 b1 b2 b3 b4 b5 b6 : UInt8) (w : World) (h : Bytes w v ([b0, b1, b2, b3, b4, b5, b6])) (hml : ([b0, b1, b2, b3, b4, b5, b6]).length = m) (hl : m ≤ 2147483647) (h0 : ¬ b0.toNat < 128) (h1 : ¬ b1.toNat < 128) (h2 : ¬ b2.toNat < 128) (h3 : ¬ b3.toNat < 128) (h4 : ¬ b4.toNat < 128) (h5 : ¬ b5.toNat < 128) (h6 : ¬ b6.toNat < 128) :
    Calls Tryz.prog 81 #[v] w fun e w' => (∃ n : Int, e = .returned (.tuple #[.int .u64 0, .int .i64 n]) ∧ n ≤ 0) ∧ w = w' := by
  obtain ⟨ao, cap, rfl, hcap, hmax⟩ := h.form
  obtain ⟨g, o, rfl, hb, hc⟩ := h.at_ (by simp)
  have c0 : w.cell? ⟨g, o, none⟩ = some (.int .u8 b0.toNat) := hc 0 (by simp)
  have c1 : w.cell? ⟨g, o + 1, none⟩ = some (.int .u8 b1.toNat) := hc 1 (by simp)
  have c2 : w.cell? ⟨g, o + 2, none⟩ = some (.int .u8 b2.toNat) := hc 2 (by simp)
  have c3 : w.cell? ⟨g, o + 3, none⟩ = some (.int .u8 b3.toNat) := hc 3 (by simp)
  have c4 : w.cell? ⟨g, o + 4, none⟩ = some (.int .u8 b4.toNat) := hc 4 (by simp)
  have c5 : w.cell? ⟨g, o + 5, none⟩ = some (.int .u8 b5.toNat) := hc 5 (by simp)
  have c6 : w.cell? ⟨g, o + 6, none⟩ = some (.int .u8 b6.toNat) := hc 6 (by simp)
  have a0 := and127 b0
  have m0 : b0.toNat % 128 < 128 := by omega
  have a1 := and127 b1
  have m1 : b1.toNat % 128 < 128 := by omega
  have a2 := and127 b2
  have m2 : b2.toNat % 128 < 128 := by omega
  have a3 := and127 b3
  have m3 : b3.toNat % 128 < 128 := by omega
  have a4 := and127 b4
  have m4 : b4.toNat % 128 < 128 := by omega
  have a5 := and127 b5
  have m5 : b5.toNat % 128 < 128 := by omega
  have a6 := and127 b6
  have m6 : b6.toNat % 128 < 128 := by omega
  rw [hml] at hcap ⊢
  simp only [List.length_cons, List.length_nil] at hml
  subst hml
  clear hc h
  have t0 := b0.toNat_lt
  have t1 := b1.toNat_lt
  have t2 := b2.toNat_lt
  have t3 := b3.toNat_lt
  have t4 := b4.toNat_lt
  have t5 := b5.toNat_lt
  have t6 := b6.toNat_lt
  generalize b0.toNat % 128 = y0 at *
  generalize b1.toNat % 128 = y1 at *
  generalize b2.toNat % 128 = y2 at *
  generalize b3.toNat % 128 = y3 at *
  generalize b4.toNat % 128 = y4 at *
  generalize b5.toNat % 128 = y5 at *
  generalize b6.toNat % 128 = y6 at *
  generalize b0.toNat = x0 at *
  generalize b1.toNat = x1 at *
  generalize b2.toNat = x2 at *
  generalize b3.toNat = x3 at *
  generalize b4.toNat = x4 at *
  generalize b5.toNat = x5 at *
  generalize b6.toNat = x6 at *
  go_enter Tryz.func81, Tryz.ntmps81
  go_wp2_with fail
  go_ret2
  exact ⟨⟨_, rfl, by decide⟩, rfl⟩

set_option maxRecDepth 100000 in
set_option maxHeartbeats 2000000 in
theorem uvF_7 (v : Value) (m : Nat) (b0 b1 b2 b3 b4 b5 b6 b7 : UInt8) (w : World) (h : Bytes w v ([b0, b1, b2, b3, b4, b5, b6, b7])) (hml : ([b0, b1, b2, b3, b4, b5, b6, b7]).length = m) (hl : m ≤ 2147483647) (h0 : ¬ b0.toNat < 128) (h1 : ¬ b1.toNat < 128) (h2 : ¬ b2.toNat < 128) (h3 : ¬ b3.toNat < 128) (h4 : ¬ b4.toNat < 128) (h5 : ¬ b5.toNat < 128) (h6 : ¬ b6.toNat < 128) (h7 : ¬ b7.toNat < 128) :
    Calls Tryz.prog 81 #[v] w fun e w' => (∃ n : Int, e = .returned (.tuple #[.int .u64 0, .int .i64 n]) ∧ n ≤ 0) ∧ w = w' := by
  obtain ⟨ao, cap, rfl, hcap, hmax⟩ := h.form
  obtain ⟨g, o, rfl, hb, hc⟩ := h.at_ (by simp)
  have c0 : w.cell? ⟨g, o, none⟩ = some (.int .u8 b0.toNat) := hc 0 (by simp)
  have c1 : w.cell? ⟨g, o + 1, none⟩ = some (.int .u8 b1.toNat) := hc 1 (by simp)
  have c2 : w.cell? ⟨g, o + 2, none⟩ = some (.int .u8 b2.toNat) := hc 2 (by simp)
  have c3 : w.cell? ⟨g, o + 3, none⟩ = some (.int .u8 b3.toNat) := hc 3 (by simp)
  have c4 : w.cell? ⟨g, o + 4, none⟩ = some (.int .u8 b4.toNat) := hc 4 (by simp)
  have c5 : w.cell? ⟨g, o + 5, none⟩ = some (.int .u8 b5.toNat) := hc 5 (by simp)
  have c6 : w.cell? ⟨g, o + 6, none⟩ = some (.int .u8 b6.toNat) := hc 6 (by simp)
  have c7 : w.cell? ⟨g, o + 7, none⟩ = some (.int .u8 b7.toNat) := hc 7 (by simp)
  have a0 := and127 b0
  have m0 : b0.toNat % 128 < 128 := by omega
  have a1 := and127 b1
  have m1 : b1.toNat % 128 < 128 := by omega
  have a2 := and127 b2
  have m2 : b2.toNat % 128 < 128 := by omega
  have a3 := and127 b3
  have m3 : b3.toNat % 128 < 128 := by omega
  have a4 := and127 b4
  have m4 : b4.toNat % 128 < 128 := by omega
  have a5 := and127 b5
  have m5 : b5.toNat % 128 < 128 := by omega
  have a6 := and127 b6
  have m6 : b6.toNat % 128 < 128 := by omega
  have a7 := and127 b7
  have m7 : b7.toNat % 128 < 128 := by omega
  rw [hml] at hcap ⊢
  simp only [List.length_cons, List.length_nil] at hml
  subst hml
  clear hc h
  have t0 := b0.toNat_lt
  have t1 := b1.toNat_lt
  have t2 := b2.toNat_lt
  have t3 := b3.toNat_lt
  have t4 := b4.toNat_lt
  have t5 := b5.toNat_lt
  have t6 := b6.toNat_lt
  have t7 := b7.toNat_lt
  generalize b0.toNat % 128 = y0 at *
  generalize b1.toNat % 128 = y1 at *
  generalize b2.toNat % 128 = y2 at *
  generalize b3.toNat % 128 = y3 at *
  generalize b4.toNat % 128 = y4 at *
  generalize b5.toNat % 128 = y5 at *
  generalize b6.toNat % 128 = y6 at *
  generalize b7.toNat % 128 = y7 at *
  generalize b0.toNat = x0 at *
  generalize b1.toNat = x1 at *
  generalize b2.toNat = x2 at *
  generalize b3.toNat = x3 at *
  generalize b4.toNat = x4 at *
  generalize b5.toNat = x5 at *
  generalize b6.toNat = x6 at *
  generalize b7.toNat = x7 at *
  go_enter Tryz.func81, Tryz.ntmps81
  go_wp2_with fail
  go_ret2
  exact ⟨⟨_, rfl, by decide⟩, rfl⟩

set_option maxRecDepth 100000 in
set_option maxHeartbeats 2000000 in
theorem uvF_8 (v : Value) (m : Nat) (b0 b1 b2 b3 b4 b5 b6 b7 b8 : UInt8) (w : World) (h : Bytes w v ([b0, b1, b2, b3, b4, b5, b6, b7, b8])) (hml : ([b0, b1, b2, b3, b4, b5, b6, b7, b8]).length = m) (hl : m ≤ 2147483647) (h0 : ¬ b0.toNat < 128) (h1 : ¬ b1.toNat < 128) (h2 : ¬ b2.toNat < 128) (h3 : ¬ b3.toNat < 128) (h4 : ¬ b4.toNat < 128) (h5 : ¬ b5.toNat < 128) (h6 : ¬ b6.toNat < 128) (h7 : ¬ b7.toNat < 128) (h8 : ¬ b8.toNat < 128) :
    Calls Tryz.prog 81 #[v] w fun e w' => (∃ n : Int, e = .returned (.tuple #[.int .u64 0, .int .i64 n]) ∧ n ≤ 0) ∧ w = w' := by
  obtain ⟨ao, cap, rfl, hcap, hmax⟩ := h.form
  obtain ⟨g, o, rfl, hb, hc⟩ := h.at_ (by simp)
  have c0 : w.cell? ⟨g, o, none⟩ = some (.int .u8 b0.toNat) := hc 0 (by simp)
  have c1 : w.cell? ⟨g, o + 1, none⟩ = some (.int .u8 b1.toNat) := hc 1 (by simp)
  have c2 : w.cell? ⟨g, o + 2, none⟩ = some (.int .u8 b2.toNat) := hc 2 (by simp)
  have c3 : w.cell? ⟨g, o + 3, none⟩ = some (.int .u8 b3.toNat) := hc 3 (by simp)
  have c4 : w.cell? ⟨g, o + 4, none⟩ = some (.int .u8 b4.toNat) := hc 4 (by simp)
  have c5 : w.cell? ⟨g, o + 5, none⟩ = some (.int .u8 b5.toNat) := hc 5 (by simp)
  have c6 : w.cell? ⟨g, o + 6, none⟩ = some (.int .u8 b6.toNat) := hc 6 (by simp)
  have c7 : w.cell? ⟨g, o + 7, none⟩ = some (.int .u8 b7.toNat) := hc 7 (by simp)
  have c8 : w.cell? ⟨g, o + 8, none⟩ = some (.int .u8 b8.toNat) := hc 8 (by simp)
  have a0 := and127 b0
  have m0 : b0.toNat % 128 < 128 := by omega
  have a1 := and127 b1
  have m1 : b1.toNat % 128 < 128 := by omega
  have a2 := and127 b2
  have m2 : b2.toNat % 128 < 128 := by omega
  have a3 := and127 b3
  have m3 : b3.toNat % 128 < 128 := by omega
  have a4 := and127 b4
  have m4 : b4.toNat % 128 < 128 := by omega
  have a5 := and127 b5
  have m5 : b5.toNat % 128 < 128 := by omega
  have a6 := and127 b6
  have m6 : b6.toNat % 128 < 128 := by omega
  have a7 := and127 b7
  have m7 : b7.toNat % 128 < 128 := by omega
  have a8 := and127 b8
  have m8 : b8.toNat % 128 < 128 := by omega
  rw [hml] at hcap ⊢
  simp only [List.length_cons, List.length_nil] at hml
  subst hml
  clear hc h
  have t0 := b0.toNat_lt
  have t1 := b1.toNat_lt
  have t2 := b2.toNat_lt
  have t3 := b3.toNat_lt
  have t4 := b4.toNat_lt
  have t5 := b5.toNat_lt
  have t6 := b6.toNat_lt
  have t7 := b7.toNat_lt
  have t8 := b8.toNat_lt
  generalize b0.toNat % 128 = y0 at *
  generalize b1.toNat % 128 = y1 at *
  generalize b2.toNat % 128 = y2 at *
  generalize b3.toNat % 128 = y3 at *
  generalize b4.toNat % 128 = y4 at *
  generalize b5.toNat % 128 = y5 at *
  generalize b6.toNat % 128 = y6 at *
  generalize b7.toNat % 128 = y7 at *
  generalize b8.toNat % 128 = y8 at *
  generalize b0.toNat = x0 at *
  generalize b1.toNat = x1 at *
  generalize b2.toNat = x2 at *
  generalize b3.toNat = x3 at *
  generalize b4.toNat = x4 at *
  generalize b5.toNat = x5 at *
  generalize b6.toNat = x6 at *
  generalize b7.toNat = x7 at *
  generalize b8.toNat = x8 at *
  go_enter Tryz.func81, Tryz.ntmps81
  go_wp2_with fail
  go_ret2
  exact ⟨⟨_, rfl, by decide⟩, rfl⟩

end Go.Proofs.YtkbkggamfkadnaaGreatDoor
