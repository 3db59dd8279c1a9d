/-
  The reference: numbers are put in groups of seven bits, and with the highest byte first.
-/
import Derived.Test.YtkbkggamfkadnaaGreatDoorEzA
import Derived.Test.YtkbkggamfkadnaaGreatDoorDy4
import Derived.Laws.BitsAllLaws
namespace Go.Proofs.YtkbkggamfkadnaaGreatDoor
set_option linter.unusedSimpArgs false
set_option linter.unusedVariables false
open Go.RowKit

/-- blocks that hold no bytes are kept -/
def KeepT (w w' : World) : Prop := ∀ (k : Nat) (cs : Array Value) (t : TypeId) (fr : Nat × Nat), w.heap[k]? = some (Obj.cells cs t fr) → t ≠ 5 → w'.heap[k]? = some (Obj.cells cs t fr)
theorem KeepT.refl (w : World) : KeepT w w := fun _ _ _ _ h _ => h
theorem KeepT.trans {a b c : World} (h : KeepT a b) (k : KeepT b c) : KeepT a c := fun _ _ _ _ h1 h2 => k _ _ _ _ (h _ _ _ _ h1 h2) h2
theorem KeepT.alloc {a b : World} (h : KeepT a b) (o : Obj) : KeepT a (b.alloc o) := fun _ _ _ _ h1 h2 => block_alloc (h _ _ _ _ h1 h2) o
theorem KeepT.grown {a b c : World} {base size n : Nat} {v : Value} {xs : List Value} (h : KeepT a b) (ho : b.ownsRow base 5 size v n xs) (hg : b.grownBy c v.ownBlock) : KeepT a c := fun _ _ _ _ h1 h2 => grown_keep ho hg (h _ _ _ _ h1 h2) h2
theorem KeepT.blk {a b : World} (h : KeepT a b) {g : Nat} {cs : List Value} {t : TypeId} (hb : Blk a g cs t) (ht : t ≠ 5) : Blk b g cs t := h _ _ _ _ hb ht

theorem xor_all64 (y : Nat) (h : y < 18446744073709551616) : bits .xor .u64 (y : Int) 18446744073709551615 = 18446744073709551615 - (y : Int) := by
  have := u64_xor_nat y 18446744073709551615 (by omega) (by omega)
  rw [show (((18446744073709551615 : Nat)) : Int) = 18446744073709551615 from rfl] at this
  rw [this]
  have e : y ^^^ 18446744073709551615 = 18446744073709551615 - y := by
    have h1 := BitVec.toNat_xor (BitVec.ofNat 64 y) (BitVec.allOnes 64)
    rw [BitVec.xor_allOnes, BitVec.toNat_not, BitVec.toNat_ofNat, BitVec.toNat_allOnes, Nat.mod_eq_of_lt (by omega)] at h1
    have : (2 : Nat) ^ 64 - 1 = 18446744073709551615 := by decide
    rw [this] at h1
    exact h1.symm
  rw [e]
  omega
theorem zig_small (n : Nat) (h : n < 9223372036854775808) : ((Lib.zigzag (IntKind.i64.wrap (n : Int)) : Nat) : Int) = (n : Int) * 2 := by
  have e : IntKind.i64.wrap (n : Int) = n := by simp [IntKind.wrap, IntKind.bits, IntKind.signed]; omega
  rw [e]
  unfold Lib.zigzag
  rw [if_pos (by omega)]
  omega
theorem zig_big (n : Nat) (h : ¬ n < 9223372036854775808) (hn : n < 18446744073709551616) : ((Lib.zigzag (IntKind.i64.wrap (n : Int)) : Nat) : Int) = bits .xor .u64 (IntKind.u64.wrap ((n : Int) * 2)) 18446744073709551615 := by
  have e : IntKind.i64.wrap (n : Int) = (n : Int) - 18446744073709551616 := by simp [IntKind.wrap, IntKind.bits, IntKind.signed]; omega
  have e2 : IntKind.u64.wrap ((n : Int) * 2) = ((n * 2 - 18446744073709551616 : Nat) : Int) := by rw [IntKind.wrap_u64]; omega
  rw [e, e2, xor_all64 _ (by omega)]
  unfold Lib.zigzag
  rw [if_neg (by omega)]
  omega
set_option maxRecDepth 100000 in
set_option maxHeartbeats 2000000 in
theorem zig_any (n : Nat) (hn : n < 18446744073709551616) (w : World) :
    Calls Tryz.prog 44 #[.int .u64 n] w fun e w' => e = .returned (.int .u64 (Lib.zigzag (IntKind.i64.wrap (n : Int)) : Nat)) ∧ w = w' := by
  have n0 : (0 : Int) ≤ (n : Int) := by omega
  have n1 : (n : Int) ≤ 18446744073709551615 := by omega
  by_cases h : n < 9223372036854775808
  · have HZ := Lib.hid (zig_small n h)
    have hq : ((n : Int) / 9223372036854775808 == 1) = false := by simp; omega
    go_enter Tryz.func44, Tryz.ntmps44
    go_wp2_with fail
    go_ret
    exact ⟨by rw [HZ.out]; rfl, rfl⟩
  · have HZ := Lib.hid (zig_big n h hn)
    have hq : ((n : Int) / 9223372036854775808 == 1) = true := by simp; omega
    go_enter Tryz.func44, Tryz.ntmps44
    go_wp2_with fail
    go_ret
    exact ⟨by rw [HZ.out]; rfl, rfl⟩
/-- what is behind a put of the reference -/
def SpPut (base : Nat) (bs : List UInt8) (w : World) (e : Ending) (w' : World) : Prop := ∃ v', e = .returned v' ∧ w'.ownsRow base 5 1 v' bs.length (Lib.byteCells bs) ∧ Chg (fun q => base ≤ q) w w' ∧ KeepT w w'
set_option maxRecDepth 100000 in
set_option maxHeartbeats 2000000 in
theorem putVar_any (base n : Nat) (v : Value) (bs : List UInt8) (w : World) (h : w.ownsRow base 5 1 v bs.length (Lib.byteCells bs)) (hl : bs.length ≤ 1000000) (hn : n < 18446744073709551616) (hbase : base ≤ w.heap.size) :
    Calls Tryz.prog 43 #[v, .int .u64 n] w (SpPut base (bs ++ Lib.uvarint n) w) := by
  obtain ⟨i0, hi, hz0, hz1, hz2⟩ := info_parts infoU8
  have hul := Lib.uvarint_length64 hn
  obtain ⟨va, vc, rfl⟩ := own_form h
  go_enter Tryz.func43, Tryz.ntmps43
  go_wp2_with fail
  go_loopw [0, 1] (fun bv nv wr => ∃ (m : Nat) (bs' : List UInt8), nv = .int .u64 m ∧ m < 18446744073709551616 ∧ wr.ownsRow base 5 1 bv bs'.length (Lib.byteCells bs') ∧ Hid (bs' ++ Lib.uvarint m = bs ++ Lib.uvarint n) ∧ Chg (fun q => base ≤ q) w wr ∧ KeepT w wr) (fun _ nv _ => (intOf nv).toNat)
  case atStart => exact ⟨n, bs, rfl, hn, h, Lib.hid rfl, Chg.refl _ _, KeepT.refl _⟩
  case round =>
    obtain ⟨m, bs', rfl, hm, ho, hE, hc, hk⟩ := hrel
    have hlen := congrArg List.length hE.out
    rw [List.length_append, List.length_append] at hlen
    have hpos := Lib.uvarint_pos m
    have hz := hc.size
    obtain ⟨a1, c1, rfl⟩ := own_form ho
    have m0 : (0 : Int) ≤ (m : Int) := by omega
    have m1 : (m : Int) ≤ 18446744073709551615 := by omega
    have hbl : bs'.length < 2147483648 := by omega
    clear hlen hpos
    by_cases hbig : 128 ≤ m
    · have m2 : (128 : Int) ≤ (m : Int) := by omega
      have hy := small_u8 (n := m % 128 + 128) (by omega)
      have hEq := Lib.hid (show (bs' ++ [(m % 128 + 128).toUInt8]) ++ Lib.uvarint (m / 128) = bs ++ Lib.uvarint n by rw [← hE.out, Lib.uvarint_big hbig]; simp)
      have hOr : bits .or .u8 ((m : Int) % 256) 128 = ((m % 128 + 128 : Nat) : Int) := by rw [Lib.u8_or128_any _ (by omega) (by omega)]; omega
      rw [← hy] at hOr
      clear hy
      generalize (m % 128 + 128).toUInt8 = y at *
      have hO1 := own_alloc ho (.cells #[.int .u8 y.toNat] 5)
      have hk1 := hk.alloc (.cells #[.int .u8 y.toNat] 5)
      have hc1 := hc.alloc (.cells #[.int .u8 y.toNat] 5)
      go_wp2_with (first
        | (at_builtin; refine list_app 22 5 i0 _ 1 1 rfl (.tmp 7) (.tmp 11) rfl rfl Tryz.underlying22 hi hz0 hz1 hz2 rfl (by decide) (by decide) base (.slice a1 bs'.length c1) bs'.length (Lib.byteCells bs') rfl hO1 wr.heap.size rfl [.int .u8 y.toNat] rfl (heap_alloc_new wr _) (one1 _ _) hbl (by simp; omega) ?_; intro v1 w1 ho1 hg1; obtain ⟨a2, c2, rfl⟩ := own_form ho1)
        | fail)
      have hk2 := hk1.grown hO1 hg1
      have hc2 := hc1.grown hg1 (fun q hq => (hO1.lt q hq).1)
      go_roundw
      case rel => exact ⟨m / 128, bs' ++ [y], by rw [show (m : Int) / 128 = ((m / 128 : Nat) : Int) by omega], by omega, by rw [List.length_append, bytes_app]; exact ho1, hEq, hc2, hk2⟩
      case measure => simp [intOf]; omega
    · have m2 : ¬ (128 : Int) ≤ (m : Int) := by omega
      have hy := small_u8 (n := m) (by omega)
      have hEq := Lib.hid (show bs' ++ [m.toUInt8] = bs ++ Lib.uvarint n by rw [← hE.out, Lib.uvarint_small (by omega)])
      have HY := Lib.hid hy
      clear hy
      generalize m.toUInt8 = y at *
      have hO1 := own_alloc ho (.cells #[.int .u8 m] 5)
      have hk1 := hk.alloc (.cells #[.int .u8 m] 5)
      have hc1 := hc.alloc (.cells #[.int .u8 m] 5)
      go_wp2_with (first
        | (at_builtin; refine list_app 22 5 i0 _ 1 1 rfl (.tmp 15) (.tmp 18) rfl rfl Tryz.underlying22 hi hz0 hz1 hz2 rfl (by decide) (by decide) base (.slice a1 bs'.length c1) bs'.length (Lib.byteCells bs') rfl hO1 wr.heap.size rfl [.int .u8 m] rfl (heap_alloc_new wr _) (one1 _ _) hbl (by simp; omega) ?_; intro v1 w1 ho1 hg1; obtain ⟨a2, c2, rfl⟩ := own_form ho1)
        | fail)
      have hk2 := hk1.grown hO1 hg1
      have hc2 := hc1.grown hg1 (fun q hq => (hO1.lt q hq).1)
      go_ret
      refine ⟨_, rfl, ?_, hc2, hk2⟩
      rw [← hEq.out, List.length_append, bytes_app, show Lib.byteCells [y] = [.int .u8 (m : Int)] by simp [Lib.byteCells, HY.out]]
      exact ho1
set_option maxRecDepth 100000 in
set_option maxHeartbeats 4000000 in
theorem putBig1c (base n x : Nat) (v : Value) (bs : List Value) (w : World) (h : w.ownsRow base 5 1 v n bs) (hn : n ≤ 1000000) (hx : x < 18446744073709551616) (hbase : base ≤ w.heap.size) :
    Calls Tryz.prog 45 #[v, .int .u64 x, .int .i64 1] w fun e w' => ∃ v', e = .returned v' ∧ w'.ownsRow base 5 1 v' (n + 1) (bs ++ [.int .u8 ((x : Int) % 256)]) ∧ Chg (fun q => base ≤ q) w w' ∧ KeepT w w' := by
  obtain ⟨i0, hi, hz0, hz1, hz2⟩ := info_parts infoU8
  obtain ⟨va, vc, rfl⟩ := own_form h
  have h0 := h
  have hc0 := Chg.refl (fun q => base ≤ q) w
  have hk0 := KeepT.refl w
  have hz9 := hbase
  clear hx
  go_enter Tryz.func45, Tryz.ntmps45
  go_wp2_with fail
  refine wp_loop_rounds 2 ?_
  rw [rounds_succ]
  have hO0 := own_alloc h0 (.cells #[.int .u8 ((x : Int) % 256)] 5)
  go_wp2_with (first | (at_builtin; refine list_app 22 5 i0 _ 1 1 rfl (.tmp 14) (.tmp 21) rfl rfl Tryz.underlying22 hi hz0 hz1 hz2 rfl (by decide) (by decide) base (.slice va (n) vc) (n) (bs) rfl hO0 w.heap.size rfl [.int .u8 ((x : Int) % 256)] rfl (heap_alloc_new w _) (one1 _ _) (by omega) (by simp; omega) ?_; intro v1 w1 h1 hg1) | fail)
  obtain ⟨a1, c1, rfl⟩ := own_form h1
  have hc1 : Chg (fun q => base ≤ q) w w1 := (hc0.alloc (.cells #[.int .u8 ((x : Int) % 256)] 5)).grown hg1 (fun q hq => (hO0.lt q hq).1)
  have hk1 : KeepT w w1 := (hk0.alloc _).grown hO0 hg1
  have hz10 := hc1.size
  rw [rounds_succ]
  go_wp2_with fail
  go_ret
  exact ⟨_, rfl, h1, hc1, hk1⟩
theorem beCells1 (x : Nat) : Lib.byteCells (Lib.beBytes 1 x) = [.int .u8 ((x : Int) % 256)] := by
  have e0 : ((x % 256 : Nat) : Int) = (x : Int) % 256 := by omega
  have hb : Lib.beBytes 1 x = [(x % 256).toUInt8] := by simp [Lib.beBytes, Lib.leBytes]
  rw [hb]
  simp only [Lib.byteCells, List.map_cons, List.map_nil, Lib.toUInt8_mod, e0]
theorem putBig1_any (base x : Nat) (v : Value) (bs : List UInt8) (w : World) (h : w.ownsRow base 5 1 v bs.length (Lib.byteCells bs)) (hn : bs.length ≤ 1000000) (hx : x < 18446744073709551616) (hbase : base ≤ w.heap.size) :
    Calls Tryz.prog 45 #[v, .int .u64 x, .int .i64 1] w (SpPut base (bs ++ Lib.beBytes 1 x) w) := by
  refine (putBig1c base bs.length x v (Lib.byteCells bs) w h hn hx hbase).mono ?_
  rintro e w' ⟨v', rfl, h1, h2, h3⟩
  refine ⟨v', rfl, ?_, h2, h3⟩
  have e1 : (bs ++ Lib.beBytes 1 x).length = bs.length + 1 := by rw [List.length_append, Lib.beBytes_length]
  rw [e1, bytes_app, beCells1]
  simpa [List.append_assoc] using h1
set_option maxRecDepth 100000 in
set_option maxHeartbeats 4000000 in
theorem putBig4c (base n x : Nat) (v : Value) (bs : List Value) (w : World) (h : w.ownsRow base 5 1 v n bs) (hn : n ≤ 1000000) (hx : x < 18446744073709551616) (hbase : base ≤ w.heap.size) :
    Calls Tryz.prog 45 #[v, .int .u64 x, .int .i64 4] w fun e w' => ∃ v', e = .returned v' ∧ w'.ownsRow base 5 1 v' (n + 1 + 1 + 1 + 1) ((((bs ++ [.int .u8 ((x : Int) / 16777216 % 256)]) ++ [.int .u8 ((x : Int) / 65536 % 256)]) ++ [.int .u8 ((x : Int) / 256 % 256)]) ++ [.int .u8 ((x : Int) % 256)]) ∧ Chg (fun q => base ≤ q) w w' ∧ KeepT w w' := by
  obtain ⟨i0, hi, hz0, hz1, hz2⟩ := info_parts infoU8
  obtain ⟨va, vc, rfl⟩ := own_form h
  have h0 := h
  have hc0 := Chg.refl (fun q => base ≤ q) w
  have hk0 := KeepT.refl w
  have hz9 := hbase
  clear hx
  go_enter Tryz.func45, Tryz.ntmps45
  go_wp2_with fail
  refine wp_loop_rounds 5 ?_
  rw [rounds_succ]
  have hO0 := own_alloc h0 (.cells #[.int .u8 ((x : Int) / 16777216 % 256)] 5)
  go_wp2_with (first | (at_builtin; refine list_app 22 5 i0 _ 1 1 rfl (.tmp 14) (.tmp 21) rfl rfl Tryz.underlying22 hi hz0 hz1 hz2 rfl (by decide) (by decide) base (.slice va (n) vc) (n) (bs) rfl hO0 w.heap.size rfl [.int .u8 ((x : Int) / 16777216 % 256)] rfl (heap_alloc_new w _) (one1 _ _) (by omega) (by simp; omega) ?_; intro v1 w1 h1 hg1) | fail)
  obtain ⟨a1, c1, rfl⟩ := own_form h1
  have hc1 : Chg (fun q => base ≤ q) w w1 := (hc0.alloc (.cells #[.int .u8 ((x : Int) / 16777216 % 256)] 5)).grown hg1 (fun q hq => (hO0.lt q hq).1)
  have hk1 : KeepT w w1 := (hk0.alloc _).grown hO0 hg1
  have hz10 := hc1.size
  rw [rounds_succ]
  have hO1 := own_alloc h1 (.cells #[.int .u8 ((x : Int) / 65536 % 256)] 5)
  go_wp2_with (first | (at_builtin; refine list_app 22 5 i0 _ 1 1 rfl (.tmp 14) (.tmp 21) rfl rfl Tryz.underlying22 hi hz0 hz1 hz2 rfl (by decide) (by decide) base (.slice a1 (n + 1) c1) (n + 1) ((bs ++ [.int .u8 ((x : Int) / 16777216 % 256)])) rfl hO1 w1.heap.size rfl [.int .u8 ((x : Int) / 65536 % 256)] rfl (heap_alloc_new w1 _) (one1 _ _) (by omega) (by simp; omega) ?_; intro v2 w2 h2 hg2) | fail)
  obtain ⟨a2, c2, rfl⟩ := own_form h2
  have hc2 : Chg (fun q => base ≤ q) w w2 := (hc1.alloc (.cells #[.int .u8 ((x : Int) / 65536 % 256)] 5)).grown hg2 (fun q hq => (hO1.lt q hq).1)
  have hk2 : KeepT w w2 := (hk1.alloc _).grown hO1 hg2
  have hz11 := hc2.size
  rw [rounds_succ]
  have hO2 := own_alloc h2 (.cells #[.int .u8 ((x : Int) / 256 % 256)] 5)
  go_wp2_with (first | (at_builtin; refine list_app 22 5 i0 _ 1 1 rfl (.tmp 14) (.tmp 21) rfl rfl Tryz.underlying22 hi hz0 hz1 hz2 rfl (by decide) (by decide) base (.slice a2 (n + 1 + 1) c2) (n + 1 + 1) (((bs ++ [.int .u8 ((x : Int) / 16777216 % 256)]) ++ [.int .u8 ((x : Int) / 65536 % 256)])) rfl hO2 w2.heap.size rfl [.int .u8 ((x : Int) / 256 % 256)] rfl (heap_alloc_new w2 _) (one1 _ _) (by omega) (by simp; omega) ?_; intro v3 w3 h3 hg3) | fail)
  obtain ⟨a3, c3, rfl⟩ := own_form h3
  have hc3 : Chg (fun q => base ≤ q) w w3 := (hc2.alloc (.cells #[.int .u8 ((x : Int) / 256 % 256)] 5)).grown hg3 (fun q hq => (hO2.lt q hq).1)
  have hk3 : KeepT w w3 := (hk2.alloc _).grown hO2 hg3
  have hz12 := hc3.size
  rw [rounds_succ]
  have hO3 := own_alloc h3 (.cells #[.int .u8 ((x : Int) % 256)] 5)
  go_wp2_with (first | (at_builtin; refine list_app 22 5 i0 _ 1 1 rfl (.tmp 14) (.tmp 21) rfl rfl Tryz.underlying22 hi hz0 hz1 hz2 rfl (by decide) (by decide) base (.slice a3 (n + 1 + 1 + 1) c3) (n + 1 + 1 + 1) ((((bs ++ [.int .u8 ((x : Int) / 16777216 % 256)]) ++ [.int .u8 ((x : Int) / 65536 % 256)]) ++ [.int .u8 ((x : Int) / 256 % 256)])) rfl hO3 w3.heap.size rfl [.int .u8 ((x : Int) % 256)] rfl (heap_alloc_new w3 _) (one1 _ _) (by omega) (by simp; omega) ?_; intro v4 w4 h4 hg4) | fail)
  obtain ⟨a4, c4, rfl⟩ := own_form h4
  have hc4 : Chg (fun q => base ≤ q) w w4 := (hc3.alloc (.cells #[.int .u8 ((x : Int) % 256)] 5)).grown hg4 (fun q hq => (hO3.lt q hq).1)
  have hk4 : KeepT w w4 := (hk3.alloc _).grown hO3 hg4
  have hz13 := hc4.size
  rw [rounds_succ]
  go_wp2_with fail
  go_ret
  exact ⟨_, rfl, h4, hc4, hk4⟩
theorem beCells4 (x : Nat) : Lib.byteCells (Lib.beBytes 4 x) = [.int .u8 ((x : Int) / 16777216 % 256), .int .u8 ((x : Int) / 65536 % 256), .int .u8 ((x : Int) / 256 % 256), .int .u8 ((x : Int) % 256)] := by
  have e0 : ((x / 256 / 256 / 256 % 256 : Nat) : Int) = (x : Int) / 16777216 % 256 := by omega
  have e1 : ((x / 256 / 256 % 256 : Nat) : Int) = (x : Int) / 65536 % 256 := by omega
  have e2 : ((x / 256 % 256 : Nat) : Int) = (x : Int) / 256 % 256 := by omega
  have e3 : ((x % 256 : Nat) : Int) = (x : Int) % 256 := by omega
  have hb : Lib.beBytes 4 x = [(x / 256 / 256 / 256 % 256).toUInt8, (x / 256 / 256 % 256).toUInt8, (x / 256 % 256).toUInt8, (x % 256).toUInt8] := by simp [Lib.beBytes, Lib.leBytes]
  rw [hb]
  simp only [Lib.byteCells, List.map_cons, List.map_nil, Lib.toUInt8_mod, e0, e1, e2, e3]
theorem putBig4_any (base x : Nat) (v : Value) (bs : List UInt8) (w : World) (h : w.ownsRow base 5 1 v bs.length (Lib.byteCells bs)) (hn : bs.length ≤ 1000000) (hx : x < 18446744073709551616) (hbase : base ≤ w.heap.size) :
    Calls Tryz.prog 45 #[v, .int .u64 x, .int .i64 4] w (SpPut base (bs ++ Lib.beBytes 4 x) w) := by
  refine (putBig4c base bs.length x v (Lib.byteCells bs) w h hn hx hbase).mono ?_
  rintro e w' ⟨v', rfl, h1, h2, h3⟩
  refine ⟨v', rfl, ?_, h2, h3⟩
  have e1 : (bs ++ Lib.beBytes 4 x).length = bs.length + 1 + 1 + 1 + 1 := by rw [List.length_append, Lib.beBytes_length]
  rw [e1, bytes_app, beCells4]
  simpa [List.append_assoc] using h1
set_option maxRecDepth 100000 in
set_option maxHeartbeats 4000000 in
theorem putBig8c (base n x : Nat) (v : Value) (bs : List Value) (w : World) (h : w.ownsRow base 5 1 v n bs) (hn : n ≤ 1000000) (hx : x < 18446744073709551616) (hbase : base ≤ w.heap.size) :
    Calls Tryz.prog 45 #[v, .int .u64 x, .int .i64 8] w fun e w' => ∃ v', e = .returned v' ∧ w'.ownsRow base 5 1 v' (n + 1 + 1 + 1 + 1 + 1 + 1 + 1 + 1) ((((((((bs ++ [.int .u8 ((x : Int) / 72057594037927936 % 256)]) ++ [.int .u8 ((x : Int) / 281474976710656 % 256)]) ++ [.int .u8 ((x : Int) / 1099511627776 % 256)]) ++ [.int .u8 ((x : Int) / 4294967296 % 256)]) ++ [.int .u8 ((x : Int) / 16777216 % 256)]) ++ [.int .u8 ((x : Int) / 65536 % 256)]) ++ [.int .u8 ((x : Int) / 256 % 256)]) ++ [.int .u8 ((x : Int) % 256)]) ∧ Chg (fun q => base ≤ q) w w' ∧ KeepT w w' := by
  obtain ⟨i0, hi, hz0, hz1, hz2⟩ := info_parts infoU8
  obtain ⟨va, vc, rfl⟩ := own_form h
  have h0 := h
  have hc0 := Chg.refl (fun q => base ≤ q) w
  have hk0 := KeepT.refl w
  have hz9 := hbase
  clear hx
  go_enter Tryz.func45, Tryz.ntmps45
  go_wp2_with fail
  refine wp_loop_rounds 9 ?_
  rw [rounds_succ]
  have hO0 := own_alloc h0 (.cells #[.int .u8 ((x : Int) / 72057594037927936 % 256)] 5)
  go_wp2_with (first | (at_builtin; refine list_app 22 5 i0 _ 1 1 rfl (.tmp 14) (.tmp 21) rfl rfl Tryz.underlying22 hi hz0 hz1 hz2 rfl (by decide) (by decide) base (.slice va (n) vc) (n) (bs) rfl hO0 w.heap.size rfl [.int .u8 ((x : Int) / 72057594037927936 % 256)] rfl (heap_alloc_new w _) (one1 _ _) (by omega) (by simp; omega) ?_; intro v1 w1 h1 hg1) | fail)
  obtain ⟨a1, c1, rfl⟩ := own_form h1
  have hc1 : Chg (fun q => base ≤ q) w w1 := (hc0.alloc (.cells #[.int .u8 ((x : Int) / 72057594037927936 % 256)] 5)).grown hg1 (fun q hq => (hO0.lt q hq).1)
  have hk1 : KeepT w w1 := (hk0.alloc _).grown hO0 hg1
  have hz10 := hc1.size
  rw [rounds_succ]
  have hO1 := own_alloc h1 (.cells #[.int .u8 ((x : Int) / 281474976710656 % 256)] 5)
  go_wp2_with (first | (at_builtin; refine list_app 22 5 i0 _ 1 1 rfl (.tmp 14) (.tmp 21) rfl rfl Tryz.underlying22 hi hz0 hz1 hz2 rfl (by decide) (by decide) base (.slice a1 (n + 1) c1) (n + 1) ((bs ++ [.int .u8 ((x : Int) / 72057594037927936 % 256)])) rfl hO1 w1.heap.size rfl [.int .u8 ((x : Int) / 281474976710656 % 256)] rfl (heap_alloc_new w1 _) (one1 _ _) (by omega) (by simp; omega) ?_; intro v2 w2 h2 hg2) | fail)
  obtain ⟨a2, c2, rfl⟩ := own_form h2
  have hc2 : Chg (fun q => base ≤ q) w w2 := (hc1.alloc (.cells #[.int .u8 ((x : Int) / 281474976710656 % 256)] 5)).grown hg2 (fun q hq => (hO1.lt q hq).1)
  have hk2 : KeepT w w2 := (hk1.alloc _).grown hO1 hg2
  have hz11 := hc2.size
  rw [rounds_succ]
  have hO2 := own_alloc h2 (.cells #[.int .u8 ((x : Int) / 1099511627776 % 256)] 5)
  go_wp2_with (first | (at_builtin; refine list_app 22 5 i0 _ 1 1 rfl (.tmp 14) (.tmp 21) rfl rfl Tryz.underlying22 hi hz0 hz1 hz2 rfl (by decide) (by decide) base (.slice a2 (n + 1 + 1) c2) (n + 1 + 1) (((bs ++ [.int .u8 ((x : Int) / 72057594037927936 % 256)]) ++ [.int .u8 ((x : Int) / 281474976710656 % 256)])) rfl hO2 w2.heap.size rfl [.int .u8 ((x : Int) / 1099511627776 % 256)] rfl (heap_alloc_new w2 _) (one1 _ _) (by omega) (by simp; omega) ?_; intro v3 w3 h3 hg3) | fail)
  obtain ⟨a3, c3, rfl⟩ := own_form h3
  have hc3 : Chg (fun q => base ≤ q) w w3 := (hc2.alloc (.cells #[.int .u8 ((x : Int) / 1099511627776 % 256)] 5)).grown hg3 (fun q hq => (hO2.lt q hq).1)
  have hk3 : KeepT w w3 := (hk2.alloc _).grown hO2 hg3
  have hz12 := hc3.size
  rw [rounds_succ]
  have hO3 := own_alloc h3 (.cells #[.int .u8 ((x : Int) / 4294967296 % 256)] 5)
  go_wp2_with (first | (at_builtin; refine list_app 22 5 i0 _ 1 1 rfl (.tmp 14) (.tmp 21) rfl rfl Tryz.underlying22 hi hz0 hz1 hz2 rfl (by decide) (by decide) base (.slice a3 (n + 1 + 1 + 1) c3) (n + 1 + 1 + 1) ((((bs ++ [.int .u8 ((x : Int) / 72057594037927936 % 256)]) ++ [.int .u8 ((x : Int) / 281474976710656 % 256)]) ++ [.int .u8 ((x : Int) / 1099511627776 % 256)])) rfl hO3 w3.heap.size rfl [.int .u8 ((x : Int) / 4294967296 % 256)] rfl (heap_alloc_new w3 _) (one1 _ _) (by omega) (by simp; omega) ?_; intro v4 w4 h4 hg4) | fail)
  obtain ⟨a4, c4, rfl⟩ := own_form h4
  have hc4 : Chg (fun q => base ≤ q) w w4 := (hc3.alloc (.cells #[.int .u8 ((x : Int) / 4294967296 % 256)] 5)).grown hg4 (fun q hq => (hO3.lt q hq).1)
  have hk4 : KeepT w w4 := (hk3.alloc _).grown hO3 hg4
  have hz13 := hc4.size
  rw [rounds_succ]
  have hO4 := own_alloc h4 (.cells #[.int .u8 ((x : Int) / 16777216 % 256)] 5)
  go_wp2_with (first | (at_builtin; refine list_app 22 5 i0 _ 1 1 rfl (.tmp 14) (.tmp 21) rfl rfl Tryz.underlying22 hi hz0 hz1 hz2 rfl (by decide) (by decide) base (.slice a4 (n + 1 + 1 + 1 + 1) c4) (n + 1 + 1 + 1 + 1) (((((bs ++ [.int .u8 ((x : Int) / 72057594037927936 % 256)]) ++ [.int .u8 ((x : Int) / 281474976710656 % 256)]) ++ [.int .u8 ((x : Int) / 1099511627776 % 256)]) ++ [.int .u8 ((x : Int) / 4294967296 % 256)])) rfl hO4 w4.heap.size rfl [.int .u8 ((x : Int) / 16777216 % 256)] rfl (heap_alloc_new w4 _) (one1 _ _) (by omega) (by simp; omega) ?_; intro v5 w5 h5 hg5) | fail)
  obtain ⟨a5, c5, rfl⟩ := own_form h5
  have hc5 : Chg (fun q => base ≤ q) w w5 := (hc4.alloc (.cells #[.int .u8 ((x : Int) / 16777216 % 256)] 5)).grown hg5 (fun q hq => (hO4.lt q hq).1)
  have hk5 : KeepT w w5 := (hk4.alloc _).grown hO4 hg5
  have hz14 := hc5.size
  rw [rounds_succ]
  have hO5 := own_alloc h5 (.cells #[.int .u8 ((x : Int) / 65536 % 256)] 5)
  go_wp2_with (first | (at_builtin; refine list_app 22 5 i0 _ 1 1 rfl (.tmp 14) (.tmp 21) rfl rfl Tryz.underlying22 hi hz0 hz1 hz2 rfl (by decide) (by decide) base (.slice a5 (n + 1 + 1 + 1 + 1 + 1) c5) (n + 1 + 1 + 1 + 1 + 1) ((((((bs ++ [.int .u8 ((x : Int) / 72057594037927936 % 256)]) ++ [.int .u8 ((x : Int) / 281474976710656 % 256)]) ++ [.int .u8 ((x : Int) / 1099511627776 % 256)]) ++ [.int .u8 ((x : Int) / 4294967296 % 256)]) ++ [.int .u8 ((x : Int) / 16777216 % 256)])) rfl hO5 w5.heap.size rfl [.int .u8 ((x : Int) / 65536 % 256)] rfl (heap_alloc_new w5 _) (one1 _ _) (by omega) (by simp; omega) ?_; intro v6 w6 h6 hg6) | fail)
  obtain ⟨a6, c6, rfl⟩ := own_form h6
  have hc6 : Chg (fun q => base ≤ q) w w6 := (hc5.alloc (.cells #[.int .u8 ((x : Int) / 65536 % 256)] 5)).grown hg6 (fun q hq => (hO5.lt q hq).1)
  have hk6 : KeepT w w6 := (hk5.alloc _).grown hO5 hg6
  have hz15 := hc6.size
  rw [rounds_succ]
  have hO6 := own_alloc h6 (.cells #[.int .u8 ((x : Int) / 256 % 256)] 5)
  go_wp2_with (first | (at_builtin; refine list_app 22 5 i0 _ 1 1 rfl (.tmp 14) (.tmp 21) rfl rfl Tryz.underlying22 hi hz0 hz1 hz2 rfl (by decide) (by decide) base (.slice a6 (n + 1 + 1 + 1 + 1 + 1 + 1) c6) (n + 1 + 1 + 1 + 1 + 1 + 1) (((((((bs ++ [.int .u8 ((x : Int) / 72057594037927936 % 256)]) ++ [.int .u8 ((x : Int) / 281474976710656 % 256)]) ++ [.int .u8 ((x : Int) / 1099511627776 % 256)]) ++ [.int .u8 ((x : Int) / 4294967296 % 256)]) ++ [.int .u8 ((x : Int) / 16777216 % 256)]) ++ [.int .u8 ((x : Int) / 65536 % 256)])) rfl hO6 w6.heap.size rfl [.int .u8 ((x : Int) / 256 % 256)] rfl (heap_alloc_new w6 _) (one1 _ _) (by omega) (by simp; omega) ?_; intro v7 w7 h7 hg7) | fail)
  obtain ⟨a7, c7, rfl⟩ := own_form h7
  have hc7 : Chg (fun q => base ≤ q) w w7 := (hc6.alloc (.cells #[.int .u8 ((x : Int) / 256 % 256)] 5)).grown hg7 (fun q hq => (hO6.lt q hq).1)
  have hk7 : KeepT w w7 := (hk6.alloc _).grown hO6 hg7
  have hz16 := hc7.size
  rw [rounds_succ]
  have hO7 := own_alloc h7 (.cells #[.int .u8 ((x : Int) % 256)] 5)
  go_wp2_with (first | (at_builtin; refine list_app 22 5 i0 _ 1 1 rfl (.tmp 14) (.tmp 21) rfl rfl Tryz.underlying22 hi hz0 hz1 hz2 rfl (by decide) (by decide) base (.slice a7 (n + 1 + 1 + 1 + 1 + 1 + 1 + 1) c7) (n + 1 + 1 + 1 + 1 + 1 + 1 + 1) ((((((((bs ++ [.int .u8 ((x : Int) / 72057594037927936 % 256)]) ++ [.int .u8 ((x : Int) / 281474976710656 % 256)]) ++ [.int .u8 ((x : Int) / 1099511627776 % 256)]) ++ [.int .u8 ((x : Int) / 4294967296 % 256)]) ++ [.int .u8 ((x : Int) / 16777216 % 256)]) ++ [.int .u8 ((x : Int) / 65536 % 256)]) ++ [.int .u8 ((x : Int) / 256 % 256)])) rfl hO7 w7.heap.size rfl [.int .u8 ((x : Int) % 256)] rfl (heap_alloc_new w7 _) (one1 _ _) (by omega) (by simp; omega) ?_; intro v8 w8 h8 hg8) | fail)
  obtain ⟨a8, c8, rfl⟩ := own_form h8
  have hc8 : Chg (fun q => base ≤ q) w w8 := (hc7.alloc (.cells #[.int .u8 ((x : Int) % 256)] 5)).grown hg8 (fun q hq => (hO7.lt q hq).1)
  have hk8 : KeepT w w8 := (hk7.alloc _).grown hO7 hg8
  have hz17 := hc8.size
  rw [rounds_succ]
  go_wp2_with fail
  go_ret
  exact ⟨_, rfl, h8, hc8, hk8⟩
theorem beCells8 (x : Nat) : Lib.byteCells (Lib.beBytes 8 x) = [.int .u8 ((x : Int) / 72057594037927936 % 256), .int .u8 ((x : Int) / 281474976710656 % 256), .int .u8 ((x : Int) / 1099511627776 % 256), .int .u8 ((x : Int) / 4294967296 % 256), .int .u8 ((x : Int) / 16777216 % 256), .int .u8 ((x : Int) / 65536 % 256), .int .u8 ((x : Int) / 256 % 256), .int .u8 ((x : Int) % 256)] := by
  have e0 : ((x / 256 / 256 / 256 / 256 / 256 / 256 / 256 % 256 : Nat) : Int) = (x : Int) / 72057594037927936 % 256 := by omega
  have e1 : ((x / 256 / 256 / 256 / 256 / 256 / 256 % 256 : Nat) : Int) = (x : Int) / 281474976710656 % 256 := by omega
  have e2 : ((x / 256 / 256 / 256 / 256 / 256 % 256 : Nat) : Int) = (x : Int) / 1099511627776 % 256 := by omega
  have e3 : ((x / 256 / 256 / 256 / 256 % 256 : Nat) : Int) = (x : Int) / 4294967296 % 256 := by omega
  have e4 : ((x / 256 / 256 / 256 % 256 : Nat) : Int) = (x : Int) / 16777216 % 256 := by omega
  have e5 : ((x / 256 / 256 % 256 : Nat) : Int) = (x : Int) / 65536 % 256 := by omega
  have e6 : ((x / 256 % 256 : Nat) : Int) = (x : Int) / 256 % 256 := by omega
  have e7 : ((x % 256 : Nat) : Int) = (x : Int) % 256 := by omega
  have hb : Lib.beBytes 8 x = [(x / 256 / 256 / 256 / 256 / 256 / 256 / 256 % 256).toUInt8, (x / 256 / 256 / 256 / 256 / 256 / 256 % 256).toUInt8, (x / 256 / 256 / 256 / 256 / 256 % 256).toUInt8, (x / 256 / 256 / 256 / 256 % 256).toUInt8, (x / 256 / 256 / 256 % 256).toUInt8, (x / 256 / 256 % 256).toUInt8, (x / 256 % 256).toUInt8, (x % 256).toUInt8] := by simp [Lib.beBytes, Lib.leBytes]
  rw [hb]
  simp only [Lib.byteCells, List.map_cons, List.map_nil, Lib.toUInt8_mod, e0, e1, e2, e3, e4, e5, e6, e7]
theorem putBig8_any (base x : Nat) (v : Value) (bs : List UInt8) (w : World) (h : w.ownsRow base 5 1 v bs.length (Lib.byteCells bs)) (hn : bs.length ≤ 1000000) (hx : x < 18446744073709551616) (hbase : base ≤ w.heap.size) :
    Calls Tryz.prog 45 #[v, .int .u64 x, .int .i64 8] w (SpPut base (bs ++ Lib.beBytes 8 x) w) := by
  refine (putBig8c base bs.length x v (Lib.byteCells bs) w h hn hx hbase).mono ?_
  rintro e w' ⟨v', rfl, h1, h2, h3⟩
  refine ⟨v', rfl, ?_, h2, h3⟩
  have e1 : (bs ++ Lib.beBytes 8 x).length = bs.length + 1 + 1 + 1 + 1 + 1 + 1 + 1 + 1 := by rw [List.length_append, Lib.beBytes_length]
  rw [e1, bytes_app, beCells8]
  simpa [List.append_assoc] using h1
end Go.Proofs.YtkbkggamfkadnaaGreatDoor
