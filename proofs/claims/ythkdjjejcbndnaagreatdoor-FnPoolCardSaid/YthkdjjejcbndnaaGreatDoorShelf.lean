/-
  Contracts of the library's functions, laid at this program (written by the kit's lay-plain).
-/
import Derived.Shelf.Small.Bits
import Derived.Shelf.Strconv.Itoa0
import Derived.Ground.MnProg
import Derived.Shelf.Bin.BEUint16
import Derived.Shelf.Bin.BEPutUint16
import Derived.Shelf.Bin.BEUint64
import Derived.Shelf.Bin.PutUvarint
import Derived.Shelf.Bin.PutVarint
import Derived.Test.YthkdjjejcbndnaaGreatDoorProg
namespace Go.Proofs
open Go.Shelf
def Tryz.lays134_ren : Go.Shelf.Ren := ⟨fun | 134 => 132 | 129 => 134 | n => n, fun | 53 => 39 | 3 => 3 | 4 => 4 | 46 => 34 | 5 => 5 | 9 => 9 | n => n, fun | n => n⟩
theorem Tryz.lays134 : Go.Proofs.Lays.n134 Tryz.prog Tryz.lays134_ren := {
  mixed := by kernel_rfl
  f129 := Tryz.func134.trans (congrArg some (by kernel_rfl))
  f134 := Tryz.func132.trans (congrArg some (by kernel_rfl))
  t3 := Tryz.underlying3
  a3 := Tryz.isAgg3
  z3 := Tryz.sizeOf3
  v3 := Tryz.zeroValue3
  t4 := Tryz.underlying4
  a4 := Tryz.isAgg4
  z4 := Tryz.sizeOf4
  v4 := Tryz.zeroValue4
  t5 := Tryz.underlying5
  a5 := Tryz.isAgg5
  z5 := Tryz.sizeOf5
  v5 := Tryz.zeroValue5
  t9 := Tryz.underlying9
  a9 := Tryz.isAgg9
  z9 := Tryz.sizeOf9
  v9 := Tryz.zeroValue9
  t46 := Tryz.underlying34
  a46 := Tryz.isAgg34
  z46 := Tryz.sizeOf34
  v46 := Tryz.zeroValue34
  t53 := Tryz.underlying39
  a53 := Tryz.isAgg39
  z53 := Tryz.sizeOf39
  v53 := Tryz.zeroValue39 }
theorem Tryz.bits_LeadingZeros64 (x : Int) (w : World) (h0 : 0 ≤ x) (h1 : x ≤ 18446744073709551615) :
    Calls Tryz.prog 132 #[.int .u64 x] w fun e w' => e = .returned (.int .i64 (64 - (Lib.bitLen x.toNat : Int))) ∧ w' = w := Any.bits_LeadingZeros64 Tryz.lays134 x w h0 h1
def Tryz.lays129_ren : Go.Shelf.Ren := ⟨fun | 129 => 134 | n => n, fun | 53 => 39 | 3 => 3 | 4 => 4 | 46 => 34 | 5 => 5 | 9 => 9 | n => n, fun | n => n⟩
theorem Tryz.lays129 : Go.Proofs.Lays.n129 Tryz.prog Tryz.lays129_ren := {
  mixed := by kernel_rfl
  f129 := Tryz.func134.trans (congrArg some (by kernel_rfl))
  t3 := Tryz.underlying3
  a3 := Tryz.isAgg3
  z3 := Tryz.sizeOf3
  v3 := Tryz.zeroValue3
  t4 := Tryz.underlying4
  a4 := Tryz.isAgg4
  z4 := Tryz.sizeOf4
  v4 := Tryz.zeroValue4
  t5 := Tryz.underlying5
  a5 := Tryz.isAgg5
  z5 := Tryz.sizeOf5
  v5 := Tryz.zeroValue5
  t9 := Tryz.underlying9
  a9 := Tryz.isAgg9
  z9 := Tryz.sizeOf9
  v9 := Tryz.zeroValue9
  t46 := Tryz.underlying34
  a46 := Tryz.isAgg34
  z46 := Tryz.sizeOf34
  v46 := Tryz.zeroValue34
  t53 := Tryz.underlying39
  a53 := Tryz.isAgg39
  z53 := Tryz.sizeOf39
  v53 := Tryz.zeroValue39 }
theorem Tryz.bits_Len64 (x : Int) (w : World) (h0 : 0 ≤ x) (h1 : x ≤ 18446744073709551615) :
    Calls Tryz.prog 134 #[.int .u64 x] w fun e w' => e = .returned (.int .i64 (Lib.bitLen x.toNat)) ∧ w' = w := Any.bits_Len64 Tryz.lays129 x w h0 h1
def Tryz.laysBin36_ren : Go.Shelf.Ren := ⟨fun | 36 => 49 | n => n, fun | 37 => 118 | 22 => 26 | 23 => 116 | 0 => 0 | 5 => 5 | 45 => 34 | n => n, fun | n => n⟩
theorem Tryz.laysBin36 : Go.Proofs.LaysBin.n36 Tryz.prog Tryz.laysBin36_ren := {
  mixed := by kernel_rfl
  f36 := Tryz.func49.trans (congrArg some (by kernel_rfl))
  t0 := Tryz.underlying0
  a0 := Tryz.isAgg0
  z0 := Tryz.sizeOf0
  v0 := Tryz.zeroValue0
  i0 := by kernel_rfl
  t5 := Tryz.underlying5
  a5 := Tryz.isAgg5
  z5 := Tryz.sizeOf5
  v5 := Tryz.zeroValue5
  i5 := by kernel_rfl
  t22 := Tryz.underlying26
  a22 := Tryz.isAgg26
  z22 := Tryz.sizeOf26
  v22 := Tryz.zeroValue26
  i22 := by kernel_rfl
  t23 := Tryz.underlying116
  a23 := Tryz.isAgg116
  z23 := Tryz.sizeOf116
  v23 := Tryz.zeroValue116
  i23 := by kernel_rfl
  t37 := Tryz.underlying118
  a37 := Tryz.isAgg118
  z37 := Tryz.sizeOf118
  v37 := Tryz.zeroValue118
  i37 := by kernel_rfl
  t45 := Tryz.underlying34
  a45 := Tryz.isAgg34
  z45 := Tryz.sizeOf34
  v45 := Tryz.zeroValue34
  i45 := by kernel_rfl }
open Go.RowKit in
theorem Tryz.binary_BE_Uint16 (g o n c : Nat) (b0 b1 : UInt8) (w : World) (hn : 2 ≤ n) (c0 : w.cell? ⟨g, o, none⟩ = some (.int .u8 b0.toNat)) (c1 : w.cell? ⟨g, o + 1, none⟩ = some (.int .u8 b1.toNat)) :
    Calls Tryz.prog 49 #[.agg #[], .slice (some ⟨g, o, none⟩) n c] w fun e w' => e = .returned (.int .u16 (Lib.beNat [b0, b1])) ∧ Below w.heap.size w w' := Any.binary_BE_Uint16 Tryz.laysBin36 g o n c b0 b1 w hn c0 c1
def Tryz.laysBin37_ren : Go.Shelf.Ren := ⟨fun | 37 => 130 | n => n, fun | 37 => 118 | 22 => 26 | 23 => 116 | 0 => 0 | 5 => 5 | 45 => 34 | n => n, fun | n => n⟩
theorem Tryz.laysBin37 : Go.Proofs.LaysBin.n37 Tryz.prog Tryz.laysBin37_ren := {
  mixed := by kernel_rfl
  f37 := Tryz.func130.trans (congrArg some (by kernel_rfl))
  t0 := Tryz.underlying0
  a0 := Tryz.isAgg0
  z0 := Tryz.sizeOf0
  v0 := Tryz.zeroValue0
  i0 := by kernel_rfl
  t5 := Tryz.underlying5
  a5 := Tryz.isAgg5
  z5 := Tryz.sizeOf5
  v5 := Tryz.zeroValue5
  i5 := by kernel_rfl
  t22 := Tryz.underlying26
  a22 := Tryz.isAgg26
  z22 := Tryz.sizeOf26
  v22 := Tryz.zeroValue26
  i22 := by kernel_rfl
  t23 := Tryz.underlying116
  a23 := Tryz.isAgg116
  z23 := Tryz.sizeOf116
  v23 := Tryz.zeroValue116
  i23 := by kernel_rfl
  t37 := Tryz.underlying118
  a37 := Tryz.isAgg118
  z37 := Tryz.sizeOf118
  v37 := Tryz.zeroValue118
  i37 := by kernel_rfl
  t45 := Tryz.underlying34
  a45 := Tryz.isAgg34
  z45 := Tryz.sizeOf34
  v45 := Tryz.zeroValue34
  i45 := by kernel_rfl }
open Go.RowKit in
theorem Tryz.binary_BE_PutUint16 (g o n c v : Nat) (hv : v < 65536) (x0 x1 : Value) (w : World) (hn : 2 ≤ n) (c0 : w.cell? ⟨g, o, none⟩ = some x0) (c1 : w.cell? ⟨g, o + 1, none⟩ = some x1) (f0 : w.frozen? ⟨g, o, none⟩ = false) (f1 : w.frozen? ⟨g, o + 1, none⟩ = false) :
    Calls Tryz.prog 130 #[.agg #[], .slice (some ⟨g, o, none⟩) n c, .int .u16 v] w fun e w' => e = .returned (.tuple #[]) ∧ w' = (w.alloc (.cells #[] 118)).setCells g o (Lib.byteCells (Lib.beBytes 2 v)) := Any.binary_BE_PutUint16 Tryz.laysBin37 g o n c v hv x0 x1 w hn c0 c1 f0 f1
def Tryz.laysBin42_ren : Go.Shelf.Ren := ⟨fun | 42 => 74 | n => n, fun | 37 => 118 | 22 => 26 | 33 => 39 | 0 => 0 | 5 => 5 | 45 => 34 | n => n, fun | n => n⟩
theorem Tryz.laysBin42 : Go.Proofs.LaysBin.n42 Tryz.prog Tryz.laysBin42_ren := {
  mixed := by kernel_rfl
  f42 := Tryz.func74.trans (congrArg some (by kernel_rfl))
  t0 := Tryz.underlying0
  a0 := Tryz.isAgg0
  z0 := Tryz.sizeOf0
  v0 := Tryz.zeroValue0
  i0 := by kernel_rfl
  t5 := Tryz.underlying5
  a5 := Tryz.isAgg5
  z5 := Tryz.sizeOf5
  v5 := Tryz.zeroValue5
  i5 := by kernel_rfl
  t22 := Tryz.underlying26
  a22 := Tryz.isAgg26
  z22 := Tryz.sizeOf26
  v22 := Tryz.zeroValue26
  i22 := by kernel_rfl
  t33 := Tryz.underlying39
  a33 := Tryz.isAgg39
  z33 := Tryz.sizeOf39
  v33 := Tryz.zeroValue39
  i33 := by kernel_rfl
  t37 := Tryz.underlying118
  a37 := Tryz.isAgg118
  z37 := Tryz.sizeOf118
  v37 := Tryz.zeroValue118
  i37 := by kernel_rfl
  t45 := Tryz.underlying34
  a45 := Tryz.isAgg34
  z45 := Tryz.sizeOf34
  v45 := Tryz.zeroValue34
  i45 := by kernel_rfl }
open Go.RowKit in
theorem Tryz.binary_BE_Uint64 (g o n c : Nat) (b0 b1 b2 b3 b4 b5 b6 b7 : UInt8) (w : World) (hn : 8 ≤ n) (c0 : w.cell? ⟨g, o, none⟩ = some (.int .u8 b0.toNat)) (c1 : w.cell? ⟨g, o + 1, none⟩ = some (.int .u8 b1.toNat)) (c2 : w.cell? ⟨g, o + 2, none⟩ = some (.int .u8 b2.toNat)) (c3 : w.cell? ⟨g, o + 3, none⟩ = some (.int .u8 b3.toNat)) (c4 : w.cell? ⟨g, o + 4, none⟩ = some (.int .u8 b4.toNat)) (c5 : w.cell? ⟨g, o + 5, none⟩ = some (.int .u8 b5.toNat)) (c6 : w.cell? ⟨g, o + 6, none⟩ = some (.int .u8 b6.toNat)) (c7 : w.cell? ⟨g, o + 7, none⟩ = some (.int .u8 b7.toNat)) :
    Calls Tryz.prog 74 #[.agg #[], .slice (some ⟨g, o, none⟩) n c] w fun e w' => e = .returned (.int .u64 (Lib.beNat [b0, b1, b2, b3, b4, b5, b6, b7])) ∧ Below w.heap.size w w' := Any.binary_BE_Uint64 Tryz.laysBin42 g o n c b0 b1 b2 b3 b4 b5 b6 b7 w hn c0 c1 c2 c3 c4 c5 c6 c7
def Tryz.laysBin46_ren : Go.Shelf.Ren := ⟨fun | 46 => 127 | n => n, fun | 22 => 26 | 33 => 39 | 3 => 3 | 4 => 4 | 5 => 5 | 0 => 0 | 45 => 34 | n => n, fun | n => n⟩
theorem Tryz.laysBin46 : Go.Proofs.LaysBin.n46 Tryz.prog Tryz.laysBin46_ren := {
  mixed := by kernel_rfl
  f46 := Tryz.func127.trans (congrArg some (by kernel_rfl))
  t0 := Tryz.underlying0
  a0 := Tryz.isAgg0
  z0 := Tryz.sizeOf0
  v0 := Tryz.zeroValue0
  i0 := by kernel_rfl
  t3 := Tryz.underlying3
  a3 := Tryz.isAgg3
  z3 := Tryz.sizeOf3
  v3 := Tryz.zeroValue3
  i3 := by kernel_rfl
  t4 := Tryz.underlying4
  a4 := Tryz.isAgg4
  z4 := Tryz.sizeOf4
  v4 := Tryz.zeroValue4
  i4 := by kernel_rfl
  t5 := Tryz.underlying5
  a5 := Tryz.isAgg5
  z5 := Tryz.sizeOf5
  v5 := Tryz.zeroValue5
  i5 := by kernel_rfl
  t22 := Tryz.underlying26
  a22 := Tryz.isAgg26
  z22 := Tryz.sizeOf26
  v22 := Tryz.zeroValue26
  i22 := by kernel_rfl
  t33 := Tryz.underlying39
  a33 := Tryz.isAgg39
  z33 := Tryz.sizeOf39
  v33 := Tryz.zeroValue39
  i33 := by kernel_rfl
  t45 := Tryz.underlying34
  a45 := Tryz.isAgg34
  z45 := Tryz.sizeOf34
  v45 := Tryz.zeroValue34
  i45 := by kernel_rfl }
open Go.RowKit in
theorem Tryz.binary_PutUvarint (g o n c x : Nat) (hx : x < 18446744073709551616) (w : World) (hn : (Lib.uvarint x).length ≤ n) (hcell : ∀ j, j < (Lib.uvarint x).length → (w.cell? ⟨g, o + j, none⟩).isSome = true ∧ w.frozen? ⟨g, o + j, none⟩ = false) :
    Calls Tryz.prog 127 #[.slice (some ⟨g, o, none⟩) n c, .int .u64 x] w fun e w' => e = .returned (.int .i64 (Lib.uvarint x).length) ∧ w' = w.setCells g o (Lib.byteCells (Lib.uvarint x)) := Any.binary_PutUvarint Tryz.laysBin46 g o n c x hx w hn hcell
def Tryz.laysBin49_ren : Go.Shelf.Ren := ⟨fun | 49 => 124 | 46 => 127 | n => n, fun | 22 => 26 | 2 => 2 | 3 => 3 | 33 => 39 | 45 => 34 | 4 => 4 | 5 => 5 | 0 => 0 | n => n, fun | n => n⟩
theorem Tryz.laysBin49 : Go.Proofs.LaysBin.n49 Tryz.prog Tryz.laysBin49_ren := {
  mixed := by kernel_rfl
  f46 := Tryz.func127.trans (congrArg some (by kernel_rfl))
  f49 := Tryz.func124.trans (congrArg some (by kernel_rfl))
  t0 := Tryz.underlying0
  a0 := Tryz.isAgg0
  z0 := Tryz.sizeOf0
  v0 := Tryz.zeroValue0
  i0 := by kernel_rfl
  t2 := Tryz.underlying2
  a2 := Tryz.isAgg2
  z2 := Tryz.sizeOf2
  v2 := Tryz.zeroValue2
  i2 := by kernel_rfl
  t3 := Tryz.underlying3
  a3 := Tryz.isAgg3
  z3 := Tryz.sizeOf3
  v3 := Tryz.zeroValue3
  i3 := by kernel_rfl
  t4 := Tryz.underlying4
  a4 := Tryz.isAgg4
  z4 := Tryz.sizeOf4
  v4 := Tryz.zeroValue4
  i4 := by kernel_rfl
  t5 := Tryz.underlying5
  a5 := Tryz.isAgg5
  z5 := Tryz.sizeOf5
  v5 := Tryz.zeroValue5
  i5 := by kernel_rfl
  t22 := Tryz.underlying26
  a22 := Tryz.isAgg26
  z22 := Tryz.sizeOf26
  v22 := Tryz.zeroValue26
  i22 := by kernel_rfl
  t33 := Tryz.underlying39
  a33 := Tryz.isAgg39
  z33 := Tryz.sizeOf39
  v33 := Tryz.zeroValue39
  i33 := by kernel_rfl
  t45 := Tryz.underlying34
  a45 := Tryz.isAgg34
  z45 := Tryz.sizeOf34
  v45 := Tryz.zeroValue34
  i45 := by kernel_rfl }
open Go.RowKit in
theorem Tryz.binary_PutVarint (g o n c : Nat) (x : Int) (h0 : -9223372036854775808 ≤ x) (h1 : x ≤ 9223372036854775807) (w : World) (hn : (Lib.uvarint (Lib.zigzag x)).length ≤ n) (hcell : ∀ j, j < (Lib.uvarint (Lib.zigzag x)).length → (w.cell? ⟨g, o + j, none⟩).isSome = true ∧ w.frozen? ⟨g, o + j, none⟩ = false) :
    Calls Tryz.prog 124 #[.slice (some ⟨g, o, none⟩) n c, .int .i64 x] w fun e w' => e = .returned (.int .i64 (Lib.uvarint (Lib.zigzag x)).length) ∧ w' = w.setCells g o (Lib.byteCells (Lib.uvarint (Lib.zigzag x))) := Any.binary_PutVarint Tryz.laysBin49 g o n c x h0 h1 w hn hcell
end Go.Proofs
