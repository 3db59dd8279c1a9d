/-
  NARROWER THAN 'FOR EVERY INPUT', by the rows' own cells (each row's printed sentence says how): FnXorBack: laid · FnXorBytes: laid · FnXorReads: laid · FnXorSize: laid · FnXorCompact: laid · FnPool: laid · FnXorSeeks: laid · FnEmptyChunks: laid.
  DERIVED. THE GIVEN ROWS OF THIS SEAT. 8 by the template 'for every input the law returns true; each argument reads behind the call as it read before'; 0 by the template 'total and deterministic' (their statements: YthkdjjejcbndnaaGreatDoorTotals.lean).
  GIVEN WITH THE SEED: the statements are not yours to turn. If you find one false, say at which input.
  Laid BY PROGRAM, IN A SANDBOX (cutbox-rows.mjs): the forced cells as the released guide's own fill.sh prints them over the translation 8b452b67a9ca5a40… (all of the seat's roots in one cut). By AI agents, Wed Nov 11 2026. No macro, syntax, notation, axiom, sorry.
-/
import Derived.Test.YthkdjjejcbndnaaGreatDoorChecked
import GoSem.Claim
import GoSem.ClaimJoined
import GoSem.ClaimMapViews
import Derived.JoinedTies
import Derived.KernelRfl
namespace Go.Proofs.YthkdjjejcbndnaaGreatDoor
/- THE CELL 'sum', in the pinned program and in every row, IS THE sha256 OF THE DUMP (.gsa) THAT YthkdjjejcbndnaaGreatDoorProg.lean LOADS. Nothing in Lean hashes anything: it is a label: what it is worth is what the hold of that sum in a sandbox is worth. -/
noncomputable def Tryz.pinned : Pinned := { name := "ythkdjjejcbndnaagreatdoor", sum := "8b452b67a9ca5a4011f73975974571c7221cb012a2edbf2fa9526b2078831370", checked := Tryz.checked }
namespace Rows
def none {H : Type} : Left H := { results := [], args := [] }

/- WHAT THE LISTED PACKAGE-LEVEL VARIABLES READ AS WHEN THE CALL BEGINS. Each datum BY PROGRAM (the guide's laid-datum.mjs) off the statement by which the dump's own 'gosem.cut.vars' lays the variable. In a bare row this is a premise. The card (YthkdjjejcbndnaaGreatDoorCards.lean) ties it to the program's text. -/
def laid_io_EOF {H : Type} : DataW H := .iface "*errors.errorString" (.ptr (.agg [.lit (.string [69, 79, 70])]))
def laid_io_ErrUnexpectedEOF {H : Type} : DataW H := .iface "*errors.errorString" (.ptr (.agg [.lit (.string [117, 110, 101, 120, 112, 101, 99, 116, 101, 100, 32, 69, 79, 70])]))
def laid_encoding_binary_errOverflow {H : Type} : DataW H := .iface "*errors.errorString" (.ptr (.agg [.lit (.string [98, 105, 110, 97, 114, 121, 58, 32, 118, 97, 114, 105, 110, 116, 32, 111, 118, 101, 114, 102, 108, 111, 119, 115, 32, 97, 32, 54, 52, 45, 98, 105, 116, 32, 105, 110, 116, 101, 103, 101, 114])]))

/-- 'laws.FnXorBack': WHATEVER THE INPUT: true; the input reads as it did. -/
def fnXorBackSpec : ChangeSpec := { name := "fnXorBack", fn := fun _ => fun
  | [d] => { results := [.lit (.bool true)], args := [d] }
  | _ => none }
def fnXorBackRow : OpenClaim := { program := "ythkdjjejcbndnaagreatdoor", sum := "8b452b67a9ca5a4011f73975974571c7221cb012a2edbf2fa9526b2078831370", func := "pub-quillon/laws.FnXorBack", spec := "fnXorBack", inPlace := ["math.Float64frombits", "math.Float64bits"], unfollowed := true, recurses := true, named := ["encoding/binary.BigEndian", "io.EOF", "io.ErrUnexpectedEOF", "encoding/binary.errOverflow"], apart := false, laid := [("io.EOF", laid_io_EOF), ("io.ErrUnexpectedEOF", laid_io_ErrUnexpectedEOF), ("encoding/binary.errOverflow", laid_encoding_binary_errOverflow)] }
def FnXorBackSaid : Prop := fnXorBackRow.holds Tryz.pinned (OpenSpec.ofChange fnXorBackSpec)

/-- ITS FALSE NEIGHBOUR: 'it returns false'. Refute it at one input. -/
def fnXorBackWrong : ChangeSpec := { name := "fnXorBack", fn := fun _ => fun
  | [d] => { results := [.lit (.bool false)], args := [d] }
  | _ => none }
def FnXorBackWrongFalsely : Prop := fnXorBackRow.holds Tryz.pinned (OpenSpec.ofChange fnXorBackWrong)

/-- 'laws.FnXorBytes': WHATEVER THE INPUT: true; the input reads as it did. -/
def fnXorBytesSpec : ChangeSpec := { name := "fnXorBytes", fn := fun _ => fun
  | [d] => { results := [.lit (.bool true)], args := [d] }
  | _ => none }
def fnXorBytesRow : OpenClaim := { program := "ythkdjjejcbndnaagreatdoor", sum := "8b452b67a9ca5a4011f73975974571c7221cb012a2edbf2fa9526b2078831370", func := "pub-quillon/laws.FnXorBytes", spec := "fnXorBytes", inPlace := ["math.Float64frombits", "math.Float64bits"], unfollowed := true, recurses := true, named := ["encoding/binary.BigEndian", "io.EOF", "io.ErrUnexpectedEOF", "encoding/binary.errOverflow"], apart := false, laid := [("io.EOF", laid_io_EOF), ("io.ErrUnexpectedEOF", laid_io_ErrUnexpectedEOF), ("encoding/binary.errOverflow", laid_encoding_binary_errOverflow)] }
def FnXorBytesSaid : Prop := fnXorBytesRow.holds Tryz.pinned (OpenSpec.ofChange fnXorBytesSpec)

/-- ITS FALSE NEIGHBOUR: 'it returns false'. Refute it at one input. -/
def fnXorBytesWrong : ChangeSpec := { name := "fnXorBytes", fn := fun _ => fun
  | [d] => { results := [.lit (.bool false)], args := [d] }
  | _ => none }
def FnXorBytesWrongFalsely : Prop := fnXorBytesRow.holds Tryz.pinned (OpenSpec.ofChange fnXorBytesWrong)

/-- 'laws.FnXorReads': WHATEVER THE INPUT: true; the input reads as it did. -/
def fnXorReadsSpec : ChangeSpec := { name := "fnXorReads", fn := fun _ => fun
  | [d] => { results := [.lit (.bool true)], args := [d] }
  | _ => none }
def fnXorReadsRow : OpenClaim := { program := "ythkdjjejcbndnaagreatdoor", sum := "8b452b67a9ca5a4011f73975974571c7221cb012a2edbf2fa9526b2078831370", func := "pub-quillon/laws.FnXorReads", spec := "fnXorReads", inPlace := ["math.Float64frombits", "math.Float64bits"], unfollowed := true, recurses := true, named := ["encoding/binary.BigEndian", "io.EOF", "io.ErrUnexpectedEOF", "encoding/binary.errOverflow"], apart := false, laid := [("io.EOF", laid_io_EOF), ("io.ErrUnexpectedEOF", laid_io_ErrUnexpectedEOF), ("encoding/binary.errOverflow", laid_encoding_binary_errOverflow)] }
def FnXorReadsSaid : Prop := fnXorReadsRow.holds Tryz.pinned (OpenSpec.ofChange fnXorReadsSpec)

/-- ITS FALSE NEIGHBOUR: 'it returns false'. Refute it at one input. -/
def fnXorReadsWrong : ChangeSpec := { name := "fnXorReads", fn := fun _ => fun
  | [d] => { results := [.lit (.bool false)], args := [d] }
  | _ => none }
def FnXorReadsWrongFalsely : Prop := fnXorReadsRow.holds Tryz.pinned (OpenSpec.ofChange fnXorReadsWrong)

/-- 'laws.FnXorSize': WHATEVER THE INPUT: true; the input reads as it did. -/
def fnXorSizeSpec : ChangeSpec := { name := "fnXorSize", fn := fun _ => fun
  | [d1, d2, d3, d4] => { results := [.lit (.bool true)], args := [d1, d2, d3, d4] }
  | _ => none }
def fnXorSizeRow : OpenClaim := { program := "ythkdjjejcbndnaagreatdoor", sum := "8b452b67a9ca5a4011f73975974571c7221cb012a2edbf2fa9526b2078831370", func := "pub-quillon/laws.FnXorSize", spec := "fnXorSize", inPlace := ["math.Float64frombits", "math.Float64bits"], unfollowed := true, recurses := true, named := ["encoding/binary.BigEndian", "io.EOF", "io.ErrUnexpectedEOF", "encoding/binary.errOverflow"], apart := false, laid := [("io.EOF", laid_io_EOF), ("io.ErrUnexpectedEOF", laid_io_ErrUnexpectedEOF), ("encoding/binary.errOverflow", laid_encoding_binary_errOverflow)] }
def FnXorSizeSaid : Prop := fnXorSizeRow.holds Tryz.pinned (OpenSpec.ofChange fnXorSizeSpec)

/-- ITS FALSE NEIGHBOUR: 'it returns false'. Refute it at one input. -/
def fnXorSizeWrong : ChangeSpec := { name := "fnXorSize", fn := fun _ => fun
  | [d1, d2, d3, d4] => { results := [.lit (.bool false)], args := [d1, d2, d3, d4] }
  | _ => none }
def FnXorSizeWrongFalsely : Prop := fnXorSizeRow.holds Tryz.pinned (OpenSpec.ofChange fnXorSizeWrong)

/-- 'laws.FnXorCompact': WHATEVER THE INPUT: true; the input reads as it did. -/
def fnXorCompactSpec : ChangeSpec := { name := "fnXorCompact", fn := fun _ => fun
  | [d] => { results := [.lit (.bool true)], args := [d] }
  | _ => none }
def fnXorCompactRow : OpenClaim := { program := "ythkdjjejcbndnaagreatdoor", sum := "8b452b67a9ca5a4011f73975974571c7221cb012a2edbf2fa9526b2078831370", func := "pub-quillon/laws.FnXorCompact", spec := "fnXorCompact", inPlace := ["math.Float64frombits", "math.Float64bits"], unfollowed := true, recurses := true, named := ["encoding/binary.BigEndian", "io.EOF", "io.ErrUnexpectedEOF", "encoding/binary.errOverflow"], apart := false, laid := [("io.EOF", laid_io_EOF), ("io.ErrUnexpectedEOF", laid_io_ErrUnexpectedEOF), ("encoding/binary.errOverflow", laid_encoding_binary_errOverflow)] }
def FnXorCompactSaid : Prop := fnXorCompactRow.holds Tryz.pinned (OpenSpec.ofChange fnXorCompactSpec)

/-- ITS FALSE NEIGHBOUR: 'it returns false'. Refute it at one input. -/
def fnXorCompactWrong : ChangeSpec := { name := "fnXorCompact", fn := fun _ => fun
  | [d] => { results := [.lit (.bool false)], args := [d] }
  | _ => none }
def FnXorCompactWrongFalsely : Prop := fnXorCompactRow.holds Tryz.pinned (OpenSpec.ofChange fnXorCompactWrong)

/-- 'laws.FnPool': WHATEVER THE INPUT: true; the input reads as it did. -/
def fnPoolSpec : ChangeSpec := { name := "fnPool", fn := fun _ => fun
  | [d1, d2] => { results := [.lit (.bool true)], args := [d1, d2] }
  | _ => none }
def fnPoolRow : OpenClaim := { program := "ythkdjjejcbndnaagreatdoor", sum := "8b452b67a9ca5a4011f73975974571c7221cb012a2edbf2fa9526b2078831370", func := "pub-quillon/laws.FnPool", spec := "fnPool", inPlace := ["math.Float64frombits", "math.Float64bits"], unfollowed := true, recurses := true, named := ["encoding/binary.BigEndian", "io.EOF", "io.ErrUnexpectedEOF", "encoding/binary.errOverflow"], apart := false, laid := [("io.EOF", laid_io_EOF), ("io.ErrUnexpectedEOF", laid_io_ErrUnexpectedEOF), ("encoding/binary.errOverflow", laid_encoding_binary_errOverflow)] }
def FnPoolSaid : Prop := fnPoolRow.holds Tryz.pinned (OpenSpec.ofChange fnPoolSpec)

/-- ITS FALSE NEIGHBOUR: 'it returns false'. Refute it at one input. -/
def fnPoolWrong : ChangeSpec := { name := "fnPool", fn := fun _ => fun
  | [d1, d2] => { results := [.lit (.bool false)], args := [d1, d2] }
  | _ => none }
def FnPoolWrongFalsely : Prop := fnPoolRow.holds Tryz.pinned (OpenSpec.ofChange fnPoolWrong)

/-- 'laws.FnXorSeeks': WHATEVER THE INPUT: true; the input reads as it did. -/
def fnXorSeeksSpec : ChangeSpec := { name := "fnXorSeeks", fn := fun _ => fun
  | [d1, d2, d3] => { results := [.lit (.bool true)], args := [d1, d2, d3] }
  | _ => none }
def fnXorSeeksRow : OpenClaim := { program := "ythkdjjejcbndnaagreatdoor", sum := "8b452b67a9ca5a4011f73975974571c7221cb012a2edbf2fa9526b2078831370", func := "pub-quillon/laws.FnXorSeeks", spec := "fnXorSeeks", inPlace := ["math.Float64frombits", "math.Float64bits"], unfollowed := true, recurses := true, named := ["encoding/binary.BigEndian", "io.EOF", "io.ErrUnexpectedEOF", "encoding/binary.errOverflow"], apart := false, laid := [("io.EOF", laid_io_EOF), ("io.ErrUnexpectedEOF", laid_io_ErrUnexpectedEOF), ("encoding/binary.errOverflow", laid_encoding_binary_errOverflow)] }
def FnXorSeeksSaid : Prop := fnXorSeeksRow.holds Tryz.pinned (OpenSpec.ofChange fnXorSeeksSpec)

/-- ITS FALSE NEIGHBOUR: 'it returns false'. Refute it at one input. -/
def fnXorSeeksWrong : ChangeSpec := { name := "fnXorSeeks", fn := fun _ => fun
  | [d1, d2, d3] => { results := [.lit (.bool false)], args := [d1, d2, d3] }
  | _ => none }
def FnXorSeeksWrongFalsely : Prop := fnXorSeeksRow.holds Tryz.pinned (OpenSpec.ofChange fnXorSeeksWrong)

/-- 'laws.FnEmptyChunks': WHATEVER THE INPUT: true; the input reads as it did. -/
def fnEmptyChunksSpec : ChangeSpec := { name := "fnEmptyChunks", fn := fun _ => fun
  | [d] => { results := [.lit (.bool true)], args := [d] }
  | _ => none }
def fnEmptyChunksRow : OpenClaim := { program := "ythkdjjejcbndnaagreatdoor", sum := "8b452b67a9ca5a4011f73975974571c7221cb012a2edbf2fa9526b2078831370", func := "pub-quillon/laws.FnEmptyChunks", spec := "fnEmptyChunks", inPlace := ["math.Float64frombits", "math.Float64bits"], unfollowed := true, recurses := true, named := ["encoding/binary.BigEndian", "io.EOF", "io.ErrUnexpectedEOF", "encoding/binary.errOverflow"], apart := false, laid := [("io.EOF", laid_io_EOF), ("io.ErrUnexpectedEOF", laid_io_ErrUnexpectedEOF), ("encoding/binary.errOverflow", laid_encoding_binary_errOverflow)] }
def FnEmptyChunksSaid : Prop := fnEmptyChunksRow.holds Tryz.pinned (OpenSpec.ofChange fnEmptyChunksSpec)

/-- ITS FALSE NEIGHBOUR: 'it returns false'. Refute it at one input. -/
def fnEmptyChunksWrong : ChangeSpec := { name := "fnEmptyChunks", fn := fun _ => fun
  | [d] => { results := [.lit (.bool false)], args := [d] }
  | _ => none }
def FnEmptyChunksWrongFalsely : Prop := fnEmptyChunksRow.holds Tryz.pinned (OpenSpec.ofChange fnEmptyChunksWrong)

/- THE SECOND FORM. 'bulk': how many values and letters a reading holds, each counted each time it is reached (what is shared counts as often as it is met; a slice's spare places count too). A statement '..UptoSaid' is the law's where the arguments, and the package variables that the reading takes, are together of bulk at most 1048576: NARROWER than '..Said'. Prove '..Said' where nothing that the law and all that it calls make is longer than what came in: it says more and counts as full. Else prove '..UptoSaid'. A law counts once. -/
mutual
def uptoBulk {H : Type} : DataW H → Nat
  | .lit (.string bytes) => bytes.length + 1
  | .lit _ => 1
  | .nil => 1
  | .ptr d => uptoBulk d + 1
  | .slice elems spare => uptoBulkAll elems + uptoBulkAll spare + 1
  | .agg parts => uptoBulkAll parts + 1
  | .iface _ d => uptoBulk d + 1
  | .map entries => uptoBulkEntries entries + 1
  | .held _ => 1
def uptoBulkAll {H : Type} : List (DataW H) → Nat
  | [] => 0
  | d :: r => uptoBulk d + uptoBulkAll r
def uptoBulkEntries {H : Type} : List (Lit × DataW H) → Nat
  | [] => 0
  | x :: r => uptoBulkEntry x + uptoBulkEntries r
def uptoBulkEntry {H : Type} : Lit × DataW H → Nat
  | (.string bytes, d) => bytes.length + uptoBulk d + 1
  | (_, d) => uptoBulk d + 1
 end
def uptoSmall : (H : Type) → List (DataW H) → Bool := fun _ ds => decide (uptoBulkAll ds ≤ 1048576)
def OpenSpec.upto (s : _root_.Go.ChangeSpec) : _root_.Go.OpenSpec := { _root_.Go.OpenSpec.ofChange s with cond := some uptoSmall }

/-- 'laws.FnXorBack', WHERE WHAT IT READS IS OF BULK AT MOST 1048576: true; the input reads as it did. -/
def fnXorBackUptoRow : OpenClaim := { program := "ythkdjjejcbndnaagreatdoor", sum := "8b452b67a9ca5a4011f73975974571c7221cb012a2edbf2fa9526b2078831370", func := "pub-quillon/laws.FnXorBack", spec := "fnXorBack", inPlace := ["math.Float64frombits", "math.Float64bits"], unfollowed := true, recurses := true, named := ["encoding/binary.BigEndian", "io.EOF", "io.ErrUnexpectedEOF", "encoding/binary.errOverflow"], apart := false, laid := [("io.EOF", laid_io_EOF), ("io.ErrUnexpectedEOF", laid_io_ErrUnexpectedEOF), ("encoding/binary.errOverflow", laid_encoding_binary_errOverflow)], narrowed := true }
def FnXorBackUptoSaid : Prop := fnXorBackUptoRow.holds Tryz.pinned (OpenSpec.upto fnXorBackSpec)

/-- 'laws.FnXorBytes', WHERE WHAT IT READS IS OF BULK AT MOST 1048576: true; the input reads as it did. -/
def fnXorBytesUptoRow : OpenClaim := { program := "ythkdjjejcbndnaagreatdoor", sum := "8b452b67a9ca5a4011f73975974571c7221cb012a2edbf2fa9526b2078831370", func := "pub-quillon/laws.FnXorBytes", spec := "fnXorBytes", inPlace := ["math.Float64frombits", "math.Float64bits"], unfollowed := true, recurses := true, named := ["encoding/binary.BigEndian", "io.EOF", "io.ErrUnexpectedEOF", "encoding/binary.errOverflow"], apart := false, laid := [("io.EOF", laid_io_EOF), ("io.ErrUnexpectedEOF", laid_io_ErrUnexpectedEOF), ("encoding/binary.errOverflow", laid_encoding_binary_errOverflow)], narrowed := true }
def FnXorBytesUptoSaid : Prop := fnXorBytesUptoRow.holds Tryz.pinned (OpenSpec.upto fnXorBytesSpec)

/-- 'laws.FnXorReads', WHERE WHAT IT READS IS OF BULK AT MOST 1048576: true; the input reads as it did. -/
def fnXorReadsUptoRow : OpenClaim := { program := "ythkdjjejcbndnaagreatdoor", sum := "8b452b67a9ca5a4011f73975974571c7221cb012a2edbf2fa9526b2078831370", func := "pub-quillon/laws.FnXorReads", spec := "fnXorReads", inPlace := ["math.Float64frombits", "math.Float64bits"], unfollowed := true, recurses := true, named := ["encoding/binary.BigEndian", "io.EOF", "io.ErrUnexpectedEOF", "encoding/binary.errOverflow"], apart := false, laid := [("io.EOF", laid_io_EOF), ("io.ErrUnexpectedEOF", laid_io_ErrUnexpectedEOF), ("encoding/binary.errOverflow", laid_encoding_binary_errOverflow)], narrowed := true }
def FnXorReadsUptoSaid : Prop := fnXorReadsUptoRow.holds Tryz.pinned (OpenSpec.upto fnXorReadsSpec)

/-- 'laws.FnXorSize', WHERE WHAT IT READS IS OF BULK AT MOST 1048576: true; the input reads as it did. -/
def fnXorSizeUptoRow : OpenClaim := { program := "ythkdjjejcbndnaagreatdoor", sum := "8b452b67a9ca5a4011f73975974571c7221cb012a2edbf2fa9526b2078831370", func := "pub-quillon/laws.FnXorSize", spec := "fnXorSize", inPlace := ["math.Float64frombits", "math.Float64bits"], unfollowed := true, recurses := true, named := ["encoding/binary.BigEndian", "io.EOF", "io.ErrUnexpectedEOF", "encoding/binary.errOverflow"], apart := false, laid := [("io.EOF", laid_io_EOF), ("io.ErrUnexpectedEOF", laid_io_ErrUnexpectedEOF), ("encoding/binary.errOverflow", laid_encoding_binary_errOverflow)], narrowed := true }
def FnXorSizeUptoSaid : Prop := fnXorSizeUptoRow.holds Tryz.pinned (OpenSpec.upto fnXorSizeSpec)

/-- 'laws.FnXorCompact', WHERE WHAT IT READS IS OF BULK AT MOST 1048576: true; the input reads as it did. -/
def fnXorCompactUptoRow : OpenClaim := { program := "ythkdjjejcbndnaagreatdoor", sum := "8b452b67a9ca5a4011f73975974571c7221cb012a2edbf2fa9526b2078831370", func := "pub-quillon/laws.FnXorCompact", spec := "fnXorCompact", inPlace := ["math.Float64frombits", "math.Float64bits"], unfollowed := true, recurses := true, named := ["encoding/binary.BigEndian", "io.EOF", "io.ErrUnexpectedEOF", "encoding/binary.errOverflow"], apart := false, laid := [("io.EOF", laid_io_EOF), ("io.ErrUnexpectedEOF", laid_io_ErrUnexpectedEOF), ("encoding/binary.errOverflow", laid_encoding_binary_errOverflow)], narrowed := true }
def FnXorCompactUptoSaid : Prop := fnXorCompactUptoRow.holds Tryz.pinned (OpenSpec.upto fnXorCompactSpec)

/-- 'laws.FnPool', WHERE WHAT IT READS IS OF BULK AT MOST 1048576: true; the input reads as it did. -/
def fnPoolUptoRow : OpenClaim := { program := "ythkdjjejcbndnaagreatdoor", sum := "8b452b67a9ca5a4011f73975974571c7221cb012a2edbf2fa9526b2078831370", func := "pub-quillon/laws.FnPool", spec := "fnPool", inPlace := ["math.Float64frombits", "math.Float64bits"], unfollowed := true, recurses := true, named := ["encoding/binary.BigEndian", "io.EOF", "io.ErrUnexpectedEOF", "encoding/binary.errOverflow"], apart := false, laid := [("io.EOF", laid_io_EOF), ("io.ErrUnexpectedEOF", laid_io_ErrUnexpectedEOF), ("encoding/binary.errOverflow", laid_encoding_binary_errOverflow)], narrowed := true }
def FnPoolUptoSaid : Prop := fnPoolUptoRow.holds Tryz.pinned (OpenSpec.upto fnPoolSpec)

/-- 'laws.FnXorSeeks', WHERE WHAT IT READS IS OF BULK AT MOST 1048576: true; the input reads as it did. -/
def fnXorSeeksUptoRow : OpenClaim := { program := "ythkdjjejcbndnaagreatdoor", sum := "8b452b67a9ca5a4011f73975974571c7221cb012a2edbf2fa9526b2078831370", func := "pub-quillon/laws.FnXorSeeks", spec := "fnXorSeeks", inPlace := ["math.Float64frombits", "math.Float64bits"], unfollowed := true, recurses := true, named := ["encoding/binary.BigEndian", "io.EOF", "io.ErrUnexpectedEOF", "encoding/binary.errOverflow"], apart := false, laid := [("io.EOF", laid_io_EOF), ("io.ErrUnexpectedEOF", laid_io_ErrUnexpectedEOF), ("encoding/binary.errOverflow", laid_encoding_binary_errOverflow)], narrowed := true }
def FnXorSeeksUptoSaid : Prop := fnXorSeeksUptoRow.holds Tryz.pinned (OpenSpec.upto fnXorSeeksSpec)

/-- 'laws.FnEmptyChunks', WHERE WHAT IT READS IS OF BULK AT MOST 1048576: true; the input reads as it did. -/
def fnEmptyChunksUptoRow : OpenClaim := { program := "ythkdjjejcbndnaagreatdoor", sum := "8b452b67a9ca5a4011f73975974571c7221cb012a2edbf2fa9526b2078831370", func := "pub-quillon/laws.FnEmptyChunks", spec := "fnEmptyChunks", inPlace := ["math.Float64frombits", "math.Float64bits"], unfollowed := true, recurses := true, named := ["encoding/binary.BigEndian", "io.EOF", "io.ErrUnexpectedEOF", "encoding/binary.errOverflow"], apart := false, laid := [("io.EOF", laid_io_EOF), ("io.ErrUnexpectedEOF", laid_io_ErrUnexpectedEOF), ("encoding/binary.errOverflow", laid_encoding_binary_errOverflow)], narrowed := true }
def FnEmptyChunksUptoSaid : Prop := fnEmptyChunksUptoRow.holds Tryz.pinned (OpenSpec.upto fnEmptyChunksSpec)

end Rows
end Go.Proofs.YthkdjjejcbndnaaGreatDoor
