/-
  NARROWER THAN 'FOR EVERY INPUT', by the rows' own cells (each row's printed sentence says how): FnIntervals: laid · FnRawAny: laid · FnStringList: laid · FnPadding: laid · FnRawPostings: laid · FnBounds: laid · FnToc: laid · FnEncode: laid.
  DERIVED. THE GIVEN ROWS OF THIS SEAT. 8 by the template 'for every input the law returns true; each argument reads behind the call as it read before'; 0 by the template 'total and deterministic' (their statements: YtfllcbcokncgpaaGreatDoorTotals.lean).
  GIVEN WITH THE SEED: the statements are not yours to turn. If you find one false, say at which input.
  Laid BY PROGRAM, IN A SANDBOX (cutbox-rows.mjs): the forced cells as the released guide's own fill.sh prints them over the translation a802eaa61e345640… (all of the seat's roots in one cut). By AI agents, Wed Nov 11 2026. No macro, syntax, notation, axiom, sorry.
-/
import Derived.Test.YtfllcbcokncgpaaGreatDoorChecked
import GoSem.Claim
import GoSem.ClaimJoined
import GoSem.ClaimMapViews
import Derived.JoinedTies
import Derived.KernelRfl
namespace Go.Proofs.YtfllcbcokncgpaaGreatDoor
/- THE CELL 'sum', in the pinned program and in every row, IS THE sha256 OF THE DUMP (.gsa) THAT YtfllcbcokncgpaaGreatDoorProg.lean LOADS. Nothing in Lean hashes anything: it is a label: what it is worth is what the hold of that sum in a sandbox is worth. -/
noncomputable def Tryz.pinned : Pinned := { name := "ytfllcbcokncgpaagreatdoor", sum := "a802eaa61e3456401a7bb1f91da4ea598f3bc957a6bbad4cd173e579c7a77335", checked := Tryz.checked }
namespace Rows
def none {H : Type} : Left H := { results := [], args := [] }

/- WHAT THE LISTED PACKAGE-LEVEL VARIABLES READ AS WHEN THE CALL BEGINS. Each datum BY PROGRAM (the guide's laid-datum.mjs) off the statement by which the dump's own 'gosem.cut.vars' lays the variable. In a bare row this is a premise. The card (YtfllcbcokncgpaaGreatDoorCards.lean) ties it to the program's text. -/
def laid_pub_quillon_pub_prometheus_tsdb_encoding_ErrInvalidSize {H : Type} : DataW H := .iface "*errors.errorString" (.ptr (.agg [.lit (.string [105, 110, 118, 97, 108, 105, 100, 32, 115, 105, 122, 101])]))

/-- 'laws.FnIntervals': WHATEVER THE INPUT: true; the input reads as it did. -/
def fnIntervalsSpec : ChangeSpec := { name := "fnIntervals", fn := fun _ => fun
  | [d] => { results := [.lit (.bool true)], args := [d] }
  | _ => none }
def fnIntervalsRow : OpenClaim := { program := "ytfllcbcokncgpaagreatdoor", sum := "a802eaa61e3456401a7bb1f91da4ea598f3bc957a6bbad4cd173e579c7a77335", func := "pub-quillon/laws.FnIntervals", spec := "fnIntervals", inPlace := ["math.Float64frombits", "math.Float64bits"], unfollowed := true, recurses := true, named := ["encoding/binary.BigEndian", "pub-quillon/pub/prometheus/tsdb/encoding.ErrInvalidSize"], apart := false, laid := [("pub-quillon/pub/prometheus/tsdb/encoding.ErrInvalidSize", laid_pub_quillon_pub_prometheus_tsdb_encoding_ErrInvalidSize)] }
def FnIntervalsSaid : Prop := fnIntervalsRow.holds Tryz.pinned (OpenSpec.ofChange fnIntervalsSpec)

/-- ITS FALSE NEIGHBOUR: 'it returns false'. Refute it at one input. -/
def fnIntervalsWrong : ChangeSpec := { name := "fnIntervals", fn := fun _ => fun
  | [d] => { results := [.lit (.bool false)], args := [d] }
  | _ => none }
def FnIntervalsWrongFalsely : Prop := fnIntervalsRow.holds Tryz.pinned (OpenSpec.ofChange fnIntervalsWrong)

/-- 'laws.FnRawAny': WHATEVER THE INPUT: true; the input reads as it did. -/
def fnRawAnySpec : ChangeSpec := { name := "fnRawAny", fn := fun _ => fun
  | [d] => { results := [.lit (.bool true)], args := [d] }
  | _ => none }
def fnRawAnyRow : OpenClaim := { program := "ytfllcbcokncgpaagreatdoor", sum := "a802eaa61e3456401a7bb1f91da4ea598f3bc957a6bbad4cd173e579c7a77335", func := "pub-quillon/laws.FnRawAny", spec := "fnRawAny", inPlace := ["math.Float64frombits", "math.Float64bits"], unfollowed := true, recurses := true, named := ["encoding/binary.BigEndian", "pub-quillon/pub/prometheus/tsdb/encoding.ErrInvalidSize"], apart := false, laid := [("pub-quillon/pub/prometheus/tsdb/encoding.ErrInvalidSize", laid_pub_quillon_pub_prometheus_tsdb_encoding_ErrInvalidSize)] }
def FnRawAnySaid : Prop := fnRawAnyRow.holds Tryz.pinned (OpenSpec.ofChange fnRawAnySpec)

/-- ITS FALSE NEIGHBOUR: 'it returns false'. Refute it at one input. -/
def fnRawAnyWrong : ChangeSpec := { name := "fnRawAny", fn := fun _ => fun
  | [d] => { results := [.lit (.bool false)], args := [d] }
  | _ => none }
def FnRawAnyWrongFalsely : Prop := fnRawAnyRow.holds Tryz.pinned (OpenSpec.ofChange fnRawAnyWrong)

/-- 'laws.FnStringList': WHATEVER THE INPUT: true; the input reads as it did. -/
def fnStringListSpec : ChangeSpec := { name := "fnStringList", fn := fun _ => fun
  | [d] => { results := [.lit (.bool true)], args := [d] }
  | _ => none }
def fnStringListRow : OpenClaim := { program := "ytfllcbcokncgpaagreatdoor", sum := "a802eaa61e3456401a7bb1f91da4ea598f3bc957a6bbad4cd173e579c7a77335", func := "pub-quillon/laws.FnStringList", spec := "fnStringList", inPlace := ["math.Float64frombits", "math.Float64bits"], unfollowed := true, recurses := true, named := ["encoding/binary.BigEndian", "pub-quillon/pub/prometheus/tsdb/encoding.ErrInvalidSize"], apart := false, laid := [("pub-quillon/pub/prometheus/tsdb/encoding.ErrInvalidSize", laid_pub_quillon_pub_prometheus_tsdb_encoding_ErrInvalidSize)] }
def FnStringListSaid : Prop := fnStringListRow.holds Tryz.pinned (OpenSpec.ofChange fnStringListSpec)

/-- ITS FALSE NEIGHBOUR: 'it returns false'. Refute it at one input. -/
def fnStringListWrong : ChangeSpec := { name := "fnStringList", fn := fun _ => fun
  | [d] => { results := [.lit (.bool false)], args := [d] }
  | _ => none }
def FnStringListWrongFalsely : Prop := fnStringListRow.holds Tryz.pinned (OpenSpec.ofChange fnStringListWrong)

/-- 'laws.FnPadding': WHATEVER THE INPUT: true; the input reads as it did. -/
def fnPaddingSpec : ChangeSpec := { name := "fnPadding", fn := fun _ => fun
  | [d] => { results := [.lit (.bool true)], args := [d] }
  | _ => none }
def fnPaddingRow : OpenClaim := { program := "ytfllcbcokncgpaagreatdoor", sum := "a802eaa61e3456401a7bb1f91da4ea598f3bc957a6bbad4cd173e579c7a77335", func := "pub-quillon/laws.FnPadding", spec := "fnPadding", inPlace := ["math.Float64frombits", "math.Float64bits"], unfollowed := true, recurses := true, named := ["encoding/binary.BigEndian", "pub-quillon/pub/prometheus/tsdb/encoding.ErrInvalidSize"], apart := false, laid := [("pub-quillon/pub/prometheus/tsdb/encoding.ErrInvalidSize", laid_pub_quillon_pub_prometheus_tsdb_encoding_ErrInvalidSize)] }
def FnPaddingSaid : Prop := fnPaddingRow.holds Tryz.pinned (OpenSpec.ofChange fnPaddingSpec)

/-- ITS FALSE NEIGHBOUR: 'it returns false'. Refute it at one input. -/
def fnPaddingWrong : ChangeSpec := { name := "fnPadding", fn := fun _ => fun
  | [d] => { results := [.lit (.bool false)], args := [d] }
  | _ => none }
def FnPaddingWrongFalsely : Prop := fnPaddingRow.holds Tryz.pinned (OpenSpec.ofChange fnPaddingWrong)

/-- 'laws.FnRawPostings': WHATEVER THE INPUT: true; the input reads as it did. -/
def fnRawPostingsSpec : ChangeSpec := { name := "fnRawPostings", fn := fun _ => fun
  | [d] => { results := [.lit (.bool true)], args := [d] }
  | _ => none }
def fnRawPostingsRow : OpenClaim := { program := "ytfllcbcokncgpaagreatdoor", sum := "a802eaa61e3456401a7bb1f91da4ea598f3bc957a6bbad4cd173e579c7a77335", func := "pub-quillon/laws.FnRawPostings", spec := "fnRawPostings", inPlace := ["math.Float64frombits", "math.Float64bits"], unfollowed := true, recurses := true, named := ["encoding/binary.BigEndian", "pub-quillon/pub/prometheus/tsdb/encoding.ErrInvalidSize"], apart := false, laid := [("pub-quillon/pub/prometheus/tsdb/encoding.ErrInvalidSize", laid_pub_quillon_pub_prometheus_tsdb_encoding_ErrInvalidSize)] }
def FnRawPostingsSaid : Prop := fnRawPostingsRow.holds Tryz.pinned (OpenSpec.ofChange fnRawPostingsSpec)

/-- ITS FALSE NEIGHBOUR: 'it returns false'. Refute it at one input. -/
def fnRawPostingsWrong : ChangeSpec := { name := "fnRawPostings", fn := fun _ => fun
  | [d] => { results := [.lit (.bool false)], args := [d] }
  | _ => none }
def FnRawPostingsWrongFalsely : Prop := fnRawPostingsRow.holds Tryz.pinned (OpenSpec.ofChange fnRawPostingsWrong)

/-- 'laws.FnBounds': WHATEVER THE INPUT: true; the input reads as it did. -/
def fnBoundsSpec : ChangeSpec := { name := "fnBounds", fn := fun _ => fun
  | [d1, d2, d3] => { results := [.lit (.bool true)], args := [d1, d2, d3] }
  | _ => none }
def fnBoundsRow : OpenClaim := { program := "ytfllcbcokncgpaagreatdoor", sum := "a802eaa61e3456401a7bb1f91da4ea598f3bc957a6bbad4cd173e579c7a77335", func := "pub-quillon/laws.FnBounds", spec := "fnBounds", inPlace := ["math.Float64frombits", "math.Float64bits"], unfollowed := true, recurses := true, named := ["encoding/binary.BigEndian", "pub-quillon/pub/prometheus/tsdb/encoding.ErrInvalidSize"], apart := false, laid := [("pub-quillon/pub/prometheus/tsdb/encoding.ErrInvalidSize", laid_pub_quillon_pub_prometheus_tsdb_encoding_ErrInvalidSize)] }
def FnBoundsSaid : Prop := fnBoundsRow.holds Tryz.pinned (OpenSpec.ofChange fnBoundsSpec)

/-- ITS FALSE NEIGHBOUR: 'it returns false'. Refute it at one input. -/
def fnBoundsWrong : ChangeSpec := { name := "fnBounds", fn := fun _ => fun
  | [d1, d2, d3] => { results := [.lit (.bool false)], args := [d1, d2, d3] }
  | _ => none }
def FnBoundsWrongFalsely : Prop := fnBoundsRow.holds Tryz.pinned (OpenSpec.ofChange fnBoundsWrong)

/-- 'laws.FnToc': WHATEVER THE INPUT: true; the input reads as it did. -/
def fnTocSpec : ChangeSpec := { name := "fnToc", fn := fun _ => fun
  | [d] => { results := [.lit (.bool true)], args := [d] }
  | _ => none }
def fnTocRow : OpenClaim := { program := "ytfllcbcokncgpaagreatdoor", sum := "a802eaa61e3456401a7bb1f91da4ea598f3bc957a6bbad4cd173e579c7a77335", func := "pub-quillon/laws.FnToc", spec := "fnToc", inPlace := ["math.Float64frombits", "math.Float64bits"], unfollowed := true, recurses := true, named := ["encoding/binary.BigEndian", "pub-quillon/pub/prometheus/tsdb/encoding.ErrInvalidSize"], apart := false, laid := [("pub-quillon/pub/prometheus/tsdb/encoding.ErrInvalidSize", laid_pub_quillon_pub_prometheus_tsdb_encoding_ErrInvalidSize)] }
def FnTocSaid : Prop := fnTocRow.holds Tryz.pinned (OpenSpec.ofChange fnTocSpec)

/-- ITS FALSE NEIGHBOUR: 'it returns false'. Refute it at one input. -/
def fnTocWrong : ChangeSpec := { name := "fnToc", fn := fun _ => fun
  | [d] => { results := [.lit (.bool false)], args := [d] }
  | _ => none }
def FnTocWrongFalsely : Prop := fnTocRow.holds Tryz.pinned (OpenSpec.ofChange fnTocWrong)

/-- 'laws.FnEncode': WHATEVER THE INPUT: true; the input reads as it did. -/
def fnEncodeSpec : ChangeSpec := { name := "fnEncode", fn := fun _ => fun
  | [d] => { results := [.lit (.bool true)], args := [d] }
  | _ => none }
def fnEncodeRow : OpenClaim := { program := "ytfllcbcokncgpaagreatdoor", sum := "a802eaa61e3456401a7bb1f91da4ea598f3bc957a6bbad4cd173e579c7a77335", func := "pub-quillon/laws.FnEncode", spec := "fnEncode", inPlace := ["math.Float64frombits", "math.Float64bits"], unfollowed := true, recurses := true, named := ["encoding/binary.BigEndian", "pub-quillon/pub/prometheus/tsdb/encoding.ErrInvalidSize"], apart := false, laid := [("pub-quillon/pub/prometheus/tsdb/encoding.ErrInvalidSize", laid_pub_quillon_pub_prometheus_tsdb_encoding_ErrInvalidSize)] }
def FnEncodeSaid : Prop := fnEncodeRow.holds Tryz.pinned (OpenSpec.ofChange fnEncodeSpec)

/-- ITS FALSE NEIGHBOUR: 'it returns false'. Refute it at one input. -/
def fnEncodeWrong : ChangeSpec := { name := "fnEncode", fn := fun _ => fun
  | [d] => { results := [.lit (.bool false)], args := [d] }
  | _ => none }
def FnEncodeWrongFalsely : Prop := fnEncodeRow.holds Tryz.pinned (OpenSpec.ofChange fnEncodeWrong)

/- THE SECOND FORM. 'bulk': how many values and letters a reading holds, each counted each time it is reached (what is shared counts as often as it is met; a slice's spare places count too). A statement '..UptoSaid' is the law's where the arguments, and the package variables that the reading takes, are together of bulk at most 1048576: NARROWER than '..Said'. Prove '..Said' where nothing that the law and all that it calls make is longer than what came in: it says more and counts as full. Else prove '..UptoSaid'. A law counts once. -/
mutual
def uptoBulk {H : Type} : DataW H → Nat
  | .lit (.string bytes) => bytes.length + 1
  | .lit _ => 1
  | .nil => 1
  | .ptr d => uptoBulk d + 1
  | .slice elems spare => uptoBulkAll elems + uptoBulkAll spare + 1
  | .agg parts => uptoBulkAll parts + 1
  | .iface _ d => uptoBulk d + 1
  | .map entries => uptoBulkEntries entries + 1
  | .held _ => 1
def uptoBulkAll {H : Type} : List (DataW H) → Nat
  | [] => 0
  | d :: r => uptoBulk d + uptoBulkAll r
def uptoBulkEntries {H : Type} : List (Lit × DataW H) → Nat
  | [] => 0
  | x :: r => uptoBulkEntry x + uptoBulkEntries r
def uptoBulkEntry {H : Type} : Lit × DataW H → Nat
  | (.string bytes, d) => bytes.length + uptoBulk d + 1
  | (_, d) => uptoBulk d + 1
 end
def uptoSmall : (H : Type) → List (DataW H) → Bool := fun _ ds => decide (uptoBulkAll ds ≤ 1048576)
def OpenSpec.upto (s : _root_.Go.ChangeSpec) : _root_.Go.OpenSpec := { _root_.Go.OpenSpec.ofChange s with cond := some uptoSmall }

/-- 'laws.FnIntervals', WHERE WHAT IT READS IS OF BULK AT MOST 1048576: true; the input reads as it did. -/
def fnIntervalsUptoRow : OpenClaim := { program := "ytfllcbcokncgpaagreatdoor", sum := "a802eaa61e3456401a7bb1f91da4ea598f3bc957a6bbad4cd173e579c7a77335", func := "pub-quillon/laws.FnIntervals", spec := "fnIntervals", inPlace := ["math.Float64frombits", "math.Float64bits"], unfollowed := true, recurses := true, named := ["encoding/binary.BigEndian", "pub-quillon/pub/prometheus/tsdb/encoding.ErrInvalidSize"], apart := false, laid := [("pub-quillon/pub/prometheus/tsdb/encoding.ErrInvalidSize", laid_pub_quillon_pub_prometheus_tsdb_encoding_ErrInvalidSize)], narrowed := true }
def FnIntervalsUptoSaid : Prop := fnIntervalsUptoRow.holds Tryz.pinned (OpenSpec.upto fnIntervalsSpec)

/-- 'laws.FnRawAny', WHERE WHAT IT READS IS OF BULK AT MOST 1048576: true; the input reads as it did. -/
def fnRawAnyUptoRow : OpenClaim := { program := "ytfllcbcokncgpaagreatdoor", sum := "a802eaa61e3456401a7bb1f91da4ea598f3bc957a6bbad4cd173e579c7a77335", func := "pub-quillon/laws.FnRawAny", spec := "fnRawAny", inPlace := ["math.Float64frombits", "math.Float64bits"], unfollowed := true, recurses := true, named := ["encoding/binary.BigEndian", "pub-quillon/pub/prometheus/tsdb/encoding.ErrInvalidSize"], apart := false, laid := [("pub-quillon/pub/prometheus/tsdb/encoding.ErrInvalidSize", laid_pub_quillon_pub_prometheus_tsdb_encoding_ErrInvalidSize)], narrowed := true }
def FnRawAnyUptoSaid : Prop := fnRawAnyUptoRow.holds Tryz.pinned (OpenSpec.upto fnRawAnySpec)

/-- 'laws.FnStringList', WHERE WHAT IT READS IS OF BULK AT MOST 1048576: true; the input reads as it did. -/
def fnStringListUptoRow : OpenClaim := { program := "ytfllcbcokncgpaagreatdoor", sum := "a802eaa61e3456401a7bb1f91da4ea598f3bc957a6bbad4cd173e579c7a77335", func := "pub-quillon/laws.FnStringList", spec := "fnStringList", inPlace := ["math.Float64frombits", "math.Float64bits"], unfollowed := true, recurses := true, named := ["encoding/binary.BigEndian", "pub-quillon/pub/prometheus/tsdb/encoding.ErrInvalidSize"], apart := false, laid := [("pub-quillon/pub/prometheus/tsdb/encoding.ErrInvalidSize", laid_pub_quillon_pub_prometheus_tsdb_encoding_ErrInvalidSize)], narrowed := true }
def FnStringListUptoSaid : Prop := fnStringListUptoRow.holds Tryz.pinned (OpenSpec.upto fnStringListSpec)

/-- 'laws.FnPadding', WHERE WHAT IT READS IS OF BULK AT MOST 1048576: true; the input reads as it did. -/
def fnPaddingUptoRow : OpenClaim := { program := "ytfllcbcokncgpaagreatdoor", sum := "a802eaa61e3456401a7bb1f91da4ea598f3bc957a6bbad4cd173e579c7a77335", func := "pub-quillon/laws.FnPadding", spec := "fnPadding", inPlace := ["math.Float64frombits", "math.Float64bits"], unfollowed := true, recurses := true, named := ["encoding/binary.BigEndian", "pub-quillon/pub/prometheus/tsdb/encoding.ErrInvalidSize"], apart := false, laid := [("pub-quillon/pub/prometheus/tsdb/encoding.ErrInvalidSize", laid_pub_quillon_pub_prometheus_tsdb_encoding_ErrInvalidSize)], narrowed := true }
def FnPaddingUptoSaid : Prop := fnPaddingUptoRow.holds Tryz.pinned (OpenSpec.upto fnPaddingSpec)

/-- 'laws.FnRawPostings', WHERE WHAT IT READS IS OF BULK AT MOST 1048576: true; the input reads as it did. -/
def fnRawPostingsUptoRow : OpenClaim := { program := "ytfllcbcokncgpaagreatdoor", sum := "a802eaa61e3456401a7bb1f91da4ea598f3bc957a6bbad4cd173e579c7a77335", func := "pub-quillon/laws.FnRawPostings", spec := "fnRawPostings", inPlace := ["math.Float64frombits", "math.Float64bits"], unfollowed := true, recurses := true, named := ["encoding/binary.BigEndian", "pub-quillon/pub/prometheus/tsdb/encoding.ErrInvalidSize"], apart := false, laid := [("pub-quillon/pub/prometheus/tsdb/encoding.ErrInvalidSize", laid_pub_quillon_pub_prometheus_tsdb_encoding_ErrInvalidSize)], narrowed := true }
def FnRawPostingsUptoSaid : Prop := fnRawPostingsUptoRow.holds Tryz.pinned (OpenSpec.upto fnRawPostingsSpec)

/-- 'laws.FnBounds', WHERE WHAT IT READS IS OF BULK AT MOST 1048576: true; the input reads as it did. -/
def fnBoundsUptoRow : OpenClaim := { program := "ytfllcbcokncgpaagreatdoor", sum := "a802eaa61e3456401a7bb1f91da4ea598f3bc957a6bbad4cd173e579c7a77335", func := "pub-quillon/laws.FnBounds", spec := "fnBounds", inPlace := ["math.Float64frombits", "math.Float64bits"], unfollowed := true, recurses := true, named := ["encoding/binary.BigEndian", "pub-quillon/pub/prometheus/tsdb/encoding.ErrInvalidSize"], apart := false, laid := [("pub-quillon/pub/prometheus/tsdb/encoding.ErrInvalidSize", laid_pub_quillon_pub_prometheus_tsdb_encoding_ErrInvalidSize)], narrowed := true }
def FnBoundsUptoSaid : Prop := fnBoundsUptoRow.holds Tryz.pinned (OpenSpec.upto fnBoundsSpec)

/-- 'laws.FnToc', WHERE WHAT IT READS IS OF BULK AT MOST 1048576: true; the input reads as it did. -/
def fnTocUptoRow : OpenClaim := { program := "ytfllcbcokncgpaagreatdoor", sum := "a802eaa61e3456401a7bb1f91da4ea598f3bc957a6bbad4cd173e579c7a77335", func := "pub-quillon/laws.FnToc", spec := "fnToc", inPlace := ["math.Float64frombits", "math.Float64bits"], unfollowed := true, recurses := true, named := ["encoding/binary.BigEndian", "pub-quillon/pub/prometheus/tsdb/encoding.ErrInvalidSize"], apart := false, laid := [("pub-quillon/pub/prometheus/tsdb/encoding.ErrInvalidSize", laid_pub_quillon_pub_prometheus_tsdb_encoding_ErrInvalidSize)], narrowed := true }
def FnTocUptoSaid : Prop := fnTocUptoRow.holds Tryz.pinned (OpenSpec.upto fnTocSpec)

/-- 'laws.FnEncode', WHERE WHAT IT READS IS OF BULK AT MOST 1048576: true; the input reads as it did. -/
def fnEncodeUptoRow : OpenClaim := { program := "ytfllcbcokncgpaagreatdoor", sum := "a802eaa61e3456401a7bb1f91da4ea598f3bc957a6bbad4cd173e579c7a77335", func := "pub-quillon/laws.FnEncode", spec := "fnEncode", inPlace := ["math.Float64frombits", "math.Float64bits"], unfollowed := true, recurses := true, named := ["encoding/binary.BigEndian", "pub-quillon/pub/prometheus/tsdb/encoding.ErrInvalidSize"], apart := false, laid := [("pub-quillon/pub/prometheus/tsdb/encoding.ErrInvalidSize", laid_pub_quillon_pub_prometheus_tsdb_encoding_ErrInvalidSize)], narrowed := true }
def FnEncodeUptoSaid : Prop := fnEncodeUptoRow.holds Tryz.pinned (OpenSpec.upto fnEncodeSpec)

end Rows
end Go.Proofs.YtfllcbcokncgpaaGreatDoor
