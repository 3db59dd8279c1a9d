/-
  NARROWER THAN 'FOR EVERY INPUT', by the rows' own cells (each row's printed sentence says how): FnDecode: laid · FnEncode: laid · FnDecodeAt: laid.
  DERIVED. THE GIVEN ROWS OF THIS SEAT. 3 by the template 'for every input the law returns true; each argument reads behind the call as it read before'; 0 by the template 'total and deterministic' (their statements: YtkbkggamfkadnaaGreatDoorTotals.lean).
  GIVEN WITH THE SEED: the statements are not yours to turn. If you find one false, say at which input.
  Laid BY PROGRAM, IN A SANDBOX (cutbox-rows.mjs): the forced cells as the released guide's own fill.sh prints them over the translation 9024293faa982a9f… (all of the seat's roots in one cut). By AI agents, Wed Nov 11 2026. No macro, syntax, notation, axiom, sorry.
-/
import Derived.Test.YtkbkggamfkadnaaGreatDoorChecked
import GoSem.Claim
import GoSem.ClaimJoined
import GoSem.ClaimMapViews
import Derived.JoinedTies
import Derived.KernelRfl
namespace Go.Proofs.YtkbkggamfkadnaaGreatDoor
/- THE CELL 'sum', in the pinned program and in every row, IS THE sha256 OF THE DUMP (.gsa) THAT YtkbkggamfkadnaaGreatDoorProg.lean LOADS. Nothing in Lean hashes anything: it is a label: what it is worth is what the hold of that sum in a sandbox is worth. -/
noncomputable def Tryz.pinned : Pinned := { name := "ytkbkggamfkadnaagreatdoor", sum := "9024293faa982a9fba61a1468e03884ef34e131cb7c6fe654f44c74f471d801c", checked := Tryz.checked }
namespace Rows
def none {H : Type} : Left H := { results := [], args := [] }

/- WHAT THE LISTED PACKAGE-LEVEL VARIABLES READ AS WHEN THE CALL BEGINS. Each datum BY PROGRAM (the guide's laid-datum.mjs) off the statement by which the dump's own 'gosem.cut.vars' lays the variable. In a bare row this is a premise. The card (YtkbkggamfkadnaaGreatDoorCards.lean) ties it to the program's text. -/
def laid_pub_quillon_pub_prometheus_tsdb_encoding_ErrInvalidSize {H : Type} : DataW H := .iface "*errors.errorString" (.ptr (.agg [.lit (.string [105, 110, 118, 97, 108, 105, 100, 32, 115, 105, 122, 101])]))
def laid_pub_quillon_pub_prometheus_tsdb_encoding_ErrInvalidChecksum {H : Type} : DataW H := .iface "*errors.errorString" (.ptr (.agg [.lit (.string [105, 110, 118, 97, 108, 105, 100, 32, 99, 104, 101, 99, 107, 115, 117, 109])]))

/-- 'laws.FnDecode': WHATEVER THE INPUT: true; the input reads as it did. -/
def fnDecodeSpec : ChangeSpec := { name := "fnDecode", fn := fun _ => fun
  | [d1, d2] => { results := [.lit (.bool true)], args := [d1, d2] }
  | _ => none }
def fnDecodeRow : OpenClaim := { program := "ytkbkggamfkadnaagreatdoor", sum := "9024293faa982a9fba61a1468e03884ef34e131cb7c6fe654f44c74f471d801c", func := "pub-quillon/laws.FnDecode", spec := "fnDecode", inPlace := ["math.Float64frombits", "math.Float64bits"], unfollowed := true, recurses := true, named := ["encoding/binary.BigEndian", "pub-quillon/pub/prometheus/tsdb/encoding.ErrInvalidSize"], apart := false, laid := [("pub-quillon/pub/prometheus/tsdb/encoding.ErrInvalidSize", laid_pub_quillon_pub_prometheus_tsdb_encoding_ErrInvalidSize)] }
def FnDecodeSaid : Prop := fnDecodeRow.holds Tryz.pinned (OpenSpec.ofChange fnDecodeSpec)

/-- ITS FALSE NEIGHBOUR: 'it returns false'. Refute it at one input. -/
def fnDecodeWrong : ChangeSpec := { name := "fnDecode", fn := fun _ => fun
  | [d1, d2] => { results := [.lit (.bool false)], args := [d1, d2] }
  | _ => none }
def FnDecodeWrongFalsely : Prop := fnDecodeRow.holds Tryz.pinned (OpenSpec.ofChange fnDecodeWrong)

/-- 'laws.FnEncode': WHATEVER THE INPUT: true; the input reads as it did. -/
def fnEncodeSpec : ChangeSpec := { name := "fnEncode", fn := fun _ => fun
  | [d] => { results := [.lit (.bool true)], args := [d] }
  | _ => none }
def fnEncodeRow : OpenClaim := { program := "ytkbkggamfkadnaagreatdoor", sum := "9024293faa982a9fba61a1468e03884ef34e131cb7c6fe654f44c74f471d801c", func := "pub-quillon/laws.FnEncode", spec := "fnEncode", inPlace := ["math.Float64frombits", "math.Float64bits"], unfollowed := true, recurses := true, named := ["encoding/binary.BigEndian", "pub-quillon/pub/prometheus/tsdb/encoding.ErrInvalidSize"], apart := false, laid := [("pub-quillon/pub/prometheus/tsdb/encoding.ErrInvalidSize", laid_pub_quillon_pub_prometheus_tsdb_encoding_ErrInvalidSize)] }
def FnEncodeSaid : Prop := fnEncodeRow.holds Tryz.pinned (OpenSpec.ofChange fnEncodeSpec)

/-- ITS FALSE NEIGHBOUR: 'it returns false'. Refute it at one input. -/
def fnEncodeWrong : ChangeSpec := { name := "fnEncode", fn := fun _ => fun
  | [d] => { results := [.lit (.bool false)], args := [d] }
  | _ => none }
def FnEncodeWrongFalsely : Prop := fnEncodeRow.holds Tryz.pinned (OpenSpec.ofChange fnEncodeWrong)

/-- 'laws.FnDecodeAt': WHATEVER THE INPUT: true; the input reads as it did. -/
def fnDecodeAtSpec : ChangeSpec := { name := "fnDecodeAt", fn := fun _ => fun
  | [d1, d2, d3] => { results := [.lit (.bool true)], args := [d1, d2, d3] }
  | _ => none }
def fnDecodeAtRow : OpenClaim := { program := "ytkbkggamfkadnaagreatdoor", sum := "9024293faa982a9fba61a1468e03884ef34e131cb7c6fe654f44c74f471d801c", func := "pub-quillon/laws.FnDecodeAt", spec := "fnDecodeAt", inPlace := ["math.Float64frombits", "math.Float64bits"], unfollowed := true, recurses := true, named := ["encoding/binary.BigEndian", "pub-quillon/pub/prometheus/tsdb/encoding.ErrInvalidSize", "pub-quillon/pub/prometheus/tsdb/encoding.ErrInvalidChecksum"], apart := false, laid := [("pub-quillon/pub/prometheus/tsdb/encoding.ErrInvalidSize", laid_pub_quillon_pub_prometheus_tsdb_encoding_ErrInvalidSize), ("pub-quillon/pub/prometheus/tsdb/encoding.ErrInvalidChecksum", laid_pub_quillon_pub_prometheus_tsdb_encoding_ErrInvalidChecksum)] }
def FnDecodeAtSaid : Prop := fnDecodeAtRow.holds Tryz.pinned (OpenSpec.ofChange fnDecodeAtSpec)

/-- ITS FALSE NEIGHBOUR: 'it returns false'. Refute it at one input. -/
def fnDecodeAtWrong : ChangeSpec := { name := "fnDecodeAt", fn := fun _ => fun
  | [d1, d2, d3] => { results := [.lit (.bool false)], args := [d1, d2, d3] }
  | _ => none }
def FnDecodeAtWrongFalsely : Prop := fnDecodeAtRow.holds Tryz.pinned (OpenSpec.ofChange fnDecodeAtWrong)

/- THE SECOND FORM. 'bulk': how many values and letters a reading holds, each counted each time it is reached (what is shared counts as often as it is met; a slice's spare places count too). A statement '..UptoSaid' is the law's where the arguments, and the package variables that the reading takes, are together of bulk at most 1048576: NARROWER than '..Said'. Prove '..Said' where nothing that the law and all that it calls make is longer than what came in: it says more and counts as full. Else prove '..UptoSaid'. A law counts once. -/
mutual
def uptoBulk {H : Type} : DataW H → Nat
  | .lit (.string bytes) => bytes.length + 1
  | .lit _ => 1
  | .nil => 1
  | .ptr d => uptoBulk d + 1
  | .slice elems spare => uptoBulkAll elems + uptoBulkAll spare + 1
  | .agg parts => uptoBulkAll parts + 1
  | .iface _ d => uptoBulk d + 1
  | .map entries => uptoBulkEntries entries + 1
  | .held _ => 1
def uptoBulkAll {H : Type} : List (DataW H) → Nat
  | [] => 0
  | d :: r => uptoBulk d + uptoBulkAll r
def uptoBulkEntries {H : Type} : List (Lit × DataW H) → Nat
  | [] => 0
  | x :: r => uptoBulkEntry x + uptoBulkEntries r
def uptoBulkEntry {H : Type} : Lit × DataW H → Nat
  | (.string bytes, d) => bytes.length + uptoBulk d + 1
  | (_, d) => uptoBulk d + 1
 end
def uptoSmall : (H : Type) → List (DataW H) → Bool := fun _ ds => decide (uptoBulkAll ds ≤ 1048576)
def OpenSpec.upto (s : _root_.Go.ChangeSpec) : _root_.Go.OpenSpec := { _root_.Go.OpenSpec.ofChange s with cond := some uptoSmall }

/-- 'laws.FnDecode', WHERE WHAT IT READS IS OF BULK AT MOST 1048576: true; the input reads as it did. -/
def fnDecodeUptoRow : OpenClaim := { program := "ytkbkggamfkadnaagreatdoor", sum := "9024293faa982a9fba61a1468e03884ef34e131cb7c6fe654f44c74f471d801c", func := "pub-quillon/laws.FnDecode", spec := "fnDecode", inPlace := ["math.Float64frombits", "math.Float64bits"], unfollowed := true, recurses := true, named := ["encoding/binary.BigEndian", "pub-quillon/pub/prometheus/tsdb/encoding.ErrInvalidSize"], apart := false, laid := [("pub-quillon/pub/prometheus/tsdb/encoding.ErrInvalidSize", laid_pub_quillon_pub_prometheus_tsdb_encoding_ErrInvalidSize)], narrowed := true }
def FnDecodeUptoSaid : Prop := fnDecodeUptoRow.holds Tryz.pinned (OpenSpec.upto fnDecodeSpec)

/-- 'laws.FnEncode', WHERE WHAT IT READS IS OF BULK AT MOST 1048576: true; the input reads as it did. -/
def fnEncodeUptoRow : OpenClaim := { program := "ytkbkggamfkadnaagreatdoor", sum := "9024293faa982a9fba61a1468e03884ef34e131cb7c6fe654f44c74f471d801c", func := "pub-quillon/laws.FnEncode", spec := "fnEncode", inPlace := ["math.Float64frombits", "math.Float64bits"], unfollowed := true, recurses := true, named := ["encoding/binary.BigEndian", "pub-quillon/pub/prometheus/tsdb/encoding.ErrInvalidSize"], apart := false, laid := [("pub-quillon/pub/prometheus/tsdb/encoding.ErrInvalidSize", laid_pub_quillon_pub_prometheus_tsdb_encoding_ErrInvalidSize)], narrowed := true }
def FnEncodeUptoSaid : Prop := fnEncodeUptoRow.holds Tryz.pinned (OpenSpec.upto fnEncodeSpec)

/-- 'laws.FnDecodeAt', WHERE WHAT IT READS IS OF BULK AT MOST 1048576: true; the input reads as it did. -/
def fnDecodeAtUptoRow : OpenClaim := { program := "ytkbkggamfkadnaagreatdoor", sum := "9024293faa982a9fba61a1468e03884ef34e131cb7c6fe654f44c74f471d801c", func := "pub-quillon/laws.FnDecodeAt", spec := "fnDecodeAt", inPlace := ["math.Float64frombits", "math.Float64bits"], unfollowed := true, recurses := true, named := ["encoding/binary.BigEndian", "pub-quillon/pub/prometheus/tsdb/encoding.ErrInvalidSize", "pub-quillon/pub/prometheus/tsdb/encoding.ErrInvalidChecksum"], apart := false, laid := [("pub-quillon/pub/prometheus/tsdb/encoding.ErrInvalidSize", laid_pub_quillon_pub_prometheus_tsdb_encoding_ErrInvalidSize), ("pub-quillon/pub/prometheus/tsdb/encoding.ErrInvalidChecksum", laid_pub_quillon_pub_prometheus_tsdb_encoding_ErrInvalidChecksum)], narrowed := true }
def FnDecodeAtUptoSaid : Prop := fnDecodeAtUptoRow.holds Tryz.pinned (OpenSpec.upto fnDecodeAtSpec)

end Rows
end Go.Proofs.YtkbkggamfkadnaaGreatDoor
