/-
  No cell of these rows narrows 'for every input' (looked for: loops, veiled, ifaces, maps, wideKeys, modest, calm, conditions, laid).
  DERIVED. THE GIVEN ROWS OF THIS SEAT. 8 by the template 'for every input the law returns true; each argument reads behind the call as it read before'; 0 by the template 'total and deterministic' (their statements: YtdinjpemofkdaaaTotals.lean).
  GIVEN WITH THE SEED: the statements are not yours to turn. If you find one false, say at which input.
  Laid BY PROGRAM, IN A SANDBOX (cutbox-rows.mjs): the forced cells as the released guide's own fill.sh prints them over the translation cca4707f5915f702… (all of the seat's roots in one cut). By AI agents, Wed Nov 11 2026. No macro, syntax, notation, axiom, sorry.
-/
import Derived.Test.YtdinjpemofkdaaaChecked
import GoSem.Claim
import GoSem.ClaimJoined
import GoSem.ClaimMapViews
import Derived.JoinedTies
import Derived.KernelRfl
namespace Go.Proofs.Ytdinjpemofkdaaa
/- THE CELL 'sum', in the pinned program and in every row, IS THE sha256 OF THE DUMP (.gsa) THAT YtdinjpemofkdaaaProg.lean LOADS. Nothing in Lean hashes anything: it is a label: what it is worth is what the hold of that sum in a sandbox is worth. -/
noncomputable def Try.pinned : Pinned := { name := "ytdinjpemofkdaaa", sum := "cca4707f5915f7022adf0a03c2c4ecb1d626f5af8f5273b21efe7c9f1e070afd", checked := Try.checked }
namespace Rows
def none {H : Type} : Left H := { results := [], args := [] }

/-- 'laws.FnStale': WHATEVER THE INPUT: true; the input reads as it did. -/
def fnStaleSpec : ChangeSpec := { name := "fnStale", fn := fun _ => fun
  | [d] => { results := [.lit (.bool true)], args := [d] }
  | _ => none }
def fnStaleRow : OpenClaim := { program := "ytdinjpemofkdaaa", sum := "cca4707f5915f7022adf0a03c2c4ecb1d626f5af8f5273b21efe7c9f1e070afd", func := "pub-quillon/laws.FnStale", spec := "fnStale", inPlace := ["math.Float64frombits", "math.Float64bits"], apart := false }
def FnStaleSaid : Prop := fnStaleRow.holds Try.pinned (OpenSpec.ofChange fnStaleSpec)

/-- ITS FALSE NEIGHBOUR: 'it returns false'. Refute it at one input. -/
def fnStaleWrong : ChangeSpec := { name := "fnStale", fn := fun _ => fun
  | [d] => { results := [.lit (.bool false)], args := [d] }
  | _ => none }
def FnStaleWrongFalsely : Prop := fnStaleRow.holds Try.pinned (OpenSpec.ofChange fnStaleWrong)

/-- 'laws.FnHintHeader': WHATEVER THE INPUT: true; the input reads as it did. -/
def fnHintHeaderSpec : ChangeSpec := { name := "fnHintHeader", fn := fun _ => fun
  | [d] => { results := [.lit (.bool true)], args := [d] }
  | _ => none }
def fnHintHeaderRow : OpenClaim := { program := "ytdinjpemofkdaaa", sum := "cca4707f5915f7022adf0a03c2c4ecb1d626f5af8f5273b21efe7c9f1e070afd", func := "pub-quillon/laws.FnHintHeader", spec := "fnHintHeader", apart := false }
def FnHintHeaderSaid : Prop := fnHintHeaderRow.holds Try.pinned (OpenSpec.ofChange fnHintHeaderSpec)

/-- ITS FALSE NEIGHBOUR: 'it returns false'. Refute it at one input. -/
def fnHintHeaderWrong : ChangeSpec := { name := "fnHintHeader", fn := fun _ => fun
  | [d] => { results := [.lit (.bool false)], args := [d] }
  | _ => none }
def FnHintHeaderWrongFalsely : Prop := fnHintHeaderRow.holds Try.pinned (OpenSpec.ofChange fnHintHeaderWrong)

/-- 'laws.FnHeadRefs': WHATEVER THE INPUT: true; the input reads as it did. -/
def fnHeadRefsSpec : ChangeSpec := { name := "fnHeadRefs", fn := fun _ => fun
  | [d1, d2] => { results := [.lit (.bool true)], args := [d1, d2] }
  | _ => none }
def fnHeadRefsRow : OpenClaim := { program := "ytdinjpemofkdaaa", sum := "cca4707f5915f7022adf0a03c2c4ecb1d626f5af8f5273b21efe7c9f1e070afd", func := "pub-quillon/laws.FnHeadRefs", spec := "fnHeadRefs", unfollowed := true, recurses := true, apart := false }
def FnHeadRefsSaid : Prop := fnHeadRefsRow.holds Try.pinned (OpenSpec.ofChange fnHeadRefsSpec)

/-- ITS FALSE NEIGHBOUR: 'it returns false'. Refute it at one input. -/
def fnHeadRefsWrong : ChangeSpec := { name := "fnHeadRefs", fn := fun _ => fun
  | [d1, d2] => { results := [.lit (.bool false)], args := [d1, d2] }
  | _ => none }
def FnHeadRefsWrongFalsely : Prop := fnHeadRefsRow.holds Try.pinned (OpenSpec.ofChange fnHeadRefsWrong)

/-- 'laws.FnOverlaps': WHATEVER THE INPUT: true; the input reads as it did. -/
def fnOverlapsSpec : ChangeSpec := { name := "fnOverlaps", fn := fun _ => fun
  | [d1, d2, d3, d4] => { results := [.lit (.bool true)], args := [d1, d2, d3, d4] }
  | _ => none }
def fnOverlapsRow : OpenClaim := { program := "ytdinjpemofkdaaa", sum := "cca4707f5915f7022adf0a03c2c4ecb1d626f5af8f5273b21efe7c9f1e070afd", func := "pub-quillon/laws.FnOverlaps", spec := "fnOverlaps", unfollowed := true, recurses := true, apart := false }
def FnOverlapsSaid : Prop := fnOverlapsRow.holds Try.pinned (OpenSpec.ofChange fnOverlapsSpec)

/-- ITS FALSE NEIGHBOUR: 'it returns false'. Refute it at one input. -/
def fnOverlapsWrong : ChangeSpec := { name := "fnOverlaps", fn := fun _ => fun
  | [d1, d2, d3, d4] => { results := [.lit (.bool false)], args := [d1, d2, d3, d4] }
  | _ => none }
def FnOverlapsWrongFalsely : Prop := fnOverlapsRow.holds Try.pinned (OpenSpec.ofChange fnOverlapsWrong)

/-- 'laws.FnFloatSeconds': WHATEVER THE INPUT: true; the input reads as it did. -/
def fnFloatSecondsSpec : ChangeSpec := { name := "fnFloatSeconds", fn := fun _ => fun
  | [d] => { results := [.lit (.bool true)], args := [d] }
  | _ => none }
def fnFloatSecondsRow : OpenClaim := { program := "ytdinjpemofkdaaa", sum := "cca4707f5915f7022adf0a03c2c4ecb1d626f5af8f5273b21efe7c9f1e070afd", func := "pub-quillon/laws.FnFloatSeconds", spec := "fnFloatSeconds", inPlace := ["math.Float64frombits", "math.Float64bits"], apart := false }
def FnFloatSecondsSaid : Prop := fnFloatSecondsRow.holds Try.pinned (OpenSpec.ofChange fnFloatSecondsSpec)

/-- ITS FALSE NEIGHBOUR: 'it returns false'. Refute it at one input. -/
def fnFloatSecondsWrong : ChangeSpec := { name := "fnFloatSeconds", fn := fun _ => fun
  | [d] => { results := [.lit (.bool false)], args := [d] }
  | _ => none }
def FnFloatSecondsWrongFalsely : Prop := fnFloatSecondsRow.holds Try.pinned (OpenSpec.ofChange fnFloatSecondsWrong)

/-- 'laws.FnMapperRefs': WHATEVER THE INPUT: true; the input reads as it did. -/
def fnMapperRefsSpec : ChangeSpec := { name := "fnMapperRefs", fn := fun _ => fun
  | [d1, d2] => { results := [.lit (.bool true)], args := [d1, d2] }
  | _ => none }
def fnMapperRefsRow : OpenClaim := { program := "ytdinjpemofkdaaa", sum := "cca4707f5915f7022adf0a03c2c4ecb1d626f5af8f5273b21efe7c9f1e070afd", func := "pub-quillon/laws.FnMapperRefs", spec := "fnMapperRefs", unfollowed := true, recurses := true, apart := false }
def FnMapperRefsSaid : Prop := fnMapperRefsRow.holds Try.pinned (OpenSpec.ofChange fnMapperRefsSpec)

/-- ITS FALSE NEIGHBOUR: 'it returns false'. Refute it at one input. -/
def fnMapperRefsWrong : ChangeSpec := { name := "fnMapperRefs", fn := fun _ => fun
  | [d1, d2] => { results := [.lit (.bool false)], args := [d1, d2] }
  | _ => none }
def FnMapperRefsWrongFalsely : Prop := fnMapperRefsRow.holds Try.pinned (OpenSpec.ofChange fnMapperRefsWrong)

/-- 'laws.FnBlockRefs': WHATEVER THE INPUT: true; the input reads as it did. -/
def fnBlockRefsSpec : ChangeSpec := { name := "fnBlockRefs", fn := fun _ => fun
  | [d1, d2] => { results := [.lit (.bool true)], args := [d1, d2] }
  | _ => none }
def fnBlockRefsRow : OpenClaim := { program := "ytdinjpemofkdaaa", sum := "cca4707f5915f7022adf0a03c2c4ecb1d626f5af8f5273b21efe7c9f1e070afd", func := "pub-quillon/laws.FnBlockRefs", spec := "fnBlockRefs", unfollowed := true, recurses := true, apart := false }
def FnBlockRefsSaid : Prop := fnBlockRefsRow.holds Try.pinned (OpenSpec.ofChange fnBlockRefsSpec)

/-- ITS FALSE NEIGHBOUR: 'it returns false'. Refute it at one input. -/
def fnBlockRefsWrong : ChangeSpec := { name := "fnBlockRefs", fn := fun _ => fun
  | [d1, d2] => { results := [.lit (.bool false)], args := [d1, d2] }
  | _ => none }
def FnBlockRefsWrongFalsely : Prop := fnBlockRefsRow.holds Try.pinned (OpenSpec.ofChange fnBlockRefsWrong)

/-- 'laws.FnKinds': WHATEVER THE INPUT: true; the input reads as it did. -/
def fnKindsSpec : ChangeSpec := { name := "fnKinds", fn := fun _ => fun
  | [d] => { results := [.lit (.bool true)], args := [d] }
  | _ => none }
def fnKindsRow : OpenClaim := { program := "ytdinjpemofkdaaa", sum := "cca4707f5915f7022adf0a03c2c4ecb1d626f5af8f5273b21efe7c9f1e070afd", func := "pub-quillon/laws.FnKinds", spec := "fnKinds", apart := false }
def FnKindsSaid : Prop := fnKindsRow.holds Try.pinned (OpenSpec.ofChange fnKindsSpec)

/-- ITS FALSE NEIGHBOUR: 'it returns false'. Refute it at one input. -/
def fnKindsWrong : ChangeSpec := { name := "fnKinds", fn := fun _ => fun
  | [d] => { results := [.lit (.bool false)], args := [d] }
  | _ => none }
def FnKindsWrongFalsely : Prop := fnKindsRow.holds Try.pinned (OpenSpec.ofChange fnKindsWrong)

/- THE SECOND FORM. 'bulk': how many values and letters a reading holds, each counted each time it is reached (what is shared counts as often as it is met; a slice's spare places count too). A statement '..UptoSaid' is the law's where the arguments, and the package variables that the reading takes, are together of bulk at most 1048576: NARROWER than '..Said'. Prove '..Said' where nothing that the law and all that it calls make is longer than what came in: it says more and counts as full. Else prove '..UptoSaid'. A law counts once. -/
mutual
def uptoBulk {H : Type} : DataW H → Nat
  | .lit (.string bytes) => bytes.length + 1
  | .lit _ => 1
  | .nil => 1
  | .ptr d => uptoBulk d + 1
  | .slice elems spare => uptoBulkAll elems + uptoBulkAll spare + 1
  | .agg parts => uptoBulkAll parts + 1
  | .iface _ d => uptoBulk d + 1
  | .map entries => uptoBulkEntries entries + 1
  | .held _ => 1
def uptoBulkAll {H : Type} : List (DataW H) → Nat
  | [] => 0
  | d :: r => uptoBulk d + uptoBulkAll r
def uptoBulkEntries {H : Type} : List (Lit × DataW H) → Nat
  | [] => 0
  | x :: r => uptoBulkEntry x + uptoBulkEntries r
def uptoBulkEntry {H : Type} : Lit × DataW H → Nat
  | (.string bytes, d) => bytes.length + uptoBulk d + 1
  | (_, d) => uptoBulk d + 1
 end
def uptoSmall : (H : Type) → List (DataW H) → Bool := fun _ ds => decide (uptoBulkAll ds ≤ 1048576)
def OpenSpec.upto (s : _root_.Go.ChangeSpec) : _root_.Go.OpenSpec := { _root_.Go.OpenSpec.ofChange s with cond := some uptoSmall }

/-- 'laws.FnStale', WHERE WHAT IT READS IS OF BULK AT MOST 1048576: true; the input reads as it did. -/
def fnStaleUptoRow : OpenClaim := { program := "ytdinjpemofkdaaa", sum := "cca4707f5915f7022adf0a03c2c4ecb1d626f5af8f5273b21efe7c9f1e070afd", func := "pub-quillon/laws.FnStale", spec := "fnStale", inPlace := ["math.Float64frombits", "math.Float64bits"], apart := false, narrowed := true }
def FnStaleUptoSaid : Prop := fnStaleUptoRow.holds Try.pinned (OpenSpec.upto fnStaleSpec)

/-- 'laws.FnHintHeader', WHERE WHAT IT READS IS OF BULK AT MOST 1048576: true; the input reads as it did. -/
def fnHintHeaderUptoRow : OpenClaim := { program := "ytdinjpemofkdaaa", sum := "cca4707f5915f7022adf0a03c2c4ecb1d626f5af8f5273b21efe7c9f1e070afd", func := "pub-quillon/laws.FnHintHeader", spec := "fnHintHeader", apart := false, narrowed := true }
def FnHintHeaderUptoSaid : Prop := fnHintHeaderUptoRow.holds Try.pinned (OpenSpec.upto fnHintHeaderSpec)

/-- 'laws.FnHeadRefs', WHERE WHAT IT READS IS OF BULK AT MOST 1048576: true; the input reads as it did. -/
def fnHeadRefsUptoRow : OpenClaim := { program := "ytdinjpemofkdaaa", sum := "cca4707f5915f7022adf0a03c2c4ecb1d626f5af8f5273b21efe7c9f1e070afd", func := "pub-quillon/laws.FnHeadRefs", spec := "fnHeadRefs", unfollowed := true, recurses := true, apart := false, narrowed := true }
def FnHeadRefsUptoSaid : Prop := fnHeadRefsUptoRow.holds Try.pinned (OpenSpec.upto fnHeadRefsSpec)

/-- 'laws.FnOverlaps', WHERE WHAT IT READS IS OF BULK AT MOST 1048576: true; the input reads as it did. -/
def fnOverlapsUptoRow : OpenClaim := { program := "ytdinjpemofkdaaa", sum := "cca4707f5915f7022adf0a03c2c4ecb1d626f5af8f5273b21efe7c9f1e070afd", func := "pub-quillon/laws.FnOverlaps", spec := "fnOverlaps", unfollowed := true, recurses := true, apart := false, narrowed := true }
def FnOverlapsUptoSaid : Prop := fnOverlapsUptoRow.holds Try.pinned (OpenSpec.upto fnOverlapsSpec)

/-- 'laws.FnFloatSeconds', WHERE WHAT IT READS IS OF BULK AT MOST 1048576: true; the input reads as it did. -/
def fnFloatSecondsUptoRow : OpenClaim := { program := "ytdinjpemofkdaaa", sum := "cca4707f5915f7022adf0a03c2c4ecb1d626f5af8f5273b21efe7c9f1e070afd", func := "pub-quillon/laws.FnFloatSeconds", spec := "fnFloatSeconds", inPlace := ["math.Float64frombits", "math.Float64bits"], apart := false, narrowed := true }
def FnFloatSecondsUptoSaid : Prop := fnFloatSecondsUptoRow.holds Try.pinned (OpenSpec.upto fnFloatSecondsSpec)

/-- 'laws.FnMapperRefs', WHERE WHAT IT READS IS OF BULK AT MOST 1048576: true; the input reads as it did. -/
def fnMapperRefsUptoRow : OpenClaim := { program := "ytdinjpemofkdaaa", sum := "cca4707f5915f7022adf0a03c2c4ecb1d626f5af8f5273b21efe7c9f1e070afd", func := "pub-quillon/laws.FnMapperRefs", spec := "fnMapperRefs", unfollowed := true, recurses := true, apart := false, narrowed := true }
def FnMapperRefsUptoSaid : Prop := fnMapperRefsUptoRow.holds Try.pinned (OpenSpec.upto fnMapperRefsSpec)

/-- 'laws.FnBlockRefs', WHERE WHAT IT READS IS OF BULK AT MOST 1048576: true; the input reads as it did. -/
def fnBlockRefsUptoRow : OpenClaim := { program := "ytdinjpemofkdaaa", sum := "cca4707f5915f7022adf0a03c2c4ecb1d626f5af8f5273b21efe7c9f1e070afd", func := "pub-quillon/laws.FnBlockRefs", spec := "fnBlockRefs", unfollowed := true, recurses := true, apart := false, narrowed := true }
def FnBlockRefsUptoSaid : Prop := fnBlockRefsUptoRow.holds Try.pinned (OpenSpec.upto fnBlockRefsSpec)

/-- 'laws.FnKinds', WHERE WHAT IT READS IS OF BULK AT MOST 1048576: true; the input reads as it did. -/
def fnKindsUptoRow : OpenClaim := { program := "ytdinjpemofkdaaa", sum := "cca4707f5915f7022adf0a03c2c4ecb1d626f5af8f5273b21efe7c9f1e070afd", func := "pub-quillon/laws.FnKinds", spec := "fnKinds", apart := false, narrowed := true }
def FnKindsUptoSaid : Prop := fnKindsUptoRow.holds Try.pinned (OpenSpec.upto fnKindsSpec)

end Rows
end Go.Proofs.Ytdinjpemofkdaaa
