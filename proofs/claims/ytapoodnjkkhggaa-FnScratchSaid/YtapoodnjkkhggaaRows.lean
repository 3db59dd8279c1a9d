/-
  No cell of these rows narrows 'for every input' (looked for: loops, veiled, ifaces, maps, wideKeys, modest, calm, conditions, laid).
  DERIVED. THE GIVEN ROWS OF THIS SEAT. 4 by the template 'for every input the law returns true; each argument reads behind the call as it read before'; 0 by the template 'total and deterministic' (their statements: YtapoodnjkkhggaaTotals.lean).
  GIVEN WITH THE SEED: the statements are not yours to turn. If you find one false, say at which input.
  Laid BY PROGRAM, IN A SANDBOX (cutbox-rows.mjs): the forced cells as the released guide's own fill.sh prints them over the translation 507ab30a6ff44681… (all of the seat's roots in one cut). By AI agents, Wed Nov 11 2026. No macro, syntax, notation, axiom, sorry.
-/
import Derived.Test.YtapoodnjkkhggaaChecked
import GoSem.Claim
import GoSem.ClaimJoined
import GoSem.ClaimMapViews
import Derived.JoinedTies
import Derived.KernelRfl
namespace Go.Proofs.Ytapoodnjkkhggaa
/- THE CELL 'sum', in the pinned program and in every row, IS THE sha256 OF THE DUMP (.gsa) THAT YtapoodnjkkhggaaProg.lean LOADS. Nothing in Lean hashes anything: it is a label: what it is worth is what the hold of that sum in a sandbox is worth. -/
noncomputable def Try.pinned : Pinned := { name := "ytapoodnjkkhggaa", sum := "507ab30a6ff44681c84e7cc57603a3302662a69ec820260bd197490defdf5464", checked := Try.checked }
namespace Rows
def none {H : Type} : Left H := { results := [], args := [] }

/-- 'laws.FnLabelsAsk': WHATEVER THE INPUT: true; the input reads as it did. -/
def fnLabelsAskSpec : ChangeSpec := { name := "fnLabelsAsk", fn := fun _ => fun
  | [d1, d2] => { results := [.lit (.bool true)], args := [d1, d2] }
  | _ => none }
def fnLabelsAskRow : OpenClaim := { program := "ytapoodnjkkhggaa", sum := "507ab30a6ff44681c84e7cc57603a3302662a69ec820260bd197490defdf5464", func := "pub-quillon/laws.FnLabelsAsk", spec := "fnLabelsAsk", inPlace := ["internal/bytealg.abigen_runtime_cmpstring"], unfollowed := true, recurses := true, apart := false }
def FnLabelsAskSaid : Prop := fnLabelsAskRow.holds Try.pinned (OpenSpec.ofChange fnLabelsAskSpec)

/-- ITS FALSE NEIGHBOUR: 'it returns false'. Refute it at one input. -/
def fnLabelsAskWrong : ChangeSpec := { name := "fnLabelsAsk", fn := fun _ => fun
  | [d1, d2] => { results := [.lit (.bool false)], args := [d1, d2] }
  | _ => none }
def FnLabelsAskWrongFalsely : Prop := fnLabelsAskRow.holds Try.pinned (OpenSpec.ofChange fnLabelsAskWrong)

/-- 'laws.FnLabelsCompare': WHATEVER THE INPUT: true; the input reads as it did. -/
def fnLabelsCompareSpec : ChangeSpec := { name := "fnLabelsCompare", fn := fun _ => fun
  | [d1, d2] => { results := [.lit (.bool true)], args := [d1, d2] }
  | _ => none }
def fnLabelsCompareRow : OpenClaim := { program := "ytapoodnjkkhggaa", sum := "507ab30a6ff44681c84e7cc57603a3302662a69ec820260bd197490defdf5464", func := "pub-quillon/laws.FnLabelsCompare", spec := "fnLabelsCompare", inPlace := ["internal/bytealg.abigen_runtime_cmpstring"], unfollowed := true, recurses := true, apart := false }
def FnLabelsCompareSaid : Prop := fnLabelsCompareRow.holds Try.pinned (OpenSpec.ofChange fnLabelsCompareSpec)

/-- ITS FALSE NEIGHBOUR: 'it returns false'. Refute it at one input. -/
def fnLabelsCompareWrong : ChangeSpec := { name := "fnLabelsCompare", fn := fun _ => fun
  | [d1, d2] => { results := [.lit (.bool false)], args := [d1, d2] }
  | _ => none }
def FnLabelsCompareWrongFalsely : Prop := fnLabelsCompareRow.holds Try.pinned (OpenSpec.ofChange fnLabelsCompareWrong)

/-- 'laws.FnLabelsMade': WHATEVER THE INPUT: true; the input reads as it did. -/
def fnLabelsMadeSpec : ChangeSpec := { name := "fnLabelsMade", fn := fun _ => fun
  | [d1, d2] => { results := [.lit (.bool true)], args := [d1, d2] }
  | _ => none }
def fnLabelsMadeRow : OpenClaim := { program := "ytapoodnjkkhggaa", sum := "507ab30a6ff44681c84e7cc57603a3302662a69ec820260bd197490defdf5464", func := "pub-quillon/laws.FnLabelsMade", spec := "fnLabelsMade", inPlace := ["internal/bytealg.abigen_runtime_cmpstring"], unfollowed := true, recurses := true, apart := false }
def FnLabelsMadeSaid : Prop := fnLabelsMadeRow.holds Try.pinned (OpenSpec.ofChange fnLabelsMadeSpec)

/-- ITS FALSE NEIGHBOUR: 'it returns false'. Refute it at one input. -/
def fnLabelsMadeWrong : ChangeSpec := { name := "fnLabelsMade", fn := fun _ => fun
  | [d1, d2] => { results := [.lit (.bool false)], args := [d1, d2] }
  | _ => none }
def FnLabelsMadeWrongFalsely : Prop := fnLabelsMadeRow.holds Try.pinned (OpenSpec.ofChange fnLabelsMadeWrong)

/-- 'laws.FnScratch': WHATEVER THE INPUT: true; the input reads as it did. -/
def fnScratchSpec : ChangeSpec := { name := "fnScratch", fn := fun _ => fun
  | [d1, d2, d3, d4] => { results := [.lit (.bool true)], args := [d1, d2, d3, d4] }
  | _ => none }
def fnScratchRow : OpenClaim := { program := "ytapoodnjkkhggaa", sum := "507ab30a6ff44681c84e7cc57603a3302662a69ec820260bd197490defdf5464", func := "pub-quillon/laws.FnScratch", spec := "fnScratch", inPlace := ["internal/bytealg.abigen_runtime_cmpstring"], unfollowed := true, recurses := true, apart := false }
def FnScratchSaid : Prop := fnScratchRow.holds Try.pinned (OpenSpec.ofChange fnScratchSpec)

/-- ITS FALSE NEIGHBOUR: 'it returns false'. Refute it at one input. -/
def fnScratchWrong : ChangeSpec := { name := "fnScratch", fn := fun _ => fun
  | [d1, d2, d3, d4] => { results := [.lit (.bool false)], args := [d1, d2, d3, d4] }
  | _ => none }
def FnScratchWrongFalsely : Prop := fnScratchRow.holds Try.pinned (OpenSpec.ofChange fnScratchWrong)

/- THE SECOND FORM. 'bulk': how many values and letters a reading holds, each counted each time it is reached (what is shared counts as often as it is met; a slice's spare places count too). A statement '..UptoSaid' is the law's where the arguments, and the package variables that the reading takes, are together of bulk at most 1048576: NARROWER than '..Said'. Prove '..Said' where nothing that the law and all that it calls make is longer than what came in: it says more and counts as full. Else prove '..UptoSaid'. A law counts once. -/
mutual
def uptoBulk {H : Type} : DataW H → Nat
  | .lit (.string bytes) => bytes.length + 1
  | .lit _ => 1
  | .nil => 1
  | .ptr d => uptoBulk d + 1
  | .slice elems spare => uptoBulkAll elems + uptoBulkAll spare + 1
  | .agg parts => uptoBulkAll parts + 1
  | .iface _ d => uptoBulk d + 1
  | .map entries => uptoBulkEntries entries + 1
  | .held _ => 1
def uptoBulkAll {H : Type} : List (DataW H) → Nat
  | [] => 0
  | d :: r => uptoBulk d + uptoBulkAll r
def uptoBulkEntries {H : Type} : List (Lit × DataW H) → Nat
  | [] => 0
  | x :: r => uptoBulkEntry x + uptoBulkEntries r
def uptoBulkEntry {H : Type} : Lit × DataW H → Nat
  | (.string bytes, d) => bytes.length + uptoBulk d + 1
  | (_, d) => uptoBulk d + 1
 end
def uptoSmall : (H : Type) → List (DataW H) → Bool := fun _ ds => decide (uptoBulkAll ds ≤ 1048576)
def OpenSpec.upto (s : _root_.Go.ChangeSpec) : _root_.Go.OpenSpec := { _root_.Go.OpenSpec.ofChange s with cond := some uptoSmall }

/-- 'laws.FnLabelsAsk', WHERE WHAT IT READS IS OF BULK AT MOST 1048576: true; the input reads as it did. -/
def fnLabelsAskUptoRow : OpenClaim := { program := "ytapoodnjkkhggaa", sum := "507ab30a6ff44681c84e7cc57603a3302662a69ec820260bd197490defdf5464", func := "pub-quillon/laws.FnLabelsAsk", spec := "fnLabelsAsk", inPlace := ["internal/bytealg.abigen_runtime_cmpstring"], unfollowed := true, recurses := true, apart := false, narrowed := true }
def FnLabelsAskUptoSaid : Prop := fnLabelsAskUptoRow.holds Try.pinned (OpenSpec.upto fnLabelsAskSpec)

/-- 'laws.FnLabelsCompare', WHERE WHAT IT READS IS OF BULK AT MOST 1048576: true; the input reads as it did. -/
def fnLabelsCompareUptoRow : OpenClaim := { program := "ytapoodnjkkhggaa", sum := "507ab30a6ff44681c84e7cc57603a3302662a69ec820260bd197490defdf5464", func := "pub-quillon/laws.FnLabelsCompare", spec := "fnLabelsCompare", inPlace := ["internal/bytealg.abigen_runtime_cmpstring"], unfollowed := true, recurses := true, apart := false, narrowed := true }
def FnLabelsCompareUptoSaid : Prop := fnLabelsCompareUptoRow.holds Try.pinned (OpenSpec.upto fnLabelsCompareSpec)

/-- 'laws.FnLabelsMade', WHERE WHAT IT READS IS OF BULK AT MOST 1048576: true; the input reads as it did. -/
def fnLabelsMadeUptoRow : OpenClaim := { program := "ytapoodnjkkhggaa", sum := "507ab30a6ff44681c84e7cc57603a3302662a69ec820260bd197490defdf5464", func := "pub-quillon/laws.FnLabelsMade", spec := "fnLabelsMade", inPlace := ["internal/bytealg.abigen_runtime_cmpstring"], unfollowed := true, recurses := true, apart := false, narrowed := true }
def FnLabelsMadeUptoSaid : Prop := fnLabelsMadeUptoRow.holds Try.pinned (OpenSpec.upto fnLabelsMadeSpec)

/-- 'laws.FnScratch', WHERE WHAT IT READS IS OF BULK AT MOST 1048576: true; the input reads as it did. -/
def fnScratchUptoRow : OpenClaim := { program := "ytapoodnjkkhggaa", sum := "507ab30a6ff44681c84e7cc57603a3302662a69ec820260bd197490defdf5464", func := "pub-quillon/laws.FnScratch", spec := "fnScratch", inPlace := ["internal/bytealg.abigen_runtime_cmpstring"], unfollowed := true, recurses := true, apart := false, narrowed := true }
def FnScratchUptoSaid : Prop := fnScratchUptoRow.holds Try.pinned (OpenSpec.upto fnScratchSpec)

end Rows
end Go.Proofs.Ytapoodnjkkhggaa
