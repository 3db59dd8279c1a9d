/-
  No cell of these rows narrows 'for every input' (looked for: loops, veiled, ifaces, maps, wideKeys, modest, calm, conditions, laid).
  DERIVED. THE GIVEN ROWS OF THIS SEAT. 7 by the template 'for every input the law returns true; each argument reads behind the call as it read before'; 0 by the template 'total and deterministic' (their statements: YtapoodnjkkhggaaGreatTotals.lean).
  GIVEN WITH THE SEED: the statements are not yours to turn. If you find one false, say at which input.
  Laid BY PROGRAM, IN A SANDBOX (cutbox-rows.mjs): the forced cells as the released guide's own fill.sh prints them over the translation 497027650eb969a2… (all of the seat's roots in one cut). By AI agents, Wed Nov 11 2026. No macro, syntax, notation, axiom, sorry.
-/
import Derived.Test.YtapoodnjkkhggaaGreatChecked
import GoSem.Claim
import GoSem.ClaimJoined
import GoSem.ClaimMapViews
import Derived.JoinedTies
import Derived.KernelRfl
namespace Go.Proofs.YtapoodnjkkhggaaGreat
/- THE CELL 'sum', in the pinned program and in every row, IS THE sha256 OF THE DUMP (.gsa) THAT YtapoodnjkkhggaaGreatProg.lean LOADS. Nothing in Lean hashes anything: it is a label: what it is worth is what the hold of that sum in a sandbox is worth. -/
noncomputable def Tryz.pinned : Pinned := { name := "ytapoodnjkkhggaagreat", sum := "497027650eb969a21e7db5739b64c36d50a04c655f978380c5de37caeb5ee996", checked := Tryz.checked }
namespace Rows
def none {H : Type} : Left H := { results := [], args := [] }

/-- 'laws.FnSelector': WHATEVER THE INPUT: true; the input reads as it did. -/
def fnSelectorSpec : ChangeSpec := { name := "fnSelector", fn := fun _ => fun
  | [d1, d2] => { results := [.lit (.bool true)], args := [d1, d2] }
  | _ => none }
def fnSelectorRow : OpenClaim := { program := "ytapoodnjkkhggaagreat", sum := "497027650eb969a21e7db5739b64c36d50a04c655f978380c5de37caeb5ee996", func := "pub-quillon/laws.FnSelector", spec := "fnSelector", inPlace := ["internal/bytealg.abigen_runtime_cmpstring"], unfollowed := true, recurses := true, apart := false }
def FnSelectorSaid : Prop := fnSelectorRow.holds Tryz.pinned (OpenSpec.ofChange fnSelectorSpec)

/-- ITS FALSE NEIGHBOUR: 'it returns false'. Refute it at one input. -/
def fnSelectorWrong : ChangeSpec := { name := "fnSelector", fn := fun _ => fun
  | [d1, d2] => { results := [.lit (.bool false)], args := [d1, d2] }
  | _ => none }
def FnSelectorWrongFalsely : Prop := fnSelectorRow.holds Tryz.pinned (OpenSpec.ofChange fnSelectorWrong)

/-- 'laws.FnLabelsKeys': WHATEVER THE INPUT: true; the input reads as it did. -/
def fnLabelsKeysSpec : ChangeSpec := { name := "fnLabelsKeys", fn := fun _ => fun
  | [d1, d2, d3, d4] => { results := [.lit (.bool true)], args := [d1, d2, d3, d4] }
  | _ => none }
def fnLabelsKeysRow : OpenClaim := { program := "ytapoodnjkkhggaagreat", sum := "497027650eb969a21e7db5739b64c36d50a04c655f978380c5de37caeb5ee996", func := "pub-quillon/laws.FnLabelsKeys", spec := "fnLabelsKeys", inPlace := ["internal/bytealg.abigen_runtime_cmpstring"], unfollowed := true, recurses := true, apart := false }
def FnLabelsKeysSaid : Prop := fnLabelsKeysRow.holds Tryz.pinned (OpenSpec.ofChange fnLabelsKeysSpec)

/-- ITS FALSE NEIGHBOUR: 'it returns false'. Refute it at one input. -/
def fnLabelsKeysWrong : ChangeSpec := { name := "fnLabelsKeys", fn := fun _ => fun
  | [d1, d2, d3, d4] => { results := [.lit (.bool false)], args := [d1, d2, d3, d4] }
  | _ => none }
def FnLabelsKeysWrongFalsely : Prop := fnLabelsKeysRow.holds Tryz.pinned (OpenSpec.ofChange fnLabelsKeysWrong)

/-- 'laws.FnLabelsDropped': WHATEVER THE INPUT: true; the input reads as it did. -/
def fnLabelsDroppedSpec : ChangeSpec := { name := "fnLabelsDropped", fn := fun _ => fun
  | [d1, d2, d3] => { results := [.lit (.bool true)], args := [d1, d2, d3] }
  | _ => none }
def fnLabelsDroppedRow : OpenClaim := { program := "ytapoodnjkkhggaagreat", sum := "497027650eb969a21e7db5739b64c36d50a04c655f978380c5de37caeb5ee996", func := "pub-quillon/laws.FnLabelsDropped", spec := "fnLabelsDropped", inPlace := ["internal/bytealg.abigen_runtime_cmpstring"], unfollowed := true, recurses := true, apart := false }
def FnLabelsDroppedSaid : Prop := fnLabelsDroppedRow.holds Tryz.pinned (OpenSpec.ofChange fnLabelsDroppedSpec)

/-- ITS FALSE NEIGHBOUR: 'it returns false'. Refute it at one input. -/
def fnLabelsDroppedWrong : ChangeSpec := { name := "fnLabelsDropped", fn := fun _ => fun
  | [d1, d2, d3] => { results := [.lit (.bool false)], args := [d1, d2, d3] }
  | _ => none }
def FnLabelsDroppedWrongFalsely : Prop := fnLabelsDroppedRow.holds Tryz.pinned (OpenSpec.ofChange fnLabelsDroppedWrong)

/-- 'laws.FnLabelsSort': WHATEVER THE INPUT: true; the input reads as it did. -/
def fnLabelsSortSpec : ChangeSpec := { name := "fnLabelsSort", fn := fun _ => fun
  | [d] => { results := [.lit (.bool true)], args := [d] }
  | _ => none }
def fnLabelsSortRow : OpenClaim := { program := "ytapoodnjkkhggaagreat", sum := "497027650eb969a21e7db5739b64c36d50a04c655f978380c5de37caeb5ee996", func := "pub-quillon/laws.FnLabelsSort", spec := "fnLabelsSort", inPlace := ["internal/bytealg.abigen_runtime_cmpstring"], unfollowed := true, recurses := true, apart := false }
def FnLabelsSortSaid : Prop := fnLabelsSortRow.holds Tryz.pinned (OpenSpec.ofChange fnLabelsSortSpec)

/-- ITS FALSE NEIGHBOUR: 'it returns false'. Refute it at one input. -/
def fnLabelsSortWrong : ChangeSpec := { name := "fnLabelsSort", fn := fun _ => fun
  | [d] => { results := [.lit (.bool false)], args := [d] }
  | _ => none }
def FnLabelsSortWrongFalsely : Prop := fnLabelsSortRow.holds Tryz.pinned (OpenSpec.ofChange fnLabelsSortWrong)

/-- 'laws.FnBuilder': WHATEVER THE INPUT: true; the input reads as it did. -/
def fnBuilderSpec : ChangeSpec := { name := "fnBuilder", fn := fun _ => fun
  | [d1, d2] => { results := [.lit (.bool true)], args := [d1, d2] }
  | _ => none }
def fnBuilderRow : OpenClaim := { program := "ytapoodnjkkhggaagreat", sum := "497027650eb969a21e7db5739b64c36d50a04c655f978380c5de37caeb5ee996", func := "pub-quillon/laws.FnBuilder", spec := "fnBuilder", inPlace := ["internal/bytealg.abigen_runtime_cmpstring"], unfollowed := true, recurses := true, apart := false }
def FnBuilderSaid : Prop := fnBuilderRow.holds Tryz.pinned (OpenSpec.ofChange fnBuilderSpec)

/-- ITS FALSE NEIGHBOUR: 'it returns false'. Refute it at one input. -/
def fnBuilderWrong : ChangeSpec := { name := "fnBuilder", fn := fun _ => fun
  | [d1, d2] => { results := [.lit (.bool false)], args := [d1, d2] }
  | _ => none }
def FnBuilderWrongFalsely : Prop := fnBuilderRow.holds Tryz.pinned (OpenSpec.ofChange fnBuilderWrong)

/-- 'laws.FnLabelsHashes': WHATEVER THE INPUT: true; the input reads as it did. -/
def fnLabelsHashesSpec : ChangeSpec := { name := "fnLabelsHashes", fn := fun _ => fun
  | [d1, d2, d3, d4] => { results := [.lit (.bool true)], args := [d1, d2, d3, d4] }
  | _ => none }
def fnLabelsHashesRow : OpenClaim := { program := "ytapoodnjkkhggaagreat", sum := "497027650eb969a21e7db5739b64c36d50a04c655f978380c5de37caeb5ee996", func := "pub-quillon/laws.FnLabelsHashes", spec := "fnLabelsHashes", inPlace := ["internal/bytealg.abigen_runtime_cmpstring"], unfollowed := true, recurses := true, named := ["encoding/binary.LittleEndian"], apart := false }
def FnLabelsHashesSaid : Prop := fnLabelsHashesRow.holds Tryz.pinned (OpenSpec.ofChange fnLabelsHashesSpec)

/-- ITS FALSE NEIGHBOUR: 'it returns false'. Refute it at one input. -/
def fnLabelsHashesWrong : ChangeSpec := { name := "fnLabelsHashes", fn := fun _ => fun
  | [d1, d2, d3, d4] => { results := [.lit (.bool false)], args := [d1, d2, d3, d4] }
  | _ => none }
def FnLabelsHashesWrongFalsely : Prop := fnLabelsHashesRow.holds Tryz.pinned (OpenSpec.ofChange fnLabelsHashesWrong)

/-- 'laws.FnLabelsStable': WHATEVER THE INPUT: true; the input reads as it did. -/
def fnLabelsStableSpec : ChangeSpec := { name := "fnLabelsStable", fn := fun _ => fun
  | [d] => { results := [.lit (.bool true)], args := [d] }
  | _ => none }
def fnLabelsStableRow : OpenClaim := { program := "ytapoodnjkkhggaagreat", sum := "497027650eb969a21e7db5739b64c36d50a04c655f978380c5de37caeb5ee996", func := "pub-quillon/laws.FnLabelsStable", spec := "fnLabelsStable", inPlace := ["internal/bytealg.abigen_runtime_cmpstring"], unfollowed := true, recurses := true, named := ["encoding/binary.LittleEndian"], apart := false }
def FnLabelsStableSaid : Prop := fnLabelsStableRow.holds Tryz.pinned (OpenSpec.ofChange fnLabelsStableSpec)

/-- ITS FALSE NEIGHBOUR: 'it returns false'. Refute it at one input. -/
def fnLabelsStableWrong : ChangeSpec := { name := "fnLabelsStable", fn := fun _ => fun
  | [d] => { results := [.lit (.bool false)], args := [d] }
  | _ => none }
def FnLabelsStableWrongFalsely : Prop := fnLabelsStableRow.holds Tryz.pinned (OpenSpec.ofChange fnLabelsStableWrong)

/- THE SECOND FORM. 'bulk': how many values and letters a reading holds, each counted each time it is reached (what is shared counts as often as it is met; a slice's spare places count too). A statement '..UptoSaid' is the law's where the arguments, and the package variables that the reading takes, are together of bulk at most 1048576: NARROWER than '..Said'. Prove '..Said' where nothing that the law and all that it calls make is longer than what came in: it says more and counts as full. Else prove '..UptoSaid'. A law counts once. -/
mutual
def uptoBulk {H : Type} : DataW H → Nat
  | .lit (.string bytes) => bytes.length + 1
  | .lit _ => 1
  | .nil => 1
  | .ptr d => uptoBulk d + 1
  | .slice elems spare => uptoBulkAll elems + uptoBulkAll spare + 1
  | .agg parts => uptoBulkAll parts + 1
  | .iface _ d => uptoBulk d + 1
  | .map entries => uptoBulkEntries entries + 1
  | .held _ => 1
def uptoBulkAll {H : Type} : List (DataW H) → Nat
  | [] => 0
  | d :: r => uptoBulk d + uptoBulkAll r
def uptoBulkEntries {H : Type} : List (Lit × DataW H) → Nat
  | [] => 0
  | x :: r => uptoBulkEntry x + uptoBulkEntries r
def uptoBulkEntry {H : Type} : Lit × DataW H → Nat
  | (.string bytes, d) => bytes.length + uptoBulk d + 1
  | (_, d) => uptoBulk d + 1
 end
def uptoSmall : (H : Type) → List (DataW H) → Bool := fun _ ds => decide (uptoBulkAll ds ≤ 1048576)
def OpenSpec.upto (s : _root_.Go.ChangeSpec) : _root_.Go.OpenSpec := { _root_.Go.OpenSpec.ofChange s with cond := some uptoSmall }

/-- 'laws.FnSelector', WHERE WHAT IT READS IS OF BULK AT MOST 1048576: true; the input reads as it did. -/
def fnSelectorUptoRow : OpenClaim := { program := "ytapoodnjkkhggaagreat", sum := "497027650eb969a21e7db5739b64c36d50a04c655f978380c5de37caeb5ee996", func := "pub-quillon/laws.FnSelector", spec := "fnSelector", inPlace := ["internal/bytealg.abigen_runtime_cmpstring"], unfollowed := true, recurses := true, apart := false, narrowed := true }
def FnSelectorUptoSaid : Prop := fnSelectorUptoRow.holds Tryz.pinned (OpenSpec.upto fnSelectorSpec)

/-- 'laws.FnLabelsKeys', WHERE WHAT IT READS IS OF BULK AT MOST 1048576: true; the input reads as it did. -/
def fnLabelsKeysUptoRow : OpenClaim := { program := "ytapoodnjkkhggaagreat", sum := "497027650eb969a21e7db5739b64c36d50a04c655f978380c5de37caeb5ee996", func := "pub-quillon/laws.FnLabelsKeys", spec := "fnLabelsKeys", inPlace := ["internal/bytealg.abigen_runtime_cmpstring"], unfollowed := true, recurses := true, apart := false, narrowed := true }
def FnLabelsKeysUptoSaid : Prop := fnLabelsKeysUptoRow.holds Tryz.pinned (OpenSpec.upto fnLabelsKeysSpec)

/-- 'laws.FnLabelsDropped', WHERE WHAT IT READS IS OF BULK AT MOST 1048576: true; the input reads as it did. -/
def fnLabelsDroppedUptoRow : OpenClaim := { program := "ytapoodnjkkhggaagreat", sum := "497027650eb969a21e7db5739b64c36d50a04c655f978380c5de37caeb5ee996", func := "pub-quillon/laws.FnLabelsDropped", spec := "fnLabelsDropped", inPlace := ["internal/bytealg.abigen_runtime_cmpstring"], unfollowed := true, recurses := true, apart := false, narrowed := true }
def FnLabelsDroppedUptoSaid : Prop := fnLabelsDroppedUptoRow.holds Tryz.pinned (OpenSpec.upto fnLabelsDroppedSpec)

/-- 'laws.FnLabelsSort', WHERE WHAT IT READS IS OF BULK AT MOST 1048576: true; the input reads as it did. -/
def fnLabelsSortUptoRow : OpenClaim := { program := "ytapoodnjkkhggaagreat", sum := "497027650eb969a21e7db5739b64c36d50a04c655f978380c5de37caeb5ee996", func := "pub-quillon/laws.FnLabelsSort", spec := "fnLabelsSort", inPlace := ["internal/bytealg.abigen_runtime_cmpstring"], unfollowed := true, recurses := true, apart := false, narrowed := true }
def FnLabelsSortUptoSaid : Prop := fnLabelsSortUptoRow.holds Tryz.pinned (OpenSpec.upto fnLabelsSortSpec)

/-- 'laws.FnBuilder', WHERE WHAT IT READS IS OF BULK AT MOST 1048576: true; the input reads as it did. -/
def fnBuilderUptoRow : OpenClaim := { program := "ytapoodnjkkhggaagreat", sum := "497027650eb969a21e7db5739b64c36d50a04c655f978380c5de37caeb5ee996", func := "pub-quillon/laws.FnBuilder", spec := "fnBuilder", inPlace := ["internal/bytealg.abigen_runtime_cmpstring"], unfollowed := true, recurses := true, apart := false, narrowed := true }
def FnBuilderUptoSaid : Prop := fnBuilderUptoRow.holds Tryz.pinned (OpenSpec.upto fnBuilderSpec)

/-- 'laws.FnLabelsHashes', WHERE WHAT IT READS IS OF BULK AT MOST 1048576: true; the input reads as it did. -/
def fnLabelsHashesUptoRow : OpenClaim := { program := "ytapoodnjkkhggaagreat", sum := "497027650eb969a21e7db5739b64c36d50a04c655f978380c5de37caeb5ee996", func := "pub-quillon/laws.FnLabelsHashes", spec := "fnLabelsHashes", inPlace := ["internal/bytealg.abigen_runtime_cmpstring"], unfollowed := true, recurses := true, named := ["encoding/binary.LittleEndian"], apart := false, narrowed := true }
def FnLabelsHashesUptoSaid : Prop := fnLabelsHashesUptoRow.holds Tryz.pinned (OpenSpec.upto fnLabelsHashesSpec)

/-- 'laws.FnLabelsStable', WHERE WHAT IT READS IS OF BULK AT MOST 1048576: true; the input reads as it did. -/
def fnLabelsStableUptoRow : OpenClaim := { program := "ytapoodnjkkhggaagreat", sum := "497027650eb969a21e7db5739b64c36d50a04c655f978380c5de37caeb5ee996", func := "pub-quillon/laws.FnLabelsStable", spec := "fnLabelsStable", inPlace := ["internal/bytealg.abigen_runtime_cmpstring"], unfollowed := true, recurses := true, named := ["encoding/binary.LittleEndian"], apart := false, narrowed := true }
def FnLabelsStableUptoSaid : Prop := fnLabelsStableUptoRow.holds Tryz.pinned (OpenSpec.upto fnLabelsStableSpec)

end Rows
end Go.Proofs.YtapoodnjkkhggaaGreat
