/-
  DERIVED. GIVEN WITH THE SEED: THE CARDS: each row of YtbgkoapnejnfbaaDoorRows.lean that lists a variable, with what it lists TIED to the program's text (the seventh form; the later family's looks); each row that meets fmt, with fmt's text TOLD by the authors' own Lean function (tested against real Go, not proved from fmt's source: count such statements apart). THE CARD IS WHAT COUNTS. Prove the row's statement (the work); the ties are given (YtbgkoapnejnfbaaDoorTie.lean); close each card by the builder's one call (the guide's Derived/Test/ToyasCard.lean, 'card_holds'). Laid BY PROGRAM, IN A SANDBOX (cutbox-door.mjs). By AI agents, Wed Nov 11 2026. No macro, syntax, notation, axiom, sorry.
-/
import Derived.Test.YtbgkoapnejnfbaaDoorRows
import GoSem.ClaimSeven
namespace Go.Proofs.YtbgkoapnejnfbaaDoor
namespace Rows

/-- THE TIED CARD OF 'laws.FnHistValid'. -/
def fnHistValidCard : Claim7 := { stood := { row := fnHistValidRow, standIns := [], harness := (true, "f2eae88a6b25b4e959500ce75b8b34e8df79af34104060870f07b8138f747753"), looks := false }, kinds := [], alts := [], laidByText := true, laidKinds := [.sentinel, .sentinel, .sentinel, .sentinel, .sentinel, .sentinel, .sentinel, .sentinel], laidTests := true, laidLooks := .later }
def FnHistValidCardSaid : Prop := Claim7.holds Tryd.pinned (.plain (OpenSpec.ofChange fnHistValidSpec)) fnHistValidCard

/-- THE TIED CARD OF 'laws.FnHistHinted'. -/
def fnHistHintedCard : Claim7 := { stood := { row := fnHistHintedRow, standIns := [], harness := (true, "f2eae88a6b25b4e959500ce75b8b34e8df79af34104060870f07b8138f747753"), looks := false }, kinds := [], alts := [], laidByText := true, laidKinds := [.sentinel, .sentinel, .sentinel, .sentinel, .sentinel, .sentinel, .sentinel, .sentinel], laidTests := true, laidLooks := .later }
def FnHistHintedCardSaid : Prop := Claim7.holds Tryd.pinned (.plain (OpenSpec.ofChange fnHistHintedSpec)) fnHistHintedCard

/-- THE TIED CARD OF 'laws.FnHistScale'. -/
def fnHistScaleCard : Claim7 := { stood := { row := fnHistScaleRow, standIns := [], harness := (true, "f2eae88a6b25b4e959500ce75b8b34e8df79af34104060870f07b8138f747753"), looks := false }, kinds := [], alts := [], laidByText := true, laidKinds := [.sentinel, .sentinel, .sentinel, .sentinel, .sentinel, .sentinel, .sentinel, .sentinel], laidTests := true, laidLooks := .later }
def FnHistScaleCardSaid : Prop := Claim7.holds Tryd.pinned (.plain (OpenSpec.ofChange fnHistScaleSpec)) fnHistScaleCard

/-- THE TIED CARD OF 'laws.FnGenerated'. -/
def fnGeneratedCard : Claim7 := { stood := { row := fnGeneratedRow, standIns := [], harness := (true, "f2eae88a6b25b4e959500ce75b8b34e8df79af34104060870f07b8138f747753"), looks := false }, kinds := [], alts := [], laidByText := true, laidKinds := [.sentinel, .sentinel, .sentinel, .sentinel, .sentinel, .sentinel, .sentinel, .sentinel], laidTests := true, laidLooks := .later }
def FnGeneratedCardSaid : Prop := Claim7.holds Tryd.pinned (.plain (OpenSpec.ofChange fnGeneratedSpec)) fnGeneratedCard

/-- THE TIED CARD OF 'laws.FnHistCopy'. -/
def fnHistCopyCard : Claim7 := { stood := { row := fnHistCopyRow, standIns := [], harness := (true, "f2eae88a6b25b4e959500ce75b8b34e8df79af34104060870f07b8138f747753"), looks := false }, kinds := [], alts := [], laidByText := true, laidKinds := [.sentinel, .sentinel, .sentinel, .sentinel, .sentinel, .sentinel, .sentinel, .sentinel], laidTests := true, laidLooks := .later }
def FnHistCopyCardSaid : Prop := Claim7.holds Tryd.pinned (.plain (OpenSpec.ofChange fnHistCopySpec)) fnHistCopyCard

/-- THE TIED CARD OF 'laws.FnHistCompact'. -/
def fnHistCompactCard : Claim7 := { stood := { row := fnHistCompactRow, standIns := [], harness := (true, "f2eae88a6b25b4e959500ce75b8b34e8df79af34104060870f07b8138f747753"), looks := false }, kinds := [], alts := [], laidByText := true, laidKinds := [.sentinel, .sentinel, .sentinel, .sentinel, .sentinel, .sentinel, .sentinel, .sentinel], laidTests := true, laidLooks := .later }
def FnHistCompactCardSaid : Prop := Claim7.holds Tryd.pinned (.plain (OpenSpec.ofChange fnHistCompactSpec)) fnHistCompactCard

/-- THE SECOND FORM's CARD OF 'laws.FnHistValid'. -/
def fnHistValidUptoCard : Claim7 := { stood := { row := fnHistValidUptoRow, standIns := [], harness := (true, "f2eae88a6b25b4e959500ce75b8b34e8df79af34104060870f07b8138f747753"), looks := false }, kinds := [], alts := [], laidByText := true, laidKinds := [.sentinel, .sentinel, .sentinel, .sentinel, .sentinel, .sentinel, .sentinel, .sentinel], laidTests := true, laidLooks := .later }
def FnHistValidUptoCardSaid : Prop := Claim7.holds Tryd.pinned (.plain (OpenSpec.upto fnHistValidSpec)) fnHistValidUptoCard

/-- THE SECOND FORM's CARD OF 'laws.FnHistHinted'. -/
def fnHistHintedUptoCard : Claim7 := { stood := { row := fnHistHintedUptoRow, standIns := [], harness := (true, "f2eae88a6b25b4e959500ce75b8b34e8df79af34104060870f07b8138f747753"), looks := false }, kinds := [], alts := [], laidByText := true, laidKinds := [.sentinel, .sentinel, .sentinel, .sentinel, .sentinel, .sentinel, .sentinel, .sentinel], laidTests := true, laidLooks := .later }
def FnHistHintedUptoCardSaid : Prop := Claim7.holds Tryd.pinned (.plain (OpenSpec.upto fnHistHintedSpec)) fnHistHintedUptoCard

/-- THE SECOND FORM's CARD OF 'laws.FnHistScale'. -/
def fnHistScaleUptoCard : Claim7 := { stood := { row := fnHistScaleUptoRow, standIns := [], harness := (true, "f2eae88a6b25b4e959500ce75b8b34e8df79af34104060870f07b8138f747753"), looks := false }, kinds := [], alts := [], laidByText := true, laidKinds := [.sentinel, .sentinel, .sentinel, .sentinel, .sentinel, .sentinel, .sentinel, .sentinel], laidTests := true, laidLooks := .later }
def FnHistScaleUptoCardSaid : Prop := Claim7.holds Tryd.pinned (.plain (OpenSpec.upto fnHistScaleSpec)) fnHistScaleUptoCard

/-- THE SECOND FORM's CARD OF 'laws.FnGenerated'. -/
def fnGeneratedUptoCard : Claim7 := { stood := { row := fnGeneratedUptoRow, standIns := [], harness := (true, "f2eae88a6b25b4e959500ce75b8b34e8df79af34104060870f07b8138f747753"), looks := false }, kinds := [], alts := [], laidByText := true, laidKinds := [.sentinel, .sentinel, .sentinel, .sentinel, .sentinel, .sentinel, .sentinel, .sentinel], laidTests := true, laidLooks := .later }
def FnGeneratedUptoCardSaid : Prop := Claim7.holds Tryd.pinned (.plain (OpenSpec.upto fnGeneratedSpec)) fnGeneratedUptoCard

/-- THE SECOND FORM's CARD OF 'laws.FnHistCopy'. -/
def fnHistCopyUptoCard : Claim7 := { stood := { row := fnHistCopyUptoRow, standIns := [], harness := (true, "f2eae88a6b25b4e959500ce75b8b34e8df79af34104060870f07b8138f747753"), looks := false }, kinds := [], alts := [], laidByText := true, laidKinds := [.sentinel, .sentinel, .sentinel, .sentinel, .sentinel, .sentinel, .sentinel, .sentinel], laidTests := true, laidLooks := .later }
def FnHistCopyUptoCardSaid : Prop := Claim7.holds Tryd.pinned (.plain (OpenSpec.upto fnHistCopySpec)) fnHistCopyUptoCard

/-- THE SECOND FORM's CARD OF 'laws.FnHistCompact'. -/
def fnHistCompactUptoCard : Claim7 := { stood := { row := fnHistCompactUptoRow, standIns := [], harness := (true, "f2eae88a6b25b4e959500ce75b8b34e8df79af34104060870f07b8138f747753"), looks := false }, kinds := [], alts := [], laidByText := true, laidKinds := [.sentinel, .sentinel, .sentinel, .sentinel, .sentinel, .sentinel, .sentinel, .sentinel], laidTests := true, laidLooks := .later }
def FnHistCompactUptoCardSaid : Prop := Claim7.holds Tryd.pinned (.plain (OpenSpec.upto fnHistCompactSpec)) fnHistCompactUptoCard
end Rows
end Go.Proofs.YtbgkoapnejnfbaaDoor
