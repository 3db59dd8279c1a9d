/-
  DERIVED. GIVEN WITH THE SEED: THE CARDS: each row of YtfllcbcokncgpaaGreatDoorRows.lean that lists a variable, with what it lists TIED to the program's text (the seventh form; the later family's looks); each row that meets fmt, with fmt's text TOLD by the authors' own Lean function (tested against real Go, not proved from fmt's source: count such statements apart). THE CARD IS WHAT COUNTS. Prove the row's statement (the work); the ties are given (YtfllcbcokncgpaaGreatDoorTie.lean); close each card by the builder's one call (the guide's Derived/Test/ToyasCard.lean, 'card_holds'). Laid BY PROGRAM, IN A SANDBOX (cutbox-door.mjs). By AI agents, Wed Nov 11 2026. No macro, syntax, notation, axiom, sorry.
-/
import Derived.Test.YtfllcbcokncgpaaGreatDoorRows
import GoSem.ClaimSeven
namespace Go.Proofs.YtfllcbcokncgpaaGreatDoor
namespace Rows

/-- THE TIED CARD OF 'laws.FnIntervals'. -/
def fnIntervalsCard : Claim7 := { stood := { row := fnIntervalsRow, standIns := [], harness := (true, "3132c59f79e0e66b0d8931afd930f7bb22ba50de98a9cd8f9c77cf13f1fe3d59"), looks := true }, kinds := [], alts := [], laidByText := true, laidKinds := [.sentinel], laidTests := true, laidLooks := .later }
def FnIntervalsCardSaid : Prop := Claim7.holds Tryz.pinned (.plain (OpenSpec.ofChange fnIntervalsSpec)) fnIntervalsCard

/-- THE TIED CARD OF 'laws.FnRawAny'. -/
def fnRawAnyCard : Claim7 := { stood := { row := fnRawAnyRow, standIns := [], harness := (true, "3132c59f79e0e66b0d8931afd930f7bb22ba50de98a9cd8f9c77cf13f1fe3d59"), looks := true }, kinds := [], alts := [], laidByText := true, laidKinds := [.sentinel], laidTests := true, laidLooks := .later }
def FnRawAnyCardSaid : Prop := Claim7.holds Tryz.pinned (.plain (OpenSpec.ofChange fnRawAnySpec)) fnRawAnyCard

/-- THE TIED CARD OF 'laws.FnStringList'. -/
def fnStringListCard : Claim7 := { stood := { row := fnStringListRow, standIns := [], harness := (true, "3132c59f79e0e66b0d8931afd930f7bb22ba50de98a9cd8f9c77cf13f1fe3d59"), looks := true }, kinds := [], alts := [], laidByText := true, laidKinds := [.sentinel], laidTests := true, laidLooks := .later }
def FnStringListCardSaid : Prop := Claim7.holds Tryz.pinned (.plain (OpenSpec.ofChange fnStringListSpec)) fnStringListCard

/-- THE TIED CARD OF 'laws.FnPadding'. -/
def fnPaddingCard : Claim7 := { stood := { row := fnPaddingRow, standIns := [], harness := (true, "3132c59f79e0e66b0d8931afd930f7bb22ba50de98a9cd8f9c77cf13f1fe3d59"), looks := true }, kinds := [], alts := [], laidByText := true, laidKinds := [.sentinel], laidTests := true, laidLooks := .later }
def FnPaddingCardSaid : Prop := Claim7.holds Tryz.pinned (.plain (OpenSpec.ofChange fnPaddingSpec)) fnPaddingCard

/-- THE TIED CARD OF 'laws.FnRawPostings'. -/
def fnRawPostingsCard : Claim7 := { stood := { row := fnRawPostingsRow, standIns := [], harness := (true, "3132c59f79e0e66b0d8931afd930f7bb22ba50de98a9cd8f9c77cf13f1fe3d59"), looks := true }, kinds := [], alts := [], laidByText := true, laidKinds := [.sentinel], laidTests := true, laidLooks := .later }
def FnRawPostingsCardSaid : Prop := Claim7.holds Tryz.pinned (.plain (OpenSpec.ofChange fnRawPostingsSpec)) fnRawPostingsCard

/-- THE TIED CARD OF 'laws.FnBounds'. -/
def fnBoundsCard : Claim7 := { stood := { row := fnBoundsRow, standIns := [], harness := (true, "3132c59f79e0e66b0d8931afd930f7bb22ba50de98a9cd8f9c77cf13f1fe3d59"), looks := true }, kinds := [], alts := [], laidByText := true, laidKinds := [.sentinel], laidTests := true, laidLooks := .later }
def FnBoundsCardSaid : Prop := Claim7.holds Tryz.pinned (.plain (OpenSpec.ofChange fnBoundsSpec)) fnBoundsCard

/-- THE TIED CARD OF 'laws.FnToc'. -/
def fnTocCard : Claim7 := { stood := { row := fnTocRow, standIns := [], harness := (true, "3132c59f79e0e66b0d8931afd930f7bb22ba50de98a9cd8f9c77cf13f1fe3d59"), looks := true }, kinds := [], alts := [], laidByText := true, laidKinds := [.sentinel], laidTests := true, laidLooks := .later }
def FnTocCardSaid : Prop := Claim7.holds Tryz.pinned (.plain (OpenSpec.ofChange fnTocSpec)) fnTocCard

/-- THE TIED CARD OF 'laws.FnEncode'. -/
def fnEncodeCard : Claim7 := { stood := { row := fnEncodeRow, standIns := [], harness := (true, "3132c59f79e0e66b0d8931afd930f7bb22ba50de98a9cd8f9c77cf13f1fe3d59"), looks := true }, kinds := [], alts := [], laidByText := true, laidKinds := [.sentinel], laidTests := true, laidLooks := .later }
def FnEncodeCardSaid : Prop := Claim7.holds Tryz.pinned (.plain (OpenSpec.ofChange fnEncodeSpec)) fnEncodeCard

/-- THE SECOND FORM's CARD OF 'laws.FnIntervals'. -/
def fnIntervalsUptoCard : Claim7 := { stood := { row := fnIntervalsUptoRow, standIns := [], harness := (true, "3132c59f79e0e66b0d8931afd930f7bb22ba50de98a9cd8f9c77cf13f1fe3d59"), looks := true }, kinds := [], alts := [], laidByText := true, laidKinds := [.sentinel], laidTests := true, laidLooks := .later }
def FnIntervalsUptoCardSaid : Prop := Claim7.holds Tryz.pinned (.plain (OpenSpec.upto fnIntervalsSpec)) fnIntervalsUptoCard

/-- THE SECOND FORM's CARD OF 'laws.FnRawAny'. -/
def fnRawAnyUptoCard : Claim7 := { stood := { row := fnRawAnyUptoRow, standIns := [], harness := (true, "3132c59f79e0e66b0d8931afd930f7bb22ba50de98a9cd8f9c77cf13f1fe3d59"), looks := true }, kinds := [], alts := [], laidByText := true, laidKinds := [.sentinel], laidTests := true, laidLooks := .later }
def FnRawAnyUptoCardSaid : Prop := Claim7.holds Tryz.pinned (.plain (OpenSpec.upto fnRawAnySpec)) fnRawAnyUptoCard

/-- THE SECOND FORM's CARD OF 'laws.FnStringList'. -/
def fnStringListUptoCard : Claim7 := { stood := { row := fnStringListUptoRow, standIns := [], harness := (true, "3132c59f79e0e66b0d8931afd930f7bb22ba50de98a9cd8f9c77cf13f1fe3d59"), looks := true }, kinds := [], alts := [], laidByText := true, laidKinds := [.sentinel], laidTests := true, laidLooks := .later }
def FnStringListUptoCardSaid : Prop := Claim7.holds Tryz.pinned (.plain (OpenSpec.upto fnStringListSpec)) fnStringListUptoCard

/-- THE SECOND FORM's CARD OF 'laws.FnPadding'. -/
def fnPaddingUptoCard : Claim7 := { stood := { row := fnPaddingUptoRow, standIns := [], harness := (true, "3132c59f79e0e66b0d8931afd930f7bb22ba50de98a9cd8f9c77cf13f1fe3d59"), looks := true }, kinds := [], alts := [], laidByText := true, laidKinds := [.sentinel], laidTests := true, laidLooks := .later }
def FnPaddingUptoCardSaid : Prop := Claim7.holds Tryz.pinned (.plain (OpenSpec.upto fnPaddingSpec)) fnPaddingUptoCard

/-- THE SECOND FORM's CARD OF 'laws.FnRawPostings'. -/
def fnRawPostingsUptoCard : Claim7 := { stood := { row := fnRawPostingsUptoRow, standIns := [], harness := (true, "3132c59f79e0e66b0d8931afd930f7bb22ba50de98a9cd8f9c77cf13f1fe3d59"), looks := true }, kinds := [], alts := [], laidByText := true, laidKinds := [.sentinel], laidTests := true, laidLooks := .later }
def FnRawPostingsUptoCardSaid : Prop := Claim7.holds Tryz.pinned (.plain (OpenSpec.upto fnRawPostingsSpec)) fnRawPostingsUptoCard

/-- THE SECOND FORM's CARD OF 'laws.FnBounds'. -/
def fnBoundsUptoCard : Claim7 := { stood := { row := fnBoundsUptoRow, standIns := [], harness := (true, "3132c59f79e0e66b0d8931afd930f7bb22ba50de98a9cd8f9c77cf13f1fe3d59"), looks := true }, kinds := [], alts := [], laidByText := true, laidKinds := [.sentinel], laidTests := true, laidLooks := .later }
def FnBoundsUptoCardSaid : Prop := Claim7.holds Tryz.pinned (.plain (OpenSpec.upto fnBoundsSpec)) fnBoundsUptoCard

/-- THE SECOND FORM's CARD OF 'laws.FnToc'. -/
def fnTocUptoCard : Claim7 := { stood := { row := fnTocUptoRow, standIns := [], harness := (true, "3132c59f79e0e66b0d8931afd930f7bb22ba50de98a9cd8f9c77cf13f1fe3d59"), looks := true }, kinds := [], alts := [], laidByText := true, laidKinds := [.sentinel], laidTests := true, laidLooks := .later }
def FnTocUptoCardSaid : Prop := Claim7.holds Tryz.pinned (.plain (OpenSpec.upto fnTocSpec)) fnTocUptoCard

/-- THE SECOND FORM's CARD OF 'laws.FnEncode'. -/
def fnEncodeUptoCard : Claim7 := { stood := { row := fnEncodeUptoRow, standIns := [], harness := (true, "3132c59f79e0e66b0d8931afd930f7bb22ba50de98a9cd8f9c77cf13f1fe3d59"), looks := true }, kinds := [], alts := [], laidByText := true, laidKinds := [.sentinel], laidTests := true, laidLooks := .later }
def FnEncodeUptoCardSaid : Prop := Claim7.holds Tryz.pinned (.plain (OpenSpec.upto fnEncodeSpec)) fnEncodeUptoCard
end Rows
end Go.Proofs.YtfllcbcokncgpaaGreatDoor
