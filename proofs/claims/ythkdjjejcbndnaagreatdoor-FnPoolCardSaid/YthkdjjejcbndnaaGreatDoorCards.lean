/-
  DERIVED. GIVEN WITH THE SEED: THE CARDS: each row of YthkdjjejcbndnaaGreatDoorRows.lean that lists a variable, with what it lists TIED to the program's text (the seventh form; the later family's looks); each row that meets fmt, with fmt's text TOLD by the authors' own Lean function (tested against real Go, not proved from fmt's source: count such statements apart). THE CARD IS WHAT COUNTS. Prove the row's statement (the work); the ties are given (YthkdjjejcbndnaaGreatDoorTie.lean); close each card by the builder's one call (the guide's Derived/Test/ToyasCard.lean, 'card_holds'). Laid BY PROGRAM, IN A SANDBOX (cutbox-door.mjs). By AI agents, Wed Nov 11 2026. No macro, syntax, notation, axiom, sorry.
-/
import Derived.Test.YthkdjjejcbndnaaGreatDoorRows
import GoSem.ClaimSeven
namespace Go.Proofs.YthkdjjejcbndnaaGreatDoor
namespace Rows

/-- THE TIED CARD OF 'laws.FnXorBack'. -/
def fnXorBackCard : Claim7 := { stood := { row := fnXorBackRow, standIns := [], harness := (true, "f421dadf396441073950e1dbabf2bc6e97e1c36a3287d910937d756f7abff3f8"), looks := true }, kinds := [], alts := [], laidByText := true, laidKinds := [.sentinel, .sentinel, .sentinel], laidTests := true, laidLooks := .later }
def FnXorBackCardSaid : Prop := Claim7.holds Tryz.pinned (.plain (OpenSpec.ofChange fnXorBackSpec)) fnXorBackCard

/-- THE TIED CARD OF 'laws.FnXorBytes'. -/
def fnXorBytesCard : Claim7 := { stood := { row := fnXorBytesRow, standIns := [], harness := (true, "f421dadf396441073950e1dbabf2bc6e97e1c36a3287d910937d756f7abff3f8"), looks := true }, kinds := [], alts := [], laidByText := true, laidKinds := [.sentinel, .sentinel, .sentinel], laidTests := true, laidLooks := .later }
def FnXorBytesCardSaid : Prop := Claim7.holds Tryz.pinned (.plain (OpenSpec.ofChange fnXorBytesSpec)) fnXorBytesCard

/-- THE TIED CARD OF 'laws.FnXorReads'. -/
def fnXorReadsCard : Claim7 := { stood := { row := fnXorReadsRow, standIns := [], harness := (true, "f421dadf396441073950e1dbabf2bc6e97e1c36a3287d910937d756f7abff3f8"), looks := true }, kinds := [], alts := [], laidByText := true, laidKinds := [.sentinel, .sentinel, .sentinel], laidTests := true, laidLooks := .later }
def FnXorReadsCardSaid : Prop := Claim7.holds Tryz.pinned (.plain (OpenSpec.ofChange fnXorReadsSpec)) fnXorReadsCard

/-- THE TIED CARD OF 'laws.FnXorSize'. -/
def fnXorSizeCard : Claim7 := { stood := { row := fnXorSizeRow, standIns := [], harness := (true, "f421dadf396441073950e1dbabf2bc6e97e1c36a3287d910937d756f7abff3f8"), looks := true }, kinds := [], alts := [], laidByText := true, laidKinds := [.sentinel, .sentinel, .sentinel], laidTests := true, laidLooks := .later }
def FnXorSizeCardSaid : Prop := Claim7.holds Tryz.pinned (.plain (OpenSpec.ofChange fnXorSizeSpec)) fnXorSizeCard

/-- THE TIED CARD OF 'laws.FnXorCompact'. -/
def fnXorCompactCard : Claim7 := { stood := { row := fnXorCompactRow, standIns := [], harness := (true, "f421dadf396441073950e1dbabf2bc6e97e1c36a3287d910937d756f7abff3f8"), looks := true }, kinds := [], alts := [], laidByText := true, laidKinds := [.sentinel, .sentinel, .sentinel], laidTests := true, laidLooks := .later }
def FnXorCompactCardSaid : Prop := Claim7.holds Tryz.pinned (.plain (OpenSpec.ofChange fnXorCompactSpec)) fnXorCompactCard

/-- THE TIED CARD OF 'laws.FnPool'. -/
def fnPoolCard : Claim7 := { stood := { row := fnPoolRow, standIns := [], harness := (true, "f421dadf396441073950e1dbabf2bc6e97e1c36a3287d910937d756f7abff3f8"), looks := true }, kinds := [], alts := [], laidByText := true, laidKinds := [.sentinel, .sentinel, .sentinel], laidTests := true, laidLooks := .later }
def FnPoolCardSaid : Prop := Claim7.holds Tryz.pinned (.plain (OpenSpec.ofChange fnPoolSpec)) fnPoolCard

/-- THE TIED CARD OF 'laws.FnXorSeeks'. -/
def fnXorSeeksCard : Claim7 := { stood := { row := fnXorSeeksRow, standIns := [], harness := (true, "f421dadf396441073950e1dbabf2bc6e97e1c36a3287d910937d756f7abff3f8"), looks := true }, kinds := [], alts := [], laidByText := true, laidKinds := [.sentinel, .sentinel, .sentinel], laidTests := true, laidLooks := .later }
def FnXorSeeksCardSaid : Prop := Claim7.holds Tryz.pinned (.plain (OpenSpec.ofChange fnXorSeeksSpec)) fnXorSeeksCard

/-- THE TIED CARD OF 'laws.FnEmptyChunks'. -/
def fnEmptyChunksCard : Claim7 := { stood := { row := fnEmptyChunksRow, standIns := [], harness := (true, "f421dadf396441073950e1dbabf2bc6e97e1c36a3287d910937d756f7abff3f8"), looks := true }, kinds := [], alts := [], laidByText := true, laidKinds := [.sentinel, .sentinel, .sentinel], laidTests := true, laidLooks := .later }
def FnEmptyChunksCardSaid : Prop := Claim7.holds Tryz.pinned (.plain (OpenSpec.ofChange fnEmptyChunksSpec)) fnEmptyChunksCard

/-- THE SECOND FORM's CARD OF 'laws.FnXorBack'. -/
def fnXorBackUptoCard : Claim7 := { stood := { row := fnXorBackUptoRow, standIns := [], harness := (true, "f421dadf396441073950e1dbabf2bc6e97e1c36a3287d910937d756f7abff3f8"), looks := true }, kinds := [], alts := [], laidByText := true, laidKinds := [.sentinel, .sentinel, .sentinel], laidTests := true, laidLooks := .later }
def FnXorBackUptoCardSaid : Prop := Claim7.holds Tryz.pinned (.plain (OpenSpec.upto fnXorBackSpec)) fnXorBackUptoCard

/-- THE SECOND FORM's CARD OF 'laws.FnXorBytes'. -/
def fnXorBytesUptoCard : Claim7 := { stood := { row := fnXorBytesUptoRow, standIns := [], harness := (true, "f421dadf396441073950e1dbabf2bc6e97e1c36a3287d910937d756f7abff3f8"), looks := true }, kinds := [], alts := [], laidByText := true, laidKinds := [.sentinel, .sentinel, .sentinel], laidTests := true, laidLooks := .later }
def FnXorBytesUptoCardSaid : Prop := Claim7.holds Tryz.pinned (.plain (OpenSpec.upto fnXorBytesSpec)) fnXorBytesUptoCard

/-- THE SECOND FORM's CARD OF 'laws.FnXorReads'. -/
def fnXorReadsUptoCard : Claim7 := { stood := { row := fnXorReadsUptoRow, standIns := [], harness := (true, "f421dadf396441073950e1dbabf2bc6e97e1c36a3287d910937d756f7abff3f8"), looks := true }, kinds := [], alts := [], laidByText := true, laidKinds := [.sentinel, .sentinel, .sentinel], laidTests := true, laidLooks := .later }
def FnXorReadsUptoCardSaid : Prop := Claim7.holds Tryz.pinned (.plain (OpenSpec.upto fnXorReadsSpec)) fnXorReadsUptoCard

/-- THE SECOND FORM's CARD OF 'laws.FnXorSize'. -/
def fnXorSizeUptoCard : Claim7 := { stood := { row := fnXorSizeUptoRow, standIns := [], harness := (true, "f421dadf396441073950e1dbabf2bc6e97e1c36a3287d910937d756f7abff3f8"), looks := true }, kinds := [], alts := [], laidByText := true, laidKinds := [.sentinel, .sentinel, .sentinel], laidTests := true, laidLooks := .later }
def FnXorSizeUptoCardSaid : Prop := Claim7.holds Tryz.pinned (.plain (OpenSpec.upto fnXorSizeSpec)) fnXorSizeUptoCard

/-- THE SECOND FORM's CARD OF 'laws.FnXorCompact'. -/
def fnXorCompactUptoCard : Claim7 := { stood := { row := fnXorCompactUptoRow, standIns := [], harness := (true, "f421dadf396441073950e1dbabf2bc6e97e1c36a3287d910937d756f7abff3f8"), looks := true }, kinds := [], alts := [], laidByText := true, laidKinds := [.sentinel, .sentinel, .sentinel], laidTests := true, laidLooks := .later }
def FnXorCompactUptoCardSaid : Prop := Claim7.holds Tryz.pinned (.plain (OpenSpec.upto fnXorCompactSpec)) fnXorCompactUptoCard

/-- THE SECOND FORM's CARD OF 'laws.FnPool'. -/
def fnPoolUptoCard : Claim7 := { stood := { row := fnPoolUptoRow, standIns := [], harness := (true, "f421dadf396441073950e1dbabf2bc6e97e1c36a3287d910937d756f7abff3f8"), looks := true }, kinds := [], alts := [], laidByText := true, laidKinds := [.sentinel, .sentinel, .sentinel], laidTests := true, laidLooks := .later }
def FnPoolUptoCardSaid : Prop := Claim7.holds Tryz.pinned (.plain (OpenSpec.upto fnPoolSpec)) fnPoolUptoCard

/-- THE SECOND FORM's CARD OF 'laws.FnXorSeeks'. -/
def fnXorSeeksUptoCard : Claim7 := { stood := { row := fnXorSeeksUptoRow, standIns := [], harness := (true, "f421dadf396441073950e1dbabf2bc6e97e1c36a3287d910937d756f7abff3f8"), looks := true }, kinds := [], alts := [], laidByText := true, laidKinds := [.sentinel, .sentinel, .sentinel], laidTests := true, laidLooks := .later }
def FnXorSeeksUptoCardSaid : Prop := Claim7.holds Tryz.pinned (.plain (OpenSpec.upto fnXorSeeksSpec)) fnXorSeeksUptoCard

/-- THE SECOND FORM's CARD OF 'laws.FnEmptyChunks'. -/
def fnEmptyChunksUptoCard : Claim7 := { stood := { row := fnEmptyChunksUptoRow, standIns := [], harness := (true, "f421dadf396441073950e1dbabf2bc6e97e1c36a3287d910937d756f7abff3f8"), looks := true }, kinds := [], alts := [], laidByText := true, laidKinds := [.sentinel, .sentinel, .sentinel], laidTests := true, laidLooks := .later }
def FnEmptyChunksUptoCardSaid : Prop := Claim7.holds Tryz.pinned (.plain (OpenSpec.upto fnEmptyChunksSpec)) fnEmptyChunksUptoCard
end Rows
end Go.Proofs.YthkdjjejcbndnaaGreatDoor
