/-
  DERIVED. GIVEN WITH THE SEED: THE CARDS: each row of YtbhjgdapmflkiaaGreatDoorRows.lean that lists a variable, with what it lists TIED to the program's text (the seventh form; the later family's looks); each row that meets fmt, with fmt's text TOLD by the authors' own Lean function (tested against real Go, not proved from fmt's source: count such statements apart). THE CARD IS WHAT COUNTS. Prove the row's statement (the work); the ties are given (YtbhjgdapmflkiaaGreatDoorTie.lean); close each card by the builder's one call (the guide's Derived/Test/ToyasCard.lean, 'card_holds'). Laid BY PROGRAM, IN A SANDBOX (cutbox-door.mjs). By AI agents, Wed Nov 11 2026. No macro, syntax, notation, axiom, sorry.
-/
import Derived.Test.YtbhjgdapmflkiaaGreatDoorRows
import GoSem.ClaimSeven
namespace Go.Proofs.YtbhjgdapmflkiaaGreatDoor
namespace Rows

/-- THE TIED CARD OF 'n001_82.FnRindexIntsLastOccurrence'. -/
def fnRindexIntsLastOccurrenceCard : Claim7 := { stood := { row := fnRindexIntsLastOccurrenceRow, standIns := [], harness := (true, "44d98a02ffd279a7641d71022215aa21ba0761524a9c08765a32bc8c22e7edc4"), looks := true }, kinds := [], alts := [], laidByText := true, laidKinds := [.data, .data, .widerDeep, .widerDeep, .data, .data, .data, .data, .data, .sentinel, .sentinel, .sentinel, .sentinel, .sentinel, .data, .data, .data, .data, .data, .pinned, .pinned], laidTests := true, laidLooks := .later }
def FnRindexIntsLastOccurrenceCardSaid : Prop := Claim7.holds Tryz.pinned (.plain (OpenSpec.ofChange fnRindexIntsLastOccurrenceSpec)) fnRindexIntsLastOccurrenceCard

/-- THE TIED CARD OF 'n001_82.FnRindexStringRuneOffset'. -/
def fnRindexStringRuneOffsetCard : Claim7 := { stood := { row := fnRindexStringRuneOffsetRow, standIns := [], harness := (true, "44d98a02ffd279a7641d71022215aa21ba0761524a9c08765a32bc8c22e7edc4"), looks := true }, kinds := [], alts := [], laidByText := true, laidKinds := [.data, .data, .widerDeep, .widerDeep, .data, .data, .data, .data, .data, .sentinel, .sentinel, .sentinel, .sentinel, .sentinel, .data, .data, .data, .data, .data, .pinned, .pinned], laidTests := true, laidLooks := .later }
def FnRindexStringRuneOffsetCardSaid : Prop := Claim7.holds Tryz.pinned (.plain (OpenSpec.ofChange fnRindexStringRuneOffsetSpec)) fnRindexStringRuneOffsetCard

/-- THE TIED CARD OF 'n001_82.FnIndicesIntsCharacterised'. -/
def fnIndicesIntsCharacterisedCard : Claim7 := { stood := { row := fnIndicesIntsCharacterisedRow, standIns := [], harness := (true, "44d98a02ffd279a7641d71022215aa21ba0761524a9c08765a32bc8c22e7edc4"), looks := true }, kinds := [], alts := [], laidByText := true, laidKinds := [.data, .data, .widerDeep, .widerDeep, .data, .data, .data, .data, .data, .sentinel, .sentinel, .sentinel, .sentinel, .sentinel, .data, .data, .data, .data, .data, .pinned, .pinned], laidTests := true, laidLooks := .later }
def FnIndicesIntsCharacterisedCardSaid : Prop := Claim7.holds Tryz.pinned (.plain (OpenSpec.ofChange fnIndicesIntsCharacterisedSpec)) fnIndicesIntsCharacterisedCard

/-- THE TIED CARD OF 'n001_82.FnRindexIsLastOfIndices'. -/
def fnRindexIsLastOfIndicesCard : Claim7 := { stood := { row := fnRindexIsLastOfIndicesRow, standIns := [], harness := (true, "44d98a02ffd279a7641d71022215aa21ba0761524a9c08765a32bc8c22e7edc4"), looks := true }, kinds := [], alts := [], laidByText := true, laidKinds := [.data, .data, .widerDeep, .widerDeep, .data, .data, .data, .data, .data, .sentinel, .sentinel, .sentinel, .sentinel, .sentinel, .data, .data, .data, .data, .data, .pinned, .pinned], laidTests := true, laidLooks := .later }
def FnRindexIsLastOfIndicesCardSaid : Prop := Claim7.holds Tryz.pinned (.plain (OpenSpec.ofChange fnRindexIsLastOfIndicesSpec)) fnRindexIsLastOfIndicesCard

/-- THE TIED CARD OF 'n001_82.FnIndexFuncScalarNullAndRefusals'. -/
def fnIndexFuncScalarNullAndRefusalsCard : Claim7 := { stood := { row := fnIndexFuncScalarNullAndRefusalsRow, standIns := [], harness := (true, "44d98a02ffd279a7641d71022215aa21ba0761524a9c08765a32bc8c22e7edc4"), looks := true }, kinds := [], alts := [], laidByText := true, laidKinds := [.data, .data, .widerDeep, .widerDeep, .data, .data, .data, .data, .data, .sentinel, .sentinel, .sentinel, .sentinel, .sentinel, .data, .data, .data, .data, .data, .pinned, .pinned], laidTests := true, laidLooks := .later }
def FnIndexFuncScalarNullAndRefusalsCardSaid : Prop := Claim7.holds Tryz.pinned (.plain (OpenSpec.ofChange fnIndexFuncScalarNullAndRefusalsSpec)) fnIndexFuncScalarNullAndRefusalsCard

/-- THE SECOND FORM's CARD OF 'n001_82.FnRindexIntsLastOccurrence'. -/
def fnRindexIntsLastOccurrenceUptoCard : Claim7 := { stood := { row := fnRindexIntsLastOccurrenceUptoRow, standIns := [], harness := (true, "44d98a02ffd279a7641d71022215aa21ba0761524a9c08765a32bc8c22e7edc4"), looks := true }, kinds := [], alts := [], laidByText := true, laidKinds := [.data, .data, .widerDeep, .widerDeep, .data, .data, .data, .data, .data, .sentinel, .sentinel, .sentinel, .sentinel, .sentinel, .data, .data, .data, .data, .data, .pinned, .pinned], laidTests := true, laidLooks := .later }
def FnRindexIntsLastOccurrenceUptoCardSaid : Prop := Claim7.holds Tryz.pinned (.plain (OpenSpec.upto fnRindexIntsLastOccurrenceSpec)) fnRindexIntsLastOccurrenceUptoCard

/-- THE SECOND FORM's CARD OF 'n001_82.FnRindexStringRuneOffset'. -/
def fnRindexStringRuneOffsetUptoCard : Claim7 := { stood := { row := fnRindexStringRuneOffsetUptoRow, standIns := [], harness := (true, "44d98a02ffd279a7641d71022215aa21ba0761524a9c08765a32bc8c22e7edc4"), looks := true }, kinds := [], alts := [], laidByText := true, laidKinds := [.data, .data, .widerDeep, .widerDeep, .data, .data, .data, .data, .data, .sentinel, .sentinel, .sentinel, .sentinel, .sentinel, .data, .data, .data, .data, .data, .pinned, .pinned], laidTests := true, laidLooks := .later }
def FnRindexStringRuneOffsetUptoCardSaid : Prop := Claim7.holds Tryz.pinned (.plain (OpenSpec.upto fnRindexStringRuneOffsetSpec)) fnRindexStringRuneOffsetUptoCard

/-- THE SECOND FORM's CARD OF 'n001_82.FnIndicesIntsCharacterised'. -/
def fnIndicesIntsCharacterisedUptoCard : Claim7 := { stood := { row := fnIndicesIntsCharacterisedUptoRow, standIns := [], harness := (true, "44d98a02ffd279a7641d71022215aa21ba0761524a9c08765a32bc8c22e7edc4"), looks := true }, kinds := [], alts := [], laidByText := true, laidKinds := [.data, .data, .widerDeep, .widerDeep, .data, .data, .data, .data, .data, .sentinel, .sentinel, .sentinel, .sentinel, .sentinel, .data, .data, .data, .data, .data, .pinned, .pinned], laidTests := true, laidLooks := .later }
def FnIndicesIntsCharacterisedUptoCardSaid : Prop := Claim7.holds Tryz.pinned (.plain (OpenSpec.upto fnIndicesIntsCharacterisedSpec)) fnIndicesIntsCharacterisedUptoCard

/-- THE SECOND FORM's CARD OF 'n001_82.FnRindexIsLastOfIndices'. -/
def fnRindexIsLastOfIndicesUptoCard : Claim7 := { stood := { row := fnRindexIsLastOfIndicesUptoRow, standIns := [], harness := (true, "44d98a02ffd279a7641d71022215aa21ba0761524a9c08765a32bc8c22e7edc4"), looks := true }, kinds := [], alts := [], laidByText := true, laidKinds := [.data, .data, .widerDeep, .widerDeep, .data, .data, .data, .data, .data, .sentinel, .sentinel, .sentinel, .sentinel, .sentinel, .data, .data, .data, .data, .data, .pinned, .pinned], laidTests := true, laidLooks := .later }
def FnRindexIsLastOfIndicesUptoCardSaid : Prop := Claim7.holds Tryz.pinned (.plain (OpenSpec.upto fnRindexIsLastOfIndicesSpec)) fnRindexIsLastOfIndicesUptoCard

/-- THE SECOND FORM's CARD OF 'n001_82.FnIndexFuncScalarNullAndRefusals'. -/
def fnIndexFuncScalarNullAndRefusalsUptoCard : Claim7 := { stood := { row := fnIndexFuncScalarNullAndRefusalsUptoRow, standIns := [], harness := (true, "44d98a02ffd279a7641d71022215aa21ba0761524a9c08765a32bc8c22e7edc4"), looks := true }, kinds := [], alts := [], laidByText := true, laidKinds := [.data, .data, .widerDeep, .widerDeep, .data, .data, .data, .data, .data, .sentinel, .sentinel, .sentinel, .sentinel, .sentinel, .data, .data, .data, .data, .data, .pinned, .pinned], laidTests := true, laidLooks := .later }
def FnIndexFuncScalarNullAndRefusalsUptoCardSaid : Prop := Claim7.holds Tryz.pinned (.plain (OpenSpec.upto fnIndexFuncScalarNullAndRefusalsSpec)) fnIndexFuncScalarNullAndRefusalsUptoCard
end Rows
end Go.Proofs.YtbhjgdapmflkiaaGreatDoor
