/-
  DERIVED. GIVEN WITH THE SEED: THE CARDS: each row of YtnboibamehjdgaaGreatDoorRows.lean that lists a variable, with what it lists TIED to the program's text (the seventh form; the later family's looks); each row that meets fmt, with fmt's text TOLD by the authors' own Lean function (tested against real Go, not proved from fmt's source: count such statements apart). THE CARD IS WHAT COUNTS. Prove the row's statement (the work); the ties are given (YtnboibamehjdgaaGreatDoorTie.lean); close each card by the builder's one call (the guide's Derived/Test/ToyasCard.lean, 'card_holds'). Laid BY PROGRAM, IN A SANDBOX (cutbox-door.mjs). By AI agents, Wed Nov 11 2026. No macro, syntax, notation, axiom, sorry.
-/
import Derived.Test.YtnboibamehjdgaaGreatDoorRows
import GoSem.ClaimSeven
namespace Go.Proofs.YtnboibamehjdgaaGreatDoor
namespace Rows

/-- THE TIED CARD OF 'n001_9.FnFuncIndexStringFirstByBytes'. -/
def fnFuncIndexStringFirstByBytesCard : Claim7 := { stood := { row := fnFuncIndexStringFirstByBytesRow, standIns := [], harness := (true, "cf16ef8de91758fa0a9718187172646be86960d6ddbc8849cf2be199cff9dc90"), looks := true }, kinds := [], alts := [], laidByText := true, laidKinds := [.data, .data, .widerDeep, .widerDeep, .data, .data, .data, .data, .data, .sentinel, .sentinel, .sentinel, .sentinel, .sentinel, .data, .data, .data, .data, .data, .pinned, .pinned], laidTests := true, laidLooks := .later }
def FnFuncIndexStringFirstByBytesCardSaid : Prop := Claim7.holds Tryz.pinned (.plain (OpenSpec.ofChange fnFuncIndexStringFirstByBytesSpec)) fnFuncIndexStringFirstByBytesCard

/-- THE TIED CARD OF 'n001_9.FnFuncIndicesStringByBytes'. -/
def fnFuncIndicesStringByBytesCard : Claim7 := { stood := { row := fnFuncIndicesStringByBytesRow, standIns := [], harness := (true, "cf16ef8de91758fa0a9718187172646be86960d6ddbc8849cf2be199cff9dc90"), looks := true }, kinds := [], alts := [], laidByText := true, laidKinds := [.data, .data, .widerDeep, .widerDeep, .data, .data, .data, .data, .data, .sentinel, .sentinel, .sentinel, .sentinel, .sentinel, .data, .data, .data, .data, .data, .pinned, .pinned], laidTests := true, laidLooks := .later }
def FnFuncIndicesStringByBytesCardSaid : Prop := Claim7.holds Tryz.pinned (.plain (OpenSpec.ofChange fnFuncIndicesStringByBytesSpec)) fnFuncIndicesStringByBytesCard

/-- THE TIED CARD OF 'n001_9.FnFuncIndicesElementIsOneLongArray'. -/
def fnFuncIndicesElementIsOneLongArrayCard : Claim7 := { stood := { row := fnFuncIndicesElementIsOneLongArrayRow, standIns := [], harness := (true, "cf16ef8de91758fa0a9718187172646be86960d6ddbc8849cf2be199cff9dc90"), looks := true }, kinds := [], alts := [], laidByText := true, laidKinds := [.data, .data, .widerDeep, .widerDeep, .data, .data, .data, .data, .data, .sentinel, .sentinel, .sentinel, .sentinel, .sentinel, .data, .data, .data, .data, .data, .pinned, .pinned], laidTests := true, laidLooks := .later }
def FnFuncIndicesElementIsOneLongArrayCardSaid : Prop := Claim7.holds Tryz.pinned (.plain (OpenSpec.ofChange fnFuncIndicesElementIsOneLongArraySpec)) fnFuncIndicesElementIsOneLongArrayCard

/-- THE TIED CARD OF 'n001_9.FnFuncIndexIsFirstOfIndices'. -/
def fnFuncIndexIsFirstOfIndicesCard : Claim7 := { stood := { row := fnFuncIndexIsFirstOfIndicesRow, standIns := [], harness := (true, "cf16ef8de91758fa0a9718187172646be86960d6ddbc8849cf2be199cff9dc90"), looks := true }, kinds := [], alts := [], laidByText := true, laidKinds := [.data, .data, .widerDeep, .widerDeep, .data, .data, .data, .data, .data, .sentinel, .sentinel, .sentinel, .sentinel, .sentinel, .data, .data, .data, .data, .data, .pinned, .pinned], laidTests := true, laidLooks := .later }
def FnFuncIndexIsFirstOfIndicesCardSaid : Prop := Claim7.holds Tryz.pinned (.plain (OpenSpec.ofChange fnFuncIndexIsFirstOfIndicesSpec)) fnFuncIndexIsFirstOfIndicesCard

/-- THE SECOND FORM's CARD OF 'n001_9.FnFuncIndexStringFirstByBytes'. -/
def fnFuncIndexStringFirstByBytesUptoCard : Claim7 := { stood := { row := fnFuncIndexStringFirstByBytesUptoRow, standIns := [], harness := (true, "cf16ef8de91758fa0a9718187172646be86960d6ddbc8849cf2be199cff9dc90"), looks := true }, kinds := [], alts := [], laidByText := true, laidKinds := [.data, .data, .widerDeep, .widerDeep, .data, .data, .data, .data, .data, .sentinel, .sentinel, .sentinel, .sentinel, .sentinel, .data, .data, .data, .data, .data, .pinned, .pinned], laidTests := true, laidLooks := .later }
def FnFuncIndexStringFirstByBytesUptoCardSaid : Prop := Claim7.holds Tryz.pinned (.plain (OpenSpec.upto fnFuncIndexStringFirstByBytesSpec)) fnFuncIndexStringFirstByBytesUptoCard

/-- THE SECOND FORM's CARD OF 'n001_9.FnFuncIndicesStringByBytes'. -/
def fnFuncIndicesStringByBytesUptoCard : Claim7 := { stood := { row := fnFuncIndicesStringByBytesUptoRow, standIns := [], harness := (true, "cf16ef8de91758fa0a9718187172646be86960d6ddbc8849cf2be199cff9dc90"), looks := true }, kinds := [], alts := [], laidByText := true, laidKinds := [.data, .data, .widerDeep, .widerDeep, .data, .data, .data, .data, .data, .sentinel, .sentinel, .sentinel, .sentinel, .sentinel, .data, .data, .data, .data, .data, .pinned, .pinned], laidTests := true, laidLooks := .later }
def FnFuncIndicesStringByBytesUptoCardSaid : Prop := Claim7.holds Tryz.pinned (.plain (OpenSpec.upto fnFuncIndicesStringByBytesSpec)) fnFuncIndicesStringByBytesUptoCard

/-- THE SECOND FORM's CARD OF 'n001_9.FnFuncIndicesElementIsOneLongArray'. -/
def fnFuncIndicesElementIsOneLongArrayUptoCard : Claim7 := { stood := { row := fnFuncIndicesElementIsOneLongArrayUptoRow, standIns := [], harness := (true, "cf16ef8de91758fa0a9718187172646be86960d6ddbc8849cf2be199cff9dc90"), looks := true }, kinds := [], alts := [], laidByText := true, laidKinds := [.data, .data, .widerDeep, .widerDeep, .data, .data, .data, .data, .data, .sentinel, .sentinel, .sentinel, .sentinel, .sentinel, .data, .data, .data, .data, .data, .pinned, .pinned], laidTests := true, laidLooks := .later }
def FnFuncIndicesElementIsOneLongArrayUptoCardSaid : Prop := Claim7.holds Tryz.pinned (.plain (OpenSpec.upto fnFuncIndicesElementIsOneLongArraySpec)) fnFuncIndicesElementIsOneLongArrayUptoCard

/-- THE SECOND FORM's CARD OF 'n001_9.FnFuncIndexIsFirstOfIndices'. -/
def fnFuncIndexIsFirstOfIndicesUptoCard : Claim7 := { stood := { row := fnFuncIndexIsFirstOfIndicesUptoRow, standIns := [], harness := (true, "cf16ef8de91758fa0a9718187172646be86960d6ddbc8849cf2be199cff9dc90"), looks := true }, kinds := [], alts := [], laidByText := true, laidKinds := [.data, .data, .widerDeep, .widerDeep, .data, .data, .data, .data, .data, .sentinel, .sentinel, .sentinel, .sentinel, .sentinel, .data, .data, .data, .data, .data, .pinned, .pinned], laidTests := true, laidLooks := .later }
def FnFuncIndexIsFirstOfIndicesUptoCardSaid : Prop := Claim7.holds Tryz.pinned (.plain (OpenSpec.upto fnFuncIndexIsFirstOfIndicesSpec)) fnFuncIndexIsFirstOfIndicesUptoCard
end Rows
end Go.Proofs.YtnboibamehjdgaaGreatDoor
