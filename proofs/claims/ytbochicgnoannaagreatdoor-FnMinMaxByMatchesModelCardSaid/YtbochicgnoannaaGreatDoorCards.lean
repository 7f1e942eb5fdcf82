/-
  DERIVED. GIVEN WITH THE SEED: THE CARDS: each row of YtbochicgnoannaaGreatDoorRows.lean that lists a variable, with what it lists TIED to the program's text (the seventh form; the later family's looks); each row that meets fmt, with fmt's text TOLD by the authors' own Lean function (tested against real Go, not proved from fmt's source: count such statements apart). THE CARD IS WHAT COUNTS. Prove the row's statement (the work); the ties are given (YtbochicgnoannaaGreatDoorTie.lean); close each card by the builder's one call (the guide's Derived/Test/ToyasCard.lean, 'card_holds'). Laid BY PROGRAM, IN A SANDBOX (cutbox-door.mjs). By AI agents, Wed Nov 11 2026. No macro, syntax, notation, axiom, sorry.
-/
import Derived.Test.YtbochicgnoannaaGreatDoorRows
import GoSem.ClaimSeven
namespace Go.Proofs.YtbochicgnoannaaGreatDoor
namespace Rows

/-- THE TIED CARD OF 'n001_67.FnMaxByOnItselfAgreesWithMax'. -/
def fnMaxByOnItselfAgreesWithMaxCard : Claim7 := { stood := { row := fnMaxByOnItselfAgreesWithMaxRow, standIns := [], harness := (true, "462f7226691193b2f7d21cb7f291c159de3520e0651d890e1a9a42eadfee8803"), looks := true }, kinds := [], alts := [], laidByText := true, laidKinds := [.data, .data, .widerDeep, .widerDeep, .data, .data, .data, .data, .data, .sentinel, .sentinel, .sentinel, .sentinel, .sentinel, .data, .data, .data, .data, .data, .pinned, .pinned], laidTests := true, laidLooks := .later }
def FnMaxByOnItselfAgreesWithMaxCardSaid : Prop := Claim7.holds Tryz.pinned (.plain (OpenSpec.ofChange fnMaxByOnItselfAgreesWithMaxSpec)) fnMaxByOnItselfAgreesWithMaxCard

/-- THE TIED CARD OF 'n001_67.FnMinMaxByMatchesModel'. -/
def fnMinMaxByMatchesModelCard : Claim7 := { stood := { row := fnMinMaxByMatchesModelRow, standIns := [], harness := (true, "462f7226691193b2f7d21cb7f291c159de3520e0651d890e1a9a42eadfee8803"), looks := true }, kinds := [], alts := [], laidByText := true, laidKinds := [.data, .data, .widerDeep, .widerDeep, .data, .data, .data, .data, .data, .sentinel, .sentinel, .sentinel, .sentinel, .sentinel, .data, .data, .data, .data, .data, .pinned, .pinned], laidTests := true, laidLooks := .later }
def FnMinMaxByMatchesModelCardSaid : Prop := Claim7.holds Tryz.pinned (.plain (OpenSpec.ofChange fnMinMaxByMatchesModelSpec)) fnMinMaxByMatchesModelCard

/-- THE TIED CARD OF 'n001_67.FnMinByPicksFirstMinimalKey'. -/
def fnMinByPicksFirstMinimalKeyCard : Claim7 := { stood := { row := fnMinByPicksFirstMinimalKeyRow, standIns := [], harness := (true, "462f7226691193b2f7d21cb7f291c159de3520e0651d890e1a9a42eadfee8803"), looks := true }, kinds := [], alts := [], laidByText := true, laidKinds := [.data, .data, .widerDeep, .widerDeep, .data, .data, .data, .data, .data, .sentinel, .sentinel, .sentinel, .sentinel, .sentinel, .data, .data, .data, .data, .data, .pinned, .pinned], laidTests := true, laidLooks := .later }
def FnMinByPicksFirstMinimalKeyCardSaid : Prop := Claim7.holds Tryz.pinned (.plain (OpenSpec.ofChange fnMinByPicksFirstMinimalKeySpec)) fnMinByPicksFirstMinimalKeyCard

/-- THE TIED CARD OF 'n001_67.FnMaxByPicksLastMaximalKey'. -/
def fnMaxByPicksLastMaximalKeyCard : Claim7 := { stood := { row := fnMaxByPicksLastMaximalKeyRow, standIns := [], harness := (true, "462f7226691193b2f7d21cb7f291c159de3520e0651d890e1a9a42eadfee8803"), looks := true }, kinds := [], alts := [], laidByText := true, laidKinds := [.data, .data, .widerDeep, .widerDeep, .data, .data, .data, .data, .data, .sentinel, .sentinel, .sentinel, .sentinel, .sentinel, .data, .data, .data, .data, .data, .pinned, .pinned], laidTests := true, laidLooks := .later }
def FnMaxByPicksLastMaximalKeyCardSaid : Prop := Claim7.holds Tryz.pinned (.plain (OpenSpec.ofChange fnMaxByPicksLastMaximalKeySpec)) fnMaxByPicksLastMaximalKeyCard

/-- THE SECOND FORM's CARD OF 'n001_67.FnMaxByOnItselfAgreesWithMax'. -/
def fnMaxByOnItselfAgreesWithMaxUptoCard : Claim7 := { stood := { row := fnMaxByOnItselfAgreesWithMaxUptoRow, standIns := [], harness := (true, "462f7226691193b2f7d21cb7f291c159de3520e0651d890e1a9a42eadfee8803"), looks := true }, kinds := [], alts := [], laidByText := true, laidKinds := [.data, .data, .widerDeep, .widerDeep, .data, .data, .data, .data, .data, .sentinel, .sentinel, .sentinel, .sentinel, .sentinel, .data, .data, .data, .data, .data, .pinned, .pinned], laidTests := true, laidLooks := .later }
def FnMaxByOnItselfAgreesWithMaxUptoCardSaid : Prop := Claim7.holds Tryz.pinned (.plain (OpenSpec.upto fnMaxByOnItselfAgreesWithMaxSpec)) fnMaxByOnItselfAgreesWithMaxUptoCard

/-- THE SECOND FORM's CARD OF 'n001_67.FnMinMaxByMatchesModel'. -/
def fnMinMaxByMatchesModelUptoCard : Claim7 := { stood := { row := fnMinMaxByMatchesModelUptoRow, standIns := [], harness := (true, "462f7226691193b2f7d21cb7f291c159de3520e0651d890e1a9a42eadfee8803"), looks := true }, kinds := [], alts := [], laidByText := true, laidKinds := [.data, .data, .widerDeep, .widerDeep, .data, .data, .data, .data, .data, .sentinel, .sentinel, .sentinel, .sentinel, .sentinel, .data, .data, .data, .data, .data, .pinned, .pinned], laidTests := true, laidLooks := .later }
def FnMinMaxByMatchesModelUptoCardSaid : Prop := Claim7.holds Tryz.pinned (.plain (OpenSpec.upto fnMinMaxByMatchesModelSpec)) fnMinMaxByMatchesModelUptoCard

/-- THE SECOND FORM's CARD OF 'n001_67.FnMinByPicksFirstMinimalKey'. -/
def fnMinByPicksFirstMinimalKeyUptoCard : Claim7 := { stood := { row := fnMinByPicksFirstMinimalKeyUptoRow, standIns := [], harness := (true, "462f7226691193b2f7d21cb7f291c159de3520e0651d890e1a9a42eadfee8803"), looks := true }, kinds := [], alts := [], laidByText := true, laidKinds := [.data, .data, .widerDeep, .widerDeep, .data, .data, .data, .data, .data, .sentinel, .sentinel, .sentinel, .sentinel, .sentinel, .data, .data, .data, .data, .data, .pinned, .pinned], laidTests := true, laidLooks := .later }
def FnMinByPicksFirstMinimalKeyUptoCardSaid : Prop := Claim7.holds Tryz.pinned (.plain (OpenSpec.upto fnMinByPicksFirstMinimalKeySpec)) fnMinByPicksFirstMinimalKeyUptoCard

/-- THE SECOND FORM's CARD OF 'n001_67.FnMaxByPicksLastMaximalKey'. -/
def fnMaxByPicksLastMaximalKeyUptoCard : Claim7 := { stood := { row := fnMaxByPicksLastMaximalKeyUptoRow, standIns := [], harness := (true, "462f7226691193b2f7d21cb7f291c159de3520e0651d890e1a9a42eadfee8803"), looks := true }, kinds := [], alts := [], laidByText := true, laidKinds := [.data, .data, .widerDeep, .widerDeep, .data, .data, .data, .data, .data, .sentinel, .sentinel, .sentinel, .sentinel, .sentinel, .data, .data, .data, .data, .data, .pinned, .pinned], laidTests := true, laidLooks := .later }
def FnMaxByPicksLastMaximalKeyUptoCardSaid : Prop := Claim7.holds Tryz.pinned (.plain (OpenSpec.upto fnMaxByPicksLastMaximalKeySpec)) fnMaxByPicksLastMaximalKeyUptoCard
end Rows
end Go.Proofs.YtbochicgnoannaaGreatDoor
