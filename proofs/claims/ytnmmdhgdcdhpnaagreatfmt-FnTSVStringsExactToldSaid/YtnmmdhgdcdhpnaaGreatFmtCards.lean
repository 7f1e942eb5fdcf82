/-
  DERIVED. GIVEN WITH THE SEED: THE CARDS: each row of YtnmmdhgdcdhpnaaGreatFmtRows.lean that lists a variable, with what it lists TIED to the program's text (the seventh form; the later family's looks); each row that meets fmt, with fmt's text TOLD by the authors' own Lean function (tested against real Go, not proved from fmt's source: count such statements apart). THE CARD IS WHAT COUNTS. Prove the row's statement (the work); the ties are given (YtnmmdhgdcdhpnaaGreatFmtTie.lean); close each card by the builder's one call (the guide's Derived/Test/ToyasCard.lean, 'card_holds'). Laid BY PROGRAM, IN A SANDBOX (cutbox-door.mjs). By AI agents, Wed Nov 11 2026. No macro, syntax, notation, axiom, sorry.
-/
import Derived.Test.YtnmmdhgdcdhpnaaGreatFmtRows
import GoSem.ClaimSeven
namespace Go.Proofs.YtnmmdhgdcdhpnaaGreatFmt
namespace Rows

/-- THE TOLD AND TIED CARD OF 'n001_75.FnShStringsExact'. -/
def fnShStringsExactCard : Claim7 := { stood := { row := fnShStringsExactRow, standIns := [], harness := (true, "5747efa46c4fe28e7a0923e3640ec07599274403b74e4bfd2ddd82edb555e56e"), looks := true }, told := true, laidByText := true, laidKinds := [.data, .data, .data, .data, .data, .data, .data, .data, .data, .data, .pinned, .pinned, .pinned], laidTests := true, laidLooks := .later, goes := false }
def FnShStringsExactToldSaid : Prop := Claim7.holds Tryz.pinned (.plain (OpenSpec.ofChange fnShStringsExactSpec)) fnShStringsExactCard
/-- ITS FALSE NEIGHBOUR. Refute it at one input. -/
def FnShStringsExactToldWrongFalsely : Prop := Claim7.holds Tryz.pinned (.plain (OpenSpec.ofChange fnShStringsExactWrong)) fnShStringsExactCard

/-- THE TOLD AND TIED CARD OF 'n001_75.FnTSVStringsExact'. -/
def fnTSVStringsExactCard : Claim7 := { stood := { row := fnTSVStringsExactRow, standIns := [], harness := (true, "5747efa46c4fe28e7a0923e3640ec07599274403b74e4bfd2ddd82edb555e56e"), looks := true }, told := true, laidByText := true, laidKinds := [.data, .data, .data, .data, .data, .data, .data, .data, .data, .data, .pinned, .pinned, .pinned], laidTests := true, laidLooks := .later, goes := false }
def FnTSVStringsExactToldSaid : Prop := Claim7.holds Tryz.pinned (.plain (OpenSpec.ofChange fnTSVStringsExactSpec)) fnTSVStringsExactCard
/-- ITS FALSE NEIGHBOUR. Refute it at one input. -/
def FnTSVStringsExactToldWrongFalsely : Prop := Claim7.holds Tryz.pinned (.plain (OpenSpec.ofChange fnTSVStringsExactWrong)) fnTSVStringsExactCard

/-- THE TOLD AND TIED CARD OF 'n001_75.FnTSVStringsRoundTrip'. -/
def fnTSVStringsRoundTripCard : Claim7 := { stood := { row := fnTSVStringsRoundTripRow, standIns := [], harness := (true, "5747efa46c4fe28e7a0923e3640ec07599274403b74e4bfd2ddd82edb555e56e"), looks := true }, told := true, laidByText := true, laidKinds := [.data, .data, .data, .data, .data, .data, .data, .data, .data, .data, .pinned, .pinned, .pinned], laidTests := true, laidLooks := .later, goes := false }
def FnTSVStringsRoundTripToldSaid : Prop := Claim7.holds Tryz.pinned (.plain (OpenSpec.ofChange fnTSVStringsRoundTripSpec)) fnTSVStringsRoundTripCard
/-- ITS FALSE NEIGHBOUR. Refute it at one input. -/
def FnTSVStringsRoundTripToldWrongFalsely : Prop := Claim7.holds Tryz.pinned (.plain (OpenSpec.ofChange fnTSVStringsRoundTripWrong)) fnTSVStringsRoundTripCard

/-- THE TOLD AND TIED CARD OF 'n001_75.FnShStringsRoundTrip'. -/
def fnShStringsRoundTripCard : Claim7 := { stood := { row := fnShStringsRoundTripRow, standIns := [], harness := (true, "5747efa46c4fe28e7a0923e3640ec07599274403b74e4bfd2ddd82edb555e56e"), looks := true }, told := true, laidByText := true, laidKinds := [.data, .data, .data, .data, .data, .data, .data, .data, .data, .data, .pinned, .pinned, .pinned], laidTests := true, laidLooks := .later, goes := false }
def FnShStringsRoundTripToldSaid : Prop := Claim7.holds Tryz.pinned (.plain (OpenSpec.ofChange fnShStringsRoundTripSpec)) fnShStringsRoundTripCard
/-- ITS FALSE NEIGHBOUR. Refute it at one input. -/
def FnShStringsRoundTripToldWrongFalsely : Prop := Claim7.holds Tryz.pinned (.plain (OpenSpec.ofChange fnShStringsRoundTripWrong)) fnShStringsRoundTripCard

/-- THE TOLD AND TIED CARD OF 'n001_75.FnFormatJoinShRowTable'. -/
def fnFormatJoinShRowTableCard : Claim7 := { stood := { row := fnFormatJoinShRowTableRow, standIns := [], harness := (true, "5747efa46c4fe28e7a0923e3640ec07599274403b74e4bfd2ddd82edb555e56e"), looks := true }, told := true, laidByText := true, laidKinds := [.data, .data, .data, .data, .data, .data, .data, .data, .data, .data, .pinned, .pinned, .pinned], laidTests := true, laidLooks := .later, goes := false }
def FnFormatJoinShRowTableToldSaid : Prop := Claim7.holds Tryz.pinned (.plain (OpenSpec.ofChange fnFormatJoinShRowTableSpec)) fnFormatJoinShRowTableCard
/-- ITS FALSE NEIGHBOUR. Refute it at one input. -/
def FnFormatJoinShRowTableToldWrongFalsely : Prop := Claim7.holds Tryz.pinned (.plain (OpenSpec.ofChange fnFormatJoinShRowTableWrong)) fnFormatJoinShRowTableCard

/-- THE TOLD AND TIED CARD OF 'n001_75.FnFormatJoinTSVRowTable'. -/
def fnFormatJoinTSVRowTableCard : Claim7 := { stood := { row := fnFormatJoinTSVRowTableRow, standIns := [], harness := (true, "5747efa46c4fe28e7a0923e3640ec07599274403b74e4bfd2ddd82edb555e56e"), looks := true }, told := true, laidByText := true, laidKinds := [.data, .data, .data, .data, .data, .data, .data, .data, .data, .data, .pinned, .pinned, .pinned], laidTests := true, laidLooks := .later, goes := false }
def FnFormatJoinTSVRowTableToldSaid : Prop := Claim7.holds Tryz.pinned (.plain (OpenSpec.ofChange fnFormatJoinTSVRowTableSpec)) fnFormatJoinTSVRowTableCard
/-- ITS FALSE NEIGHBOUR. Refute it at one input. -/
def FnFormatJoinTSVRowTableToldWrongFalsely : Prop := Claim7.holds Tryz.pinned (.plain (OpenSpec.ofChange fnFormatJoinTSVRowTableWrong)) fnFormatJoinTSVRowTableCard

/-- THE TOLD AND TIED CARD OF 'n001_75.FnBase64RoundTrip'. -/
def fnBase64RoundTripCard : Claim7 := { stood := { row := fnBase64RoundTripRow, standIns := [], harness := (true, "5747efa46c4fe28e7a0923e3640ec07599274403b74e4bfd2ddd82edb555e56e"), looks := true }, told := true, laidByText := true, laidKinds := [.data, .data, .data, .data, .data, .data, .data, .data, .data, .data, .pinned, .pinned, .pinned], laidTests := true, laidLooks := .later, goes := false }
def FnBase64RoundTripToldSaid : Prop := Claim7.holds Tryz.pinned (.plain (OpenSpec.ofChange fnBase64RoundTripSpec)) fnBase64RoundTripCard
/-- ITS FALSE NEIGHBOUR. Refute it at one input. -/
def FnBase64RoundTripToldWrongFalsely : Prop := Claim7.holds Tryz.pinned (.plain (OpenSpec.ofChange fnBase64RoundTripWrong)) fnBase64RoundTripCard
end Rows
end Go.Proofs.YtnmmdhgdcdhpnaaGreatFmt
