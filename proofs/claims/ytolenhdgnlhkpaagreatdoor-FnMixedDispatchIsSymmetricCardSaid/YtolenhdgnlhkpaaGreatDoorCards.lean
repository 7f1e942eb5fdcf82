/-
  DERIVED. GIVEN WITH THE SEED: THE CARDS: each row of YtolenhdgnlhkpaaGreatDoorRows.lean that lists a variable, with what it lists TIED to the program's text (the seventh form; the later family's looks); each row that meets fmt, with fmt's text TOLD by the authors' own Lean function (tested against real Go, not proved from fmt's source: count such statements apart). THE CARD IS WHAT COUNTS. Prove the row's statement (the work); the ties are given (YtolenhdgnlhkpaaGreatDoorTie.lean); close each card by the builder's one call (the guide's Derived/Test/ToyasCard.lean, 'card_holds'). Laid BY PROGRAM, IN A SANDBOX (cutbox-door.mjs). By AI agents, Wed Nov 11 2026. No macro, syntax, notation, axiom, sorry.
-/
import Derived.Test.YtolenhdgnlhkpaaGreatDoorRows
import GoSem.ClaimSeven
namespace Go.Proofs.YtolenhdgnlhkpaaGreatDoor
namespace Rows

/-- THE TIED CARD OF 'n001_74.FnMixedDispatchIsSymmetric'. -/
def fnMixedDispatchIsSymmetricCard : Claim7 := { stood := { row := fnMixedDispatchIsSymmetricRow, standIns := [], harness := (true, "7fe59a1d1c54b742bacfeee3e034a4de621cbb2de0a8d209b73a0315e1a1974b"), looks := true }, kinds := [], alts := [], laidByText := true, laidKinds := [.data, .data, .widerDeep, .widerDeep, .data, .data, .data, .data, .data, .sentinel, .sentinel, .sentinel, .sentinel, .sentinel, .data, .data, .data, .data, .data, .pinned, .pinned], laidTests := true, laidLooks := .later }
def FnMixedDispatchIsSymmetricCardSaid : Prop := Claim7.holds Tryz.pinned (.plain (OpenSpec.ofChange fnMixedDispatchIsSymmetricSpec)) fnMixedDispatchIsSymmetricCard

/-- THE SECOND FORM's CARD OF 'n001_74.FnMixedDispatchIsSymmetric'. -/
def fnMixedDispatchIsSymmetricUptoCard : Claim7 := { stood := { row := fnMixedDispatchIsSymmetricUptoRow, standIns := [], harness := (true, "7fe59a1d1c54b742bacfeee3e034a4de621cbb2de0a8d209b73a0315e1a1974b"), looks := true }, kinds := [], alts := [], laidByText := true, laidKinds := [.data, .data, .widerDeep, .widerDeep, .data, .data, .data, .data, .data, .sentinel, .sentinel, .sentinel, .sentinel, .sentinel, .data, .data, .data, .data, .data, .pinned, .pinned], laidTests := true, laidLooks := .later }
def FnMixedDispatchIsSymmetricUptoCardSaid : Prop := Claim7.holds Tryz.pinned (.plain (OpenSpec.upto fnMixedDispatchIsSymmetricSpec)) fnMixedDispatchIsSymmetricUptoCard
end Rows
end Go.Proofs.YtolenhdgnlhkpaaGreatDoor
