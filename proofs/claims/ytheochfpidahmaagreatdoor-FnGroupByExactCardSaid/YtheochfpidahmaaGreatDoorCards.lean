/-
  DERIVED. GIVEN WITH THE SEED: THE CARDS: each row of YtheochfpidahmaaGreatDoorRows.lean that lists a variable, with what it lists TIED to the program's text (the seventh form; the later family's looks); each row that meets fmt, with fmt's text TOLD by the authors' own Lean function (tested against real Go, not proved from fmt's source: count such statements apart). THE CARD IS WHAT COUNTS. Prove the row's statement (the work); the ties are given (YtheochfpidahmaaGreatDoorTie.lean); close each card by the builder's one call (the guide's Derived/Test/ToyasCard.lean, 'card_holds'). Laid BY PROGRAM, IN A SANDBOX (cutbox-door.mjs). By AI agents, Wed Nov 11 2026. No macro, syntax, notation, axiom, sorry.
-/
import Derived.Test.YtheochfpidahmaaGreatDoorRows
import GoSem.ClaimSeven
namespace Go.Proofs.YtheochfpidahmaaGreatDoor
namespace Rows

/-- THE TIED CARD OF 'n001_68.FnGroupByRefusesLengthMismatch'. -/
def fnGroupByRefusesLengthMismatchCard : Claim7 := { stood := { row := fnGroupByRefusesLengthMismatchRow, standIns := [], harness := (true, "cbc8482f6d0362f6b81a8f82dc83b786e34a21d773a599b18be480c2076c240e"), looks := true }, kinds := [], alts := [], laidByText := true, laidKinds := [.data, .data, .widerDeep, .widerDeep, .data, .data, .data, .data, .data, .sentinel, .sentinel, .sentinel, .sentinel, .sentinel, .data, .data, .data, .data, .data, .pinned, .pinned], laidTests := true, laidLooks := .later }
def FnGroupByRefusesLengthMismatchCardSaid : Prop := Claim7.holds Tryz.pinned (.plain (OpenSpec.ofChange fnGroupByRefusesLengthMismatchSpec)) fnGroupByRefusesLengthMismatchCard

/-- THE TIED CARD OF 'n001_68.FnUniqueByRefusesMismatchUnderAnyName'. -/
def fnUniqueByRefusesMismatchUnderAnyNameCard : Claim7 := { stood := { row := fnUniqueByRefusesMismatchUnderAnyNameRow, standIns := [], harness := (true, "cbc8482f6d0362f6b81a8f82dc83b786e34a21d773a599b18be480c2076c240e"), looks := true }, kinds := [], alts := [], laidByText := true, laidKinds := [.data, .data, .widerDeep, .widerDeep, .data, .data, .data, .data, .data, .sentinel, .sentinel, .sentinel, .sentinel, .sentinel, .data, .data, .data, .data, .data, .pinned, .pinned], laidTests := true, laidLooks := .later }
def FnUniqueByRefusesMismatchUnderAnyNameCardSaid : Prop := Claim7.holds Tryz.pinned (.plain (OpenSpec.ofChange fnUniqueByRefusesMismatchUnderAnyNameSpec)) fnUniqueByRefusesMismatchUnderAnyNameCard

/-- THE TIED CARD OF 'n001_68.FnUniqueIdempotent'. -/
def fnUniqueIdempotentCard : Claim7 := { stood := { row := fnUniqueIdempotentRow, standIns := [], harness := (true, "cbc8482f6d0362f6b81a8f82dc83b786e34a21d773a599b18be480c2076c240e"), looks := true }, kinds := [], alts := [], laidByText := true, laidKinds := [.data, .data, .widerDeep, .widerDeep, .data, .data, .data, .data, .data, .sentinel, .sentinel, .sentinel, .sentinel, .sentinel, .data, .data, .data, .data, .data, .pinned, .pinned], laidTests := true, laidLooks := .later }
def FnUniqueIdempotentCardSaid : Prop := Claim7.holds Tryz.pinned (.plain (OpenSpec.ofChange fnUniqueIdempotentSpec)) fnUniqueIdempotentCard

/-- THE TIED CARD OF 'n001_68.FnUniqueSortedDistinctExact'. -/
def fnUniqueSortedDistinctExactCard : Claim7 := { stood := { row := fnUniqueSortedDistinctExactRow, standIns := [], harness := (true, "cbc8482f6d0362f6b81a8f82dc83b786e34a21d773a599b18be480c2076c240e"), looks := true }, kinds := [], alts := [], laidByText := true, laidKinds := [.data, .data, .widerDeep, .widerDeep, .data, .data, .data, .data, .data, .sentinel, .sentinel, .sentinel, .sentinel, .sentinel, .data, .data, .data, .data, .data, .pinned, .pinned], laidTests := true, laidLooks := .later }
def FnUniqueSortedDistinctExactCardSaid : Prop := Claim7.holds Tryz.pinned (.plain (OpenSpec.ofChange fnUniqueSortedDistinctExactSpec)) fnUniqueSortedDistinctExactCard

/-- THE TIED CARD OF 'n001_68.FnUniqueByFirstPerKeyExact'. -/
def fnUniqueByFirstPerKeyExactCard : Claim7 := { stood := { row := fnUniqueByFirstPerKeyExactRow, standIns := [], harness := (true, "cbc8482f6d0362f6b81a8f82dc83b786e34a21d773a599b18be480c2076c240e"), looks := true }, kinds := [], alts := [], laidByText := true, laidKinds := [.data, .data, .widerDeep, .widerDeep, .data, .data, .data, .data, .data, .sentinel, .sentinel, .sentinel, .sentinel, .sentinel, .data, .data, .data, .data, .data, .pinned, .pinned], laidTests := true, laidLooks := .later }
def FnUniqueByFirstPerKeyExactCardSaid : Prop := Claim7.holds Tryz.pinned (.plain (OpenSpec.ofChange fnUniqueByFirstPerKeyExactSpec)) fnUniqueByFirstPerKeyExactCard

/-- THE TIED CARD OF 'n001_68.FnUniqueByAgreesWithGroupByHeads'. -/
def fnUniqueByAgreesWithGroupByHeadsCard : Claim7 := { stood := { row := fnUniqueByAgreesWithGroupByHeadsRow, standIns := [], harness := (true, "cbc8482f6d0362f6b81a8f82dc83b786e34a21d773a599b18be480c2076c240e"), looks := true }, kinds := [], alts := [], laidByText := true, laidKinds := [.data, .data, .widerDeep, .widerDeep, .data, .data, .data, .data, .data, .sentinel, .sentinel, .sentinel, .sentinel, .sentinel, .data, .data, .data, .data, .data, .pinned, .pinned], laidTests := true, laidLooks := .later }
def FnUniqueByAgreesWithGroupByHeadsCardSaid : Prop := Claim7.holds Tryz.pinned (.plain (OpenSpec.ofChange fnUniqueByAgreesWithGroupByHeadsSpec)) fnUniqueByAgreesWithGroupByHeadsCard

/-- THE TIED CARD OF 'n001_68.FnGroupByExact'. -/
def fnGroupByExactCard : Claim7 := { stood := { row := fnGroupByExactRow, standIns := [], harness := (true, "cbc8482f6d0362f6b81a8f82dc83b786e34a21d773a599b18be480c2076c240e"), looks := true }, kinds := [], alts := [], laidByText := true, laidKinds := [.data, .data, .widerDeep, .widerDeep, .data, .data, .data, .data, .data, .sentinel, .sentinel, .sentinel, .sentinel, .sentinel, .data, .data, .data, .data, .data, .pinned, .pinned], laidTests := true, laidLooks := .later }
def FnGroupByExactCardSaid : Prop := Claim7.holds Tryz.pinned (.plain (OpenSpec.ofChange fnGroupByExactSpec)) fnGroupByExactCard

/-- THE SECOND FORM's CARD OF 'n001_68.FnGroupByRefusesLengthMismatch'. -/
def fnGroupByRefusesLengthMismatchUptoCard : Claim7 := { stood := { row := fnGroupByRefusesLengthMismatchUptoRow, standIns := [], harness := (true, "cbc8482f6d0362f6b81a8f82dc83b786e34a21d773a599b18be480c2076c240e"), looks := true }, kinds := [], alts := [], laidByText := true, laidKinds := [.data, .data, .widerDeep, .widerDeep, .data, .data, .data, .data, .data, .sentinel, .sentinel, .sentinel, .sentinel, .sentinel, .data, .data, .data, .data, .data, .pinned, .pinned], laidTests := true, laidLooks := .later }
def FnGroupByRefusesLengthMismatchUptoCardSaid : Prop := Claim7.holds Tryz.pinned (.plain (OpenSpec.upto fnGroupByRefusesLengthMismatchSpec)) fnGroupByRefusesLengthMismatchUptoCard

/-- THE SECOND FORM's CARD OF 'n001_68.FnUniqueByRefusesMismatchUnderAnyName'. -/
def fnUniqueByRefusesMismatchUnderAnyNameUptoCard : Claim7 := { stood := { row := fnUniqueByRefusesMismatchUnderAnyNameUptoRow, standIns := [], harness := (true, "cbc8482f6d0362f6b81a8f82dc83b786e34a21d773a599b18be480c2076c240e"), looks := true }, kinds := [], alts := [], laidByText := true, laidKinds := [.data, .data, .widerDeep, .widerDeep, .data, .data, .data, .data, .data, .sentinel, .sentinel, .sentinel, .sentinel, .sentinel, .data, .data, .data, .data, .data, .pinned, .pinned], laidTests := true, laidLooks := .later }
def FnUniqueByRefusesMismatchUnderAnyNameUptoCardSaid : Prop := Claim7.holds Tryz.pinned (.plain (OpenSpec.upto fnUniqueByRefusesMismatchUnderAnyNameSpec)) fnUniqueByRefusesMismatchUnderAnyNameUptoCard

/-- THE SECOND FORM's CARD OF 'n001_68.FnUniqueIdempotent'. -/
def fnUniqueIdempotentUptoCard : Claim7 := { stood := { row := fnUniqueIdempotentUptoRow, standIns := [], harness := (true, "cbc8482f6d0362f6b81a8f82dc83b786e34a21d773a599b18be480c2076c240e"), looks := true }, kinds := [], alts := [], laidByText := true, laidKinds := [.data, .data, .widerDeep, .widerDeep, .data, .data, .data, .data, .data, .sentinel, .sentinel, .sentinel, .sentinel, .sentinel, .data, .data, .data, .data, .data, .pinned, .pinned], laidTests := true, laidLooks := .later }
def FnUniqueIdempotentUptoCardSaid : Prop := Claim7.holds Tryz.pinned (.plain (OpenSpec.upto fnUniqueIdempotentSpec)) fnUniqueIdempotentUptoCard

/-- THE SECOND FORM's CARD OF 'n001_68.FnUniqueSortedDistinctExact'. -/
def fnUniqueSortedDistinctExactUptoCard : Claim7 := { stood := { row := fnUniqueSortedDistinctExactUptoRow, standIns := [], harness := (true, "cbc8482f6d0362f6b81a8f82dc83b786e34a21d773a599b18be480c2076c240e"), looks := true }, kinds := [], alts := [], laidByText := true, laidKinds := [.data, .data, .widerDeep, .widerDeep, .data, .data, .data, .data, .data, .sentinel, .sentinel, .sentinel, .sentinel, .sentinel, .data, .data, .data, .data, .data, .pinned, .pinned], laidTests := true, laidLooks := .later }
def FnUniqueSortedDistinctExactUptoCardSaid : Prop := Claim7.holds Tryz.pinned (.plain (OpenSpec.upto fnUniqueSortedDistinctExactSpec)) fnUniqueSortedDistinctExactUptoCard

/-- THE SECOND FORM's CARD OF 'n001_68.FnUniqueByFirstPerKeyExact'. -/
def fnUniqueByFirstPerKeyExactUptoCard : Claim7 := { stood := { row := fnUniqueByFirstPerKeyExactUptoRow, standIns := [], harness := (true, "cbc8482f6d0362f6b81a8f82dc83b786e34a21d773a599b18be480c2076c240e"), looks := true }, kinds := [], alts := [], laidByText := true, laidKinds := [.data, .data, .widerDeep, .widerDeep, .data, .data, .data, .data, .data, .sentinel, .sentinel, .sentinel, .sentinel, .sentinel, .data, .data, .data, .data, .data, .pinned, .pinned], laidTests := true, laidLooks := .later }
def FnUniqueByFirstPerKeyExactUptoCardSaid : Prop := Claim7.holds Tryz.pinned (.plain (OpenSpec.upto fnUniqueByFirstPerKeyExactSpec)) fnUniqueByFirstPerKeyExactUptoCard

/-- THE SECOND FORM's CARD OF 'n001_68.FnUniqueByAgreesWithGroupByHeads'. -/
def fnUniqueByAgreesWithGroupByHeadsUptoCard : Claim7 := { stood := { row := fnUniqueByAgreesWithGroupByHeadsUptoRow, standIns := [], harness := (true, "cbc8482f6d0362f6b81a8f82dc83b786e34a21d773a599b18be480c2076c240e"), looks := true }, kinds := [], alts := [], laidByText := true, laidKinds := [.data, .data, .widerDeep, .widerDeep, .data, .data, .data, .data, .data, .sentinel, .sentinel, .sentinel, .sentinel, .sentinel, .data, .data, .data, .data, .data, .pinned, .pinned], laidTests := true, laidLooks := .later }
def FnUniqueByAgreesWithGroupByHeadsUptoCardSaid : Prop := Claim7.holds Tryz.pinned (.plain (OpenSpec.upto fnUniqueByAgreesWithGroupByHeadsSpec)) fnUniqueByAgreesWithGroupByHeadsUptoCard

/-- THE SECOND FORM's CARD OF 'n001_68.FnGroupByExact'. -/
def fnGroupByExactUptoCard : Claim7 := { stood := { row := fnGroupByExactUptoRow, standIns := [], harness := (true, "cbc8482f6d0362f6b81a8f82dc83b786e34a21d773a599b18be480c2076c240e"), looks := true }, kinds := [], alts := [], laidByText := true, laidKinds := [.data, .data, .widerDeep, .widerDeep, .data, .data, .data, .data, .data, .sentinel, .sentinel, .sentinel, .sentinel, .sentinel, .data, .data, .data, .data, .data, .pinned, .pinned], laidTests := true, laidLooks := .later }
def FnGroupByExactUptoCardSaid : Prop := Claim7.holds Tryz.pinned (.plain (OpenSpec.upto fnGroupByExactSpec)) fnGroupByExactUptoCard
end Rows
end Go.Proofs.YtheochfpidahmaaGreatDoor
