/-
  DERIVED. GIVEN WITH THE SEED: THE CARDS: each row of YtepebjabacgeoaaGreatDoorRows.lean that lists a variable, with what it lists TIED to the program's text (the seventh form; the later family's looks); each row that meets fmt, with fmt's text TOLD by the authors' own Lean function (tested against real Go, not proved from fmt's source: count such statements apart). THE CARD IS WHAT COUNTS. Prove the row's statement (the work); the ties are given (YtepebjabacgeoaaGreatDoorTie.lean); close each card by the builder's one call (the guide's Derived/Test/ToyasCard.lean, 'card_holds'). Laid BY PROGRAM, IN A SANDBOX (cutbox-door.mjs). By AI agents, Wed Nov 11 2026. No macro, syntax, notation, axiom, sorry.
-/
import Derived.Test.YtepebjabacgeoaaGreatDoorRows
import GoSem.ClaimSeven
namespace Go.Proofs.YtepebjabacgeoaaGreatDoor
namespace Rows

/-- THE TIED CARD OF 'n001_91.FnFuncMinIntsIsLeast'. -/
def fnFuncMinIntsIsLeastCard : Claim7 := { stood := { row := fnFuncMinIntsIsLeastRow, standIns := [], harness := (true, "ab94955f202626a8a685f5bc015106b2873b3ba18e0185fb2a71f11e86fc7b02"), looks := true }, kinds := [], alts := [], laidByText := true, laidKinds := [.data, .data, .widerDeep, .widerDeep, .data, .data, .data, .data, .data, .sentinel, .sentinel, .sentinel, .sentinel, .sentinel, .data, .data, .data, .data, .data, .pinned, .pinned], laidTests := true, laidLooks := .later }
def FnFuncMinIntsIsLeastCardSaid : Prop := Claim7.holds Tryz.pinned (.plain (OpenSpec.ofChange fnFuncMinIntsIsLeastSpec)) fnFuncMinIntsIsLeastCard

/-- THE TIED CARD OF 'n001_91.FnFuncMinFirstOfEqualZeros'. -/
def fnFuncMinFirstOfEqualZerosCard : Claim7 := { stood := { row := fnFuncMinFirstOfEqualZerosRow, standIns := [], harness := (true, "ab94955f202626a8a685f5bc015106b2873b3ba18e0185fb2a71f11e86fc7b02"), looks := true }, kinds := [], alts := [], laidByText := true, laidKinds := [.data, .data, .widerDeep, .widerDeep, .data, .data, .data, .data, .data, .sentinel, .sentinel, .sentinel, .sentinel, .sentinel, .data, .data, .data, .data, .data, .pinned, .pinned], laidTests := true, laidLooks := .later }
def FnFuncMinFirstOfEqualZerosCardSaid : Prop := Claim7.holds Tryz.pinned (.plain (OpenSpec.ofChange fnFuncMinFirstOfEqualZerosSpec)) fnFuncMinFirstOfEqualZerosCard

/-- THE TIED CARD OF 'n001_91.FnFlattenOneLevelTwiceIsTwoLevels'. -/
def fnFlattenOneLevelTwiceIsTwoLevelsCard : Claim7 := { stood := { row := fnFlattenOneLevelTwiceIsTwoLevelsRow, standIns := [], harness := (true, "ab94955f202626a8a685f5bc015106b2873b3ba18e0185fb2a71f11e86fc7b02"), looks := true }, kinds := [], alts := [], laidByText := true, laidKinds := [.data, .data, .widerDeep, .widerDeep, .data, .data, .data, .data, .data, .sentinel, .sentinel, .sentinel, .sentinel, .sentinel, .data, .data, .data, .data, .data, .pinned, .pinned], laidTests := true, laidLooks := .later }
def FnFlattenOneLevelTwiceIsTwoLevelsCardSaid : Prop := Claim7.holds Tryz.pinned (.plain (OpenSpec.ofChange fnFlattenOneLevelTwiceIsTwoLevelsSpec)) fnFlattenOneLevelTwiceIsTwoLevelsCard

/-- THE TIED CARD OF 'n001_91.FnFlattenDepthCaseTable'. -/
def fnFlattenDepthCaseTableCard : Claim7 := { stood := { row := fnFlattenDepthCaseTableRow, standIns := [], harness := (true, "ab94955f202626a8a685f5bc015106b2873b3ba18e0185fb2a71f11e86fc7b02"), looks := true }, kinds := [], alts := [], laidByText := true, laidKinds := [.data, .data, .widerDeep, .widerDeep, .data, .data, .data, .data, .data, .sentinel, .sentinel, .sentinel, .sentinel, .sentinel, .data, .data, .data, .data, .data, .pinned, .pinned], laidTests := true, laidLooks := .later }
def FnFlattenDepthCaseTableCardSaid : Prop := Claim7.holds Tryz.pinned (.plain (OpenSpec.ofChange fnFlattenDepthCaseTableSpec)) fnFlattenDepthCaseTableCard

/-- THE TIED CARD OF 'n001_91.FnFuncRangeMixedIntFloatEnd'. -/
def fnFuncRangeMixedIntFloatEndCard : Claim7 := { stood := { row := fnFuncRangeMixedIntFloatEndRow, standIns := [], harness := (true, "ab94955f202626a8a685f5bc015106b2873b3ba18e0185fb2a71f11e86fc7b02"), looks := true }, kinds := [], alts := [], laidByText := true, laidKinds := [.data, .data, .widerDeep, .widerDeep, .data, .data, .data, .data, .data, .sentinel, .sentinel, .sentinel, .sentinel, .sentinel, .data, .data, .data, .data, .data, .pinned, .pinned], laidTests := true, laidLooks := .later }
def FnFuncRangeMixedIntFloatEndCardSaid : Prop := Claim7.holds Tryz.pinned (.plain (OpenSpec.ofChange fnFuncRangeMixedIntFloatEndSpec)) fnFuncRangeMixedIntFloatEndCard

/-- THE TIED CARD OF 'n001_91.FnRangeNextQuartersExact'. -/
def fnRangeNextQuartersExactCard : Claim7 := { stood := { row := fnRangeNextQuartersExactRow, standIns := [], harness := (true, "ab94955f202626a8a685f5bc015106b2873b3ba18e0185fb2a71f11e86fc7b02"), looks := true }, kinds := [], alts := [], laidByText := true, laidKinds := [.data, .data, .widerDeep, .widerDeep, .data, .data, .data, .data, .data, .sentinel, .sentinel, .sentinel, .sentinel, .sentinel, .data, .data, .data, .data, .data, .pinned, .pinned], laidTests := true, laidLooks := .later }
def FnRangeNextQuartersExactCardSaid : Prop := Claim7.holds Tryz.pinned (.plain (OpenSpec.ofChange fnRangeNextQuartersExactSpec)) fnRangeNextQuartersExactCard

/-- THE TIED CARD OF 'n001_91.FnRangeNextIntsClosedForm'. -/
def fnRangeNextIntsClosedFormCard : Claim7 := { stood := { row := fnRangeNextIntsClosedFormRow, standIns := [], harness := (true, "ab94955f202626a8a685f5bc015106b2873b3ba18e0185fb2a71f11e86fc7b02"), looks := true }, kinds := [], alts := [], laidByText := true, laidKinds := [.data, .data, .widerDeep, .widerDeep, .data, .data, .data, .data, .data, .sentinel, .sentinel, .sentinel, .sentinel, .sentinel, .data, .data, .data, .data, .data, .pinned, .pinned], laidTests := true, laidLooks := .later }
def FnRangeNextIntsClosedFormCardSaid : Prop := Claim7.holds Tryz.pinned (.plain (OpenSpec.ofChange fnRangeNextIntsClosedFormSpec)) fnRangeNextIntsClosedFormCard

/-- THE SECOND FORM's CARD OF 'n001_91.FnFuncMinIntsIsLeast'. -/
def fnFuncMinIntsIsLeastUptoCard : Claim7 := { stood := { row := fnFuncMinIntsIsLeastUptoRow, standIns := [], harness := (true, "ab94955f202626a8a685f5bc015106b2873b3ba18e0185fb2a71f11e86fc7b02"), looks := true }, kinds := [], alts := [], laidByText := true, laidKinds := [.data, .data, .widerDeep, .widerDeep, .data, .data, .data, .data, .data, .sentinel, .sentinel, .sentinel, .sentinel, .sentinel, .data, .data, .data, .data, .data, .pinned, .pinned], laidTests := true, laidLooks := .later }
def FnFuncMinIntsIsLeastUptoCardSaid : Prop := Claim7.holds Tryz.pinned (.plain (OpenSpec.upto fnFuncMinIntsIsLeastSpec)) fnFuncMinIntsIsLeastUptoCard

/-- THE SECOND FORM's CARD OF 'n001_91.FnFuncMinFirstOfEqualZeros'. -/
def fnFuncMinFirstOfEqualZerosUptoCard : Claim7 := { stood := { row := fnFuncMinFirstOfEqualZerosUptoRow, standIns := [], harness := (true, "ab94955f202626a8a685f5bc015106b2873b3ba18e0185fb2a71f11e86fc7b02"), looks := true }, kinds := [], alts := [], laidByText := true, laidKinds := [.data, .data, .widerDeep, .widerDeep, .data, .data, .data, .data, .data, .sentinel, .sentinel, .sentinel, .sentinel, .sentinel, .data, .data, .data, .data, .data, .pinned, .pinned], laidTests := true, laidLooks := .later }
def FnFuncMinFirstOfEqualZerosUptoCardSaid : Prop := Claim7.holds Tryz.pinned (.plain (OpenSpec.upto fnFuncMinFirstOfEqualZerosSpec)) fnFuncMinFirstOfEqualZerosUptoCard

/-- THE SECOND FORM's CARD OF 'n001_91.FnFlattenOneLevelTwiceIsTwoLevels'. -/
def fnFlattenOneLevelTwiceIsTwoLevelsUptoCard : Claim7 := { stood := { row := fnFlattenOneLevelTwiceIsTwoLevelsUptoRow, standIns := [], harness := (true, "ab94955f202626a8a685f5bc015106b2873b3ba18e0185fb2a71f11e86fc7b02"), looks := true }, kinds := [], alts := [], laidByText := true, laidKinds := [.data, .data, .widerDeep, .widerDeep, .data, .data, .data, .data, .data, .sentinel, .sentinel, .sentinel, .sentinel, .sentinel, .data, .data, .data, .data, .data, .pinned, .pinned], laidTests := true, laidLooks := .later }
def FnFlattenOneLevelTwiceIsTwoLevelsUptoCardSaid : Prop := Claim7.holds Tryz.pinned (.plain (OpenSpec.upto fnFlattenOneLevelTwiceIsTwoLevelsSpec)) fnFlattenOneLevelTwiceIsTwoLevelsUptoCard

/-- THE SECOND FORM's CARD OF 'n001_91.FnFlattenDepthCaseTable'. -/
def fnFlattenDepthCaseTableUptoCard : Claim7 := { stood := { row := fnFlattenDepthCaseTableUptoRow, standIns := [], harness := (true, "ab94955f202626a8a685f5bc015106b2873b3ba18e0185fb2a71f11e86fc7b02"), looks := true }, kinds := [], alts := [], laidByText := true, laidKinds := [.data, .data, .widerDeep, .widerDeep, .data, .data, .data, .data, .data, .sentinel, .sentinel, .sentinel, .sentinel, .sentinel, .data, .data, .data, .data, .data, .pinned, .pinned], laidTests := true, laidLooks := .later }
def FnFlattenDepthCaseTableUptoCardSaid : Prop := Claim7.holds Tryz.pinned (.plain (OpenSpec.upto fnFlattenDepthCaseTableSpec)) fnFlattenDepthCaseTableUptoCard

/-- THE SECOND FORM's CARD OF 'n001_91.FnFuncRangeMixedIntFloatEnd'. -/
def fnFuncRangeMixedIntFloatEndUptoCard : Claim7 := { stood := { row := fnFuncRangeMixedIntFloatEndUptoRow, standIns := [], harness := (true, "ab94955f202626a8a685f5bc015106b2873b3ba18e0185fb2a71f11e86fc7b02"), looks := true }, kinds := [], alts := [], laidByText := true, laidKinds := [.data, .data, .widerDeep, .widerDeep, .data, .data, .data, .data, .data, .sentinel, .sentinel, .sentinel, .sentinel, .sentinel, .data, .data, .data, .data, .data, .pinned, .pinned], laidTests := true, laidLooks := .later }
def FnFuncRangeMixedIntFloatEndUptoCardSaid : Prop := Claim7.holds Tryz.pinned (.plain (OpenSpec.upto fnFuncRangeMixedIntFloatEndSpec)) fnFuncRangeMixedIntFloatEndUptoCard

/-- THE SECOND FORM's CARD OF 'n001_91.FnRangeNextQuartersExact'. -/
def fnRangeNextQuartersExactUptoCard : Claim7 := { stood := { row := fnRangeNextQuartersExactUptoRow, standIns := [], harness := (true, "ab94955f202626a8a685f5bc015106b2873b3ba18e0185fb2a71f11e86fc7b02"), looks := true }, kinds := [], alts := [], laidByText := true, laidKinds := [.data, .data, .widerDeep, .widerDeep, .data, .data, .data, .data, .data, .sentinel, .sentinel, .sentinel, .sentinel, .sentinel, .data, .data, .data, .data, .data, .pinned, .pinned], laidTests := true, laidLooks := .later }
def FnRangeNextQuartersExactUptoCardSaid : Prop := Claim7.holds Tryz.pinned (.plain (OpenSpec.upto fnRangeNextQuartersExactSpec)) fnRangeNextQuartersExactUptoCard

/-- THE SECOND FORM's CARD OF 'n001_91.FnRangeNextIntsClosedForm'. -/
def fnRangeNextIntsClosedFormUptoCard : Claim7 := { stood := { row := fnRangeNextIntsClosedFormUptoRow, standIns := [], harness := (true, "ab94955f202626a8a685f5bc015106b2873b3ba18e0185fb2a71f11e86fc7b02"), looks := true }, kinds := [], alts := [], laidByText := true, laidKinds := [.data, .data, .widerDeep, .widerDeep, .data, .data, .data, .data, .data, .sentinel, .sentinel, .sentinel, .sentinel, .sentinel, .data, .data, .data, .data, .data, .pinned, .pinned], laidTests := true, laidLooks := .later }
def FnRangeNextIntsClosedFormUptoCardSaid : Prop := Claim7.holds Tryz.pinned (.plain (OpenSpec.upto fnRangeNextIntsClosedFormSpec)) fnRangeNextIntsClosedFormUptoCard
end Rows
end Go.Proofs.YtepebjabacgeoaaGreatDoor
