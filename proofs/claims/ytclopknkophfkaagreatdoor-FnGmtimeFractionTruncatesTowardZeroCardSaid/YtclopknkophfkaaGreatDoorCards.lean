/-
  DERIVED. GIVEN WITH THE SEED: THE CARDS: each row of YtclopknkophfkaaGreatDoorRows.lean that lists a variable, with what it lists TIED to the program's text (the seventh form; the later family's looks); each row that meets fmt, with fmt's text TOLD by the authors' own Lean function (tested against real Go, not proved from fmt's source: count such statements apart). THE CARD IS WHAT COUNTS. Prove the row's statement (the work); the ties are given (YtclopknkophfkaaGreatDoorTie.lean); close each card by the builder's one call (the guide's Derived/Test/ToyasCard.lean, 'card_holds'). Laid BY PROGRAM, IN A SANDBOX (cutbox-door.mjs). By AI agents, Wed Nov 11 2026. No macro, syntax, notation, axiom, sorry.
-/
import Derived.Test.YtclopknkophfkaaGreatDoorRows
import GoSem.ClaimSeven
namespace Go.Proofs.YtclopknkophfkaaGreatDoor
namespace Rows

/-- THE TIED CARD OF 'n001_45.FnMathFuncArity'. -/
def fnMathFuncArityCard : Claim7 := { stood := { row := fnMathFuncArityRow, standIns := [], harness := (true, "dc19367a92af8586bf2b5ca66ebd51dfbcb7f74ba401239fb53448b48b3141a0"), looks := true }, kinds := [], alts := [], laidByText := true, laidKinds := [.data, .data, .widerDeep, .widerDeep, .data, .data, .data, .data, .data, .sentinel, .sentinel, .data, .data, .data, .data, .data, .pinned, .pinned], laidTests := true, laidLooks := .later }
def FnMathFuncArityCardSaid : Prop := Claim7.holds Tryz.pinned (.plain (OpenSpec.ofChange fnMathFuncAritySpec)) fnMathFuncArityCard

/-- THE TIED CARD OF 'n001_45.FnMathFunc2Arity'. -/
def fnMathFunc2ArityCard : Claim7 := { stood := { row := fnMathFunc2ArityRow, standIns := [], harness := (true, "dc19367a92af8586bf2b5ca66ebd51dfbcb7f74ba401239fb53448b48b3141a0"), looks := true }, kinds := [], alts := [], laidByText := true, laidKinds := [.data, .data, .widerDeep, .widerDeep, .data, .data, .data, .data, .data, .sentinel, .sentinel, .data, .data, .data, .data, .data, .pinned, .pinned], laidTests := true, laidLooks := .later }
def FnMathFunc2ArityCardSaid : Prop := Claim7.holds Tryz.pinned (.plain (OpenSpec.ofChange fnMathFunc2AritySpec)) fnMathFunc2ArityCard

/-- THE TIED CARD OF 'n001_45.FnMathFunc3Arity'. -/
def fnMathFunc3ArityCard : Claim7 := { stood := { row := fnMathFunc3ArityRow, standIns := [], harness := (true, "dc19367a92af8586bf2b5ca66ebd51dfbcb7f74ba401239fb53448b48b3141a0"), looks := true }, kinds := [], alts := [], laidByText := true, laidKinds := [.data, .data, .widerDeep, .widerDeep, .data, .data, .data, .data, .data, .sentinel, .sentinel, .data, .data, .data, .data, .data, .pinned, .pinned], laidTests := true, laidLooks := .later }
def FnMathFunc3ArityCardSaid : Prop := Claim7.holds Tryz.pinned (.plain (OpenSpec.ofChange fnMathFunc3AritySpec)) fnMathFunc3ArityCard

/-- THE TIED CARD OF 'n001_42.FnBsearchAnswerBounded'. -/
def fnBsearchAnswerBoundedCard : Claim7 := { stood := { row := fnBsearchAnswerBoundedRow, standIns := [], harness := (true, "dc19367a92af8586bf2b5ca66ebd51dfbcb7f74ba401239fb53448b48b3141a0"), looks := true }, kinds := [], alts := [], laidByText := true, laidKinds := [.data, .data, .widerDeep, .widerDeep, .data, .data, .data, .data, .data, .sentinel, .sentinel, .sentinel, .sentinel, .sentinel, .data, .data, .data, .data, .data, .pinned, .pinned], laidTests := true, laidLooks := .later }
def FnBsearchAnswerBoundedCardSaid : Prop := Claim7.holds Tryz.pinned (.plain (OpenSpec.ofChange fnBsearchAnswerBoundedSpec)) fnBsearchAnswerBoundedCard

/-- THE TIED CARD OF 'n001_45.FnMathFuncWhole'. -/
def fnMathFuncWholeCard : Claim7 := { stood := { row := fnMathFuncWholeRow, standIns := [], harness := (true, "dc19367a92af8586bf2b5ca66ebd51dfbcb7f74ba401239fb53448b48b3141a0"), looks := true }, kinds := [], alts := [], laidByText := true, laidKinds := [.data, .data, .widerDeep, .widerDeep, .data, .data, .data, .data, .data, .sentinel, .sentinel, .data, .data, .data, .data, .data, .pinned, .pinned], laidTests := true, laidLooks := .later }
def FnMathFuncWholeCardSaid : Prop := Claim7.holds Tryz.pinned (.plain (OpenSpec.ofChange fnMathFuncWholeSpec)) fnMathFuncWholeCard

/-- THE TIED CARD OF 'n001_42.FnBsearchSortedModel'. -/
def fnBsearchSortedModelCard : Claim7 := { stood := { row := fnBsearchSortedModelRow, standIns := [], harness := (true, "dc19367a92af8586bf2b5ca66ebd51dfbcb7f74ba401239fb53448b48b3141a0"), looks := true }, kinds := [], alts := [], laidByText := true, laidKinds := [.data, .data, .widerDeep, .widerDeep, .data, .data, .data, .data, .data, .sentinel, .sentinel, .sentinel, .sentinel, .sentinel, .data, .data, .data, .data, .data, .pinned, .pinned], laidTests := true, laidLooks := .later }
def FnBsearchSortedModelCardSaid : Prop := Claim7.holds Tryz.pinned (.plain (OpenSpec.ofChange fnBsearchSortedModelSpec)) fnBsearchSortedModelCard

/-- THE TIED CARD OF 'n001_45.FnMathFunc2Whole'. -/
def fnMathFunc2WholeCard : Claim7 := { stood := { row := fnMathFunc2WholeRow, standIns := [], harness := (true, "dc19367a92af8586bf2b5ca66ebd51dfbcb7f74ba401239fb53448b48b3141a0"), looks := true }, kinds := [], alts := [], laidByText := true, laidKinds := [.data, .data, .widerDeep, .widerDeep, .data, .data, .data, .data, .data, .sentinel, .sentinel, .data, .data, .data, .data, .data, .pinned, .pinned], laidTests := true, laidLooks := .later }
def FnMathFunc2WholeCardSaid : Prop := Claim7.holds Tryz.pinned (.plain (OpenSpec.ofChange fnMathFunc2WholeSpec)) fnMathFunc2WholeCard

/-- THE TIED CARD OF 'n001_45.FnMathFunc3Whole'. -/
def fnMathFunc3WholeCard : Claim7 := { stood := { row := fnMathFunc3WholeRow, standIns := [], harness := (true, "dc19367a92af8586bf2b5ca66ebd51dfbcb7f74ba401239fb53448b48b3141a0"), looks := true }, kinds := [], alts := [], laidByText := true, laidKinds := [.data, .data, .widerDeep, .widerDeep, .data, .data, .data, .data, .data, .sentinel, .sentinel, .data, .data, .data, .data, .data, .pinned, .pinned], laidTests := true, laidLooks := .later }
def FnMathFunc3WholeCardSaid : Prop := Claim7.holds Tryz.pinned (.plain (OpenSpec.ofChange fnMathFunc3WholeSpec)) fnMathFunc3WholeCard

/-- THE TIED CARD OF 'n001_34.FnParseNumberFractionForms'. -/
def fnParseNumberFractionFormsCard : Claim7 := { stood := { row := fnParseNumberFractionFormsRow, standIns := [], harness := (true, "dc19367a92af8586bf2b5ca66ebd51dfbcb7f74ba401239fb53448b48b3141a0"), looks := true }, kinds := [], alts := [], laidByText := true, laidKinds := [.data, .data, .widerDeep, .widerDeep, .data, .data, .data, .data, .data, .sentinel, .sentinel, .sentinel, .sentinel, .sentinel, .data, .data, .data, .data, .data, .pinned, .pinned], laidTests := true, laidLooks := .later }
def FnParseNumberFractionFormsCardSaid : Prop := Claim7.holds Tryz.pinned (.plain (OpenSpec.ofChange fnParseNumberFractionFormsSpec)) fnParseNumberFractionFormsCard

/-- THE TIED CARD OF 'n001_55.FnToNumberFractionalFormsOfAnInteger'. -/
def fnToNumberFractionalFormsOfAnIntegerCard : Claim7 := { stood := { row := fnToNumberFractionalFormsOfAnIntegerRow, standIns := [], harness := (true, "dc19367a92af8586bf2b5ca66ebd51dfbcb7f74ba401239fb53448b48b3141a0"), looks := true }, kinds := [], alts := [], laidByText := true, laidKinds := [.data, .data, .widerDeep, .widerDeep, .data, .data, .data, .data, .data, .sentinel, .sentinel, .sentinel, .sentinel, .sentinel, .data, .data, .data, .data, .data, .pinned, .pinned], laidTests := true, laidLooks := .later }
def FnToNumberFractionalFormsOfAnIntegerCardSaid : Prop := Claim7.holds Tryz.pinned (.plain (OpenSpec.ofChange fnToNumberFractionalFormsOfAnIntegerSpec)) fnToNumberFractionalFormsOfAnIntegerCard

/-- THE TIED CARD OF 'n001_42.FnGmtimeFractionTruncatesTowardZero'. -/
def fnGmtimeFractionTruncatesTowardZeroCard : Claim7 := { stood := { row := fnGmtimeFractionTruncatesTowardZeroRow, standIns := [], harness := (true, "dc19367a92af8586bf2b5ca66ebd51dfbcb7f74ba401239fb53448b48b3141a0"), looks := true }, kinds := [], alts := [], laidByText := true, laidKinds := [.data, .data, .widerDeep, .widerDeep, .data, .data, .data, .data, .data, .sentinel, .sentinel, .data, .data, .data, .data, .data, .pinned, .pinned], laidTests := true, laidLooks := .later }
def FnGmtimeFractionTruncatesTowardZeroCardSaid : Prop := Claim7.holds Tryz.pinned (.plain (OpenSpec.ofChange fnGmtimeFractionTruncatesTowardZeroSpec)) fnGmtimeFractionTruncatesTowardZeroCard

/-- THE TIED CARD OF 'n001_42.FnGmtimeCivilModel'. -/
def fnGmtimeCivilModelCard : Claim7 := { stood := { row := fnGmtimeCivilModelRow, standIns := [], harness := (true, "dc19367a92af8586bf2b5ca66ebd51dfbcb7f74ba401239fb53448b48b3141a0"), looks := true }, kinds := [], alts := [], laidByText := true, laidKinds := [.data, .data, .widerDeep, .widerDeep, .data, .data, .data, .data, .data, .sentinel, .sentinel, .data, .data, .data, .data, .data, .pinned, .pinned], laidTests := true, laidLooks := .later }
def FnGmtimeCivilModelCardSaid : Prop := Claim7.holds Tryz.pinned (.plain (OpenSpec.ofChange fnGmtimeCivilModelSpec)) fnGmtimeCivilModelCard

/-- THE TIED CARD OF 'n001_44.FnLtOrderAgreesWithCompare'. -/
def fnLtOrderAgreesWithCompareCard : Claim7 := { stood := { row := fnLtOrderAgreesWithCompareRow, standIns := [], harness := (true, "dc19367a92af8586bf2b5ca66ebd51dfbcb7f74ba401239fb53448b48b3141a0"), looks := true }, kinds := [], alts := [], laidByText := true, laidKinds := [.data, .data, .widerDeep, .widerDeep, .data, .data, .data, .data, .data, .sentinel, .sentinel, .sentinel, .sentinel, .sentinel, .data, .data, .data, .data, .data, .pinned, .pinned], laidTests := true, laidLooks := .later }
def FnLtOrderAgreesWithCompareCardSaid : Prop := Claim7.holds Tryz.pinned (.plain (OpenSpec.ofChange fnLtOrderAgreesWithCompareSpec)) fnLtOrderAgreesWithCompareCard

/-- THE SECOND FORM's CARD OF 'n001_45.FnMathFuncArity'. -/
def fnMathFuncArityUptoCard : Claim7 := { stood := { row := fnMathFuncArityUptoRow, standIns := [], harness := (true, "dc19367a92af8586bf2b5ca66ebd51dfbcb7f74ba401239fb53448b48b3141a0"), looks := true }, kinds := [], alts := [], laidByText := true, laidKinds := [.data, .data, .widerDeep, .widerDeep, .data, .data, .data, .data, .data, .sentinel, .sentinel, .data, .data, .data, .data, .data, .pinned, .pinned], laidTests := true, laidLooks := .later }
def FnMathFuncArityUptoCardSaid : Prop := Claim7.holds Tryz.pinned (.plain (OpenSpec.upto fnMathFuncAritySpec)) fnMathFuncArityUptoCard

/-- THE SECOND FORM's CARD OF 'n001_45.FnMathFunc2Arity'. -/
def fnMathFunc2ArityUptoCard : Claim7 := { stood := { row := fnMathFunc2ArityUptoRow, standIns := [], harness := (true, "dc19367a92af8586bf2b5ca66ebd51dfbcb7f74ba401239fb53448b48b3141a0"), looks := true }, kinds := [], alts := [], laidByText := true, laidKinds := [.data, .data, .widerDeep, .widerDeep, .data, .data, .data, .data, .data, .sentinel, .sentinel, .data, .data, .data, .data, .data, .pinned, .pinned], laidTests := true, laidLooks := .later }
def FnMathFunc2ArityUptoCardSaid : Prop := Claim7.holds Tryz.pinned (.plain (OpenSpec.upto fnMathFunc2AritySpec)) fnMathFunc2ArityUptoCard

/-- THE SECOND FORM's CARD OF 'n001_45.FnMathFunc3Arity'. -/
def fnMathFunc3ArityUptoCard : Claim7 := { stood := { row := fnMathFunc3ArityUptoRow, standIns := [], harness := (true, "dc19367a92af8586bf2b5ca66ebd51dfbcb7f74ba401239fb53448b48b3141a0"), looks := true }, kinds := [], alts := [], laidByText := true, laidKinds := [.data, .data, .widerDeep, .widerDeep, .data, .data, .data, .data, .data, .sentinel, .sentinel, .data, .data, .data, .data, .data, .pinned, .pinned], laidTests := true, laidLooks := .later }
def FnMathFunc3ArityUptoCardSaid : Prop := Claim7.holds Tryz.pinned (.plain (OpenSpec.upto fnMathFunc3AritySpec)) fnMathFunc3ArityUptoCard

/-- THE SECOND FORM's CARD OF 'n001_42.FnBsearchAnswerBounded'. -/
def fnBsearchAnswerBoundedUptoCard : Claim7 := { stood := { row := fnBsearchAnswerBoundedUptoRow, standIns := [], harness := (true, "dc19367a92af8586bf2b5ca66ebd51dfbcb7f74ba401239fb53448b48b3141a0"), looks := true }, kinds := [], alts := [], laidByText := true, laidKinds := [.data, .data, .widerDeep, .widerDeep, .data, .data, .data, .data, .data, .sentinel, .sentinel, .sentinel, .sentinel, .sentinel, .data, .data, .data, .data, .data, .pinned, .pinned], laidTests := true, laidLooks := .later }
def FnBsearchAnswerBoundedUptoCardSaid : Prop := Claim7.holds Tryz.pinned (.plain (OpenSpec.upto fnBsearchAnswerBoundedSpec)) fnBsearchAnswerBoundedUptoCard

/-- THE SECOND FORM's CARD OF 'n001_45.FnMathFuncWhole'. -/
def fnMathFuncWholeUptoCard : Claim7 := { stood := { row := fnMathFuncWholeUptoRow, standIns := [], harness := (true, "dc19367a92af8586bf2b5ca66ebd51dfbcb7f74ba401239fb53448b48b3141a0"), looks := true }, kinds := [], alts := [], laidByText := true, laidKinds := [.data, .data, .widerDeep, .widerDeep, .data, .data, .data, .data, .data, .sentinel, .sentinel, .data, .data, .data, .data, .data, .pinned, .pinned], laidTests := true, laidLooks := .later }
def FnMathFuncWholeUptoCardSaid : Prop := Claim7.holds Tryz.pinned (.plain (OpenSpec.upto fnMathFuncWholeSpec)) fnMathFuncWholeUptoCard

/-- THE SECOND FORM's CARD OF 'n001_42.FnBsearchSortedModel'. -/
def fnBsearchSortedModelUptoCard : Claim7 := { stood := { row := fnBsearchSortedModelUptoRow, standIns := [], harness := (true, "dc19367a92af8586bf2b5ca66ebd51dfbcb7f74ba401239fb53448b48b3141a0"), looks := true }, kinds := [], alts := [], laidByText := true, laidKinds := [.data, .data, .widerDeep, .widerDeep, .data, .data, .data, .data, .data, .sentinel, .sentinel, .sentinel, .sentinel, .sentinel, .data, .data, .data, .data, .data, .pinned, .pinned], laidTests := true, laidLooks := .later }
def FnBsearchSortedModelUptoCardSaid : Prop := Claim7.holds Tryz.pinned (.plain (OpenSpec.upto fnBsearchSortedModelSpec)) fnBsearchSortedModelUptoCard

/-- THE SECOND FORM's CARD OF 'n001_45.FnMathFunc2Whole'. -/
def fnMathFunc2WholeUptoCard : Claim7 := { stood := { row := fnMathFunc2WholeUptoRow, standIns := [], harness := (true, "dc19367a92af8586bf2b5ca66ebd51dfbcb7f74ba401239fb53448b48b3141a0"), looks := true }, kinds := [], alts := [], laidByText := true, laidKinds := [.data, .data, .widerDeep, .widerDeep, .data, .data, .data, .data, .data, .sentinel, .sentinel, .data, .data, .data, .data, .data, .pinned, .pinned], laidTests := true, laidLooks := .later }
def FnMathFunc2WholeUptoCardSaid : Prop := Claim7.holds Tryz.pinned (.plain (OpenSpec.upto fnMathFunc2WholeSpec)) fnMathFunc2WholeUptoCard

/-- THE SECOND FORM's CARD OF 'n001_45.FnMathFunc3Whole'. -/
def fnMathFunc3WholeUptoCard : Claim7 := { stood := { row := fnMathFunc3WholeUptoRow, standIns := [], harness := (true, "dc19367a92af8586bf2b5ca66ebd51dfbcb7f74ba401239fb53448b48b3141a0"), looks := true }, kinds := [], alts := [], laidByText := true, laidKinds := [.data, .data, .widerDeep, .widerDeep, .data, .data, .data, .data, .data, .sentinel, .sentinel, .data, .data, .data, .data, .data, .pinned, .pinned], laidTests := true, laidLooks := .later }
def FnMathFunc3WholeUptoCardSaid : Prop := Claim7.holds Tryz.pinned (.plain (OpenSpec.upto fnMathFunc3WholeSpec)) fnMathFunc3WholeUptoCard

/-- THE SECOND FORM's CARD OF 'n001_34.FnParseNumberFractionForms'. -/
def fnParseNumberFractionFormsUptoCard : Claim7 := { stood := { row := fnParseNumberFractionFormsUptoRow, standIns := [], harness := (true, "dc19367a92af8586bf2b5ca66ebd51dfbcb7f74ba401239fb53448b48b3141a0"), looks := true }, kinds := [], alts := [], laidByText := true, laidKinds := [.data, .data, .widerDeep, .widerDeep, .data, .data, .data, .data, .data, .sentinel, .sentinel, .sentinel, .sentinel, .sentinel, .data, .data, .data, .data, .data, .pinned, .pinned], laidTests := true, laidLooks := .later }
def FnParseNumberFractionFormsUptoCardSaid : Prop := Claim7.holds Tryz.pinned (.plain (OpenSpec.upto fnParseNumberFractionFormsSpec)) fnParseNumberFractionFormsUptoCard

/-- THE SECOND FORM's CARD OF 'n001_55.FnToNumberFractionalFormsOfAnInteger'. -/
def fnToNumberFractionalFormsOfAnIntegerUptoCard : Claim7 := { stood := { row := fnToNumberFractionalFormsOfAnIntegerUptoRow, standIns := [], harness := (true, "dc19367a92af8586bf2b5ca66ebd51dfbcb7f74ba401239fb53448b48b3141a0"), looks := true }, kinds := [], alts := [], laidByText := true, laidKinds := [.data, .data, .widerDeep, .widerDeep, .data, .data, .data, .data, .data, .sentinel, .sentinel, .sentinel, .sentinel, .sentinel, .data, .data, .data, .data, .data, .pinned, .pinned], laidTests := true, laidLooks := .later }
def FnToNumberFractionalFormsOfAnIntegerUptoCardSaid : Prop := Claim7.holds Tryz.pinned (.plain (OpenSpec.upto fnToNumberFractionalFormsOfAnIntegerSpec)) fnToNumberFractionalFormsOfAnIntegerUptoCard

/-- THE SECOND FORM's CARD OF 'n001_42.FnGmtimeFractionTruncatesTowardZero'. -/
def fnGmtimeFractionTruncatesTowardZeroUptoCard : Claim7 := { stood := { row := fnGmtimeFractionTruncatesTowardZeroUptoRow, standIns := [], harness := (true, "dc19367a92af8586bf2b5ca66ebd51dfbcb7f74ba401239fb53448b48b3141a0"), looks := true }, kinds := [], alts := [], laidByText := true, laidKinds := [.data, .data, .widerDeep, .widerDeep, .data, .data, .data, .data, .data, .sentinel, .sentinel, .data, .data, .data, .data, .data, .pinned, .pinned], laidTests := true, laidLooks := .later }
def FnGmtimeFractionTruncatesTowardZeroUptoCardSaid : Prop := Claim7.holds Tryz.pinned (.plain (OpenSpec.upto fnGmtimeFractionTruncatesTowardZeroSpec)) fnGmtimeFractionTruncatesTowardZeroUptoCard

/-- THE SECOND FORM's CARD OF 'n001_42.FnGmtimeCivilModel'. -/
def fnGmtimeCivilModelUptoCard : Claim7 := { stood := { row := fnGmtimeCivilModelUptoRow, standIns := [], harness := (true, "dc19367a92af8586bf2b5ca66ebd51dfbcb7f74ba401239fb53448b48b3141a0"), looks := true }, kinds := [], alts := [], laidByText := true, laidKinds := [.data, .data, .widerDeep, .widerDeep, .data, .data, .data, .data, .data, .sentinel, .sentinel, .data, .data, .data, .data, .data, .pinned, .pinned], laidTests := true, laidLooks := .later }
def FnGmtimeCivilModelUptoCardSaid : Prop := Claim7.holds Tryz.pinned (.plain (OpenSpec.upto fnGmtimeCivilModelSpec)) fnGmtimeCivilModelUptoCard

/-- THE SECOND FORM's CARD OF 'n001_44.FnLtOrderAgreesWithCompare'. -/
def fnLtOrderAgreesWithCompareUptoCard : Claim7 := { stood := { row := fnLtOrderAgreesWithCompareUptoRow, standIns := [], harness := (true, "dc19367a92af8586bf2b5ca66ebd51dfbcb7f74ba401239fb53448b48b3141a0"), looks := true }, kinds := [], alts := [], laidByText := true, laidKinds := [.data, .data, .widerDeep, .widerDeep, .data, .data, .data, .data, .data, .sentinel, .sentinel, .sentinel, .sentinel, .sentinel, .data, .data, .data, .data, .data, .pinned, .pinned], laidTests := true, laidLooks := .later }
def FnLtOrderAgreesWithCompareUptoCardSaid : Prop := Claim7.holds Tryz.pinned (.plain (OpenSpec.upto fnLtOrderAgreesWithCompareSpec)) fnLtOrderAgreesWithCompareUptoCard
end Rows
end Go.Proofs.YtclopknkophfkaaGreatDoor
