/-
  DERIVED. GIVEN WITH THE SEED: THE CARDS: each row of YtipinccflmmepaaGreatDoorRows.lean that lists a variable, with what it lists TIED to the program's text (the seventh form; the later family's looks); each row that meets fmt, with fmt's text TOLD by the authors' own Lean function (tested against real Go, not proved from fmt's source: count such statements apart). THE CARD IS WHAT COUNTS. Prove the row's statement (the work); the ties are given (YtipinccflmmepaaGreatDoorTie.lean); close each card by the builder's one call (the guide's Derived/Test/ToyasCard.lean, 'card_holds'). Laid BY PROGRAM, IN A SANDBOX (cutbox-door.mjs). By AI agents, Wed Nov 11 2026. No macro, syntax, notation, axiom, sorry.
-/
import Derived.Test.YtipinccflmmepaaGreatDoorRows
import GoSem.ClaimSeven
namespace Go.Proofs.YtipinccflmmepaaGreatDoor
namespace Rows

/-- THE TIED CARD OF 'n001_45.FnMathFuncWhole'. -/
def fnMathFuncWholeCard : Claim7 := { stood := { row := fnMathFuncWholeRow, standIns := [], harness := (true, "1f68385e6e709e7fd55c46b549b489e6d5db4808257a5dc780fe5db1c36afe7f"), looks := true }, kinds := [], alts := [], laidByText := true, laidKinds := [.data, .data, .widerDeep, .widerDeep, .data, .data, .data, .data, .data, .sentinel, .sentinel, .data, .data, .data, .data, .data, .pinned, .pinned], laidTests := true, laidLooks := .later }
def FnMathFuncWholeCardSaid : Prop := Claim7.holds Tryz.pinned (.plain (OpenSpec.ofChange fnMathFuncWholeSpec)) fnMathFuncWholeCard

/-- THE TIED CARD OF 'n001_45.FnMathFunc2Whole'. -/
def fnMathFunc2WholeCard : Claim7 := { stood := { row := fnMathFunc2WholeRow, standIns := [], harness := (true, "1f68385e6e709e7fd55c46b549b489e6d5db4808257a5dc780fe5db1c36afe7f"), looks := true }, kinds := [], alts := [], laidByText := true, laidKinds := [.data, .data, .widerDeep, .widerDeep, .data, .data, .data, .data, .data, .sentinel, .sentinel, .data, .data, .data, .data, .data, .pinned, .pinned], laidTests := true, laidLooks := .later }
def FnMathFunc2WholeCardSaid : Prop := Claim7.holds Tryz.pinned (.plain (OpenSpec.ofChange fnMathFunc2WholeSpec)) fnMathFunc2WholeCard

/-- THE TIED CARD OF 'n001_45.FnMathFunc3Whole'. -/
def fnMathFunc3WholeCard : Claim7 := { stood := { row := fnMathFunc3WholeRow, standIns := [], harness := (true, "1f68385e6e709e7fd55c46b549b489e6d5db4808257a5dc780fe5db1c36afe7f"), looks := true }, kinds := [], alts := [], laidByText := true, laidKinds := [.data, .data, .widerDeep, .widerDeep, .data, .data, .data, .data, .data, .sentinel, .sentinel, .data, .data, .data, .data, .data, .pinned, .pinned], laidTests := true, laidLooks := .later }
def FnMathFunc3WholeCardSaid : Prop := Claim7.holds Tryz.pinned (.plain (OpenSpec.ofChange fnMathFunc3WholeSpec)) fnMathFunc3WholeCard

/-- THE TIED CARD OF 'n001_55.FnToNumberFractionalFormsOfAnInteger'. -/
def fnToNumberFractionalFormsOfAnIntegerCard : Claim7 := { stood := { row := fnToNumberFractionalFormsOfAnIntegerRow, standIns := [], harness := (true, "1f68385e6e709e7fd55c46b549b489e6d5db4808257a5dc780fe5db1c36afe7f"), looks := true }, kinds := [], alts := [], laidByText := true, laidKinds := [.data, .data, .widerDeep, .widerDeep, .data, .data, .data, .data, .data, .sentinel, .sentinel, .sentinel, .sentinel, .sentinel, .data, .data, .data, .data, .data, .pinned, .pinned], laidTests := true, laidLooks := .later }
def FnToNumberFractionalFormsOfAnIntegerCardSaid : Prop := Claim7.holds Tryz.pinned (.plain (OpenSpec.ofChange fnToNumberFractionalFormsOfAnIntegerSpec)) fnToNumberFractionalFormsOfAnIntegerCard

/-- THE SECOND FORM's CARD OF 'n001_45.FnMathFuncWhole'. -/
def fnMathFuncWholeUptoCard : Claim7 := { stood := { row := fnMathFuncWholeUptoRow, standIns := [], harness := (true, "1f68385e6e709e7fd55c46b549b489e6d5db4808257a5dc780fe5db1c36afe7f"), looks := true }, kinds := [], alts := [], laidByText := true, laidKinds := [.data, .data, .widerDeep, .widerDeep, .data, .data, .data, .data, .data, .sentinel, .sentinel, .data, .data, .data, .data, .data, .pinned, .pinned], laidTests := true, laidLooks := .later }
def FnMathFuncWholeUptoCardSaid : Prop := Claim7.holds Tryz.pinned (.plain (OpenSpec.upto fnMathFuncWholeSpec)) fnMathFuncWholeUptoCard

/-- THE SECOND FORM's CARD OF 'n001_45.FnMathFunc2Whole'. -/
def fnMathFunc2WholeUptoCard : Claim7 := { stood := { row := fnMathFunc2WholeUptoRow, standIns := [], harness := (true, "1f68385e6e709e7fd55c46b549b489e6d5db4808257a5dc780fe5db1c36afe7f"), looks := true }, kinds := [], alts := [], laidByText := true, laidKinds := [.data, .data, .widerDeep, .widerDeep, .data, .data, .data, .data, .data, .sentinel, .sentinel, .data, .data, .data, .data, .data, .pinned, .pinned], laidTests := true, laidLooks := .later }
def FnMathFunc2WholeUptoCardSaid : Prop := Claim7.holds Tryz.pinned (.plain (OpenSpec.upto fnMathFunc2WholeSpec)) fnMathFunc2WholeUptoCard

/-- THE SECOND FORM's CARD OF 'n001_45.FnMathFunc3Whole'. -/
def fnMathFunc3WholeUptoCard : Claim7 := { stood := { row := fnMathFunc3WholeUptoRow, standIns := [], harness := (true, "1f68385e6e709e7fd55c46b549b489e6d5db4808257a5dc780fe5db1c36afe7f"), looks := true }, kinds := [], alts := [], laidByText := true, laidKinds := [.data, .data, .widerDeep, .widerDeep, .data, .data, .data, .data, .data, .sentinel, .sentinel, .data, .data, .data, .data, .data, .pinned, .pinned], laidTests := true, laidLooks := .later }
def FnMathFunc3WholeUptoCardSaid : Prop := Claim7.holds Tryz.pinned (.plain (OpenSpec.upto fnMathFunc3WholeSpec)) fnMathFunc3WholeUptoCard

/-- THE SECOND FORM's CARD OF 'n001_55.FnToNumberFractionalFormsOfAnInteger'. -/
def fnToNumberFractionalFormsOfAnIntegerUptoCard : Claim7 := { stood := { row := fnToNumberFractionalFormsOfAnIntegerUptoRow, standIns := [], harness := (true, "1f68385e6e709e7fd55c46b549b489e6d5db4808257a5dc780fe5db1c36afe7f"), looks := true }, kinds := [], alts := [], laidByText := true, laidKinds := [.data, .data, .widerDeep, .widerDeep, .data, .data, .data, .data, .data, .sentinel, .sentinel, .sentinel, .sentinel, .sentinel, .data, .data, .data, .data, .data, .pinned, .pinned], laidTests := true, laidLooks := .later }
def FnToNumberFractionalFormsOfAnIntegerUptoCardSaid : Prop := Claim7.holds Tryz.pinned (.plain (OpenSpec.upto fnToNumberFractionalFormsOfAnIntegerSpec)) fnToNumberFractionalFormsOfAnIntegerUptoCard
end Rows
end Go.Proofs.YtipinccflmmepaaGreatDoor
