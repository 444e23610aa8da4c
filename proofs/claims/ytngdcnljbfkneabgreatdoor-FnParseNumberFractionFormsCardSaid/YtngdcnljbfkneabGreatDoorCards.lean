/-
  DERIVED. GIVEN WITH THE SEED: THE CARDS: each row of YtngdcnljbfkneabGreatDoorRows.lean that lists a variable, with what it lists TIED to the program's text (the seventh form; the later family's looks); each row that meets fmt, with fmt's text TOLD by the authors' own Lean function (tested against real Go, not proved from fmt's source: count such statements apart). THE CARD IS WHAT COUNTS. Prove the row's statement (the work); the ties are given (YtngdcnljbfkneabGreatDoorTie.lean); close each card by the builder's one call (the guide's Derived/Test/ToyasCard.lean, 'card_holds'). Laid BY PROGRAM, IN A SANDBOX (cutbox-door.mjs). By AI agents, Wed Nov 11 2026. No macro, syntax, notation, axiom, sorry.
-/
import Derived.Test.YtngdcnljbfkneabGreatDoorRows
import GoSem.ClaimSeven
namespace Go.Proofs.YtngdcnljbfkneabGreatDoor
namespace Rows

/-- THE TIED CARD OF 'n001_34.FnParseNumberFractionForms'. -/
def fnParseNumberFractionFormsCard : Claim7 := { stood := { row := fnParseNumberFractionFormsRow, standIns := [], harness := (true, "810dea35c205cfcbc5fc4f183acac2e3ecf3ef522249524749bf0da275a7bc08"), looks := true }, kinds := [], alts := [], laidByText := true, laidKinds := [.data, .data, .widerDeep, .widerDeep, .data, .data, .data, .data, .data, .sentinel, .sentinel, .sentinel, .sentinel, .sentinel, .data, .data, .data, .data, .data, .pinned, .pinned], laidTests := true, laidLooks := .later }
def FnParseNumberFractionFormsCardSaid : Prop := Claim7.holds Tryz.pinned (.plain (OpenSpec.ofChange fnParseNumberFractionFormsSpec)) fnParseNumberFractionFormsCard

/-- THE TIED CARD OF 'n001_55.FnToNumberFractionalFormsOfAnInteger'. -/
def fnToNumberFractionalFormsOfAnIntegerCard : Claim7 := { stood := { row := fnToNumberFractionalFormsOfAnIntegerRow, standIns := [], harness := (true, "810dea35c205cfcbc5fc4f183acac2e3ecf3ef522249524749bf0da275a7bc08"), looks := true }, kinds := [], alts := [], laidByText := true, laidKinds := [.data, .data, .widerDeep, .widerDeep, .data, .data, .data, .data, .data, .sentinel, .sentinel, .sentinel, .sentinel, .sentinel, .data, .data, .data, .data, .data, .pinned, .pinned], laidTests := true, laidLooks := .later }
def FnToNumberFractionalFormsOfAnIntegerCardSaid : Prop := Claim7.holds Tryz.pinned (.plain (OpenSpec.ofChange fnToNumberFractionalFormsOfAnIntegerSpec)) fnToNumberFractionalFormsOfAnIntegerCard

/-- THE SECOND FORM's CARD OF 'n001_34.FnParseNumberFractionForms'. -/
def fnParseNumberFractionFormsUptoCard : Claim7 := { stood := { row := fnParseNumberFractionFormsUptoRow, standIns := [], harness := (true, "810dea35c205cfcbc5fc4f183acac2e3ecf3ef522249524749bf0da275a7bc08"), looks := true }, kinds := [], alts := [], laidByText := true, laidKinds := [.data, .data, .widerDeep, .widerDeep, .data, .data, .data, .data, .data, .sentinel, .sentinel, .sentinel, .sentinel, .sentinel, .data, .data, .data, .data, .data, .pinned, .pinned], laidTests := true, laidLooks := .later }
def FnParseNumberFractionFormsUptoCardSaid : Prop := Claim7.holds Tryz.pinned (.plain (OpenSpec.upto fnParseNumberFractionFormsSpec)) fnParseNumberFractionFormsUptoCard

/-- THE SECOND FORM's CARD OF 'n001_55.FnToNumberFractionalFormsOfAnInteger'. -/
def fnToNumberFractionalFormsOfAnIntegerUptoCard : Claim7 := { stood := { row := fnToNumberFractionalFormsOfAnIntegerUptoRow, standIns := [], harness := (true, "810dea35c205cfcbc5fc4f183acac2e3ecf3ef522249524749bf0da275a7bc08"), looks := true }, kinds := [], alts := [], laidByText := true, laidKinds := [.data, .data, .widerDeep, .widerDeep, .data, .data, .data, .data, .data, .sentinel, .sentinel, .sentinel, .sentinel, .sentinel, .data, .data, .data, .data, .data, .pinned, .pinned], laidTests := true, laidLooks := .later }
def FnToNumberFractionalFormsOfAnIntegerUptoCardSaid : Prop := Claim7.holds Tryz.pinned (.plain (OpenSpec.upto fnToNumberFractionalFormsOfAnIntegerSpec)) fnToNumberFractionalFormsOfAnIntegerUptoCard
end Rows
end Go.Proofs.YtngdcnljbfkneabGreatDoor
