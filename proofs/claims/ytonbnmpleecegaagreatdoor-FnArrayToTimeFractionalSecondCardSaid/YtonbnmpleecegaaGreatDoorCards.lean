/-
  DERIVED. GIVEN WITH THE SEED: THE CARDS: each row of YtonbnmpleecegaaGreatDoorRows.lean that lists a variable, with what it lists TIED to the program's text (the seventh form; the later family's looks); each row that meets fmt, with fmt's text TOLD by the authors' own Lean function (tested against real Go, not proved from fmt's source: count such statements apart). THE CARD IS WHAT COUNTS. Prove the row's statement (the work); the ties are given (YtonbnmpleecegaaGreatDoorTie.lean); close each card by the builder's one call (the guide's Derived/Test/ToyasCard.lean, 'card_holds'). Laid BY PROGRAM, IN A SANDBOX (cutbox-door.mjs). By AI agents, Wed Nov 11 2026. No macro, syntax, notation, axiom, sorry.
-/
import Derived.Test.YtonbnmpleecegaaGreatDoorRows
import GoSem.ClaimSeven
namespace Go.Proofs.YtonbnmpleecegaaGreatDoor
namespace Rows

/-- THE TIED CARD OF 'n001_39.FnArrayToTimeFractionalSecond'. -/
def fnArrayToTimeFractionalSecondCard : Claim7 := { stood := { row := fnArrayToTimeFractionalSecondRow, standIns := [], harness := (true, "aaa7857a11f8daa5c01091de97e537e16abd13b96ef0df30642aec2550efbb15"), looks := true }, kinds := [], alts := [], laidByText := true, laidKinds := [.data, .data, .widerDeep, .widerDeep, .data, .data, .data, .data, .data, .sentinel, .sentinel, .sentinel, .sentinel, .sentinel, .data, .data, .data, .data, .data, .pinned, .pinned], laidTests := true, laidLooks := .later }
def FnArrayToTimeFractionalSecondCardSaid : Prop := Claim7.holds Tryz.pinned (.plain (OpenSpec.ofChange fnArrayToTimeFractionalSecondSpec)) fnArrayToTimeFractionalSecondCard

/-- THE TIED CARD OF 'n001_32.FnMktimeIntListPadsMissingFieldsAndIgnoresTail'. -/
def fnMktimeIntListPadsMissingFieldsAndIgnoresTailCard : Claim7 := { stood := { row := fnMktimeIntListPadsMissingFieldsAndIgnoresTailRow, standIns := [], harness := (true, "aaa7857a11f8daa5c01091de97e537e16abd13b96ef0df30642aec2550efbb15"), looks := true }, kinds := [], alts := [], laidByText := true, laidKinds := [.data, .data, .widerDeep, .widerDeep, .data, .data, .data, .data, .data, .sentinel, .sentinel, .sentinel, .sentinel, .sentinel, .data, .data, .data, .data, .data, .pinned, .pinned], laidTests := true, laidLooks := .later }
def FnMktimeIntListPadsMissingFieldsAndIgnoresTailCardSaid : Prop := Claim7.holds Tryz.pinned (.plain (OpenSpec.ofChange fnMktimeIntListPadsMissingFieldsAndIgnoresTailSpec)) fnMktimeIntListPadsMissingFieldsAndIgnoresTailCard

/-- THE TIED CARD OF 'n001_39.FnArrayToTimeMatchesCivilModel'. -/
def fnArrayToTimeMatchesCivilModelCard : Claim7 := { stood := { row := fnArrayToTimeMatchesCivilModelRow, standIns := [], harness := (true, "aaa7857a11f8daa5c01091de97e537e16abd13b96ef0df30642aec2550efbb15"), looks := true }, kinds := [], alts := [], laidByText := true, laidKinds := [.data, .data, .widerDeep, .widerDeep, .data, .data, .data, .data, .data, .sentinel, .sentinel, .sentinel, .sentinel, .sentinel, .data, .data, .data, .data, .data, .pinned, .pinned], laidTests := true, laidLooks := .later }
def FnArrayToTimeMatchesCivilModelCardSaid : Prop := Claim7.holds Tryz.pinned (.plain (OpenSpec.ofChange fnArrayToTimeMatchesCivilModelSpec)) fnArrayToTimeMatchesCivilModelCard

/-- THE SECOND FORM's CARD OF 'n001_39.FnArrayToTimeFractionalSecond'. -/
def fnArrayToTimeFractionalSecondUptoCard : Claim7 := { stood := { row := fnArrayToTimeFractionalSecondUptoRow, standIns := [], harness := (true, "aaa7857a11f8daa5c01091de97e537e16abd13b96ef0df30642aec2550efbb15"), looks := true }, kinds := [], alts := [], laidByText := true, laidKinds := [.data, .data, .widerDeep, .widerDeep, .data, .data, .data, .data, .data, .sentinel, .sentinel, .sentinel, .sentinel, .sentinel, .data, .data, .data, .data, .data, .pinned, .pinned], laidTests := true, laidLooks := .later }
def FnArrayToTimeFractionalSecondUptoCardSaid : Prop := Claim7.holds Tryz.pinned (.plain (OpenSpec.upto fnArrayToTimeFractionalSecondSpec)) fnArrayToTimeFractionalSecondUptoCard

/-- THE SECOND FORM's CARD OF 'n001_32.FnMktimeIntListPadsMissingFieldsAndIgnoresTail'. -/
def fnMktimeIntListPadsMissingFieldsAndIgnoresTailUptoCard : Claim7 := { stood := { row := fnMktimeIntListPadsMissingFieldsAndIgnoresTailUptoRow, standIns := [], harness := (true, "aaa7857a11f8daa5c01091de97e537e16abd13b96ef0df30642aec2550efbb15"), looks := true }, kinds := [], alts := [], laidByText := true, laidKinds := [.data, .data, .widerDeep, .widerDeep, .data, .data, .data, .data, .data, .sentinel, .sentinel, .sentinel, .sentinel, .sentinel, .data, .data, .data, .data, .data, .pinned, .pinned], laidTests := true, laidLooks := .later }
def FnMktimeIntListPadsMissingFieldsAndIgnoresTailUptoCardSaid : Prop := Claim7.holds Tryz.pinned (.plain (OpenSpec.upto fnMktimeIntListPadsMissingFieldsAndIgnoresTailSpec)) fnMktimeIntListPadsMissingFieldsAndIgnoresTailUptoCard

/-- THE SECOND FORM's CARD OF 'n001_39.FnArrayToTimeMatchesCivilModel'. -/
def fnArrayToTimeMatchesCivilModelUptoCard : Claim7 := { stood := { row := fnArrayToTimeMatchesCivilModelUptoRow, standIns := [], harness := (true, "aaa7857a11f8daa5c01091de97e537e16abd13b96ef0df30642aec2550efbb15"), looks := true }, kinds := [], alts := [], laidByText := true, laidKinds := [.data, .data, .widerDeep, .widerDeep, .data, .data, .data, .data, .data, .sentinel, .sentinel, .sentinel, .sentinel, .sentinel, .data, .data, .data, .data, .data, .pinned, .pinned], laidTests := true, laidLooks := .later }
def FnArrayToTimeMatchesCivilModelUptoCardSaid : Prop := Claim7.holds Tryz.pinned (.plain (OpenSpec.upto fnArrayToTimeMatchesCivilModelSpec)) fnArrayToTimeMatchesCivilModelUptoCard
end Rows
end Go.Proofs.YtonbnmpleecegaaGreatDoor
