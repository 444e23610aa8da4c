/-
  DERIVED. GIVEN WITH THE SEED: THE CARDS: each row of YtgaeeklmifjigaaGreatFmtRows.lean that lists a variable, with what it lists TIED to the program's text (the seventh form; the later family's looks); each row that meets fmt, with fmt's text TOLD by the authors' own Lean function (tested against real Go, not proved from fmt's source: count such statements apart). THE CARD IS WHAT COUNTS. Prove the row's statement (the work); the ties are given (YtgaeeklmifjigaaGreatFmtTie.lean); close each card by the builder's one call (the guide's Derived/Test/ToyasCard.lean, 'card_holds'). Laid BY PROGRAM, IN A SANDBOX (cutbox-door.mjs). By AI agents, Wed Nov 11 2026. No macro, syntax, notation, axiom, sorry.
-/
import Derived.Test.YtgaeeklmifjigaaGreatFmtRows
import GoSem.ClaimSeven
namespace Go.Proofs.YtgaeeklmifjigaaGreatFmt
namespace Rows

/-- THE TOLD AND TIED CARD OF 'n001_64.FnEncodeArrayInts'. -/
def fnEncodeArrayIntsCard : Claim7 := { stood := { row := fnEncodeArrayIntsRow, standIns := [], harness := (true, "facf1b58fb95b2cc9fb9fe5a4115c84d301a034ae7b6024bbfd3be6bc4a6810b"), looks := true }, told := true, laidByText := true, laidKinds := [.data, .data, .data, .data, .data, .data, .data, .data, .data, .data, .pinned, .pinned, .pinned], laidTests := true, laidLooks := .later, goes := false }
def FnEncodeArrayIntsToldSaid : Prop := Claim7.holds Tryz.pinned (.plain (OpenSpec.ofChange fnEncodeArrayIntsSpec)) fnEncodeArrayIntsCard
/-- ITS FALSE NEIGHBOUR. Refute it at one input. -/
def FnEncodeArrayIntsToldWrongFalsely : Prop := Claim7.holds Tryz.pinned (.plain (OpenSpec.ofChange fnEncodeArrayIntsWrong)) fnEncodeArrayIntsCard

/-- THE TOLD AND TIED CARD OF 'n001_57.FnExpectedStartEndErrorString'. -/
def fnExpectedStartEndErrorStringCard : Claim7 := { stood := { row := fnExpectedStartEndErrorStringRow, standIns := [], harness := (true, "facf1b58fb95b2cc9fb9fe5a4115c84d301a034ae7b6024bbfd3be6bc4a6810b"), looks := true }, told := true, laidByText := true, laidKinds := [.data, .data, .data, .data, .data, .data, .data, .data, .data, .data, .pinned, .pinned, .pinned], laidTests := true, laidLooks := .later, goes := false }
def FnExpectedStartEndErrorStringToldSaid : Prop := Claim7.holds Tryz.pinned (.plain (OpenSpec.ofChange fnExpectedStartEndErrorStringSpec)) fnExpectedStartEndErrorStringCard
/-- ITS FALSE NEIGHBOUR. Refute it at one input. -/
def FnExpectedStartEndErrorStringToldWrongFalsely : Prop := Claim7.holds Tryz.pinned (.plain (OpenSpec.ofChange fnExpectedStartEndErrorStringWrong)) fnExpectedStartEndErrorStringCard

/-- THE TOLD AND TIED CARD OF 'n001_57.FnStringIndexNotNumberErrorString'. -/
def fnStringIndexNotNumberErrorStringCard : Claim7 := { stood := { row := fnStringIndexNotNumberErrorStringRow, standIns := [], harness := (true, "facf1b58fb95b2cc9fb9fe5a4115c84d301a034ae7b6024bbfd3be6bc4a6810b"), looks := true }, told := true, laidByText := true, laidKinds := [.data, .data, .data, .data, .data, .data, .data, .data, .data, .data, .pinned, .pinned, .pinned], laidTests := true, laidLooks := .later, goes := false }
def FnStringIndexNotNumberErrorStringToldSaid : Prop := Claim7.holds Tryz.pinned (.plain (OpenSpec.ofChange fnStringIndexNotNumberErrorStringSpec)) fnStringIndexNotNumberErrorStringCard
/-- ITS FALSE NEIGHBOUR. Refute it at one input. -/
def FnStringIndexNotNumberErrorStringToldWrongFalsely : Prop := Claim7.holds Tryz.pinned (.plain (OpenSpec.ofChange fnStringIndexNotNumberErrorStringWrong)) fnStringIndexNotNumberErrorStringCard

/-- THE TOLD AND TIED CARD OF 'n001_57.FnExpectedStartEndErrorScalar'. -/
def fnExpectedStartEndErrorScalarCard : Claim7 := { stood := { row := fnExpectedStartEndErrorScalarRow, standIns := [], harness := (true, "facf1b58fb95b2cc9fb9fe5a4115c84d301a034ae7b6024bbfd3be6bc4a6810b"), looks := true }, told := true, laidByText := true, laidKinds := [.data, .data, .data, .data, .data, .data, .data, .data, .data, .data, .pinned, .pinned, .pinned], laidTests := true, laidLooks := .later, goes := false }
def FnExpectedStartEndErrorScalarToldSaid : Prop := Claim7.holds Tryz.pinned (.plain (OpenSpec.ofChange fnExpectedStartEndErrorScalarSpec)) fnExpectedStartEndErrorScalarCard
/-- ITS FALSE NEIGHBOUR. Refute it at one input. -/
def FnExpectedStartEndErrorScalarToldWrongFalsely : Prop := Claim7.holds Tryz.pinned (.plain (OpenSpec.ofChange fnExpectedStartEndErrorScalarWrong)) fnExpectedStartEndErrorScalarCard

/-- THE TOLD AND TIED CARD OF 'n001_57.FnStringIndexNotNumberErrorScalar'. -/
def fnStringIndexNotNumberErrorScalarCard : Claim7 := { stood := { row := fnStringIndexNotNumberErrorScalarRow, standIns := [], harness := (true, "facf1b58fb95b2cc9fb9fe5a4115c84d301a034ae7b6024bbfd3be6bc4a6810b"), looks := true }, told := true, laidByText := true, laidKinds := [.data, .data, .data, .data, .data, .data, .data, .data, .data, .data, .pinned, .pinned, .pinned], laidTests := true, laidLooks := .later, goes := false }
def FnStringIndexNotNumberErrorScalarToldSaid : Prop := Claim7.holds Tryz.pinned (.plain (OpenSpec.ofChange fnStringIndexNotNumberErrorScalarSpec)) fnStringIndexNotNumberErrorScalarCard
/-- ITS FALSE NEIGHBOUR. Refute it at one input. -/
def FnStringIndexNotNumberErrorScalarToldWrongFalsely : Prop := Claim7.holds Tryz.pinned (.plain (OpenSpec.ofChange fnStringIndexNotNumberErrorScalarWrong)) fnStringIndexNotNumberErrorScalarCard
end Rows
end Go.Proofs.YtgaeeklmifjigaaGreatFmt
