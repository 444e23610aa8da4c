/-
  DERIVED. GIVEN WITH THE SEED: THE CARDS: each row of YtngdcnljbfkneaaGreatFmtRows.lean that lists a variable, with what it lists TIED to the program's text (the seventh form; the later family's looks); each row that meets fmt, with fmt's text TOLD by the authors' own Lean function (tested against real Go, not proved from fmt's source: count such statements apart). THE CARD IS WHAT COUNTS. Prove the row's statement (the work); the ties are given (YtngdcnljbfkneaaGreatFmtTie.lean); close each card by the builder's one call (the guide's Derived/Test/ToyasCard.lean, 'card_holds'). Laid BY PROGRAM, IN A SANDBOX (cutbox-door.mjs). By AI agents, Wed Nov 11 2026. No macro, syntax, notation, axiom, sorry.
-/
import Derived.Test.YtngdcnljbfkneaaGreatFmtRows
import GoSem.ClaimSeven
namespace Go.Proofs.YtngdcnljbfkneaaGreatFmt
namespace Rows

/-- THE TOLD AND TIED CARD OF 'n001_64.FnEncodeObjectOrderFree'. -/
def fnEncodeObjectOrderFreeCard : Claim7 := { stood := { row := fnEncodeObjectOrderFreeRow, standIns := [], harness := (true, "2e572af145eaf0a4f7c7be118b28fe89d764c24bfa36d9a85d4e46dda935d4e6"), looks := true }, told := true, laidByText := true, laidKinds := [.data, .data, .data, .data, .data, .data, .data, .data, .data, .data, .pinned, .pinned, .pinned], laidTests := true, laidLooks := .later, goes := false }
def FnEncodeObjectOrderFreeToldSaid : Prop := Claim7.holds Tryz.pinned (.plain (OpenSpec.ofChange fnEncodeObjectOrderFreeSpec)) fnEncodeObjectOrderFreeCard
/-- ITS FALSE NEIGHBOUR. Refute it at one input. -/
def FnEncodeObjectOrderFreeToldWrongFalsely : Prop := Claim7.holds Tryz.pinned (.plain (OpenSpec.ofChange fnEncodeObjectOrderFreeWrong)) fnEncodeObjectOrderFreeCard

/-- THE TOLD AND TIED CARD OF 'n001_64.FnEncodeObjectSpec'. -/
def fnEncodeObjectSpecCard : Claim7 := { stood := { row := fnEncodeObjectSpecRow, standIns := [], harness := (true, "2e572af145eaf0a4f7c7be118b28fe89d764c24bfa36d9a85d4e46dda935d4e6"), looks := true }, told := true, laidByText := true, laidKinds := [.data, .data, .data, .data, .data, .data, .data, .data, .data, .data, .pinned, .pinned, .pinned], laidTests := true, laidLooks := .later, goes := false }
def FnEncodeObjectSpecToldSaid : Prop := Claim7.holds Tryz.pinned (.plain (OpenSpec.ofChange fnEncodeObjectSpecSpec)) fnEncodeObjectSpecCard
/-- ITS FALSE NEIGHBOUR. Refute it at one input. -/
def FnEncodeObjectSpecToldWrongFalsely : Prop := Claim7.holds Tryz.pinned (.plain (OpenSpec.ofChange fnEncodeObjectSpecWrong)) fnEncodeObjectSpecCard
end Rows
end Go.Proofs.YtngdcnljbfkneaaGreatFmt
