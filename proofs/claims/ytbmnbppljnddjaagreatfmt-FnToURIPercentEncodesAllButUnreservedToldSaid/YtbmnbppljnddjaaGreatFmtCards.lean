/-
  DERIVED. GIVEN WITH THE SEED: THE CARDS: each row of YtbmnbppljnddjaaGreatFmtRows.lean that lists a variable, with what it lists TIED to the program's text (the seventh form; the later family's looks); each row that meets fmt, with fmt's text TOLD by the authors' own Lean function (tested against real Go, not proved from fmt's source: count such statements apart). THE CARD IS WHAT COUNTS. Prove the row's statement (the work); the ties are given (YtbmnbppljnddjaaGreatFmtTie.lean); close each card by the builder's one call (the guide's Derived/Test/ToyasCard.lean, 'card_holds'). Laid BY PROGRAM, IN A SANDBOX (cutbox-door.mjs). By AI agents, Wed Nov 11 2026. No macro, syntax, notation, axiom, sorry.
-/
import Derived.Test.YtbmnbppljnddjaaGreatFmtRows
import GoSem.ClaimSeven
namespace Go.Proofs.YtbmnbppljnddjaaGreatFmt
namespace Rows

/-- THE TOLD AND TIED CARD OF 'n001_62.FnToCSVQuotesEveryStringField'. -/
def fnToCSVQuotesEveryStringFieldCard : Claim7 := { stood := { row := fnToCSVQuotesEveryStringFieldRow, standIns := [], harness := (true, "5a0ab236d50492ee9accfdb47d74b6eadd41f09ced0f6b1a8192cd7b181555dc"), looks := true }, told := true, laidByText := true, laidKinds := [.data, .data, .data, .data, .data, .data, .data, .data, .data, .data, .pinned, .pinned, .pinned], laidTests := true, laidLooks := .later, goes := false }
def FnToCSVQuotesEveryStringFieldToldSaid : Prop := Claim7.holds Tryz.pinned (.plain (OpenSpec.ofChange fnToCSVQuotesEveryStringFieldSpec)) fnToCSVQuotesEveryStringFieldCard
/-- ITS FALSE NEIGHBOUR. Refute it at one input. -/
def FnToCSVQuotesEveryStringFieldToldWrongFalsely : Prop := Claim7.holds Tryz.pinned (.plain (OpenSpec.ofChange fnToCSVQuotesEveryStringFieldWrong)) fnToCSVQuotesEveryStringFieldCard

/-- THE TOLD AND TIED CARD OF 'n001_62.FnToHTMLMatchesEntityTable'. -/
def fnToHTMLMatchesEntityTableCard : Claim7 := { stood := { row := fnToHTMLMatchesEntityTableRow, standIns := [], harness := (true, "5a0ab236d50492ee9accfdb47d74b6eadd41f09ced0f6b1a8192cd7b181555dc"), looks := true }, told := true, laidByText := true, laidKinds := [.data, .data, .data, .data, .data, .data, .data, .data, .data, .data, .pinned, .pinned, .pinned], laidTests := true, laidLooks := .later, goes := false }
def FnToHTMLMatchesEntityTableToldSaid : Prop := Claim7.holds Tryz.pinned (.plain (OpenSpec.ofChange fnToHTMLMatchesEntityTableSpec)) fnToHTMLMatchesEntityTableCard
/-- ITS FALSE NEIGHBOUR. Refute it at one input. -/
def FnToHTMLMatchesEntityTableToldWrongFalsely : Prop := Claim7.holds Tryz.pinned (.plain (OpenSpec.ofChange fnToHTMLMatchesEntityTableWrong)) fnToHTMLMatchesEntityTableCard

/-- THE TOLD AND TIED CARD OF 'n001_62.FnToHTMLIsSafeAndInvertible'. -/
def fnToHTMLIsSafeAndInvertibleCard : Claim7 := { stood := { row := fnToHTMLIsSafeAndInvertibleRow, standIns := [], harness := (true, "5a0ab236d50492ee9accfdb47d74b6eadd41f09ced0f6b1a8192cd7b181555dc"), looks := true }, told := true, laidByText := true, laidKinds := [.data, .data, .data, .data, .data, .data, .data, .data, .data, .data, .pinned, .pinned, .pinned], laidTests := true, laidLooks := .later, goes := false }
def FnToHTMLIsSafeAndInvertibleToldSaid : Prop := Claim7.holds Tryz.pinned (.plain (OpenSpec.ofChange fnToHTMLIsSafeAndInvertibleSpec)) fnToHTMLIsSafeAndInvertibleCard
/-- ITS FALSE NEIGHBOUR. Refute it at one input. -/
def FnToHTMLIsSafeAndInvertibleToldWrongFalsely : Prop := Claim7.holds Tryz.pinned (.plain (OpenSpec.ofChange fnToHTMLIsSafeAndInvertibleWrong)) fnToHTMLIsSafeAndInvertibleCard

/-- THE TOLD AND TIED CARD OF 'n001_62.FnToURIPercentEncodesAllButUnreserved'. -/
def fnToURIPercentEncodesAllButUnreservedCard : Claim7 := { stood := { row := fnToURIPercentEncodesAllButUnreservedRow, standIns := [], harness := (true, "5a0ab236d50492ee9accfdb47d74b6eadd41f09ced0f6b1a8192cd7b181555dc"), looks := true }, told := true, laidByText := true, laidKinds := [.data, .data, .data, .data, .data, .data, .data, .data, .data, .data, .data, .pinned, .pinned, .pinned], laidTests := true, laidLooks := .later, goes := false }
def FnToURIPercentEncodesAllButUnreservedToldSaid : Prop := Claim7.holds Tryz.pinned (.plain (OpenSpec.ofChange fnToURIPercentEncodesAllButUnreservedSpec)) fnToURIPercentEncodesAllButUnreservedCard
/-- ITS FALSE NEIGHBOUR. Refute it at one input. -/
def FnToURIPercentEncodesAllButUnreservedToldWrongFalsely : Prop := Claim7.holds Tryz.pinned (.plain (OpenSpec.ofChange fnToURIPercentEncodesAllButUnreservedWrong)) fnToURIPercentEncodesAllButUnreservedCard

/-- THE TOLD AND TIED CARD OF 'n001_62.FnToCSVIntsAreBareDecimals'. -/
def fnToCSVIntsAreBareDecimalsCard : Claim7 := { stood := { row := fnToCSVIntsAreBareDecimalsRow, standIns := [], harness := (true, "5a0ab236d50492ee9accfdb47d74b6eadd41f09ced0f6b1a8192cd7b181555dc"), looks := true }, told := true, laidByText := true, laidKinds := [.data, .data, .data, .data, .data, .data, .data, .data, .data, .data, .pinned, .pinned, .pinned], laidTests := true, laidLooks := .later, goes := false }
def FnToCSVIntsAreBareDecimalsToldSaid : Prop := Claim7.holds Tryz.pinned (.plain (OpenSpec.ofChange fnToCSVIntsAreBareDecimalsSpec)) fnToCSVIntsAreBareDecimalsCard
/-- ITS FALSE NEIGHBOUR. Refute it at one input. -/
def FnToCSVIntsAreBareDecimalsToldWrongFalsely : Prop := Claim7.holds Tryz.pinned (.plain (OpenSpec.ofChange fnToCSVIntsAreBareDecimalsWrong)) fnToCSVIntsAreBareDecimalsCard
end Rows
end Go.Proofs.YtbmnbppljnddjaaGreatFmt
