/-
  DERIVED. GIVEN WITH THE SEED: THE CARDS: each row of YtcidgldfccjkbaaGreatDoorRows.lean that lists a variable, with what it lists TIED to the program's text (the seventh form; the later family's looks); each row that meets fmt, with fmt's text TOLD by the authors' own Lean function (tested against real Go, not proved from fmt's source: count such statements apart). THE CARD IS WHAT COUNTS. Prove the row's statement (the work); the ties are given (YtcidgldfccjkbaaGreatDoorTie.lean); close each card by the builder's one call (the guide's Derived/Test/ToyasCard.lean, 'card_holds'). Laid BY PROGRAM, IN A SANDBOX (cutbox-door.mjs). By AI agents, Wed Nov 11 2026. No macro, syntax, notation, axiom, sorry.
-/
import Derived.Test.YtcidgldfccjkbaaGreatDoorRows
import GoSem.ClaimSeven
namespace Go.Proofs.YtcidgldfccjkbaaGreatDoor
namespace Rows

/-- THE TIED CARD OF 'n001_50.FnIsnormalFloatMatchesMagnitudeModel'. -/
def fnIsnormalFloatMatchesMagnitudeModelCard : Claim7 := { stood := { row := fnIsnormalFloatMatchesMagnitudeModelRow, standIns := [], harness := (true, "8f39f10557d02d52b7fd1d2fea1163b690068093e112a17a245eaa8d23d4b846"), looks := true }, kinds := [], alts := [], laidByText := true, laidKinds := [.data, .data, .widerDeep, .widerDeep, .data, .data, .data, .data, .data, .sentinel, .sentinel, .data, .data, .data, .data, .data, .pinned, .pinned], laidTests := true, laidLooks := .later }
def FnIsnormalFloatMatchesMagnitudeModelCardSaid : Prop := Claim7.holds Tryz.pinned (.plain (OpenSpec.ofChange fnIsnormalFloatMatchesMagnitudeModelSpec)) fnIsnormalFloatMatchesMagnitudeModelCard

/-- THE TIED CARD OF 'n001_50.FnIsnormalIntIsExactlyNonzero'. -/
def fnIsnormalIntIsExactlyNonzeroCard : Claim7 := { stood := { row := fnIsnormalIntIsExactlyNonzeroRow, standIns := [], harness := (true, "8f39f10557d02d52b7fd1d2fea1163b690068093e112a17a245eaa8d23d4b846"), looks := true }, kinds := [], alts := [], laidByText := true, laidKinds := [.data, .data, .widerDeep, .widerDeep, .data, .data, .data, .data, .data, .sentinel, .sentinel, .data, .data, .data, .data, .data, .pinned, .pinned], laidTests := true, laidLooks := .later }
def FnIsnormalIntIsExactlyNonzeroCardSaid : Prop := Claim7.holds Tryz.pinned (.plain (OpenSpec.ofChange fnIsnormalIntIsExactlyNonzeroSpec)) fnIsnormalIntIsExactlyNonzeroCard

/-- THE TIED CARD OF 'n001_33.FnIsinfiniteSignAndMagnitude'. -/
def fnIsinfiniteSignAndMagnitudeCard : Claim7 := { stood := { row := fnIsinfiniteSignAndMagnitudeRow, standIns := [], harness := (true, "8f39f10557d02d52b7fd1d2fea1163b690068093e112a17a245eaa8d23d4b846"), looks := true }, kinds := [], alts := [], laidByText := true, laidKinds := [.data, .data, .widerDeep, .widerDeep, .data, .data, .data, .data, .data, .sentinel, .sentinel, .data, .data, .data, .data, .data, .pinned, .pinned], laidTests := true, laidLooks := .later }
def FnIsinfiniteSignAndMagnitudeCardSaid : Prop := Claim7.holds Tryz.pinned (.plain (OpenSpec.ofChange fnIsinfiniteSignAndMagnitudeSpec)) fnIsinfiniteSignAndMagnitudeCard

/-- THE TIED CARD OF 'n001_50.FnIsnormalRefusesNonNumbers'. -/
def fnIsnormalRefusesNonNumbersCard : Claim7 := { stood := { row := fnIsnormalRefusesNonNumbersRow, standIns := [], harness := (true, "8f39f10557d02d52b7fd1d2fea1163b690068093e112a17a245eaa8d23d4b846"), looks := true }, kinds := [], alts := [], laidByText := true, laidKinds := [.data, .data, .widerDeep, .widerDeep, .data, .data, .data, .data, .data, .sentinel, .sentinel, .data, .data, .data, .data, .data, .pinned, .pinned], laidTests := true, laidLooks := .later }
def FnIsnormalRefusesNonNumbersCardSaid : Prop := Claim7.holds Tryz.pinned (.plain (OpenSpec.ofChange fnIsnormalRefusesNonNumbersSpec)) fnIsnormalRefusesNonNumbersCard

/-- THE TIED CARD OF 'n001_33.FnIsinfiniteCaseTable'. -/
def fnIsinfiniteCaseTableCard : Claim7 := { stood := { row := fnIsinfiniteCaseTableRow, standIns := [], harness := (true, "8f39f10557d02d52b7fd1d2fea1163b690068093e112a17a245eaa8d23d4b846"), looks := true }, kinds := [], alts := [], laidByText := true, laidKinds := [.data, .data, .widerDeep, .widerDeep, .data, .data, .data, .data, .data, .sentinel, .sentinel, .data, .data, .data, .data, .data, .pinned, .pinned], laidTests := true, laidLooks := .later }
def FnIsinfiniteCaseTableCardSaid : Prop := Claim7.holds Tryz.pinned (.plain (OpenSpec.ofChange fnIsinfiniteCaseTableSpec)) fnIsinfiniteCaseTableCard

/-- THE TIED CARD OF 'n001_33.FnIsfiniteCaseTable'. -/
def fnIsfiniteCaseTableCard : Claim7 := { stood := { row := fnIsfiniteCaseTableRow, standIns := [], harness := (true, "8f39f10557d02d52b7fd1d2fea1163b690068093e112a17a245eaa8d23d4b846"), looks := true }, kinds := [], alts := [], laidByText := true, laidKinds := [.data, .data, .widerDeep, .widerDeep, .data, .data, .data, .data, .data, .sentinel, .sentinel, .data, .data, .data, .data, .data, .pinned, .pinned], laidTests := true, laidLooks := .later }
def FnIsfiniteCaseTableCardSaid : Prop := Claim7.holds Tryz.pinned (.plain (OpenSpec.ofChange fnIsfiniteCaseTableSpec)) fnIsfiniteCaseTableCard

/-- THE TIED CARD OF 'n001_33.FnIsnanCaseTable'. -/
def fnIsnanCaseTableCard : Claim7 := { stood := { row := fnIsnanCaseTableRow, standIns := [], harness := (true, "8f39f10557d02d52b7fd1d2fea1163b690068093e112a17a245eaa8d23d4b846"), looks := true }, kinds := [], alts := [], laidByText := true, laidKinds := [.data, .data, .widerDeep, .widerDeep, .data, .data, .data, .data, .data, .sentinel, .sentinel, .data, .data, .data, .data, .data, .pinned, .pinned], laidTests := true, laidLooks := .later }
def FnIsnanCaseTableCardSaid : Prop := Claim7.holds Tryz.pinned (.plain (OpenSpec.ofChange fnIsnanCaseTableSpec)) fnIsnanCaseTableCard

/-- THE TIED CARD OF 'n001_33.FnIsfiniteIsinfiniteComplement'. -/
def fnIsfiniteIsinfiniteComplementCard : Claim7 := { stood := { row := fnIsfiniteIsinfiniteComplementRow, standIns := [], harness := (true, "8f39f10557d02d52b7fd1d2fea1163b690068093e112a17a245eaa8d23d4b846"), looks := true }, kinds := [], alts := [], laidByText := true, laidKinds := [.data, .data, .widerDeep, .widerDeep, .data, .data, .data, .data, .data, .sentinel, .sentinel, .data, .data, .data, .data, .data, .pinned, .pinned], laidTests := true, laidLooks := .later }
def FnIsfiniteIsinfiniteComplementCardSaid : Prop := Claim7.holds Tryz.pinned (.plain (OpenSpec.ofChange fnIsfiniteIsinfiniteComplementSpec)) fnIsfiniteIsinfiniteComplementCard

/-- THE TIED CARD OF 'n001_33.FnFloatClassPartition'. -/
def fnFloatClassPartitionCard : Claim7 := { stood := { row := fnFloatClassPartitionRow, standIns := [], harness := (true, "8f39f10557d02d52b7fd1d2fea1163b690068093e112a17a245eaa8d23d4b846"), looks := true }, kinds := [], alts := [], laidByText := true, laidKinds := [.data, .data, .widerDeep, .widerDeep, .data, .data, .data, .data, .data, .sentinel, .sentinel, .data, .data, .data, .data, .data, .pinned, .pinned], laidTests := true, laidLooks := .later }
def FnFloatClassPartitionCardSaid : Prop := Claim7.holds Tryz.pinned (.plain (OpenSpec.ofChange fnFloatClassPartitionSpec)) fnFloatClassPartitionCard

/-- THE TIED CARD OF 'n001_33.FnNanPredicatesAgree'. -/
def fnNanPredicatesAgreeCard : Claim7 := { stood := { row := fnNanPredicatesAgreeRow, standIns := [], harness := (true, "8f39f10557d02d52b7fd1d2fea1163b690068093e112a17a245eaa8d23d4b846"), looks := true }, kinds := [], alts := [], laidByText := true, laidKinds := [.data, .data, .widerDeep, .widerDeep, .data, .data, .data, .data, .data, .sentinel, .sentinel, .data, .data, .data, .data, .data, .pinned, .pinned], laidTests := true, laidLooks := .later }
def FnNanPredicatesAgreeCardSaid : Prop := Claim7.holds Tryz.pinned (.plain (OpenSpec.ofChange fnNanPredicatesAgreeSpec)) fnNanPredicatesAgreeCard

/-- THE SECOND FORM's CARD OF 'n001_50.FnIsnormalFloatMatchesMagnitudeModel'. -/
def fnIsnormalFloatMatchesMagnitudeModelUptoCard : Claim7 := { stood := { row := fnIsnormalFloatMatchesMagnitudeModelUptoRow, standIns := [], harness := (true, "8f39f10557d02d52b7fd1d2fea1163b690068093e112a17a245eaa8d23d4b846"), looks := true }, kinds := [], alts := [], laidByText := true, laidKinds := [.data, .data, .widerDeep, .widerDeep, .data, .data, .data, .data, .data, .sentinel, .sentinel, .data, .data, .data, .data, .data, .pinned, .pinned], laidTests := true, laidLooks := .later }
def FnIsnormalFloatMatchesMagnitudeModelUptoCardSaid : Prop := Claim7.holds Tryz.pinned (.plain (OpenSpec.upto fnIsnormalFloatMatchesMagnitudeModelSpec)) fnIsnormalFloatMatchesMagnitudeModelUptoCard

/-- THE SECOND FORM's CARD OF 'n001_50.FnIsnormalIntIsExactlyNonzero'. -/
def fnIsnormalIntIsExactlyNonzeroUptoCard : Claim7 := { stood := { row := fnIsnormalIntIsExactlyNonzeroUptoRow, standIns := [], harness := (true, "8f39f10557d02d52b7fd1d2fea1163b690068093e112a17a245eaa8d23d4b846"), looks := true }, kinds := [], alts := [], laidByText := true, laidKinds := [.data, .data, .widerDeep, .widerDeep, .data, .data, .data, .data, .data, .sentinel, .sentinel, .data, .data, .data, .data, .data, .pinned, .pinned], laidTests := true, laidLooks := .later }
def FnIsnormalIntIsExactlyNonzeroUptoCardSaid : Prop := Claim7.holds Tryz.pinned (.plain (OpenSpec.upto fnIsnormalIntIsExactlyNonzeroSpec)) fnIsnormalIntIsExactlyNonzeroUptoCard

/-- THE SECOND FORM's CARD OF 'n001_33.FnIsinfiniteSignAndMagnitude'. -/
def fnIsinfiniteSignAndMagnitudeUptoCard : Claim7 := { stood := { row := fnIsinfiniteSignAndMagnitudeUptoRow, standIns := [], harness := (true, "8f39f10557d02d52b7fd1d2fea1163b690068093e112a17a245eaa8d23d4b846"), looks := true }, kinds := [], alts := [], laidByText := true, laidKinds := [.data, .data, .widerDeep, .widerDeep, .data, .data, .data, .data, .data, .sentinel, .sentinel, .data, .data, .data, .data, .data, .pinned, .pinned], laidTests := true, laidLooks := .later }
def FnIsinfiniteSignAndMagnitudeUptoCardSaid : Prop := Claim7.holds Tryz.pinned (.plain (OpenSpec.upto fnIsinfiniteSignAndMagnitudeSpec)) fnIsinfiniteSignAndMagnitudeUptoCard

/-- THE SECOND FORM's CARD OF 'n001_50.FnIsnormalRefusesNonNumbers'. -/
def fnIsnormalRefusesNonNumbersUptoCard : Claim7 := { stood := { row := fnIsnormalRefusesNonNumbersUptoRow, standIns := [], harness := (true, "8f39f10557d02d52b7fd1d2fea1163b690068093e112a17a245eaa8d23d4b846"), looks := true }, kinds := [], alts := [], laidByText := true, laidKinds := [.data, .data, .widerDeep, .widerDeep, .data, .data, .data, .data, .data, .sentinel, .sentinel, .data, .data, .data, .data, .data, .pinned, .pinned], laidTests := true, laidLooks := .later }
def FnIsnormalRefusesNonNumbersUptoCardSaid : Prop := Claim7.holds Tryz.pinned (.plain (OpenSpec.upto fnIsnormalRefusesNonNumbersSpec)) fnIsnormalRefusesNonNumbersUptoCard

/-- THE SECOND FORM's CARD OF 'n001_33.FnIsinfiniteCaseTable'. -/
def fnIsinfiniteCaseTableUptoCard : Claim7 := { stood := { row := fnIsinfiniteCaseTableUptoRow, standIns := [], harness := (true, "8f39f10557d02d52b7fd1d2fea1163b690068093e112a17a245eaa8d23d4b846"), looks := true }, kinds := [], alts := [], laidByText := true, laidKinds := [.data, .data, .widerDeep, .widerDeep, .data, .data, .data, .data, .data, .sentinel, .sentinel, .data, .data, .data, .data, .data, .pinned, .pinned], laidTests := true, laidLooks := .later }
def FnIsinfiniteCaseTableUptoCardSaid : Prop := Claim7.holds Tryz.pinned (.plain (OpenSpec.upto fnIsinfiniteCaseTableSpec)) fnIsinfiniteCaseTableUptoCard

/-- THE SECOND FORM's CARD OF 'n001_33.FnIsfiniteCaseTable'. -/
def fnIsfiniteCaseTableUptoCard : Claim7 := { stood := { row := fnIsfiniteCaseTableUptoRow, standIns := [], harness := (true, "8f39f10557d02d52b7fd1d2fea1163b690068093e112a17a245eaa8d23d4b846"), looks := true }, kinds := [], alts := [], laidByText := true, laidKinds := [.data, .data, .widerDeep, .widerDeep, .data, .data, .data, .data, .data, .sentinel, .sentinel, .data, .data, .data, .data, .data, .pinned, .pinned], laidTests := true, laidLooks := .later }
def FnIsfiniteCaseTableUptoCardSaid : Prop := Claim7.holds Tryz.pinned (.plain (OpenSpec.upto fnIsfiniteCaseTableSpec)) fnIsfiniteCaseTableUptoCard

/-- THE SECOND FORM's CARD OF 'n001_33.FnIsnanCaseTable'. -/
def fnIsnanCaseTableUptoCard : Claim7 := { stood := { row := fnIsnanCaseTableUptoRow, standIns := [], harness := (true, "8f39f10557d02d52b7fd1d2fea1163b690068093e112a17a245eaa8d23d4b846"), looks := true }, kinds := [], alts := [], laidByText := true, laidKinds := [.data, .data, .widerDeep, .widerDeep, .data, .data, .data, .data, .data, .sentinel, .sentinel, .data, .data, .data, .data, .data, .pinned, .pinned], laidTests := true, laidLooks := .later }
def FnIsnanCaseTableUptoCardSaid : Prop := Claim7.holds Tryz.pinned (.plain (OpenSpec.upto fnIsnanCaseTableSpec)) fnIsnanCaseTableUptoCard

/-- THE SECOND FORM's CARD OF 'n001_33.FnIsfiniteIsinfiniteComplement'. -/
def fnIsfiniteIsinfiniteComplementUptoCard : Claim7 := { stood := { row := fnIsfiniteIsinfiniteComplementUptoRow, standIns := [], harness := (true, "8f39f10557d02d52b7fd1d2fea1163b690068093e112a17a245eaa8d23d4b846"), looks := true }, kinds := [], alts := [], laidByText := true, laidKinds := [.data, .data, .widerDeep, .widerDeep, .data, .data, .data, .data, .data, .sentinel, .sentinel, .data, .data, .data, .data, .data, .pinned, .pinned], laidTests := true, laidLooks := .later }
def FnIsfiniteIsinfiniteComplementUptoCardSaid : Prop := Claim7.holds Tryz.pinned (.plain (OpenSpec.upto fnIsfiniteIsinfiniteComplementSpec)) fnIsfiniteIsinfiniteComplementUptoCard

/-- THE SECOND FORM's CARD OF 'n001_33.FnFloatClassPartition'. -/
def fnFloatClassPartitionUptoCard : Claim7 := { stood := { row := fnFloatClassPartitionUptoRow, standIns := [], harness := (true, "8f39f10557d02d52b7fd1d2fea1163b690068093e112a17a245eaa8d23d4b846"), looks := true }, kinds := [], alts := [], laidByText := true, laidKinds := [.data, .data, .widerDeep, .widerDeep, .data, .data, .data, .data, .data, .sentinel, .sentinel, .data, .data, .data, .data, .data, .pinned, .pinned], laidTests := true, laidLooks := .later }
def FnFloatClassPartitionUptoCardSaid : Prop := Claim7.holds Tryz.pinned (.plain (OpenSpec.upto fnFloatClassPartitionSpec)) fnFloatClassPartitionUptoCard

/-- THE SECOND FORM's CARD OF 'n001_33.FnNanPredicatesAgree'. -/
def fnNanPredicatesAgreeUptoCard : Claim7 := { stood := { row := fnNanPredicatesAgreeUptoRow, standIns := [], harness := (true, "8f39f10557d02d52b7fd1d2fea1163b690068093e112a17a245eaa8d23d4b846"), looks := true }, kinds := [], alts := [], laidByText := true, laidKinds := [.data, .data, .widerDeep, .widerDeep, .data, .data, .data, .data, .data, .sentinel, .sentinel, .data, .data, .data, .data, .data, .pinned, .pinned], laidTests := true, laidLooks := .later }
def FnNanPredicatesAgreeUptoCardSaid : Prop := Claim7.holds Tryz.pinned (.plain (OpenSpec.upto fnNanPredicatesAgreeSpec)) fnNanPredicatesAgreeUptoCard
end Rows
end Go.Proofs.YtcidgldfccjkbaaGreatDoor
