/-
  DERIVED. GIVEN WITH THE SEED: THE CARDS: each row of YtonbnmpleecegabGreatDoorRows.lean that lists a variable, with what it lists TIED to the program's text (the seventh form; the later family's looks); each row that meets fmt, with fmt's text TOLD by the authors' own Lean function (tested against real Go, not proved from fmt's source: count such statements apart). THE CARD IS WHAT COUNTS. Prove the row's statement (the work); the ties are given (YtonbnmpleecegabGreatDoorTie.lean); close each card by the builder's one call (the guide's Derived/Test/ToyasCard.lean, 'card_holds'). Laid BY PROGRAM, IN A SANDBOX (cutbox-door.mjs). By AI agents, Wed Nov 11 2026. No macro, syntax, notation, axiom, sorry.
-/
import Derived.Test.YtonbnmpleecegabGreatDoorRows
import GoSem.ClaimSeven
namespace Go.Proofs.YtonbnmpleecegabGreatDoor
namespace Rows

/-- THE TIED CARD OF 'n001_55.FnAddConcatenatesArrays'. -/
def fnAddConcatenatesArraysCard : Claim7 := { stood := { row := fnAddConcatenatesArraysRow, standIns := [], harness := (true, "b2cd12f915b53b80b1e6fbb37d704fa79b37118c854a9de954a7b183e98a5f4d"), looks := true }, kinds := [], alts := [], laidByText := true, laidKinds := [.data, .data, .widerDeep, .widerDeep, .data, .data, .data, .data, .data, .sentinel, .sentinel, .sentinel, .sentinel, .sentinel, .data, .data, .data, .data, .data, .pinned, .pinned], laidTests := true, laidLooks := .later }
def FnAddConcatenatesArraysCardSaid : Prop := Claim7.holds Tryz.pinned (.plain (OpenSpec.ofChange fnAddConcatenatesArraysSpec)) fnAddConcatenatesArraysCard

/-- THE TIED CARD OF 'n001_55.FnAddConcatenatesTextsSkippingNulls'. -/
def fnAddConcatenatesTextsSkippingNullsCard : Claim7 := { stood := { row := fnAddConcatenatesTextsSkippingNullsRow, standIns := [], harness := (true, "b2cd12f915b53b80b1e6fbb37d704fa79b37118c854a9de954a7b183e98a5f4d"), looks := true }, kinds := [], alts := [], laidByText := true, laidKinds := [.data, .data, .widerDeep, .widerDeep, .data, .data, .data, .data, .data, .sentinel, .sentinel, .sentinel, .sentinel, .sentinel, .data, .data, .data, .data, .data, .pinned, .pinned], laidTests := true, laidLooks := .later }
def FnAddConcatenatesTextsSkippingNullsCardSaid : Prop := Claim7.holds Tryz.pinned (.plain (OpenSpec.ofChange fnAddConcatenatesTextsSkippingNullsSpec)) fnAddConcatenatesTextsSkippingNullsCard

/-- THE SECOND FORM's CARD OF 'n001_55.FnAddConcatenatesArrays'. -/
def fnAddConcatenatesArraysUptoCard : Claim7 := { stood := { row := fnAddConcatenatesArraysUptoRow, standIns := [], harness := (true, "b2cd12f915b53b80b1e6fbb37d704fa79b37118c854a9de954a7b183e98a5f4d"), looks := true }, kinds := [], alts := [], laidByText := true, laidKinds := [.data, .data, .widerDeep, .widerDeep, .data, .data, .data, .data, .data, .sentinel, .sentinel, .sentinel, .sentinel, .sentinel, .data, .data, .data, .data, .data, .pinned, .pinned], laidTests := true, laidLooks := .later }
def FnAddConcatenatesArraysUptoCardSaid : Prop := Claim7.holds Tryz.pinned (.plain (OpenSpec.upto fnAddConcatenatesArraysSpec)) fnAddConcatenatesArraysUptoCard

/-- THE SECOND FORM's CARD OF 'n001_55.FnAddConcatenatesTextsSkippingNulls'. -/
def fnAddConcatenatesTextsSkippingNullsUptoCard : Claim7 := { stood := { row := fnAddConcatenatesTextsSkippingNullsUptoRow, standIns := [], harness := (true, "b2cd12f915b53b80b1e6fbb37d704fa79b37118c854a9de954a7b183e98a5f4d"), looks := true }, kinds := [], alts := [], laidByText := true, laidKinds := [.data, .data, .widerDeep, .widerDeep, .data, .data, .data, .data, .data, .sentinel, .sentinel, .sentinel, .sentinel, .sentinel, .data, .data, .data, .data, .data, .pinned, .pinned], laidTests := true, laidLooks := .later }
def FnAddConcatenatesTextsSkippingNullsUptoCardSaid : Prop := Claim7.holds Tryz.pinned (.plain (OpenSpec.upto fnAddConcatenatesTextsSkippingNullsSpec)) fnAddConcatenatesTextsSkippingNullsUptoCard
end Rows
end Go.Proofs.YtonbnmpleecegabGreatDoor
