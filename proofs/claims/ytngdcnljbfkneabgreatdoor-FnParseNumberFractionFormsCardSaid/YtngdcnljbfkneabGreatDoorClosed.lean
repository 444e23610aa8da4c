/- Closed facts of this program that every row of the seat asks, each reckoned once by the kernel. -/
import Derived.Test.YtngdcnljbfkneabGreatDoorClosedM
namespace Go.Proofs.YtngdcnljbfkneabGreatDoor
theorem band {a b : Bool} (ha : a = true) (hb : b = true) : (a && b) = true := by rw [ha, hb]; rfl
theorem pf_mapsRowed : mapsRowed Tryz.prog = true := by kernel_rfl
theorem pf_stops : (Tryz.prog.stops == []) = true := by kernel_rfl
theorem pf_stopKnobs : (Tryz.prog.stopKnobs == []) = true := by kernel_rfl
theorem pf_plainKeys : (Rows.fnToNumberFractionalFormsOfAnIntegerRow.plainKeys == Tryz.prog.plainKeys) = true := by kernel_rfl
theorem pf_stopsHeard : Tryz.prog.stopsHeard = true := by kernel_rfl
theorem pf_lifted : (Rows.fnToNumberFractionalFormsOfAnIntegerRow.lifted == Tryz.prog.liftsFinal) = true := by kernel_rfl
theorem pf_make : (Tryz.prog.make == some Rows.fnToNumberFractionalFormsOfAnIntegerRow.make) = true := by kernel_rfl
theorem pf_looks : true = Tryz.pinned.checked.prog.looks [] := by kernel_rfl
end Go.Proofs.YtngdcnljbfkneabGreatDoor
