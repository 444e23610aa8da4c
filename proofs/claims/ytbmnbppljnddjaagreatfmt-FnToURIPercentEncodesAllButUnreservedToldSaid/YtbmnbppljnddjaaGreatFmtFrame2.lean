/- The witness world of the rows that list the error variables, too. -/
import Derived.Test.YtbmnbppljnddjaaGreatFmtFrame
namespace Go.Proofs.YtbmnbppljnddjaaGreatFmt
open Go.ChangeShapes Go.WideShapes Go.ChangeAt Go.RowKit
noncomputable def seatLaid2 : List (String × DataW Unit) := Rows.fnToURIPercentEncodesAllButUnreservedRow.laid
noncomputable def seatWorld2 (os : Os) : World := World.laidAll Tryz.prog os seatLaid2
theorem seat_met2 (os : Os) (args : Array Value) : laidMetH Tryz.prog seatLaid2 ((seatWorld2 os).forCall (fun _ _ => 0) ⟨#[], args, []⟩).memory := by
  rw [MakeChecks.laidMetH_plain _ _ _ (by kernel_rfl)]
  exact laidMet_laidAll _ (by kernel_rfl) (by kernel_rfl)
theorem seat_shaped2 (os : Os) (args : Array Value) : ((seatWorld2 os).forCall (fun _ _ => 0) ⟨#[], args, []⟩).Shaped Tryz.prog :=
  World.shaped_of_ZipB (by kernel_rfl) (by kernel_rfl)
theorem seat_os2 (os : Os) : (seatWorld2 os).os = os := World.laidAll_os _ _ _
end Go.Proofs.YtbmnbppljnddjaaGreatFmt
