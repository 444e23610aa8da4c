/- What the row of @uri lists gives the walk: net/url's table. -/
import Derived.Test.YtbmnbppljnddjaaGreatFmtFrame2
import Derived.Test.YtbmnbppljnddjaaGreatFmtUriA
import Derived.LaidSub
import Derived.Lib.LaidTab
namespace Go.Proofs.YtbmnbppljnddjaaGreatFmt
open Go.RowKit
theorem laid_only2 : seatLaid2.filter (fun x => x.1 == "net/url.table") = [("net/url.table", Lib.tabData .u8 urlTab)] := by kernel_rfl
theorem tab_url {W : World} (hL : laidMetH Tryz.prog seatLaid2 W) : Lib.TabIs Tryz.prog W "net/url.table" .u8 urlTab := by
  have h := hL.filter (fun x => x.1 == "net/url.table")
  rw [laid_only2, MakeChecks.laidMetH_plain _ _ _ (by kernel_rfl)] at h
  exact Lib.tabIs_of_head (t := 84) (e := 55) (n := 256) (g := 0) (by kernel_rfl) (by kernel_rfl) Tryz.underlying84 Tryz.underlying55 (by kernel_rfl) (by kernel_rfl) h
end Go.Proofs.YtbmnbppljnddjaaGreatFmt
