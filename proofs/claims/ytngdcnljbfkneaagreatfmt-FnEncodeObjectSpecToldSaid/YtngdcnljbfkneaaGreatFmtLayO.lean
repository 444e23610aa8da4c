/- What the rows' listed tables give a walk: internal/strconv.uint64pow10. -/
import Derived.Test.YtngdcnljbfkneaaGreatFmtLayS
import Derived.LaidSub
import Derived.Lib.LaidTab
import Derived.Lib.ItoaMem
namespace Go.Proofs.YtngdcnljbfkneaaGreatFmt
open Go.RowKit
theorem laid_only : seatLaid.filter (fun x => x.1 == "internal/strconv.uint64pow10") = [("internal/strconv.uint64pow10", Lib.tabData .u64 Lib.pow10Tab)] := by kernel_rfl
theorem tab_pow10 {W : World} (hL : laidMetH Tryz.prog seatLaid W) : Lib.TabIs Tryz.prog W "internal/strconv.uint64pow10" .u64 Lib.pow10Tab := by
  have h := hL.filter (fun x => x.1 == "internal/strconv.uint64pow10")
  rw [laid_only, MakeChecks.laidMetH_plain _ _ _ (by kernel_rfl)] at h
  exact Lib.tabIs_of_head (t := 160) (e := 49) (n := 20) (g := 4) (by kernel_rfl) (by kernel_rfl) Tryz.underlying160 Tryz.underlying49 (by kernel_rfl) (by kernel_rfl) h
end Go.Proofs.YtngdcnljbfkneaaGreatFmt
