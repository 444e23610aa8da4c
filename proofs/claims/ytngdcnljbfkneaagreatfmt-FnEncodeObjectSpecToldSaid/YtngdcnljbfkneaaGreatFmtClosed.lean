/- Closed facts of this program that every row of the seat asks, each reckoned once by the kernel. -/
import Derived.Test.YtngdcnljbfkneaaGreatFmtClosedM
namespace Go.Proofs.YtngdcnljbfkneaaGreatFmt
theorem band {a b : Bool} (ha : a = true) (hb : b = true) : (a && b) = true := by rw [ha, hb]; rfl
theorem pf_mapsRowed : mapsRowed Tryz.prog = true := by kernel_rfl
theorem pf_stops : Tryz.pinned.checked.prog.stops = ["fmt.Sprintf, its operands' methods called"] := by kernel_rfl
theorem pf_stopKnobs : Tryz.pinned.checked.prog.stopKnobs = [] := by kernel_rfl
theorem pf_quiet (os : Os) : Stop.quiet Tryz.pinned.checked.prog os := by
  intro k hk
  rw [pf_stopKnobs] at hk
  cases hk
theorem pf_envWorded : Tryz.pinned.checked.prog.envWorded = true := by kernel_rfl
theorem pf_plainKeys : Rows.fnEncodeObjectOrderFreeRow.plainKeys = Tryz.prog.plainKeys := by kernel_rfl
theorem pf_stopsHeard : Tryz.prog.stopsHeard = true := by kernel_rfl
theorem pf_lifted : Rows.fnEncodeObjectOrderFreeRow.lifted = Tryz.prog.liftsFinal := by kernel_rfl
theorem pf_make : Tryz.prog.make = some Rows.fnEncodeObjectOrderFreeRow.make := by kernel_rfl
theorem pf_looks : true = Tryz.pinned.checked.prog.looks [] := by kernel_rfl
end Go.Proofs.YtngdcnljbfkneaaGreatFmt
