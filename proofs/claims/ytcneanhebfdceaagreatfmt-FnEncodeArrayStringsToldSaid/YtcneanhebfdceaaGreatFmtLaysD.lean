/- Layings of the shelf's library closures at this dump, by names (what lay-shelf.mjs leaves out here). -/
import Derived.Shelf.Strings.BuilderK
import Derived.Test.YtcneanhebfdceaaGreatFmtProg
namespace Go.Proofs
open Go.Shelf
def Tryz.laysB197_ren : Go.Shelf.Ren := ⟨fun | 197 => 35 | 260 => 60 | n => n, fun | 0 => 0 | 3 => 3 | 4 => 4 | 5 => 5 | 9 => 9 | 21 => 21 | 46 => 66 | 105 => 82 | 119 => 120 | 138 => 122 | 139 => 123 | n => n, fun | 3 => 0 | 4 => 1 | n => n⟩
theorem Tryz.laysB197 : Go.Proofs.Lays.n197 Tryz.prog Tryz.laysB197_ren := {
  mixed := by kernel_rfl
  f197 := Tryz.func35.trans (congrArg some (by kernel_rfl))
  f260 := Tryz.func60.trans (congrArg some (by kernel_rfl))
  t0 := Tryz.underlying0
  a0 := Tryz.isAgg0
  z0 := Tryz.sizeOf0
  v0 := Tryz.zeroValue0
  t3 := Tryz.underlying3
  a3 := Tryz.isAgg3
  z3 := Tryz.sizeOf3
  v3 := Tryz.zeroValue3
  t4 := Tryz.underlying4
  a4 := Tryz.isAgg4
  z4 := Tryz.sizeOf4
  v4 := Tryz.zeroValue4
  t5 := Tryz.underlying5
  a5 := Tryz.isAgg5
  z5 := Tryz.sizeOf5
  v5 := Tryz.zeroValue5
  t9 := Tryz.underlying9
  a9 := Tryz.isAgg9
  z9 := Tryz.sizeOf9
  v9 := Tryz.zeroValue9
  t21 := Tryz.underlying21
  a21 := Tryz.isAgg21
  z21 := Tryz.sizeOf21
  v21 := Tryz.zeroValue21
  t46 := Tryz.underlying66
  a46 := Tryz.isAgg66
  z46 := Tryz.sizeOf66
  v46 := Tryz.zeroValue66
  t105 := Tryz.underlying82
  a105 := Tryz.isAgg82
  z105 := Tryz.sizeOf82
  v105 := Tryz.zeroValue82
  t119 := Tryz.underlying120
  a119 := Tryz.isAgg120
  z119 := Tryz.sizeOf120
  t138 := Tryz.underlying122
  a138 := Tryz.isAgg122
  z138 := Tryz.sizeOf122
  v138 := Tryz.zeroValue122
  t139 := Tryz.underlying123
  a139 := Tryz.isAgg123
  z139 := Tryz.sizeOf123
  v139 := Tryz.zeroValue123
  g3 := by kernel_rfl
  g4 := by kernel_rfl }
end Go.Proofs
