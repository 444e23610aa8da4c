/- Layings of the shelf's library closures at this dump, by names (what lay-shelf.mjs leaves out here). -/
import Derived.Shelf.Strings.BuilderK
import Derived.Test.YtngdcnljbfkneaaGreatFmtProg
namespace Go.Proofs
open Go.Shelf
def Tryz.laysB197_ren : Go.Shelf.Ren := ⟨fun | 197 => 31 | 260 => 57 | n => n, fun | 0 => 0 | 3 => 3 | 4 => 4 | 5 => 5 | 9 => 9 | 21 => 21 | 46 => 62 | 105 => 78 | 119 => 118 | 138 => 120 | 139 => 121 | n => n, fun | 3 => 0 | 4 => 1 | n => n⟩
theorem Tryz.laysB197 : Go.Proofs.Lays.n197 Tryz.prog Tryz.laysB197_ren := {
  mixed := by kernel_rfl
  f197 := Tryz.func31.trans (congrArg some (by kernel_rfl))
  f260 := Tryz.func57.trans (congrArg some (by kernel_rfl))
  t0 := Tryz.underlying0
  a0 := Tryz.isAgg0
  z0 := Tryz.sizeOf0
  v0 := Tryz.zeroValue0
  t3 := Tryz.underlying3
  a3 := Tryz.isAgg3
  z3 := Tryz.sizeOf3
  v3 := Tryz.zeroValue3
  t4 := Tryz.underlying4
  a4 := Tryz.isAgg4
  z4 := Tryz.sizeOf4
  v4 := Tryz.zeroValue4
  t5 := Tryz.underlying5
  a5 := Tryz.isAgg5
  z5 := Tryz.sizeOf5
  v5 := Tryz.zeroValue5
  t9 := Tryz.underlying9
  a9 := Tryz.isAgg9
  z9 := Tryz.sizeOf9
  v9 := Tryz.zeroValue9
  t21 := Tryz.underlying21
  a21 := Tryz.isAgg21
  z21 := Tryz.sizeOf21
  v21 := Tryz.zeroValue21
  t46 := Tryz.underlying62
  a46 := Tryz.isAgg62
  z46 := Tryz.sizeOf62
  v46 := Tryz.zeroValue62
  t105 := Tryz.underlying78
  a105 := Tryz.isAgg78
  z105 := Tryz.sizeOf78
  v105 := Tryz.zeroValue78
  t119 := Tryz.underlying118
  a119 := Tryz.isAgg118
  z119 := Tryz.sizeOf118
  t138 := Tryz.underlying120
  a138 := Tryz.isAgg120
  z138 := Tryz.sizeOf120
  v138 := Tryz.zeroValue120
  t139 := Tryz.underlying121
  a139 := Tryz.isAgg121
  z139 := Tryz.sizeOf121
  v139 := Tryz.zeroValue121
  g3 := by kernel_rfl
  g4 := by kernel_rfl }
end Go.Proofs
