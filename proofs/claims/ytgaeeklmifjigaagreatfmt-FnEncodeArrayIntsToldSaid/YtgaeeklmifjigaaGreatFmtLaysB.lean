/- Layings of the shelf's library closures at this dump, by names (what lay-shelf.mjs leaves out here). -/
import Derived.Shelf.Strings.BuilderK
import Derived.Test.YtgaeeklmifjigaaGreatFmtProg
namespace Go.Proofs
open Go.Shelf
def Tryz.laysB166_ren : Go.Shelf.Ren := ⟨fun | 166 => 275 | 240 => 276 | 276 => 277 | n => n, fun | 0 => 0 | 3 => 3 | 4 => 4 | 5 => 5 | 9 => 9 | 20 => 20 | 37 => 25 | 70 => 38 | 72 => 40 | 75 => 53 | 80 => 30 | 164 => 105 | n => n, fun | n => n⟩
theorem Tryz.laysB166 : Go.Proofs.Lays.n166 Tryz.prog Tryz.laysB166_ren := {
  mixed := by kernel_rfl
  f166 := Tryz.func275.trans (congrArg some (by kernel_rfl))
  f240 := Tryz.func276.trans (congrArg some (by kernel_rfl))
  f276 := Tryz.func277.trans (congrArg some (by kernel_rfl))
  t0 := Tryz.underlying0
  a0 := Tryz.isAgg0
  z0 := Tryz.sizeOf0
  v0 := Tryz.zeroValue0
  t3 := Tryz.underlying3
  a3 := Tryz.isAgg3
  z3 := Tryz.sizeOf3
  v3 := Tryz.zeroValue3
  t4 := Tryz.underlying4
  a4 := Tryz.isAgg4
  z4 := Tryz.sizeOf4
  v4 := Tryz.zeroValue4
  t9 := Tryz.underlying9
  a9 := Tryz.isAgg9
  z9 := Tryz.sizeOf9
  v9 := Tryz.zeroValue9
  t20 := Tryz.underlying20
  a20 := Tryz.isAgg20
  z20 := Tryz.sizeOf20
  v20 := Tryz.zeroValue20
  t37 := Tryz.underlying25
  a37 := Tryz.isAgg25
  z37 := Tryz.sizeOf25
  v37 := Tryz.zeroValue25
  t70 := Tryz.underlying38
  a70 := Tryz.isAgg38
  z70 := Tryz.sizeOf38
  v70 := Tryz.zeroValue38
  t72 := Tryz.underlying40
  a72 := Tryz.isAgg40
  z72 := Tryz.sizeOf40
  v72 := Tryz.zeroValue40
  t75 := Tryz.underlying53
  a75 := Tryz.isAgg53
  z75 := Tryz.sizeOf53
  v75 := Tryz.zeroValue53
  t164 := Tryz.underlying105
  a164 := Tryz.isAgg105
  z164 := Tryz.sizeOf105
  v164 := Tryz.zeroValue105 }
theorem Tryz.extraB166 : Builder.Extra Tryz.prog Tryz.laysB166_ren := {
  sizeBuilder := by kernel_rfl
  liesBuilder := by kernel_rfl
  t5 := Tryz.underlying5
  a5 := Tryz.isAgg5
  z5 := Tryz.sizeOf5
  v5 := Tryz.zeroValue5
  infoByte := by kernel_rfl
  cellsByte := by kernel_rfl
  sizeByte := by kernel_rfl
  neB5 := by decide }
end Go.Proofs
