/- The shelf's contracts laid at this seat's program, in plain words (printed by the kit's lay-plain.mjs). -/
import Derived.Shelf.Bytes.SlJoin
import Derived.Test.YthbfdajbajijeaaDoorChecked
namespace Go.Proofs
open Go.Shelf
def Tryd.lays14_ren : Go.Shelf.Ren := ⟨fun | 14 => 49 | 15 => 66 | n => n, fun | 26 => 33 | 22 => 27 | 3 => 3 | 4 => 4 | 0 => 0 | 9 => 9 | 20 => 20 | 5 => 5 | n => n, fun | n => n⟩
theorem Tryd.lays14 : Go.Proofs.SlLaysJ.n14 Tryd.prog Tryd.lays14_ren := {
  mixed := by kernel_rfl
  f14 := Tryd.func49.trans (congrArg some (by kernel_rfl))
  f15 := Tryd.func66.trans (congrArg some (by kernel_rfl))
  t0 := Tryd.underlying0
  a0 := Tryd.isAgg0
  z0 := Tryd.sizeOf0
  v0 := Tryd.zeroValue0
  t3 := Tryd.underlying3
  a3 := Tryd.isAgg3
  z3 := Tryd.sizeOf3
  v3 := Tryd.zeroValue3
  t4 := Tryd.underlying4
  a4 := Tryd.isAgg4
  z4 := Tryd.sizeOf4
  v4 := Tryd.zeroValue4
  t9 := Tryd.underlying9
  a9 := Tryd.isAgg9
  z9 := Tryd.sizeOf9
  v9 := Tryd.zeroValue9
  t20 := Tryd.underlying20
  a20 := Tryd.isAgg20
  z20 := Tryd.sizeOf20
  v20 := Tryd.zeroValue20
  t22 := Tryd.underlying27
  a22 := Tryd.isAgg27
  z22 := Tryd.sizeOf27
  v22 := Tryd.zeroValue27
  t26 := Tryd.underlying33
  a26 := Tryd.isAgg33
  z26 := Tryd.sizeOf33
  v26 := Tryd.zeroValue33
  t5 := Tryd.underlying5
  z5 := Tryd.sizeOf5
  i5 := by kernel_rfl }
end Go.Proofs
