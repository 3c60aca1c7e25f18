/- The shelf's contracts laid at this seat's program, in plain words (printed by the kit's lay-plain.mjs). -/
import Derived.Lib.LaidCase
import Derived.Test.YtiahholgpbjjfaaDoorChecked
namespace Go.Proofs
open Go.Shelf
def Tryd.lays274_ren : Go.Shelf.Ren := ⟨fun | 274 => 33 | n => n, fun | 21 => 21 | 162 => 62 | 160 => 60 | 3 => 3 | 4 => 4 | 46 => 57 | 0 => 0 | 208 => 74 | 51 => 66 | 206 => 72 | n => n, fun | 13 => 2 | n => n⟩
theorem Tryd.lays274 : Go.Proofs.Lays.n274 Tryd.prog Tryd.lays274_ren := {
  mixed := by kernel_rfl
  f274 := Tryd.func33.trans (congrArg some (by kernel_rfl))
  t0 := Tryd.underlying0
  a0 := Tryd.isAgg0
  z0 := Tryd.sizeOf0
  v0 := Tryd.zeroValue0
  t3 := Tryd.underlying3
  a3 := Tryd.isAgg3
  z3 := Tryd.sizeOf3
  v3 := Tryd.zeroValue3
  t4 := Tryd.underlying4
  a4 := Tryd.isAgg4
  z4 := Tryd.sizeOf4
  v4 := Tryd.zeroValue4
  t21 := Tryd.underlying21
  a21 := Tryd.isAgg21
  z21 := Tryd.sizeOf21
  v21 := Tryd.zeroValue21
  t46 := Tryd.underlying57
  a46 := Tryd.isAgg57
  z46 := Tryd.sizeOf57
  v46 := Tryd.zeroValue57
  t51 := Tryd.underlying66
  a51 := Tryd.isAgg66
  z51 := Tryd.sizeOf66
  v51 := Tryd.zeroValue66
  t160 := Tryd.underlying60
  a160 := Tryd.isAgg60
  z160 := Tryd.sizeOf60
  v160 := Tryd.zeroValue60
  t162 := Tryd.underlying62
  a162 := Tryd.isAgg62
  z162 := Tryd.sizeOf62
  v162 := Tryd.zeroValue62
  t208 := Tryd.underlying74
  a208 := Tryd.isAgg74
  z208 := Tryd.sizeOf74
  v208 := Tryd.zeroValue74 }
def Tryd.lays275_ren : Go.Shelf.Ren := ⟨fun | 275 => 34 | n => n, fun | 3 => 3 | 21 => 21 | 160 => 60 | 0 => 0 | 208 => 74 | 206 => 72 | 4 => 4 | 51 => 66 | n => n, fun | n => n⟩
theorem Tryd.lays275 : Go.Proofs.Lays.n275 Tryd.prog Tryd.lays275_ren := {
  mixed := by kernel_rfl
  f275 := Tryd.func34.trans (congrArg some (by kernel_rfl))
  t0 := Tryd.underlying0
  a0 := Tryd.isAgg0
  z0 := Tryd.sizeOf0
  v0 := Tryd.zeroValue0
  t3 := Tryd.underlying3
  a3 := Tryd.isAgg3
  z3 := Tryd.sizeOf3
  v3 := Tryd.zeroValue3
  t4 := Tryd.underlying4
  a4 := Tryd.isAgg4
  z4 := Tryd.sizeOf4
  v4 := Tryd.zeroValue4
  t21 := Tryd.underlying21
  a21 := Tryd.isAgg21
  z21 := Tryd.sizeOf21
  v21 := Tryd.zeroValue21
  t51 := Tryd.underlying66
  a51 := Tryd.isAgg66
  z51 := Tryd.sizeOf66
  v51 := Tryd.zeroValue66
  t160 := Tryd.underlying60
  a160 := Tryd.isAgg60
  z160 := Tryd.sizeOf60
  v160 := Tryd.zeroValue60
  t206 := Tryd.underlying72
  a206 := Tryd.isAgg72
  z206 := Tryd.sizeOf72
  v206 := Tryd.zeroValue72
  t208 := Tryd.underlying74
  a208 := Tryd.isAgg74
  z208 := Tryd.sizeOf74
  v208 := Tryd.zeroValue74 }
end Go.Proofs
