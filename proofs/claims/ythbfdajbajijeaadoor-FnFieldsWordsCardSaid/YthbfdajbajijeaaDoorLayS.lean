/- The shelf's contracts laid at this seat's program, in plain words (printed by the kit's lay-plain.mjs). -/
import Derived.Shelf.Unicode.IsSpaceAny
import Derived.Test.YthbfdajbajijeaaDoorChecked
namespace Go.Proofs
open Go.Shelf
def Tryd.lays199_ren : Go.Shelf.Ren := ⟨fun | 199 => 57 | 261 => 70 | 311 => 78 | 312 => 79 | n => n, fun | 21 => 21 | 4 => 4 | 51 => 69 | 141 => 71 | 0 => 0 | 196 => 83 | 193 => 80 | 3 => 3 | 198 => 86 | 49 => 84 | 194 => 81 | 201 => 89 | 226 => 97 | 46 => 91 | 227 => 98 | n => n, fun | 6 => 1 | n => n⟩
theorem Tryd.lays199 : Go.Proofs.Lays.n199 Tryd.prog Tryd.lays199_ren := {
  mixed := by kernel_rfl
  f199 := Tryd.func57.trans (congrArg some (by kernel_rfl))
  f261 := Tryd.func70.trans (congrArg some (by kernel_rfl))
  f311 := Tryd.func78.trans (congrArg some (by kernel_rfl))
  f312 := Tryd.func79.trans (congrArg some (by kernel_rfl))
  t0 := Tryd.underlying0
  a0 := Tryd.isAgg0
  z0 := Tryd.sizeOf0
  v0 := Tryd.zeroValue0
  t3 := Tryd.underlying3
  a3 := Tryd.isAgg3
  z3 := Tryd.sizeOf3
  v3 := Tryd.zeroValue3
  t4 := Tryd.underlying4
  a4 := Tryd.isAgg4
  z4 := Tryd.sizeOf4
  v4 := Tryd.zeroValue4
  t21 := Tryd.underlying21
  a21 := Tryd.isAgg21
  z21 := Tryd.sizeOf21
  v21 := Tryd.zeroValue21
  t46 := Tryd.underlying91
  a46 := Tryd.isAgg91
  z46 := Tryd.sizeOf91
  v46 := Tryd.zeroValue91
  t49 := Tryd.underlying84
  a49 := Tryd.isAgg84
  z49 := Tryd.sizeOf84
  v49 := Tryd.zeroValue84
  t51 := Tryd.underlying69
  a51 := Tryd.isAgg69
  z51 := Tryd.sizeOf69
  v51 := Tryd.zeroValue69
  t141 := Tryd.underlying71
  a141 := Tryd.isAgg71
  z141 := Tryd.sizeOf71
  v141 := Tryd.zeroValue71
  t193 := Tryd.underlying80
  a193 := Tryd.isAgg80
  z193 := Tryd.sizeOf80
  v193 := Tryd.zeroValue80
  t194 := Tryd.underlying81
  a194 := Tryd.isAgg81
  z194 := Tryd.sizeOf81
  v194 := Tryd.zeroValue81
  t196 := Tryd.underlying83
  a196 := Tryd.isAgg83
  z196 := Tryd.sizeOf83
  v196 := Tryd.zeroValue83
  t198 := Tryd.underlying86
  a198 := Tryd.isAgg86
  z198 := Tryd.sizeOf86
  v198 := Tryd.zeroValue86
  t201 := Tryd.underlying89
  a201 := Tryd.isAgg89
  z201 := Tryd.sizeOf89
  v201 := Tryd.zeroValue89
  t226 := Tryd.underlying97
  a226 := Tryd.isAgg97
  z226 := Tryd.sizeOf97
  v226 := Tryd.zeroValue97
  t227 := Tryd.underlying98
  a227 := Tryd.isAgg98
  z227 := Tryd.sizeOf98
  v227 := Tryd.zeroValue98
  g6 := by kernel_rfl }
end Go.Proofs
