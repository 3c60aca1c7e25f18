/- The shelf's contracts laid at this seat's program, in plain words (printed by the kit's lay-plain.mjs). -/
import Derived.Shelf.Spec.DecodeLastRune
import Derived.Shelf.Utf8.AppendRunePlain
import Derived.Test.YtiahholgpbjjfaaDoorChecked
namespace Go.Proofs
open Go.Shelf
def Tryd.lays242_ren : Go.Shelf.Ren := ⟨fun | 242 => 29 | 278 => 37 | n => n, fun | 37 => 25 | 21 => 21 | 51 => 66 | 4 => 4 | 5 => 5 | 46 => 57 | n => n, fun | n => n⟩
theorem Tryd.lays242 : Go.Proofs.Lays.n242 Tryd.prog Tryd.lays242_ren := {
  mixed := by kernel_rfl
  f242 := Tryd.func29.trans (congrArg some (by kernel_rfl))
  f278 := Tryd.func37.trans (congrArg some (by kernel_rfl))
  t4 := Tryd.underlying4
  a4 := Tryd.isAgg4
  z4 := Tryd.sizeOf4
  v4 := Tryd.zeroValue4
  t5 := Tryd.underlying5
  a5 := Tryd.isAgg5
  z5 := Tryd.sizeOf5
  v5 := Tryd.zeroValue5
  t21 := Tryd.underlying21
  a21 := Tryd.isAgg21
  z21 := Tryd.sizeOf21
  v21 := Tryd.zeroValue21
  t37 := Tryd.underlying25
  a37 := Tryd.isAgg25
  z37 := Tryd.sizeOf25
  v37 := Tryd.zeroValue25
  t46 := Tryd.underlying57
  a46 := Tryd.isAgg57
  z46 := Tryd.sizeOf57
  v46 := Tryd.zeroValue57
  t51 := Tryd.underlying66
  a51 := Tryd.isAgg66
  z51 := Tryd.sizeOf66
  v51 := Tryd.zeroValue66 }
def Tryd.lays32_ren : Go.Shelf.Ren := ⟨fun | 32 => 26 | 49 => 32 | n => n, fun | 30 => 25 | 21 => 21 | 3 => 3 | 0 => 0 | 5 => 5 | 4 => 4 | 33 => 45 | 66 => 67 | 25 => 57 | 69 => 70 | 68 => 69 | n => n, fun | 2 => 4 | 3 => 5 | n => n⟩
theorem Tryd.lays32 : Go.Proofs.Lays7.n32 Tryd.prog Tryd.lays32_ren := {
  mixed := by kernel_rfl
  f32 := Tryd.func26.trans (congrArg some (by kernel_rfl))
  f49 := Tryd.func32.trans (congrArg some (by kernel_rfl))
  t0 := Tryd.underlying0
  a0 := Tryd.isAgg0
  z0 := Tryd.sizeOf0
  v0 := Tryd.zeroValue0
  i0 := by kernel_rfl
  t3 := Tryd.underlying3
  a3 := Tryd.isAgg3
  z3 := Tryd.sizeOf3
  v3 := Tryd.zeroValue3
  i3 := by kernel_rfl
  t4 := Tryd.underlying4
  a4 := Tryd.isAgg4
  z4 := Tryd.sizeOf4
  v4 := Tryd.zeroValue4
  i4 := by kernel_rfl
  t5 := Tryd.underlying5
  a5 := Tryd.isAgg5
  z5 := Tryd.sizeOf5
  v5 := Tryd.zeroValue5
  i5 := by kernel_rfl
  t21 := Tryd.underlying21
  a21 := Tryd.isAgg21
  z21 := Tryd.sizeOf21
  v21 := Tryd.zeroValue21
  i21 := by kernel_rfl
  t25 := Tryd.underlying57
  a25 := Tryd.isAgg57
  z25 := Tryd.sizeOf57
  v25 := Tryd.zeroValue57
  i25 := by kernel_rfl
  t30 := Tryd.underlying25
  a30 := Tryd.isAgg25
  z30 := Tryd.sizeOf25
  v30 := Tryd.zeroValue25
  i30 := by kernel_rfl
  t33 := Tryd.underlying45
  a33 := Tryd.isAgg45
  z33 := Tryd.sizeOf45
  v33 := Tryd.zeroValue45
  i33 := by kernel_rfl
  t66 := Tryd.underlying67
  a66 := Tryd.isAgg67
  z66 := Tryd.sizeOf67
  t68 := Tryd.underlying69
  a68 := Tryd.isAgg69
  z68 := Tryd.sizeOf69
  v68 := Tryd.zeroValue69
  i68 := by kernel_rfl
  t69 := Tryd.underlying70
  a69 := Tryd.isAgg70
  z69 := Tryd.sizeOf70
  v69 := Tryd.zeroValue70
  i69 := by kernel_rfl
  g2 := by kernel_rfl
  g3 := by kernel_rfl }
end Go.Proofs
