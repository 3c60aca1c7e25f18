/- The shelf's contracts laid at this seat's program, in plain words (printed by the kit's lay-plain.mjs). -/
import Derived.Shelf.Bits.Mul64
import Derived.Test.YtlbaoghebjaliaaDoorChecked
namespace Go.Proofs
open Go.Shelf
def Tryd.lays212_ren : Go.Shelf.Ren := ⟨fun | 212 => 96 | 263 => 108 | 264 => 109 | n => n, fun | 46 => 106 | 51 => 115 | 146 => 117 | 53 => 119 | 148 => 120 | n => n, fun | n => n⟩
theorem Tryd.lays212 : Go.Proofs.Lays.n212 Tryd.prog Tryd.lays212_ren := {
  mixed := by kernel_rfl
  f212 := Tryd.func96.trans (congrArg some (by kernel_rfl))
  f263 := Tryd.func108.trans (congrArg some (by kernel_rfl))
  f264 := Tryd.func109.trans (congrArg some (by kernel_rfl))
  t46 := Tryd.underlying106
  a46 := Tryd.isAgg106
  z46 := Tryd.sizeOf106
  v46 := Tryd.zeroValue106
  t51 := Tryd.underlying115
  a51 := Tryd.isAgg115
  z51 := Tryd.sizeOf115
  v51 := Tryd.zeroValue115
  t53 := Tryd.underlying119
  a53 := Tryd.isAgg119
  z53 := Tryd.sizeOf119
  v53 := Tryd.zeroValue119
  t146 := Tryd.underlying117
  a146 := Tryd.isAgg117
  z146 := Tryd.sizeOf117
  v146 := Tryd.zeroValue117
  t148 := Tryd.underlying120
  a148 := Tryd.isAgg120
  z148 := Tryd.sizeOf120
  v148 := Tryd.zeroValue120 }
end Go.Proofs
