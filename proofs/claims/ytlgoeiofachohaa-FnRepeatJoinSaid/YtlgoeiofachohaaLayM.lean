/- The shelf's contracts laid at this seat's program, in plain words (printed by the kit's lay-plain.mjs). -/
import Derived.Shelf.Bits.Mul64
import Derived.Test.YtlgoeiofachohaaChecked
namespace Go.Proofs
open Go.Shelf
def Try.lays212_ren : Go.Shelf.Ren := ⟨fun | 212 => 52 | 263 => 55 | 264 => 56 | n => n, fun | 46 => 56 | 51 => 60 | 146 => 61 | 53 => 63 | 148 => 64 | n => n, fun | n => n⟩
theorem Try.lays212 : Go.Proofs.Lays.n212 Try.prog Try.lays212_ren := {
  mixed := by kernel_rfl
  f212 := Try.func52.trans (congrArg some (by kernel_rfl))
  f263 := Try.func55.trans (congrArg some (by kernel_rfl))
  f264 := Try.func56.trans (congrArg some (by kernel_rfl))
  t46 := Try.underlying56
  a46 := Try.isAgg56
  z46 := Try.sizeOf56
  v46 := Try.zeroValue56
  t51 := Try.underlying60
  a51 := Try.isAgg60
  z51 := Try.sizeOf60
  v51 := Try.zeroValue60
  t53 := Try.underlying63
  a53 := Try.isAgg63
  z53 := Try.sizeOf63
  v53 := Try.zeroValue63
  t146 := Try.underlying61
  a146 := Try.isAgg61
  z146 := Try.sizeOf61
  v146 := Try.zeroValue61
  t148 := Try.underlying64
  a148 := Try.isAgg64
  z148 := Try.sizeOf64
  v148 := Try.zeroValue64 }
end Go.Proofs
