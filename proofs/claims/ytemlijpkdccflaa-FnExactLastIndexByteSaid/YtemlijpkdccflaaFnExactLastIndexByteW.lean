/- The walk of the law FnExactLastIndexByte: it returns true for every input. -/
import Derived.Test.YtemlijpkdccflaaWrapA
namespace Go.Proofs.Ytemlijpkdccflaa
open Go.RowKit

set_option maxRecDepth 100000 in
theorem FnExactLastIndexByte_walk (w : World) (v00 : Value) (l0 : List UInt8) (b00 : Bs w v00 l0) (n1 : UInt8) :
    Calls Try.prog 10 #[v00, .int .u8 (n1.toNat : Int)] w fun e w' => e = .returned (.bool true) ∧ Below w.heap.size w w' := by
  have len0 := b00.len
  obtain ⟨a0, c0, rfl, _, _⟩ := b00.shape
  by_cases big0 : 1048576 < l0.length
  · go_enter Try.func10, Try.ntmps10
    go_wp2_with fail
    go_ret
    exact ⟨rfl, Below.refl _ _⟩
  have sm0 : l0.length ≤ 281474976710656 := by omega
  go_enter Try.func10, Try.ntmps10
  go_wp2_with (go_at_call 17; refine (laws_toByteS _ _ _ b00 sm0).mono ?_)
  rintro _ w1 ⟨v1, rfl, o1, x1⟩
  replace b00 := b00.ext x1
  have X := x1
  have p0 := o1.bs
  clear o1 x1
  go_wp2_with (go_at_call 27; refine (spec_LastIndexByte _ _ _ _ p0).mono ?_)
  rintro e w' ⟨rfl, rfl⟩
  go_wp2_with (go_at_call 17; refine (laws_toByteS _ _ _ b00 sm0).mono ?_)
  rintro _ w2 ⟨v2, rfl, o2, x2⟩
  replace b00 := b00.ext x2
  replace p0 := p0.ext x2
  replace X := X.trans x2
  have q0 := o2.bs
  clear o2 x2
  go_wp2_with (go_at_call 28; refine (impl_LastIndexByte _ _ _ _ q0).mono ?_)
  rintro e w' ⟨rfl, rfl⟩
  go_wp2_with (go_at_call 17; refine (laws_toByteS _ _ _ b00 sm0).mono ?_)
  rintro _ w3 ⟨v3, rfl, o3, x3⟩
  replace b00 := b00.ext x3
  replace p0 := p0.ext x3
  replace q0 := q0.ext x3
  replace X := X.trans x3
  have r0 := o3.bs
  clear o3 x3
  go_wp2_with (go_at_call 18; refine (laws_eqByteS_same _ _ _ _ q0 r0).mono ?_)
  rintro _ w4 ⟨rfl, x4⟩
  replace b00 := b00.ext x4
  replace p0 := p0.ext x4
  replace q0 := q0.ext x4
  replace r0 := r0.ext x4
  replace X := X.trans x4
  clear x4
  go_wp2_with fail
  go_ret
  exact ⟨rfl, X.below⟩
end Go.Proofs.Ytemlijpkdccflaa
