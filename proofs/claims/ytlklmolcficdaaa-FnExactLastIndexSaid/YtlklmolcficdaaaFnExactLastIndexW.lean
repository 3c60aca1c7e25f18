/- The walk of the law FnExactLastIndex: it returns true for every input. -/
import Derived.Test.YtlklmolcficdaaaLastIx
namespace Go.Proofs.Ytlklmolcficdaaa
open Go.RowKit

set_option maxRecDepth 100000 in
theorem FnExactLastIndex_walk (w : World) (v00 : Value) (l0 : List UInt8) (b00 : Bs w v00 l0) (v10 : Value) (l1 : List UInt8) (b10 : Bs w v10 l1) :
    Calls Try.prog 8 #[v00, v10] w fun e w' => e = .returned (.bool true) ∧ Below w.heap.size w w' := by
  have len0 := b00.len
  obtain ⟨a0, c0, rfl, _, _⟩ := b00.shape
  have len1 := b10.len
  obtain ⟨a1, c1, rfl, _, _⟩ := b10.shape
  by_cases big0 : 1048576 < l0.length
  · go_enter Try.func8, Try.ntmps8
    go_wp2_with fail
    go_ret
    exact ⟨rfl, Below.refl _ _⟩
  by_cases big1 : 1048576 < l1.length
  · go_enter Try.func8, Try.ntmps8
    go_wp2_with fail
    go_ret
    exact ⟨rfl, Below.refl _ _⟩
  have sm0 : l0.length ≤ 281474976710656 := by omega
  have sm1 : l1.length ≤ 281474976710656 := by omega
  go_enter Try.func8, Try.ntmps8
  go_wp2_with (go_at_call 26; refine (laws_toByteS _ _ _ b00 sm0).mono ?_)
  rintro _ w1 ⟨v1, rfl, o1, x1⟩
  replace b00 := b00.ext x1
  replace b10 := b10.ext x1
  have X := x1
  have p0 := o1.bs
  clear o1 x1
  go_wp2_with (go_at_call 26; refine (laws_toByteS _ _ _ b10 sm1).mono ?_)
  rintro _ w2 ⟨v2, rfl, o2, x2⟩
  replace b00 := b00.ext x2
  replace b10 := b10.ext x2
  replace p0 := p0.ext x2
  replace X := X.trans x2
  have p1 := o2.bs
  clear o2 x2
  go_wp2_with (go_at_call 25; refine (spec_LastIndex _ _ _ _ _ p0 p1 (by omega) (by omega)).mono ?_)
  rintro _ w3 ⟨rfl, x3⟩
  replace b00 := b00.ext x3
  replace b10 := b10.ext x3
  replace p0 := p0.ext x3
  replace p1 := p1.ext x3
  replace X := X.trans x3
  clear x3
  go_wp2_with (go_at_call 26; refine (laws_toByteS _ _ _ b00 sm0).mono ?_)
  rintro _ w4 ⟨v4, rfl, o4, x4⟩
  replace b00 := b00.ext x4
  replace b10 := b10.ext x4
  replace p0 := p0.ext x4
  replace p1 := p1.ext x4
  replace X := X.trans x4
  have q0 := o4.bs
  clear o4 x4
  go_wp2_with (go_at_call 26; refine (laws_toByteS _ _ _ b10 sm1).mono ?_)
  rintro _ w5 ⟨v5, rfl, o5, x5⟩
  replace b00 := b00.ext x5
  replace b10 := b10.ext x5
  replace p0 := p0.ext x5
  replace p1 := p1.ext x5
  replace q0 := q0.ext x5
  replace X := X.trans x5
  have q1 := o5.bs
  clear o5 x5
  go_wp2_with (go_at_call 27; refine (impl_LastIndex _ _ _ _ _ q0 q1 (by omega)).mono ?_)
  rintro _ w6 ⟨rfl, x6⟩
  replace b00 := b00.ext x6
  replace b10 := b10.ext x6
  replace p0 := p0.ext x6
  replace p1 := p1.ext x6
  replace q0 := q0.ext x6
  replace q1 := q1.ext x6
  replace X := X.trans x6
  clear x6
  go_wp2_with (go_at_call 26; refine (laws_toByteS _ _ _ b00 sm0).mono ?_)
  rintro _ w7 ⟨v7, rfl, o7, x7⟩
  replace b00 := b00.ext x7
  replace b10 := b10.ext x7
  replace p0 := p0.ext x7
  replace p1 := p1.ext x7
  replace q0 := q0.ext x7
  replace q1 := q1.ext x7
  replace X := X.trans x7
  have r0 := o7.bs
  clear o7 x7
  go_wp2_with (go_at_call 28; refine (laws_eqByteS_same _ _ _ _ q0 r0).mono ?_)
  rintro _ w8 ⟨rfl, x8⟩
  replace b00 := b00.ext x8
  replace b10 := b10.ext x8
  replace p0 := p0.ext x8
  replace p1 := p1.ext x8
  replace q0 := q0.ext x8
  replace q1 := q1.ext x8
  replace r0 := r0.ext x8
  replace X := X.trans x8
  clear x8
  go_wp2_with (go_at_call 26; refine (laws_toByteS _ _ _ b10 sm1).mono ?_)
  rintro _ w9 ⟨v9, rfl, o9, x9⟩
  replace b00 := b00.ext x9
  replace b10 := b10.ext x9
  replace p0 := p0.ext x9
  replace p1 := p1.ext x9
  replace q0 := q0.ext x9
  replace q1 := q1.ext x9
  replace r0 := r0.ext x9
  replace X := X.trans x9
  have r1 := o9.bs
  clear o9 x9
  go_wp2_with (go_at_call 28; refine (laws_eqByteS_same _ _ _ _ q1 r1).mono ?_)
  rintro _ w10 ⟨rfl, x10⟩
  replace b00 := b00.ext x10
  replace b10 := b10.ext x10
  replace p0 := p0.ext x10
  replace p1 := p1.ext x10
  replace q0 := q0.ext x10
  replace q1 := q1.ext x10
  replace r0 := r0.ext x10
  replace r1 := r1.ext x10
  replace X := X.trans x10
  clear x10
  go_wp2_with fail
  go_ret
  exact ⟨rfl, X.below⟩
end Go.Proofs.Ytlklmolcficdaaa
