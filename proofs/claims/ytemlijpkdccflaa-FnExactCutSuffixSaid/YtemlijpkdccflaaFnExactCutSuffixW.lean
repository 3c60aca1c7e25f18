/- The walk of the law FnExactCutSuffix: it returns true for every input. -/
import Derived.Test.YtemlijpkdccflaaWrapA
namespace Go.Proofs.Ytemlijpkdccflaa
open Go.RowKit

set_option maxRecDepth 100000 in
set_option maxHeartbeats 1000000 in
theorem FnExactCutSuffix_walk (w : World) (v00 : Value) (l0 : List UInt8) (h0 : Bs w v00 l0) (v10 : Value) (l1 : List UInt8) (h1 : Bs w v10 l1) :
    Calls Try.prog 14 #[v00, v10] w fun e w' => e = .returned (.bool true) ∧ Below w.heap.size w w' := by
  have len0 := h0.len
  have len1 := h1.len
  have b0 := h0.isIn
  have b1 := h1.isIn
  obtain ⟨a0, c0, rfl, _, _⟩ := h0.shape
  obtain ⟨a1, c1, rfl, _, _⟩ := h1.shape
  clear h0 h1
  by_cases big0 : 1048576 < l0.length
  · go_enter Try.func14, Try.ntmps14
    go_wp2_with fail
    go_ret
    exact ⟨rfl, Below.refl _ _⟩
  by_cases big1 : 1048576 < l1.length
  · go_enter Try.func14, Try.ntmps14
    go_wp2_with fail
    go_ret
    exact ⟨rfl, Below.refl _ _⟩
  have sm0 : l0.length ≤ 1048576 := by omega
  have sm1 : l1.length ≤ 1048576 := by omega
  have rl : (cutSuf l0 l1).length ≤ 1048576 := Nat.le_trans (cutSuf_len _ _) sm0
  have d1 : decide ((1 : Int) + (l0.length : Int) + (l1.length : Int) < 0) = false := by simp; omega
  have d2 : decide ((1 : Int) + ((cutSuf l0 l1).length : Int) < 0) = false := by simp; omega
  clear big0 big1
  go_enter Try.func14, Try.ntmps14
  have X := Below.refl w.heap.size w
  have s0 : w.heap.size ≤ w.heap.size := Nat.le_refl _
  go_wp2_with (go_at_call 17; refine (laws_toByteS _ _ _ b0.bs (by omega)).mono ?_)
  rintro _ w1 ⟨v1, rfl, p0, x1⟩
  replace b0 := b0.ext x1
  replace b1 := b1.ext x1
  replace X := below_ext X x1 s0
  have t1 := x1.size
  have s1 : w.heap.size ≤ w1.heap.size := Nat.le_trans s0 t1
  clear x1
  go_wp2_with (go_at_call 17; refine (laws_toByteS _ _ _ b1.bs (by omega)).mono ?_)
  rintro _ w2 ⟨v2, rfl, p1, x2⟩
  replace b0 := b0.ext x2
  replace b1 := b1.ext x2
  replace p0 := p0.ext x2
  replace X := below_ext X x2 s1
  have t2 := x2.size
  have s2 : w.heap.size ≤ w2.heap.size := Nat.le_trans s1 t2
  clear x2
  go_wp2_with (go_at_call 37; refine (spec_CutSuffix _ _ _ _ _ p0.bs p1.bs).mono ?_)
  rintro _ w3 ⟨v3, rfl, r, x3⟩
  replace b0 := b0.ext x3
  replace b1 := b1.ext x3
  replace p0 := p0.ext x3
  replace p1 := p1.ext x3
  replace X := below_ext X x3 s2
  have t3 := x3.size
  have s3 : w.heap.size ≤ w3.heap.size := Nat.le_trans s2 t3
  clear x3
  go_wp2_with (go_at_call 17; refine (laws_toByteS _ _ _ b0.bs (by omega)).mono ?_)
  rintro _ w4 ⟨v4, rfl, q0, x4⟩
  replace b0 := b0.ext x4
  replace b1 := b1.ext x4
  replace p0 := p0.ext x4
  replace p1 := p1.ext x4
  replace r := r.ext x4
  replace X := below_ext X x4 s3
  have t4 := x4.size
  have s4 : w.heap.size ≤ w4.heap.size := Nat.le_trans s3 t4
  clear x4
  go_wp2_with (go_at_call 17; refine (laws_toByteS _ _ _ b1.bs (by omega)).mono ?_)
  rintro _ w5 ⟨v5, rfl, q1, x5⟩
  replace b0 := b0.ext x5
  replace b1 := b1.ext x5
  replace p0 := p0.ext x5
  replace p1 := p1.ext x5
  replace r := r.ext x5
  replace q0 := q0.ext x5
  replace X := below_ext X x5 s4
  have t5 := x5.size
  have s5 : w.heap.size ≤ w5.heap.size := Nat.le_trans s4 t5
  clear x5
  go_wp2_with (go_at_call 38; refine (impl_CutSuffix _ _ _ _ _ q0.bs q1.bs (by omega)).mono ?_)
  rintro _ w6 ⟨v6, rfl, g, x6⟩
  replace b0 := b0.ext x6
  replace b1 := b1.ext x6
  replace p0 := p0.ext x6
  replace p1 := p1.ext x6
  replace r := r.ext x6
  replace q0 := q0.ext x6
  replace q1 := q1.ext x6
  replace X := below_ext X x6 s5
  have t6 := x6.size
  have s6 : w.heap.size ≤ w6.heap.size := Nat.le_trans s5 t6
  clear x6
  go_wp2_with (go_at_call 18; refine (laws_eqByteS_same _ _ _ _ g.bs r.bs).mono ?_)
  rintro _ w7 ⟨rfl, x7⟩
  replace b0 := b0.ext x7
  replace b1 := b1.ext x7
  replace p0 := p0.ext x7
  replace p1 := p1.ext x7
  replace r := r.ext x7
  replace q0 := q0.ext x7
  replace q1 := q1.ext x7
  replace g := g.ext x7
  replace X := below_ext X x7 s6
  have t7 := x7.size
  have s7 : w.heap.size ≤ w7.heap.size := Nat.le_trans s6 t7
  clear x7
  go_wp2_with (go_at_call 17; refine (laws_toByteS _ _ _ b0.bs (by omega)).mono ?_)
  rintro _ w8 ⟨v8, rfl, z0, x8⟩
  replace b0 := b0.ext x8
  replace b1 := b1.ext x8
  replace p0 := p0.ext x8
  replace p1 := p1.ext x8
  replace r := r.ext x8
  replace q0 := q0.ext x8
  replace q1 := q1.ext x8
  replace g := g.ext x8
  replace X := below_ext X x8 s7
  have t8 := x8.size
  have s8 : w.heap.size ≤ w8.heap.size := Nat.le_trans s7 t8
  clear x8
  go_wp2_with (go_at_call 18; refine (laws_eqByteS_same _ _ _ _ q0.bs z0.bs).mono ?_)
  rintro _ w9 ⟨rfl, x9⟩
  replace b0 := b0.ext x9
  replace b1 := b1.ext x9
  replace p0 := p0.ext x9
  replace p1 := p1.ext x9
  replace r := r.ext x9
  replace q0 := q0.ext x9
  replace q1 := q1.ext x9
  replace g := g.ext x9
  replace z0 := z0.ext x9
  replace X := below_ext X x9 s8
  have t9 := x9.size
  have s9 : w.heap.size ≤ w9.heap.size := Nat.le_trans s8 t9
  clear x9
  go_wp2_with (go_at_call 17; refine (laws_toByteS _ _ _ b1.bs (by omega)).mono ?_)
  rintro _ w10 ⟨v10, rfl, z1, x10⟩
  replace b0 := b0.ext x10
  replace b1 := b1.ext x10
  replace p0 := p0.ext x10
  replace p1 := p1.ext x10
  replace r := r.ext x10
  replace q0 := q0.ext x10
  replace q1 := q1.ext x10
  replace g := g.ext x10
  replace z0 := z0.ext x10
  replace X := below_ext X x10 s9
  have t10 := x10.size
  have s10 : w.heap.size ≤ w10.heap.size := Nat.le_trans s9 t10
  clear x10
  go_wp2_with (go_at_call 18; refine (laws_eqByteS_same _ _ _ _ q1.bs z1.bs).mono ?_)
  rintro _ w11 ⟨rfl, x11⟩
  replace b0 := b0.ext x11
  replace b1 := b1.ext x11
  replace p0 := p0.ext x11
  replace p1 := p1.ext x11
  replace r := r.ext x11
  replace q0 := q0.ext x11
  replace q1 := q1.ext x11
  replace g := g.ext x11
  replace z0 := z0.ext x11
  replace z1 := z1.ext x11
  replace X := below_ext X x11 s10
  have t11 := x11.size
  have s11 : w.heap.size ≤ w11.heap.size := Nat.le_trans s10 t11
  clear x11
  go_wp2_with (go_at_call 31; refine (laws_markByteS _ _ _ 1 _ _ _ q0 rfl (by omega)).mono ?_)
  rintro _ w12 ⟨rfl, m12, x12⟩
  replace b0 := b0.fr x12 (by omega)
  replace b1 := b1.fr x12 (by omega)
  replace p0 := p0.fr x12 (by omega)
  replace p1 := p1.fr x12 (by omega)
  replace r := r.fr x12 (by omega)
  replace q1 := q1.fr x12 (by omega)
  replace g := g.fr x12 (by omega)
  replace z0 := z0.fr x12 (by omega)
  replace z1 := z1.fr x12 (by omega)
  replace X := below_fr X x12 (.inl (by omega)) s11
  have t12 := x12.size
  have s12 : w.heap.size ≤ w12.heap.size := Nat.le_trans s11 t12
  clear q0 x12
  go_wp2_with (go_at_call 31; refine (laws_markByteS _ _ _ (1 + l0.length) _ _ _ q1 (by omega) (by omega)).mono ?_)
  rintro _ w13 ⟨rfl, m13, x13⟩
  replace b0 := b0.fr x13 (by omega)
  replace b1 := b1.fr x13 (by omega)
  replace p0 := p0.fr x13 (by omega)
  replace p1 := p1.fr x13 (by omega)
  replace r := r.fr x13 (by omega)
  replace m12 := m12.fr x13 (by omega)
  replace g := g.fr x13 (by omega)
  replace z0 := z0.fr x13 (by omega)
  replace z1 := z1.fr x13 (by omega)
  replace X := below_fr X x13 (.inl (by omega)) s12
  have t13 := x13.size
  have s13 : w.heap.size ≤ w13.heap.size := Nat.le_trans s12 t13
  clear q1 x13
  go_wp2_with (go_at_call 18; refine (laws_eqByteS_same _ _ _ _ g.bs r.bs).mono ?_)
  rintro _ w14 ⟨rfl, x14⟩
  replace b0 := b0.ext x14
  replace b1 := b1.ext x14
  replace p0 := p0.ext x14
  replace p1 := p1.ext x14
  replace r := r.ext x14
  replace m12 := m12.ext x14
  replace m13 := m13.ext x14
  replace g := g.ext x14
  replace z0 := z0.ext x14
  replace z1 := z1.ext x14
  replace X := below_ext X x14 s13
  have t14 := x14.size
  have s14 : w.heap.size ≤ w14.heap.size := Nat.le_trans s13 t14
  clear x14
  go_wp2_with (go_at_call 31; refine (laws_markByteS _ _ _ 1 _ _ _ g rfl (by omega)).mono ?_)
  rintro _ w15 ⟨rfl, m15, x15⟩
  replace b0 := b0.fr x15 (by omega)
  replace b1 := b1.fr x15 (by omega)
  replace p0 := p0.fr x15 (by omega)
  replace p1 := p1.fr x15 (by omega)
  replace r := r.fr x15 (by omega)
  replace m12 := m12.fr x15 (by omega)
  replace m13 := m13.fr x15 (by omega)
  replace z0 := z0.fr x15 (by omega)
  replace z1 := z1.fr x15 (by omega)
  replace X := below_fr X x15 (.inl (by omega)) s14
  have t15 := x15.size
  have s15 : w.heap.size ≤ w15.heap.size := Nat.le_trans s14 t15
  clear g x15
  go_wp2_with (go_at_call 32; refine (laws_heldByteS _ _ 1 _ _ m15.bs rfl (by omega)).mono ?_)
  rintro _ w16 ⟨rfl, x16⟩
  replace b0 := b0.ext x16
  replace b1 := b1.ext x16
  replace p0 := p0.ext x16
  replace p1 := p1.ext x16
  replace r := r.ext x16
  replace m12 := m12.ext x16
  replace m13 := m13.ext x16
  replace m15 := m15.ext x16
  replace z0 := z0.ext x16
  replace z1 := z1.ext x16
  replace X := below_ext X x16 s15
  have t16 := x16.size
  have s16 : w.heap.size ≤ w16.heap.size := Nat.le_trans s15 t16
  clear x16
  go_wp2_with (go_at_call 17; refine (laws_toByteS _ _ _ b0.bs (by omega)).mono ?_)
  rintro _ w17 ⟨v17, rfl, y0, x17⟩
  replace b0 := b0.ext x17
  replace b1 := b1.ext x17
  replace p0 := p0.ext x17
  replace p1 := p1.ext x17
  replace r := r.ext x17
  replace m12 := m12.ext x17
  replace m13 := m13.ext x17
  replace m15 := m15.ext x17
  replace z0 := z0.ext x17
  replace z1 := z1.ext x17
  replace X := below_ext X x17 s16
  have t17 := x17.size
  have s17 : w.heap.size ≤ w17.heap.size := Nat.le_trans s16 t17
  clear x17
  go_wp2_with (go_at_call 17; refine (laws_toByteS _ _ _ b1.bs (by omega)).mono ?_)
  rintro _ w18 ⟨v18, rfl, y1, x18⟩
  replace b0 := b0.ext x18
  replace b1 := b1.ext x18
  replace p0 := p0.ext x18
  replace p1 := p1.ext x18
  replace r := r.ext x18
  replace m12 := m12.ext x18
  replace m13 := m13.ext x18
  replace m15 := m15.ext x18
  replace z0 := z0.ext x18
  replace z1 := z1.ext x18
  replace y0 := y0.ext x18
  replace X := below_ext X x18 s17
  have t18 := x18.size
  have s18 : w.heap.size ≤ w18.heap.size := Nat.le_trans s17 t18
  clear x18
  go_wp2_with (go_at_call 38; refine (impl_CutSuffix _ _ _ _ _ y0.bs y1.bs (by omega)).mono ?_)
  rintro _ w19 ⟨v19, rfl, h, x19⟩
  replace b0 := b0.ext x19
  replace b1 := b1.ext x19
  replace p0 := p0.ext x19
  replace p1 := p1.ext x19
  replace r := r.ext x19
  replace m12 := m12.ext x19
  replace m13 := m13.ext x19
  replace m15 := m15.ext x19
  replace z0 := z0.ext x19
  replace z1 := z1.ext x19
  replace y0 := y0.ext x19
  replace y1 := y1.ext x19
  replace X := below_ext X x19 s18
  have t19 := x19.size
  have s19 : w.heap.size ≤ w19.heap.size := Nat.le_trans s18 t19
  clear x19
  go_wp2_with (go_at_call 18; refine (laws_eqByteS_same _ _ _ _ h.bs r.bs).mono ?_)
  rintro _ w20 ⟨rfl, x20⟩
  replace b0 := b0.ext x20
  replace b1 := b1.ext x20
  replace p0 := p0.ext x20
  replace p1 := p1.ext x20
  replace r := r.ext x20
  replace m12 := m12.ext x20
  replace m13 := m13.ext x20
  replace m15 := m15.ext x20
  replace z0 := z0.ext x20
  replace z1 := z1.ext x20
  replace y0 := y0.ext x20
  replace y1 := y1.ext x20
  replace h := h.ext x20
  replace X := below_ext X x20 s19
  have t20 := x20.size
  have s20 : w.heap.size ≤ w20.heap.size := Nat.le_trans s19 t20
  clear x20
  go_wp2_with (go_at_call 32; refine (laws_heldByteS _ _ 1 _ _ m15.bs rfl (by omega)).mono ?_)
  rintro _ w21 ⟨rfl, x21⟩
  replace b0 := b0.ext x21
  replace b1 := b1.ext x21
  replace p0 := p0.ext x21
  replace p1 := p1.ext x21
  replace r := r.ext x21
  replace m12 := m12.ext x21
  replace m13 := m13.ext x21
  replace m15 := m15.ext x21
  replace z0 := z0.ext x21
  replace z1 := z1.ext x21
  replace y0 := y0.ext x21
  replace y1 := y1.ext x21
  replace h := h.ext x21
  replace X := below_ext X x21 s20
  have t21 := x21.size
  have s21 : w.heap.size ≤ w21.heap.size := Nat.le_trans s20 t21
  clear x21
  go_wp2_with fail
  go_ret
  exact ⟨rfl, X⟩
end Go.Proofs.Ytemlijpkdccflaa
