/- The walk of the law FnExactFieldsSeq: it returns true for every input. Printed by exact1.py. -/
import Derived.Test.YthbfdajbajijeaaDoorIterS
import Derived.Test.YthbfdajbajijeaaDoorWrapA
namespace Go.Proofs.YthbfdajbajijeaaDoor
open Go.RowKit

set_option maxRecDepth 100000 in
set_option maxHeartbeats 2000000 in
theorem FnExactFieldsSeq_walk (w : World) (hT : Tabs w) (hWh : White w) (v00 : Value) (l0 : List UInt8) (h0 : Bs w v00 l0) :
    Calls Tryd.prog 6 #[v00] w fun e w' => e = .returned (.bool true) ∧ Below w.heap.size w w' := by
  have len0 := h0.len
  obtain ⟨a0, c0, rfl, _, _⟩ := h0.shape
  by_cases big0 : 1048576 < l0.length
  · go_enter Tryd.func6, Tryd.ntmps6
    go_wp2_with fail
    go_ret
    exact ⟨rfl, Below.refl _ _⟩
  have sm0 : l0.length ≤ 1048576 := by omega
  have rl : (sizeL' (fieldsB wsP l0)) ≤ 1048576 := Nat.le_trans (fieldsB_size wsP l0) sm0
  have d1 : decide ((1 : Int) + (l0.length : Int) < 0) = false := by simp; omega
  have d2 : decide ((1 : Int) + ((sizeL' (fieldsB wsP l0)) : Int) < 0) = false := by simp; omega
  have HB := Lib.hid h0
  have HT := Lib.hid hT
  clear hT
  have HW := Lib.hid hWh
  clear hWh
  clear big0 h0
  go_enter Tryd.func6, Tryd.ntmps6
  have X := Below.refl w.heap.size w
  have s0 : w.heap.size ≤ w.heap.size := Nat.le_refl _
  have EX : Ext w w := Ext.refl _
  go_wp2_with (go_at_call 27; refine (laws_toByteS _ _ _ (HB.out.ext (⟨X⟩ : Ext w w)) (by omega)).mono ?_)
  rintro _ w1 ⟨v1, rfl, p0, x1⟩
  replace X := below_ext X x1 s0
  have t1 := x1.size
  have s1 : w.heap.size ≤ w1.heap.size := Nat.le_trans s0 t1
  clear x1
  go_wp2_with (go_at_call 26; refine (spec_FieldsSeq _ l0 _ (by omega) (p0.bs)).mono ?_)
  rintro _ w2 ⟨v2, rfl, r, x2⟩
  replace p0 := p0.ext x2
  replace X := below_ext X x2 s1
  have t2 := x2.size
  have s2 : w.heap.size ≤ w2.heap.size := Nat.le_trans s1 t2
  clear x2
  clear p0
  go_wp2_with (go_at_call 27; refine (laws_toByteS _ _ _ (HB.out.ext (⟨X⟩ : Ext w w2)) (by omega)).mono ?_)
  rintro _ w3 ⟨v3, rfl, q0, x3⟩
  replace r := r.ext x3
  replace X := below_ext X x3 s2
  have t3 := x3.size
  have s3 : w.heap.size ≤ w3.heap.size := Nat.le_trans s2 t3
  clear x3
  go_wp2_with (go_at_call 28; refine (impl_FieldsSeq _ l0 _ (q0.bs) ((HW.out.ext (⟨X⟩ : Ext w w3))) ((HT.out.ext (⟨X⟩ : Ext w w3))) (by omega)).mono ?_)
  rintro _ w4 ⟨v4, rfl, g, x4⟩
  replace r := r.ext x4
  replace q0 := q0.ext x4
  replace X := below_ext X x4 s3
  have t4 := x4.size
  have s4 : w.heap.size ≤ w4.heap.size := Nat.le_trans s3 t4
  clear x4
  go_wp2_with (go_at_call 29; refine (laws_eqByteSS_same _ _ _ _ g.bs r.bs).mono ?_)
  rintro _ w5 ⟨rfl, x5⟩
  replace r := r.ext x5
  replace q0 := q0.ext x5
  replace g := g.ext x5
  replace X := below_ext X x5 s4
  have t5 := x5.size
  have s5 : w.heap.size ≤ w5.heap.size := Nat.le_trans s4 t5
  clear x5
  go_wp2_with (go_at_call 27; refine (laws_toByteS _ _ _ (HB.out.ext (⟨X⟩ : Ext w w5)) (by omega)).mono ?_)
  rintro _ w6 ⟨v6, rfl, z0, x6⟩
  replace r := r.ext x6
  replace q0 := q0.ext x6
  replace g := g.ext x6
  replace X := below_ext X x6 s5
  have t6 := x6.size
  have s6 : w.heap.size ≤ w6.heap.size := Nat.le_trans s5 t6
  clear x6
  go_wp2_with (go_at_call 30; refine (laws_eqByteS_same _ _ _ _ q0.bs z0.bs).mono ?_)
  rintro _ w7 ⟨rfl, x7⟩
  replace r := r.ext x7
  replace q0 := q0.ext x7
  replace g := g.ext x7
  replace z0 := z0.ext x7
  replace X := below_ext X x7 s6
  have t7 := x7.size
  have s7 : w.heap.size ≤ w7.heap.size := Nat.le_trans s6 t7
  clear x7
  clear z0
  go_wp2_with (go_at_call 31; refine (laws_markByteS _ _ _ 1 _ _ _ q0 rfl (by omega)).mono ?_)
  rintro _ w8 ⟨rfl, m8, x8⟩
  replace r := r.fr x8 (by omega)
  replace g := g.fr x8 (by omega)
  replace X := below_fr X x8 (.inl (by omega)) s7
  have t8 := x8.size
  have s8 : w.heap.size ≤ w8.heap.size := Nat.le_trans s7 t8
  clear q0 x8
  go_wp2_with (go_at_call 29; refine (laws_eqByteSS_same _ _ _ _ g.bs r.bs).mono ?_)
  rintro _ w9 ⟨rfl, x9⟩
  replace r := r.ext x9
  replace m8 := m8.ext x9
  replace g := g.ext x9
  replace X := below_ext X x9 s8
  have t9 := x9.size
  have s9 : w.heap.size ≤ w9.heap.size := Nat.le_trans s8 t9
  clear x9
  go_wp2_with (go_at_call 32; refine (laws_markByteSS _ _ _ 1 _ _ _ g rfl (by omega)).mono ?_)
  rintro _ w10 ⟨rfl, m10, x10⟩
  replace r := r.fr x10 (by omega)
  replace m8 := m8.fr x10 (by omega)
  replace X := below_fr X x10 (.inl (by omega)) s9
  have t10 := x10.size
  have s10 : w.heap.size ≤ w10.heap.size := Nat.le_trans s9 t10
  clear g x10
  go_wp2_with (go_at_call 33; refine (laws_heldByteSS _ _ 1 _ _ m10.bs rfl (by omega)).mono ?_)
  rintro _ w11 ⟨rfl, x11⟩
  replace r := r.ext x11
  replace m8 := m8.ext x11
  replace m10 := m10.ext x11
  replace X := below_ext X x11 s10
  have t11 := x11.size
  have s11 : w.heap.size ≤ w11.heap.size := Nat.le_trans s10 t11
  clear x11
  go_wp2_with (go_at_call 27; refine (laws_toByteS _ _ _ (HB.out.ext (⟨X⟩ : Ext w w11)) (by omega)).mono ?_)
  rintro _ w12 ⟨v12, rfl, y0, x12⟩
  replace r := r.ext x12
  replace m8 := m8.ext x12
  replace m10 := m10.ext x12
  replace X := below_ext X x12 s11
  have t12 := x12.size
  have s12 : w.heap.size ≤ w12.heap.size := Nat.le_trans s11 t12
  clear x12
  go_wp2_with (go_at_call 28; refine (impl_FieldsSeq _ l0 _ (y0.bs) ((HW.out.ext (⟨X⟩ : Ext w w12))) ((HT.out.ext (⟨X⟩ : Ext w w12))) (by omega)).mono ?_)
  rintro _ w13 ⟨v13, rfl, h, x13⟩
  replace r := r.ext x13
  replace m8 := m8.ext x13
  replace m10 := m10.ext x13
  replace y0 := y0.ext x13
  replace X := below_ext X x13 s12
  have t13 := x13.size
  have s13 : w.heap.size ≤ w13.heap.size := Nat.le_trans s12 t13
  clear x13
  go_wp2_with (go_at_call 29; refine (laws_eqByteSS_same _ _ _ _ h.bs r.bs).mono ?_)
  rintro _ w14 ⟨rfl, x14⟩
  replace r := r.ext x14
  replace m8 := m8.ext x14
  replace m10 := m10.ext x14
  replace y0 := y0.ext x14
  replace h := h.ext x14
  replace X := below_ext X x14 s13
  have t14 := x14.size
  have s14 : w.heap.size ≤ w14.heap.size := Nat.le_trans s13 t14
  clear x14
  go_wp2_with (go_at_call 33; refine (laws_heldByteSS _ _ 1 _ _ m10.bs rfl (by omega)).mono ?_)
  rintro _ w15 ⟨rfl, x15⟩
  replace r := r.ext x15
  replace m8 := m8.ext x15
  replace m10 := m10.ext x15
  replace y0 := y0.ext x15
  replace h := h.ext x15
  replace X := below_ext X x15 s14
  have t15 := x15.size
  have s15 : w.heap.size ≤ w15.heap.size := Nat.le_trans s14 t15
  clear x15
  go_wp2_with fail
  go_ret
  exact ⟨rfl, X⟩
end Go.Proofs.YthbfdajbajijeaaDoor
