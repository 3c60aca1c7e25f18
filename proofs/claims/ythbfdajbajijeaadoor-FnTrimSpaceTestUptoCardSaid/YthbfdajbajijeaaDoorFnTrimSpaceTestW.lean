/- The walk of the law FnTrimSpaceTest: it returns true where the text has at most 2^20 bytes. Printed by testlaws.py. -/
import Derived.Test.YthbfdajbajijeaaDoorZE
import Derived.Test.YthbfdajbajijeaaDoorZC
import Derived.Test.YthbfdajbajijeaaDoorZA
import Derived.Deep.DeepCutAuto
namespace Go.Proofs.YthbfdajbajijeaaDoor
open Go.RowKit

set_option maxRecDepth 100000 in
set_option maxHeartbeats 8000000 in
theorem FnTrimSpaceTest_walk (w : World) (hT : Tabs w) (hWh : White w) (a0 : ByteArray) (z0 : a0.size ≤ 1048576) :
    Calls Tryd.prog 3 #[.string a0] w fun e w' => e = .returned (.bool true) ∧ Below w.heap.size w w' := by
  have hmax : a0.size ≤ maxLen := by unfold maxLen; omega
  have es : a0.data.toList.length = a0.size := rfl
  have k1 := fieldsB_len wsP a0.data.toList
  rw [es] at k1
  have hbl := blankR_len 12289
  have cB := fun W => laws_blanks W
  have HTF := Lib.hid (show tB (holdsT (blankR 12289) false) a0.data.toList = tB wsP a0.data.toList by rw [holds_blank'])
  have HLF := Lib.hid (show fieldsB (holdsT (blankR 12289) false) a0.data.toList = fieldsB wsP a0.data.toList by rw [holds_blank'])
  obtain ⟨rs, hrs⟩ : ∃ rs, blankR 12289 = rs := ⟨_, rfl⟩
  simp only [hrs] at hbl cB HTF HLF
  obtain ⟨L, hL⟩ : ∃ L, fieldsB wsP a0.data.toList = L := ⟨_, rfl⟩
  obtain ⟨T, hTT⟩ : ∃ T, tB wsP a0.data.toList = T := ⟨_, rfl⟩
  rw [hL] at k1 HLF
  rw [hTT] at HTF
  have HL := Lib.hid hL
  have HTT := Lib.hid hTT
  obtain ⟨E, hE⟩ : ∃ E, T.isEmpty = E := ⟨_, rfl⟩
  have HEE := Lib.hid hE
  have HBE := Lib.hid (show (E == E) = true by simp)
  have hT0 := hT
  have hW0 := hWh
  clear hrs hL hTT es hE hT hWh
  go_enter Tryd.func3, Tryd.ntmps3
  go_wp2_with (go_at_call 13; refine (cB _).mono ?_)
  rintro _ w1 ⟨v1, rfl, i1, X⟩
  go_wp2_with (go_at_call 12; refine (laws_test _ rs _ _ i1 (by omega)).mono ?_)
  rintro _ w2 ⟨v2, rfl, i2, x2⟩
  obtain ⟨a2, c2, rfl, _, _, _⟩ := i2.raw
  replace X := X.trans x2
  clear x2 i1
  go_upto_region 2 with fail
  obtain ⟨n, hn⟩ : ∃ n, w2.heap.size = n := ⟨_, rfl⟩
  have x5 : Ext w2 (w2.alloc (.cells #[.slice a2 rs.length c2, .bool false] 24)) := Ext.alloc _ _
  have f0 : (w2.alloc (.cells #[.slice a2 rs.length c2, .bool false] 24)).cell? ⟨n, 0, none⟩ = some (.slice a2 rs.length c2) := by rw [← hn, World.cell?_alloc_mark]; rfl
  have f1 : (w2.alloc (.cells #[.slice a2 rs.length c2, .bool false] 24)).cell? ⟨n, 1, none⟩ = some (.bool false) := by rw [← hn, World.cell?_alloc_mark]; rfl
  obtain ⟨w5, hw5⟩ : ∃ w5, w2.alloc (.cells #[.slice a2 rs.length c2, .bool false] 24) = w5 := ⟨_, rfl⟩
  rw [hw5] at x5 f0 f1 ⊢
  rw [hn]
  have i5 := i2.ext x5
  replace X := X.trans x5
  clear hn hw5 x5
  clear i2
  go_wp2_with (refine wpList_toBytes rfl 9 27 _ rfl 5 Tryd.underlying9 Tryd.underlying27 Tryd.underlying5 _ rfl hmax ?_)
  intro v6 w6 o6 x6
  replace X := X.trans x6
  replace f0 := x6.cell f0
  replace f1 := x6.cell f1
  replace i5 := i5.ext x6
  have c6 := impl_TrimSpace _ _ _ o6.bs (hW0.ext X) (hT0.ext X) (by show a0.size ≤ _; omega)
  rw [HTT.out] at c6
  clear x6 o6
  go_wp2_with (go_at_call 14; refine c6.mono ?_)
  rintro _ w7 ⟨v7, rfl, o7, x7⟩
  replace X := X.trans x7
  have HF0 := Lib.hid (x7.cell f0)
  have HF1 := Lib.hid (x7.cell f1)
  have HI := Lib.hid (i5.ext x7)
  have HT := Lib.hid (hT0.ext X)
  have HW := Lib.hid (hW0.ext X)
  have q7 := o7.bs
  clear x7 o7 c6 f0 f1 i5
  go_upto_region 3 with (refine wpList_toString rfl 27 9 _ rfl 5 Tryd.underlying27 Tryd.underlying5 Tryd.underlying9 _ _ rfl q7 ?_)
  clear q7
  go_cut [2] (fun s2 wx => s2 = .bool true ∧ Ext w7 wx)
  case first =>
    refine wp_region_mono (by kernel_rfl) [11, 12, 13, 14, 15, 16, 17, 18, 19, 20, 21, 22, 23, 24, 25, 26, 27, 28, 29, 30, 31, 32, 33, 34, 35, 36, 37, 38, 39, 2] (by kernel_rfl) (by decide) (by simp) (by kernel_rfl)
      (fun i => match i with | 0 => (fun v w => v = .string ⟨T.toArray⟩) | 1 => (fun v w => v = .string a0) | 2 => (fun v w => Bs w v a0.data.toList) | 3 => (fun v w => v = .agg #[.slice a2 rs.length c2, .bool false]) | 4 => (fun v w => Bs w v T) | 5 => (fun v w => v = .string ⟨T.toArray⟩) | 6 => (fun v w => v = .bool true) | 7 => (fun v w => v = .bool true) | 8 => (fun v w => v = .string a0) | 9 => (fun v w => Bs w v a0.data.toList) | 10 => (fun v w => Ls w v L) | 11 => (fun v w => Ss w v L) | 12 => (fun v w => v = .string a0) | 13 => (fun v w => Bs w v a0.data.toList) | 14 => (fun v w => v = .agg #[.slice a2 rs.length c2, .bool false]) | 15 => (fun v w => Ls w v L) | 16 => (fun v w => Ss w v L) | 17 => (fun v w => v = .bool true) | 18 => (fun v w => v = .bool true) | 19 => (fun v w => v = .bool true) | 20 => (fun v w => v = .string ⟨T.toArray⟩) | 21 => (fun v w => v = .bool E) | 22 => (fun v w => v = .string a0) | 23 => (fun v w => Bs w v a0.data.toList) | 24 => (fun v w => Bs w v T) | 25 => (fun v w => v = .string ⟨T.toArray⟩) | 26 => (fun v w => v = .bool E) | 27 => (fun v w => v = .bool true) | 28 => (fun v w => v = .bool true) | 29 => (fun v w => v = .bool true) | _ => fun _ _ => True) ?stable ?steps ?fin
    case stable =>
      intro i v w' w'' h x
      match i, h with
      | 0, h => exact h
      | 1, h => exact h
      | 2, h => exact (show Bs w' v a0.data.toList from h).ext x
      | 3, h => exact h
      | 4, h => exact (show Bs w' v T from h).ext x
      | 5, h => exact h
      | 6, h => exact h
      | 7, h => exact h
      | 8, h => exact h
      | 9, h => exact (show Bs w' v a0.data.toList from h).ext x
      | 10, h => exact (show Ls w' v L from h).ext x
      | 11, h => exact (show Ss w' v L from h).ext x
      | 12, h => exact h
      | 13, h => exact (show Bs w' v a0.data.toList from h).ext x
      | 14, h => exact h
      | 15, h => exact (show Ls w' v L from h).ext x
      | 16, h => exact (show Ss w' v L from h).ext x
      | 17, h => exact h
      | 18, h => exact h
      | 19, h => exact h
      | 20, h => exact h
      | 21, h => exact h
      | 22, h => exact h
      | 23, h => exact (show Bs w' v a0.data.toList from h).ext x
      | 24, h => exact (show Bs w' v T from h).ext x
      | 25, h => exact h
      | 26, h => exact h
      | 27, h => exact h
      | 28, h => exact h
      | 29, h => exact h
      | _ + 30, _ => trivial
    case steps =>
      refine AllSteps.cons (fun us hus w' x h => ?_) ?_
      · obtain ⟨u0, t0, e0, s0⟩ := len_cons hus; obtain ⟨u1, t1, e1, s1⟩ := len_cons s0; obtain ⟨u2, t2, e2, s2⟩ := len_cons s1; obtain ⟨u3, t3, e3, s3⟩ := len_cons s2; obtain ⟨u4, t4, e4, s4⟩ := len_cons s3; obtain ⟨u5, t5, e5, s5⟩ := len_cons s4; obtain ⟨u6, t6, e6, s6⟩ := len_cons s5; obtain ⟨u7, t7, e7, s7⟩ := len_cons s6; obtain ⟨u8, t8, e8, s8⟩ := len_cons s7; obtain ⟨u9, t9, e9, s9⟩ := len_cons s8; obtain ⟨u10, t10, e10, s10⟩ := len_cons s9; obtain ⟨u11, t11, e11, s11⟩ := len_cons s10; obtain ⟨u12, t12, e12, s12⟩ := len_cons s11; obtain ⟨u13, t13, e13, s13⟩ := len_cons s12; obtain ⟨u14, t14, e14, s14⟩ := len_cons s13; obtain ⟨u15, t15, e15, s15⟩ := len_cons s14; obtain ⟨u16, t16, e16, s16⟩ := len_cons s15; obtain ⟨u17, t17, e17, s17⟩ := len_cons s16; obtain ⟨u18, t18, e18, s18⟩ := len_cons s17; obtain ⟨u19, t19, e19, s19⟩ := len_cons s18; obtain ⟨u20, t20, e20, s20⟩ := len_cons s19; obtain ⟨u21, t21, e21, s21⟩ := len_cons s20; obtain ⟨u22, t22, e22, s22⟩ := len_cons s21; obtain ⟨u23, t23, e23, s23⟩ := len_cons s22; obtain ⟨u24, t24, e24, s24⟩ := len_cons s23; obtain ⟨u25, t25, e25, s25⟩ := len_cons s24; obtain ⟨u26, t26, e26, s26⟩ := len_cons s25; obtain ⟨u27, t27, e27, s27⟩ := len_cons s26; obtain ⟨u28, t28, e28, s28⟩ := len_cons s27; obtain ⟨u29, t29, e29, s29⟩ := len_cons s28
        obtain rfl := len_nil s29
        clear hus s0 s1 s2 s3 s4 s5 s6 s7 s8 s9 s10 s11 s12 s13 s14 s15 s16 s17 s18 s19 s20 s21 s22 s23 s24 s25 s26 s27 s28 s29
        subst e29 e28 e27 e26 e25 e24 e23 e22 e21 e20 e19 e18 e17 e16 e15 e14 e13 e12 e11 e10 e9 e8 e7 e6 e5 e4 e3 e2 e1 e0
        clear h
        simp only [over, Act.put, List.setIfInBounds_toArray, List.set_cons_zero, List.set_cons_succ]
        go_wp2_with fail
        exact postK_normal ⟨_, rfl, rfl, Ext.refl _⟩
      refine AllSteps.cons (fun us hus w' x h => ?_) ?_
      · obtain ⟨u0, t0, e0, s0⟩ := len_cons hus; obtain ⟨u1, t1, e1, s1⟩ := len_cons s0; obtain ⟨u2, t2, e2, s2⟩ := len_cons s1; obtain ⟨u3, t3, e3, s3⟩ := len_cons s2; obtain ⟨u4, t4, e4, s4⟩ := len_cons s3; obtain ⟨u5, t5, e5, s5⟩ := len_cons s4; obtain ⟨u6, t6, e6, s6⟩ := len_cons s5; obtain ⟨u7, t7, e7, s7⟩ := len_cons s6; obtain ⟨u8, t8, e8, s8⟩ := len_cons s7; obtain ⟨u9, t9, e9, s9⟩ := len_cons s8; obtain ⟨u10, t10, e10, s10⟩ := len_cons s9; obtain ⟨u11, t11, e11, s11⟩ := len_cons s10; obtain ⟨u12, t12, e12, s12⟩ := len_cons s11; obtain ⟨u13, t13, e13, s13⟩ := len_cons s12; obtain ⟨u14, t14, e14, s14⟩ := len_cons s13; obtain ⟨u15, t15, e15, s15⟩ := len_cons s14; obtain ⟨u16, t16, e16, s16⟩ := len_cons s15; obtain ⟨u17, t17, e17, s17⟩ := len_cons s16; obtain ⟨u18, t18, e18, s18⟩ := len_cons s17; obtain ⟨u19, t19, e19, s19⟩ := len_cons s18; obtain ⟨u20, t20, e20, s20⟩ := len_cons s19; obtain ⟨u21, t21, e21, s21⟩ := len_cons s20; obtain ⟨u22, t22, e22, s22⟩ := len_cons s21; obtain ⟨u23, t23, e23, s23⟩ := len_cons s22; obtain ⟨u24, t24, e24, s24⟩ := len_cons s23; obtain ⟨u25, t25, e25, s25⟩ := len_cons s24; obtain ⟨u26, t26, e26, s26⟩ := len_cons s25; obtain ⟨u27, t27, e27, s27⟩ := len_cons s26; obtain ⟨u28, t28, e28, s28⟩ := len_cons s27; obtain ⟨u29, t29, e29, s29⟩ := len_cons s28
        obtain rfl := len_nil s29
        clear hus s0 s1 s2 s3 s4 s5 s6 s7 s8 s9 s10 s11 s12 s13 s14 s15 s16 s17 s18 s19 s20 s21 s22 s23 s24 s25 s26 s27 s28 s29
        subst e29 e28 e27 e26 e25 e24 e23 e22 e21 e20 e19 e18 e17 e16 e15 e14 e13 e12 e11 e10 e9 e8 e7 e6 e5 e4 e3 e2 e1 e0
        clear h
        simp only [over, Act.put, List.setIfInBounds_toArray, List.set_cons_zero, List.set_cons_succ]
        go_wp2_with fail
        exact postK_normal ⟨_, rfl, rfl, Ext.refl _⟩
      refine AllSteps.cons (fun us hus w' x h => ?_) ?_
      · obtain ⟨u0, t0, e0, s0⟩ := len_cons hus; obtain ⟨u1, t1, e1, s1⟩ := len_cons s0; obtain ⟨u2, t2, e2, s2⟩ := len_cons s1; obtain ⟨u3, t3, e3, s3⟩ := len_cons s2; obtain ⟨u4, t4, e4, s4⟩ := len_cons s3; obtain ⟨u5, t5, e5, s5⟩ := len_cons s4; obtain ⟨u6, t6, e6, s6⟩ := len_cons s5; obtain ⟨u7, t7, e7, s7⟩ := len_cons s6; obtain ⟨u8, t8, e8, s8⟩ := len_cons s7; obtain ⟨u9, t9, e9, s9⟩ := len_cons s8; obtain ⟨u10, t10, e10, s10⟩ := len_cons s9; obtain ⟨u11, t11, e11, s11⟩ := len_cons s10; obtain ⟨u12, t12, e12, s12⟩ := len_cons s11; obtain ⟨u13, t13, e13, s13⟩ := len_cons s12; obtain ⟨u14, t14, e14, s14⟩ := len_cons s13; obtain ⟨u15, t15, e15, s15⟩ := len_cons s14; obtain ⟨u16, t16, e16, s16⟩ := len_cons s15; obtain ⟨u17, t17, e17, s17⟩ := len_cons s16; obtain ⟨u18, t18, e18, s18⟩ := len_cons s17; obtain ⟨u19, t19, e19, s19⟩ := len_cons s18; obtain ⟨u20, t20, e20, s20⟩ := len_cons s19; obtain ⟨u21, t21, e21, s21⟩ := len_cons s20; obtain ⟨u22, t22, e22, s22⟩ := len_cons s21; obtain ⟨u23, t23, e23, s23⟩ := len_cons s22; obtain ⟨u24, t24, e24, s24⟩ := len_cons s23; obtain ⟨u25, t25, e25, s25⟩ := len_cons s24; obtain ⟨u26, t26, e26, s26⟩ := len_cons s25; obtain ⟨u27, t27, e27, s27⟩ := len_cons s26; obtain ⟨u28, t28, e28, s28⟩ := len_cons s27; obtain ⟨u29, t29, e29, s29⟩ := len_cons s28
        obtain rfl := len_nil s29
        clear hus s0 s1 s2 s3 s4 s5 s6 s7 s8 s9 s10 s11 s12 s13 s14 s15 s16 s17 s18 s19 s20 s21 s22 s23 s24 s25 s26 s27 s28 s29
        subst e29 e28 e27 e26 e25 e24 e23 e22 e21 e20 e19 e18 e17 e16 e15 e14 e13 e12 e11 e10 e9 e8 e7 e6 e5 e4 e3 e2 e1 e0
        have h1 : u1 = .string a0 := h 1 (by kernel_rfl)
        clear h
        simp only [over, Act.put, List.setIfInBounds_toArray, List.set_cons_zero, List.set_cons_succ]
        subst h1
        go_wp2_with (refine wpList_toBytes rfl 9 27 _ rfl 5 Tryd.underlying9 Tryd.underlying27 Tryd.underlying5 _ rfl hmax ?_)
        intro v5 w5 o5 x5
        go_wp2_with fail
        exact postK_normal ⟨_, rfl, o5.bs, x5⟩
      refine AllSteps.cons (fun us hus w' x h => ?_) ?_
      · obtain ⟨u0, t0, e0, s0⟩ := len_cons hus; obtain ⟨u1, t1, e1, s1⟩ := len_cons s0; obtain ⟨u2, t2, e2, s2⟩ := len_cons s1; obtain ⟨u3, t3, e3, s3⟩ := len_cons s2; obtain ⟨u4, t4, e4, s4⟩ := len_cons s3; obtain ⟨u5, t5, e5, s5⟩ := len_cons s4; obtain ⟨u6, t6, e6, s6⟩ := len_cons s5; obtain ⟨u7, t7, e7, s7⟩ := len_cons s6; obtain ⟨u8, t8, e8, s8⟩ := len_cons s7; obtain ⟨u9, t9, e9, s9⟩ := len_cons s8; obtain ⟨u10, t10, e10, s10⟩ := len_cons s9; obtain ⟨u11, t11, e11, s11⟩ := len_cons s10; obtain ⟨u12, t12, e12, s12⟩ := len_cons s11; obtain ⟨u13, t13, e13, s13⟩ := len_cons s12; obtain ⟨u14, t14, e14, s14⟩ := len_cons s13; obtain ⟨u15, t15, e15, s15⟩ := len_cons s14; obtain ⟨u16, t16, e16, s16⟩ := len_cons s15; obtain ⟨u17, t17, e17, s17⟩ := len_cons s16; obtain ⟨u18, t18, e18, s18⟩ := len_cons s17; obtain ⟨u19, t19, e19, s19⟩ := len_cons s18; obtain ⟨u20, t20, e20, s20⟩ := len_cons s19; obtain ⟨u21, t21, e21, s21⟩ := len_cons s20; obtain ⟨u22, t22, e22, s22⟩ := len_cons s21; obtain ⟨u23, t23, e23, s23⟩ := len_cons s22; obtain ⟨u24, t24, e24, s24⟩ := len_cons s23; obtain ⟨u25, t25, e25, s25⟩ := len_cons s24; obtain ⟨u26, t26, e26, s26⟩ := len_cons s25; obtain ⟨u27, t27, e27, s27⟩ := len_cons s26; obtain ⟨u28, t28, e28, s28⟩ := len_cons s27; obtain ⟨u29, t29, e29, s29⟩ := len_cons s28
        obtain rfl := len_nil s29
        clear hus s0 s1 s2 s3 s4 s5 s6 s7 s8 s9 s10 s11 s12 s13 s14 s15 s16 s17 s18 s19 s20 s21 s22 s23 s24 s25 s26 s27 s28 s29
        subst e29 e28 e27 e26 e25 e24 e23 e22 e21 e20 e19 e18 e17 e16 e15 e14 e13 e12 e11 e10 e9 e8 e7 e6 e5 e4 e3 e2 e1 e0
        clear h
        simp only [over, Act.put, List.setIfInBounds_toArray, List.set_cons_zero, List.set_cons_succ]
        have f0 := x.cell HF0.out
        have f1 := x.cell HF1.out
        go_wp2_with fail
        exact postK_normal ⟨_, rfl, rfl, Ext.refl _⟩
      refine AllSteps.cons (fun us hus w' x h => ?_) ?_
      · obtain ⟨u0, t0, e0, s0⟩ := len_cons hus; obtain ⟨u1, t1, e1, s1⟩ := len_cons s0; obtain ⟨u2, t2, e2, s2⟩ := len_cons s1; obtain ⟨u3, t3, e3, s3⟩ := len_cons s2; obtain ⟨u4, t4, e4, s4⟩ := len_cons s3; obtain ⟨u5, t5, e5, s5⟩ := len_cons s4; obtain ⟨u6, t6, e6, s6⟩ := len_cons s5; obtain ⟨u7, t7, e7, s7⟩ := len_cons s6; obtain ⟨u8, t8, e8, s8⟩ := len_cons s7; obtain ⟨u9, t9, e9, s9⟩ := len_cons s8; obtain ⟨u10, t10, e10, s10⟩ := len_cons s9; obtain ⟨u11, t11, e11, s11⟩ := len_cons s10; obtain ⟨u12, t12, e12, s12⟩ := len_cons s11; obtain ⟨u13, t13, e13, s13⟩ := len_cons s12; obtain ⟨u14, t14, e14, s14⟩ := len_cons s13; obtain ⟨u15, t15, e15, s15⟩ := len_cons s14; obtain ⟨u16, t16, e16, s16⟩ := len_cons s15; obtain ⟨u17, t17, e17, s17⟩ := len_cons s16; obtain ⟨u18, t18, e18, s18⟩ := len_cons s17; obtain ⟨u19, t19, e19, s19⟩ := len_cons s18; obtain ⟨u20, t20, e20, s20⟩ := len_cons s19; obtain ⟨u21, t21, e21, s21⟩ := len_cons s20; obtain ⟨u22, t22, e22, s22⟩ := len_cons s21; obtain ⟨u23, t23, e23, s23⟩ := len_cons s22; obtain ⟨u24, t24, e24, s24⟩ := len_cons s23; obtain ⟨u25, t25, e25, s25⟩ := len_cons s24; obtain ⟨u26, t26, e26, s26⟩ := len_cons s25; obtain ⟨u27, t27, e27, s27⟩ := len_cons s26; obtain ⟨u28, t28, e28, s28⟩ := len_cons s27; obtain ⟨u29, t29, e29, s29⟩ := len_cons s28
        obtain rfl := len_nil s29
        clear hus s0 s1 s2 s3 s4 s5 s6 s7 s8 s9 s10 s11 s12 s13 s14 s15 s16 s17 s18 s19 s20 s21 s22 s23 s24 s25 s26 s27 s28 s29
        subst e29 e28 e27 e26 e25 e24 e23 e22 e21 e20 e19 e18 e17 e16 e15 e14 e13 e12 e11 e10 e9 e8 e7 e6 e5 e4 e3 e2 e1 e0
        have h2 : Bs w' u2 a0.data.toList := h 2 (by kernel_rfl)
        have h3 : u3 = .agg #[.slice a2 rs.length c2, .bool false] := h 3 (by kernel_rfl)
        clear h
        simp only [over, Act.put, List.setIfInBounds_toArray, List.set_cons_zero, List.set_cons_succ]
        subst h3
        have c5 := impl_TrimFunc _ _ _ rs false _ h2 (HI.out.ext x) (HT.out.ext x) (by show a0.size ≤ _; omega)
        rw [HTF.out] at c5
        go_wp2_with (go_at_call 15; refine c5.mono ?_)
        rintro _ w5 ⟨v5, rfl, o5, x5⟩
        go_wp2_with fail
        exact postK_normal ⟨_, rfl, o5.bs, x5⟩
      refine AllSteps.cons (fun us hus w' x h => ?_) ?_
      · obtain ⟨u0, t0, e0, s0⟩ := len_cons hus; obtain ⟨u1, t1, e1, s1⟩ := len_cons s0; obtain ⟨u2, t2, e2, s2⟩ := len_cons s1; obtain ⟨u3, t3, e3, s3⟩ := len_cons s2; obtain ⟨u4, t4, e4, s4⟩ := len_cons s3; obtain ⟨u5, t5, e5, s5⟩ := len_cons s4; obtain ⟨u6, t6, e6, s6⟩ := len_cons s5; obtain ⟨u7, t7, e7, s7⟩ := len_cons s6; obtain ⟨u8, t8, e8, s8⟩ := len_cons s7; obtain ⟨u9, t9, e9, s9⟩ := len_cons s8; obtain ⟨u10, t10, e10, s10⟩ := len_cons s9; obtain ⟨u11, t11, e11, s11⟩ := len_cons s10; obtain ⟨u12, t12, e12, s12⟩ := len_cons s11; obtain ⟨u13, t13, e13, s13⟩ := len_cons s12; obtain ⟨u14, t14, e14, s14⟩ := len_cons s13; obtain ⟨u15, t15, e15, s15⟩ := len_cons s14; obtain ⟨u16, t16, e16, s16⟩ := len_cons s15; obtain ⟨u17, t17, e17, s17⟩ := len_cons s16; obtain ⟨u18, t18, e18, s18⟩ := len_cons s17; obtain ⟨u19, t19, e19, s19⟩ := len_cons s18; obtain ⟨u20, t20, e20, s20⟩ := len_cons s19; obtain ⟨u21, t21, e21, s21⟩ := len_cons s20; obtain ⟨u22, t22, e22, s22⟩ := len_cons s21; obtain ⟨u23, t23, e23, s23⟩ := len_cons s22; obtain ⟨u24, t24, e24, s24⟩ := len_cons s23; obtain ⟨u25, t25, e25, s25⟩ := len_cons s24; obtain ⟨u26, t26, e26, s26⟩ := len_cons s25; obtain ⟨u27, t27, e27, s27⟩ := len_cons s26; obtain ⟨u28, t28, e28, s28⟩ := len_cons s27; obtain ⟨u29, t29, e29, s29⟩ := len_cons s28
        obtain rfl := len_nil s29
        clear hus s0 s1 s2 s3 s4 s5 s6 s7 s8 s9 s10 s11 s12 s13 s14 s15 s16 s17 s18 s19 s20 s21 s22 s23 s24 s25 s26 s27 s28 s29
        subst e29 e28 e27 e26 e25 e24 e23 e22 e21 e20 e19 e18 e17 e16 e15 e14 e13 e12 e11 e10 e9 e8 e7 e6 e5 e4 e3 e2 e1 e0
        have h4 : Bs w' u4 T := h 4 (by kernel_rfl)
        clear h
        simp only [over, Act.put, List.setIfInBounds_toArray, List.set_cons_zero, List.set_cons_succ]
        go_wp2_with (refine wpList_toString rfl 27 9 _ rfl 5 Tryd.underlying27 Tryd.underlying5 Tryd.underlying9 _ _ rfl h4 ?_)
        exact postK_normal ⟨_, rfl, rfl, Ext.refl _⟩
      refine AllSteps.cons (fun us hus w' x h => ?_) ?_
      · obtain ⟨u0, t0, e0, s0⟩ := len_cons hus; obtain ⟨u1, t1, e1, s1⟩ := len_cons s0; obtain ⟨u2, t2, e2, s2⟩ := len_cons s1; obtain ⟨u3, t3, e3, s3⟩ := len_cons s2; obtain ⟨u4, t4, e4, s4⟩ := len_cons s3; obtain ⟨u5, t5, e5, s5⟩ := len_cons s4; obtain ⟨u6, t6, e6, s6⟩ := len_cons s5; obtain ⟨u7, t7, e7, s7⟩ := len_cons s6; obtain ⟨u8, t8, e8, s8⟩ := len_cons s7; obtain ⟨u9, t9, e9, s9⟩ := len_cons s8; obtain ⟨u10, t10, e10, s10⟩ := len_cons s9; obtain ⟨u11, t11, e11, s11⟩ := len_cons s10; obtain ⟨u12, t12, e12, s12⟩ := len_cons s11; obtain ⟨u13, t13, e13, s13⟩ := len_cons s12; obtain ⟨u14, t14, e14, s14⟩ := len_cons s13; obtain ⟨u15, t15, e15, s15⟩ := len_cons s14; obtain ⟨u16, t16, e16, s16⟩ := len_cons s15; obtain ⟨u17, t17, e17, s17⟩ := len_cons s16; obtain ⟨u18, t18, e18, s18⟩ := len_cons s17; obtain ⟨u19, t19, e19, s19⟩ := len_cons s18; obtain ⟨u20, t20, e20, s20⟩ := len_cons s19; obtain ⟨u21, t21, e21, s21⟩ := len_cons s20; obtain ⟨u22, t22, e22, s22⟩ := len_cons s21; obtain ⟨u23, t23, e23, s23⟩ := len_cons s22; obtain ⟨u24, t24, e24, s24⟩ := len_cons s23; obtain ⟨u25, t25, e25, s25⟩ := len_cons s24; obtain ⟨u26, t26, e26, s26⟩ := len_cons s25; obtain ⟨u27, t27, e27, s27⟩ := len_cons s26; obtain ⟨u28, t28, e28, s28⟩ := len_cons s27; obtain ⟨u29, t29, e29, s29⟩ := len_cons s28
        obtain rfl := len_nil s29
        clear hus s0 s1 s2 s3 s4 s5 s6 s7 s8 s9 s10 s11 s12 s13 s14 s15 s16 s17 s18 s19 s20 s21 s22 s23 s24 s25 s26 s27 s28 s29
        subst e29 e28 e27 e26 e25 e24 e23 e22 e21 e20 e19 e18 e17 e16 e15 e14 e13 e12 e11 e10 e9 e8 e7 e6 e5 e4 e3 e2 e1 e0
        have h0 : u0 = .string ⟨T.toArray⟩ := h 0 (by kernel_rfl)
        have h5 : u5 = .string ⟨T.toArray⟩ := h 5 (by kernel_rfl)
        clear h
        simp only [over, Act.put, List.setIfInBounds_toArray, List.set_cons_zero, List.set_cons_succ]
        subst h0
        subst h5
        go_wp2_with fail
        exact postK_normal ⟨_, rfl, rfl, Ext.refl _⟩
      refine AllSteps.cons (fun us hus w' x h => ?_) ?_
      · obtain ⟨u0, t0, e0, s0⟩ := len_cons hus; obtain ⟨u1, t1, e1, s1⟩ := len_cons s0; obtain ⟨u2, t2, e2, s2⟩ := len_cons s1; obtain ⟨u3, t3, e3, s3⟩ := len_cons s2; obtain ⟨u4, t4, e4, s4⟩ := len_cons s3; obtain ⟨u5, t5, e5, s5⟩ := len_cons s4; obtain ⟨u6, t6, e6, s6⟩ := len_cons s5; obtain ⟨u7, t7, e7, s7⟩ := len_cons s6; obtain ⟨u8, t8, e8, s8⟩ := len_cons s7; obtain ⟨u9, t9, e9, s9⟩ := len_cons s8; obtain ⟨u10, t10, e10, s10⟩ := len_cons s9; obtain ⟨u11, t11, e11, s11⟩ := len_cons s10; obtain ⟨u12, t12, e12, s12⟩ := len_cons s11; obtain ⟨u13, t13, e13, s13⟩ := len_cons s12; obtain ⟨u14, t14, e14, s14⟩ := len_cons s13; obtain ⟨u15, t15, e15, s15⟩ := len_cons s14; obtain ⟨u16, t16, e16, s16⟩ := len_cons s15; obtain ⟨u17, t17, e17, s17⟩ := len_cons s16; obtain ⟨u18, t18, e18, s18⟩ := len_cons s17; obtain ⟨u19, t19, e19, s19⟩ := len_cons s18; obtain ⟨u20, t20, e20, s20⟩ := len_cons s19; obtain ⟨u21, t21, e21, s21⟩ := len_cons s20; obtain ⟨u22, t22, e22, s22⟩ := len_cons s21; obtain ⟨u23, t23, e23, s23⟩ := len_cons s22; obtain ⟨u24, t24, e24, s24⟩ := len_cons s23; obtain ⟨u25, t25, e25, s25⟩ := len_cons s24; obtain ⟨u26, t26, e26, s26⟩ := len_cons s25; obtain ⟨u27, t27, e27, s27⟩ := len_cons s26; obtain ⟨u28, t28, e28, s28⟩ := len_cons s27; obtain ⟨u29, t29, e29, s29⟩ := len_cons s28
        obtain rfl := len_nil s29
        clear hus s0 s1 s2 s3 s4 s5 s6 s7 s8 s9 s10 s11 s12 s13 s14 s15 s16 s17 s18 s19 s20 s21 s22 s23 s24 s25 s26 s27 s28 s29
        subst e29 e28 e27 e26 e25 e24 e23 e22 e21 e20 e19 e18 e17 e16 e15 e14 e13 e12 e11 e10 e9 e8 e7 e6 e5 e4 e3 e2 e1 e0
        have h6 : u6 = .bool true := h 6 (by kernel_rfl)
        clear h
        simp only [over, Act.put, List.setIfInBounds_toArray, List.set_cons_zero, List.set_cons_succ]
        subst h6
        go_wp2_with fail
        exact postK_normal ⟨_, rfl, rfl, Ext.refl _⟩
      refine AllSteps.cons (fun us hus w' x h => ?_) ?_
      · obtain ⟨u0, t0, e0, s0⟩ := len_cons hus; obtain ⟨u1, t1, e1, s1⟩ := len_cons s0; obtain ⟨u2, t2, e2, s2⟩ := len_cons s1; obtain ⟨u3, t3, e3, s3⟩ := len_cons s2; obtain ⟨u4, t4, e4, s4⟩ := len_cons s3; obtain ⟨u5, t5, e5, s5⟩ := len_cons s4; obtain ⟨u6, t6, e6, s6⟩ := len_cons s5; obtain ⟨u7, t7, e7, s7⟩ := len_cons s6; obtain ⟨u8, t8, e8, s8⟩ := len_cons s7; obtain ⟨u9, t9, e9, s9⟩ := len_cons s8; obtain ⟨u10, t10, e10, s10⟩ := len_cons s9; obtain ⟨u11, t11, e11, s11⟩ := len_cons s10; obtain ⟨u12, t12, e12, s12⟩ := len_cons s11; obtain ⟨u13, t13, e13, s13⟩ := len_cons s12; obtain ⟨u14, t14, e14, s14⟩ := len_cons s13; obtain ⟨u15, t15, e15, s15⟩ := len_cons s14; obtain ⟨u16, t16, e16, s16⟩ := len_cons s15; obtain ⟨u17, t17, e17, s17⟩ := len_cons s16; obtain ⟨u18, t18, e18, s18⟩ := len_cons s17; obtain ⟨u19, t19, e19, s19⟩ := len_cons s18; obtain ⟨u20, t20, e20, s20⟩ := len_cons s19; obtain ⟨u21, t21, e21, s21⟩ := len_cons s20; obtain ⟨u22, t22, e22, s22⟩ := len_cons s21; obtain ⟨u23, t23, e23, s23⟩ := len_cons s22; obtain ⟨u24, t24, e24, s24⟩ := len_cons s23; obtain ⟨u25, t25, e25, s25⟩ := len_cons s24; obtain ⟨u26, t26, e26, s26⟩ := len_cons s25; obtain ⟨u27, t27, e27, s27⟩ := len_cons s26; obtain ⟨u28, t28, e28, s28⟩ := len_cons s27; obtain ⟨u29, t29, e29, s29⟩ := len_cons s28
        obtain rfl := len_nil s29
        clear hus s0 s1 s2 s3 s4 s5 s6 s7 s8 s9 s10 s11 s12 s13 s14 s15 s16 s17 s18 s19 s20 s21 s22 s23 s24 s25 s26 s27 s28 s29
        subst e29 e28 e27 e26 e25 e24 e23 e22 e21 e20 e19 e18 e17 e16 e15 e14 e13 e12 e11 e10 e9 e8 e7 e6 e5 e4 e3 e2 e1 e0
        have h7 : u7 = .bool true := h 7 (by kernel_rfl)
        clear h
        simp only [over, Act.put, List.setIfInBounds_toArray, List.set_cons_zero, List.set_cons_succ]
        subst h7
        go_wp2_with fail
        exact postK_normal ⟨_, rfl, rfl, Ext.refl _⟩
      refine AllSteps.cons (fun us hus w' x h => ?_) ?_
      · obtain ⟨u0, t0, e0, s0⟩ := len_cons hus; obtain ⟨u1, t1, e1, s1⟩ := len_cons s0; obtain ⟨u2, t2, e2, s2⟩ := len_cons s1; obtain ⟨u3, t3, e3, s3⟩ := len_cons s2; obtain ⟨u4, t4, e4, s4⟩ := len_cons s3; obtain ⟨u5, t5, e5, s5⟩ := len_cons s4; obtain ⟨u6, t6, e6, s6⟩ := len_cons s5; obtain ⟨u7, t7, e7, s7⟩ := len_cons s6; obtain ⟨u8, t8, e8, s8⟩ := len_cons s7; obtain ⟨u9, t9, e9, s9⟩ := len_cons s8; obtain ⟨u10, t10, e10, s10⟩ := len_cons s9; obtain ⟨u11, t11, e11, s11⟩ := len_cons s10; obtain ⟨u12, t12, e12, s12⟩ := len_cons s11; obtain ⟨u13, t13, e13, s13⟩ := len_cons s12; obtain ⟨u14, t14, e14, s14⟩ := len_cons s13; obtain ⟨u15, t15, e15, s15⟩ := len_cons s14; obtain ⟨u16, t16, e16, s16⟩ := len_cons s15; obtain ⟨u17, t17, e17, s17⟩ := len_cons s16; obtain ⟨u18, t18, e18, s18⟩ := len_cons s17; obtain ⟨u19, t19, e19, s19⟩ := len_cons s18; obtain ⟨u20, t20, e20, s20⟩ := len_cons s19; obtain ⟨u21, t21, e21, s21⟩ := len_cons s20; obtain ⟨u22, t22, e22, s22⟩ := len_cons s21; obtain ⟨u23, t23, e23, s23⟩ := len_cons s22; obtain ⟨u24, t24, e24, s24⟩ := len_cons s23; obtain ⟨u25, t25, e25, s25⟩ := len_cons s24; obtain ⟨u26, t26, e26, s26⟩ := len_cons s25; obtain ⟨u27, t27, e27, s27⟩ := len_cons s26; obtain ⟨u28, t28, e28, s28⟩ := len_cons s27; obtain ⟨u29, t29, e29, s29⟩ := len_cons s28
        obtain rfl := len_nil s29
        clear hus s0 s1 s2 s3 s4 s5 s6 s7 s8 s9 s10 s11 s12 s13 s14 s15 s16 s17 s18 s19 s20 s21 s22 s23 s24 s25 s26 s27 s28 s29
        subst e29 e28 e27 e26 e25 e24 e23 e22 e21 e20 e19 e18 e17 e16 e15 e14 e13 e12 e11 e10 e9 e8 e7 e6 e5 e4 e3 e2 e1 e0
        have h8 : u8 = .string a0 := h 8 (by kernel_rfl)
        have h7 : u7 = .bool true := h 7 (by kernel_rfl)
        clear h
        simp only [over, Act.put, List.setIfInBounds_toArray, List.set_cons_zero, List.set_cons_succ]
        subst h8
        subst h7
        go_wp2_with (refine wpList_toBytes rfl 9 27 _ rfl 5 Tryd.underlying9 Tryd.underlying27 Tryd.underlying5 _ rfl hmax ?_)
        intro v5 w5 o5 x5
        go_wp2_with fail
        exact postK_normal ⟨_, rfl, o5.bs, x5⟩
      refine AllSteps.cons (fun us hus w' x h => ?_) ?_
      · obtain ⟨u0, t0, e0, s0⟩ := len_cons hus; obtain ⟨u1, t1, e1, s1⟩ := len_cons s0; obtain ⟨u2, t2, e2, s2⟩ := len_cons s1; obtain ⟨u3, t3, e3, s3⟩ := len_cons s2; obtain ⟨u4, t4, e4, s4⟩ := len_cons s3; obtain ⟨u5, t5, e5, s5⟩ := len_cons s4; obtain ⟨u6, t6, e6, s6⟩ := len_cons s5; obtain ⟨u7, t7, e7, s7⟩ := len_cons s6; obtain ⟨u8, t8, e8, s8⟩ := len_cons s7; obtain ⟨u9, t9, e9, s9⟩ := len_cons s8; obtain ⟨u10, t10, e10, s10⟩ := len_cons s9; obtain ⟨u11, t11, e11, s11⟩ := len_cons s10; obtain ⟨u12, t12, e12, s12⟩ := len_cons s11; obtain ⟨u13, t13, e13, s13⟩ := len_cons s12; obtain ⟨u14, t14, e14, s14⟩ := len_cons s13; obtain ⟨u15, t15, e15, s15⟩ := len_cons s14; obtain ⟨u16, t16, e16, s16⟩ := len_cons s15; obtain ⟨u17, t17, e17, s17⟩ := len_cons s16; obtain ⟨u18, t18, e18, s18⟩ := len_cons s17; obtain ⟨u19, t19, e19, s19⟩ := len_cons s18; obtain ⟨u20, t20, e20, s20⟩ := len_cons s19; obtain ⟨u21, t21, e21, s21⟩ := len_cons s20; obtain ⟨u22, t22, e22, s22⟩ := len_cons s21; obtain ⟨u23, t23, e23, s23⟩ := len_cons s22; obtain ⟨u24, t24, e24, s24⟩ := len_cons s23; obtain ⟨u25, t25, e25, s25⟩ := len_cons s24; obtain ⟨u26, t26, e26, s26⟩ := len_cons s25; obtain ⟨u27, t27, e27, s27⟩ := len_cons s26; obtain ⟨u28, t28, e28, s28⟩ := len_cons s27; obtain ⟨u29, t29, e29, s29⟩ := len_cons s28
        obtain rfl := len_nil s29
        clear hus s0 s1 s2 s3 s4 s5 s6 s7 s8 s9 s10 s11 s12 s13 s14 s15 s16 s17 s18 s19 s20 s21 s22 s23 s24 s25 s26 s27 s28 s29
        subst e29 e28 e27 e26 e25 e24 e23 e22 e21 e20 e19 e18 e17 e16 e15 e14 e13 e12 e11 e10 e9 e8 e7 e6 e5 e4 e3 e2 e1 e0
        have h9 : Bs w' u9 a0.data.toList := h 9 (by kernel_rfl)
        have h7 : u7 = .bool true := h 7 (by kernel_rfl)
        clear h
        simp only [over, Act.put, List.setIfInBounds_toArray, List.set_cons_zero, List.set_cons_succ]
        subst h7
        have c5 := impl_Fields _ _ _ h9 (HW.out.ext x) (HT.out.ext x) (by show a0.size ≤ _; omega)
        rw [HL.out] at c5
        go_wp2_with (go_at_call 18; refine c5.mono ?_)
        rintro _ w5 ⟨v5, rfl, o5, x5⟩
        go_wp2_with fail
        exact postK_normal ⟨_, rfl, o5.bs, x5⟩
      refine AllSteps.cons (fun us hus w' x h => ?_) ?_
      · obtain ⟨u0, t0, e0, s0⟩ := len_cons hus; obtain ⟨u1, t1, e1, s1⟩ := len_cons s0; obtain ⟨u2, t2, e2, s2⟩ := len_cons s1; obtain ⟨u3, t3, e3, s3⟩ := len_cons s2; obtain ⟨u4, t4, e4, s4⟩ := len_cons s3; obtain ⟨u5, t5, e5, s5⟩ := len_cons s4; obtain ⟨u6, t6, e6, s6⟩ := len_cons s5; obtain ⟨u7, t7, e7, s7⟩ := len_cons s6; obtain ⟨u8, t8, e8, s8⟩ := len_cons s7; obtain ⟨u9, t9, e9, s9⟩ := len_cons s8; obtain ⟨u10, t10, e10, s10⟩ := len_cons s9; obtain ⟨u11, t11, e11, s11⟩ := len_cons s10; obtain ⟨u12, t12, e12, s12⟩ := len_cons s11; obtain ⟨u13, t13, e13, s13⟩ := len_cons s12; obtain ⟨u14, t14, e14, s14⟩ := len_cons s13; obtain ⟨u15, t15, e15, s15⟩ := len_cons s14; obtain ⟨u16, t16, e16, s16⟩ := len_cons s15; obtain ⟨u17, t17, e17, s17⟩ := len_cons s16; obtain ⟨u18, t18, e18, s18⟩ := len_cons s17; obtain ⟨u19, t19, e19, s19⟩ := len_cons s18; obtain ⟨u20, t20, e20, s20⟩ := len_cons s19; obtain ⟨u21, t21, e21, s21⟩ := len_cons s20; obtain ⟨u22, t22, e22, s22⟩ := len_cons s21; obtain ⟨u23, t23, e23, s23⟩ := len_cons s22; obtain ⟨u24, t24, e24, s24⟩ := len_cons s23; obtain ⟨u25, t25, e25, s25⟩ := len_cons s24; obtain ⟨u26, t26, e26, s26⟩ := len_cons s25; obtain ⟨u27, t27, e27, s27⟩ := len_cons s26; obtain ⟨u28, t28, e28, s28⟩ := len_cons s27; obtain ⟨u29, t29, e29, s29⟩ := len_cons s28
        obtain rfl := len_nil s29
        clear hus s0 s1 s2 s3 s4 s5 s6 s7 s8 s9 s10 s11 s12 s13 s14 s15 s16 s17 s18 s19 s20 s21 s22 s23 s24 s25 s26 s27 s28 s29
        subst e29 e28 e27 e26 e25 e24 e23 e22 e21 e20 e19 e18 e17 e16 e15 e14 e13 e12 e11 e10 e9 e8 e7 e6 e5 e4 e3 e2 e1 e0
        have h10 : Ls w' u10 L := h 10 (by kernel_rfl)
        have h7 : u7 = .bool true := h 7 (by kernel_rfl)
        clear h
        simp only [over, Act.put, List.setIfInBounds_toArray, List.set_cons_zero, List.set_cons_succ]
        subst h7
        go_wp2_with (go_at_call 17; refine (laws_texts _ L _ h10 (by omega)).mono ?_)
        rintro _ w5 ⟨v5, rfl, o5, x5⟩
        go_wp2_with fail
        exact postK_normal ⟨_, rfl, o5, x5⟩
      refine AllSteps.cons (fun us hus w' x h => ?_) ?_
      · obtain ⟨u0, t0, e0, s0⟩ := len_cons hus; obtain ⟨u1, t1, e1, s1⟩ := len_cons s0; obtain ⟨u2, t2, e2, s2⟩ := len_cons s1; obtain ⟨u3, t3, e3, s3⟩ := len_cons s2; obtain ⟨u4, t4, e4, s4⟩ := len_cons s3; obtain ⟨u5, t5, e5, s5⟩ := len_cons s4; obtain ⟨u6, t6, e6, s6⟩ := len_cons s5; obtain ⟨u7, t7, e7, s7⟩ := len_cons s6; obtain ⟨u8, t8, e8, s8⟩ := len_cons s7; obtain ⟨u9, t9, e9, s9⟩ := len_cons s8; obtain ⟨u10, t10, e10, s10⟩ := len_cons s9; obtain ⟨u11, t11, e11, s11⟩ := len_cons s10; obtain ⟨u12, t12, e12, s12⟩ := len_cons s11; obtain ⟨u13, t13, e13, s13⟩ := len_cons s12; obtain ⟨u14, t14, e14, s14⟩ := len_cons s13; obtain ⟨u15, t15, e15, s15⟩ := len_cons s14; obtain ⟨u16, t16, e16, s16⟩ := len_cons s15; obtain ⟨u17, t17, e17, s17⟩ := len_cons s16; obtain ⟨u18, t18, e18, s18⟩ := len_cons s17; obtain ⟨u19, t19, e19, s19⟩ := len_cons s18; obtain ⟨u20, t20, e20, s20⟩ := len_cons s19; obtain ⟨u21, t21, e21, s21⟩ := len_cons s20; obtain ⟨u22, t22, e22, s22⟩ := len_cons s21; obtain ⟨u23, t23, e23, s23⟩ := len_cons s22; obtain ⟨u24, t24, e24, s24⟩ := len_cons s23; obtain ⟨u25, t25, e25, s25⟩ := len_cons s24; obtain ⟨u26, t26, e26, s26⟩ := len_cons s25; obtain ⟨u27, t27, e27, s27⟩ := len_cons s26; obtain ⟨u28, t28, e28, s28⟩ := len_cons s27; obtain ⟨u29, t29, e29, s29⟩ := len_cons s28
        obtain rfl := len_nil s29
        clear hus s0 s1 s2 s3 s4 s5 s6 s7 s8 s9 s10 s11 s12 s13 s14 s15 s16 s17 s18 s19 s20 s21 s22 s23 s24 s25 s26 s27 s28 s29
        subst e29 e28 e27 e26 e25 e24 e23 e22 e21 e20 e19 e18 e17 e16 e15 e14 e13 e12 e11 e10 e9 e8 e7 e6 e5 e4 e3 e2 e1 e0
        have h7 : u7 = .bool true := h 7 (by kernel_rfl)
        clear h
        simp only [over, Act.put, List.setIfInBounds_toArray, List.set_cons_zero, List.set_cons_succ]
        subst h7
        go_wp2_with fail
        exact postK_normal ⟨_, rfl, rfl, Ext.refl _⟩
      refine AllSteps.cons (fun us hus w' x h => ?_) ?_
      · obtain ⟨u0, t0, e0, s0⟩ := len_cons hus; obtain ⟨u1, t1, e1, s1⟩ := len_cons s0; obtain ⟨u2, t2, e2, s2⟩ := len_cons s1; obtain ⟨u3, t3, e3, s3⟩ := len_cons s2; obtain ⟨u4, t4, e4, s4⟩ := len_cons s3; obtain ⟨u5, t5, e5, s5⟩ := len_cons s4; obtain ⟨u6, t6, e6, s6⟩ := len_cons s5; obtain ⟨u7, t7, e7, s7⟩ := len_cons s6; obtain ⟨u8, t8, e8, s8⟩ := len_cons s7; obtain ⟨u9, t9, e9, s9⟩ := len_cons s8; obtain ⟨u10, t10, e10, s10⟩ := len_cons s9; obtain ⟨u11, t11, e11, s11⟩ := len_cons s10; obtain ⟨u12, t12, e12, s12⟩ := len_cons s11; obtain ⟨u13, t13, e13, s13⟩ := len_cons s12; obtain ⟨u14, t14, e14, s14⟩ := len_cons s13; obtain ⟨u15, t15, e15, s15⟩ := len_cons s14; obtain ⟨u16, t16, e16, s16⟩ := len_cons s15; obtain ⟨u17, t17, e17, s17⟩ := len_cons s16; obtain ⟨u18, t18, e18, s18⟩ := len_cons s17; obtain ⟨u19, t19, e19, s19⟩ := len_cons s18; obtain ⟨u20, t20, e20, s20⟩ := len_cons s19; obtain ⟨u21, t21, e21, s21⟩ := len_cons s20; obtain ⟨u22, t22, e22, s22⟩ := len_cons s21; obtain ⟨u23, t23, e23, s23⟩ := len_cons s22; obtain ⟨u24, t24, e24, s24⟩ := len_cons s23; obtain ⟨u25, t25, e25, s25⟩ := len_cons s24; obtain ⟨u26, t26, e26, s26⟩ := len_cons s25; obtain ⟨u27, t27, e27, s27⟩ := len_cons s26; obtain ⟨u28, t28, e28, s28⟩ := len_cons s27; obtain ⟨u29, t29, e29, s29⟩ := len_cons s28
        obtain rfl := len_nil s29
        clear hus s0 s1 s2 s3 s4 s5 s6 s7 s8 s9 s10 s11 s12 s13 s14 s15 s16 s17 s18 s19 s20 s21 s22 s23 s24 s25 s26 s27 s28 s29
        subst e29 e28 e27 e26 e25 e24 e23 e22 e21 e20 e19 e18 e17 e16 e15 e14 e13 e12 e11 e10 e9 e8 e7 e6 e5 e4 e3 e2 e1 e0
        have h12 : u12 = .string a0 := h 12 (by kernel_rfl)
        have h7 : u7 = .bool true := h 7 (by kernel_rfl)
        clear h
        simp only [over, Act.put, List.setIfInBounds_toArray, List.set_cons_zero, List.set_cons_succ]
        subst h12
        subst h7
        go_wp2_with (refine wpList_toBytes rfl 9 27 _ rfl 5 Tryd.underlying9 Tryd.underlying27 Tryd.underlying5 _ rfl hmax ?_)
        intro v5 w5 o5 x5
        go_wp2_with fail
        exact postK_normal ⟨_, rfl, o5.bs, x5⟩
      refine AllSteps.cons (fun us hus w' x h => ?_) ?_
      · obtain ⟨u0, t0, e0, s0⟩ := len_cons hus; obtain ⟨u1, t1, e1, s1⟩ := len_cons s0; obtain ⟨u2, t2, e2, s2⟩ := len_cons s1; obtain ⟨u3, t3, e3, s3⟩ := len_cons s2; obtain ⟨u4, t4, e4, s4⟩ := len_cons s3; obtain ⟨u5, t5, e5, s5⟩ := len_cons s4; obtain ⟨u6, t6, e6, s6⟩ := len_cons s5; obtain ⟨u7, t7, e7, s7⟩ := len_cons s6; obtain ⟨u8, t8, e8, s8⟩ := len_cons s7; obtain ⟨u9, t9, e9, s9⟩ := len_cons s8; obtain ⟨u10, t10, e10, s10⟩ := len_cons s9; obtain ⟨u11, t11, e11, s11⟩ := len_cons s10; obtain ⟨u12, t12, e12, s12⟩ := len_cons s11; obtain ⟨u13, t13, e13, s13⟩ := len_cons s12; obtain ⟨u14, t14, e14, s14⟩ := len_cons s13; obtain ⟨u15, t15, e15, s15⟩ := len_cons s14; obtain ⟨u16, t16, e16, s16⟩ := len_cons s15; obtain ⟨u17, t17, e17, s17⟩ := len_cons s16; obtain ⟨u18, t18, e18, s18⟩ := len_cons s17; obtain ⟨u19, t19, e19, s19⟩ := len_cons s18; obtain ⟨u20, t20, e20, s20⟩ := len_cons s19; obtain ⟨u21, t21, e21, s21⟩ := len_cons s20; obtain ⟨u22, t22, e22, s22⟩ := len_cons s21; obtain ⟨u23, t23, e23, s23⟩ := len_cons s22; obtain ⟨u24, t24, e24, s24⟩ := len_cons s23; obtain ⟨u25, t25, e25, s25⟩ := len_cons s24; obtain ⟨u26, t26, e26, s26⟩ := len_cons s25; obtain ⟨u27, t27, e27, s27⟩ := len_cons s26; obtain ⟨u28, t28, e28, s28⟩ := len_cons s27; obtain ⟨u29, t29, e29, s29⟩ := len_cons s28
        obtain rfl := len_nil s29
        clear hus s0 s1 s2 s3 s4 s5 s6 s7 s8 s9 s10 s11 s12 s13 s14 s15 s16 s17 s18 s19 s20 s21 s22 s23 s24 s25 s26 s27 s28 s29
        subst e29 e28 e27 e26 e25 e24 e23 e22 e21 e20 e19 e18 e17 e16 e15 e14 e13 e12 e11 e10 e9 e8 e7 e6 e5 e4 e3 e2 e1 e0
        have h7 : u7 = .bool true := h 7 (by kernel_rfl)
        clear h
        simp only [over, Act.put, List.setIfInBounds_toArray, List.set_cons_zero, List.set_cons_succ]
        subst h7
        have f0 := x.cell HF0.out
        have f1 := x.cell HF1.out
        go_wp2_with fail
        exact postK_normal ⟨_, rfl, rfl, Ext.refl _⟩
      refine AllSteps.cons (fun us hus w' x h => ?_) ?_
      · obtain ⟨u0, t0, e0, s0⟩ := len_cons hus; obtain ⟨u1, t1, e1, s1⟩ := len_cons s0; obtain ⟨u2, t2, e2, s2⟩ := len_cons s1; obtain ⟨u3, t3, e3, s3⟩ := len_cons s2; obtain ⟨u4, t4, e4, s4⟩ := len_cons s3; obtain ⟨u5, t5, e5, s5⟩ := len_cons s4; obtain ⟨u6, t6, e6, s6⟩ := len_cons s5; obtain ⟨u7, t7, e7, s7⟩ := len_cons s6; obtain ⟨u8, t8, e8, s8⟩ := len_cons s7; obtain ⟨u9, t9, e9, s9⟩ := len_cons s8; obtain ⟨u10, t10, e10, s10⟩ := len_cons s9; obtain ⟨u11, t11, e11, s11⟩ := len_cons s10; obtain ⟨u12, t12, e12, s12⟩ := len_cons s11; obtain ⟨u13, t13, e13, s13⟩ := len_cons s12; obtain ⟨u14, t14, e14, s14⟩ := len_cons s13; obtain ⟨u15, t15, e15, s15⟩ := len_cons s14; obtain ⟨u16, t16, e16, s16⟩ := len_cons s15; obtain ⟨u17, t17, e17, s17⟩ := len_cons s16; obtain ⟨u18, t18, e18, s18⟩ := len_cons s17; obtain ⟨u19, t19, e19, s19⟩ := len_cons s18; obtain ⟨u20, t20, e20, s20⟩ := len_cons s19; obtain ⟨u21, t21, e21, s21⟩ := len_cons s20; obtain ⟨u22, t22, e22, s22⟩ := len_cons s21; obtain ⟨u23, t23, e23, s23⟩ := len_cons s22; obtain ⟨u24, t24, e24, s24⟩ := len_cons s23; obtain ⟨u25, t25, e25, s25⟩ := len_cons s24; obtain ⟨u26, t26, e26, s26⟩ := len_cons s25; obtain ⟨u27, t27, e27, s27⟩ := len_cons s26; obtain ⟨u28, t28, e28, s28⟩ := len_cons s27; obtain ⟨u29, t29, e29, s29⟩ := len_cons s28
        obtain rfl := len_nil s29
        clear hus s0 s1 s2 s3 s4 s5 s6 s7 s8 s9 s10 s11 s12 s13 s14 s15 s16 s17 s18 s19 s20 s21 s22 s23 s24 s25 s26 s27 s28 s29
        subst e29 e28 e27 e26 e25 e24 e23 e22 e21 e20 e19 e18 e17 e16 e15 e14 e13 e12 e11 e10 e9 e8 e7 e6 e5 e4 e3 e2 e1 e0
        have h13 : Bs w' u13 a0.data.toList := h 13 (by kernel_rfl)
        have h14 : u14 = .agg #[.slice a2 rs.length c2, .bool false] := h 14 (by kernel_rfl)
        have h7 : u7 = .bool true := h 7 (by kernel_rfl)
        clear h
        simp only [over, Act.put, List.setIfInBounds_toArray, List.set_cons_zero, List.set_cons_succ]
        subst h14
        subst h7
        have c5 := impl_FieldsFunc _ _ _ rs false _ h13 (HI.out.ext x) (HT.out.ext x) (by show a0.size ≤ _; omega)
        rw [HLF.out] at c5
        go_wp2_with (go_at_call 19; refine c5.mono ?_)
        rintro _ w5 ⟨v5, rfl, o5, x5⟩
        go_wp2_with fail
        exact postK_normal ⟨_, rfl, o5.bs, x5⟩
      refine AllSteps.cons (fun us hus w' x h => ?_) ?_
      · obtain ⟨u0, t0, e0, s0⟩ := len_cons hus; obtain ⟨u1, t1, e1, s1⟩ := len_cons s0; obtain ⟨u2, t2, e2, s2⟩ := len_cons s1; obtain ⟨u3, t3, e3, s3⟩ := len_cons s2; obtain ⟨u4, t4, e4, s4⟩ := len_cons s3; obtain ⟨u5, t5, e5, s5⟩ := len_cons s4; obtain ⟨u6, t6, e6, s6⟩ := len_cons s5; obtain ⟨u7, t7, e7, s7⟩ := len_cons s6; obtain ⟨u8, t8, e8, s8⟩ := len_cons s7; obtain ⟨u9, t9, e9, s9⟩ := len_cons s8; obtain ⟨u10, t10, e10, s10⟩ := len_cons s9; obtain ⟨u11, t11, e11, s11⟩ := len_cons s10; obtain ⟨u12, t12, e12, s12⟩ := len_cons s11; obtain ⟨u13, t13, e13, s13⟩ := len_cons s12; obtain ⟨u14, t14, e14, s14⟩ := len_cons s13; obtain ⟨u15, t15, e15, s15⟩ := len_cons s14; obtain ⟨u16, t16, e16, s16⟩ := len_cons s15; obtain ⟨u17, t17, e17, s17⟩ := len_cons s16; obtain ⟨u18, t18, e18, s18⟩ := len_cons s17; obtain ⟨u19, t19, e19, s19⟩ := len_cons s18; obtain ⟨u20, t20, e20, s20⟩ := len_cons s19; obtain ⟨u21, t21, e21, s21⟩ := len_cons s20; obtain ⟨u22, t22, e22, s22⟩ := len_cons s21; obtain ⟨u23, t23, e23, s23⟩ := len_cons s22; obtain ⟨u24, t24, e24, s24⟩ := len_cons s23; obtain ⟨u25, t25, e25, s25⟩ := len_cons s24; obtain ⟨u26, t26, e26, s26⟩ := len_cons s25; obtain ⟨u27, t27, e27, s27⟩ := len_cons s26; obtain ⟨u28, t28, e28, s28⟩ := len_cons s27; obtain ⟨u29, t29, e29, s29⟩ := len_cons s28
        obtain rfl := len_nil s29
        clear hus s0 s1 s2 s3 s4 s5 s6 s7 s8 s9 s10 s11 s12 s13 s14 s15 s16 s17 s18 s19 s20 s21 s22 s23 s24 s25 s26 s27 s28 s29
        subst e29 e28 e27 e26 e25 e24 e23 e22 e21 e20 e19 e18 e17 e16 e15 e14 e13 e12 e11 e10 e9 e8 e7 e6 e5 e4 e3 e2 e1 e0
        have h15 : Ls w' u15 L := h 15 (by kernel_rfl)
        have h7 : u7 = .bool true := h 7 (by kernel_rfl)
        clear h
        simp only [over, Act.put, List.setIfInBounds_toArray, List.set_cons_zero, List.set_cons_succ]
        subst h7
        go_wp2_with (go_at_call 17; refine (laws_texts _ L _ h15 (by omega)).mono ?_)
        rintro _ w5 ⟨v5, rfl, o5, x5⟩
        go_wp2_with fail
        exact postK_normal ⟨_, rfl, o5, x5⟩
      refine AllSteps.cons (fun us hus w' x h => ?_) ?_
      · obtain ⟨u0, t0, e0, s0⟩ := len_cons hus; obtain ⟨u1, t1, e1, s1⟩ := len_cons s0; obtain ⟨u2, t2, e2, s2⟩ := len_cons s1; obtain ⟨u3, t3, e3, s3⟩ := len_cons s2; obtain ⟨u4, t4, e4, s4⟩ := len_cons s3; obtain ⟨u5, t5, e5, s5⟩ := len_cons s4; obtain ⟨u6, t6, e6, s6⟩ := len_cons s5; obtain ⟨u7, t7, e7, s7⟩ := len_cons s6; obtain ⟨u8, t8, e8, s8⟩ := len_cons s7; obtain ⟨u9, t9, e9, s9⟩ := len_cons s8; obtain ⟨u10, t10, e10, s10⟩ := len_cons s9; obtain ⟨u11, t11, e11, s11⟩ := len_cons s10; obtain ⟨u12, t12, e12, s12⟩ := len_cons s11; obtain ⟨u13, t13, e13, s13⟩ := len_cons s12; obtain ⟨u14, t14, e14, s14⟩ := len_cons s13; obtain ⟨u15, t15, e15, s15⟩ := len_cons s14; obtain ⟨u16, t16, e16, s16⟩ := len_cons s15; obtain ⟨u17, t17, e17, s17⟩ := len_cons s16; obtain ⟨u18, t18, e18, s18⟩ := len_cons s17; obtain ⟨u19, t19, e19, s19⟩ := len_cons s18; obtain ⟨u20, t20, e20, s20⟩ := len_cons s19; obtain ⟨u21, t21, e21, s21⟩ := len_cons s20; obtain ⟨u22, t22, e22, s22⟩ := len_cons s21; obtain ⟨u23, t23, e23, s23⟩ := len_cons s22; obtain ⟨u24, t24, e24, s24⟩ := len_cons s23; obtain ⟨u25, t25, e25, s25⟩ := len_cons s24; obtain ⟨u26, t26, e26, s26⟩ := len_cons s25; obtain ⟨u27, t27, e27, s27⟩ := len_cons s26; obtain ⟨u28, t28, e28, s28⟩ := len_cons s27; obtain ⟨u29, t29, e29, s29⟩ := len_cons s28
        obtain rfl := len_nil s29
        clear hus s0 s1 s2 s3 s4 s5 s6 s7 s8 s9 s10 s11 s12 s13 s14 s15 s16 s17 s18 s19 s20 s21 s22 s23 s24 s25 s26 s27 s28 s29
        subst e29 e28 e27 e26 e25 e24 e23 e22 e21 e20 e19 e18 e17 e16 e15 e14 e13 e12 e11 e10 e9 e8 e7 e6 e5 e4 e3 e2 e1 e0
        have h11 : Ss w' u11 L := h 11 (by kernel_rfl)
        have h16 : Ss w' u16 L := h 16 (by kernel_rfl)
        have h7 : u7 = .bool true := h 7 (by kernel_rfl)
        clear h
        simp only [over, Act.put, List.setIfInBounds_toArray, List.set_cons_zero, List.set_cons_succ]
        subst h7
        go_wp2_with (go_at_call 16; refine (laws_same _ _ L L _ h11 h16 rfl).mono ?_)
        rintro _ w5 ⟨rfl, x5⟩
        go_wp2_with fail
        exact postK_normal ⟨_, rfl, rfl, x5⟩
      refine AllSteps.cons (fun us hus w' x h => ?_) ?_
      · obtain ⟨u0, t0, e0, s0⟩ := len_cons hus; obtain ⟨u1, t1, e1, s1⟩ := len_cons s0; obtain ⟨u2, t2, e2, s2⟩ := len_cons s1; obtain ⟨u3, t3, e3, s3⟩ := len_cons s2; obtain ⟨u4, t4, e4, s4⟩ := len_cons s3; obtain ⟨u5, t5, e5, s5⟩ := len_cons s4; obtain ⟨u6, t6, e6, s6⟩ := len_cons s5; obtain ⟨u7, t7, e7, s7⟩ := len_cons s6; obtain ⟨u8, t8, e8, s8⟩ := len_cons s7; obtain ⟨u9, t9, e9, s9⟩ := len_cons s8; obtain ⟨u10, t10, e10, s10⟩ := len_cons s9; obtain ⟨u11, t11, e11, s11⟩ := len_cons s10; obtain ⟨u12, t12, e12, s12⟩ := len_cons s11; obtain ⟨u13, t13, e13, s13⟩ := len_cons s12; obtain ⟨u14, t14, e14, s14⟩ := len_cons s13; obtain ⟨u15, t15, e15, s15⟩ := len_cons s14; obtain ⟨u16, t16, e16, s16⟩ := len_cons s15; obtain ⟨u17, t17, e17, s17⟩ := len_cons s16; obtain ⟨u18, t18, e18, s18⟩ := len_cons s17; obtain ⟨u19, t19, e19, s19⟩ := len_cons s18; obtain ⟨u20, t20, e20, s20⟩ := len_cons s19; obtain ⟨u21, t21, e21, s21⟩ := len_cons s20; obtain ⟨u22, t22, e22, s22⟩ := len_cons s21; obtain ⟨u23, t23, e23, s23⟩ := len_cons s22; obtain ⟨u24, t24, e24, s24⟩ := len_cons s23; obtain ⟨u25, t25, e25, s25⟩ := len_cons s24; obtain ⟨u26, t26, e26, s26⟩ := len_cons s25; obtain ⟨u27, t27, e27, s27⟩ := len_cons s26; obtain ⟨u28, t28, e28, s28⟩ := len_cons s27; obtain ⟨u29, t29, e29, s29⟩ := len_cons s28
        obtain rfl := len_nil s29
        clear hus s0 s1 s2 s3 s4 s5 s6 s7 s8 s9 s10 s11 s12 s13 s14 s15 s16 s17 s18 s19 s20 s21 s22 s23 s24 s25 s26 s27 s28 s29
        subst e29 e28 e27 e26 e25 e24 e23 e22 e21 e20 e19 e18 e17 e16 e15 e14 e13 e12 e11 e10 e9 e8 e7 e6 e5 e4 e3 e2 e1 e0
        have h7 : u7 = .bool true := h 7 (by kernel_rfl)
        have h17 : u17 = .bool true := h 17 (by kernel_rfl)
        clear h
        simp only [over, Act.put, List.setIfInBounds_toArray, List.set_cons_zero, List.set_cons_succ]
        subst h7
        subst h17
        go_wp2_with fail
        exact postK_normal ⟨_, rfl, rfl, Ext.refl _⟩
      refine AllSteps.cons (fun us hus w' x h => ?_) ?_
      · obtain ⟨u0, t0, e0, s0⟩ := len_cons hus; obtain ⟨u1, t1, e1, s1⟩ := len_cons s0; obtain ⟨u2, t2, e2, s2⟩ := len_cons s1; obtain ⟨u3, t3, e3, s3⟩ := len_cons s2; obtain ⟨u4, t4, e4, s4⟩ := len_cons s3; obtain ⟨u5, t5, e5, s5⟩ := len_cons s4; obtain ⟨u6, t6, e6, s6⟩ := len_cons s5; obtain ⟨u7, t7, e7, s7⟩ := len_cons s6; obtain ⟨u8, t8, e8, s8⟩ := len_cons s7; obtain ⟨u9, t9, e9, s9⟩ := len_cons s8; obtain ⟨u10, t10, e10, s10⟩ := len_cons s9; obtain ⟨u11, t11, e11, s11⟩ := len_cons s10; obtain ⟨u12, t12, e12, s12⟩ := len_cons s11; obtain ⟨u13, t13, e13, s13⟩ := len_cons s12; obtain ⟨u14, t14, e14, s14⟩ := len_cons s13; obtain ⟨u15, t15, e15, s15⟩ := len_cons s14; obtain ⟨u16, t16, e16, s16⟩ := len_cons s15; obtain ⟨u17, t17, e17, s17⟩ := len_cons s16; obtain ⟨u18, t18, e18, s18⟩ := len_cons s17; obtain ⟨u19, t19, e19, s19⟩ := len_cons s18; obtain ⟨u20, t20, e20, s20⟩ := len_cons s19; obtain ⟨u21, t21, e21, s21⟩ := len_cons s20; obtain ⟨u22, t22, e22, s22⟩ := len_cons s21; obtain ⟨u23, t23, e23, s23⟩ := len_cons s22; obtain ⟨u24, t24, e24, s24⟩ := len_cons s23; obtain ⟨u25, t25, e25, s25⟩ := len_cons s24; obtain ⟨u26, t26, e26, s26⟩ := len_cons s25; obtain ⟨u27, t27, e27, s27⟩ := len_cons s26; obtain ⟨u28, t28, e28, s28⟩ := len_cons s27; obtain ⟨u29, t29, e29, s29⟩ := len_cons s28
        obtain rfl := len_nil s29
        clear hus s0 s1 s2 s3 s4 s5 s6 s7 s8 s9 s10 s11 s12 s13 s14 s15 s16 s17 s18 s19 s20 s21 s22 s23 s24 s25 s26 s27 s28 s29
        subst e29 e28 e27 e26 e25 e24 e23 e22 e21 e20 e19 e18 e17 e16 e15 e14 e13 e12 e11 e10 e9 e8 e7 e6 e5 e4 e3 e2 e1 e0
        have h18 : u18 = .bool true := h 18 (by kernel_rfl)
        clear h
        simp only [over, Act.put, List.setIfInBounds_toArray, List.set_cons_zero, List.set_cons_succ]
        subst h18
        go_wp2_with fail
        exact postK_normal ⟨_, rfl, rfl, Ext.refl _⟩
      refine AllSteps.cons (fun us hus w' x h => ?_) ?_
      · obtain ⟨u0, t0, e0, s0⟩ := len_cons hus; obtain ⟨u1, t1, e1, s1⟩ := len_cons s0; obtain ⟨u2, t2, e2, s2⟩ := len_cons s1; obtain ⟨u3, t3, e3, s3⟩ := len_cons s2; obtain ⟨u4, t4, e4, s4⟩ := len_cons s3; obtain ⟨u5, t5, e5, s5⟩ := len_cons s4; obtain ⟨u6, t6, e6, s6⟩ := len_cons s5; obtain ⟨u7, t7, e7, s7⟩ := len_cons s6; obtain ⟨u8, t8, e8, s8⟩ := len_cons s7; obtain ⟨u9, t9, e9, s9⟩ := len_cons s8; obtain ⟨u10, t10, e10, s10⟩ := len_cons s9; obtain ⟨u11, t11, e11, s11⟩ := len_cons s10; obtain ⟨u12, t12, e12, s12⟩ := len_cons s11; obtain ⟨u13, t13, e13, s13⟩ := len_cons s12; obtain ⟨u14, t14, e14, s14⟩ := len_cons s13; obtain ⟨u15, t15, e15, s15⟩ := len_cons s14; obtain ⟨u16, t16, e16, s16⟩ := len_cons s15; obtain ⟨u17, t17, e17, s17⟩ := len_cons s16; obtain ⟨u18, t18, e18, s18⟩ := len_cons s17; obtain ⟨u19, t19, e19, s19⟩ := len_cons s18; obtain ⟨u20, t20, e20, s20⟩ := len_cons s19; obtain ⟨u21, t21, e21, s21⟩ := len_cons s20; obtain ⟨u22, t22, e22, s22⟩ := len_cons s21; obtain ⟨u23, t23, e23, s23⟩ := len_cons s22; obtain ⟨u24, t24, e24, s24⟩ := len_cons s23; obtain ⟨u25, t25, e25, s25⟩ := len_cons s24; obtain ⟨u26, t26, e26, s26⟩ := len_cons s25; obtain ⟨u27, t27, e27, s27⟩ := len_cons s26; obtain ⟨u28, t28, e28, s28⟩ := len_cons s27; obtain ⟨u29, t29, e29, s29⟩ := len_cons s28
        obtain rfl := len_nil s29
        clear hus s0 s1 s2 s3 s4 s5 s6 s7 s8 s9 s10 s11 s12 s13 s14 s15 s16 s17 s18 s19 s20 s21 s22 s23 s24 s25 s26 s27 s28 s29
        subst e29 e28 e27 e26 e25 e24 e23 e22 e21 e20 e19 e18 e17 e16 e15 e14 e13 e12 e11 e10 e9 e8 e7 e6 e5 e4 e3 e2 e1 e0
        have h19 : u19 = .bool true := h 19 (by kernel_rfl)
        clear h
        simp only [over, Act.put, List.setIfInBounds_toArray, List.set_cons_zero, List.set_cons_succ]
        subst h19
        go_wp2_with fail
        exact postK_normal ⟨_, rfl, rfl, Ext.refl _⟩
      refine AllSteps.cons (fun us hus w' x h => ?_) ?_
      · obtain ⟨u0, t0, e0, s0⟩ := len_cons hus; obtain ⟨u1, t1, e1, s1⟩ := len_cons s0; obtain ⟨u2, t2, e2, s2⟩ := len_cons s1; obtain ⟨u3, t3, e3, s3⟩ := len_cons s2; obtain ⟨u4, t4, e4, s4⟩ := len_cons s3; obtain ⟨u5, t5, e5, s5⟩ := len_cons s4; obtain ⟨u6, t6, e6, s6⟩ := len_cons s5; obtain ⟨u7, t7, e7, s7⟩ := len_cons s6; obtain ⟨u8, t8, e8, s8⟩ := len_cons s7; obtain ⟨u9, t9, e9, s9⟩ := len_cons s8; obtain ⟨u10, t10, e10, s10⟩ := len_cons s9; obtain ⟨u11, t11, e11, s11⟩ := len_cons s10; obtain ⟨u12, t12, e12, s12⟩ := len_cons s11; obtain ⟨u13, t13, e13, s13⟩ := len_cons s12; obtain ⟨u14, t14, e14, s14⟩ := len_cons s13; obtain ⟨u15, t15, e15, s15⟩ := len_cons s14; obtain ⟨u16, t16, e16, s16⟩ := len_cons s15; obtain ⟨u17, t17, e17, s17⟩ := len_cons s16; obtain ⟨u18, t18, e18, s18⟩ := len_cons s17; obtain ⟨u19, t19, e19, s19⟩ := len_cons s18; obtain ⟨u20, t20, e20, s20⟩ := len_cons s19; obtain ⟨u21, t21, e21, s21⟩ := len_cons s20; obtain ⟨u22, t22, e22, s22⟩ := len_cons s21; obtain ⟨u23, t23, e23, s23⟩ := len_cons s22; obtain ⟨u24, t24, e24, s24⟩ := len_cons s23; obtain ⟨u25, t25, e25, s25⟩ := len_cons s24; obtain ⟨u26, t26, e26, s26⟩ := len_cons s25; obtain ⟨u27, t27, e27, s27⟩ := len_cons s26; obtain ⟨u28, t28, e28, s28⟩ := len_cons s27; obtain ⟨u29, t29, e29, s29⟩ := len_cons s28
        obtain rfl := len_nil s29
        clear hus s0 s1 s2 s3 s4 s5 s6 s7 s8 s9 s10 s11 s12 s13 s14 s15 s16 s17 s18 s19 s20 s21 s22 s23 s24 s25 s26 s27 s28 s29
        subst e29 e28 e27 e26 e25 e24 e23 e22 e21 e20 e19 e18 e17 e16 e15 e14 e13 e12 e11 e10 e9 e8 e7 e6 e5 e4 e3 e2 e1 e0
        have h20 : u20 = .string ⟨T.toArray⟩ := h 20 (by kernel_rfl)
        have h19 : u19 = .bool true := h 19 (by kernel_rfl)
        clear h
        simp only [over, Act.put, List.setIfInBounds_toArray, List.set_cons_zero, List.set_cons_succ]
        subst h20
        subst h19
        have he := HEE.out
        go_wp2_with fail
        exact postK_normal ⟨_, rfl, rfl, Ext.refl _⟩
      refine AllSteps.cons (fun us hus w' x h => ?_) ?_
      · obtain ⟨u0, t0, e0, s0⟩ := len_cons hus; obtain ⟨u1, t1, e1, s1⟩ := len_cons s0; obtain ⟨u2, t2, e2, s2⟩ := len_cons s1; obtain ⟨u3, t3, e3, s3⟩ := len_cons s2; obtain ⟨u4, t4, e4, s4⟩ := len_cons s3; obtain ⟨u5, t5, e5, s5⟩ := len_cons s4; obtain ⟨u6, t6, e6, s6⟩ := len_cons s5; obtain ⟨u7, t7, e7, s7⟩ := len_cons s6; obtain ⟨u8, t8, e8, s8⟩ := len_cons s7; obtain ⟨u9, t9, e9, s9⟩ := len_cons s8; obtain ⟨u10, t10, e10, s10⟩ := len_cons s9; obtain ⟨u11, t11, e11, s11⟩ := len_cons s10; obtain ⟨u12, t12, e12, s12⟩ := len_cons s11; obtain ⟨u13, t13, e13, s13⟩ := len_cons s12; obtain ⟨u14, t14, e14, s14⟩ := len_cons s13; obtain ⟨u15, t15, e15, s15⟩ := len_cons s14; obtain ⟨u16, t16, e16, s16⟩ := len_cons s15; obtain ⟨u17, t17, e17, s17⟩ := len_cons s16; obtain ⟨u18, t18, e18, s18⟩ := len_cons s17; obtain ⟨u19, t19, e19, s19⟩ := len_cons s18; obtain ⟨u20, t20, e20, s20⟩ := len_cons s19; obtain ⟨u21, t21, e21, s21⟩ := len_cons s20; obtain ⟨u22, t22, e22, s22⟩ := len_cons s21; obtain ⟨u23, t23, e23, s23⟩ := len_cons s22; obtain ⟨u24, t24, e24, s24⟩ := len_cons s23; obtain ⟨u25, t25, e25, s25⟩ := len_cons s24; obtain ⟨u26, t26, e26, s26⟩ := len_cons s25; obtain ⟨u27, t27, e27, s27⟩ := len_cons s26; obtain ⟨u28, t28, e28, s28⟩ := len_cons s27; obtain ⟨u29, t29, e29, s29⟩ := len_cons s28
        obtain rfl := len_nil s29
        clear hus s0 s1 s2 s3 s4 s5 s6 s7 s8 s9 s10 s11 s12 s13 s14 s15 s16 s17 s18 s19 s20 s21 s22 s23 s24 s25 s26 s27 s28 s29
        subst e29 e28 e27 e26 e25 e24 e23 e22 e21 e20 e19 e18 e17 e16 e15 e14 e13 e12 e11 e10 e9 e8 e7 e6 e5 e4 e3 e2 e1 e0
        have h19 : u19 = .bool true := h 19 (by kernel_rfl)
        clear h
        simp only [over, Act.put, List.setIfInBounds_toArray, List.set_cons_zero, List.set_cons_succ]
        subst h19
        go_wp2_with fail
        exact postK_normal ⟨_, rfl, rfl, Ext.refl _⟩
      refine AllSteps.cons (fun us hus w' x h => ?_) ?_
      · obtain ⟨u0, t0, e0, s0⟩ := len_cons hus; obtain ⟨u1, t1, e1, s1⟩ := len_cons s0; obtain ⟨u2, t2, e2, s2⟩ := len_cons s1; obtain ⟨u3, t3, e3, s3⟩ := len_cons s2; obtain ⟨u4, t4, e4, s4⟩ := len_cons s3; obtain ⟨u5, t5, e5, s5⟩ := len_cons s4; obtain ⟨u6, t6, e6, s6⟩ := len_cons s5; obtain ⟨u7, t7, e7, s7⟩ := len_cons s6; obtain ⟨u8, t8, e8, s8⟩ := len_cons s7; obtain ⟨u9, t9, e9, s9⟩ := len_cons s8; obtain ⟨u10, t10, e10, s10⟩ := len_cons s9; obtain ⟨u11, t11, e11, s11⟩ := len_cons s10; obtain ⟨u12, t12, e12, s12⟩ := len_cons s11; obtain ⟨u13, t13, e13, s13⟩ := len_cons s12; obtain ⟨u14, t14, e14, s14⟩ := len_cons s13; obtain ⟨u15, t15, e15, s15⟩ := len_cons s14; obtain ⟨u16, t16, e16, s16⟩ := len_cons s15; obtain ⟨u17, t17, e17, s17⟩ := len_cons s16; obtain ⟨u18, t18, e18, s18⟩ := len_cons s17; obtain ⟨u19, t19, e19, s19⟩ := len_cons s18; obtain ⟨u20, t20, e20, s20⟩ := len_cons s19; obtain ⟨u21, t21, e21, s21⟩ := len_cons s20; obtain ⟨u22, t22, e22, s22⟩ := len_cons s21; obtain ⟨u23, t23, e23, s23⟩ := len_cons s22; obtain ⟨u24, t24, e24, s24⟩ := len_cons s23; obtain ⟨u25, t25, e25, s25⟩ := len_cons s24; obtain ⟨u26, t26, e26, s26⟩ := len_cons s25; obtain ⟨u27, t27, e27, s27⟩ := len_cons s26; obtain ⟨u28, t28, e28, s28⟩ := len_cons s27; obtain ⟨u29, t29, e29, s29⟩ := len_cons s28
        obtain rfl := len_nil s29
        clear hus s0 s1 s2 s3 s4 s5 s6 s7 s8 s9 s10 s11 s12 s13 s14 s15 s16 s17 s18 s19 s20 s21 s22 s23 s24 s25 s26 s27 s28 s29
        subst e29 e28 e27 e26 e25 e24 e23 e22 e21 e20 e19 e18 e17 e16 e15 e14 e13 e12 e11 e10 e9 e8 e7 e6 e5 e4 e3 e2 e1 e0
        have h22 : u22 = .string a0 := h 22 (by kernel_rfl)
        have h19 : u19 = .bool true := h 19 (by kernel_rfl)
        clear h
        simp only [over, Act.put, List.setIfInBounds_toArray, List.set_cons_zero, List.set_cons_succ]
        subst h22
        subst h19
        go_wp2_with (refine wpList_toBytes rfl 9 27 _ rfl 5 Tryd.underlying9 Tryd.underlying27 Tryd.underlying5 _ rfl hmax ?_)
        intro v5 w5 o5 x5
        go_wp2_with fail
        exact postK_normal ⟨_, rfl, o5.bs, x5⟩
      refine AllSteps.cons (fun us hus w' x h => ?_) ?_
      · obtain ⟨u0, t0, e0, s0⟩ := len_cons hus; obtain ⟨u1, t1, e1, s1⟩ := len_cons s0; obtain ⟨u2, t2, e2, s2⟩ := len_cons s1; obtain ⟨u3, t3, e3, s3⟩ := len_cons s2; obtain ⟨u4, t4, e4, s4⟩ := len_cons s3; obtain ⟨u5, t5, e5, s5⟩ := len_cons s4; obtain ⟨u6, t6, e6, s6⟩ := len_cons s5; obtain ⟨u7, t7, e7, s7⟩ := len_cons s6; obtain ⟨u8, t8, e8, s8⟩ := len_cons s7; obtain ⟨u9, t9, e9, s9⟩ := len_cons s8; obtain ⟨u10, t10, e10, s10⟩ := len_cons s9; obtain ⟨u11, t11, e11, s11⟩ := len_cons s10; obtain ⟨u12, t12, e12, s12⟩ := len_cons s11; obtain ⟨u13, t13, e13, s13⟩ := len_cons s12; obtain ⟨u14, t14, e14, s14⟩ := len_cons s13; obtain ⟨u15, t15, e15, s15⟩ := len_cons s14; obtain ⟨u16, t16, e16, s16⟩ := len_cons s15; obtain ⟨u17, t17, e17, s17⟩ := len_cons s16; obtain ⟨u18, t18, e18, s18⟩ := len_cons s17; obtain ⟨u19, t19, e19, s19⟩ := len_cons s18; obtain ⟨u20, t20, e20, s20⟩ := len_cons s19; obtain ⟨u21, t21, e21, s21⟩ := len_cons s20; obtain ⟨u22, t22, e22, s22⟩ := len_cons s21; obtain ⟨u23, t23, e23, s23⟩ := len_cons s22; obtain ⟨u24, t24, e24, s24⟩ := len_cons s23; obtain ⟨u25, t25, e25, s25⟩ := len_cons s24; obtain ⟨u26, t26, e26, s26⟩ := len_cons s25; obtain ⟨u27, t27, e27, s27⟩ := len_cons s26; obtain ⟨u28, t28, e28, s28⟩ := len_cons s27; obtain ⟨u29, t29, e29, s29⟩ := len_cons s28
        obtain rfl := len_nil s29
        clear hus s0 s1 s2 s3 s4 s5 s6 s7 s8 s9 s10 s11 s12 s13 s14 s15 s16 s17 s18 s19 s20 s21 s22 s23 s24 s25 s26 s27 s28 s29
        subst e29 e28 e27 e26 e25 e24 e23 e22 e21 e20 e19 e18 e17 e16 e15 e14 e13 e12 e11 e10 e9 e8 e7 e6 e5 e4 e3 e2 e1 e0
        have h23 : Bs w' u23 a0.data.toList := h 23 (by kernel_rfl)
        have h19 : u19 = .bool true := h 19 (by kernel_rfl)
        clear h
        simp only [over, Act.put, List.setIfInBounds_toArray, List.set_cons_zero, List.set_cons_succ]
        subst h19
        have c5 := spec_TrimSpace _ _ _ (by show a0.size ≤ _; omega) h23
        rw [HTT.out] at c5
        go_wp2_with (go_at_call 20; refine c5.mono ?_)
        rintro _ w5 ⟨v5, rfl, o5, x5⟩
        go_wp2_with fail
        exact postK_normal ⟨_, rfl, o5.bs, x5⟩
      refine AllSteps.cons (fun us hus w' x h => ?_) ?_
      · obtain ⟨u0, t0, e0, s0⟩ := len_cons hus; obtain ⟨u1, t1, e1, s1⟩ := len_cons s0; obtain ⟨u2, t2, e2, s2⟩ := len_cons s1; obtain ⟨u3, t3, e3, s3⟩ := len_cons s2; obtain ⟨u4, t4, e4, s4⟩ := len_cons s3; obtain ⟨u5, t5, e5, s5⟩ := len_cons s4; obtain ⟨u6, t6, e6, s6⟩ := len_cons s5; obtain ⟨u7, t7, e7, s7⟩ := len_cons s6; obtain ⟨u8, t8, e8, s8⟩ := len_cons s7; obtain ⟨u9, t9, e9, s9⟩ := len_cons s8; obtain ⟨u10, t10, e10, s10⟩ := len_cons s9; obtain ⟨u11, t11, e11, s11⟩ := len_cons s10; obtain ⟨u12, t12, e12, s12⟩ := len_cons s11; obtain ⟨u13, t13, e13, s13⟩ := len_cons s12; obtain ⟨u14, t14, e14, s14⟩ := len_cons s13; obtain ⟨u15, t15, e15, s15⟩ := len_cons s14; obtain ⟨u16, t16, e16, s16⟩ := len_cons s15; obtain ⟨u17, t17, e17, s17⟩ := len_cons s16; obtain ⟨u18, t18, e18, s18⟩ := len_cons s17; obtain ⟨u19, t19, e19, s19⟩ := len_cons s18; obtain ⟨u20, t20, e20, s20⟩ := len_cons s19; obtain ⟨u21, t21, e21, s21⟩ := len_cons s20; obtain ⟨u22, t22, e22, s22⟩ := len_cons s21; obtain ⟨u23, t23, e23, s23⟩ := len_cons s22; obtain ⟨u24, t24, e24, s24⟩ := len_cons s23; obtain ⟨u25, t25, e25, s25⟩ := len_cons s24; obtain ⟨u26, t26, e26, s26⟩ := len_cons s25; obtain ⟨u27, t27, e27, s27⟩ := len_cons s26; obtain ⟨u28, t28, e28, s28⟩ := len_cons s27; obtain ⟨u29, t29, e29, s29⟩ := len_cons s28
        obtain rfl := len_nil s29
        clear hus s0 s1 s2 s3 s4 s5 s6 s7 s8 s9 s10 s11 s12 s13 s14 s15 s16 s17 s18 s19 s20 s21 s22 s23 s24 s25 s26 s27 s28 s29
        subst e29 e28 e27 e26 e25 e24 e23 e22 e21 e20 e19 e18 e17 e16 e15 e14 e13 e12 e11 e10 e9 e8 e7 e6 e5 e4 e3 e2 e1 e0
        have h24 : Bs w' u24 T := h 24 (by kernel_rfl)
        have h19 : u19 = .bool true := h 19 (by kernel_rfl)
        clear h
        simp only [over, Act.put, List.setIfInBounds_toArray, List.set_cons_zero, List.set_cons_succ]
        subst h19
        go_wp2_with (refine wpList_toString rfl 27 9 _ rfl 5 Tryd.underlying27 Tryd.underlying5 Tryd.underlying9 _ _ rfl h24 ?_)
        exact postK_normal ⟨_, rfl, rfl, Ext.refl _⟩
      refine AllSteps.cons (fun us hus w' x h => ?_) ?_
      · obtain ⟨u0, t0, e0, s0⟩ := len_cons hus; obtain ⟨u1, t1, e1, s1⟩ := len_cons s0; obtain ⟨u2, t2, e2, s2⟩ := len_cons s1; obtain ⟨u3, t3, e3, s3⟩ := len_cons s2; obtain ⟨u4, t4, e4, s4⟩ := len_cons s3; obtain ⟨u5, t5, e5, s5⟩ := len_cons s4; obtain ⟨u6, t6, e6, s6⟩ := len_cons s5; obtain ⟨u7, t7, e7, s7⟩ := len_cons s6; obtain ⟨u8, t8, e8, s8⟩ := len_cons s7; obtain ⟨u9, t9, e9, s9⟩ := len_cons s8; obtain ⟨u10, t10, e10, s10⟩ := len_cons s9; obtain ⟨u11, t11, e11, s11⟩ := len_cons s10; obtain ⟨u12, t12, e12, s12⟩ := len_cons s11; obtain ⟨u13, t13, e13, s13⟩ := len_cons s12; obtain ⟨u14, t14, e14, s14⟩ := len_cons s13; obtain ⟨u15, t15, e15, s15⟩ := len_cons s14; obtain ⟨u16, t16, e16, s16⟩ := len_cons s15; obtain ⟨u17, t17, e17, s17⟩ := len_cons s16; obtain ⟨u18, t18, e18, s18⟩ := len_cons s17; obtain ⟨u19, t19, e19, s19⟩ := len_cons s18; obtain ⟨u20, t20, e20, s20⟩ := len_cons s19; obtain ⟨u21, t21, e21, s21⟩ := len_cons s20; obtain ⟨u22, t22, e22, s22⟩ := len_cons s21; obtain ⟨u23, t23, e23, s23⟩ := len_cons s22; obtain ⟨u24, t24, e24, s24⟩ := len_cons s23; obtain ⟨u25, t25, e25, s25⟩ := len_cons s24; obtain ⟨u26, t26, e26, s26⟩ := len_cons s25; obtain ⟨u27, t27, e27, s27⟩ := len_cons s26; obtain ⟨u28, t28, e28, s28⟩ := len_cons s27; obtain ⟨u29, t29, e29, s29⟩ := len_cons s28
        obtain rfl := len_nil s29
        clear hus s0 s1 s2 s3 s4 s5 s6 s7 s8 s9 s10 s11 s12 s13 s14 s15 s16 s17 s18 s19 s20 s21 s22 s23 s24 s25 s26 s27 s28 s29
        subst e29 e28 e27 e26 e25 e24 e23 e22 e21 e20 e19 e18 e17 e16 e15 e14 e13 e12 e11 e10 e9 e8 e7 e6 e5 e4 e3 e2 e1 e0
        have h25 : u25 = .string ⟨T.toArray⟩ := h 25 (by kernel_rfl)
        have h19 : u19 = .bool true := h 19 (by kernel_rfl)
        clear h
        simp only [over, Act.put, List.setIfInBounds_toArray, List.set_cons_zero, List.set_cons_succ]
        subst h25
        subst h19
        have he := HEE.out
        go_wp2_with fail
        exact postK_normal ⟨_, rfl, rfl, Ext.refl _⟩
      refine AllSteps.cons (fun us hus w' x h => ?_) ?_
      · obtain ⟨u0, t0, e0, s0⟩ := len_cons hus; obtain ⟨u1, t1, e1, s1⟩ := len_cons s0; obtain ⟨u2, t2, e2, s2⟩ := len_cons s1; obtain ⟨u3, t3, e3, s3⟩ := len_cons s2; obtain ⟨u4, t4, e4, s4⟩ := len_cons s3; obtain ⟨u5, t5, e5, s5⟩ := len_cons s4; obtain ⟨u6, t6, e6, s6⟩ := len_cons s5; obtain ⟨u7, t7, e7, s7⟩ := len_cons s6; obtain ⟨u8, t8, e8, s8⟩ := len_cons s7; obtain ⟨u9, t9, e9, s9⟩ := len_cons s8; obtain ⟨u10, t10, e10, s10⟩ := len_cons s9; obtain ⟨u11, t11, e11, s11⟩ := len_cons s10; obtain ⟨u12, t12, e12, s12⟩ := len_cons s11; obtain ⟨u13, t13, e13, s13⟩ := len_cons s12; obtain ⟨u14, t14, e14, s14⟩ := len_cons s13; obtain ⟨u15, t15, e15, s15⟩ := len_cons s14; obtain ⟨u16, t16, e16, s16⟩ := len_cons s15; obtain ⟨u17, t17, e17, s17⟩ := len_cons s16; obtain ⟨u18, t18, e18, s18⟩ := len_cons s17; obtain ⟨u19, t19, e19, s19⟩ := len_cons s18; obtain ⟨u20, t20, e20, s20⟩ := len_cons s19; obtain ⟨u21, t21, e21, s21⟩ := len_cons s20; obtain ⟨u22, t22, e22, s22⟩ := len_cons s21; obtain ⟨u23, t23, e23, s23⟩ := len_cons s22; obtain ⟨u24, t24, e24, s24⟩ := len_cons s23; obtain ⟨u25, t25, e25, s25⟩ := len_cons s24; obtain ⟨u26, t26, e26, s26⟩ := len_cons s25; obtain ⟨u27, t27, e27, s27⟩ := len_cons s26; obtain ⟨u28, t28, e28, s28⟩ := len_cons s27; obtain ⟨u29, t29, e29, s29⟩ := len_cons s28
        obtain rfl := len_nil s29
        clear hus s0 s1 s2 s3 s4 s5 s6 s7 s8 s9 s10 s11 s12 s13 s14 s15 s16 s17 s18 s19 s20 s21 s22 s23 s24 s25 s26 s27 s28 s29
        subst e29 e28 e27 e26 e25 e24 e23 e22 e21 e20 e19 e18 e17 e16 e15 e14 e13 e12 e11 e10 e9 e8 e7 e6 e5 e4 e3 e2 e1 e0
        have h21 : u21 = .bool E := h 21 (by kernel_rfl)
        have h26 : u26 = .bool E := h 26 (by kernel_rfl)
        have h19 : u19 = .bool true := h 19 (by kernel_rfl)
        clear h
        simp only [over, Act.put, List.setIfInBounds_toArray, List.set_cons_zero, List.set_cons_succ]
        subst h21
        subst h26
        subst h19
        have he := HBE.out
        go_wp2_with fail
        exact postK_normal ⟨_, rfl, rfl, Ext.refl _⟩
      refine AllSteps.cons (fun us hus w' x h => ?_) ?_
      · obtain ⟨u0, t0, e0, s0⟩ := len_cons hus; obtain ⟨u1, t1, e1, s1⟩ := len_cons s0; obtain ⟨u2, t2, e2, s2⟩ := len_cons s1; obtain ⟨u3, t3, e3, s3⟩ := len_cons s2; obtain ⟨u4, t4, e4, s4⟩ := len_cons s3; obtain ⟨u5, t5, e5, s5⟩ := len_cons s4; obtain ⟨u6, t6, e6, s6⟩ := len_cons s5; obtain ⟨u7, t7, e7, s7⟩ := len_cons s6; obtain ⟨u8, t8, e8, s8⟩ := len_cons s7; obtain ⟨u9, t9, e9, s9⟩ := len_cons s8; obtain ⟨u10, t10, e10, s10⟩ := len_cons s9; obtain ⟨u11, t11, e11, s11⟩ := len_cons s10; obtain ⟨u12, t12, e12, s12⟩ := len_cons s11; obtain ⟨u13, t13, e13, s13⟩ := len_cons s12; obtain ⟨u14, t14, e14, s14⟩ := len_cons s13; obtain ⟨u15, t15, e15, s15⟩ := len_cons s14; obtain ⟨u16, t16, e16, s16⟩ := len_cons s15; obtain ⟨u17, t17, e17, s17⟩ := len_cons s16; obtain ⟨u18, t18, e18, s18⟩ := len_cons s17; obtain ⟨u19, t19, e19, s19⟩ := len_cons s18; obtain ⟨u20, t20, e20, s20⟩ := len_cons s19; obtain ⟨u21, t21, e21, s21⟩ := len_cons s20; obtain ⟨u22, t22, e22, s22⟩ := len_cons s21; obtain ⟨u23, t23, e23, s23⟩ := len_cons s22; obtain ⟨u24, t24, e24, s24⟩ := len_cons s23; obtain ⟨u25, t25, e25, s25⟩ := len_cons s24; obtain ⟨u26, t26, e26, s26⟩ := len_cons s25; obtain ⟨u27, t27, e27, s27⟩ := len_cons s26; obtain ⟨u28, t28, e28, s28⟩ := len_cons s27; obtain ⟨u29, t29, e29, s29⟩ := len_cons s28
        obtain rfl := len_nil s29
        clear hus s0 s1 s2 s3 s4 s5 s6 s7 s8 s9 s10 s11 s12 s13 s14 s15 s16 s17 s18 s19 s20 s21 s22 s23 s24 s25 s26 s27 s28 s29
        subst e29 e28 e27 e26 e25 e24 e23 e22 e21 e20 e19 e18 e17 e16 e15 e14 e13 e12 e11 e10 e9 e8 e7 e6 e5 e4 e3 e2 e1 e0
        have h19 : u19 = .bool true := h 19 (by kernel_rfl)
        have h27 : u27 = .bool true := h 27 (by kernel_rfl)
        clear h
        simp only [over, Act.put, List.setIfInBounds_toArray, List.set_cons_zero, List.set_cons_succ]
        subst h19
        subst h27
        go_wp2_with fail
        exact postK_normal ⟨_, rfl, rfl, Ext.refl _⟩
      refine AllSteps.cons (fun us hus w' x h => ?_) ?_
      · obtain ⟨u0, t0, e0, s0⟩ := len_cons hus; obtain ⟨u1, t1, e1, s1⟩ := len_cons s0; obtain ⟨u2, t2, e2, s2⟩ := len_cons s1; obtain ⟨u3, t3, e3, s3⟩ := len_cons s2; obtain ⟨u4, t4, e4, s4⟩ := len_cons s3; obtain ⟨u5, t5, e5, s5⟩ := len_cons s4; obtain ⟨u6, t6, e6, s6⟩ := len_cons s5; obtain ⟨u7, t7, e7, s7⟩ := len_cons s6; obtain ⟨u8, t8, e8, s8⟩ := len_cons s7; obtain ⟨u9, t9, e9, s9⟩ := len_cons s8; obtain ⟨u10, t10, e10, s10⟩ := len_cons s9; obtain ⟨u11, t11, e11, s11⟩ := len_cons s10; obtain ⟨u12, t12, e12, s12⟩ := len_cons s11; obtain ⟨u13, t13, e13, s13⟩ := len_cons s12; obtain ⟨u14, t14, e14, s14⟩ := len_cons s13; obtain ⟨u15, t15, e15, s15⟩ := len_cons s14; obtain ⟨u16, t16, e16, s16⟩ := len_cons s15; obtain ⟨u17, t17, e17, s17⟩ := len_cons s16; obtain ⟨u18, t18, e18, s18⟩ := len_cons s17; obtain ⟨u19, t19, e19, s19⟩ := len_cons s18; obtain ⟨u20, t20, e20, s20⟩ := len_cons s19; obtain ⟨u21, t21, e21, s21⟩ := len_cons s20; obtain ⟨u22, t22, e22, s22⟩ := len_cons s21; obtain ⟨u23, t23, e23, s23⟩ := len_cons s22; obtain ⟨u24, t24, e24, s24⟩ := len_cons s23; obtain ⟨u25, t25, e25, s25⟩ := len_cons s24; obtain ⟨u26, t26, e26, s26⟩ := len_cons s25; obtain ⟨u27, t27, e27, s27⟩ := len_cons s26; obtain ⟨u28, t28, e28, s28⟩ := len_cons s27; obtain ⟨u29, t29, e29, s29⟩ := len_cons s28
        obtain rfl := len_nil s29
        clear hus s0 s1 s2 s3 s4 s5 s6 s7 s8 s9 s10 s11 s12 s13 s14 s15 s16 s17 s18 s19 s20 s21 s22 s23 s24 s25 s26 s27 s28 s29
        subst e29 e28 e27 e26 e25 e24 e23 e22 e21 e20 e19 e18 e17 e16 e15 e14 e13 e12 e11 e10 e9 e8 e7 e6 e5 e4 e3 e2 e1 e0
        have h28 : u28 = .bool true := h 28 (by kernel_rfl)
        clear h
        simp only [over, Act.put, List.setIfInBounds_toArray, List.set_cons_zero, List.set_cons_succ]
        subst h28
        go_wp2_with fail
        exact postK_normal ⟨_, rfl, rfl, Ext.refl _⟩
      exact AllSteps.nil
    case fin =>
      intro us hus w' x h
      obtain ⟨u0, t0, e0, s0⟩ := len_cons hus; obtain ⟨u1, t1, e1, s1⟩ := len_cons s0; obtain ⟨u2, t2, e2, s2⟩ := len_cons s1; obtain ⟨u3, t3, e3, s3⟩ := len_cons s2; obtain ⟨u4, t4, e4, s4⟩ := len_cons s3; obtain ⟨u5, t5, e5, s5⟩ := len_cons s4; obtain ⟨u6, t6, e6, s6⟩ := len_cons s5; obtain ⟨u7, t7, e7, s7⟩ := len_cons s6; obtain ⟨u8, t8, e8, s8⟩ := len_cons s7; obtain ⟨u9, t9, e9, s9⟩ := len_cons s8; obtain ⟨u10, t10, e10, s10⟩ := len_cons s9; obtain ⟨u11, t11, e11, s11⟩ := len_cons s10; obtain ⟨u12, t12, e12, s12⟩ := len_cons s11; obtain ⟨u13, t13, e13, s13⟩ := len_cons s12; obtain ⟨u14, t14, e14, s14⟩ := len_cons s13; obtain ⟨u15, t15, e15, s15⟩ := len_cons s14; obtain ⟨u16, t16, e16, s16⟩ := len_cons s15; obtain ⟨u17, t17, e17, s17⟩ := len_cons s16; obtain ⟨u18, t18, e18, s18⟩ := len_cons s17; obtain ⟨u19, t19, e19, s19⟩ := len_cons s18; obtain ⟨u20, t20, e20, s20⟩ := len_cons s19; obtain ⟨u21, t21, e21, s21⟩ := len_cons s20; obtain ⟨u22, t22, e22, s22⟩ := len_cons s21; obtain ⟨u23, t23, e23, s23⟩ := len_cons s22; obtain ⟨u24, t24, e24, s24⟩ := len_cons s23; obtain ⟨u25, t25, e25, s25⟩ := len_cons s24; obtain ⟨u26, t26, e26, s26⟩ := len_cons s25; obtain ⟨u27, t27, e27, s27⟩ := len_cons s26; obtain ⟨u28, t28, e28, s28⟩ := len_cons s27; obtain ⟨u29, t29, e29, s29⟩ := len_cons s28
      obtain rfl := len_nil s29
      clear hus s0 s1 s2 s3 s4 s5 s6 s7 s8 s9 s10 s11 s12 s13 s14 s15 s16 s17 s18 s19 s20 s21 s22 s23 s24 s25 s26 s27 s28 s29
      subst e29 e28 e27 e26 e25 e24 e23 e22 e21 e20 e19 e18 e17 e16 e15 e14 e13 e12 e11 e10 e9 e8 e7 e6 e5 e4 e3 e2 e1 e0
      have h29 : u29 = .bool true := h 29 (by decide)
      clear h
      subst h29
      simp only [over, Act.put, List.setIfInBounds_toArray, List.set_cons_zero, List.set_cons_succ]
      go_wp2_with fail
      go_meet
      exact ⟨rfl, x⟩
  case rest =>
    obtain ⟨rfl, x8⟩ := hcut
    go_wp2_with fail
    go_ret
    exact ⟨rfl, (X.trans x8).below⟩
end Go.Proofs.YthbfdajbajijeaaDoor
