/- The walk of the law FnTrimTest: it returns true where the texts have at most 2^20 bytes. Printed by testlaws.py. -/
import Derived.Test.YtdlobdbclgcogaaDoorCutW
import Derived.Test.YtdlobdbclgcogaaDoorFuncW2
import Derived.Test.YtdlobdbclgcogaaDoorPointsW
import Derived.Test.YtdlobdbclgcogaaDoorRunesW
import Derived.Test.YtdlobdbclgcogaaDoorMono
import Derived.Deep.DeepCutAuto
namespace Go.Proofs.YtdlobdbclgcogaaDoor
open Go.RowKit

set_option maxRecDepth 100000 in
set_option maxHeartbeats 8000000 in
theorem FnTrimTest_walk (w : World) (hT : Tabs w) (a0 : ByteArray) (z0 : a0.size ≤ 1048576) (a1 : ByteArray) (z1 : a1.size ≤ 1048576) :
    Calls Tryd.prog 11 #[.string a0, .string a1] w fun e w' => e = .returned (.bool true) ∧ Below w.heap.size w w' := by
  have hmax : a0.size ≤ maxLen := by unfold maxLen; omega
  have hrl : (runesOf (chunks a1.data.toList)).length ≤ 1048576 := by
    rw [runesOf_length]
    have := chunks_length a1.data.toList
    have e1 : a1.data.toList.length = a1.size := rfl
    omega
  have cP := fun W => spec_PointsR a1 W (by omega)
  have HFTT := Lib.hid (show tB (holdsT (runesOf (chunks a1.data.toList)) false) a0.data.toList = tB (inP a1.data.toList) a0.data.toList from rfl)
  have HFTL := Lib.hid (show tlB (holdsT (runesOf (chunks a1.data.toList)) false) a0.data.toList = tlB (inP a1.data.toList) a0.data.toList from rfl)
  have HFTR := Lib.hid (show trB (holdsT (runesOf (chunks a1.data.toList)) false) a0.data.toList = trB (inP a1.data.toList) a0.data.toList from rfl)
  obtain ⟨TT, hTT⟩ : ∃ x, tB (inP a1.data.toList) a0.data.toList = x := ⟨_, rfl⟩
  obtain ⟨TL, hTL⟩ : ∃ x, tlB (inP a1.data.toList) a0.data.toList = x := ⟨_, rfl⟩
  obtain ⟨TR, hTR⟩ : ∃ x, trB (inP a1.data.toList) a0.data.toList = x := ⟨_, rfl⟩
  obtain ⟨rs, hrs⟩ : ∃ x, runesOf (chunks a1.data.toList) = x := ⟨_, rfl⟩
  simp only [hrs] at cP hrl HFTT HFTL HFTR
  rw [hTT] at HFTT
  rw [hTL] at HFTL
  rw [hTR] at HFTR
  have HTT := Lib.hid hTT
  have HTL := Lib.hid hTL
  have HTR := Lib.hid hTR
  have HNV := Lib.hid (show tB (holdsT [] false) a0.data.toList = a0.data.toList from tB_never (fun r => rfl) _)
  have HWQ := Lib.hid (show (a0.data.toList == a0.toList) = true by rw [ByteArray.toList_eq]; simp)
  have hT0 := hT
  clear hTT hTL hTR hrs hT
  go_enter Tryd.func11, Tryd.ntmps11
  go_wp2_with (go_at_call 32; refine (cP _).mono ?_)
  rintro _ w1 ⟨v1, rfl, i1, X⟩
  go_wp2_with (go_at_call 19; refine (laws_test _ rs _ _ i1 (by omega)).mono ?_)
  rintro _ w2 ⟨v2, rfl, i2, x2⟩
  obtain ⟨a2, c2, rfl, _, _, _⟩ := i2.raw
  replace X := X.trans x2
  clear x2 i1 cP
  go_upto_region 2 with fail
  obtain ⟨n, hn⟩ : ∃ n, w2.heap.size = n := ⟨_, rfl⟩
  have x5 : Ext w2 (w2.alloc (.cells #[.slice a2 rs.length c2, .bool false] 36)) := Ext.alloc _ _
  have f0 : (w2.alloc (.cells #[.slice a2 rs.length c2, .bool false] 36)).cell? ⟨n, 0, none⟩ = some (.slice a2 rs.length c2) := by rw [← hn, World.cell?_alloc_mark]; rfl
  have f1 : (w2.alloc (.cells #[.slice a2 rs.length c2, .bool false] 36)).cell? ⟨n, 1, none⟩ = some (.bool false) := by rw [← hn, World.cell?_alloc_mark]; rfl
  obtain ⟨w5, hw5⟩ : ∃ w5, w2.alloc (.cells #[.slice a2 rs.length c2, .bool false] 36) = w5 := ⟨_, rfl⟩
  rw [hw5] at x5 f0 f1 ⊢
  rw [hn]
  have i5 := i2.ext x5
  replace X := X.trans x5
  clear hn hw5 x5
  have HF0 := Lib.hid f0
  have HF1 := Lib.hid f1
  have HI := Lib.hid i5
  have HT := Lib.hid (hT0.ext X)
  clear i2 f0 f1 i5 hT0
  go_cut [4] (fun s4 wx => s4 = .bool true ∧ Ext w5 wx)
  case first =>
    refine wp_region_mono (by kernel_rfl) [9, 10, 11, 12, 13, 14, 15, 16, 17, 18, 19, 20, 21, 22, 23, 24, 25, 26, 27, 28, 29, 30, 31, 32, 33, 34, 35, 36, 37, 38, 39, 40, 41, 42, 43, 44, 45, 46, 47, 48, 49, 50, 51, 52, 53, 54, 4] (by kernel_rfl) (by decide) (by simp) (by kernel_rfl)
      (fun i => match i with | 0 => (fun v w => v = .string a0) | 1 => (fun v w => Bs w v a0.data.toList) | 2 => (fun v w => v = .string a1) | 3 => (fun v w => Bs w v TT) | 4 => (fun v w => v = .string ⟨TT.toArray⟩) | 5 => (fun v w => v = .string a0) | 6 => (fun v w => Bs w v a0.data.toList) | 7 => (fun v w => v = .agg #[.slice a2 rs.length c2, .bool false]) | 8 => (fun v w => Bs w v TT) | 9 => (fun v w => v = .string ⟨TT.toArray⟩) | 10 => (fun v w => v = .bool true) | 11 => (fun v w => v = .bool true) | 12 => (fun v w => v = .string a0) | 13 => (fun v w => Bs w v a0.data.toList) | 14 => (fun v w => v = .string a1) | 15 => (fun v w => Bs w v TL) | 16 => (fun v w => v = .string ⟨TL.toArray⟩) | 17 => (fun v w => v = .string a0) | 18 => (fun v w => Bs w v a0.data.toList) | 19 => (fun v w => v = .agg #[.slice a2 rs.length c2, .bool false]) | 20 => (fun v w => Bs w v TL) | 21 => (fun v w => v = .string ⟨TL.toArray⟩) | 22 => (fun v w => v = .bool true) | 23 => (fun v w => v = .bool true) | 24 => (fun v w => v = .bool true) | 25 => (fun v w => v = .string a0) | 26 => (fun v w => Bs w v a0.data.toList) | 27 => (fun v w => v = .string a1) | 28 => (fun v w => Bs w v TR) | 29 => (fun v w => v = .string ⟨TR.toArray⟩) | 30 => (fun v w => v = .string a0) | 31 => (fun v w => Bs w v a0.data.toList) | 32 => (fun v w => v = .agg #[.slice a2 rs.length c2, .bool false]) | 33 => (fun v w => Bs w v TR) | 34 => (fun v w => v = .string ⟨TR.toArray⟩) | 35 => (fun v w => v = .bool true) | 36 => (fun v w => v = .bool true) | 37 => (fun v w => v = .bool true) | 38 => (fun v w => v = .string a0) | 39 => (fun v w => Bs w v a0.data.toList) | 40 => (fun v w => ∃ v7, v = .agg #[v7, .bool false] ∧ Is w v7 []) | 41 => (fun v w => Bs w v a0.data.toList) | 42 => (fun v w => v = .string ⟨a0.data.toList.toArray⟩) | 43 => (fun v w => v = .string a0) | 44 => (fun v w => v = .bool true) | 45 => (fun v w => v = .bool true) | 46 => (fun v w => v = .bool true) | _ => fun _ _ => True) ?stable ?steps ?fin
    case stable =>
      intro i v w' w'' h x
      match i, h with
      | 0, h => exact h
      | 1, h => exact (show Bs w' v a0.data.toList from h).ext x
      | 2, h => exact h
      | 3, h => exact (show Bs w' v TT from h).ext x
      | 4, h => exact h
      | 5, h => exact h
      | 6, h => exact (show Bs w' v a0.data.toList from h).ext x
      | 7, h => exact h
      | 8, h => exact (show Bs w' v TT from h).ext x
      | 9, h => exact h
      | 10, h => exact h
      | 11, h => exact h
      | 12, h => exact h
      | 13, h => exact (show Bs w' v a0.data.toList from h).ext x
      | 14, h => exact h
      | 15, h => exact (show Bs w' v TL from h).ext x
      | 16, h => exact h
      | 17, h => exact h
      | 18, h => exact (show Bs w' v a0.data.toList from h).ext x
      | 19, h => exact h
      | 20, h => exact (show Bs w' v TL from h).ext x
      | 21, h => exact h
      | 22, h => exact h
      | 23, h => exact h
      | 24, h => exact h
      | 25, h => exact h
      | 26, h => exact (show Bs w' v a0.data.toList from h).ext x
      | 27, h => exact h
      | 28, h => exact (show Bs w' v TR from h).ext x
      | 29, h => exact h
      | 30, h => exact h
      | 31, h => exact (show Bs w' v a0.data.toList from h).ext x
      | 32, h => exact h
      | 33, h => exact (show Bs w' v TR from h).ext x
      | 34, h => exact h
      | 35, h => exact h
      | 36, h => exact h
      | 37, h => exact h
      | 38, h => exact h
      | 39, h => exact (show Bs w' v a0.data.toList from h).ext x
      | 40, ⟨v7, e7, i7⟩ => exact ⟨v7, e7, i7.ext x⟩
      | 41, h => exact (show Bs w' v a0.data.toList from h).ext x
      | 42, h => exact h
      | 43, h => exact h
      | 44, h => exact h
      | 45, h => exact h
      | 46, h => exact h
      | _ + 47, _ => trivial
    case steps =>
      refine AllSteps.cons (fun us hus w' x h => ?_) ?_
      · obtain ⟨u0, t0, e0, s0⟩ := len_cons hus; obtain ⟨u1, t1, e1, s1⟩ := len_cons s0; obtain ⟨u2, t2, e2, s2⟩ := len_cons s1; obtain ⟨u3, t3, e3, s3⟩ := len_cons s2; obtain ⟨u4, t4, e4, s4⟩ := len_cons s3; obtain ⟨u5, t5, e5, s5⟩ := len_cons s4; obtain ⟨u6, t6, e6, s6⟩ := len_cons s5; obtain ⟨u7, t7, e7, s7⟩ := len_cons s6; obtain ⟨u8, t8, e8, s8⟩ := len_cons s7; obtain ⟨u9, t9, e9, s9⟩ := len_cons s8; obtain ⟨u10, t10, e10, s10⟩ := len_cons s9; obtain ⟨u11, t11, e11, s11⟩ := len_cons s10; obtain ⟨u12, t12, e12, s12⟩ := len_cons s11; obtain ⟨u13, t13, e13, s13⟩ := len_cons s12; obtain ⟨u14, t14, e14, s14⟩ := len_cons s13; obtain ⟨u15, t15, e15, s15⟩ := len_cons s14; obtain ⟨u16, t16, e16, s16⟩ := len_cons s15; obtain ⟨u17, t17, e17, s17⟩ := len_cons s16; obtain ⟨u18, t18, e18, s18⟩ := len_cons s17; obtain ⟨u19, t19, e19, s19⟩ := len_cons s18; obtain ⟨u20, t20, e20, s20⟩ := len_cons s19; obtain ⟨u21, t21, e21, s21⟩ := len_cons s20; obtain ⟨u22, t22, e22, s22⟩ := len_cons s21; obtain ⟨u23, t23, e23, s23⟩ := len_cons s22; obtain ⟨u24, t24, e24, s24⟩ := len_cons s23; obtain ⟨u25, t25, e25, s25⟩ := len_cons s24; obtain ⟨u26, t26, e26, s26⟩ := len_cons s25; obtain ⟨u27, t27, e27, s27⟩ := len_cons s26; obtain ⟨u28, t28, e28, s28⟩ := len_cons s27; obtain ⟨u29, t29, e29, s29⟩ := len_cons s28; obtain ⟨u30, t30, e30, s30⟩ := len_cons s29; obtain ⟨u31, t31, e31, s31⟩ := len_cons s30; obtain ⟨u32, t32, e32, s32⟩ := len_cons s31; obtain ⟨u33, t33, e33, s33⟩ := len_cons s32; obtain ⟨u34, t34, e34, s34⟩ := len_cons s33; obtain ⟨u35, t35, e35, s35⟩ := len_cons s34; obtain ⟨u36, t36, e36, s36⟩ := len_cons s35; obtain ⟨u37, t37, e37, s37⟩ := len_cons s36; obtain ⟨u38, t38, e38, s38⟩ := len_cons s37; obtain ⟨u39, t39, e39, s39⟩ := len_cons s38; obtain ⟨u40, t40, e40, s40⟩ := len_cons s39; obtain ⟨u41, t41, e41, s41⟩ := len_cons s40; obtain ⟨u42, t42, e42, s42⟩ := len_cons s41; obtain ⟨u43, t43, e43, s43⟩ := len_cons s42; obtain ⟨u44, t44, e44, s44⟩ := len_cons s43; obtain ⟨u45, t45, e45, s45⟩ := len_cons s44; obtain ⟨u46, t46, e46, s46⟩ := len_cons s45
        obtain rfl := len_nil s46
        clear hus s0 s1 s2 s3 s4 s5 s6 s7 s8 s9 s10 s11 s12 s13 s14 s15 s16 s17 s18 s19 s20 s21 s22 s23 s24 s25 s26 s27 s28 s29 s30 s31 s32 s33 s34 s35 s36 s37 s38 s39 s40 s41 s42 s43 s44 s45 s46
        subst e46 e45 e44 e43 e42 e41 e40 e39 e38 e37 e36 e35 e34 e33 e32 e31 e30 e29 e28 e27 e26 e25 e24 e23 e22 e21 e20 e19 e18 e17 e16 e15 e14 e13 e12 e11 e10 e9 e8 e7 e6 e5 e4 e3 e2 e1 e0
        clear h
        simp only [over, Act.put, List.setIfInBounds_toArray, List.set_cons_zero, List.set_cons_succ]
        go_wp2_with fail
        exact postK_normal ⟨_, rfl, rfl, Ext.refl _⟩
      refine AllSteps.cons (fun us hus w' x h => ?_) ?_
      · obtain ⟨u0, t0, e0, s0⟩ := len_cons hus; obtain ⟨u1, t1, e1, s1⟩ := len_cons s0; obtain ⟨u2, t2, e2, s2⟩ := len_cons s1; obtain ⟨u3, t3, e3, s3⟩ := len_cons s2; obtain ⟨u4, t4, e4, s4⟩ := len_cons s3; obtain ⟨u5, t5, e5, s5⟩ := len_cons s4; obtain ⟨u6, t6, e6, s6⟩ := len_cons s5; obtain ⟨u7, t7, e7, s7⟩ := len_cons s6; obtain ⟨u8, t8, e8, s8⟩ := len_cons s7; obtain ⟨u9, t9, e9, s9⟩ := len_cons s8; obtain ⟨u10, t10, e10, s10⟩ := len_cons s9; obtain ⟨u11, t11, e11, s11⟩ := len_cons s10; obtain ⟨u12, t12, e12, s12⟩ := len_cons s11; obtain ⟨u13, t13, e13, s13⟩ := len_cons s12; obtain ⟨u14, t14, e14, s14⟩ := len_cons s13; obtain ⟨u15, t15, e15, s15⟩ := len_cons s14; obtain ⟨u16, t16, e16, s16⟩ := len_cons s15; obtain ⟨u17, t17, e17, s17⟩ := len_cons s16; obtain ⟨u18, t18, e18, s18⟩ := len_cons s17; obtain ⟨u19, t19, e19, s19⟩ := len_cons s18; obtain ⟨u20, t20, e20, s20⟩ := len_cons s19; obtain ⟨u21, t21, e21, s21⟩ := len_cons s20; obtain ⟨u22, t22, e22, s22⟩ := len_cons s21; obtain ⟨u23, t23, e23, s23⟩ := len_cons s22; obtain ⟨u24, t24, e24, s24⟩ := len_cons s23; obtain ⟨u25, t25, e25, s25⟩ := len_cons s24; obtain ⟨u26, t26, e26, s26⟩ := len_cons s25; obtain ⟨u27, t27, e27, s27⟩ := len_cons s26; obtain ⟨u28, t28, e28, s28⟩ := len_cons s27; obtain ⟨u29, t29, e29, s29⟩ := len_cons s28; obtain ⟨u30, t30, e30, s30⟩ := len_cons s29; obtain ⟨u31, t31, e31, s31⟩ := len_cons s30; obtain ⟨u32, t32, e32, s32⟩ := len_cons s31; obtain ⟨u33, t33, e33, s33⟩ := len_cons s32; obtain ⟨u34, t34, e34, s34⟩ := len_cons s33; obtain ⟨u35, t35, e35, s35⟩ := len_cons s34; obtain ⟨u36, t36, e36, s36⟩ := len_cons s35; obtain ⟨u37, t37, e37, s37⟩ := len_cons s36; obtain ⟨u38, t38, e38, s38⟩ := len_cons s37; obtain ⟨u39, t39, e39, s39⟩ := len_cons s38; obtain ⟨u40, t40, e40, s40⟩ := len_cons s39; obtain ⟨u41, t41, e41, s41⟩ := len_cons s40; obtain ⟨u42, t42, e42, s42⟩ := len_cons s41; obtain ⟨u43, t43, e43, s43⟩ := len_cons s42; obtain ⟨u44, t44, e44, s44⟩ := len_cons s43; obtain ⟨u45, t45, e45, s45⟩ := len_cons s44; obtain ⟨u46, t46, e46, s46⟩ := len_cons s45
        obtain rfl := len_nil s46
        clear hus s0 s1 s2 s3 s4 s5 s6 s7 s8 s9 s10 s11 s12 s13 s14 s15 s16 s17 s18 s19 s20 s21 s22 s23 s24 s25 s26 s27 s28 s29 s30 s31 s32 s33 s34 s35 s36 s37 s38 s39 s40 s41 s42 s43 s44 s45 s46
        subst e46 e45 e44 e43 e42 e41 e40 e39 e38 e37 e36 e35 e34 e33 e32 e31 e30 e29 e28 e27 e26 e25 e24 e23 e22 e21 e20 e19 e18 e17 e16 e15 e14 e13 e12 e11 e10 e9 e8 e7 e6 e5 e4 e3 e2 e1 e0
        have h0 : u0 = .string a0 := h 0 (by kernel_rfl)
        clear h
        simp only [over, Act.put, List.setIfInBounds_toArray, List.set_cons_zero, List.set_cons_succ]
        subst h0
        go_wp2_with (refine wpList_toBytes rfl 9 24 _ rfl 5 Tryd.underlying9 Tryd.underlying24 Tryd.underlying5 _ rfl hmax ?_)
        intro v5 w5 o5 x5
        go_wp2_with fail
        exact postK_normal ⟨_, rfl, o5.bs, x5⟩
      refine AllSteps.cons (fun us hus w' x h => ?_) ?_
      · obtain ⟨u0, t0, e0, s0⟩ := len_cons hus; obtain ⟨u1, t1, e1, s1⟩ := len_cons s0; obtain ⟨u2, t2, e2, s2⟩ := len_cons s1; obtain ⟨u3, t3, e3, s3⟩ := len_cons s2; obtain ⟨u4, t4, e4, s4⟩ := len_cons s3; obtain ⟨u5, t5, e5, s5⟩ := len_cons s4; obtain ⟨u6, t6, e6, s6⟩ := len_cons s5; obtain ⟨u7, t7, e7, s7⟩ := len_cons s6; obtain ⟨u8, t8, e8, s8⟩ := len_cons s7; obtain ⟨u9, t9, e9, s9⟩ := len_cons s8; obtain ⟨u10, t10, e10, s10⟩ := len_cons s9; obtain ⟨u11, t11, e11, s11⟩ := len_cons s10; obtain ⟨u12, t12, e12, s12⟩ := len_cons s11; obtain ⟨u13, t13, e13, s13⟩ := len_cons s12; obtain ⟨u14, t14, e14, s14⟩ := len_cons s13; obtain ⟨u15, t15, e15, s15⟩ := len_cons s14; obtain ⟨u16, t16, e16, s16⟩ := len_cons s15; obtain ⟨u17, t17, e17, s17⟩ := len_cons s16; obtain ⟨u18, t18, e18, s18⟩ := len_cons s17; obtain ⟨u19, t19, e19, s19⟩ := len_cons s18; obtain ⟨u20, t20, e20, s20⟩ := len_cons s19; obtain ⟨u21, t21, e21, s21⟩ := len_cons s20; obtain ⟨u22, t22, e22, s22⟩ := len_cons s21; obtain ⟨u23, t23, e23, s23⟩ := len_cons s22; obtain ⟨u24, t24, e24, s24⟩ := len_cons s23; obtain ⟨u25, t25, e25, s25⟩ := len_cons s24; obtain ⟨u26, t26, e26, s26⟩ := len_cons s25; obtain ⟨u27, t27, e27, s27⟩ := len_cons s26; obtain ⟨u28, t28, e28, s28⟩ := len_cons s27; obtain ⟨u29, t29, e29, s29⟩ := len_cons s28; obtain ⟨u30, t30, e30, s30⟩ := len_cons s29; obtain ⟨u31, t31, e31, s31⟩ := len_cons s30; obtain ⟨u32, t32, e32, s32⟩ := len_cons s31; obtain ⟨u33, t33, e33, s33⟩ := len_cons s32; obtain ⟨u34, t34, e34, s34⟩ := len_cons s33; obtain ⟨u35, t35, e35, s35⟩ := len_cons s34; obtain ⟨u36, t36, e36, s36⟩ := len_cons s35; obtain ⟨u37, t37, e37, s37⟩ := len_cons s36; obtain ⟨u38, t38, e38, s38⟩ := len_cons s37; obtain ⟨u39, t39, e39, s39⟩ := len_cons s38; obtain ⟨u40, t40, e40, s40⟩ := len_cons s39; obtain ⟨u41, t41, e41, s41⟩ := len_cons s40; obtain ⟨u42, t42, e42, s42⟩ := len_cons s41; obtain ⟨u43, t43, e43, s43⟩ := len_cons s42; obtain ⟨u44, t44, e44, s44⟩ := len_cons s43; obtain ⟨u45, t45, e45, s45⟩ := len_cons s44; obtain ⟨u46, t46, e46, s46⟩ := len_cons s45
        obtain rfl := len_nil s46
        clear hus s0 s1 s2 s3 s4 s5 s6 s7 s8 s9 s10 s11 s12 s13 s14 s15 s16 s17 s18 s19 s20 s21 s22 s23 s24 s25 s26 s27 s28 s29 s30 s31 s32 s33 s34 s35 s36 s37 s38 s39 s40 s41 s42 s43 s44 s45 s46
        subst e46 e45 e44 e43 e42 e41 e40 e39 e38 e37 e36 e35 e34 e33 e32 e31 e30 e29 e28 e27 e26 e25 e24 e23 e22 e21 e20 e19 e18 e17 e16 e15 e14 e13 e12 e11 e10 e9 e8 e7 e6 e5 e4 e3 e2 e1 e0
        clear h
        simp only [over, Act.put, List.setIfInBounds_toArray, List.set_cons_zero, List.set_cons_succ]
        go_wp2_with fail
        exact postK_normal ⟨_, rfl, rfl, Ext.refl _⟩
      refine AllSteps.cons (fun us hus w' x h => ?_) ?_
      · obtain ⟨u0, t0, e0, s0⟩ := len_cons hus; obtain ⟨u1, t1, e1, s1⟩ := len_cons s0; obtain ⟨u2, t2, e2, s2⟩ := len_cons s1; obtain ⟨u3, t3, e3, s3⟩ := len_cons s2; obtain ⟨u4, t4, e4, s4⟩ := len_cons s3; obtain ⟨u5, t5, e5, s5⟩ := len_cons s4; obtain ⟨u6, t6, e6, s6⟩ := len_cons s5; obtain ⟨u7, t7, e7, s7⟩ := len_cons s6; obtain ⟨u8, t8, e8, s8⟩ := len_cons s7; obtain ⟨u9, t9, e9, s9⟩ := len_cons s8; obtain ⟨u10, t10, e10, s10⟩ := len_cons s9; obtain ⟨u11, t11, e11, s11⟩ := len_cons s10; obtain ⟨u12, t12, e12, s12⟩ := len_cons s11; obtain ⟨u13, t13, e13, s13⟩ := len_cons s12; obtain ⟨u14, t14, e14, s14⟩ := len_cons s13; obtain ⟨u15, t15, e15, s15⟩ := len_cons s14; obtain ⟨u16, t16, e16, s16⟩ := len_cons s15; obtain ⟨u17, t17, e17, s17⟩ := len_cons s16; obtain ⟨u18, t18, e18, s18⟩ := len_cons s17; obtain ⟨u19, t19, e19, s19⟩ := len_cons s18; obtain ⟨u20, t20, e20, s20⟩ := len_cons s19; obtain ⟨u21, t21, e21, s21⟩ := len_cons s20; obtain ⟨u22, t22, e22, s22⟩ := len_cons s21; obtain ⟨u23, t23, e23, s23⟩ := len_cons s22; obtain ⟨u24, t24, e24, s24⟩ := len_cons s23; obtain ⟨u25, t25, e25, s25⟩ := len_cons s24; obtain ⟨u26, t26, e26, s26⟩ := len_cons s25; obtain ⟨u27, t27, e27, s27⟩ := len_cons s26; obtain ⟨u28, t28, e28, s28⟩ := len_cons s27; obtain ⟨u29, t29, e29, s29⟩ := len_cons s28; obtain ⟨u30, t30, e30, s30⟩ := len_cons s29; obtain ⟨u31, t31, e31, s31⟩ := len_cons s30; obtain ⟨u32, t32, e32, s32⟩ := len_cons s31; obtain ⟨u33, t33, e33, s33⟩ := len_cons s32; obtain ⟨u34, t34, e34, s34⟩ := len_cons s33; obtain ⟨u35, t35, e35, s35⟩ := len_cons s34; obtain ⟨u36, t36, e36, s36⟩ := len_cons s35; obtain ⟨u37, t37, e37, s37⟩ := len_cons s36; obtain ⟨u38, t38, e38, s38⟩ := len_cons s37; obtain ⟨u39, t39, e39, s39⟩ := len_cons s38; obtain ⟨u40, t40, e40, s40⟩ := len_cons s39; obtain ⟨u41, t41, e41, s41⟩ := len_cons s40; obtain ⟨u42, t42, e42, s42⟩ := len_cons s41; obtain ⟨u43, t43, e43, s43⟩ := len_cons s42; obtain ⟨u44, t44, e44, s44⟩ := len_cons s43; obtain ⟨u45, t45, e45, s45⟩ := len_cons s44; obtain ⟨u46, t46, e46, s46⟩ := len_cons s45
        obtain rfl := len_nil s46
        clear hus s0 s1 s2 s3 s4 s5 s6 s7 s8 s9 s10 s11 s12 s13 s14 s15 s16 s17 s18 s19 s20 s21 s22 s23 s24 s25 s26 s27 s28 s29 s30 s31 s32 s33 s34 s35 s36 s37 s38 s39 s40 s41 s42 s43 s44 s45 s46
        subst e46 e45 e44 e43 e42 e41 e40 e39 e38 e37 e36 e35 e34 e33 e32 e31 e30 e29 e28 e27 e26 e25 e24 e23 e22 e21 e20 e19 e18 e17 e16 e15 e14 e13 e12 e11 e10 e9 e8 e7 e6 e5 e4 e3 e2 e1 e0
        have h1 : Bs w' u1 a0.data.toList := h 1 (by kernel_rfl)
        have h2 : u2 = .string a1 := h 2 (by kernel_rfl)
        clear h
        simp only [over, Act.put, List.setIfInBounds_toArray, List.set_cons_zero, List.set_cons_succ]
        subst h2
        have c5 := impl_Trim _ _ a1 _ h1 (HT.out.ext x) (by omega) (by show a0.size ≤ _; omega)
        rw [HTT.out] at c5
        go_wp2_with (go_at_call 29; refine c5.mono ?_)
        rintro _ w5 ⟨v5, rfl, o5, x5⟩
        go_wp2_with fail
        exact postK_normal ⟨_, rfl, o5.bs, x5⟩
      refine AllSteps.cons (fun us hus w' x h => ?_) ?_
      · obtain ⟨u0, t0, e0, s0⟩ := len_cons hus; obtain ⟨u1, t1, e1, s1⟩ := len_cons s0; obtain ⟨u2, t2, e2, s2⟩ := len_cons s1; obtain ⟨u3, t3, e3, s3⟩ := len_cons s2; obtain ⟨u4, t4, e4, s4⟩ := len_cons s3; obtain ⟨u5, t5, e5, s5⟩ := len_cons s4; obtain ⟨u6, t6, e6, s6⟩ := len_cons s5; obtain ⟨u7, t7, e7, s7⟩ := len_cons s6; obtain ⟨u8, t8, e8, s8⟩ := len_cons s7; obtain ⟨u9, t9, e9, s9⟩ := len_cons s8; obtain ⟨u10, t10, e10, s10⟩ := len_cons s9; obtain ⟨u11, t11, e11, s11⟩ := len_cons s10; obtain ⟨u12, t12, e12, s12⟩ := len_cons s11; obtain ⟨u13, t13, e13, s13⟩ := len_cons s12; obtain ⟨u14, t14, e14, s14⟩ := len_cons s13; obtain ⟨u15, t15, e15, s15⟩ := len_cons s14; obtain ⟨u16, t16, e16, s16⟩ := len_cons s15; obtain ⟨u17, t17, e17, s17⟩ := len_cons s16; obtain ⟨u18, t18, e18, s18⟩ := len_cons s17; obtain ⟨u19, t19, e19, s19⟩ := len_cons s18; obtain ⟨u20, t20, e20, s20⟩ := len_cons s19; obtain ⟨u21, t21, e21, s21⟩ := len_cons s20; obtain ⟨u22, t22, e22, s22⟩ := len_cons s21; obtain ⟨u23, t23, e23, s23⟩ := len_cons s22; obtain ⟨u24, t24, e24, s24⟩ := len_cons s23; obtain ⟨u25, t25, e25, s25⟩ := len_cons s24; obtain ⟨u26, t26, e26, s26⟩ := len_cons s25; obtain ⟨u27, t27, e27, s27⟩ := len_cons s26; obtain ⟨u28, t28, e28, s28⟩ := len_cons s27; obtain ⟨u29, t29, e29, s29⟩ := len_cons s28; obtain ⟨u30, t30, e30, s30⟩ := len_cons s29; obtain ⟨u31, t31, e31, s31⟩ := len_cons s30; obtain ⟨u32, t32, e32, s32⟩ := len_cons s31; obtain ⟨u33, t33, e33, s33⟩ := len_cons s32; obtain ⟨u34, t34, e34, s34⟩ := len_cons s33; obtain ⟨u35, t35, e35, s35⟩ := len_cons s34; obtain ⟨u36, t36, e36, s36⟩ := len_cons s35; obtain ⟨u37, t37, e37, s37⟩ := len_cons s36; obtain ⟨u38, t38, e38, s38⟩ := len_cons s37; obtain ⟨u39, t39, e39, s39⟩ := len_cons s38; obtain ⟨u40, t40, e40, s40⟩ := len_cons s39; obtain ⟨u41, t41, e41, s41⟩ := len_cons s40; obtain ⟨u42, t42, e42, s42⟩ := len_cons s41; obtain ⟨u43, t43, e43, s43⟩ := len_cons s42; obtain ⟨u44, t44, e44, s44⟩ := len_cons s43; obtain ⟨u45, t45, e45, s45⟩ := len_cons s44; obtain ⟨u46, t46, e46, s46⟩ := len_cons s45
        obtain rfl := len_nil s46
        clear hus s0 s1 s2 s3 s4 s5 s6 s7 s8 s9 s10 s11 s12 s13 s14 s15 s16 s17 s18 s19 s20 s21 s22 s23 s24 s25 s26 s27 s28 s29 s30 s31 s32 s33 s34 s35 s36 s37 s38 s39 s40 s41 s42 s43 s44 s45 s46
        subst e46 e45 e44 e43 e42 e41 e40 e39 e38 e37 e36 e35 e34 e33 e32 e31 e30 e29 e28 e27 e26 e25 e24 e23 e22 e21 e20 e19 e18 e17 e16 e15 e14 e13 e12 e11 e10 e9 e8 e7 e6 e5 e4 e3 e2 e1 e0
        have h3 : Bs w' u3 TT := h 3 (by kernel_rfl)
        clear h
        simp only [over, Act.put, List.setIfInBounds_toArray, List.set_cons_zero, List.set_cons_succ]
        go_wp2_with (refine wpList_toString rfl 24 9 _ rfl 5 Tryd.underlying24 Tryd.underlying5 Tryd.underlying9 _ _ rfl h3 ?_)
        exact postK_normal ⟨_, rfl, rfl, Ext.refl _⟩
      refine AllSteps.cons (fun us hus w' x h => ?_) ?_
      · obtain ⟨u0, t0, e0, s0⟩ := len_cons hus; obtain ⟨u1, t1, e1, s1⟩ := len_cons s0; obtain ⟨u2, t2, e2, s2⟩ := len_cons s1; obtain ⟨u3, t3, e3, s3⟩ := len_cons s2; obtain ⟨u4, t4, e4, s4⟩ := len_cons s3; obtain ⟨u5, t5, e5, s5⟩ := len_cons s4; obtain ⟨u6, t6, e6, s6⟩ := len_cons s5; obtain ⟨u7, t7, e7, s7⟩ := len_cons s6; obtain ⟨u8, t8, e8, s8⟩ := len_cons s7; obtain ⟨u9, t9, e9, s9⟩ := len_cons s8; obtain ⟨u10, t10, e10, s10⟩ := len_cons s9; obtain ⟨u11, t11, e11, s11⟩ := len_cons s10; obtain ⟨u12, t12, e12, s12⟩ := len_cons s11; obtain ⟨u13, t13, e13, s13⟩ := len_cons s12; obtain ⟨u14, t14, e14, s14⟩ := len_cons s13; obtain ⟨u15, t15, e15, s15⟩ := len_cons s14; obtain ⟨u16, t16, e16, s16⟩ := len_cons s15; obtain ⟨u17, t17, e17, s17⟩ := len_cons s16; obtain ⟨u18, t18, e18, s18⟩ := len_cons s17; obtain ⟨u19, t19, e19, s19⟩ := len_cons s18; obtain ⟨u20, t20, e20, s20⟩ := len_cons s19; obtain ⟨u21, t21, e21, s21⟩ := len_cons s20; obtain ⟨u22, t22, e22, s22⟩ := len_cons s21; obtain ⟨u23, t23, e23, s23⟩ := len_cons s22; obtain ⟨u24, t24, e24, s24⟩ := len_cons s23; obtain ⟨u25, t25, e25, s25⟩ := len_cons s24; obtain ⟨u26, t26, e26, s26⟩ := len_cons s25; obtain ⟨u27, t27, e27, s27⟩ := len_cons s26; obtain ⟨u28, t28, e28, s28⟩ := len_cons s27; obtain ⟨u29, t29, e29, s29⟩ := len_cons s28; obtain ⟨u30, t30, e30, s30⟩ := len_cons s29; obtain ⟨u31, t31, e31, s31⟩ := len_cons s30; obtain ⟨u32, t32, e32, s32⟩ := len_cons s31; obtain ⟨u33, t33, e33, s33⟩ := len_cons s32; obtain ⟨u34, t34, e34, s34⟩ := len_cons s33; obtain ⟨u35, t35, e35, s35⟩ := len_cons s34; obtain ⟨u36, t36, e36, s36⟩ := len_cons s35; obtain ⟨u37, t37, e37, s37⟩ := len_cons s36; obtain ⟨u38, t38, e38, s38⟩ := len_cons s37; obtain ⟨u39, t39, e39, s39⟩ := len_cons s38; obtain ⟨u40, t40, e40, s40⟩ := len_cons s39; obtain ⟨u41, t41, e41, s41⟩ := len_cons s40; obtain ⟨u42, t42, e42, s42⟩ := len_cons s41; obtain ⟨u43, t43, e43, s43⟩ := len_cons s42; obtain ⟨u44, t44, e44, s44⟩ := len_cons s43; obtain ⟨u45, t45, e45, s45⟩ := len_cons s44; obtain ⟨u46, t46, e46, s46⟩ := len_cons s45
        obtain rfl := len_nil s46
        clear hus s0 s1 s2 s3 s4 s5 s6 s7 s8 s9 s10 s11 s12 s13 s14 s15 s16 s17 s18 s19 s20 s21 s22 s23 s24 s25 s26 s27 s28 s29 s30 s31 s32 s33 s34 s35 s36 s37 s38 s39 s40 s41 s42 s43 s44 s45 s46
        subst e46 e45 e44 e43 e42 e41 e40 e39 e38 e37 e36 e35 e34 e33 e32 e31 e30 e29 e28 e27 e26 e25 e24 e23 e22 e21 e20 e19 e18 e17 e16 e15 e14 e13 e12 e11 e10 e9 e8 e7 e6 e5 e4 e3 e2 e1 e0
        clear h
        simp only [over, Act.put, List.setIfInBounds_toArray, List.set_cons_zero, List.set_cons_succ]
        go_wp2_with fail
        exact postK_normal ⟨_, rfl, rfl, Ext.refl _⟩
      refine AllSteps.cons (fun us hus w' x h => ?_) ?_
      · obtain ⟨u0, t0, e0, s0⟩ := len_cons hus; obtain ⟨u1, t1, e1, s1⟩ := len_cons s0; obtain ⟨u2, t2, e2, s2⟩ := len_cons s1; obtain ⟨u3, t3, e3, s3⟩ := len_cons s2; obtain ⟨u4, t4, e4, s4⟩ := len_cons s3; obtain ⟨u5, t5, e5, s5⟩ := len_cons s4; obtain ⟨u6, t6, e6, s6⟩ := len_cons s5; obtain ⟨u7, t7, e7, s7⟩ := len_cons s6; obtain ⟨u8, t8, e8, s8⟩ := len_cons s7; obtain ⟨u9, t9, e9, s9⟩ := len_cons s8; obtain ⟨u10, t10, e10, s10⟩ := len_cons s9; obtain ⟨u11, t11, e11, s11⟩ := len_cons s10; obtain ⟨u12, t12, e12, s12⟩ := len_cons s11; obtain ⟨u13, t13, e13, s13⟩ := len_cons s12; obtain ⟨u14, t14, e14, s14⟩ := len_cons s13; obtain ⟨u15, t15, e15, s15⟩ := len_cons s14; obtain ⟨u16, t16, e16, s16⟩ := len_cons s15; obtain ⟨u17, t17, e17, s17⟩ := len_cons s16; obtain ⟨u18, t18, e18, s18⟩ := len_cons s17; obtain ⟨u19, t19, e19, s19⟩ := len_cons s18; obtain ⟨u20, t20, e20, s20⟩ := len_cons s19; obtain ⟨u21, t21, e21, s21⟩ := len_cons s20; obtain ⟨u22, t22, e22, s22⟩ := len_cons s21; obtain ⟨u23, t23, e23, s23⟩ := len_cons s22; obtain ⟨u24, t24, e24, s24⟩ := len_cons s23; obtain ⟨u25, t25, e25, s25⟩ := len_cons s24; obtain ⟨u26, t26, e26, s26⟩ := len_cons s25; obtain ⟨u27, t27, e27, s27⟩ := len_cons s26; obtain ⟨u28, t28, e28, s28⟩ := len_cons s27; obtain ⟨u29, t29, e29, s29⟩ := len_cons s28; obtain ⟨u30, t30, e30, s30⟩ := len_cons s29; obtain ⟨u31, t31, e31, s31⟩ := len_cons s30; obtain ⟨u32, t32, e32, s32⟩ := len_cons s31; obtain ⟨u33, t33, e33, s33⟩ := len_cons s32; obtain ⟨u34, t34, e34, s34⟩ := len_cons s33; obtain ⟨u35, t35, e35, s35⟩ := len_cons s34; obtain ⟨u36, t36, e36, s36⟩ := len_cons s35; obtain ⟨u37, t37, e37, s37⟩ := len_cons s36; obtain ⟨u38, t38, e38, s38⟩ := len_cons s37; obtain ⟨u39, t39, e39, s39⟩ := len_cons s38; obtain ⟨u40, t40, e40, s40⟩ := len_cons s39; obtain ⟨u41, t41, e41, s41⟩ := len_cons s40; obtain ⟨u42, t42, e42, s42⟩ := len_cons s41; obtain ⟨u43, t43, e43, s43⟩ := len_cons s42; obtain ⟨u44, t44, e44, s44⟩ := len_cons s43; obtain ⟨u45, t45, e45, s45⟩ := len_cons s44; obtain ⟨u46, t46, e46, s46⟩ := len_cons s45
        obtain rfl := len_nil s46
        clear hus s0 s1 s2 s3 s4 s5 s6 s7 s8 s9 s10 s11 s12 s13 s14 s15 s16 s17 s18 s19 s20 s21 s22 s23 s24 s25 s26 s27 s28 s29 s30 s31 s32 s33 s34 s35 s36 s37 s38 s39 s40 s41 s42 s43 s44 s45 s46
        subst e46 e45 e44 e43 e42 e41 e40 e39 e38 e37 e36 e35 e34 e33 e32 e31 e30 e29 e28 e27 e26 e25 e24 e23 e22 e21 e20 e19 e18 e17 e16 e15 e14 e13 e12 e11 e10 e9 e8 e7 e6 e5 e4 e3 e2 e1 e0
        have h5 : u5 = .string a0 := h 5 (by kernel_rfl)
        clear h
        simp only [over, Act.put, List.setIfInBounds_toArray, List.set_cons_zero, List.set_cons_succ]
        subst h5
        go_wp2_with (refine wpList_toBytes rfl 9 24 _ rfl 5 Tryd.underlying9 Tryd.underlying24 Tryd.underlying5 _ rfl hmax ?_)
        intro v5 w5 o5 x5
        go_wp2_with fail
        exact postK_normal ⟨_, rfl, o5.bs, x5⟩
      refine AllSteps.cons (fun us hus w' x h => ?_) ?_
      · obtain ⟨u0, t0, e0, s0⟩ := len_cons hus; obtain ⟨u1, t1, e1, s1⟩ := len_cons s0; obtain ⟨u2, t2, e2, s2⟩ := len_cons s1; obtain ⟨u3, t3, e3, s3⟩ := len_cons s2; obtain ⟨u4, t4, e4, s4⟩ := len_cons s3; obtain ⟨u5, t5, e5, s5⟩ := len_cons s4; obtain ⟨u6, t6, e6, s6⟩ := len_cons s5; obtain ⟨u7, t7, e7, s7⟩ := len_cons s6; obtain ⟨u8, t8, e8, s8⟩ := len_cons s7; obtain ⟨u9, t9, e9, s9⟩ := len_cons s8; obtain ⟨u10, t10, e10, s10⟩ := len_cons s9; obtain ⟨u11, t11, e11, s11⟩ := len_cons s10; obtain ⟨u12, t12, e12, s12⟩ := len_cons s11; obtain ⟨u13, t13, e13, s13⟩ := len_cons s12; obtain ⟨u14, t14, e14, s14⟩ := len_cons s13; obtain ⟨u15, t15, e15, s15⟩ := len_cons s14; obtain ⟨u16, t16, e16, s16⟩ := len_cons s15; obtain ⟨u17, t17, e17, s17⟩ := len_cons s16; obtain ⟨u18, t18, e18, s18⟩ := len_cons s17; obtain ⟨u19, t19, e19, s19⟩ := len_cons s18; obtain ⟨u20, t20, e20, s20⟩ := len_cons s19; obtain ⟨u21, t21, e21, s21⟩ := len_cons s20; obtain ⟨u22, t22, e22, s22⟩ := len_cons s21; obtain ⟨u23, t23, e23, s23⟩ := len_cons s22; obtain ⟨u24, t24, e24, s24⟩ := len_cons s23; obtain ⟨u25, t25, e25, s25⟩ := len_cons s24; obtain ⟨u26, t26, e26, s26⟩ := len_cons s25; obtain ⟨u27, t27, e27, s27⟩ := len_cons s26; obtain ⟨u28, t28, e28, s28⟩ := len_cons s27; obtain ⟨u29, t29, e29, s29⟩ := len_cons s28; obtain ⟨u30, t30, e30, s30⟩ := len_cons s29; obtain ⟨u31, t31, e31, s31⟩ := len_cons s30; obtain ⟨u32, t32, e32, s32⟩ := len_cons s31; obtain ⟨u33, t33, e33, s33⟩ := len_cons s32; obtain ⟨u34, t34, e34, s34⟩ := len_cons s33; obtain ⟨u35, t35, e35, s35⟩ := len_cons s34; obtain ⟨u36, t36, e36, s36⟩ := len_cons s35; obtain ⟨u37, t37, e37, s37⟩ := len_cons s36; obtain ⟨u38, t38, e38, s38⟩ := len_cons s37; obtain ⟨u39, t39, e39, s39⟩ := len_cons s38; obtain ⟨u40, t40, e40, s40⟩ := len_cons s39; obtain ⟨u41, t41, e41, s41⟩ := len_cons s40; obtain ⟨u42, t42, e42, s42⟩ := len_cons s41; obtain ⟨u43, t43, e43, s43⟩ := len_cons s42; obtain ⟨u44, t44, e44, s44⟩ := len_cons s43; obtain ⟨u45, t45, e45, s45⟩ := len_cons s44; obtain ⟨u46, t46, e46, s46⟩ := len_cons s45
        obtain rfl := len_nil s46
        clear hus s0 s1 s2 s3 s4 s5 s6 s7 s8 s9 s10 s11 s12 s13 s14 s15 s16 s17 s18 s19 s20 s21 s22 s23 s24 s25 s26 s27 s28 s29 s30 s31 s32 s33 s34 s35 s36 s37 s38 s39 s40 s41 s42 s43 s44 s45 s46
        subst e46 e45 e44 e43 e42 e41 e40 e39 e38 e37 e36 e35 e34 e33 e32 e31 e30 e29 e28 e27 e26 e25 e24 e23 e22 e21 e20 e19 e18 e17 e16 e15 e14 e13 e12 e11 e10 e9 e8 e7 e6 e5 e4 e3 e2 e1 e0
        clear h
        simp only [over, Act.put, List.setIfInBounds_toArray, List.set_cons_zero, List.set_cons_succ]
        have f0 := x.cell HF0.out
        have f1 := x.cell HF1.out
        go_wp2_with fail
        exact postK_normal ⟨_, rfl, rfl, Ext.refl _⟩
      refine AllSteps.cons (fun us hus w' x h => ?_) ?_
      · obtain ⟨u0, t0, e0, s0⟩ := len_cons hus; obtain ⟨u1, t1, e1, s1⟩ := len_cons s0; obtain ⟨u2, t2, e2, s2⟩ := len_cons s1; obtain ⟨u3, t3, e3, s3⟩ := len_cons s2; obtain ⟨u4, t4, e4, s4⟩ := len_cons s3; obtain ⟨u5, t5, e5, s5⟩ := len_cons s4; obtain ⟨u6, t6, e6, s6⟩ := len_cons s5; obtain ⟨u7, t7, e7, s7⟩ := len_cons s6; obtain ⟨u8, t8, e8, s8⟩ := len_cons s7; obtain ⟨u9, t9, e9, s9⟩ := len_cons s8; obtain ⟨u10, t10, e10, s10⟩ := len_cons s9; obtain ⟨u11, t11, e11, s11⟩ := len_cons s10; obtain ⟨u12, t12, e12, s12⟩ := len_cons s11; obtain ⟨u13, t13, e13, s13⟩ := len_cons s12; obtain ⟨u14, t14, e14, s14⟩ := len_cons s13; obtain ⟨u15, t15, e15, s15⟩ := len_cons s14; obtain ⟨u16, t16, e16, s16⟩ := len_cons s15; obtain ⟨u17, t17, e17, s17⟩ := len_cons s16; obtain ⟨u18, t18, e18, s18⟩ := len_cons s17; obtain ⟨u19, t19, e19, s19⟩ := len_cons s18; obtain ⟨u20, t20, e20, s20⟩ := len_cons s19; obtain ⟨u21, t21, e21, s21⟩ := len_cons s20; obtain ⟨u22, t22, e22, s22⟩ := len_cons s21; obtain ⟨u23, t23, e23, s23⟩ := len_cons s22; obtain ⟨u24, t24, e24, s24⟩ := len_cons s23; obtain ⟨u25, t25, e25, s25⟩ := len_cons s24; obtain ⟨u26, t26, e26, s26⟩ := len_cons s25; obtain ⟨u27, t27, e27, s27⟩ := len_cons s26; obtain ⟨u28, t28, e28, s28⟩ := len_cons s27; obtain ⟨u29, t29, e29, s29⟩ := len_cons s28; obtain ⟨u30, t30, e30, s30⟩ := len_cons s29; obtain ⟨u31, t31, e31, s31⟩ := len_cons s30; obtain ⟨u32, t32, e32, s32⟩ := len_cons s31; obtain ⟨u33, t33, e33, s33⟩ := len_cons s32; obtain ⟨u34, t34, e34, s34⟩ := len_cons s33; obtain ⟨u35, t35, e35, s35⟩ := len_cons s34; obtain ⟨u36, t36, e36, s36⟩ := len_cons s35; obtain ⟨u37, t37, e37, s37⟩ := len_cons s36; obtain ⟨u38, t38, e38, s38⟩ := len_cons s37; obtain ⟨u39, t39, e39, s39⟩ := len_cons s38; obtain ⟨u40, t40, e40, s40⟩ := len_cons s39; obtain ⟨u41, t41, e41, s41⟩ := len_cons s40; obtain ⟨u42, t42, e42, s42⟩ := len_cons s41; obtain ⟨u43, t43, e43, s43⟩ := len_cons s42; obtain ⟨u44, t44, e44, s44⟩ := len_cons s43; obtain ⟨u45, t45, e45, s45⟩ := len_cons s44; obtain ⟨u46, t46, e46, s46⟩ := len_cons s45
        obtain rfl := len_nil s46
        clear hus s0 s1 s2 s3 s4 s5 s6 s7 s8 s9 s10 s11 s12 s13 s14 s15 s16 s17 s18 s19 s20 s21 s22 s23 s24 s25 s26 s27 s28 s29 s30 s31 s32 s33 s34 s35 s36 s37 s38 s39 s40 s41 s42 s43 s44 s45 s46
        subst e46 e45 e44 e43 e42 e41 e40 e39 e38 e37 e36 e35 e34 e33 e32 e31 e30 e29 e28 e27 e26 e25 e24 e23 e22 e21 e20 e19 e18 e17 e16 e15 e14 e13 e12 e11 e10 e9 e8 e7 e6 e5 e4 e3 e2 e1 e0
        have h6 : Bs w' u6 a0.data.toList := h 6 (by kernel_rfl)
        have h7 : u7 = .agg #[.slice a2 rs.length c2, .bool false] := h 7 (by kernel_rfl)
        clear h
        simp only [over, Act.put, List.setIfInBounds_toArray, List.set_cons_zero, List.set_cons_succ]
        subst h7
        have c5 := impl_TrimFunc _ _ _ rs false _ h6 (HI.out.ext x) (HT.out.ext x) (by show a0.size ≤ _; omega)
        rw [HFTT.out] at c5
        go_wp2_with (go_at_call 35; refine c5.mono ?_)
        rintro _ w5 ⟨v5, rfl, o5, x5⟩
        go_wp2_with fail
        exact postK_normal ⟨_, rfl, o5.bs, x5⟩
      refine AllSteps.cons (fun us hus w' x h => ?_) ?_
      · obtain ⟨u0, t0, e0, s0⟩ := len_cons hus; obtain ⟨u1, t1, e1, s1⟩ := len_cons s0; obtain ⟨u2, t2, e2, s2⟩ := len_cons s1; obtain ⟨u3, t3, e3, s3⟩ := len_cons s2; obtain ⟨u4, t4, e4, s4⟩ := len_cons s3; obtain ⟨u5, t5, e5, s5⟩ := len_cons s4; obtain ⟨u6, t6, e6, s6⟩ := len_cons s5; obtain ⟨u7, t7, e7, s7⟩ := len_cons s6; obtain ⟨u8, t8, e8, s8⟩ := len_cons s7; obtain ⟨u9, t9, e9, s9⟩ := len_cons s8; obtain ⟨u10, t10, e10, s10⟩ := len_cons s9; obtain ⟨u11, t11, e11, s11⟩ := len_cons s10; obtain ⟨u12, t12, e12, s12⟩ := len_cons s11; obtain ⟨u13, t13, e13, s13⟩ := len_cons s12; obtain ⟨u14, t14, e14, s14⟩ := len_cons s13; obtain ⟨u15, t15, e15, s15⟩ := len_cons s14; obtain ⟨u16, t16, e16, s16⟩ := len_cons s15; obtain ⟨u17, t17, e17, s17⟩ := len_cons s16; obtain ⟨u18, t18, e18, s18⟩ := len_cons s17; obtain ⟨u19, t19, e19, s19⟩ := len_cons s18; obtain ⟨u20, t20, e20, s20⟩ := len_cons s19; obtain ⟨u21, t21, e21, s21⟩ := len_cons s20; obtain ⟨u22, t22, e22, s22⟩ := len_cons s21; obtain ⟨u23, t23, e23, s23⟩ := len_cons s22; obtain ⟨u24, t24, e24, s24⟩ := len_cons s23; obtain ⟨u25, t25, e25, s25⟩ := len_cons s24; obtain ⟨u26, t26, e26, s26⟩ := len_cons s25; obtain ⟨u27, t27, e27, s27⟩ := len_cons s26; obtain ⟨u28, t28, e28, s28⟩ := len_cons s27; obtain ⟨u29, t29, e29, s29⟩ := len_cons s28; obtain ⟨u30, t30, e30, s30⟩ := len_cons s29; obtain ⟨u31, t31, e31, s31⟩ := len_cons s30; obtain ⟨u32, t32, e32, s32⟩ := len_cons s31; obtain ⟨u33, t33, e33, s33⟩ := len_cons s32; obtain ⟨u34, t34, e34, s34⟩ := len_cons s33; obtain ⟨u35, t35, e35, s35⟩ := len_cons s34; obtain ⟨u36, t36, e36, s36⟩ := len_cons s35; obtain ⟨u37, t37, e37, s37⟩ := len_cons s36; obtain ⟨u38, t38, e38, s38⟩ := len_cons s37; obtain ⟨u39, t39, e39, s39⟩ := len_cons s38; obtain ⟨u40, t40, e40, s40⟩ := len_cons s39; obtain ⟨u41, t41, e41, s41⟩ := len_cons s40; obtain ⟨u42, t42, e42, s42⟩ := len_cons s41; obtain ⟨u43, t43, e43, s43⟩ := len_cons s42; obtain ⟨u44, t44, e44, s44⟩ := len_cons s43; obtain ⟨u45, t45, e45, s45⟩ := len_cons s44; obtain ⟨u46, t46, e46, s46⟩ := len_cons s45
        obtain rfl := len_nil s46
        clear hus s0 s1 s2 s3 s4 s5 s6 s7 s8 s9 s10 s11 s12 s13 s14 s15 s16 s17 s18 s19 s20 s21 s22 s23 s24 s25 s26 s27 s28 s29 s30 s31 s32 s33 s34 s35 s36 s37 s38 s39 s40 s41 s42 s43 s44 s45 s46
        subst e46 e45 e44 e43 e42 e41 e40 e39 e38 e37 e36 e35 e34 e33 e32 e31 e30 e29 e28 e27 e26 e25 e24 e23 e22 e21 e20 e19 e18 e17 e16 e15 e14 e13 e12 e11 e10 e9 e8 e7 e6 e5 e4 e3 e2 e1 e0
        have h8 : Bs w' u8 TT := h 8 (by kernel_rfl)
        clear h
        simp only [over, Act.put, List.setIfInBounds_toArray, List.set_cons_zero, List.set_cons_succ]
        go_wp2_with (refine wpList_toString rfl 24 9 _ rfl 5 Tryd.underlying24 Tryd.underlying5 Tryd.underlying9 _ _ rfl h8 ?_)
        exact postK_normal ⟨_, rfl, rfl, Ext.refl _⟩
      refine AllSteps.cons (fun us hus w' x h => ?_) ?_
      · obtain ⟨u0, t0, e0, s0⟩ := len_cons hus; obtain ⟨u1, t1, e1, s1⟩ := len_cons s0; obtain ⟨u2, t2, e2, s2⟩ := len_cons s1; obtain ⟨u3, t3, e3, s3⟩ := len_cons s2; obtain ⟨u4, t4, e4, s4⟩ := len_cons s3; obtain ⟨u5, t5, e5, s5⟩ := len_cons s4; obtain ⟨u6, t6, e6, s6⟩ := len_cons s5; obtain ⟨u7, t7, e7, s7⟩ := len_cons s6; obtain ⟨u8, t8, e8, s8⟩ := len_cons s7; obtain ⟨u9, t9, e9, s9⟩ := len_cons s8; obtain ⟨u10, t10, e10, s10⟩ := len_cons s9; obtain ⟨u11, t11, e11, s11⟩ := len_cons s10; obtain ⟨u12, t12, e12, s12⟩ := len_cons s11; obtain ⟨u13, t13, e13, s13⟩ := len_cons s12; obtain ⟨u14, t14, e14, s14⟩ := len_cons s13; obtain ⟨u15, t15, e15, s15⟩ := len_cons s14; obtain ⟨u16, t16, e16, s16⟩ := len_cons s15; obtain ⟨u17, t17, e17, s17⟩ := len_cons s16; obtain ⟨u18, t18, e18, s18⟩ := len_cons s17; obtain ⟨u19, t19, e19, s19⟩ := len_cons s18; obtain ⟨u20, t20, e20, s20⟩ := len_cons s19; obtain ⟨u21, t21, e21, s21⟩ := len_cons s20; obtain ⟨u22, t22, e22, s22⟩ := len_cons s21; obtain ⟨u23, t23, e23, s23⟩ := len_cons s22; obtain ⟨u24, t24, e24, s24⟩ := len_cons s23; obtain ⟨u25, t25, e25, s25⟩ := len_cons s24; obtain ⟨u26, t26, e26, s26⟩ := len_cons s25; obtain ⟨u27, t27, e27, s27⟩ := len_cons s26; obtain ⟨u28, t28, e28, s28⟩ := len_cons s27; obtain ⟨u29, t29, e29, s29⟩ := len_cons s28; obtain ⟨u30, t30, e30, s30⟩ := len_cons s29; obtain ⟨u31, t31, e31, s31⟩ := len_cons s30; obtain ⟨u32, t32, e32, s32⟩ := len_cons s31; obtain ⟨u33, t33, e33, s33⟩ := len_cons s32; obtain ⟨u34, t34, e34, s34⟩ := len_cons s33; obtain ⟨u35, t35, e35, s35⟩ := len_cons s34; obtain ⟨u36, t36, e36, s36⟩ := len_cons s35; obtain ⟨u37, t37, e37, s37⟩ := len_cons s36; obtain ⟨u38, t38, e38, s38⟩ := len_cons s37; obtain ⟨u39, t39, e39, s39⟩ := len_cons s38; obtain ⟨u40, t40, e40, s40⟩ := len_cons s39; obtain ⟨u41, t41, e41, s41⟩ := len_cons s40; obtain ⟨u42, t42, e42, s42⟩ := len_cons s41; obtain ⟨u43, t43, e43, s43⟩ := len_cons s42; obtain ⟨u44, t44, e44, s44⟩ := len_cons s43; obtain ⟨u45, t45, e45, s45⟩ := len_cons s44; obtain ⟨u46, t46, e46, s46⟩ := len_cons s45
        obtain rfl := len_nil s46
        clear hus s0 s1 s2 s3 s4 s5 s6 s7 s8 s9 s10 s11 s12 s13 s14 s15 s16 s17 s18 s19 s20 s21 s22 s23 s24 s25 s26 s27 s28 s29 s30 s31 s32 s33 s34 s35 s36 s37 s38 s39 s40 s41 s42 s43 s44 s45 s46
        subst e46 e45 e44 e43 e42 e41 e40 e39 e38 e37 e36 e35 e34 e33 e32 e31 e30 e29 e28 e27 e26 e25 e24 e23 e22 e21 e20 e19 e18 e17 e16 e15 e14 e13 e12 e11 e10 e9 e8 e7 e6 e5 e4 e3 e2 e1 e0
        have h4 : u4 = .string ⟨TT.toArray⟩ := h 4 (by kernel_rfl)
        have h9 : u9 = .string ⟨TT.toArray⟩ := h 9 (by kernel_rfl)
        clear h
        simp only [over, Act.put, List.setIfInBounds_toArray, List.set_cons_zero, List.set_cons_succ]
        subst h4
        subst h9
        go_wp2_with fail
        exact postK_normal ⟨_, rfl, rfl, Ext.refl _⟩
      refine AllSteps.cons (fun us hus w' x h => ?_) ?_
      · obtain ⟨u0, t0, e0, s0⟩ := len_cons hus; obtain ⟨u1, t1, e1, s1⟩ := len_cons s0; obtain ⟨u2, t2, e2, s2⟩ := len_cons s1; obtain ⟨u3, t3, e3, s3⟩ := len_cons s2; obtain ⟨u4, t4, e4, s4⟩ := len_cons s3; obtain ⟨u5, t5, e5, s5⟩ := len_cons s4; obtain ⟨u6, t6, e6, s6⟩ := len_cons s5; obtain ⟨u7, t7, e7, s7⟩ := len_cons s6; obtain ⟨u8, t8, e8, s8⟩ := len_cons s7; obtain ⟨u9, t9, e9, s9⟩ := len_cons s8; obtain ⟨u10, t10, e10, s10⟩ := len_cons s9; obtain ⟨u11, t11, e11, s11⟩ := len_cons s10; obtain ⟨u12, t12, e12, s12⟩ := len_cons s11; obtain ⟨u13, t13, e13, s13⟩ := len_cons s12; obtain ⟨u14, t14, e14, s14⟩ := len_cons s13; obtain ⟨u15, t15, e15, s15⟩ := len_cons s14; obtain ⟨u16, t16, e16, s16⟩ := len_cons s15; obtain ⟨u17, t17, e17, s17⟩ := len_cons s16; obtain ⟨u18, t18, e18, s18⟩ := len_cons s17; obtain ⟨u19, t19, e19, s19⟩ := len_cons s18; obtain ⟨u20, t20, e20, s20⟩ := len_cons s19; obtain ⟨u21, t21, e21, s21⟩ := len_cons s20; obtain ⟨u22, t22, e22, s22⟩ := len_cons s21; obtain ⟨u23, t23, e23, s23⟩ := len_cons s22; obtain ⟨u24, t24, e24, s24⟩ := len_cons s23; obtain ⟨u25, t25, e25, s25⟩ := len_cons s24; obtain ⟨u26, t26, e26, s26⟩ := len_cons s25; obtain ⟨u27, t27, e27, s27⟩ := len_cons s26; obtain ⟨u28, t28, e28, s28⟩ := len_cons s27; obtain ⟨u29, t29, e29, s29⟩ := len_cons s28; obtain ⟨u30, t30, e30, s30⟩ := len_cons s29; obtain ⟨u31, t31, e31, s31⟩ := len_cons s30; obtain ⟨u32, t32, e32, s32⟩ := len_cons s31; obtain ⟨u33, t33, e33, s33⟩ := len_cons s32; obtain ⟨u34, t34, e34, s34⟩ := len_cons s33; obtain ⟨u35, t35, e35, s35⟩ := len_cons s34; obtain ⟨u36, t36, e36, s36⟩ := len_cons s35; obtain ⟨u37, t37, e37, s37⟩ := len_cons s36; obtain ⟨u38, t38, e38, s38⟩ := len_cons s37; obtain ⟨u39, t39, e39, s39⟩ := len_cons s38; obtain ⟨u40, t40, e40, s40⟩ := len_cons s39; obtain ⟨u41, t41, e41, s41⟩ := len_cons s40; obtain ⟨u42, t42, e42, s42⟩ := len_cons s41; obtain ⟨u43, t43, e43, s43⟩ := len_cons s42; obtain ⟨u44, t44, e44, s44⟩ := len_cons s43; obtain ⟨u45, t45, e45, s45⟩ := len_cons s44; obtain ⟨u46, t46, e46, s46⟩ := len_cons s45
        obtain rfl := len_nil s46
        clear hus s0 s1 s2 s3 s4 s5 s6 s7 s8 s9 s10 s11 s12 s13 s14 s15 s16 s17 s18 s19 s20 s21 s22 s23 s24 s25 s26 s27 s28 s29 s30 s31 s32 s33 s34 s35 s36 s37 s38 s39 s40 s41 s42 s43 s44 s45 s46
        subst e46 e45 e44 e43 e42 e41 e40 e39 e38 e37 e36 e35 e34 e33 e32 e31 e30 e29 e28 e27 e26 e25 e24 e23 e22 e21 e20 e19 e18 e17 e16 e15 e14 e13 e12 e11 e10 e9 e8 e7 e6 e5 e4 e3 e2 e1 e0
        have h10 : u10 = .bool true := h 10 (by kernel_rfl)
        clear h
        simp only [over, Act.put, List.setIfInBounds_toArray, List.set_cons_zero, List.set_cons_succ]
        subst h10
        go_wp2_with fail
        exact postK_normal ⟨_, rfl, rfl, Ext.refl _⟩
      refine AllSteps.cons (fun us hus w' x h => ?_) ?_
      · obtain ⟨u0, t0, e0, s0⟩ := len_cons hus; obtain ⟨u1, t1, e1, s1⟩ := len_cons s0; obtain ⟨u2, t2, e2, s2⟩ := len_cons s1; obtain ⟨u3, t3, e3, s3⟩ := len_cons s2; obtain ⟨u4, t4, e4, s4⟩ := len_cons s3; obtain ⟨u5, t5, e5, s5⟩ := len_cons s4; obtain ⟨u6, t6, e6, s6⟩ := len_cons s5; obtain ⟨u7, t7, e7, s7⟩ := len_cons s6; obtain ⟨u8, t8, e8, s8⟩ := len_cons s7; obtain ⟨u9, t9, e9, s9⟩ := len_cons s8; obtain ⟨u10, t10, e10, s10⟩ := len_cons s9; obtain ⟨u11, t11, e11, s11⟩ := len_cons s10; obtain ⟨u12, t12, e12, s12⟩ := len_cons s11; obtain ⟨u13, t13, e13, s13⟩ := len_cons s12; obtain ⟨u14, t14, e14, s14⟩ := len_cons s13; obtain ⟨u15, t15, e15, s15⟩ := len_cons s14; obtain ⟨u16, t16, e16, s16⟩ := len_cons s15; obtain ⟨u17, t17, e17, s17⟩ := len_cons s16; obtain ⟨u18, t18, e18, s18⟩ := len_cons s17; obtain ⟨u19, t19, e19, s19⟩ := len_cons s18; obtain ⟨u20, t20, e20, s20⟩ := len_cons s19; obtain ⟨u21, t21, e21, s21⟩ := len_cons s20; obtain ⟨u22, t22, e22, s22⟩ := len_cons s21; obtain ⟨u23, t23, e23, s23⟩ := len_cons s22; obtain ⟨u24, t24, e24, s24⟩ := len_cons s23; obtain ⟨u25, t25, e25, s25⟩ := len_cons s24; obtain ⟨u26, t26, e26, s26⟩ := len_cons s25; obtain ⟨u27, t27, e27, s27⟩ := len_cons s26; obtain ⟨u28, t28, e28, s28⟩ := len_cons s27; obtain ⟨u29, t29, e29, s29⟩ := len_cons s28; obtain ⟨u30, t30, e30, s30⟩ := len_cons s29; obtain ⟨u31, t31, e31, s31⟩ := len_cons s30; obtain ⟨u32, t32, e32, s32⟩ := len_cons s31; obtain ⟨u33, t33, e33, s33⟩ := len_cons s32; obtain ⟨u34, t34, e34, s34⟩ := len_cons s33; obtain ⟨u35, t35, e35, s35⟩ := len_cons s34; obtain ⟨u36, t36, e36, s36⟩ := len_cons s35; obtain ⟨u37, t37, e37, s37⟩ := len_cons s36; obtain ⟨u38, t38, e38, s38⟩ := len_cons s37; obtain ⟨u39, t39, e39, s39⟩ := len_cons s38; obtain ⟨u40, t40, e40, s40⟩ := len_cons s39; obtain ⟨u41, t41, e41, s41⟩ := len_cons s40; obtain ⟨u42, t42, e42, s42⟩ := len_cons s41; obtain ⟨u43, t43, e43, s43⟩ := len_cons s42; obtain ⟨u44, t44, e44, s44⟩ := len_cons s43; obtain ⟨u45, t45, e45, s45⟩ := len_cons s44; obtain ⟨u46, t46, e46, s46⟩ := len_cons s45
        obtain rfl := len_nil s46
        clear hus s0 s1 s2 s3 s4 s5 s6 s7 s8 s9 s10 s11 s12 s13 s14 s15 s16 s17 s18 s19 s20 s21 s22 s23 s24 s25 s26 s27 s28 s29 s30 s31 s32 s33 s34 s35 s36 s37 s38 s39 s40 s41 s42 s43 s44 s45 s46
        subst e46 e45 e44 e43 e42 e41 e40 e39 e38 e37 e36 e35 e34 e33 e32 e31 e30 e29 e28 e27 e26 e25 e24 e23 e22 e21 e20 e19 e18 e17 e16 e15 e14 e13 e12 e11 e10 e9 e8 e7 e6 e5 e4 e3 e2 e1 e0
        have h11 : u11 = .bool true := h 11 (by kernel_rfl)
        clear h
        simp only [over, Act.put, List.setIfInBounds_toArray, List.set_cons_zero, List.set_cons_succ]
        subst h11
        go_wp2_with fail
        exact postK_normal ⟨_, rfl, rfl, Ext.refl _⟩
      refine AllSteps.cons (fun us hus w' x h => ?_) ?_
      · obtain ⟨u0, t0, e0, s0⟩ := len_cons hus; obtain ⟨u1, t1, e1, s1⟩ := len_cons s0; obtain ⟨u2, t2, e2, s2⟩ := len_cons s1; obtain ⟨u3, t3, e3, s3⟩ := len_cons s2; obtain ⟨u4, t4, e4, s4⟩ := len_cons s3; obtain ⟨u5, t5, e5, s5⟩ := len_cons s4; obtain ⟨u6, t6, e6, s6⟩ := len_cons s5; obtain ⟨u7, t7, e7, s7⟩ := len_cons s6; obtain ⟨u8, t8, e8, s8⟩ := len_cons s7; obtain ⟨u9, t9, e9, s9⟩ := len_cons s8; obtain ⟨u10, t10, e10, s10⟩ := len_cons s9; obtain ⟨u11, t11, e11, s11⟩ := len_cons s10; obtain ⟨u12, t12, e12, s12⟩ := len_cons s11; obtain ⟨u13, t13, e13, s13⟩ := len_cons s12; obtain ⟨u14, t14, e14, s14⟩ := len_cons s13; obtain ⟨u15, t15, e15, s15⟩ := len_cons s14; obtain ⟨u16, t16, e16, s16⟩ := len_cons s15; obtain ⟨u17, t17, e17, s17⟩ := len_cons s16; obtain ⟨u18, t18, e18, s18⟩ := len_cons s17; obtain ⟨u19, t19, e19, s19⟩ := len_cons s18; obtain ⟨u20, t20, e20, s20⟩ := len_cons s19; obtain ⟨u21, t21, e21, s21⟩ := len_cons s20; obtain ⟨u22, t22, e22, s22⟩ := len_cons s21; obtain ⟨u23, t23, e23, s23⟩ := len_cons s22; obtain ⟨u24, t24, e24, s24⟩ := len_cons s23; obtain ⟨u25, t25, e25, s25⟩ := len_cons s24; obtain ⟨u26, t26, e26, s26⟩ := len_cons s25; obtain ⟨u27, t27, e27, s27⟩ := len_cons s26; obtain ⟨u28, t28, e28, s28⟩ := len_cons s27; obtain ⟨u29, t29, e29, s29⟩ := len_cons s28; obtain ⟨u30, t30, e30, s30⟩ := len_cons s29; obtain ⟨u31, t31, e31, s31⟩ := len_cons s30; obtain ⟨u32, t32, e32, s32⟩ := len_cons s31; obtain ⟨u33, t33, e33, s33⟩ := len_cons s32; obtain ⟨u34, t34, e34, s34⟩ := len_cons s33; obtain ⟨u35, t35, e35, s35⟩ := len_cons s34; obtain ⟨u36, t36, e36, s36⟩ := len_cons s35; obtain ⟨u37, t37, e37, s37⟩ := len_cons s36; obtain ⟨u38, t38, e38, s38⟩ := len_cons s37; obtain ⟨u39, t39, e39, s39⟩ := len_cons s38; obtain ⟨u40, t40, e40, s40⟩ := len_cons s39; obtain ⟨u41, t41, e41, s41⟩ := len_cons s40; obtain ⟨u42, t42, e42, s42⟩ := len_cons s41; obtain ⟨u43, t43, e43, s43⟩ := len_cons s42; obtain ⟨u44, t44, e44, s44⟩ := len_cons s43; obtain ⟨u45, t45, e45, s45⟩ := len_cons s44; obtain ⟨u46, t46, e46, s46⟩ := len_cons s45
        obtain rfl := len_nil s46
        clear hus s0 s1 s2 s3 s4 s5 s6 s7 s8 s9 s10 s11 s12 s13 s14 s15 s16 s17 s18 s19 s20 s21 s22 s23 s24 s25 s26 s27 s28 s29 s30 s31 s32 s33 s34 s35 s36 s37 s38 s39 s40 s41 s42 s43 s44 s45 s46
        subst e46 e45 e44 e43 e42 e41 e40 e39 e38 e37 e36 e35 e34 e33 e32 e31 e30 e29 e28 e27 e26 e25 e24 e23 e22 e21 e20 e19 e18 e17 e16 e15 e14 e13 e12 e11 e10 e9 e8 e7 e6 e5 e4 e3 e2 e1 e0
        have h12 : u12 = .string a0 := h 12 (by kernel_rfl)
        have h11 : u11 = .bool true := h 11 (by kernel_rfl)
        clear h
        simp only [over, Act.put, List.setIfInBounds_toArray, List.set_cons_zero, List.set_cons_succ]
        subst h12
        subst h11
        go_wp2_with (refine wpList_toBytes rfl 9 24 _ rfl 5 Tryd.underlying9 Tryd.underlying24 Tryd.underlying5 _ rfl hmax ?_)
        intro v5 w5 o5 x5
        go_wp2_with fail
        exact postK_normal ⟨_, rfl, o5.bs, x5⟩
      refine AllSteps.cons (fun us hus w' x h => ?_) ?_
      · obtain ⟨u0, t0, e0, s0⟩ := len_cons hus; obtain ⟨u1, t1, e1, s1⟩ := len_cons s0; obtain ⟨u2, t2, e2, s2⟩ := len_cons s1; obtain ⟨u3, t3, e3, s3⟩ := len_cons s2; obtain ⟨u4, t4, e4, s4⟩ := len_cons s3; obtain ⟨u5, t5, e5, s5⟩ := len_cons s4; obtain ⟨u6, t6, e6, s6⟩ := len_cons s5; obtain ⟨u7, t7, e7, s7⟩ := len_cons s6; obtain ⟨u8, t8, e8, s8⟩ := len_cons s7; obtain ⟨u9, t9, e9, s9⟩ := len_cons s8; obtain ⟨u10, t10, e10, s10⟩ := len_cons s9; obtain ⟨u11, t11, e11, s11⟩ := len_cons s10; obtain ⟨u12, t12, e12, s12⟩ := len_cons s11; obtain ⟨u13, t13, e13, s13⟩ := len_cons s12; obtain ⟨u14, t14, e14, s14⟩ := len_cons s13; obtain ⟨u15, t15, e15, s15⟩ := len_cons s14; obtain ⟨u16, t16, e16, s16⟩ := len_cons s15; obtain ⟨u17, t17, e17, s17⟩ := len_cons s16; obtain ⟨u18, t18, e18, s18⟩ := len_cons s17; obtain ⟨u19, t19, e19, s19⟩ := len_cons s18; obtain ⟨u20, t20, e20, s20⟩ := len_cons s19; obtain ⟨u21, t21, e21, s21⟩ := len_cons s20; obtain ⟨u22, t22, e22, s22⟩ := len_cons s21; obtain ⟨u23, t23, e23, s23⟩ := len_cons s22; obtain ⟨u24, t24, e24, s24⟩ := len_cons s23; obtain ⟨u25, t25, e25, s25⟩ := len_cons s24; obtain ⟨u26, t26, e26, s26⟩ := len_cons s25; obtain ⟨u27, t27, e27, s27⟩ := len_cons s26; obtain ⟨u28, t28, e28, s28⟩ := len_cons s27; obtain ⟨u29, t29, e29, s29⟩ := len_cons s28; obtain ⟨u30, t30, e30, s30⟩ := len_cons s29; obtain ⟨u31, t31, e31, s31⟩ := len_cons s30; obtain ⟨u32, t32, e32, s32⟩ := len_cons s31; obtain ⟨u33, t33, e33, s33⟩ := len_cons s32; obtain ⟨u34, t34, e34, s34⟩ := len_cons s33; obtain ⟨u35, t35, e35, s35⟩ := len_cons s34; obtain ⟨u36, t36, e36, s36⟩ := len_cons s35; obtain ⟨u37, t37, e37, s37⟩ := len_cons s36; obtain ⟨u38, t38, e38, s38⟩ := len_cons s37; obtain ⟨u39, t39, e39, s39⟩ := len_cons s38; obtain ⟨u40, t40, e40, s40⟩ := len_cons s39; obtain ⟨u41, t41, e41, s41⟩ := len_cons s40; obtain ⟨u42, t42, e42, s42⟩ := len_cons s41; obtain ⟨u43, t43, e43, s43⟩ := len_cons s42; obtain ⟨u44, t44, e44, s44⟩ := len_cons s43; obtain ⟨u45, t45, e45, s45⟩ := len_cons s44; obtain ⟨u46, t46, e46, s46⟩ := len_cons s45
        obtain rfl := len_nil s46
        clear hus s0 s1 s2 s3 s4 s5 s6 s7 s8 s9 s10 s11 s12 s13 s14 s15 s16 s17 s18 s19 s20 s21 s22 s23 s24 s25 s26 s27 s28 s29 s30 s31 s32 s33 s34 s35 s36 s37 s38 s39 s40 s41 s42 s43 s44 s45 s46
        subst e46 e45 e44 e43 e42 e41 e40 e39 e38 e37 e36 e35 e34 e33 e32 e31 e30 e29 e28 e27 e26 e25 e24 e23 e22 e21 e20 e19 e18 e17 e16 e15 e14 e13 e12 e11 e10 e9 e8 e7 e6 e5 e4 e3 e2 e1 e0
        have h11 : u11 = .bool true := h 11 (by kernel_rfl)
        clear h
        simp only [over, Act.put, List.setIfInBounds_toArray, List.set_cons_zero, List.set_cons_succ]
        subst h11
        go_wp2_with fail
        exact postK_normal ⟨_, rfl, rfl, Ext.refl _⟩
      refine AllSteps.cons (fun us hus w' x h => ?_) ?_
      · obtain ⟨u0, t0, e0, s0⟩ := len_cons hus; obtain ⟨u1, t1, e1, s1⟩ := len_cons s0; obtain ⟨u2, t2, e2, s2⟩ := len_cons s1; obtain ⟨u3, t3, e3, s3⟩ := len_cons s2; obtain ⟨u4, t4, e4, s4⟩ := len_cons s3; obtain ⟨u5, t5, e5, s5⟩ := len_cons s4; obtain ⟨u6, t6, e6, s6⟩ := len_cons s5; obtain ⟨u7, t7, e7, s7⟩ := len_cons s6; obtain ⟨u8, t8, e8, s8⟩ := len_cons s7; obtain ⟨u9, t9, e9, s9⟩ := len_cons s8; obtain ⟨u10, t10, e10, s10⟩ := len_cons s9; obtain ⟨u11, t11, e11, s11⟩ := len_cons s10; obtain ⟨u12, t12, e12, s12⟩ := len_cons s11; obtain ⟨u13, t13, e13, s13⟩ := len_cons s12; obtain ⟨u14, t14, e14, s14⟩ := len_cons s13; obtain ⟨u15, t15, e15, s15⟩ := len_cons s14; obtain ⟨u16, t16, e16, s16⟩ := len_cons s15; obtain ⟨u17, t17, e17, s17⟩ := len_cons s16; obtain ⟨u18, t18, e18, s18⟩ := len_cons s17; obtain ⟨u19, t19, e19, s19⟩ := len_cons s18; obtain ⟨u20, t20, e20, s20⟩ := len_cons s19; obtain ⟨u21, t21, e21, s21⟩ := len_cons s20; obtain ⟨u22, t22, e22, s22⟩ := len_cons s21; obtain ⟨u23, t23, e23, s23⟩ := len_cons s22; obtain ⟨u24, t24, e24, s24⟩ := len_cons s23; obtain ⟨u25, t25, e25, s25⟩ := len_cons s24; obtain ⟨u26, t26, e26, s26⟩ := len_cons s25; obtain ⟨u27, t27, e27, s27⟩ := len_cons s26; obtain ⟨u28, t28, e28, s28⟩ := len_cons s27; obtain ⟨u29, t29, e29, s29⟩ := len_cons s28; obtain ⟨u30, t30, e30, s30⟩ := len_cons s29; obtain ⟨u31, t31, e31, s31⟩ := len_cons s30; obtain ⟨u32, t32, e32, s32⟩ := len_cons s31; obtain ⟨u33, t33, e33, s33⟩ := len_cons s32; obtain ⟨u34, t34, e34, s34⟩ := len_cons s33; obtain ⟨u35, t35, e35, s35⟩ := len_cons s34; obtain ⟨u36, t36, e36, s36⟩ := len_cons s35; obtain ⟨u37, t37, e37, s37⟩ := len_cons s36; obtain ⟨u38, t38, e38, s38⟩ := len_cons s37; obtain ⟨u39, t39, e39, s39⟩ := len_cons s38; obtain ⟨u40, t40, e40, s40⟩ := len_cons s39; obtain ⟨u41, t41, e41, s41⟩ := len_cons s40; obtain ⟨u42, t42, e42, s42⟩ := len_cons s41; obtain ⟨u43, t43, e43, s43⟩ := len_cons s42; obtain ⟨u44, t44, e44, s44⟩ := len_cons s43; obtain ⟨u45, t45, e45, s45⟩ := len_cons s44; obtain ⟨u46, t46, e46, s46⟩ := len_cons s45
        obtain rfl := len_nil s46
        clear hus s0 s1 s2 s3 s4 s5 s6 s7 s8 s9 s10 s11 s12 s13 s14 s15 s16 s17 s18 s19 s20 s21 s22 s23 s24 s25 s26 s27 s28 s29 s30 s31 s32 s33 s34 s35 s36 s37 s38 s39 s40 s41 s42 s43 s44 s45 s46
        subst e46 e45 e44 e43 e42 e41 e40 e39 e38 e37 e36 e35 e34 e33 e32 e31 e30 e29 e28 e27 e26 e25 e24 e23 e22 e21 e20 e19 e18 e17 e16 e15 e14 e13 e12 e11 e10 e9 e8 e7 e6 e5 e4 e3 e2 e1 e0
        have h13 : Bs w' u13 a0.data.toList := h 13 (by kernel_rfl)
        have h14 : u14 = .string a1 := h 14 (by kernel_rfl)
        have h11 : u11 = .bool true := h 11 (by kernel_rfl)
        clear h
        simp only [over, Act.put, List.setIfInBounds_toArray, List.set_cons_zero, List.set_cons_succ]
        subst h14
        subst h11
        have c5 := impl_TrimLeft _ _ a1 _ h13 (HT.out.ext x) (by omega) (by show a0.size ≤ _; omega)
        rw [HTL.out] at c5
        go_wp2_with (go_at_call 22; refine c5.mono ?_)
        rintro _ w5 ⟨v5, rfl, o5, x5⟩
        go_wp2_with fail
        exact postK_normal ⟨_, rfl, o5.bs, x5⟩
      refine AllSteps.cons (fun us hus w' x h => ?_) ?_
      · obtain ⟨u0, t0, e0, s0⟩ := len_cons hus; obtain ⟨u1, t1, e1, s1⟩ := len_cons s0; obtain ⟨u2, t2, e2, s2⟩ := len_cons s1; obtain ⟨u3, t3, e3, s3⟩ := len_cons s2; obtain ⟨u4, t4, e4, s4⟩ := len_cons s3; obtain ⟨u5, t5, e5, s5⟩ := len_cons s4; obtain ⟨u6, t6, e6, s6⟩ := len_cons s5; obtain ⟨u7, t7, e7, s7⟩ := len_cons s6; obtain ⟨u8, t8, e8, s8⟩ := len_cons s7; obtain ⟨u9, t9, e9, s9⟩ := len_cons s8; obtain ⟨u10, t10, e10, s10⟩ := len_cons s9; obtain ⟨u11, t11, e11, s11⟩ := len_cons s10; obtain ⟨u12, t12, e12, s12⟩ := len_cons s11; obtain ⟨u13, t13, e13, s13⟩ := len_cons s12; obtain ⟨u14, t14, e14, s14⟩ := len_cons s13; obtain ⟨u15, t15, e15, s15⟩ := len_cons s14; obtain ⟨u16, t16, e16, s16⟩ := len_cons s15; obtain ⟨u17, t17, e17, s17⟩ := len_cons s16; obtain ⟨u18, t18, e18, s18⟩ := len_cons s17; obtain ⟨u19, t19, e19, s19⟩ := len_cons s18; obtain ⟨u20, t20, e20, s20⟩ := len_cons s19; obtain ⟨u21, t21, e21, s21⟩ := len_cons s20; obtain ⟨u22, t22, e22, s22⟩ := len_cons s21; obtain ⟨u23, t23, e23, s23⟩ := len_cons s22; obtain ⟨u24, t24, e24, s24⟩ := len_cons s23; obtain ⟨u25, t25, e25, s25⟩ := len_cons s24; obtain ⟨u26, t26, e26, s26⟩ := len_cons s25; obtain ⟨u27, t27, e27, s27⟩ := len_cons s26; obtain ⟨u28, t28, e28, s28⟩ := len_cons s27; obtain ⟨u29, t29, e29, s29⟩ := len_cons s28; obtain ⟨u30, t30, e30, s30⟩ := len_cons s29; obtain ⟨u31, t31, e31, s31⟩ := len_cons s30; obtain ⟨u32, t32, e32, s32⟩ := len_cons s31; obtain ⟨u33, t33, e33, s33⟩ := len_cons s32; obtain ⟨u34, t34, e34, s34⟩ := len_cons s33; obtain ⟨u35, t35, e35, s35⟩ := len_cons s34; obtain ⟨u36, t36, e36, s36⟩ := len_cons s35; obtain ⟨u37, t37, e37, s37⟩ := len_cons s36; obtain ⟨u38, t38, e38, s38⟩ := len_cons s37; obtain ⟨u39, t39, e39, s39⟩ := len_cons s38; obtain ⟨u40, t40, e40, s40⟩ := len_cons s39; obtain ⟨u41, t41, e41, s41⟩ := len_cons s40; obtain ⟨u42, t42, e42, s42⟩ := len_cons s41; obtain ⟨u43, t43, e43, s43⟩ := len_cons s42; obtain ⟨u44, t44, e44, s44⟩ := len_cons s43; obtain ⟨u45, t45, e45, s45⟩ := len_cons s44; obtain ⟨u46, t46, e46, s46⟩ := len_cons s45
        obtain rfl := len_nil s46
        clear hus s0 s1 s2 s3 s4 s5 s6 s7 s8 s9 s10 s11 s12 s13 s14 s15 s16 s17 s18 s19 s20 s21 s22 s23 s24 s25 s26 s27 s28 s29 s30 s31 s32 s33 s34 s35 s36 s37 s38 s39 s40 s41 s42 s43 s44 s45 s46
        subst e46 e45 e44 e43 e42 e41 e40 e39 e38 e37 e36 e35 e34 e33 e32 e31 e30 e29 e28 e27 e26 e25 e24 e23 e22 e21 e20 e19 e18 e17 e16 e15 e14 e13 e12 e11 e10 e9 e8 e7 e6 e5 e4 e3 e2 e1 e0
        have h15 : Bs w' u15 TL := h 15 (by kernel_rfl)
        have h11 : u11 = .bool true := h 11 (by kernel_rfl)
        clear h
        simp only [over, Act.put, List.setIfInBounds_toArray, List.set_cons_zero, List.set_cons_succ]
        subst h11
        go_wp2_with (refine wpList_toString rfl 24 9 _ rfl 5 Tryd.underlying24 Tryd.underlying5 Tryd.underlying9 _ _ rfl h15 ?_)
        exact postK_normal ⟨_, rfl, rfl, Ext.refl _⟩
      refine AllSteps.cons (fun us hus w' x h => ?_) ?_
      · obtain ⟨u0, t0, e0, s0⟩ := len_cons hus; obtain ⟨u1, t1, e1, s1⟩ := len_cons s0; obtain ⟨u2, t2, e2, s2⟩ := len_cons s1; obtain ⟨u3, t3, e3, s3⟩ := len_cons s2; obtain ⟨u4, t4, e4, s4⟩ := len_cons s3; obtain ⟨u5, t5, e5, s5⟩ := len_cons s4; obtain ⟨u6, t6, e6, s6⟩ := len_cons s5; obtain ⟨u7, t7, e7, s7⟩ := len_cons s6; obtain ⟨u8, t8, e8, s8⟩ := len_cons s7; obtain ⟨u9, t9, e9, s9⟩ := len_cons s8; obtain ⟨u10, t10, e10, s10⟩ := len_cons s9; obtain ⟨u11, t11, e11, s11⟩ := len_cons s10; obtain ⟨u12, t12, e12, s12⟩ := len_cons s11; obtain ⟨u13, t13, e13, s13⟩ := len_cons s12; obtain ⟨u14, t14, e14, s14⟩ := len_cons s13; obtain ⟨u15, t15, e15, s15⟩ := len_cons s14; obtain ⟨u16, t16, e16, s16⟩ := len_cons s15; obtain ⟨u17, t17, e17, s17⟩ := len_cons s16; obtain ⟨u18, t18, e18, s18⟩ := len_cons s17; obtain ⟨u19, t19, e19, s19⟩ := len_cons s18; obtain ⟨u20, t20, e20, s20⟩ := len_cons s19; obtain ⟨u21, t21, e21, s21⟩ := len_cons s20; obtain ⟨u22, t22, e22, s22⟩ := len_cons s21; obtain ⟨u23, t23, e23, s23⟩ := len_cons s22; obtain ⟨u24, t24, e24, s24⟩ := len_cons s23; obtain ⟨u25, t25, e25, s25⟩ := len_cons s24; obtain ⟨u26, t26, e26, s26⟩ := len_cons s25; obtain ⟨u27, t27, e27, s27⟩ := len_cons s26; obtain ⟨u28, t28, e28, s28⟩ := len_cons s27; obtain ⟨u29, t29, e29, s29⟩ := len_cons s28; obtain ⟨u30, t30, e30, s30⟩ := len_cons s29; obtain ⟨u31, t31, e31, s31⟩ := len_cons s30; obtain ⟨u32, t32, e32, s32⟩ := len_cons s31; obtain ⟨u33, t33, e33, s33⟩ := len_cons s32; obtain ⟨u34, t34, e34, s34⟩ := len_cons s33; obtain ⟨u35, t35, e35, s35⟩ := len_cons s34; obtain ⟨u36, t36, e36, s36⟩ := len_cons s35; obtain ⟨u37, t37, e37, s37⟩ := len_cons s36; obtain ⟨u38, t38, e38, s38⟩ := len_cons s37; obtain ⟨u39, t39, e39, s39⟩ := len_cons s38; obtain ⟨u40, t40, e40, s40⟩ := len_cons s39; obtain ⟨u41, t41, e41, s41⟩ := len_cons s40; obtain ⟨u42, t42, e42, s42⟩ := len_cons s41; obtain ⟨u43, t43, e43, s43⟩ := len_cons s42; obtain ⟨u44, t44, e44, s44⟩ := len_cons s43; obtain ⟨u45, t45, e45, s45⟩ := len_cons s44; obtain ⟨u46, t46, e46, s46⟩ := len_cons s45
        obtain rfl := len_nil s46
        clear hus s0 s1 s2 s3 s4 s5 s6 s7 s8 s9 s10 s11 s12 s13 s14 s15 s16 s17 s18 s19 s20 s21 s22 s23 s24 s25 s26 s27 s28 s29 s30 s31 s32 s33 s34 s35 s36 s37 s38 s39 s40 s41 s42 s43 s44 s45 s46
        subst e46 e45 e44 e43 e42 e41 e40 e39 e38 e37 e36 e35 e34 e33 e32 e31 e30 e29 e28 e27 e26 e25 e24 e23 e22 e21 e20 e19 e18 e17 e16 e15 e14 e13 e12 e11 e10 e9 e8 e7 e6 e5 e4 e3 e2 e1 e0
        have h11 : u11 = .bool true := h 11 (by kernel_rfl)
        clear h
        simp only [over, Act.put, List.setIfInBounds_toArray, List.set_cons_zero, List.set_cons_succ]
        subst h11
        go_wp2_with fail
        exact postK_normal ⟨_, rfl, rfl, Ext.refl _⟩
      refine AllSteps.cons (fun us hus w' x h => ?_) ?_
      · obtain ⟨u0, t0, e0, s0⟩ := len_cons hus; obtain ⟨u1, t1, e1, s1⟩ := len_cons s0; obtain ⟨u2, t2, e2, s2⟩ := len_cons s1; obtain ⟨u3, t3, e3, s3⟩ := len_cons s2; obtain ⟨u4, t4, e4, s4⟩ := len_cons s3; obtain ⟨u5, t5, e5, s5⟩ := len_cons s4; obtain ⟨u6, t6, e6, s6⟩ := len_cons s5; obtain ⟨u7, t7, e7, s7⟩ := len_cons s6; obtain ⟨u8, t8, e8, s8⟩ := len_cons s7; obtain ⟨u9, t9, e9, s9⟩ := len_cons s8; obtain ⟨u10, t10, e10, s10⟩ := len_cons s9; obtain ⟨u11, t11, e11, s11⟩ := len_cons s10; obtain ⟨u12, t12, e12, s12⟩ := len_cons s11; obtain ⟨u13, t13, e13, s13⟩ := len_cons s12; obtain ⟨u14, t14, e14, s14⟩ := len_cons s13; obtain ⟨u15, t15, e15, s15⟩ := len_cons s14; obtain ⟨u16, t16, e16, s16⟩ := len_cons s15; obtain ⟨u17, t17, e17, s17⟩ := len_cons s16; obtain ⟨u18, t18, e18, s18⟩ := len_cons s17; obtain ⟨u19, t19, e19, s19⟩ := len_cons s18; obtain ⟨u20, t20, e20, s20⟩ := len_cons s19; obtain ⟨u21, t21, e21, s21⟩ := len_cons s20; obtain ⟨u22, t22, e22, s22⟩ := len_cons s21; obtain ⟨u23, t23, e23, s23⟩ := len_cons s22; obtain ⟨u24, t24, e24, s24⟩ := len_cons s23; obtain ⟨u25, t25, e25, s25⟩ := len_cons s24; obtain ⟨u26, t26, e26, s26⟩ := len_cons s25; obtain ⟨u27, t27, e27, s27⟩ := len_cons s26; obtain ⟨u28, t28, e28, s28⟩ := len_cons s27; obtain ⟨u29, t29, e29, s29⟩ := len_cons s28; obtain ⟨u30, t30, e30, s30⟩ := len_cons s29; obtain ⟨u31, t31, e31, s31⟩ := len_cons s30; obtain ⟨u32, t32, e32, s32⟩ := len_cons s31; obtain ⟨u33, t33, e33, s33⟩ := len_cons s32; obtain ⟨u34, t34, e34, s34⟩ := len_cons s33; obtain ⟨u35, t35, e35, s35⟩ := len_cons s34; obtain ⟨u36, t36, e36, s36⟩ := len_cons s35; obtain ⟨u37, t37, e37, s37⟩ := len_cons s36; obtain ⟨u38, t38, e38, s38⟩ := len_cons s37; obtain ⟨u39, t39, e39, s39⟩ := len_cons s38; obtain ⟨u40, t40, e40, s40⟩ := len_cons s39; obtain ⟨u41, t41, e41, s41⟩ := len_cons s40; obtain ⟨u42, t42, e42, s42⟩ := len_cons s41; obtain ⟨u43, t43, e43, s43⟩ := len_cons s42; obtain ⟨u44, t44, e44, s44⟩ := len_cons s43; obtain ⟨u45, t45, e45, s45⟩ := len_cons s44; obtain ⟨u46, t46, e46, s46⟩ := len_cons s45
        obtain rfl := len_nil s46
        clear hus s0 s1 s2 s3 s4 s5 s6 s7 s8 s9 s10 s11 s12 s13 s14 s15 s16 s17 s18 s19 s20 s21 s22 s23 s24 s25 s26 s27 s28 s29 s30 s31 s32 s33 s34 s35 s36 s37 s38 s39 s40 s41 s42 s43 s44 s45 s46
        subst e46 e45 e44 e43 e42 e41 e40 e39 e38 e37 e36 e35 e34 e33 e32 e31 e30 e29 e28 e27 e26 e25 e24 e23 e22 e21 e20 e19 e18 e17 e16 e15 e14 e13 e12 e11 e10 e9 e8 e7 e6 e5 e4 e3 e2 e1 e0
        have h17 : u17 = .string a0 := h 17 (by kernel_rfl)
        have h11 : u11 = .bool true := h 11 (by kernel_rfl)
        clear h
        simp only [over, Act.put, List.setIfInBounds_toArray, List.set_cons_zero, List.set_cons_succ]
        subst h17
        subst h11
        go_wp2_with (refine wpList_toBytes rfl 9 24 _ rfl 5 Tryd.underlying9 Tryd.underlying24 Tryd.underlying5 _ rfl hmax ?_)
        intro v5 w5 o5 x5
        go_wp2_with fail
        exact postK_normal ⟨_, rfl, o5.bs, x5⟩
      refine AllSteps.cons (fun us hus w' x h => ?_) ?_
      · obtain ⟨u0, t0, e0, s0⟩ := len_cons hus; obtain ⟨u1, t1, e1, s1⟩ := len_cons s0; obtain ⟨u2, t2, e2, s2⟩ := len_cons s1; obtain ⟨u3, t3, e3, s3⟩ := len_cons s2; obtain ⟨u4, t4, e4, s4⟩ := len_cons s3; obtain ⟨u5, t5, e5, s5⟩ := len_cons s4; obtain ⟨u6, t6, e6, s6⟩ := len_cons s5; obtain ⟨u7, t7, e7, s7⟩ := len_cons s6; obtain ⟨u8, t8, e8, s8⟩ := len_cons s7; obtain ⟨u9, t9, e9, s9⟩ := len_cons s8; obtain ⟨u10, t10, e10, s10⟩ := len_cons s9; obtain ⟨u11, t11, e11, s11⟩ := len_cons s10; obtain ⟨u12, t12, e12, s12⟩ := len_cons s11; obtain ⟨u13, t13, e13, s13⟩ := len_cons s12; obtain ⟨u14, t14, e14, s14⟩ := len_cons s13; obtain ⟨u15, t15, e15, s15⟩ := len_cons s14; obtain ⟨u16, t16, e16, s16⟩ := len_cons s15; obtain ⟨u17, t17, e17, s17⟩ := len_cons s16; obtain ⟨u18, t18, e18, s18⟩ := len_cons s17; obtain ⟨u19, t19, e19, s19⟩ := len_cons s18; obtain ⟨u20, t20, e20, s20⟩ := len_cons s19; obtain ⟨u21, t21, e21, s21⟩ := len_cons s20; obtain ⟨u22, t22, e22, s22⟩ := len_cons s21; obtain ⟨u23, t23, e23, s23⟩ := len_cons s22; obtain ⟨u24, t24, e24, s24⟩ := len_cons s23; obtain ⟨u25, t25, e25, s25⟩ := len_cons s24; obtain ⟨u26, t26, e26, s26⟩ := len_cons s25; obtain ⟨u27, t27, e27, s27⟩ := len_cons s26; obtain ⟨u28, t28, e28, s28⟩ := len_cons s27; obtain ⟨u29, t29, e29, s29⟩ := len_cons s28; obtain ⟨u30, t30, e30, s30⟩ := len_cons s29; obtain ⟨u31, t31, e31, s31⟩ := len_cons s30; obtain ⟨u32, t32, e32, s32⟩ := len_cons s31; obtain ⟨u33, t33, e33, s33⟩ := len_cons s32; obtain ⟨u34, t34, e34, s34⟩ := len_cons s33; obtain ⟨u35, t35, e35, s35⟩ := len_cons s34; obtain ⟨u36, t36, e36, s36⟩ := len_cons s35; obtain ⟨u37, t37, e37, s37⟩ := len_cons s36; obtain ⟨u38, t38, e38, s38⟩ := len_cons s37; obtain ⟨u39, t39, e39, s39⟩ := len_cons s38; obtain ⟨u40, t40, e40, s40⟩ := len_cons s39; obtain ⟨u41, t41, e41, s41⟩ := len_cons s40; obtain ⟨u42, t42, e42, s42⟩ := len_cons s41; obtain ⟨u43, t43, e43, s43⟩ := len_cons s42; obtain ⟨u44, t44, e44, s44⟩ := len_cons s43; obtain ⟨u45, t45, e45, s45⟩ := len_cons s44; obtain ⟨u46, t46, e46, s46⟩ := len_cons s45
        obtain rfl := len_nil s46
        clear hus s0 s1 s2 s3 s4 s5 s6 s7 s8 s9 s10 s11 s12 s13 s14 s15 s16 s17 s18 s19 s20 s21 s22 s23 s24 s25 s26 s27 s28 s29 s30 s31 s32 s33 s34 s35 s36 s37 s38 s39 s40 s41 s42 s43 s44 s45 s46
        subst e46 e45 e44 e43 e42 e41 e40 e39 e38 e37 e36 e35 e34 e33 e32 e31 e30 e29 e28 e27 e26 e25 e24 e23 e22 e21 e20 e19 e18 e17 e16 e15 e14 e13 e12 e11 e10 e9 e8 e7 e6 e5 e4 e3 e2 e1 e0
        have h11 : u11 = .bool true := h 11 (by kernel_rfl)
        clear h
        simp only [over, Act.put, List.setIfInBounds_toArray, List.set_cons_zero, List.set_cons_succ]
        subst h11
        have f0 := x.cell HF0.out
        have f1 := x.cell HF1.out
        go_wp2_with fail
        exact postK_normal ⟨_, rfl, rfl, Ext.refl _⟩
      refine AllSteps.cons (fun us hus w' x h => ?_) ?_
      · obtain ⟨u0, t0, e0, s0⟩ := len_cons hus; obtain ⟨u1, t1, e1, s1⟩ := len_cons s0; obtain ⟨u2, t2, e2, s2⟩ := len_cons s1; obtain ⟨u3, t3, e3, s3⟩ := len_cons s2; obtain ⟨u4, t4, e4, s4⟩ := len_cons s3; obtain ⟨u5, t5, e5, s5⟩ := len_cons s4; obtain ⟨u6, t6, e6, s6⟩ := len_cons s5; obtain ⟨u7, t7, e7, s7⟩ := len_cons s6; obtain ⟨u8, t8, e8, s8⟩ := len_cons s7; obtain ⟨u9, t9, e9, s9⟩ := len_cons s8; obtain ⟨u10, t10, e10, s10⟩ := len_cons s9; obtain ⟨u11, t11, e11, s11⟩ := len_cons s10; obtain ⟨u12, t12, e12, s12⟩ := len_cons s11; obtain ⟨u13, t13, e13, s13⟩ := len_cons s12; obtain ⟨u14, t14, e14, s14⟩ := len_cons s13; obtain ⟨u15, t15, e15, s15⟩ := len_cons s14; obtain ⟨u16, t16, e16, s16⟩ := len_cons s15; obtain ⟨u17, t17, e17, s17⟩ := len_cons s16; obtain ⟨u18, t18, e18, s18⟩ := len_cons s17; obtain ⟨u19, t19, e19, s19⟩ := len_cons s18; obtain ⟨u20, t20, e20, s20⟩ := len_cons s19; obtain ⟨u21, t21, e21, s21⟩ := len_cons s20; obtain ⟨u22, t22, e22, s22⟩ := len_cons s21; obtain ⟨u23, t23, e23, s23⟩ := len_cons s22; obtain ⟨u24, t24, e24, s24⟩ := len_cons s23; obtain ⟨u25, t25, e25, s25⟩ := len_cons s24; obtain ⟨u26, t26, e26, s26⟩ := len_cons s25; obtain ⟨u27, t27, e27, s27⟩ := len_cons s26; obtain ⟨u28, t28, e28, s28⟩ := len_cons s27; obtain ⟨u29, t29, e29, s29⟩ := len_cons s28; obtain ⟨u30, t30, e30, s30⟩ := len_cons s29; obtain ⟨u31, t31, e31, s31⟩ := len_cons s30; obtain ⟨u32, t32, e32, s32⟩ := len_cons s31; obtain ⟨u33, t33, e33, s33⟩ := len_cons s32; obtain ⟨u34, t34, e34, s34⟩ := len_cons s33; obtain ⟨u35, t35, e35, s35⟩ := len_cons s34; obtain ⟨u36, t36, e36, s36⟩ := len_cons s35; obtain ⟨u37, t37, e37, s37⟩ := len_cons s36; obtain ⟨u38, t38, e38, s38⟩ := len_cons s37; obtain ⟨u39, t39, e39, s39⟩ := len_cons s38; obtain ⟨u40, t40, e40, s40⟩ := len_cons s39; obtain ⟨u41, t41, e41, s41⟩ := len_cons s40; obtain ⟨u42, t42, e42, s42⟩ := len_cons s41; obtain ⟨u43, t43, e43, s43⟩ := len_cons s42; obtain ⟨u44, t44, e44, s44⟩ := len_cons s43; obtain ⟨u45, t45, e45, s45⟩ := len_cons s44; obtain ⟨u46, t46, e46, s46⟩ := len_cons s45
        obtain rfl := len_nil s46
        clear hus s0 s1 s2 s3 s4 s5 s6 s7 s8 s9 s10 s11 s12 s13 s14 s15 s16 s17 s18 s19 s20 s21 s22 s23 s24 s25 s26 s27 s28 s29 s30 s31 s32 s33 s34 s35 s36 s37 s38 s39 s40 s41 s42 s43 s44 s45 s46
        subst e46 e45 e44 e43 e42 e41 e40 e39 e38 e37 e36 e35 e34 e33 e32 e31 e30 e29 e28 e27 e26 e25 e24 e23 e22 e21 e20 e19 e18 e17 e16 e15 e14 e13 e12 e11 e10 e9 e8 e7 e6 e5 e4 e3 e2 e1 e0
        have h18 : Bs w' u18 a0.data.toList := h 18 (by kernel_rfl)
        have h19 : u19 = .agg #[.slice a2 rs.length c2, .bool false] := h 19 (by kernel_rfl)
        have h11 : u11 = .bool true := h 11 (by kernel_rfl)
        clear h
        simp only [over, Act.put, List.setIfInBounds_toArray, List.set_cons_zero, List.set_cons_succ]
        subst h19
        subst h11
        have c5 := impl_TrimLeftFunc _ _ _ rs false _ h18 (HI.out.ext x) (HT.out.ext x) (by show a0.size ≤ _; omega)
        rw [HFTL.out] at c5
        go_wp2_with (go_at_call 36; refine c5.mono ?_)
        rintro _ w5 ⟨v5, rfl, o5, x5⟩
        go_wp2_with fail
        exact postK_normal ⟨_, rfl, o5.bs, x5⟩
      refine AllSteps.cons (fun us hus w' x h => ?_) ?_
      · obtain ⟨u0, t0, e0, s0⟩ := len_cons hus; obtain ⟨u1, t1, e1, s1⟩ := len_cons s0; obtain ⟨u2, t2, e2, s2⟩ := len_cons s1; obtain ⟨u3, t3, e3, s3⟩ := len_cons s2; obtain ⟨u4, t4, e4, s4⟩ := len_cons s3; obtain ⟨u5, t5, e5, s5⟩ := len_cons s4; obtain ⟨u6, t6, e6, s6⟩ := len_cons s5; obtain ⟨u7, t7, e7, s7⟩ := len_cons s6; obtain ⟨u8, t8, e8, s8⟩ := len_cons s7; obtain ⟨u9, t9, e9, s9⟩ := len_cons s8; obtain ⟨u10, t10, e10, s10⟩ := len_cons s9; obtain ⟨u11, t11, e11, s11⟩ := len_cons s10; obtain ⟨u12, t12, e12, s12⟩ := len_cons s11; obtain ⟨u13, t13, e13, s13⟩ := len_cons s12; obtain ⟨u14, t14, e14, s14⟩ := len_cons s13; obtain ⟨u15, t15, e15, s15⟩ := len_cons s14; obtain ⟨u16, t16, e16, s16⟩ := len_cons s15; obtain ⟨u17, t17, e17, s17⟩ := len_cons s16; obtain ⟨u18, t18, e18, s18⟩ := len_cons s17; obtain ⟨u19, t19, e19, s19⟩ := len_cons s18; obtain ⟨u20, t20, e20, s20⟩ := len_cons s19; obtain ⟨u21, t21, e21, s21⟩ := len_cons s20; obtain ⟨u22, t22, e22, s22⟩ := len_cons s21; obtain ⟨u23, t23, e23, s23⟩ := len_cons s22; obtain ⟨u24, t24, e24, s24⟩ := len_cons s23; obtain ⟨u25, t25, e25, s25⟩ := len_cons s24; obtain ⟨u26, t26, e26, s26⟩ := len_cons s25; obtain ⟨u27, t27, e27, s27⟩ := len_cons s26; obtain ⟨u28, t28, e28, s28⟩ := len_cons s27; obtain ⟨u29, t29, e29, s29⟩ := len_cons s28; obtain ⟨u30, t30, e30, s30⟩ := len_cons s29; obtain ⟨u31, t31, e31, s31⟩ := len_cons s30; obtain ⟨u32, t32, e32, s32⟩ := len_cons s31; obtain ⟨u33, t33, e33, s33⟩ := len_cons s32; obtain ⟨u34, t34, e34, s34⟩ := len_cons s33; obtain ⟨u35, t35, e35, s35⟩ := len_cons s34; obtain ⟨u36, t36, e36, s36⟩ := len_cons s35; obtain ⟨u37, t37, e37, s37⟩ := len_cons s36; obtain ⟨u38, t38, e38, s38⟩ := len_cons s37; obtain ⟨u39, t39, e39, s39⟩ := len_cons s38; obtain ⟨u40, t40, e40, s40⟩ := len_cons s39; obtain ⟨u41, t41, e41, s41⟩ := len_cons s40; obtain ⟨u42, t42, e42, s42⟩ := len_cons s41; obtain ⟨u43, t43, e43, s43⟩ := len_cons s42; obtain ⟨u44, t44, e44, s44⟩ := len_cons s43; obtain ⟨u45, t45, e45, s45⟩ := len_cons s44; obtain ⟨u46, t46, e46, s46⟩ := len_cons s45
        obtain rfl := len_nil s46
        clear hus s0 s1 s2 s3 s4 s5 s6 s7 s8 s9 s10 s11 s12 s13 s14 s15 s16 s17 s18 s19 s20 s21 s22 s23 s24 s25 s26 s27 s28 s29 s30 s31 s32 s33 s34 s35 s36 s37 s38 s39 s40 s41 s42 s43 s44 s45 s46
        subst e46 e45 e44 e43 e42 e41 e40 e39 e38 e37 e36 e35 e34 e33 e32 e31 e30 e29 e28 e27 e26 e25 e24 e23 e22 e21 e20 e19 e18 e17 e16 e15 e14 e13 e12 e11 e10 e9 e8 e7 e6 e5 e4 e3 e2 e1 e0
        have h20 : Bs w' u20 TL := h 20 (by kernel_rfl)
        have h11 : u11 = .bool true := h 11 (by kernel_rfl)
        clear h
        simp only [over, Act.put, List.setIfInBounds_toArray, List.set_cons_zero, List.set_cons_succ]
        subst h11
        go_wp2_with (refine wpList_toString rfl 24 9 _ rfl 5 Tryd.underlying24 Tryd.underlying5 Tryd.underlying9 _ _ rfl h20 ?_)
        exact postK_normal ⟨_, rfl, rfl, Ext.refl _⟩
      refine AllSteps.cons (fun us hus w' x h => ?_) ?_
      · obtain ⟨u0, t0, e0, s0⟩ := len_cons hus; obtain ⟨u1, t1, e1, s1⟩ := len_cons s0; obtain ⟨u2, t2, e2, s2⟩ := len_cons s1; obtain ⟨u3, t3, e3, s3⟩ := len_cons s2; obtain ⟨u4, t4, e4, s4⟩ := len_cons s3; obtain ⟨u5, t5, e5, s5⟩ := len_cons s4; obtain ⟨u6, t6, e6, s6⟩ := len_cons s5; obtain ⟨u7, t7, e7, s7⟩ := len_cons s6; obtain ⟨u8, t8, e8, s8⟩ := len_cons s7; obtain ⟨u9, t9, e9, s9⟩ := len_cons s8; obtain ⟨u10, t10, e10, s10⟩ := len_cons s9; obtain ⟨u11, t11, e11, s11⟩ := len_cons s10; obtain ⟨u12, t12, e12, s12⟩ := len_cons s11; obtain ⟨u13, t13, e13, s13⟩ := len_cons s12; obtain ⟨u14, t14, e14, s14⟩ := len_cons s13; obtain ⟨u15, t15, e15, s15⟩ := len_cons s14; obtain ⟨u16, t16, e16, s16⟩ := len_cons s15; obtain ⟨u17, t17, e17, s17⟩ := len_cons s16; obtain ⟨u18, t18, e18, s18⟩ := len_cons s17; obtain ⟨u19, t19, e19, s19⟩ := len_cons s18; obtain ⟨u20, t20, e20, s20⟩ := len_cons s19; obtain ⟨u21, t21, e21, s21⟩ := len_cons s20; obtain ⟨u22, t22, e22, s22⟩ := len_cons s21; obtain ⟨u23, t23, e23, s23⟩ := len_cons s22; obtain ⟨u24, t24, e24, s24⟩ := len_cons s23; obtain ⟨u25, t25, e25, s25⟩ := len_cons s24; obtain ⟨u26, t26, e26, s26⟩ := len_cons s25; obtain ⟨u27, t27, e27, s27⟩ := len_cons s26; obtain ⟨u28, t28, e28, s28⟩ := len_cons s27; obtain ⟨u29, t29, e29, s29⟩ := len_cons s28; obtain ⟨u30, t30, e30, s30⟩ := len_cons s29; obtain ⟨u31, t31, e31, s31⟩ := len_cons s30; obtain ⟨u32, t32, e32, s32⟩ := len_cons s31; obtain ⟨u33, t33, e33, s33⟩ := len_cons s32; obtain ⟨u34, t34, e34, s34⟩ := len_cons s33; obtain ⟨u35, t35, e35, s35⟩ := len_cons s34; obtain ⟨u36, t36, e36, s36⟩ := len_cons s35; obtain ⟨u37, t37, e37, s37⟩ := len_cons s36; obtain ⟨u38, t38, e38, s38⟩ := len_cons s37; obtain ⟨u39, t39, e39, s39⟩ := len_cons s38; obtain ⟨u40, t40, e40, s40⟩ := len_cons s39; obtain ⟨u41, t41, e41, s41⟩ := len_cons s40; obtain ⟨u42, t42, e42, s42⟩ := len_cons s41; obtain ⟨u43, t43, e43, s43⟩ := len_cons s42; obtain ⟨u44, t44, e44, s44⟩ := len_cons s43; obtain ⟨u45, t45, e45, s45⟩ := len_cons s44; obtain ⟨u46, t46, e46, s46⟩ := len_cons s45
        obtain rfl := len_nil s46
        clear hus s0 s1 s2 s3 s4 s5 s6 s7 s8 s9 s10 s11 s12 s13 s14 s15 s16 s17 s18 s19 s20 s21 s22 s23 s24 s25 s26 s27 s28 s29 s30 s31 s32 s33 s34 s35 s36 s37 s38 s39 s40 s41 s42 s43 s44 s45 s46
        subst e46 e45 e44 e43 e42 e41 e40 e39 e38 e37 e36 e35 e34 e33 e32 e31 e30 e29 e28 e27 e26 e25 e24 e23 e22 e21 e20 e19 e18 e17 e16 e15 e14 e13 e12 e11 e10 e9 e8 e7 e6 e5 e4 e3 e2 e1 e0
        have h16 : u16 = .string ⟨TL.toArray⟩ := h 16 (by kernel_rfl)
        have h21 : u21 = .string ⟨TL.toArray⟩ := h 21 (by kernel_rfl)
        have h11 : u11 = .bool true := h 11 (by kernel_rfl)
        clear h
        simp only [over, Act.put, List.setIfInBounds_toArray, List.set_cons_zero, List.set_cons_succ]
        subst h16
        subst h21
        subst h11
        go_wp2_with fail
        exact postK_normal ⟨_, rfl, rfl, Ext.refl _⟩
      refine AllSteps.cons (fun us hus w' x h => ?_) ?_
      · obtain ⟨u0, t0, e0, s0⟩ := len_cons hus; obtain ⟨u1, t1, e1, s1⟩ := len_cons s0; obtain ⟨u2, t2, e2, s2⟩ := len_cons s1; obtain ⟨u3, t3, e3, s3⟩ := len_cons s2; obtain ⟨u4, t4, e4, s4⟩ := len_cons s3; obtain ⟨u5, t5, e5, s5⟩ := len_cons s4; obtain ⟨u6, t6, e6, s6⟩ := len_cons s5; obtain ⟨u7, t7, e7, s7⟩ := len_cons s6; obtain ⟨u8, t8, e8, s8⟩ := len_cons s7; obtain ⟨u9, t9, e9, s9⟩ := len_cons s8; obtain ⟨u10, t10, e10, s10⟩ := len_cons s9; obtain ⟨u11, t11, e11, s11⟩ := len_cons s10; obtain ⟨u12, t12, e12, s12⟩ := len_cons s11; obtain ⟨u13, t13, e13, s13⟩ := len_cons s12; obtain ⟨u14, t14, e14, s14⟩ := len_cons s13; obtain ⟨u15, t15, e15, s15⟩ := len_cons s14; obtain ⟨u16, t16, e16, s16⟩ := len_cons s15; obtain ⟨u17, t17, e17, s17⟩ := len_cons s16; obtain ⟨u18, t18, e18, s18⟩ := len_cons s17; obtain ⟨u19, t19, e19, s19⟩ := len_cons s18; obtain ⟨u20, t20, e20, s20⟩ := len_cons s19; obtain ⟨u21, t21, e21, s21⟩ := len_cons s20; obtain ⟨u22, t22, e22, s22⟩ := len_cons s21; obtain ⟨u23, t23, e23, s23⟩ := len_cons s22; obtain ⟨u24, t24, e24, s24⟩ := len_cons s23; obtain ⟨u25, t25, e25, s25⟩ := len_cons s24; obtain ⟨u26, t26, e26, s26⟩ := len_cons s25; obtain ⟨u27, t27, e27, s27⟩ := len_cons s26; obtain ⟨u28, t28, e28, s28⟩ := len_cons s27; obtain ⟨u29, t29, e29, s29⟩ := len_cons s28; obtain ⟨u30, t30, e30, s30⟩ := len_cons s29; obtain ⟨u31, t31, e31, s31⟩ := len_cons s30; obtain ⟨u32, t32, e32, s32⟩ := len_cons s31; obtain ⟨u33, t33, e33, s33⟩ := len_cons s32; obtain ⟨u34, t34, e34, s34⟩ := len_cons s33; obtain ⟨u35, t35, e35, s35⟩ := len_cons s34; obtain ⟨u36, t36, e36, s36⟩ := len_cons s35; obtain ⟨u37, t37, e37, s37⟩ := len_cons s36; obtain ⟨u38, t38, e38, s38⟩ := len_cons s37; obtain ⟨u39, t39, e39, s39⟩ := len_cons s38; obtain ⟨u40, t40, e40, s40⟩ := len_cons s39; obtain ⟨u41, t41, e41, s41⟩ := len_cons s40; obtain ⟨u42, t42, e42, s42⟩ := len_cons s41; obtain ⟨u43, t43, e43, s43⟩ := len_cons s42; obtain ⟨u44, t44, e44, s44⟩ := len_cons s43; obtain ⟨u45, t45, e45, s45⟩ := len_cons s44; obtain ⟨u46, t46, e46, s46⟩ := len_cons s45
        obtain rfl := len_nil s46
        clear hus s0 s1 s2 s3 s4 s5 s6 s7 s8 s9 s10 s11 s12 s13 s14 s15 s16 s17 s18 s19 s20 s21 s22 s23 s24 s25 s26 s27 s28 s29 s30 s31 s32 s33 s34 s35 s36 s37 s38 s39 s40 s41 s42 s43 s44 s45 s46
        subst e46 e45 e44 e43 e42 e41 e40 e39 e38 e37 e36 e35 e34 e33 e32 e31 e30 e29 e28 e27 e26 e25 e24 e23 e22 e21 e20 e19 e18 e17 e16 e15 e14 e13 e12 e11 e10 e9 e8 e7 e6 e5 e4 e3 e2 e1 e0
        have h11 : u11 = .bool true := h 11 (by kernel_rfl)
        have h22 : u22 = .bool true := h 22 (by kernel_rfl)
        clear h
        simp only [over, Act.put, List.setIfInBounds_toArray, List.set_cons_zero, List.set_cons_succ]
        subst h11
        subst h22
        go_wp2_with fail
        exact postK_normal ⟨_, rfl, rfl, Ext.refl _⟩
      refine AllSteps.cons (fun us hus w' x h => ?_) ?_
      · obtain ⟨u0, t0, e0, s0⟩ := len_cons hus; obtain ⟨u1, t1, e1, s1⟩ := len_cons s0; obtain ⟨u2, t2, e2, s2⟩ := len_cons s1; obtain ⟨u3, t3, e3, s3⟩ := len_cons s2; obtain ⟨u4, t4, e4, s4⟩ := len_cons s3; obtain ⟨u5, t5, e5, s5⟩ := len_cons s4; obtain ⟨u6, t6, e6, s6⟩ := len_cons s5; obtain ⟨u7, t7, e7, s7⟩ := len_cons s6; obtain ⟨u8, t8, e8, s8⟩ := len_cons s7; obtain ⟨u9, t9, e9, s9⟩ := len_cons s8; obtain ⟨u10, t10, e10, s10⟩ := len_cons s9; obtain ⟨u11, t11, e11, s11⟩ := len_cons s10; obtain ⟨u12, t12, e12, s12⟩ := len_cons s11; obtain ⟨u13, t13, e13, s13⟩ := len_cons s12; obtain ⟨u14, t14, e14, s14⟩ := len_cons s13; obtain ⟨u15, t15, e15, s15⟩ := len_cons s14; obtain ⟨u16, t16, e16, s16⟩ := len_cons s15; obtain ⟨u17, t17, e17, s17⟩ := len_cons s16; obtain ⟨u18, t18, e18, s18⟩ := len_cons s17; obtain ⟨u19, t19, e19, s19⟩ := len_cons s18; obtain ⟨u20, t20, e20, s20⟩ := len_cons s19; obtain ⟨u21, t21, e21, s21⟩ := len_cons s20; obtain ⟨u22, t22, e22, s22⟩ := len_cons s21; obtain ⟨u23, t23, e23, s23⟩ := len_cons s22; obtain ⟨u24, t24, e24, s24⟩ := len_cons s23; obtain ⟨u25, t25, e25, s25⟩ := len_cons s24; obtain ⟨u26, t26, e26, s26⟩ := len_cons s25; obtain ⟨u27, t27, e27, s27⟩ := len_cons s26; obtain ⟨u28, t28, e28, s28⟩ := len_cons s27; obtain ⟨u29, t29, e29, s29⟩ := len_cons s28; obtain ⟨u30, t30, e30, s30⟩ := len_cons s29; obtain ⟨u31, t31, e31, s31⟩ := len_cons s30; obtain ⟨u32, t32, e32, s32⟩ := len_cons s31; obtain ⟨u33, t33, e33, s33⟩ := len_cons s32; obtain ⟨u34, t34, e34, s34⟩ := len_cons s33; obtain ⟨u35, t35, e35, s35⟩ := len_cons s34; obtain ⟨u36, t36, e36, s36⟩ := len_cons s35; obtain ⟨u37, t37, e37, s37⟩ := len_cons s36; obtain ⟨u38, t38, e38, s38⟩ := len_cons s37; obtain ⟨u39, t39, e39, s39⟩ := len_cons s38; obtain ⟨u40, t40, e40, s40⟩ := len_cons s39; obtain ⟨u41, t41, e41, s41⟩ := len_cons s40; obtain ⟨u42, t42, e42, s42⟩ := len_cons s41; obtain ⟨u43, t43, e43, s43⟩ := len_cons s42; obtain ⟨u44, t44, e44, s44⟩ := len_cons s43; obtain ⟨u45, t45, e45, s45⟩ := len_cons s44; obtain ⟨u46, t46, e46, s46⟩ := len_cons s45
        obtain rfl := len_nil s46
        clear hus s0 s1 s2 s3 s4 s5 s6 s7 s8 s9 s10 s11 s12 s13 s14 s15 s16 s17 s18 s19 s20 s21 s22 s23 s24 s25 s26 s27 s28 s29 s30 s31 s32 s33 s34 s35 s36 s37 s38 s39 s40 s41 s42 s43 s44 s45 s46
        subst e46 e45 e44 e43 e42 e41 e40 e39 e38 e37 e36 e35 e34 e33 e32 e31 e30 e29 e28 e27 e26 e25 e24 e23 e22 e21 e20 e19 e18 e17 e16 e15 e14 e13 e12 e11 e10 e9 e8 e7 e6 e5 e4 e3 e2 e1 e0
        have h23 : u23 = .bool true := h 23 (by kernel_rfl)
        clear h
        simp only [over, Act.put, List.setIfInBounds_toArray, List.set_cons_zero, List.set_cons_succ]
        subst h23
        go_wp2_with fail
        exact postK_normal ⟨_, rfl, rfl, Ext.refl _⟩
      refine AllSteps.cons (fun us hus w' x h => ?_) ?_
      · obtain ⟨u0, t0, e0, s0⟩ := len_cons hus; obtain ⟨u1, t1, e1, s1⟩ := len_cons s0; obtain ⟨u2, t2, e2, s2⟩ := len_cons s1; obtain ⟨u3, t3, e3, s3⟩ := len_cons s2; obtain ⟨u4, t4, e4, s4⟩ := len_cons s3; obtain ⟨u5, t5, e5, s5⟩ := len_cons s4; obtain ⟨u6, t6, e6, s6⟩ := len_cons s5; obtain ⟨u7, t7, e7, s7⟩ := len_cons s6; obtain ⟨u8, t8, e8, s8⟩ := len_cons s7; obtain ⟨u9, t9, e9, s9⟩ := len_cons s8; obtain ⟨u10, t10, e10, s10⟩ := len_cons s9; obtain ⟨u11, t11, e11, s11⟩ := len_cons s10; obtain ⟨u12, t12, e12, s12⟩ := len_cons s11; obtain ⟨u13, t13, e13, s13⟩ := len_cons s12; obtain ⟨u14, t14, e14, s14⟩ := len_cons s13; obtain ⟨u15, t15, e15, s15⟩ := len_cons s14; obtain ⟨u16, t16, e16, s16⟩ := len_cons s15; obtain ⟨u17, t17, e17, s17⟩ := len_cons s16; obtain ⟨u18, t18, e18, s18⟩ := len_cons s17; obtain ⟨u19, t19, e19, s19⟩ := len_cons s18; obtain ⟨u20, t20, e20, s20⟩ := len_cons s19; obtain ⟨u21, t21, e21, s21⟩ := len_cons s20; obtain ⟨u22, t22, e22, s22⟩ := len_cons s21; obtain ⟨u23, t23, e23, s23⟩ := len_cons s22; obtain ⟨u24, t24, e24, s24⟩ := len_cons s23; obtain ⟨u25, t25, e25, s25⟩ := len_cons s24; obtain ⟨u26, t26, e26, s26⟩ := len_cons s25; obtain ⟨u27, t27, e27, s27⟩ := len_cons s26; obtain ⟨u28, t28, e28, s28⟩ := len_cons s27; obtain ⟨u29, t29, e29, s29⟩ := len_cons s28; obtain ⟨u30, t30, e30, s30⟩ := len_cons s29; obtain ⟨u31, t31, e31, s31⟩ := len_cons s30; obtain ⟨u32, t32, e32, s32⟩ := len_cons s31; obtain ⟨u33, t33, e33, s33⟩ := len_cons s32; obtain ⟨u34, t34, e34, s34⟩ := len_cons s33; obtain ⟨u35, t35, e35, s35⟩ := len_cons s34; obtain ⟨u36, t36, e36, s36⟩ := len_cons s35; obtain ⟨u37, t37, e37, s37⟩ := len_cons s36; obtain ⟨u38, t38, e38, s38⟩ := len_cons s37; obtain ⟨u39, t39, e39, s39⟩ := len_cons s38; obtain ⟨u40, t40, e40, s40⟩ := len_cons s39; obtain ⟨u41, t41, e41, s41⟩ := len_cons s40; obtain ⟨u42, t42, e42, s42⟩ := len_cons s41; obtain ⟨u43, t43, e43, s43⟩ := len_cons s42; obtain ⟨u44, t44, e44, s44⟩ := len_cons s43; obtain ⟨u45, t45, e45, s45⟩ := len_cons s44; obtain ⟨u46, t46, e46, s46⟩ := len_cons s45
        obtain rfl := len_nil s46
        clear hus s0 s1 s2 s3 s4 s5 s6 s7 s8 s9 s10 s11 s12 s13 s14 s15 s16 s17 s18 s19 s20 s21 s22 s23 s24 s25 s26 s27 s28 s29 s30 s31 s32 s33 s34 s35 s36 s37 s38 s39 s40 s41 s42 s43 s44 s45 s46
        subst e46 e45 e44 e43 e42 e41 e40 e39 e38 e37 e36 e35 e34 e33 e32 e31 e30 e29 e28 e27 e26 e25 e24 e23 e22 e21 e20 e19 e18 e17 e16 e15 e14 e13 e12 e11 e10 e9 e8 e7 e6 e5 e4 e3 e2 e1 e0
        have h24 : u24 = .bool true := h 24 (by kernel_rfl)
        clear h
        simp only [over, Act.put, List.setIfInBounds_toArray, List.set_cons_zero, List.set_cons_succ]
        subst h24
        go_wp2_with fail
        exact postK_normal ⟨_, rfl, rfl, Ext.refl _⟩
      refine AllSteps.cons (fun us hus w' x h => ?_) ?_
      · obtain ⟨u0, t0, e0, s0⟩ := len_cons hus; obtain ⟨u1, t1, e1, s1⟩ := len_cons s0; obtain ⟨u2, t2, e2, s2⟩ := len_cons s1; obtain ⟨u3, t3, e3, s3⟩ := len_cons s2; obtain ⟨u4, t4, e4, s4⟩ := len_cons s3; obtain ⟨u5, t5, e5, s5⟩ := len_cons s4; obtain ⟨u6, t6, e6, s6⟩ := len_cons s5; obtain ⟨u7, t7, e7, s7⟩ := len_cons s6; obtain ⟨u8, t8, e8, s8⟩ := len_cons s7; obtain ⟨u9, t9, e9, s9⟩ := len_cons s8; obtain ⟨u10, t10, e10, s10⟩ := len_cons s9; obtain ⟨u11, t11, e11, s11⟩ := len_cons s10; obtain ⟨u12, t12, e12, s12⟩ := len_cons s11; obtain ⟨u13, t13, e13, s13⟩ := len_cons s12; obtain ⟨u14, t14, e14, s14⟩ := len_cons s13; obtain ⟨u15, t15, e15, s15⟩ := len_cons s14; obtain ⟨u16, t16, e16, s16⟩ := len_cons s15; obtain ⟨u17, t17, e17, s17⟩ := len_cons s16; obtain ⟨u18, t18, e18, s18⟩ := len_cons s17; obtain ⟨u19, t19, e19, s19⟩ := len_cons s18; obtain ⟨u20, t20, e20, s20⟩ := len_cons s19; obtain ⟨u21, t21, e21, s21⟩ := len_cons s20; obtain ⟨u22, t22, e22, s22⟩ := len_cons s21; obtain ⟨u23, t23, e23, s23⟩ := len_cons s22; obtain ⟨u24, t24, e24, s24⟩ := len_cons s23; obtain ⟨u25, t25, e25, s25⟩ := len_cons s24; obtain ⟨u26, t26, e26, s26⟩ := len_cons s25; obtain ⟨u27, t27, e27, s27⟩ := len_cons s26; obtain ⟨u28, t28, e28, s28⟩ := len_cons s27; obtain ⟨u29, t29, e29, s29⟩ := len_cons s28; obtain ⟨u30, t30, e30, s30⟩ := len_cons s29; obtain ⟨u31, t31, e31, s31⟩ := len_cons s30; obtain ⟨u32, t32, e32, s32⟩ := len_cons s31; obtain ⟨u33, t33, e33, s33⟩ := len_cons s32; obtain ⟨u34, t34, e34, s34⟩ := len_cons s33; obtain ⟨u35, t35, e35, s35⟩ := len_cons s34; obtain ⟨u36, t36, e36, s36⟩ := len_cons s35; obtain ⟨u37, t37, e37, s37⟩ := len_cons s36; obtain ⟨u38, t38, e38, s38⟩ := len_cons s37; obtain ⟨u39, t39, e39, s39⟩ := len_cons s38; obtain ⟨u40, t40, e40, s40⟩ := len_cons s39; obtain ⟨u41, t41, e41, s41⟩ := len_cons s40; obtain ⟨u42, t42, e42, s42⟩ := len_cons s41; obtain ⟨u43, t43, e43, s43⟩ := len_cons s42; obtain ⟨u44, t44, e44, s44⟩ := len_cons s43; obtain ⟨u45, t45, e45, s45⟩ := len_cons s44; obtain ⟨u46, t46, e46, s46⟩ := len_cons s45
        obtain rfl := len_nil s46
        clear hus s0 s1 s2 s3 s4 s5 s6 s7 s8 s9 s10 s11 s12 s13 s14 s15 s16 s17 s18 s19 s20 s21 s22 s23 s24 s25 s26 s27 s28 s29 s30 s31 s32 s33 s34 s35 s36 s37 s38 s39 s40 s41 s42 s43 s44 s45 s46
        subst e46 e45 e44 e43 e42 e41 e40 e39 e38 e37 e36 e35 e34 e33 e32 e31 e30 e29 e28 e27 e26 e25 e24 e23 e22 e21 e20 e19 e18 e17 e16 e15 e14 e13 e12 e11 e10 e9 e8 e7 e6 e5 e4 e3 e2 e1 e0
        have h25 : u25 = .string a0 := h 25 (by kernel_rfl)
        have h24 : u24 = .bool true := h 24 (by kernel_rfl)
        clear h
        simp only [over, Act.put, List.setIfInBounds_toArray, List.set_cons_zero, List.set_cons_succ]
        subst h25
        subst h24
        go_wp2_with (refine wpList_toBytes rfl 9 24 _ rfl 5 Tryd.underlying9 Tryd.underlying24 Tryd.underlying5 _ rfl hmax ?_)
        intro v5 w5 o5 x5
        go_wp2_with fail
        exact postK_normal ⟨_, rfl, o5.bs, x5⟩
      refine AllSteps.cons (fun us hus w' x h => ?_) ?_
      · obtain ⟨u0, t0, e0, s0⟩ := len_cons hus; obtain ⟨u1, t1, e1, s1⟩ := len_cons s0; obtain ⟨u2, t2, e2, s2⟩ := len_cons s1; obtain ⟨u3, t3, e3, s3⟩ := len_cons s2; obtain ⟨u4, t4, e4, s4⟩ := len_cons s3; obtain ⟨u5, t5, e5, s5⟩ := len_cons s4; obtain ⟨u6, t6, e6, s6⟩ := len_cons s5; obtain ⟨u7, t7, e7, s7⟩ := len_cons s6; obtain ⟨u8, t8, e8, s8⟩ := len_cons s7; obtain ⟨u9, t9, e9, s9⟩ := len_cons s8; obtain ⟨u10, t10, e10, s10⟩ := len_cons s9; obtain ⟨u11, t11, e11, s11⟩ := len_cons s10; obtain ⟨u12, t12, e12, s12⟩ := len_cons s11; obtain ⟨u13, t13, e13, s13⟩ := len_cons s12; obtain ⟨u14, t14, e14, s14⟩ := len_cons s13; obtain ⟨u15, t15, e15, s15⟩ := len_cons s14; obtain ⟨u16, t16, e16, s16⟩ := len_cons s15; obtain ⟨u17, t17, e17, s17⟩ := len_cons s16; obtain ⟨u18, t18, e18, s18⟩ := len_cons s17; obtain ⟨u19, t19, e19, s19⟩ := len_cons s18; obtain ⟨u20, t20, e20, s20⟩ := len_cons s19; obtain ⟨u21, t21, e21, s21⟩ := len_cons s20; obtain ⟨u22, t22, e22, s22⟩ := len_cons s21; obtain ⟨u23, t23, e23, s23⟩ := len_cons s22; obtain ⟨u24, t24, e24, s24⟩ := len_cons s23; obtain ⟨u25, t25, e25, s25⟩ := len_cons s24; obtain ⟨u26, t26, e26, s26⟩ := len_cons s25; obtain ⟨u27, t27, e27, s27⟩ := len_cons s26; obtain ⟨u28, t28, e28, s28⟩ := len_cons s27; obtain ⟨u29, t29, e29, s29⟩ := len_cons s28; obtain ⟨u30, t30, e30, s30⟩ := len_cons s29; obtain ⟨u31, t31, e31, s31⟩ := len_cons s30; obtain ⟨u32, t32, e32, s32⟩ := len_cons s31; obtain ⟨u33, t33, e33, s33⟩ := len_cons s32; obtain ⟨u34, t34, e34, s34⟩ := len_cons s33; obtain ⟨u35, t35, e35, s35⟩ := len_cons s34; obtain ⟨u36, t36, e36, s36⟩ := len_cons s35; obtain ⟨u37, t37, e37, s37⟩ := len_cons s36; obtain ⟨u38, t38, e38, s38⟩ := len_cons s37; obtain ⟨u39, t39, e39, s39⟩ := len_cons s38; obtain ⟨u40, t40, e40, s40⟩ := len_cons s39; obtain ⟨u41, t41, e41, s41⟩ := len_cons s40; obtain ⟨u42, t42, e42, s42⟩ := len_cons s41; obtain ⟨u43, t43, e43, s43⟩ := len_cons s42; obtain ⟨u44, t44, e44, s44⟩ := len_cons s43; obtain ⟨u45, t45, e45, s45⟩ := len_cons s44; obtain ⟨u46, t46, e46, s46⟩ := len_cons s45
        obtain rfl := len_nil s46
        clear hus s0 s1 s2 s3 s4 s5 s6 s7 s8 s9 s10 s11 s12 s13 s14 s15 s16 s17 s18 s19 s20 s21 s22 s23 s24 s25 s26 s27 s28 s29 s30 s31 s32 s33 s34 s35 s36 s37 s38 s39 s40 s41 s42 s43 s44 s45 s46
        subst e46 e45 e44 e43 e42 e41 e40 e39 e38 e37 e36 e35 e34 e33 e32 e31 e30 e29 e28 e27 e26 e25 e24 e23 e22 e21 e20 e19 e18 e17 e16 e15 e14 e13 e12 e11 e10 e9 e8 e7 e6 e5 e4 e3 e2 e1 e0
        have h24 : u24 = .bool true := h 24 (by kernel_rfl)
        clear h
        simp only [over, Act.put, List.setIfInBounds_toArray, List.set_cons_zero, List.set_cons_succ]
        subst h24
        go_wp2_with fail
        exact postK_normal ⟨_, rfl, rfl, Ext.refl _⟩
      refine AllSteps.cons (fun us hus w' x h => ?_) ?_
      · obtain ⟨u0, t0, e0, s0⟩ := len_cons hus; obtain ⟨u1, t1, e1, s1⟩ := len_cons s0; obtain ⟨u2, t2, e2, s2⟩ := len_cons s1; obtain ⟨u3, t3, e3, s3⟩ := len_cons s2; obtain ⟨u4, t4, e4, s4⟩ := len_cons s3; obtain ⟨u5, t5, e5, s5⟩ := len_cons s4; obtain ⟨u6, t6, e6, s6⟩ := len_cons s5; obtain ⟨u7, t7, e7, s7⟩ := len_cons s6; obtain ⟨u8, t8, e8, s8⟩ := len_cons s7; obtain ⟨u9, t9, e9, s9⟩ := len_cons s8; obtain ⟨u10, t10, e10, s10⟩ := len_cons s9; obtain ⟨u11, t11, e11, s11⟩ := len_cons s10; obtain ⟨u12, t12, e12, s12⟩ := len_cons s11; obtain ⟨u13, t13, e13, s13⟩ := len_cons s12; obtain ⟨u14, t14, e14, s14⟩ := len_cons s13; obtain ⟨u15, t15, e15, s15⟩ := len_cons s14; obtain ⟨u16, t16, e16, s16⟩ := len_cons s15; obtain ⟨u17, t17, e17, s17⟩ := len_cons s16; obtain ⟨u18, t18, e18, s18⟩ := len_cons s17; obtain ⟨u19, t19, e19, s19⟩ := len_cons s18; obtain ⟨u20, t20, e20, s20⟩ := len_cons s19; obtain ⟨u21, t21, e21, s21⟩ := len_cons s20; obtain ⟨u22, t22, e22, s22⟩ := len_cons s21; obtain ⟨u23, t23, e23, s23⟩ := len_cons s22; obtain ⟨u24, t24, e24, s24⟩ := len_cons s23; obtain ⟨u25, t25, e25, s25⟩ := len_cons s24; obtain ⟨u26, t26, e26, s26⟩ := len_cons s25; obtain ⟨u27, t27, e27, s27⟩ := len_cons s26; obtain ⟨u28, t28, e28, s28⟩ := len_cons s27; obtain ⟨u29, t29, e29, s29⟩ := len_cons s28; obtain ⟨u30, t30, e30, s30⟩ := len_cons s29; obtain ⟨u31, t31, e31, s31⟩ := len_cons s30; obtain ⟨u32, t32, e32, s32⟩ := len_cons s31; obtain ⟨u33, t33, e33, s33⟩ := len_cons s32; obtain ⟨u34, t34, e34, s34⟩ := len_cons s33; obtain ⟨u35, t35, e35, s35⟩ := len_cons s34; obtain ⟨u36, t36, e36, s36⟩ := len_cons s35; obtain ⟨u37, t37, e37, s37⟩ := len_cons s36; obtain ⟨u38, t38, e38, s38⟩ := len_cons s37; obtain ⟨u39, t39, e39, s39⟩ := len_cons s38; obtain ⟨u40, t40, e40, s40⟩ := len_cons s39; obtain ⟨u41, t41, e41, s41⟩ := len_cons s40; obtain ⟨u42, t42, e42, s42⟩ := len_cons s41; obtain ⟨u43, t43, e43, s43⟩ := len_cons s42; obtain ⟨u44, t44, e44, s44⟩ := len_cons s43; obtain ⟨u45, t45, e45, s45⟩ := len_cons s44; obtain ⟨u46, t46, e46, s46⟩ := len_cons s45
        obtain rfl := len_nil s46
        clear hus s0 s1 s2 s3 s4 s5 s6 s7 s8 s9 s10 s11 s12 s13 s14 s15 s16 s17 s18 s19 s20 s21 s22 s23 s24 s25 s26 s27 s28 s29 s30 s31 s32 s33 s34 s35 s36 s37 s38 s39 s40 s41 s42 s43 s44 s45 s46
        subst e46 e45 e44 e43 e42 e41 e40 e39 e38 e37 e36 e35 e34 e33 e32 e31 e30 e29 e28 e27 e26 e25 e24 e23 e22 e21 e20 e19 e18 e17 e16 e15 e14 e13 e12 e11 e10 e9 e8 e7 e6 e5 e4 e3 e2 e1 e0
        have h26 : Bs w' u26 a0.data.toList := h 26 (by kernel_rfl)
        have h27 : u27 = .string a1 := h 27 (by kernel_rfl)
        have h24 : u24 = .bool true := h 24 (by kernel_rfl)
        clear h
        simp only [over, Act.put, List.setIfInBounds_toArray, List.set_cons_zero, List.set_cons_succ]
        subst h27
        subst h24
        have c5 := impl_TrimRight _ _ a1 _ h26 (HT.out.ext x) (by omega) (by show a0.size ≤ _; omega)
        rw [HTR.out] at c5
        go_wp2_with (go_at_call 27; refine c5.mono ?_)
        rintro _ w5 ⟨v5, rfl, o5, x5⟩
        go_wp2_with fail
        exact postK_normal ⟨_, rfl, o5.bs, x5⟩
      refine AllSteps.cons (fun us hus w' x h => ?_) ?_
      · obtain ⟨u0, t0, e0, s0⟩ := len_cons hus; obtain ⟨u1, t1, e1, s1⟩ := len_cons s0; obtain ⟨u2, t2, e2, s2⟩ := len_cons s1; obtain ⟨u3, t3, e3, s3⟩ := len_cons s2; obtain ⟨u4, t4, e4, s4⟩ := len_cons s3; obtain ⟨u5, t5, e5, s5⟩ := len_cons s4; obtain ⟨u6, t6, e6, s6⟩ := len_cons s5; obtain ⟨u7, t7, e7, s7⟩ := len_cons s6; obtain ⟨u8, t8, e8, s8⟩ := len_cons s7; obtain ⟨u9, t9, e9, s9⟩ := len_cons s8; obtain ⟨u10, t10, e10, s10⟩ := len_cons s9; obtain ⟨u11, t11, e11, s11⟩ := len_cons s10; obtain ⟨u12, t12, e12, s12⟩ := len_cons s11; obtain ⟨u13, t13, e13, s13⟩ := len_cons s12; obtain ⟨u14, t14, e14, s14⟩ := len_cons s13; obtain ⟨u15, t15, e15, s15⟩ := len_cons s14; obtain ⟨u16, t16, e16, s16⟩ := len_cons s15; obtain ⟨u17, t17, e17, s17⟩ := len_cons s16; obtain ⟨u18, t18, e18, s18⟩ := len_cons s17; obtain ⟨u19, t19, e19, s19⟩ := len_cons s18; obtain ⟨u20, t20, e20, s20⟩ := len_cons s19; obtain ⟨u21, t21, e21, s21⟩ := len_cons s20; obtain ⟨u22, t22, e22, s22⟩ := len_cons s21; obtain ⟨u23, t23, e23, s23⟩ := len_cons s22; obtain ⟨u24, t24, e24, s24⟩ := len_cons s23; obtain ⟨u25, t25, e25, s25⟩ := len_cons s24; obtain ⟨u26, t26, e26, s26⟩ := len_cons s25; obtain ⟨u27, t27, e27, s27⟩ := len_cons s26; obtain ⟨u28, t28, e28, s28⟩ := len_cons s27; obtain ⟨u29, t29, e29, s29⟩ := len_cons s28; obtain ⟨u30, t30, e30, s30⟩ := len_cons s29; obtain ⟨u31, t31, e31, s31⟩ := len_cons s30; obtain ⟨u32, t32, e32, s32⟩ := len_cons s31; obtain ⟨u33, t33, e33, s33⟩ := len_cons s32; obtain ⟨u34, t34, e34, s34⟩ := len_cons s33; obtain ⟨u35, t35, e35, s35⟩ := len_cons s34; obtain ⟨u36, t36, e36, s36⟩ := len_cons s35; obtain ⟨u37, t37, e37, s37⟩ := len_cons s36; obtain ⟨u38, t38, e38, s38⟩ := len_cons s37; obtain ⟨u39, t39, e39, s39⟩ := len_cons s38; obtain ⟨u40, t40, e40, s40⟩ := len_cons s39; obtain ⟨u41, t41, e41, s41⟩ := len_cons s40; obtain ⟨u42, t42, e42, s42⟩ := len_cons s41; obtain ⟨u43, t43, e43, s43⟩ := len_cons s42; obtain ⟨u44, t44, e44, s44⟩ := len_cons s43; obtain ⟨u45, t45, e45, s45⟩ := len_cons s44; obtain ⟨u46, t46, e46, s46⟩ := len_cons s45
        obtain rfl := len_nil s46
        clear hus s0 s1 s2 s3 s4 s5 s6 s7 s8 s9 s10 s11 s12 s13 s14 s15 s16 s17 s18 s19 s20 s21 s22 s23 s24 s25 s26 s27 s28 s29 s30 s31 s32 s33 s34 s35 s36 s37 s38 s39 s40 s41 s42 s43 s44 s45 s46
        subst e46 e45 e44 e43 e42 e41 e40 e39 e38 e37 e36 e35 e34 e33 e32 e31 e30 e29 e28 e27 e26 e25 e24 e23 e22 e21 e20 e19 e18 e17 e16 e15 e14 e13 e12 e11 e10 e9 e8 e7 e6 e5 e4 e3 e2 e1 e0
        have h28 : Bs w' u28 TR := h 28 (by kernel_rfl)
        have h24 : u24 = .bool true := h 24 (by kernel_rfl)
        clear h
        simp only [over, Act.put, List.setIfInBounds_toArray, List.set_cons_zero, List.set_cons_succ]
        subst h24
        go_wp2_with (refine wpList_toString rfl 24 9 _ rfl 5 Tryd.underlying24 Tryd.underlying5 Tryd.underlying9 _ _ rfl h28 ?_)
        exact postK_normal ⟨_, rfl, rfl, Ext.refl _⟩
      refine AllSteps.cons (fun us hus w' x h => ?_) ?_
      · obtain ⟨u0, t0, e0, s0⟩ := len_cons hus; obtain ⟨u1, t1, e1, s1⟩ := len_cons s0; obtain ⟨u2, t2, e2, s2⟩ := len_cons s1; obtain ⟨u3, t3, e3, s3⟩ := len_cons s2; obtain ⟨u4, t4, e4, s4⟩ := len_cons s3; obtain ⟨u5, t5, e5, s5⟩ := len_cons s4; obtain ⟨u6, t6, e6, s6⟩ := len_cons s5; obtain ⟨u7, t7, e7, s7⟩ := len_cons s6; obtain ⟨u8, t8, e8, s8⟩ := len_cons s7; obtain ⟨u9, t9, e9, s9⟩ := len_cons s8; obtain ⟨u10, t10, e10, s10⟩ := len_cons s9; obtain ⟨u11, t11, e11, s11⟩ := len_cons s10; obtain ⟨u12, t12, e12, s12⟩ := len_cons s11; obtain ⟨u13, t13, e13, s13⟩ := len_cons s12; obtain ⟨u14, t14, e14, s14⟩ := len_cons s13; obtain ⟨u15, t15, e15, s15⟩ := len_cons s14; obtain ⟨u16, t16, e16, s16⟩ := len_cons s15; obtain ⟨u17, t17, e17, s17⟩ := len_cons s16; obtain ⟨u18, t18, e18, s18⟩ := len_cons s17; obtain ⟨u19, t19, e19, s19⟩ := len_cons s18; obtain ⟨u20, t20, e20, s20⟩ := len_cons s19; obtain ⟨u21, t21, e21, s21⟩ := len_cons s20; obtain ⟨u22, t22, e22, s22⟩ := len_cons s21; obtain ⟨u23, t23, e23, s23⟩ := len_cons s22; obtain ⟨u24, t24, e24, s24⟩ := len_cons s23; obtain ⟨u25, t25, e25, s25⟩ := len_cons s24; obtain ⟨u26, t26, e26, s26⟩ := len_cons s25; obtain ⟨u27, t27, e27, s27⟩ := len_cons s26; obtain ⟨u28, t28, e28, s28⟩ := len_cons s27; obtain ⟨u29, t29, e29, s29⟩ := len_cons s28; obtain ⟨u30, t30, e30, s30⟩ := len_cons s29; obtain ⟨u31, t31, e31, s31⟩ := len_cons s30; obtain ⟨u32, t32, e32, s32⟩ := len_cons s31; obtain ⟨u33, t33, e33, s33⟩ := len_cons s32; obtain ⟨u34, t34, e34, s34⟩ := len_cons s33; obtain ⟨u35, t35, e35, s35⟩ := len_cons s34; obtain ⟨u36, t36, e36, s36⟩ := len_cons s35; obtain ⟨u37, t37, e37, s37⟩ := len_cons s36; obtain ⟨u38, t38, e38, s38⟩ := len_cons s37; obtain ⟨u39, t39, e39, s39⟩ := len_cons s38; obtain ⟨u40, t40, e40, s40⟩ := len_cons s39; obtain ⟨u41, t41, e41, s41⟩ := len_cons s40; obtain ⟨u42, t42, e42, s42⟩ := len_cons s41; obtain ⟨u43, t43, e43, s43⟩ := len_cons s42; obtain ⟨u44, t44, e44, s44⟩ := len_cons s43; obtain ⟨u45, t45, e45, s45⟩ := len_cons s44; obtain ⟨u46, t46, e46, s46⟩ := len_cons s45
        obtain rfl := len_nil s46
        clear hus s0 s1 s2 s3 s4 s5 s6 s7 s8 s9 s10 s11 s12 s13 s14 s15 s16 s17 s18 s19 s20 s21 s22 s23 s24 s25 s26 s27 s28 s29 s30 s31 s32 s33 s34 s35 s36 s37 s38 s39 s40 s41 s42 s43 s44 s45 s46
        subst e46 e45 e44 e43 e42 e41 e40 e39 e38 e37 e36 e35 e34 e33 e32 e31 e30 e29 e28 e27 e26 e25 e24 e23 e22 e21 e20 e19 e18 e17 e16 e15 e14 e13 e12 e11 e10 e9 e8 e7 e6 e5 e4 e3 e2 e1 e0
        have h24 : u24 = .bool true := h 24 (by kernel_rfl)
        clear h
        simp only [over, Act.put, List.setIfInBounds_toArray, List.set_cons_zero, List.set_cons_succ]
        subst h24
        go_wp2_with fail
        exact postK_normal ⟨_, rfl, rfl, Ext.refl _⟩
      refine AllSteps.cons (fun us hus w' x h => ?_) ?_
      · obtain ⟨u0, t0, e0, s0⟩ := len_cons hus; obtain ⟨u1, t1, e1, s1⟩ := len_cons s0; obtain ⟨u2, t2, e2, s2⟩ := len_cons s1; obtain ⟨u3, t3, e3, s3⟩ := len_cons s2; obtain ⟨u4, t4, e4, s4⟩ := len_cons s3; obtain ⟨u5, t5, e5, s5⟩ := len_cons s4; obtain ⟨u6, t6, e6, s6⟩ := len_cons s5; obtain ⟨u7, t7, e7, s7⟩ := len_cons s6; obtain ⟨u8, t8, e8, s8⟩ := len_cons s7; obtain ⟨u9, t9, e9, s9⟩ := len_cons s8; obtain ⟨u10, t10, e10, s10⟩ := len_cons s9; obtain ⟨u11, t11, e11, s11⟩ := len_cons s10; obtain ⟨u12, t12, e12, s12⟩ := len_cons s11; obtain ⟨u13, t13, e13, s13⟩ := len_cons s12; obtain ⟨u14, t14, e14, s14⟩ := len_cons s13; obtain ⟨u15, t15, e15, s15⟩ := len_cons s14; obtain ⟨u16, t16, e16, s16⟩ := len_cons s15; obtain ⟨u17, t17, e17, s17⟩ := len_cons s16; obtain ⟨u18, t18, e18, s18⟩ := len_cons s17; obtain ⟨u19, t19, e19, s19⟩ := len_cons s18; obtain ⟨u20, t20, e20, s20⟩ := len_cons s19; obtain ⟨u21, t21, e21, s21⟩ := len_cons s20; obtain ⟨u22, t22, e22, s22⟩ := len_cons s21; obtain ⟨u23, t23, e23, s23⟩ := len_cons s22; obtain ⟨u24, t24, e24, s24⟩ := len_cons s23; obtain ⟨u25, t25, e25, s25⟩ := len_cons s24; obtain ⟨u26, t26, e26, s26⟩ := len_cons s25; obtain ⟨u27, t27, e27, s27⟩ := len_cons s26; obtain ⟨u28, t28, e28, s28⟩ := len_cons s27; obtain ⟨u29, t29, e29, s29⟩ := len_cons s28; obtain ⟨u30, t30, e30, s30⟩ := len_cons s29; obtain ⟨u31, t31, e31, s31⟩ := len_cons s30; obtain ⟨u32, t32, e32, s32⟩ := len_cons s31; obtain ⟨u33, t33, e33, s33⟩ := len_cons s32; obtain ⟨u34, t34, e34, s34⟩ := len_cons s33; obtain ⟨u35, t35, e35, s35⟩ := len_cons s34; obtain ⟨u36, t36, e36, s36⟩ := len_cons s35; obtain ⟨u37, t37, e37, s37⟩ := len_cons s36; obtain ⟨u38, t38, e38, s38⟩ := len_cons s37; obtain ⟨u39, t39, e39, s39⟩ := len_cons s38; obtain ⟨u40, t40, e40, s40⟩ := len_cons s39; obtain ⟨u41, t41, e41, s41⟩ := len_cons s40; obtain ⟨u42, t42, e42, s42⟩ := len_cons s41; obtain ⟨u43, t43, e43, s43⟩ := len_cons s42; obtain ⟨u44, t44, e44, s44⟩ := len_cons s43; obtain ⟨u45, t45, e45, s45⟩ := len_cons s44; obtain ⟨u46, t46, e46, s46⟩ := len_cons s45
        obtain rfl := len_nil s46
        clear hus s0 s1 s2 s3 s4 s5 s6 s7 s8 s9 s10 s11 s12 s13 s14 s15 s16 s17 s18 s19 s20 s21 s22 s23 s24 s25 s26 s27 s28 s29 s30 s31 s32 s33 s34 s35 s36 s37 s38 s39 s40 s41 s42 s43 s44 s45 s46
        subst e46 e45 e44 e43 e42 e41 e40 e39 e38 e37 e36 e35 e34 e33 e32 e31 e30 e29 e28 e27 e26 e25 e24 e23 e22 e21 e20 e19 e18 e17 e16 e15 e14 e13 e12 e11 e10 e9 e8 e7 e6 e5 e4 e3 e2 e1 e0
        have h30 : u30 = .string a0 := h 30 (by kernel_rfl)
        have h24 : u24 = .bool true := h 24 (by kernel_rfl)
        clear h
        simp only [over, Act.put, List.setIfInBounds_toArray, List.set_cons_zero, List.set_cons_succ]
        subst h30
        subst h24
        go_wp2_with (refine wpList_toBytes rfl 9 24 _ rfl 5 Tryd.underlying9 Tryd.underlying24 Tryd.underlying5 _ rfl hmax ?_)
        intro v5 w5 o5 x5
        go_wp2_with fail
        exact postK_normal ⟨_, rfl, o5.bs, x5⟩
      refine AllSteps.cons (fun us hus w' x h => ?_) ?_
      · obtain ⟨u0, t0, e0, s0⟩ := len_cons hus; obtain ⟨u1, t1, e1, s1⟩ := len_cons s0; obtain ⟨u2, t2, e2, s2⟩ := len_cons s1; obtain ⟨u3, t3, e3, s3⟩ := len_cons s2; obtain ⟨u4, t4, e4, s4⟩ := len_cons s3; obtain ⟨u5, t5, e5, s5⟩ := len_cons s4; obtain ⟨u6, t6, e6, s6⟩ := len_cons s5; obtain ⟨u7, t7, e7, s7⟩ := len_cons s6; obtain ⟨u8, t8, e8, s8⟩ := len_cons s7; obtain ⟨u9, t9, e9, s9⟩ := len_cons s8; obtain ⟨u10, t10, e10, s10⟩ := len_cons s9; obtain ⟨u11, t11, e11, s11⟩ := len_cons s10; obtain ⟨u12, t12, e12, s12⟩ := len_cons s11; obtain ⟨u13, t13, e13, s13⟩ := len_cons s12; obtain ⟨u14, t14, e14, s14⟩ := len_cons s13; obtain ⟨u15, t15, e15, s15⟩ := len_cons s14; obtain ⟨u16, t16, e16, s16⟩ := len_cons s15; obtain ⟨u17, t17, e17, s17⟩ := len_cons s16; obtain ⟨u18, t18, e18, s18⟩ := len_cons s17; obtain ⟨u19, t19, e19, s19⟩ := len_cons s18; obtain ⟨u20, t20, e20, s20⟩ := len_cons s19; obtain ⟨u21, t21, e21, s21⟩ := len_cons s20; obtain ⟨u22, t22, e22, s22⟩ := len_cons s21; obtain ⟨u23, t23, e23, s23⟩ := len_cons s22; obtain ⟨u24, t24, e24, s24⟩ := len_cons s23; obtain ⟨u25, t25, e25, s25⟩ := len_cons s24; obtain ⟨u26, t26, e26, s26⟩ := len_cons s25; obtain ⟨u27, t27, e27, s27⟩ := len_cons s26; obtain ⟨u28, t28, e28, s28⟩ := len_cons s27; obtain ⟨u29, t29, e29, s29⟩ := len_cons s28; obtain ⟨u30, t30, e30, s30⟩ := len_cons s29; obtain ⟨u31, t31, e31, s31⟩ := len_cons s30; obtain ⟨u32, t32, e32, s32⟩ := len_cons s31; obtain ⟨u33, t33, e33, s33⟩ := len_cons s32; obtain ⟨u34, t34, e34, s34⟩ := len_cons s33; obtain ⟨u35, t35, e35, s35⟩ := len_cons s34; obtain ⟨u36, t36, e36, s36⟩ := len_cons s35; obtain ⟨u37, t37, e37, s37⟩ := len_cons s36; obtain ⟨u38, t38, e38, s38⟩ := len_cons s37; obtain ⟨u39, t39, e39, s39⟩ := len_cons s38; obtain ⟨u40, t40, e40, s40⟩ := len_cons s39; obtain ⟨u41, t41, e41, s41⟩ := len_cons s40; obtain ⟨u42, t42, e42, s42⟩ := len_cons s41; obtain ⟨u43, t43, e43, s43⟩ := len_cons s42; obtain ⟨u44, t44, e44, s44⟩ := len_cons s43; obtain ⟨u45, t45, e45, s45⟩ := len_cons s44; obtain ⟨u46, t46, e46, s46⟩ := len_cons s45
        obtain rfl := len_nil s46
        clear hus s0 s1 s2 s3 s4 s5 s6 s7 s8 s9 s10 s11 s12 s13 s14 s15 s16 s17 s18 s19 s20 s21 s22 s23 s24 s25 s26 s27 s28 s29 s30 s31 s32 s33 s34 s35 s36 s37 s38 s39 s40 s41 s42 s43 s44 s45 s46
        subst e46 e45 e44 e43 e42 e41 e40 e39 e38 e37 e36 e35 e34 e33 e32 e31 e30 e29 e28 e27 e26 e25 e24 e23 e22 e21 e20 e19 e18 e17 e16 e15 e14 e13 e12 e11 e10 e9 e8 e7 e6 e5 e4 e3 e2 e1 e0
        have h24 : u24 = .bool true := h 24 (by kernel_rfl)
        clear h
        simp only [over, Act.put, List.setIfInBounds_toArray, List.set_cons_zero, List.set_cons_succ]
        subst h24
        have f0 := x.cell HF0.out
        have f1 := x.cell HF1.out
        go_wp2_with fail
        exact postK_normal ⟨_, rfl, rfl, Ext.refl _⟩
      refine AllSteps.cons (fun us hus w' x h => ?_) ?_
      · obtain ⟨u0, t0, e0, s0⟩ := len_cons hus; obtain ⟨u1, t1, e1, s1⟩ := len_cons s0; obtain ⟨u2, t2, e2, s2⟩ := len_cons s1; obtain ⟨u3, t3, e3, s3⟩ := len_cons s2; obtain ⟨u4, t4, e4, s4⟩ := len_cons s3; obtain ⟨u5, t5, e5, s5⟩ := len_cons s4; obtain ⟨u6, t6, e6, s6⟩ := len_cons s5; obtain ⟨u7, t7, e7, s7⟩ := len_cons s6; obtain ⟨u8, t8, e8, s8⟩ := len_cons s7; obtain ⟨u9, t9, e9, s9⟩ := len_cons s8; obtain ⟨u10, t10, e10, s10⟩ := len_cons s9; obtain ⟨u11, t11, e11, s11⟩ := len_cons s10; obtain ⟨u12, t12, e12, s12⟩ := len_cons s11; obtain ⟨u13, t13, e13, s13⟩ := len_cons s12; obtain ⟨u14, t14, e14, s14⟩ := len_cons s13; obtain ⟨u15, t15, e15, s15⟩ := len_cons s14; obtain ⟨u16, t16, e16, s16⟩ := len_cons s15; obtain ⟨u17, t17, e17, s17⟩ := len_cons s16; obtain ⟨u18, t18, e18, s18⟩ := len_cons s17; obtain ⟨u19, t19, e19, s19⟩ := len_cons s18; obtain ⟨u20, t20, e20, s20⟩ := len_cons s19; obtain ⟨u21, t21, e21, s21⟩ := len_cons s20; obtain ⟨u22, t22, e22, s22⟩ := len_cons s21; obtain ⟨u23, t23, e23, s23⟩ := len_cons s22; obtain ⟨u24, t24, e24, s24⟩ := len_cons s23; obtain ⟨u25, t25, e25, s25⟩ := len_cons s24; obtain ⟨u26, t26, e26, s26⟩ := len_cons s25; obtain ⟨u27, t27, e27, s27⟩ := len_cons s26; obtain ⟨u28, t28, e28, s28⟩ := len_cons s27; obtain ⟨u29, t29, e29, s29⟩ := len_cons s28; obtain ⟨u30, t30, e30, s30⟩ := len_cons s29; obtain ⟨u31, t31, e31, s31⟩ := len_cons s30; obtain ⟨u32, t32, e32, s32⟩ := len_cons s31; obtain ⟨u33, t33, e33, s33⟩ := len_cons s32; obtain ⟨u34, t34, e34, s34⟩ := len_cons s33; obtain ⟨u35, t35, e35, s35⟩ := len_cons s34; obtain ⟨u36, t36, e36, s36⟩ := len_cons s35; obtain ⟨u37, t37, e37, s37⟩ := len_cons s36; obtain ⟨u38, t38, e38, s38⟩ := len_cons s37; obtain ⟨u39, t39, e39, s39⟩ := len_cons s38; obtain ⟨u40, t40, e40, s40⟩ := len_cons s39; obtain ⟨u41, t41, e41, s41⟩ := len_cons s40; obtain ⟨u42, t42, e42, s42⟩ := len_cons s41; obtain ⟨u43, t43, e43, s43⟩ := len_cons s42; obtain ⟨u44, t44, e44, s44⟩ := len_cons s43; obtain ⟨u45, t45, e45, s45⟩ := len_cons s44; obtain ⟨u46, t46, e46, s46⟩ := len_cons s45
        obtain rfl := len_nil s46
        clear hus s0 s1 s2 s3 s4 s5 s6 s7 s8 s9 s10 s11 s12 s13 s14 s15 s16 s17 s18 s19 s20 s21 s22 s23 s24 s25 s26 s27 s28 s29 s30 s31 s32 s33 s34 s35 s36 s37 s38 s39 s40 s41 s42 s43 s44 s45 s46
        subst e46 e45 e44 e43 e42 e41 e40 e39 e38 e37 e36 e35 e34 e33 e32 e31 e30 e29 e28 e27 e26 e25 e24 e23 e22 e21 e20 e19 e18 e17 e16 e15 e14 e13 e12 e11 e10 e9 e8 e7 e6 e5 e4 e3 e2 e1 e0
        have h31 : Bs w' u31 a0.data.toList := h 31 (by kernel_rfl)
        have h32 : u32 = .agg #[.slice a2 rs.length c2, .bool false] := h 32 (by kernel_rfl)
        have h24 : u24 = .bool true := h 24 (by kernel_rfl)
        clear h
        simp only [over, Act.put, List.setIfInBounds_toArray, List.set_cons_zero, List.set_cons_succ]
        subst h32
        subst h24
        have c5 := impl_TrimRightFunc _ _ _ rs false _ h31 (HI.out.ext x) (HT.out.ext x) (by show a0.size ≤ _; omega)
        rw [HFTR.out] at c5
        go_wp2_with (go_at_call 37; refine c5.mono ?_)
        rintro _ w5 ⟨v5, rfl, o5, x5⟩
        go_wp2_with fail
        exact postK_normal ⟨_, rfl, o5.bs, x5⟩
      refine AllSteps.cons (fun us hus w' x h => ?_) ?_
      · obtain ⟨u0, t0, e0, s0⟩ := len_cons hus; obtain ⟨u1, t1, e1, s1⟩ := len_cons s0; obtain ⟨u2, t2, e2, s2⟩ := len_cons s1; obtain ⟨u3, t3, e3, s3⟩ := len_cons s2; obtain ⟨u4, t4, e4, s4⟩ := len_cons s3; obtain ⟨u5, t5, e5, s5⟩ := len_cons s4; obtain ⟨u6, t6, e6, s6⟩ := len_cons s5; obtain ⟨u7, t7, e7, s7⟩ := len_cons s6; obtain ⟨u8, t8, e8, s8⟩ := len_cons s7; obtain ⟨u9, t9, e9, s9⟩ := len_cons s8; obtain ⟨u10, t10, e10, s10⟩ := len_cons s9; obtain ⟨u11, t11, e11, s11⟩ := len_cons s10; obtain ⟨u12, t12, e12, s12⟩ := len_cons s11; obtain ⟨u13, t13, e13, s13⟩ := len_cons s12; obtain ⟨u14, t14, e14, s14⟩ := len_cons s13; obtain ⟨u15, t15, e15, s15⟩ := len_cons s14; obtain ⟨u16, t16, e16, s16⟩ := len_cons s15; obtain ⟨u17, t17, e17, s17⟩ := len_cons s16; obtain ⟨u18, t18, e18, s18⟩ := len_cons s17; obtain ⟨u19, t19, e19, s19⟩ := len_cons s18; obtain ⟨u20, t20, e20, s20⟩ := len_cons s19; obtain ⟨u21, t21, e21, s21⟩ := len_cons s20; obtain ⟨u22, t22, e22, s22⟩ := len_cons s21; obtain ⟨u23, t23, e23, s23⟩ := len_cons s22; obtain ⟨u24, t24, e24, s24⟩ := len_cons s23; obtain ⟨u25, t25, e25, s25⟩ := len_cons s24; obtain ⟨u26, t26, e26, s26⟩ := len_cons s25; obtain ⟨u27, t27, e27, s27⟩ := len_cons s26; obtain ⟨u28, t28, e28, s28⟩ := len_cons s27; obtain ⟨u29, t29, e29, s29⟩ := len_cons s28; obtain ⟨u30, t30, e30, s30⟩ := len_cons s29; obtain ⟨u31, t31, e31, s31⟩ := len_cons s30; obtain ⟨u32, t32, e32, s32⟩ := len_cons s31; obtain ⟨u33, t33, e33, s33⟩ := len_cons s32; obtain ⟨u34, t34, e34, s34⟩ := len_cons s33; obtain ⟨u35, t35, e35, s35⟩ := len_cons s34; obtain ⟨u36, t36, e36, s36⟩ := len_cons s35; obtain ⟨u37, t37, e37, s37⟩ := len_cons s36; obtain ⟨u38, t38, e38, s38⟩ := len_cons s37; obtain ⟨u39, t39, e39, s39⟩ := len_cons s38; obtain ⟨u40, t40, e40, s40⟩ := len_cons s39; obtain ⟨u41, t41, e41, s41⟩ := len_cons s40; obtain ⟨u42, t42, e42, s42⟩ := len_cons s41; obtain ⟨u43, t43, e43, s43⟩ := len_cons s42; obtain ⟨u44, t44, e44, s44⟩ := len_cons s43; obtain ⟨u45, t45, e45, s45⟩ := len_cons s44; obtain ⟨u46, t46, e46, s46⟩ := len_cons s45
        obtain rfl := len_nil s46
        clear hus s0 s1 s2 s3 s4 s5 s6 s7 s8 s9 s10 s11 s12 s13 s14 s15 s16 s17 s18 s19 s20 s21 s22 s23 s24 s25 s26 s27 s28 s29 s30 s31 s32 s33 s34 s35 s36 s37 s38 s39 s40 s41 s42 s43 s44 s45 s46
        subst e46 e45 e44 e43 e42 e41 e40 e39 e38 e37 e36 e35 e34 e33 e32 e31 e30 e29 e28 e27 e26 e25 e24 e23 e22 e21 e20 e19 e18 e17 e16 e15 e14 e13 e12 e11 e10 e9 e8 e7 e6 e5 e4 e3 e2 e1 e0
        have h33 : Bs w' u33 TR := h 33 (by kernel_rfl)
        have h24 : u24 = .bool true := h 24 (by kernel_rfl)
        clear h
        simp only [over, Act.put, List.setIfInBounds_toArray, List.set_cons_zero, List.set_cons_succ]
        subst h24
        go_wp2_with (refine wpList_toString rfl 24 9 _ rfl 5 Tryd.underlying24 Tryd.underlying5 Tryd.underlying9 _ _ rfl h33 ?_)
        exact postK_normal ⟨_, rfl, rfl, Ext.refl _⟩
      refine AllSteps.cons (fun us hus w' x h => ?_) ?_
      · obtain ⟨u0, t0, e0, s0⟩ := len_cons hus; obtain ⟨u1, t1, e1, s1⟩ := len_cons s0; obtain ⟨u2, t2, e2, s2⟩ := len_cons s1; obtain ⟨u3, t3, e3, s3⟩ := len_cons s2; obtain ⟨u4, t4, e4, s4⟩ := len_cons s3; obtain ⟨u5, t5, e5, s5⟩ := len_cons s4; obtain ⟨u6, t6, e6, s6⟩ := len_cons s5; obtain ⟨u7, t7, e7, s7⟩ := len_cons s6; obtain ⟨u8, t8, e8, s8⟩ := len_cons s7; obtain ⟨u9, t9, e9, s9⟩ := len_cons s8; obtain ⟨u10, t10, e10, s10⟩ := len_cons s9; obtain ⟨u11, t11, e11, s11⟩ := len_cons s10; obtain ⟨u12, t12, e12, s12⟩ := len_cons s11; obtain ⟨u13, t13, e13, s13⟩ := len_cons s12; obtain ⟨u14, t14, e14, s14⟩ := len_cons s13; obtain ⟨u15, t15, e15, s15⟩ := len_cons s14; obtain ⟨u16, t16, e16, s16⟩ := len_cons s15; obtain ⟨u17, t17, e17, s17⟩ := len_cons s16; obtain ⟨u18, t18, e18, s18⟩ := len_cons s17; obtain ⟨u19, t19, e19, s19⟩ := len_cons s18; obtain ⟨u20, t20, e20, s20⟩ := len_cons s19; obtain ⟨u21, t21, e21, s21⟩ := len_cons s20; obtain ⟨u22, t22, e22, s22⟩ := len_cons s21; obtain ⟨u23, t23, e23, s23⟩ := len_cons s22; obtain ⟨u24, t24, e24, s24⟩ := len_cons s23; obtain ⟨u25, t25, e25, s25⟩ := len_cons s24; obtain ⟨u26, t26, e26, s26⟩ := len_cons s25; obtain ⟨u27, t27, e27, s27⟩ := len_cons s26; obtain ⟨u28, t28, e28, s28⟩ := len_cons s27; obtain ⟨u29, t29, e29, s29⟩ := len_cons s28; obtain ⟨u30, t30, e30, s30⟩ := len_cons s29; obtain ⟨u31, t31, e31, s31⟩ := len_cons s30; obtain ⟨u32, t32, e32, s32⟩ := len_cons s31; obtain ⟨u33, t33, e33, s33⟩ := len_cons s32; obtain ⟨u34, t34, e34, s34⟩ := len_cons s33; obtain ⟨u35, t35, e35, s35⟩ := len_cons s34; obtain ⟨u36, t36, e36, s36⟩ := len_cons s35; obtain ⟨u37, t37, e37, s37⟩ := len_cons s36; obtain ⟨u38, t38, e38, s38⟩ := len_cons s37; obtain ⟨u39, t39, e39, s39⟩ := len_cons s38; obtain ⟨u40, t40, e40, s40⟩ := len_cons s39; obtain ⟨u41, t41, e41, s41⟩ := len_cons s40; obtain ⟨u42, t42, e42, s42⟩ := len_cons s41; obtain ⟨u43, t43, e43, s43⟩ := len_cons s42; obtain ⟨u44, t44, e44, s44⟩ := len_cons s43; obtain ⟨u45, t45, e45, s45⟩ := len_cons s44; obtain ⟨u46, t46, e46, s46⟩ := len_cons s45
        obtain rfl := len_nil s46
        clear hus s0 s1 s2 s3 s4 s5 s6 s7 s8 s9 s10 s11 s12 s13 s14 s15 s16 s17 s18 s19 s20 s21 s22 s23 s24 s25 s26 s27 s28 s29 s30 s31 s32 s33 s34 s35 s36 s37 s38 s39 s40 s41 s42 s43 s44 s45 s46
        subst e46 e45 e44 e43 e42 e41 e40 e39 e38 e37 e36 e35 e34 e33 e32 e31 e30 e29 e28 e27 e26 e25 e24 e23 e22 e21 e20 e19 e18 e17 e16 e15 e14 e13 e12 e11 e10 e9 e8 e7 e6 e5 e4 e3 e2 e1 e0
        have h29 : u29 = .string ⟨TR.toArray⟩ := h 29 (by kernel_rfl)
        have h34 : u34 = .string ⟨TR.toArray⟩ := h 34 (by kernel_rfl)
        have h24 : u24 = .bool true := h 24 (by kernel_rfl)
        clear h
        simp only [over, Act.put, List.setIfInBounds_toArray, List.set_cons_zero, List.set_cons_succ]
        subst h29
        subst h34
        subst h24
        go_wp2_with fail
        exact postK_normal ⟨_, rfl, rfl, Ext.refl _⟩
      refine AllSteps.cons (fun us hus w' x h => ?_) ?_
      · obtain ⟨u0, t0, e0, s0⟩ := len_cons hus; obtain ⟨u1, t1, e1, s1⟩ := len_cons s0; obtain ⟨u2, t2, e2, s2⟩ := len_cons s1; obtain ⟨u3, t3, e3, s3⟩ := len_cons s2; obtain ⟨u4, t4, e4, s4⟩ := len_cons s3; obtain ⟨u5, t5, e5, s5⟩ := len_cons s4; obtain ⟨u6, t6, e6, s6⟩ := len_cons s5; obtain ⟨u7, t7, e7, s7⟩ := len_cons s6; obtain ⟨u8, t8, e8, s8⟩ := len_cons s7; obtain ⟨u9, t9, e9, s9⟩ := len_cons s8; obtain ⟨u10, t10, e10, s10⟩ := len_cons s9; obtain ⟨u11, t11, e11, s11⟩ := len_cons s10; obtain ⟨u12, t12, e12, s12⟩ := len_cons s11; obtain ⟨u13, t13, e13, s13⟩ := len_cons s12; obtain ⟨u14, t14, e14, s14⟩ := len_cons s13; obtain ⟨u15, t15, e15, s15⟩ := len_cons s14; obtain ⟨u16, t16, e16, s16⟩ := len_cons s15; obtain ⟨u17, t17, e17, s17⟩ := len_cons s16; obtain ⟨u18, t18, e18, s18⟩ := len_cons s17; obtain ⟨u19, t19, e19, s19⟩ := len_cons s18; obtain ⟨u20, t20, e20, s20⟩ := len_cons s19; obtain ⟨u21, t21, e21, s21⟩ := len_cons s20; obtain ⟨u22, t22, e22, s22⟩ := len_cons s21; obtain ⟨u23, t23, e23, s23⟩ := len_cons s22; obtain ⟨u24, t24, e24, s24⟩ := len_cons s23; obtain ⟨u25, t25, e25, s25⟩ := len_cons s24; obtain ⟨u26, t26, e26, s26⟩ := len_cons s25; obtain ⟨u27, t27, e27, s27⟩ := len_cons s26; obtain ⟨u28, t28, e28, s28⟩ := len_cons s27; obtain ⟨u29, t29, e29, s29⟩ := len_cons s28; obtain ⟨u30, t30, e30, s30⟩ := len_cons s29; obtain ⟨u31, t31, e31, s31⟩ := len_cons s30; obtain ⟨u32, t32, e32, s32⟩ := len_cons s31; obtain ⟨u33, t33, e33, s33⟩ := len_cons s32; obtain ⟨u34, t34, e34, s34⟩ := len_cons s33; obtain ⟨u35, t35, e35, s35⟩ := len_cons s34; obtain ⟨u36, t36, e36, s36⟩ := len_cons s35; obtain ⟨u37, t37, e37, s37⟩ := len_cons s36; obtain ⟨u38, t38, e38, s38⟩ := len_cons s37; obtain ⟨u39, t39, e39, s39⟩ := len_cons s38; obtain ⟨u40, t40, e40, s40⟩ := len_cons s39; obtain ⟨u41, t41, e41, s41⟩ := len_cons s40; obtain ⟨u42, t42, e42, s42⟩ := len_cons s41; obtain ⟨u43, t43, e43, s43⟩ := len_cons s42; obtain ⟨u44, t44, e44, s44⟩ := len_cons s43; obtain ⟨u45, t45, e45, s45⟩ := len_cons s44; obtain ⟨u46, t46, e46, s46⟩ := len_cons s45
        obtain rfl := len_nil s46
        clear hus s0 s1 s2 s3 s4 s5 s6 s7 s8 s9 s10 s11 s12 s13 s14 s15 s16 s17 s18 s19 s20 s21 s22 s23 s24 s25 s26 s27 s28 s29 s30 s31 s32 s33 s34 s35 s36 s37 s38 s39 s40 s41 s42 s43 s44 s45 s46
        subst e46 e45 e44 e43 e42 e41 e40 e39 e38 e37 e36 e35 e34 e33 e32 e31 e30 e29 e28 e27 e26 e25 e24 e23 e22 e21 e20 e19 e18 e17 e16 e15 e14 e13 e12 e11 e10 e9 e8 e7 e6 e5 e4 e3 e2 e1 e0
        have h24 : u24 = .bool true := h 24 (by kernel_rfl)
        have h35 : u35 = .bool true := h 35 (by kernel_rfl)
        clear h
        simp only [over, Act.put, List.setIfInBounds_toArray, List.set_cons_zero, List.set_cons_succ]
        subst h24
        subst h35
        go_wp2_with fail
        exact postK_normal ⟨_, rfl, rfl, Ext.refl _⟩
      refine AllSteps.cons (fun us hus w' x h => ?_) ?_
      · obtain ⟨u0, t0, e0, s0⟩ := len_cons hus; obtain ⟨u1, t1, e1, s1⟩ := len_cons s0; obtain ⟨u2, t2, e2, s2⟩ := len_cons s1; obtain ⟨u3, t3, e3, s3⟩ := len_cons s2; obtain ⟨u4, t4, e4, s4⟩ := len_cons s3; obtain ⟨u5, t5, e5, s5⟩ := len_cons s4; obtain ⟨u6, t6, e6, s6⟩ := len_cons s5; obtain ⟨u7, t7, e7, s7⟩ := len_cons s6; obtain ⟨u8, t8, e8, s8⟩ := len_cons s7; obtain ⟨u9, t9, e9, s9⟩ := len_cons s8; obtain ⟨u10, t10, e10, s10⟩ := len_cons s9; obtain ⟨u11, t11, e11, s11⟩ := len_cons s10; obtain ⟨u12, t12, e12, s12⟩ := len_cons s11; obtain ⟨u13, t13, e13, s13⟩ := len_cons s12; obtain ⟨u14, t14, e14, s14⟩ := len_cons s13; obtain ⟨u15, t15, e15, s15⟩ := len_cons s14; obtain ⟨u16, t16, e16, s16⟩ := len_cons s15; obtain ⟨u17, t17, e17, s17⟩ := len_cons s16; obtain ⟨u18, t18, e18, s18⟩ := len_cons s17; obtain ⟨u19, t19, e19, s19⟩ := len_cons s18; obtain ⟨u20, t20, e20, s20⟩ := len_cons s19; obtain ⟨u21, t21, e21, s21⟩ := len_cons s20; obtain ⟨u22, t22, e22, s22⟩ := len_cons s21; obtain ⟨u23, t23, e23, s23⟩ := len_cons s22; obtain ⟨u24, t24, e24, s24⟩ := len_cons s23; obtain ⟨u25, t25, e25, s25⟩ := len_cons s24; obtain ⟨u26, t26, e26, s26⟩ := len_cons s25; obtain ⟨u27, t27, e27, s27⟩ := len_cons s26; obtain ⟨u28, t28, e28, s28⟩ := len_cons s27; obtain ⟨u29, t29, e29, s29⟩ := len_cons s28; obtain ⟨u30, t30, e30, s30⟩ := len_cons s29; obtain ⟨u31, t31, e31, s31⟩ := len_cons s30; obtain ⟨u32, t32, e32, s32⟩ := len_cons s31; obtain ⟨u33, t33, e33, s33⟩ := len_cons s32; obtain ⟨u34, t34, e34, s34⟩ := len_cons s33; obtain ⟨u35, t35, e35, s35⟩ := len_cons s34; obtain ⟨u36, t36, e36, s36⟩ := len_cons s35; obtain ⟨u37, t37, e37, s37⟩ := len_cons s36; obtain ⟨u38, t38, e38, s38⟩ := len_cons s37; obtain ⟨u39, t39, e39, s39⟩ := len_cons s38; obtain ⟨u40, t40, e40, s40⟩ := len_cons s39; obtain ⟨u41, t41, e41, s41⟩ := len_cons s40; obtain ⟨u42, t42, e42, s42⟩ := len_cons s41; obtain ⟨u43, t43, e43, s43⟩ := len_cons s42; obtain ⟨u44, t44, e44, s44⟩ := len_cons s43; obtain ⟨u45, t45, e45, s45⟩ := len_cons s44; obtain ⟨u46, t46, e46, s46⟩ := len_cons s45
        obtain rfl := len_nil s46
        clear hus s0 s1 s2 s3 s4 s5 s6 s7 s8 s9 s10 s11 s12 s13 s14 s15 s16 s17 s18 s19 s20 s21 s22 s23 s24 s25 s26 s27 s28 s29 s30 s31 s32 s33 s34 s35 s36 s37 s38 s39 s40 s41 s42 s43 s44 s45 s46
        subst e46 e45 e44 e43 e42 e41 e40 e39 e38 e37 e36 e35 e34 e33 e32 e31 e30 e29 e28 e27 e26 e25 e24 e23 e22 e21 e20 e19 e18 e17 e16 e15 e14 e13 e12 e11 e10 e9 e8 e7 e6 e5 e4 e3 e2 e1 e0
        have h36 : u36 = .bool true := h 36 (by kernel_rfl)
        clear h
        simp only [over, Act.put, List.setIfInBounds_toArray, List.set_cons_zero, List.set_cons_succ]
        subst h36
        go_wp2_with fail
        exact postK_normal ⟨_, rfl, rfl, Ext.refl _⟩
      refine AllSteps.cons (fun us hus w' x h => ?_) ?_
      · obtain ⟨u0, t0, e0, s0⟩ := len_cons hus; obtain ⟨u1, t1, e1, s1⟩ := len_cons s0; obtain ⟨u2, t2, e2, s2⟩ := len_cons s1; obtain ⟨u3, t3, e3, s3⟩ := len_cons s2; obtain ⟨u4, t4, e4, s4⟩ := len_cons s3; obtain ⟨u5, t5, e5, s5⟩ := len_cons s4; obtain ⟨u6, t6, e6, s6⟩ := len_cons s5; obtain ⟨u7, t7, e7, s7⟩ := len_cons s6; obtain ⟨u8, t8, e8, s8⟩ := len_cons s7; obtain ⟨u9, t9, e9, s9⟩ := len_cons s8; obtain ⟨u10, t10, e10, s10⟩ := len_cons s9; obtain ⟨u11, t11, e11, s11⟩ := len_cons s10; obtain ⟨u12, t12, e12, s12⟩ := len_cons s11; obtain ⟨u13, t13, e13, s13⟩ := len_cons s12; obtain ⟨u14, t14, e14, s14⟩ := len_cons s13; obtain ⟨u15, t15, e15, s15⟩ := len_cons s14; obtain ⟨u16, t16, e16, s16⟩ := len_cons s15; obtain ⟨u17, t17, e17, s17⟩ := len_cons s16; obtain ⟨u18, t18, e18, s18⟩ := len_cons s17; obtain ⟨u19, t19, e19, s19⟩ := len_cons s18; obtain ⟨u20, t20, e20, s20⟩ := len_cons s19; obtain ⟨u21, t21, e21, s21⟩ := len_cons s20; obtain ⟨u22, t22, e22, s22⟩ := len_cons s21; obtain ⟨u23, t23, e23, s23⟩ := len_cons s22; obtain ⟨u24, t24, e24, s24⟩ := len_cons s23; obtain ⟨u25, t25, e25, s25⟩ := len_cons s24; obtain ⟨u26, t26, e26, s26⟩ := len_cons s25; obtain ⟨u27, t27, e27, s27⟩ := len_cons s26; obtain ⟨u28, t28, e28, s28⟩ := len_cons s27; obtain ⟨u29, t29, e29, s29⟩ := len_cons s28; obtain ⟨u30, t30, e30, s30⟩ := len_cons s29; obtain ⟨u31, t31, e31, s31⟩ := len_cons s30; obtain ⟨u32, t32, e32, s32⟩ := len_cons s31; obtain ⟨u33, t33, e33, s33⟩ := len_cons s32; obtain ⟨u34, t34, e34, s34⟩ := len_cons s33; obtain ⟨u35, t35, e35, s35⟩ := len_cons s34; obtain ⟨u36, t36, e36, s36⟩ := len_cons s35; obtain ⟨u37, t37, e37, s37⟩ := len_cons s36; obtain ⟨u38, t38, e38, s38⟩ := len_cons s37; obtain ⟨u39, t39, e39, s39⟩ := len_cons s38; obtain ⟨u40, t40, e40, s40⟩ := len_cons s39; obtain ⟨u41, t41, e41, s41⟩ := len_cons s40; obtain ⟨u42, t42, e42, s42⟩ := len_cons s41; obtain ⟨u43, t43, e43, s43⟩ := len_cons s42; obtain ⟨u44, t44, e44, s44⟩ := len_cons s43; obtain ⟨u45, t45, e45, s45⟩ := len_cons s44; obtain ⟨u46, t46, e46, s46⟩ := len_cons s45
        obtain rfl := len_nil s46
        clear hus s0 s1 s2 s3 s4 s5 s6 s7 s8 s9 s10 s11 s12 s13 s14 s15 s16 s17 s18 s19 s20 s21 s22 s23 s24 s25 s26 s27 s28 s29 s30 s31 s32 s33 s34 s35 s36 s37 s38 s39 s40 s41 s42 s43 s44 s45 s46
        subst e46 e45 e44 e43 e42 e41 e40 e39 e38 e37 e36 e35 e34 e33 e32 e31 e30 e29 e28 e27 e26 e25 e24 e23 e22 e21 e20 e19 e18 e17 e16 e15 e14 e13 e12 e11 e10 e9 e8 e7 e6 e5 e4 e3 e2 e1 e0
        have h37 : u37 = .bool true := h 37 (by kernel_rfl)
        clear h
        simp only [over, Act.put, List.setIfInBounds_toArray, List.set_cons_zero, List.set_cons_succ]
        subst h37
        go_wp2_with fail
        exact postK_normal ⟨_, rfl, rfl, Ext.refl _⟩
      refine AllSteps.cons (fun us hus w' x h => ?_) ?_
      · obtain ⟨u0, t0, e0, s0⟩ := len_cons hus; obtain ⟨u1, t1, e1, s1⟩ := len_cons s0; obtain ⟨u2, t2, e2, s2⟩ := len_cons s1; obtain ⟨u3, t3, e3, s3⟩ := len_cons s2; obtain ⟨u4, t4, e4, s4⟩ := len_cons s3; obtain ⟨u5, t5, e5, s5⟩ := len_cons s4; obtain ⟨u6, t6, e6, s6⟩ := len_cons s5; obtain ⟨u7, t7, e7, s7⟩ := len_cons s6; obtain ⟨u8, t8, e8, s8⟩ := len_cons s7; obtain ⟨u9, t9, e9, s9⟩ := len_cons s8; obtain ⟨u10, t10, e10, s10⟩ := len_cons s9; obtain ⟨u11, t11, e11, s11⟩ := len_cons s10; obtain ⟨u12, t12, e12, s12⟩ := len_cons s11; obtain ⟨u13, t13, e13, s13⟩ := len_cons s12; obtain ⟨u14, t14, e14, s14⟩ := len_cons s13; obtain ⟨u15, t15, e15, s15⟩ := len_cons s14; obtain ⟨u16, t16, e16, s16⟩ := len_cons s15; obtain ⟨u17, t17, e17, s17⟩ := len_cons s16; obtain ⟨u18, t18, e18, s18⟩ := len_cons s17; obtain ⟨u19, t19, e19, s19⟩ := len_cons s18; obtain ⟨u20, t20, e20, s20⟩ := len_cons s19; obtain ⟨u21, t21, e21, s21⟩ := len_cons s20; obtain ⟨u22, t22, e22, s22⟩ := len_cons s21; obtain ⟨u23, t23, e23, s23⟩ := len_cons s22; obtain ⟨u24, t24, e24, s24⟩ := len_cons s23; obtain ⟨u25, t25, e25, s25⟩ := len_cons s24; obtain ⟨u26, t26, e26, s26⟩ := len_cons s25; obtain ⟨u27, t27, e27, s27⟩ := len_cons s26; obtain ⟨u28, t28, e28, s28⟩ := len_cons s27; obtain ⟨u29, t29, e29, s29⟩ := len_cons s28; obtain ⟨u30, t30, e30, s30⟩ := len_cons s29; obtain ⟨u31, t31, e31, s31⟩ := len_cons s30; obtain ⟨u32, t32, e32, s32⟩ := len_cons s31; obtain ⟨u33, t33, e33, s33⟩ := len_cons s32; obtain ⟨u34, t34, e34, s34⟩ := len_cons s33; obtain ⟨u35, t35, e35, s35⟩ := len_cons s34; obtain ⟨u36, t36, e36, s36⟩ := len_cons s35; obtain ⟨u37, t37, e37, s37⟩ := len_cons s36; obtain ⟨u38, t38, e38, s38⟩ := len_cons s37; obtain ⟨u39, t39, e39, s39⟩ := len_cons s38; obtain ⟨u40, t40, e40, s40⟩ := len_cons s39; obtain ⟨u41, t41, e41, s41⟩ := len_cons s40; obtain ⟨u42, t42, e42, s42⟩ := len_cons s41; obtain ⟨u43, t43, e43, s43⟩ := len_cons s42; obtain ⟨u44, t44, e44, s44⟩ := len_cons s43; obtain ⟨u45, t45, e45, s45⟩ := len_cons s44; obtain ⟨u46, t46, e46, s46⟩ := len_cons s45
        obtain rfl := len_nil s46
        clear hus s0 s1 s2 s3 s4 s5 s6 s7 s8 s9 s10 s11 s12 s13 s14 s15 s16 s17 s18 s19 s20 s21 s22 s23 s24 s25 s26 s27 s28 s29 s30 s31 s32 s33 s34 s35 s36 s37 s38 s39 s40 s41 s42 s43 s44 s45 s46
        subst e46 e45 e44 e43 e42 e41 e40 e39 e38 e37 e36 e35 e34 e33 e32 e31 e30 e29 e28 e27 e26 e25 e24 e23 e22 e21 e20 e19 e18 e17 e16 e15 e14 e13 e12 e11 e10 e9 e8 e7 e6 e5 e4 e3 e2 e1 e0
        have h38 : u38 = .string a0 := h 38 (by kernel_rfl)
        have h37 : u37 = .bool true := h 37 (by kernel_rfl)
        clear h
        simp only [over, Act.put, List.setIfInBounds_toArray, List.set_cons_zero, List.set_cons_succ]
        subst h38
        subst h37
        go_wp2_with (refine wpList_toBytes rfl 9 24 _ rfl 5 Tryd.underlying9 Tryd.underlying24 Tryd.underlying5 _ rfl hmax ?_)
        intro v5 w5 o5 x5
        go_wp2_with fail
        exact postK_normal ⟨_, rfl, o5.bs, x5⟩
      refine AllSteps.cons (fun us hus w' x h => ?_) ?_
      · obtain ⟨u0, t0, e0, s0⟩ := len_cons hus; obtain ⟨u1, t1, e1, s1⟩ := len_cons s0; obtain ⟨u2, t2, e2, s2⟩ := len_cons s1; obtain ⟨u3, t3, e3, s3⟩ := len_cons s2; obtain ⟨u4, t4, e4, s4⟩ := len_cons s3; obtain ⟨u5, t5, e5, s5⟩ := len_cons s4; obtain ⟨u6, t6, e6, s6⟩ := len_cons s5; obtain ⟨u7, t7, e7, s7⟩ := len_cons s6; obtain ⟨u8, t8, e8, s8⟩ := len_cons s7; obtain ⟨u9, t9, e9, s9⟩ := len_cons s8; obtain ⟨u10, t10, e10, s10⟩ := len_cons s9; obtain ⟨u11, t11, e11, s11⟩ := len_cons s10; obtain ⟨u12, t12, e12, s12⟩ := len_cons s11; obtain ⟨u13, t13, e13, s13⟩ := len_cons s12; obtain ⟨u14, t14, e14, s14⟩ := len_cons s13; obtain ⟨u15, t15, e15, s15⟩ := len_cons s14; obtain ⟨u16, t16, e16, s16⟩ := len_cons s15; obtain ⟨u17, t17, e17, s17⟩ := len_cons s16; obtain ⟨u18, t18, e18, s18⟩ := len_cons s17; obtain ⟨u19, t19, e19, s19⟩ := len_cons s18; obtain ⟨u20, t20, e20, s20⟩ := len_cons s19; obtain ⟨u21, t21, e21, s21⟩ := len_cons s20; obtain ⟨u22, t22, e22, s22⟩ := len_cons s21; obtain ⟨u23, t23, e23, s23⟩ := len_cons s22; obtain ⟨u24, t24, e24, s24⟩ := len_cons s23; obtain ⟨u25, t25, e25, s25⟩ := len_cons s24; obtain ⟨u26, t26, e26, s26⟩ := len_cons s25; obtain ⟨u27, t27, e27, s27⟩ := len_cons s26; obtain ⟨u28, t28, e28, s28⟩ := len_cons s27; obtain ⟨u29, t29, e29, s29⟩ := len_cons s28; obtain ⟨u30, t30, e30, s30⟩ := len_cons s29; obtain ⟨u31, t31, e31, s31⟩ := len_cons s30; obtain ⟨u32, t32, e32, s32⟩ := len_cons s31; obtain ⟨u33, t33, e33, s33⟩ := len_cons s32; obtain ⟨u34, t34, e34, s34⟩ := len_cons s33; obtain ⟨u35, t35, e35, s35⟩ := len_cons s34; obtain ⟨u36, t36, e36, s36⟩ := len_cons s35; obtain ⟨u37, t37, e37, s37⟩ := len_cons s36; obtain ⟨u38, t38, e38, s38⟩ := len_cons s37; obtain ⟨u39, t39, e39, s39⟩ := len_cons s38; obtain ⟨u40, t40, e40, s40⟩ := len_cons s39; obtain ⟨u41, t41, e41, s41⟩ := len_cons s40; obtain ⟨u42, t42, e42, s42⟩ := len_cons s41; obtain ⟨u43, t43, e43, s43⟩ := len_cons s42; obtain ⟨u44, t44, e44, s44⟩ := len_cons s43; obtain ⟨u45, t45, e45, s45⟩ := len_cons s44; obtain ⟨u46, t46, e46, s46⟩ := len_cons s45
        obtain rfl := len_nil s46
        clear hus s0 s1 s2 s3 s4 s5 s6 s7 s8 s9 s10 s11 s12 s13 s14 s15 s16 s17 s18 s19 s20 s21 s22 s23 s24 s25 s26 s27 s28 s29 s30 s31 s32 s33 s34 s35 s36 s37 s38 s39 s40 s41 s42 s43 s44 s45 s46
        subst e46 e45 e44 e43 e42 e41 e40 e39 e38 e37 e36 e35 e34 e33 e32 e31 e30 e29 e28 e27 e26 e25 e24 e23 e22 e21 e20 e19 e18 e17 e16 e15 e14 e13 e12 e11 e10 e9 e8 e7 e6 e5 e4 e3 e2 e1 e0
        have h37 : u37 = .bool true := h 37 (by kernel_rfl)
        clear h
        simp only [over, Act.put, List.setIfInBounds_toArray, List.set_cons_zero, List.set_cons_succ]
        subst h37
        go_wp2_with (go_at_call 19; refine (laws_test _ [] _ _ (Vs.nil _ 1) (by simp)).mono ?_)
        rintro _ w5 ⟨v5, rfl, o5, x5⟩
        go_wp2_with fail
        exact postK_normal ⟨_, rfl, ⟨_, rfl, o5⟩, x5⟩
      refine AllSteps.cons (fun us hus w' x h => ?_) ?_
      · obtain ⟨u0, t0, e0, s0⟩ := len_cons hus; obtain ⟨u1, t1, e1, s1⟩ := len_cons s0; obtain ⟨u2, t2, e2, s2⟩ := len_cons s1; obtain ⟨u3, t3, e3, s3⟩ := len_cons s2; obtain ⟨u4, t4, e4, s4⟩ := len_cons s3; obtain ⟨u5, t5, e5, s5⟩ := len_cons s4; obtain ⟨u6, t6, e6, s6⟩ := len_cons s5; obtain ⟨u7, t7, e7, s7⟩ := len_cons s6; obtain ⟨u8, t8, e8, s8⟩ := len_cons s7; obtain ⟨u9, t9, e9, s9⟩ := len_cons s8; obtain ⟨u10, t10, e10, s10⟩ := len_cons s9; obtain ⟨u11, t11, e11, s11⟩ := len_cons s10; obtain ⟨u12, t12, e12, s12⟩ := len_cons s11; obtain ⟨u13, t13, e13, s13⟩ := len_cons s12; obtain ⟨u14, t14, e14, s14⟩ := len_cons s13; obtain ⟨u15, t15, e15, s15⟩ := len_cons s14; obtain ⟨u16, t16, e16, s16⟩ := len_cons s15; obtain ⟨u17, t17, e17, s17⟩ := len_cons s16; obtain ⟨u18, t18, e18, s18⟩ := len_cons s17; obtain ⟨u19, t19, e19, s19⟩ := len_cons s18; obtain ⟨u20, t20, e20, s20⟩ := len_cons s19; obtain ⟨u21, t21, e21, s21⟩ := len_cons s20; obtain ⟨u22, t22, e22, s22⟩ := len_cons s21; obtain ⟨u23, t23, e23, s23⟩ := len_cons s22; obtain ⟨u24, t24, e24, s24⟩ := len_cons s23; obtain ⟨u25, t25, e25, s25⟩ := len_cons s24; obtain ⟨u26, t26, e26, s26⟩ := len_cons s25; obtain ⟨u27, t27, e27, s27⟩ := len_cons s26; obtain ⟨u28, t28, e28, s28⟩ := len_cons s27; obtain ⟨u29, t29, e29, s29⟩ := len_cons s28; obtain ⟨u30, t30, e30, s30⟩ := len_cons s29; obtain ⟨u31, t31, e31, s31⟩ := len_cons s30; obtain ⟨u32, t32, e32, s32⟩ := len_cons s31; obtain ⟨u33, t33, e33, s33⟩ := len_cons s32; obtain ⟨u34, t34, e34, s34⟩ := len_cons s33; obtain ⟨u35, t35, e35, s35⟩ := len_cons s34; obtain ⟨u36, t36, e36, s36⟩ := len_cons s35; obtain ⟨u37, t37, e37, s37⟩ := len_cons s36; obtain ⟨u38, t38, e38, s38⟩ := len_cons s37; obtain ⟨u39, t39, e39, s39⟩ := len_cons s38; obtain ⟨u40, t40, e40, s40⟩ := len_cons s39; obtain ⟨u41, t41, e41, s41⟩ := len_cons s40; obtain ⟨u42, t42, e42, s42⟩ := len_cons s41; obtain ⟨u43, t43, e43, s43⟩ := len_cons s42; obtain ⟨u44, t44, e44, s44⟩ := len_cons s43; obtain ⟨u45, t45, e45, s45⟩ := len_cons s44; obtain ⟨u46, t46, e46, s46⟩ := len_cons s45
        obtain rfl := len_nil s46
        clear hus s0 s1 s2 s3 s4 s5 s6 s7 s8 s9 s10 s11 s12 s13 s14 s15 s16 s17 s18 s19 s20 s21 s22 s23 s24 s25 s26 s27 s28 s29 s30 s31 s32 s33 s34 s35 s36 s37 s38 s39 s40 s41 s42 s43 s44 s45 s46
        subst e46 e45 e44 e43 e42 e41 e40 e39 e38 e37 e36 e35 e34 e33 e32 e31 e30 e29 e28 e27 e26 e25 e24 e23 e22 e21 e20 e19 e18 e17 e16 e15 e14 e13 e12 e11 e10 e9 e8 e7 e6 e5 e4 e3 e2 e1 e0
        have h39 : Bs w' u39 a0.data.toList := h 39 (by kernel_rfl)
        have h40 : ∃ v7, u40 = .agg #[v7, .bool false] ∧ Is w' v7 [] := h 40 (by kernel_rfl)
        have h37 : u37 = .bool true := h 37 (by kernel_rfl)
        clear h
        simp only [over, Act.put, List.setIfInBounds_toArray, List.set_cons_zero, List.set_cons_succ]
        subst h37
        obtain ⟨v7, e7, i7⟩ := h40
        subst e7
        have c5 := impl_TrimFunc _ _ _ [] false _ h39 i7 (HT.out.ext x) (by show a0.size ≤ _; omega)
        rw [HNV.out] at c5
        go_wp2_with (go_at_call 35; refine c5.mono ?_)
        rintro _ w5 ⟨v5, rfl, o5, x5⟩
        go_wp2_with fail
        exact postK_normal ⟨_, rfl, o5.bs, x5⟩
      refine AllSteps.cons (fun us hus w' x h => ?_) ?_
      · obtain ⟨u0, t0, e0, s0⟩ := len_cons hus; obtain ⟨u1, t1, e1, s1⟩ := len_cons s0; obtain ⟨u2, t2, e2, s2⟩ := len_cons s1; obtain ⟨u3, t3, e3, s3⟩ := len_cons s2; obtain ⟨u4, t4, e4, s4⟩ := len_cons s3; obtain ⟨u5, t5, e5, s5⟩ := len_cons s4; obtain ⟨u6, t6, e6, s6⟩ := len_cons s5; obtain ⟨u7, t7, e7, s7⟩ := len_cons s6; obtain ⟨u8, t8, e8, s8⟩ := len_cons s7; obtain ⟨u9, t9, e9, s9⟩ := len_cons s8; obtain ⟨u10, t10, e10, s10⟩ := len_cons s9; obtain ⟨u11, t11, e11, s11⟩ := len_cons s10; obtain ⟨u12, t12, e12, s12⟩ := len_cons s11; obtain ⟨u13, t13, e13, s13⟩ := len_cons s12; obtain ⟨u14, t14, e14, s14⟩ := len_cons s13; obtain ⟨u15, t15, e15, s15⟩ := len_cons s14; obtain ⟨u16, t16, e16, s16⟩ := len_cons s15; obtain ⟨u17, t17, e17, s17⟩ := len_cons s16; obtain ⟨u18, t18, e18, s18⟩ := len_cons s17; obtain ⟨u19, t19, e19, s19⟩ := len_cons s18; obtain ⟨u20, t20, e20, s20⟩ := len_cons s19; obtain ⟨u21, t21, e21, s21⟩ := len_cons s20; obtain ⟨u22, t22, e22, s22⟩ := len_cons s21; obtain ⟨u23, t23, e23, s23⟩ := len_cons s22; obtain ⟨u24, t24, e24, s24⟩ := len_cons s23; obtain ⟨u25, t25, e25, s25⟩ := len_cons s24; obtain ⟨u26, t26, e26, s26⟩ := len_cons s25; obtain ⟨u27, t27, e27, s27⟩ := len_cons s26; obtain ⟨u28, t28, e28, s28⟩ := len_cons s27; obtain ⟨u29, t29, e29, s29⟩ := len_cons s28; obtain ⟨u30, t30, e30, s30⟩ := len_cons s29; obtain ⟨u31, t31, e31, s31⟩ := len_cons s30; obtain ⟨u32, t32, e32, s32⟩ := len_cons s31; obtain ⟨u33, t33, e33, s33⟩ := len_cons s32; obtain ⟨u34, t34, e34, s34⟩ := len_cons s33; obtain ⟨u35, t35, e35, s35⟩ := len_cons s34; obtain ⟨u36, t36, e36, s36⟩ := len_cons s35; obtain ⟨u37, t37, e37, s37⟩ := len_cons s36; obtain ⟨u38, t38, e38, s38⟩ := len_cons s37; obtain ⟨u39, t39, e39, s39⟩ := len_cons s38; obtain ⟨u40, t40, e40, s40⟩ := len_cons s39; obtain ⟨u41, t41, e41, s41⟩ := len_cons s40; obtain ⟨u42, t42, e42, s42⟩ := len_cons s41; obtain ⟨u43, t43, e43, s43⟩ := len_cons s42; obtain ⟨u44, t44, e44, s44⟩ := len_cons s43; obtain ⟨u45, t45, e45, s45⟩ := len_cons s44; obtain ⟨u46, t46, e46, s46⟩ := len_cons s45
        obtain rfl := len_nil s46
        clear hus s0 s1 s2 s3 s4 s5 s6 s7 s8 s9 s10 s11 s12 s13 s14 s15 s16 s17 s18 s19 s20 s21 s22 s23 s24 s25 s26 s27 s28 s29 s30 s31 s32 s33 s34 s35 s36 s37 s38 s39 s40 s41 s42 s43 s44 s45 s46
        subst e46 e45 e44 e43 e42 e41 e40 e39 e38 e37 e36 e35 e34 e33 e32 e31 e30 e29 e28 e27 e26 e25 e24 e23 e22 e21 e20 e19 e18 e17 e16 e15 e14 e13 e12 e11 e10 e9 e8 e7 e6 e5 e4 e3 e2 e1 e0
        have h41 : Bs w' u41 a0.data.toList := h 41 (by kernel_rfl)
        have h37 : u37 = .bool true := h 37 (by kernel_rfl)
        clear h
        simp only [over, Act.put, List.setIfInBounds_toArray, List.set_cons_zero, List.set_cons_succ]
        subst h37
        go_wp2_with (refine wpList_toString rfl 24 9 _ rfl 5 Tryd.underlying24 Tryd.underlying5 Tryd.underlying9 _ _ rfl h41 ?_)
        exact postK_normal ⟨_, rfl, rfl, Ext.refl _⟩
      refine AllSteps.cons (fun us hus w' x h => ?_) ?_
      · obtain ⟨u0, t0, e0, s0⟩ := len_cons hus; obtain ⟨u1, t1, e1, s1⟩ := len_cons s0; obtain ⟨u2, t2, e2, s2⟩ := len_cons s1; obtain ⟨u3, t3, e3, s3⟩ := len_cons s2; obtain ⟨u4, t4, e4, s4⟩ := len_cons s3; obtain ⟨u5, t5, e5, s5⟩ := len_cons s4; obtain ⟨u6, t6, e6, s6⟩ := len_cons s5; obtain ⟨u7, t7, e7, s7⟩ := len_cons s6; obtain ⟨u8, t8, e8, s8⟩ := len_cons s7; obtain ⟨u9, t9, e9, s9⟩ := len_cons s8; obtain ⟨u10, t10, e10, s10⟩ := len_cons s9; obtain ⟨u11, t11, e11, s11⟩ := len_cons s10; obtain ⟨u12, t12, e12, s12⟩ := len_cons s11; obtain ⟨u13, t13, e13, s13⟩ := len_cons s12; obtain ⟨u14, t14, e14, s14⟩ := len_cons s13; obtain ⟨u15, t15, e15, s15⟩ := len_cons s14; obtain ⟨u16, t16, e16, s16⟩ := len_cons s15; obtain ⟨u17, t17, e17, s17⟩ := len_cons s16; obtain ⟨u18, t18, e18, s18⟩ := len_cons s17; obtain ⟨u19, t19, e19, s19⟩ := len_cons s18; obtain ⟨u20, t20, e20, s20⟩ := len_cons s19; obtain ⟨u21, t21, e21, s21⟩ := len_cons s20; obtain ⟨u22, t22, e22, s22⟩ := len_cons s21; obtain ⟨u23, t23, e23, s23⟩ := len_cons s22; obtain ⟨u24, t24, e24, s24⟩ := len_cons s23; obtain ⟨u25, t25, e25, s25⟩ := len_cons s24; obtain ⟨u26, t26, e26, s26⟩ := len_cons s25; obtain ⟨u27, t27, e27, s27⟩ := len_cons s26; obtain ⟨u28, t28, e28, s28⟩ := len_cons s27; obtain ⟨u29, t29, e29, s29⟩ := len_cons s28; obtain ⟨u30, t30, e30, s30⟩ := len_cons s29; obtain ⟨u31, t31, e31, s31⟩ := len_cons s30; obtain ⟨u32, t32, e32, s32⟩ := len_cons s31; obtain ⟨u33, t33, e33, s33⟩ := len_cons s32; obtain ⟨u34, t34, e34, s34⟩ := len_cons s33; obtain ⟨u35, t35, e35, s35⟩ := len_cons s34; obtain ⟨u36, t36, e36, s36⟩ := len_cons s35; obtain ⟨u37, t37, e37, s37⟩ := len_cons s36; obtain ⟨u38, t38, e38, s38⟩ := len_cons s37; obtain ⟨u39, t39, e39, s39⟩ := len_cons s38; obtain ⟨u40, t40, e40, s40⟩ := len_cons s39; obtain ⟨u41, t41, e41, s41⟩ := len_cons s40; obtain ⟨u42, t42, e42, s42⟩ := len_cons s41; obtain ⟨u43, t43, e43, s43⟩ := len_cons s42; obtain ⟨u44, t44, e44, s44⟩ := len_cons s43; obtain ⟨u45, t45, e45, s45⟩ := len_cons s44; obtain ⟨u46, t46, e46, s46⟩ := len_cons s45
        obtain rfl := len_nil s46
        clear hus s0 s1 s2 s3 s4 s5 s6 s7 s8 s9 s10 s11 s12 s13 s14 s15 s16 s17 s18 s19 s20 s21 s22 s23 s24 s25 s26 s27 s28 s29 s30 s31 s32 s33 s34 s35 s36 s37 s38 s39 s40 s41 s42 s43 s44 s45 s46
        subst e46 e45 e44 e43 e42 e41 e40 e39 e38 e37 e36 e35 e34 e33 e32 e31 e30 e29 e28 e27 e26 e25 e24 e23 e22 e21 e20 e19 e18 e17 e16 e15 e14 e13 e12 e11 e10 e9 e8 e7 e6 e5 e4 e3 e2 e1 e0
        have h37 : u37 = .bool true := h 37 (by kernel_rfl)
        clear h
        simp only [over, Act.put, List.setIfInBounds_toArray, List.set_cons_zero, List.set_cons_succ]
        subst h37
        go_wp2_with fail
        exact postK_normal ⟨_, rfl, rfl, Ext.refl _⟩
      refine AllSteps.cons (fun us hus w' x h => ?_) ?_
      · obtain ⟨u0, t0, e0, s0⟩ := len_cons hus; obtain ⟨u1, t1, e1, s1⟩ := len_cons s0; obtain ⟨u2, t2, e2, s2⟩ := len_cons s1; obtain ⟨u3, t3, e3, s3⟩ := len_cons s2; obtain ⟨u4, t4, e4, s4⟩ := len_cons s3; obtain ⟨u5, t5, e5, s5⟩ := len_cons s4; obtain ⟨u6, t6, e6, s6⟩ := len_cons s5; obtain ⟨u7, t7, e7, s7⟩ := len_cons s6; obtain ⟨u8, t8, e8, s8⟩ := len_cons s7; obtain ⟨u9, t9, e9, s9⟩ := len_cons s8; obtain ⟨u10, t10, e10, s10⟩ := len_cons s9; obtain ⟨u11, t11, e11, s11⟩ := len_cons s10; obtain ⟨u12, t12, e12, s12⟩ := len_cons s11; obtain ⟨u13, t13, e13, s13⟩ := len_cons s12; obtain ⟨u14, t14, e14, s14⟩ := len_cons s13; obtain ⟨u15, t15, e15, s15⟩ := len_cons s14; obtain ⟨u16, t16, e16, s16⟩ := len_cons s15; obtain ⟨u17, t17, e17, s17⟩ := len_cons s16; obtain ⟨u18, t18, e18, s18⟩ := len_cons s17; obtain ⟨u19, t19, e19, s19⟩ := len_cons s18; obtain ⟨u20, t20, e20, s20⟩ := len_cons s19; obtain ⟨u21, t21, e21, s21⟩ := len_cons s20; obtain ⟨u22, t22, e22, s22⟩ := len_cons s21; obtain ⟨u23, t23, e23, s23⟩ := len_cons s22; obtain ⟨u24, t24, e24, s24⟩ := len_cons s23; obtain ⟨u25, t25, e25, s25⟩ := len_cons s24; obtain ⟨u26, t26, e26, s26⟩ := len_cons s25; obtain ⟨u27, t27, e27, s27⟩ := len_cons s26; obtain ⟨u28, t28, e28, s28⟩ := len_cons s27; obtain ⟨u29, t29, e29, s29⟩ := len_cons s28; obtain ⟨u30, t30, e30, s30⟩ := len_cons s29; obtain ⟨u31, t31, e31, s31⟩ := len_cons s30; obtain ⟨u32, t32, e32, s32⟩ := len_cons s31; obtain ⟨u33, t33, e33, s33⟩ := len_cons s32; obtain ⟨u34, t34, e34, s34⟩ := len_cons s33; obtain ⟨u35, t35, e35, s35⟩ := len_cons s34; obtain ⟨u36, t36, e36, s36⟩ := len_cons s35; obtain ⟨u37, t37, e37, s37⟩ := len_cons s36; obtain ⟨u38, t38, e38, s38⟩ := len_cons s37; obtain ⟨u39, t39, e39, s39⟩ := len_cons s38; obtain ⟨u40, t40, e40, s40⟩ := len_cons s39; obtain ⟨u41, t41, e41, s41⟩ := len_cons s40; obtain ⟨u42, t42, e42, s42⟩ := len_cons s41; obtain ⟨u43, t43, e43, s43⟩ := len_cons s42; obtain ⟨u44, t44, e44, s44⟩ := len_cons s43; obtain ⟨u45, t45, e45, s45⟩ := len_cons s44; obtain ⟨u46, t46, e46, s46⟩ := len_cons s45
        obtain rfl := len_nil s46
        clear hus s0 s1 s2 s3 s4 s5 s6 s7 s8 s9 s10 s11 s12 s13 s14 s15 s16 s17 s18 s19 s20 s21 s22 s23 s24 s25 s26 s27 s28 s29 s30 s31 s32 s33 s34 s35 s36 s37 s38 s39 s40 s41 s42 s43 s44 s45 s46
        subst e46 e45 e44 e43 e42 e41 e40 e39 e38 e37 e36 e35 e34 e33 e32 e31 e30 e29 e28 e27 e26 e25 e24 e23 e22 e21 e20 e19 e18 e17 e16 e15 e14 e13 e12 e11 e10 e9 e8 e7 e6 e5 e4 e3 e2 e1 e0
        have h42 : u42 = .string ⟨a0.data.toList.toArray⟩ := h 42 (by kernel_rfl)
        have h43 : u43 = .string a0 := h 43 (by kernel_rfl)
        have h37 : u37 = .bool true := h 37 (by kernel_rfl)
        clear h
        simp only [over, Act.put, List.setIfInBounds_toArray, List.set_cons_zero, List.set_cons_succ]
        subst h42
        subst h43
        subst h37
        have hw := HWQ.out
        go_wp2_with fail
        exact postK_normal ⟨_, rfl, rfl, Ext.refl _⟩
      refine AllSteps.cons (fun us hus w' x h => ?_) ?_
      · obtain ⟨u0, t0, e0, s0⟩ := len_cons hus; obtain ⟨u1, t1, e1, s1⟩ := len_cons s0; obtain ⟨u2, t2, e2, s2⟩ := len_cons s1; obtain ⟨u3, t3, e3, s3⟩ := len_cons s2; obtain ⟨u4, t4, e4, s4⟩ := len_cons s3; obtain ⟨u5, t5, e5, s5⟩ := len_cons s4; obtain ⟨u6, t6, e6, s6⟩ := len_cons s5; obtain ⟨u7, t7, e7, s7⟩ := len_cons s6; obtain ⟨u8, t8, e8, s8⟩ := len_cons s7; obtain ⟨u9, t9, e9, s9⟩ := len_cons s8; obtain ⟨u10, t10, e10, s10⟩ := len_cons s9; obtain ⟨u11, t11, e11, s11⟩ := len_cons s10; obtain ⟨u12, t12, e12, s12⟩ := len_cons s11; obtain ⟨u13, t13, e13, s13⟩ := len_cons s12; obtain ⟨u14, t14, e14, s14⟩ := len_cons s13; obtain ⟨u15, t15, e15, s15⟩ := len_cons s14; obtain ⟨u16, t16, e16, s16⟩ := len_cons s15; obtain ⟨u17, t17, e17, s17⟩ := len_cons s16; obtain ⟨u18, t18, e18, s18⟩ := len_cons s17; obtain ⟨u19, t19, e19, s19⟩ := len_cons s18; obtain ⟨u20, t20, e20, s20⟩ := len_cons s19; obtain ⟨u21, t21, e21, s21⟩ := len_cons s20; obtain ⟨u22, t22, e22, s22⟩ := len_cons s21; obtain ⟨u23, t23, e23, s23⟩ := len_cons s22; obtain ⟨u24, t24, e24, s24⟩ := len_cons s23; obtain ⟨u25, t25, e25, s25⟩ := len_cons s24; obtain ⟨u26, t26, e26, s26⟩ := len_cons s25; obtain ⟨u27, t27, e27, s27⟩ := len_cons s26; obtain ⟨u28, t28, e28, s28⟩ := len_cons s27; obtain ⟨u29, t29, e29, s29⟩ := len_cons s28; obtain ⟨u30, t30, e30, s30⟩ := len_cons s29; obtain ⟨u31, t31, e31, s31⟩ := len_cons s30; obtain ⟨u32, t32, e32, s32⟩ := len_cons s31; obtain ⟨u33, t33, e33, s33⟩ := len_cons s32; obtain ⟨u34, t34, e34, s34⟩ := len_cons s33; obtain ⟨u35, t35, e35, s35⟩ := len_cons s34; obtain ⟨u36, t36, e36, s36⟩ := len_cons s35; obtain ⟨u37, t37, e37, s37⟩ := len_cons s36; obtain ⟨u38, t38, e38, s38⟩ := len_cons s37; obtain ⟨u39, t39, e39, s39⟩ := len_cons s38; obtain ⟨u40, t40, e40, s40⟩ := len_cons s39; obtain ⟨u41, t41, e41, s41⟩ := len_cons s40; obtain ⟨u42, t42, e42, s42⟩ := len_cons s41; obtain ⟨u43, t43, e43, s43⟩ := len_cons s42; obtain ⟨u44, t44, e44, s44⟩ := len_cons s43; obtain ⟨u45, t45, e45, s45⟩ := len_cons s44; obtain ⟨u46, t46, e46, s46⟩ := len_cons s45
        obtain rfl := len_nil s46
        clear hus s0 s1 s2 s3 s4 s5 s6 s7 s8 s9 s10 s11 s12 s13 s14 s15 s16 s17 s18 s19 s20 s21 s22 s23 s24 s25 s26 s27 s28 s29 s30 s31 s32 s33 s34 s35 s36 s37 s38 s39 s40 s41 s42 s43 s44 s45 s46
        subst e46 e45 e44 e43 e42 e41 e40 e39 e38 e37 e36 e35 e34 e33 e32 e31 e30 e29 e28 e27 e26 e25 e24 e23 e22 e21 e20 e19 e18 e17 e16 e15 e14 e13 e12 e11 e10 e9 e8 e7 e6 e5 e4 e3 e2 e1 e0
        have h37 : u37 = .bool true := h 37 (by kernel_rfl)
        have h44 : u44 = .bool true := h 44 (by kernel_rfl)
        clear h
        simp only [over, Act.put, List.setIfInBounds_toArray, List.set_cons_zero, List.set_cons_succ]
        subst h37
        subst h44
        go_wp2_with fail
        exact postK_normal ⟨_, rfl, rfl, Ext.refl _⟩
      refine AllSteps.cons (fun us hus w' x h => ?_) ?_
      · obtain ⟨u0, t0, e0, s0⟩ := len_cons hus; obtain ⟨u1, t1, e1, s1⟩ := len_cons s0; obtain ⟨u2, t2, e2, s2⟩ := len_cons s1; obtain ⟨u3, t3, e3, s3⟩ := len_cons s2; obtain ⟨u4, t4, e4, s4⟩ := len_cons s3; obtain ⟨u5, t5, e5, s5⟩ := len_cons s4; obtain ⟨u6, t6, e6, s6⟩ := len_cons s5; obtain ⟨u7, t7, e7, s7⟩ := len_cons s6; obtain ⟨u8, t8, e8, s8⟩ := len_cons s7; obtain ⟨u9, t9, e9, s9⟩ := len_cons s8; obtain ⟨u10, t10, e10, s10⟩ := len_cons s9; obtain ⟨u11, t11, e11, s11⟩ := len_cons s10; obtain ⟨u12, t12, e12, s12⟩ := len_cons s11; obtain ⟨u13, t13, e13, s13⟩ := len_cons s12; obtain ⟨u14, t14, e14, s14⟩ := len_cons s13; obtain ⟨u15, t15, e15, s15⟩ := len_cons s14; obtain ⟨u16, t16, e16, s16⟩ := len_cons s15; obtain ⟨u17, t17, e17, s17⟩ := len_cons s16; obtain ⟨u18, t18, e18, s18⟩ := len_cons s17; obtain ⟨u19, t19, e19, s19⟩ := len_cons s18; obtain ⟨u20, t20, e20, s20⟩ := len_cons s19; obtain ⟨u21, t21, e21, s21⟩ := len_cons s20; obtain ⟨u22, t22, e22, s22⟩ := len_cons s21; obtain ⟨u23, t23, e23, s23⟩ := len_cons s22; obtain ⟨u24, t24, e24, s24⟩ := len_cons s23; obtain ⟨u25, t25, e25, s25⟩ := len_cons s24; obtain ⟨u26, t26, e26, s26⟩ := len_cons s25; obtain ⟨u27, t27, e27, s27⟩ := len_cons s26; obtain ⟨u28, t28, e28, s28⟩ := len_cons s27; obtain ⟨u29, t29, e29, s29⟩ := len_cons s28; obtain ⟨u30, t30, e30, s30⟩ := len_cons s29; obtain ⟨u31, t31, e31, s31⟩ := len_cons s30; obtain ⟨u32, t32, e32, s32⟩ := len_cons s31; obtain ⟨u33, t33, e33, s33⟩ := len_cons s32; obtain ⟨u34, t34, e34, s34⟩ := len_cons s33; obtain ⟨u35, t35, e35, s35⟩ := len_cons s34; obtain ⟨u36, t36, e36, s36⟩ := len_cons s35; obtain ⟨u37, t37, e37, s37⟩ := len_cons s36; obtain ⟨u38, t38, e38, s38⟩ := len_cons s37; obtain ⟨u39, t39, e39, s39⟩ := len_cons s38; obtain ⟨u40, t40, e40, s40⟩ := len_cons s39; obtain ⟨u41, t41, e41, s41⟩ := len_cons s40; obtain ⟨u42, t42, e42, s42⟩ := len_cons s41; obtain ⟨u43, t43, e43, s43⟩ := len_cons s42; obtain ⟨u44, t44, e44, s44⟩ := len_cons s43; obtain ⟨u45, t45, e45, s45⟩ := len_cons s44; obtain ⟨u46, t46, e46, s46⟩ := len_cons s45
        obtain rfl := len_nil s46
        clear hus s0 s1 s2 s3 s4 s5 s6 s7 s8 s9 s10 s11 s12 s13 s14 s15 s16 s17 s18 s19 s20 s21 s22 s23 s24 s25 s26 s27 s28 s29 s30 s31 s32 s33 s34 s35 s36 s37 s38 s39 s40 s41 s42 s43 s44 s45 s46
        subst e46 e45 e44 e43 e42 e41 e40 e39 e38 e37 e36 e35 e34 e33 e32 e31 e30 e29 e28 e27 e26 e25 e24 e23 e22 e21 e20 e19 e18 e17 e16 e15 e14 e13 e12 e11 e10 e9 e8 e7 e6 e5 e4 e3 e2 e1 e0
        have h45 : u45 = .bool true := h 45 (by kernel_rfl)
        clear h
        simp only [over, Act.put, List.setIfInBounds_toArray, List.set_cons_zero, List.set_cons_succ]
        subst h45
        go_wp2_with fail
        exact postK_normal ⟨_, rfl, rfl, Ext.refl _⟩
      exact AllSteps.nil
    case fin =>
      intro us hus w' x h
      obtain ⟨u0, t0, e0, s0⟩ := len_cons hus; obtain ⟨u1, t1, e1, s1⟩ := len_cons s0; obtain ⟨u2, t2, e2, s2⟩ := len_cons s1; obtain ⟨u3, t3, e3, s3⟩ := len_cons s2; obtain ⟨u4, t4, e4, s4⟩ := len_cons s3; obtain ⟨u5, t5, e5, s5⟩ := len_cons s4; obtain ⟨u6, t6, e6, s6⟩ := len_cons s5; obtain ⟨u7, t7, e7, s7⟩ := len_cons s6; obtain ⟨u8, t8, e8, s8⟩ := len_cons s7; obtain ⟨u9, t9, e9, s9⟩ := len_cons s8; obtain ⟨u10, t10, e10, s10⟩ := len_cons s9; obtain ⟨u11, t11, e11, s11⟩ := len_cons s10; obtain ⟨u12, t12, e12, s12⟩ := len_cons s11; obtain ⟨u13, t13, e13, s13⟩ := len_cons s12; obtain ⟨u14, t14, e14, s14⟩ := len_cons s13; obtain ⟨u15, t15, e15, s15⟩ := len_cons s14; obtain ⟨u16, t16, e16, s16⟩ := len_cons s15; obtain ⟨u17, t17, e17, s17⟩ := len_cons s16; obtain ⟨u18, t18, e18, s18⟩ := len_cons s17; obtain ⟨u19, t19, e19, s19⟩ := len_cons s18; obtain ⟨u20, t20, e20, s20⟩ := len_cons s19; obtain ⟨u21, t21, e21, s21⟩ := len_cons s20; obtain ⟨u22, t22, e22, s22⟩ := len_cons s21; obtain ⟨u23, t23, e23, s23⟩ := len_cons s22; obtain ⟨u24, t24, e24, s24⟩ := len_cons s23; obtain ⟨u25, t25, e25, s25⟩ := len_cons s24; obtain ⟨u26, t26, e26, s26⟩ := len_cons s25; obtain ⟨u27, t27, e27, s27⟩ := len_cons s26; obtain ⟨u28, t28, e28, s28⟩ := len_cons s27; obtain ⟨u29, t29, e29, s29⟩ := len_cons s28; obtain ⟨u30, t30, e30, s30⟩ := len_cons s29; obtain ⟨u31, t31, e31, s31⟩ := len_cons s30; obtain ⟨u32, t32, e32, s32⟩ := len_cons s31; obtain ⟨u33, t33, e33, s33⟩ := len_cons s32; obtain ⟨u34, t34, e34, s34⟩ := len_cons s33; obtain ⟨u35, t35, e35, s35⟩ := len_cons s34; obtain ⟨u36, t36, e36, s36⟩ := len_cons s35; obtain ⟨u37, t37, e37, s37⟩ := len_cons s36; obtain ⟨u38, t38, e38, s38⟩ := len_cons s37; obtain ⟨u39, t39, e39, s39⟩ := len_cons s38; obtain ⟨u40, t40, e40, s40⟩ := len_cons s39; obtain ⟨u41, t41, e41, s41⟩ := len_cons s40; obtain ⟨u42, t42, e42, s42⟩ := len_cons s41; obtain ⟨u43, t43, e43, s43⟩ := len_cons s42; obtain ⟨u44, t44, e44, s44⟩ := len_cons s43; obtain ⟨u45, t45, e45, s45⟩ := len_cons s44; obtain ⟨u46, t46, e46, s46⟩ := len_cons s45
      obtain rfl := len_nil s46
      clear hus s0 s1 s2 s3 s4 s5 s6 s7 s8 s9 s10 s11 s12 s13 s14 s15 s16 s17 s18 s19 s20 s21 s22 s23 s24 s25 s26 s27 s28 s29 s30 s31 s32 s33 s34 s35 s36 s37 s38 s39 s40 s41 s42 s43 s44 s45 s46
      subst e46 e45 e44 e43 e42 e41 e40 e39 e38 e37 e36 e35 e34 e33 e32 e31 e30 e29 e28 e27 e26 e25 e24 e23 e22 e21 e20 e19 e18 e17 e16 e15 e14 e13 e12 e11 e10 e9 e8 e7 e6 e5 e4 e3 e2 e1 e0
      have h46 : u46 = .bool true := h 46 (by decide)
      clear h
      subst h46
      simp only [over, Act.put, List.setIfInBounds_toArray, List.set_cons_zero, List.set_cons_succ]
      go_wp2_with fail
      go_meet
      exact ⟨rfl, x⟩
  case rest =>
    obtain ⟨rfl, x8⟩ := hcut
    go_wp2_with fail
    go_ret
    exact ⟨rfl, (X.trans x8).below⟩
end Go.Proofs.YtdlobdbclgcogaaDoor
