/- The walk of the law FnTrimAgain: it returns true. Printed by trims.py. -/
import Derived.Test.YtdlobdbclgcogaaDoorCutV
import Derived.Test.YtdlobdbclgcogaaDoorFuncW
import Derived.Test.YtdlobdbclgcogaaDoorMono
import Derived.Test.YtdlobdbclgcogaaDoorSpecText
import Derived.Deep.DeepCutAuto
namespace Go.Proofs.YtdlobdbclgcogaaDoor
open Go.RowKit

theorem trim_again (p : Int → Bool) (l : List UInt8) : tlB p (tlB p l) = tlB p l ∧ trB p (trB p l) = trB p l ∧ tB p (tB p l) = tB p l := by
  rcases trim_cases p l with ⟨_, h1, h2, h3⟩ | ⟨A, M, B, h⟩
  · rw [h1, h2, h3]; exact ⟨rfl, rfl, rfl⟩
  · rw [h.tl, h.tr, h.t]
    exact ⟨h.tl_tl, h.tr_tr, h.t_m⟩

set_option maxRecDepth 100000 in
set_option maxHeartbeats 8000000 in
theorem FnTrimAgain_walk (w : World) (hT : Tabs w) (a0 : ByteArray) (z0 : a0.size ≤ 140737488351232) (a1 : ByteArray) (z1 : a1.size ≤ 140737488351232) :
    Calls Tryd.prog 7 #[.string a0, .string a1] w fun e w' => e = .returned (.bool true) ∧ Below w.heap.size w w' := by
  have hmax : a0.size ≤ maxLen := by unfold maxLen; omega
  have LTL := tlB_len (inP a1.data.toList) a0.data.toList
  have LTR := trB_len (inP a1.data.toList) a0.data.toList
  have LTT := tB_len (inP a1.data.toList) a0.data.toList
  have ea : a0.data.toList.length = a0.size := rfl
  rw [ea] at LTL LTR LTT
  have PL := trim_again (inP a1.data.toList) a0.data.toList
  obtain ⟨TL, hTL⟩ : ∃ x, tlB (inP a1.data.toList) a0.data.toList = x := ⟨_, rfl⟩
  obtain ⟨TR, hTR⟩ : ∃ x, trB (inP a1.data.toList) a0.data.toList = x := ⟨_, rfl⟩
  obtain ⟨TT, hTT⟩ : ∃ x, tB (inP a1.data.toList) a0.data.toList = x := ⟨_, rfl⟩
  rw [hTL] at LTL
  rw [hTR] at LTR
  rw [hTT] at LTT
  simp only [hTL, hTR, hTT] at PL
  have HTL := Lib.hid hTL
  have HTR := Lib.hid hTR
  have HTT := Lib.hid hTT
  have ml : (⟨TL.toArray⟩ : ByteArray).size ≤ maxLen := by show TL.length ≤ _; unfold maxLen; omega
  have mr : (⟨TR.toArray⟩ : ByteArray).size ≤ maxLen := by show TR.length ≤ _; unfold maxLen; omega
  have mt : (⟨TT.toArray⟩ : ByteArray).size ≤ maxLen := by show TT.length ≤ _; unfold maxLen; omega
  have HT := Lib.hid hT
  clear hT hTL hTR hTT ea
  obtain ⟨p1, p2, p3⟩ := PL
  have HP1 := Lib.hid p1
  have HP2 := Lib.hid p2
  have HP3 := Lib.hid p3
  clear p1 p2 p3
  have hcat : (a0 ++ (⟨TT.toArray⟩ : ByteArray)).size ≤ maxLen := by rw [ByteArray.size_append]; show a0.size + TT.length ≤ _; unfold maxLen; omega
  have hcat2 : (a0.data.toList ++ TT).length ≤ 281474976710656 := by rw [List.length_append]; show a0.size + TT.length ≤ _; omega
  have HN := Lib.hid (show tB (inP (⟨#[]⟩ : ByteArray).data.toList) (a0.data.toList ++ TT) = a0.data.toList ++ TT from tB_never inP_nil _)
  have HC := Lib.hid hcat
  have HC2 := Lib.hid hcat2
  have hw1 : ((a0.data.toList ++ TT) == (a0 ++ (⟨TT.toArray⟩ : ByteArray)).toList) = true := by rw [ByteArray.toList_eq]; simp
  clear hcat hcat2
  go_enter Tryd.func7, Tryd.ntmps7
  go_upto_region 1 with fail
  go_cut [5, 6, 7] (fun s5 s6 s7 wx => s5 = .string ⟨TL.toArray⟩ ∧ s6 = .string ⟨TR.toArray⟩ ∧ s7 = .string ⟨TT.toArray⟩ ∧ Ext w wx)
  case first =>
    refine wp_region_mono (by kernel_rfl) [8, 9, 10, 11, 12, 13, 14, 15, 16, 17, 18, 19, 20, 21, 22, 5, 6, 7] (by kernel_rfl) (by decide) (by simp) (by kernel_rfl)
      (fun i => match i with | 0 => (fun v w => v = .string a0) | 1 => (fun v w => Bs w v a0.data.toList) | 2 => (fun v w => v = .string a1) | 3 => (fun v w => Bs w v TL) | 4 => (fun v w => v = .string ⟨TL.toArray⟩) | 5 => (fun v w => v = .string a0) | 6 => (fun v w => Bs w v a0.data.toList) | 7 => (fun v w => v = .string a1) | 8 => (fun v w => Bs w v TR) | 9 => (fun v w => v = .string ⟨TR.toArray⟩) | 10 => (fun v w => v = .string a0) | 11 => (fun v w => Bs w v a0.data.toList) | 12 => (fun v w => v = .string a1) | 13 => (fun v w => Bs w v TT) | 14 => (fun v w => v = .string ⟨TT.toArray⟩) | 15 => (fun v w => v = .string ⟨TL.toArray⟩) | 16 => (fun v w => v = .string ⟨TR.toArray⟩) | 17 => (fun v w => v = .string ⟨TT.toArray⟩) | _ => fun _ _ => True) ?stable ?steps ?fin
    case stable =>
      intro i v w' w'' h x
      match i, h with
      | 0, h => exact h
      | 1, h => exact (show Bs w' v a0.data.toList from h).ext x
      | 2, h => exact h
      | 3, h => exact (show Bs w' v TL from h).ext x
      | 4, h => exact h
      | 5, h => exact h
      | 6, h => exact (show Bs w' v a0.data.toList from h).ext x
      | 7, h => exact h
      | 8, h => exact (show Bs w' v TR from h).ext x
      | 9, h => exact h
      | 10, h => exact h
      | 11, h => exact (show Bs w' v a0.data.toList from h).ext x
      | 12, h => exact h
      | 13, h => exact (show Bs w' v TT from h).ext x
      | 14, h => exact h
      | 15, h => exact h
      | 16, h => exact h
      | 17, h => exact h
      | _ + 18, _ => trivial
    case steps =>
      refine AllSteps.cons (fun us hus w' x h => ?_) ?_
      · obtain ⟨u0, t0, e0, s0⟩ := len_cons hus; obtain ⟨u1, t1, e1, s1⟩ := len_cons s0; obtain ⟨u2, t2, e2, s2⟩ := len_cons s1; obtain ⟨u3, t3, e3, s3⟩ := len_cons s2; obtain ⟨u4, t4, e4, s4⟩ := len_cons s3; obtain ⟨u5, t5, e5, s5⟩ := len_cons s4; obtain ⟨u6, t6, e6, s6⟩ := len_cons s5; obtain ⟨u7, t7, e7, s7⟩ := len_cons s6; obtain ⟨u8, t8, e8, s8⟩ := len_cons s7; obtain ⟨u9, t9, e9, s9⟩ := len_cons s8; obtain ⟨u10, t10, e10, s10⟩ := len_cons s9; obtain ⟨u11, t11, e11, s11⟩ := len_cons s10; obtain ⟨u12, t12, e12, s12⟩ := len_cons s11; obtain ⟨u13, t13, e13, s13⟩ := len_cons s12; obtain ⟨u14, t14, e14, s14⟩ := len_cons s13; obtain ⟨u15, t15, e15, s15⟩ := len_cons s14; obtain ⟨u16, t16, e16, s16⟩ := len_cons s15; obtain ⟨u17, t17, e17, s17⟩ := len_cons s16
        obtain rfl := len_nil s17
        clear hus s0 s1 s2 s3 s4 s5 s6 s7 s8 s9 s10 s11 s12 s13 s14 s15 s16 s17
        subst e17 e16 e15 e14 e13 e12 e11 e10 e9 e8 e7 e6 e5 e4 e3 e2 e1 e0
        clear h
        simp only [over, Act.put, List.setIfInBounds_toArray, List.set_cons_zero, List.set_cons_succ]
        go_wp2_with fail
        exact postK_normal ⟨_, rfl, rfl, Ext.refl _⟩
      refine AllSteps.cons (fun us hus w' x h => ?_) ?_
      · obtain ⟨u0, t0, e0, s0⟩ := len_cons hus; obtain ⟨u1, t1, e1, s1⟩ := len_cons s0; obtain ⟨u2, t2, e2, s2⟩ := len_cons s1; obtain ⟨u3, t3, e3, s3⟩ := len_cons s2; obtain ⟨u4, t4, e4, s4⟩ := len_cons s3; obtain ⟨u5, t5, e5, s5⟩ := len_cons s4; obtain ⟨u6, t6, e6, s6⟩ := len_cons s5; obtain ⟨u7, t7, e7, s7⟩ := len_cons s6; obtain ⟨u8, t8, e8, s8⟩ := len_cons s7; obtain ⟨u9, t9, e9, s9⟩ := len_cons s8; obtain ⟨u10, t10, e10, s10⟩ := len_cons s9; obtain ⟨u11, t11, e11, s11⟩ := len_cons s10; obtain ⟨u12, t12, e12, s12⟩ := len_cons s11; obtain ⟨u13, t13, e13, s13⟩ := len_cons s12; obtain ⟨u14, t14, e14, s14⟩ := len_cons s13; obtain ⟨u15, t15, e15, s15⟩ := len_cons s14; obtain ⟨u16, t16, e16, s16⟩ := len_cons s15; obtain ⟨u17, t17, e17, s17⟩ := len_cons s16
        obtain rfl := len_nil s17
        clear hus s0 s1 s2 s3 s4 s5 s6 s7 s8 s9 s10 s11 s12 s13 s14 s15 s16 s17
        subst e17 e16 e15 e14 e13 e12 e11 e10 e9 e8 e7 e6 e5 e4 e3 e2 e1 e0
        have h0 : u0 = .string a0 := h 0 (by kernel_rfl)
        clear h
        simp only [over, Act.put, List.setIfInBounds_toArray, List.set_cons_zero, List.set_cons_succ]
        subst h0
        go_wp2_with (refine wpList_toBytes rfl 9 24 _ rfl 5 Tryd.underlying9 Tryd.underlying24 Tryd.underlying5 _ rfl hmax ?_)
        intro v5 w5 o5 x5
        go_wp2_with fail
        exact postK_normal ⟨_, rfl, o5.bs, x5⟩
      refine AllSteps.cons (fun us hus w' x h => ?_) ?_
      · obtain ⟨u0, t0, e0, s0⟩ := len_cons hus; obtain ⟨u1, t1, e1, s1⟩ := len_cons s0; obtain ⟨u2, t2, e2, s2⟩ := len_cons s1; obtain ⟨u3, t3, e3, s3⟩ := len_cons s2; obtain ⟨u4, t4, e4, s4⟩ := len_cons s3; obtain ⟨u5, t5, e5, s5⟩ := len_cons s4; obtain ⟨u6, t6, e6, s6⟩ := len_cons s5; obtain ⟨u7, t7, e7, s7⟩ := len_cons s6; obtain ⟨u8, t8, e8, s8⟩ := len_cons s7; obtain ⟨u9, t9, e9, s9⟩ := len_cons s8; obtain ⟨u10, t10, e10, s10⟩ := len_cons s9; obtain ⟨u11, t11, e11, s11⟩ := len_cons s10; obtain ⟨u12, t12, e12, s12⟩ := len_cons s11; obtain ⟨u13, t13, e13, s13⟩ := len_cons s12; obtain ⟨u14, t14, e14, s14⟩ := len_cons s13; obtain ⟨u15, t15, e15, s15⟩ := len_cons s14; obtain ⟨u16, t16, e16, s16⟩ := len_cons s15; obtain ⟨u17, t17, e17, s17⟩ := len_cons s16
        obtain rfl := len_nil s17
        clear hus s0 s1 s2 s3 s4 s5 s6 s7 s8 s9 s10 s11 s12 s13 s14 s15 s16 s17
        subst e17 e16 e15 e14 e13 e12 e11 e10 e9 e8 e7 e6 e5 e4 e3 e2 e1 e0
        clear h
        simp only [over, Act.put, List.setIfInBounds_toArray, List.set_cons_zero, List.set_cons_succ]
        go_wp2_with fail
        exact postK_normal ⟨_, rfl, rfl, Ext.refl _⟩
      refine AllSteps.cons (fun us hus w' x h => ?_) ?_
      · obtain ⟨u0, t0, e0, s0⟩ := len_cons hus; obtain ⟨u1, t1, e1, s1⟩ := len_cons s0; obtain ⟨u2, t2, e2, s2⟩ := len_cons s1; obtain ⟨u3, t3, e3, s3⟩ := len_cons s2; obtain ⟨u4, t4, e4, s4⟩ := len_cons s3; obtain ⟨u5, t5, e5, s5⟩ := len_cons s4; obtain ⟨u6, t6, e6, s6⟩ := len_cons s5; obtain ⟨u7, t7, e7, s7⟩ := len_cons s6; obtain ⟨u8, t8, e8, s8⟩ := len_cons s7; obtain ⟨u9, t9, e9, s9⟩ := len_cons s8; obtain ⟨u10, t10, e10, s10⟩ := len_cons s9; obtain ⟨u11, t11, e11, s11⟩ := len_cons s10; obtain ⟨u12, t12, e12, s12⟩ := len_cons s11; obtain ⟨u13, t13, e13, s13⟩ := len_cons s12; obtain ⟨u14, t14, e14, s14⟩ := len_cons s13; obtain ⟨u15, t15, e15, s15⟩ := len_cons s14; obtain ⟨u16, t16, e16, s16⟩ := len_cons s15; obtain ⟨u17, t17, e17, s17⟩ := len_cons s16
        obtain rfl := len_nil s17
        clear hus s0 s1 s2 s3 s4 s5 s6 s7 s8 s9 s10 s11 s12 s13 s14 s15 s16 s17
        subst e17 e16 e15 e14 e13 e12 e11 e10 e9 e8 e7 e6 e5 e4 e3 e2 e1 e0
        have h1 : Bs w' u1 a0.data.toList := h 1 (by kernel_rfl)
        have h2 : u2 = .string a1 := h 2 (by kernel_rfl)
        clear h
        simp only [over, Act.put, List.setIfInBounds_toArray, List.set_cons_zero, List.set_cons_succ]
        subst h2
        have c5 := impl_TrimLeft _ _ a1 _ h1 (HT.out.ext x) (by omega) (by show a0.size ≤ _; omega)
        rw [HTL.out] at c5
        go_wp2_with (go_at_call 22; refine c5.mono ?_)
        rintro _ w5 ⟨v5, rfl, o5, x5⟩
        go_wp2_with fail
        exact postK_normal ⟨_, rfl, o5.bs, x5⟩
      refine AllSteps.cons (fun us hus w' x h => ?_) ?_
      · obtain ⟨u0, t0, e0, s0⟩ := len_cons hus; obtain ⟨u1, t1, e1, s1⟩ := len_cons s0; obtain ⟨u2, t2, e2, s2⟩ := len_cons s1; obtain ⟨u3, t3, e3, s3⟩ := len_cons s2; obtain ⟨u4, t4, e4, s4⟩ := len_cons s3; obtain ⟨u5, t5, e5, s5⟩ := len_cons s4; obtain ⟨u6, t6, e6, s6⟩ := len_cons s5; obtain ⟨u7, t7, e7, s7⟩ := len_cons s6; obtain ⟨u8, t8, e8, s8⟩ := len_cons s7; obtain ⟨u9, t9, e9, s9⟩ := len_cons s8; obtain ⟨u10, t10, e10, s10⟩ := len_cons s9; obtain ⟨u11, t11, e11, s11⟩ := len_cons s10; obtain ⟨u12, t12, e12, s12⟩ := len_cons s11; obtain ⟨u13, t13, e13, s13⟩ := len_cons s12; obtain ⟨u14, t14, e14, s14⟩ := len_cons s13; obtain ⟨u15, t15, e15, s15⟩ := len_cons s14; obtain ⟨u16, t16, e16, s16⟩ := len_cons s15; obtain ⟨u17, t17, e17, s17⟩ := len_cons s16
        obtain rfl := len_nil s17
        clear hus s0 s1 s2 s3 s4 s5 s6 s7 s8 s9 s10 s11 s12 s13 s14 s15 s16 s17
        subst e17 e16 e15 e14 e13 e12 e11 e10 e9 e8 e7 e6 e5 e4 e3 e2 e1 e0
        have h3 : Bs w' u3 TL := h 3 (by kernel_rfl)
        clear h
        simp only [over, Act.put, List.setIfInBounds_toArray, List.set_cons_zero, List.set_cons_succ]
        go_wp2_with (refine wpList_toString rfl 24 9 _ rfl 5 Tryd.underlying24 Tryd.underlying5 Tryd.underlying9 _ _ rfl h3 ?_)
        exact postK_normal ⟨_, rfl, rfl, Ext.refl _⟩
      refine AllSteps.cons (fun us hus w' x h => ?_) ?_
      · obtain ⟨u0, t0, e0, s0⟩ := len_cons hus; obtain ⟨u1, t1, e1, s1⟩ := len_cons s0; obtain ⟨u2, t2, e2, s2⟩ := len_cons s1; obtain ⟨u3, t3, e3, s3⟩ := len_cons s2; obtain ⟨u4, t4, e4, s4⟩ := len_cons s3; obtain ⟨u5, t5, e5, s5⟩ := len_cons s4; obtain ⟨u6, t6, e6, s6⟩ := len_cons s5; obtain ⟨u7, t7, e7, s7⟩ := len_cons s6; obtain ⟨u8, t8, e8, s8⟩ := len_cons s7; obtain ⟨u9, t9, e9, s9⟩ := len_cons s8; obtain ⟨u10, t10, e10, s10⟩ := len_cons s9; obtain ⟨u11, t11, e11, s11⟩ := len_cons s10; obtain ⟨u12, t12, e12, s12⟩ := len_cons s11; obtain ⟨u13, t13, e13, s13⟩ := len_cons s12; obtain ⟨u14, t14, e14, s14⟩ := len_cons s13; obtain ⟨u15, t15, e15, s15⟩ := len_cons s14; obtain ⟨u16, t16, e16, s16⟩ := len_cons s15; obtain ⟨u17, t17, e17, s17⟩ := len_cons s16
        obtain rfl := len_nil s17
        clear hus s0 s1 s2 s3 s4 s5 s6 s7 s8 s9 s10 s11 s12 s13 s14 s15 s16 s17
        subst e17 e16 e15 e14 e13 e12 e11 e10 e9 e8 e7 e6 e5 e4 e3 e2 e1 e0
        clear h
        simp only [over, Act.put, List.setIfInBounds_toArray, List.set_cons_zero, List.set_cons_succ]
        go_wp2_with fail
        exact postK_normal ⟨_, rfl, rfl, Ext.refl _⟩
      refine AllSteps.cons (fun us hus w' x h => ?_) ?_
      · obtain ⟨u0, t0, e0, s0⟩ := len_cons hus; obtain ⟨u1, t1, e1, s1⟩ := len_cons s0; obtain ⟨u2, t2, e2, s2⟩ := len_cons s1; obtain ⟨u3, t3, e3, s3⟩ := len_cons s2; obtain ⟨u4, t4, e4, s4⟩ := len_cons s3; obtain ⟨u5, t5, e5, s5⟩ := len_cons s4; obtain ⟨u6, t6, e6, s6⟩ := len_cons s5; obtain ⟨u7, t7, e7, s7⟩ := len_cons s6; obtain ⟨u8, t8, e8, s8⟩ := len_cons s7; obtain ⟨u9, t9, e9, s9⟩ := len_cons s8; obtain ⟨u10, t10, e10, s10⟩ := len_cons s9; obtain ⟨u11, t11, e11, s11⟩ := len_cons s10; obtain ⟨u12, t12, e12, s12⟩ := len_cons s11; obtain ⟨u13, t13, e13, s13⟩ := len_cons s12; obtain ⟨u14, t14, e14, s14⟩ := len_cons s13; obtain ⟨u15, t15, e15, s15⟩ := len_cons s14; obtain ⟨u16, t16, e16, s16⟩ := len_cons s15; obtain ⟨u17, t17, e17, s17⟩ := len_cons s16
        obtain rfl := len_nil s17
        clear hus s0 s1 s2 s3 s4 s5 s6 s7 s8 s9 s10 s11 s12 s13 s14 s15 s16 s17
        subst e17 e16 e15 e14 e13 e12 e11 e10 e9 e8 e7 e6 e5 e4 e3 e2 e1 e0
        have h5 : u5 = .string a0 := h 5 (by kernel_rfl)
        clear h
        simp only [over, Act.put, List.setIfInBounds_toArray, List.set_cons_zero, List.set_cons_succ]
        subst h5
        go_wp2_with (refine wpList_toBytes rfl 9 24 _ rfl 5 Tryd.underlying9 Tryd.underlying24 Tryd.underlying5 _ rfl hmax ?_)
        intro v5 w5 o5 x5
        go_wp2_with fail
        exact postK_normal ⟨_, rfl, o5.bs, x5⟩
      refine AllSteps.cons (fun us hus w' x h => ?_) ?_
      · obtain ⟨u0, t0, e0, s0⟩ := len_cons hus; obtain ⟨u1, t1, e1, s1⟩ := len_cons s0; obtain ⟨u2, t2, e2, s2⟩ := len_cons s1; obtain ⟨u3, t3, e3, s3⟩ := len_cons s2; obtain ⟨u4, t4, e4, s4⟩ := len_cons s3; obtain ⟨u5, t5, e5, s5⟩ := len_cons s4; obtain ⟨u6, t6, e6, s6⟩ := len_cons s5; obtain ⟨u7, t7, e7, s7⟩ := len_cons s6; obtain ⟨u8, t8, e8, s8⟩ := len_cons s7; obtain ⟨u9, t9, e9, s9⟩ := len_cons s8; obtain ⟨u10, t10, e10, s10⟩ := len_cons s9; obtain ⟨u11, t11, e11, s11⟩ := len_cons s10; obtain ⟨u12, t12, e12, s12⟩ := len_cons s11; obtain ⟨u13, t13, e13, s13⟩ := len_cons s12; obtain ⟨u14, t14, e14, s14⟩ := len_cons s13; obtain ⟨u15, t15, e15, s15⟩ := len_cons s14; obtain ⟨u16, t16, e16, s16⟩ := len_cons s15; obtain ⟨u17, t17, e17, s17⟩ := len_cons s16
        obtain rfl := len_nil s17
        clear hus s0 s1 s2 s3 s4 s5 s6 s7 s8 s9 s10 s11 s12 s13 s14 s15 s16 s17
        subst e17 e16 e15 e14 e13 e12 e11 e10 e9 e8 e7 e6 e5 e4 e3 e2 e1 e0
        clear h
        simp only [over, Act.put, List.setIfInBounds_toArray, List.set_cons_zero, List.set_cons_succ]
        go_wp2_with fail
        exact postK_normal ⟨_, rfl, rfl, Ext.refl _⟩
      refine AllSteps.cons (fun us hus w' x h => ?_) ?_
      · obtain ⟨u0, t0, e0, s0⟩ := len_cons hus; obtain ⟨u1, t1, e1, s1⟩ := len_cons s0; obtain ⟨u2, t2, e2, s2⟩ := len_cons s1; obtain ⟨u3, t3, e3, s3⟩ := len_cons s2; obtain ⟨u4, t4, e4, s4⟩ := len_cons s3; obtain ⟨u5, t5, e5, s5⟩ := len_cons s4; obtain ⟨u6, t6, e6, s6⟩ := len_cons s5; obtain ⟨u7, t7, e7, s7⟩ := len_cons s6; obtain ⟨u8, t8, e8, s8⟩ := len_cons s7; obtain ⟨u9, t9, e9, s9⟩ := len_cons s8; obtain ⟨u10, t10, e10, s10⟩ := len_cons s9; obtain ⟨u11, t11, e11, s11⟩ := len_cons s10; obtain ⟨u12, t12, e12, s12⟩ := len_cons s11; obtain ⟨u13, t13, e13, s13⟩ := len_cons s12; obtain ⟨u14, t14, e14, s14⟩ := len_cons s13; obtain ⟨u15, t15, e15, s15⟩ := len_cons s14; obtain ⟨u16, t16, e16, s16⟩ := len_cons s15; obtain ⟨u17, t17, e17, s17⟩ := len_cons s16
        obtain rfl := len_nil s17
        clear hus s0 s1 s2 s3 s4 s5 s6 s7 s8 s9 s10 s11 s12 s13 s14 s15 s16 s17
        subst e17 e16 e15 e14 e13 e12 e11 e10 e9 e8 e7 e6 e5 e4 e3 e2 e1 e0
        have h6 : Bs w' u6 a0.data.toList := h 6 (by kernel_rfl)
        have h7 : u7 = .string a1 := h 7 (by kernel_rfl)
        clear h
        simp only [over, Act.put, List.setIfInBounds_toArray, List.set_cons_zero, List.set_cons_succ]
        subst h7
        have c5 := impl_TrimRight _ _ a1 _ h6 (HT.out.ext x) (by omega) (by show a0.size ≤ _; omega)
        rw [HTR.out] at c5
        go_wp2_with (go_at_call 27; refine c5.mono ?_)
        rintro _ w5 ⟨v5, rfl, o5, x5⟩
        go_wp2_with fail
        exact postK_normal ⟨_, rfl, o5.bs, x5⟩
      refine AllSteps.cons (fun us hus w' x h => ?_) ?_
      · obtain ⟨u0, t0, e0, s0⟩ := len_cons hus; obtain ⟨u1, t1, e1, s1⟩ := len_cons s0; obtain ⟨u2, t2, e2, s2⟩ := len_cons s1; obtain ⟨u3, t3, e3, s3⟩ := len_cons s2; obtain ⟨u4, t4, e4, s4⟩ := len_cons s3; obtain ⟨u5, t5, e5, s5⟩ := len_cons s4; obtain ⟨u6, t6, e6, s6⟩ := len_cons s5; obtain ⟨u7, t7, e7, s7⟩ := len_cons s6; obtain ⟨u8, t8, e8, s8⟩ := len_cons s7; obtain ⟨u9, t9, e9, s9⟩ := len_cons s8; obtain ⟨u10, t10, e10, s10⟩ := len_cons s9; obtain ⟨u11, t11, e11, s11⟩ := len_cons s10; obtain ⟨u12, t12, e12, s12⟩ := len_cons s11; obtain ⟨u13, t13, e13, s13⟩ := len_cons s12; obtain ⟨u14, t14, e14, s14⟩ := len_cons s13; obtain ⟨u15, t15, e15, s15⟩ := len_cons s14; obtain ⟨u16, t16, e16, s16⟩ := len_cons s15; obtain ⟨u17, t17, e17, s17⟩ := len_cons s16
        obtain rfl := len_nil s17
        clear hus s0 s1 s2 s3 s4 s5 s6 s7 s8 s9 s10 s11 s12 s13 s14 s15 s16 s17
        subst e17 e16 e15 e14 e13 e12 e11 e10 e9 e8 e7 e6 e5 e4 e3 e2 e1 e0
        have h8 : Bs w' u8 TR := h 8 (by kernel_rfl)
        clear h
        simp only [over, Act.put, List.setIfInBounds_toArray, List.set_cons_zero, List.set_cons_succ]
        go_wp2_with (refine wpList_toString rfl 24 9 _ rfl 5 Tryd.underlying24 Tryd.underlying5 Tryd.underlying9 _ _ rfl h8 ?_)
        exact postK_normal ⟨_, rfl, rfl, Ext.refl _⟩
      refine AllSteps.cons (fun us hus w' x h => ?_) ?_
      · obtain ⟨u0, t0, e0, s0⟩ := len_cons hus; obtain ⟨u1, t1, e1, s1⟩ := len_cons s0; obtain ⟨u2, t2, e2, s2⟩ := len_cons s1; obtain ⟨u3, t3, e3, s3⟩ := len_cons s2; obtain ⟨u4, t4, e4, s4⟩ := len_cons s3; obtain ⟨u5, t5, e5, s5⟩ := len_cons s4; obtain ⟨u6, t6, e6, s6⟩ := len_cons s5; obtain ⟨u7, t7, e7, s7⟩ := len_cons s6; obtain ⟨u8, t8, e8, s8⟩ := len_cons s7; obtain ⟨u9, t9, e9, s9⟩ := len_cons s8; obtain ⟨u10, t10, e10, s10⟩ := len_cons s9; obtain ⟨u11, t11, e11, s11⟩ := len_cons s10; obtain ⟨u12, t12, e12, s12⟩ := len_cons s11; obtain ⟨u13, t13, e13, s13⟩ := len_cons s12; obtain ⟨u14, t14, e14, s14⟩ := len_cons s13; obtain ⟨u15, t15, e15, s15⟩ := len_cons s14; obtain ⟨u16, t16, e16, s16⟩ := len_cons s15; obtain ⟨u17, t17, e17, s17⟩ := len_cons s16
        obtain rfl := len_nil s17
        clear hus s0 s1 s2 s3 s4 s5 s6 s7 s8 s9 s10 s11 s12 s13 s14 s15 s16 s17
        subst e17 e16 e15 e14 e13 e12 e11 e10 e9 e8 e7 e6 e5 e4 e3 e2 e1 e0
        clear h
        simp only [over, Act.put, List.setIfInBounds_toArray, List.set_cons_zero, List.set_cons_succ]
        go_wp2_with fail
        exact postK_normal ⟨_, rfl, rfl, Ext.refl _⟩
      refine AllSteps.cons (fun us hus w' x h => ?_) ?_
      · obtain ⟨u0, t0, e0, s0⟩ := len_cons hus; obtain ⟨u1, t1, e1, s1⟩ := len_cons s0; obtain ⟨u2, t2, e2, s2⟩ := len_cons s1; obtain ⟨u3, t3, e3, s3⟩ := len_cons s2; obtain ⟨u4, t4, e4, s4⟩ := len_cons s3; obtain ⟨u5, t5, e5, s5⟩ := len_cons s4; obtain ⟨u6, t6, e6, s6⟩ := len_cons s5; obtain ⟨u7, t7, e7, s7⟩ := len_cons s6; obtain ⟨u8, t8, e8, s8⟩ := len_cons s7; obtain ⟨u9, t9, e9, s9⟩ := len_cons s8; obtain ⟨u10, t10, e10, s10⟩ := len_cons s9; obtain ⟨u11, t11, e11, s11⟩ := len_cons s10; obtain ⟨u12, t12, e12, s12⟩ := len_cons s11; obtain ⟨u13, t13, e13, s13⟩ := len_cons s12; obtain ⟨u14, t14, e14, s14⟩ := len_cons s13; obtain ⟨u15, t15, e15, s15⟩ := len_cons s14; obtain ⟨u16, t16, e16, s16⟩ := len_cons s15; obtain ⟨u17, t17, e17, s17⟩ := len_cons s16
        obtain rfl := len_nil s17
        clear hus s0 s1 s2 s3 s4 s5 s6 s7 s8 s9 s10 s11 s12 s13 s14 s15 s16 s17
        subst e17 e16 e15 e14 e13 e12 e11 e10 e9 e8 e7 e6 e5 e4 e3 e2 e1 e0
        have h10 : u10 = .string a0 := h 10 (by kernel_rfl)
        clear h
        simp only [over, Act.put, List.setIfInBounds_toArray, List.set_cons_zero, List.set_cons_succ]
        subst h10
        go_wp2_with (refine wpList_toBytes rfl 9 24 _ rfl 5 Tryd.underlying9 Tryd.underlying24 Tryd.underlying5 _ rfl hmax ?_)
        intro v5 w5 o5 x5
        go_wp2_with fail
        exact postK_normal ⟨_, rfl, o5.bs, x5⟩
      refine AllSteps.cons (fun us hus w' x h => ?_) ?_
      · obtain ⟨u0, t0, e0, s0⟩ := len_cons hus; obtain ⟨u1, t1, e1, s1⟩ := len_cons s0; obtain ⟨u2, t2, e2, s2⟩ := len_cons s1; obtain ⟨u3, t3, e3, s3⟩ := len_cons s2; obtain ⟨u4, t4, e4, s4⟩ := len_cons s3; obtain ⟨u5, t5, e5, s5⟩ := len_cons s4; obtain ⟨u6, t6, e6, s6⟩ := len_cons s5; obtain ⟨u7, t7, e7, s7⟩ := len_cons s6; obtain ⟨u8, t8, e8, s8⟩ := len_cons s7; obtain ⟨u9, t9, e9, s9⟩ := len_cons s8; obtain ⟨u10, t10, e10, s10⟩ := len_cons s9; obtain ⟨u11, t11, e11, s11⟩ := len_cons s10; obtain ⟨u12, t12, e12, s12⟩ := len_cons s11; obtain ⟨u13, t13, e13, s13⟩ := len_cons s12; obtain ⟨u14, t14, e14, s14⟩ := len_cons s13; obtain ⟨u15, t15, e15, s15⟩ := len_cons s14; obtain ⟨u16, t16, e16, s16⟩ := len_cons s15; obtain ⟨u17, t17, e17, s17⟩ := len_cons s16
        obtain rfl := len_nil s17
        clear hus s0 s1 s2 s3 s4 s5 s6 s7 s8 s9 s10 s11 s12 s13 s14 s15 s16 s17
        subst e17 e16 e15 e14 e13 e12 e11 e10 e9 e8 e7 e6 e5 e4 e3 e2 e1 e0
        clear h
        simp only [over, Act.put, List.setIfInBounds_toArray, List.set_cons_zero, List.set_cons_succ]
        go_wp2_with fail
        exact postK_normal ⟨_, rfl, rfl, Ext.refl _⟩
      refine AllSteps.cons (fun us hus w' x h => ?_) ?_
      · obtain ⟨u0, t0, e0, s0⟩ := len_cons hus; obtain ⟨u1, t1, e1, s1⟩ := len_cons s0; obtain ⟨u2, t2, e2, s2⟩ := len_cons s1; obtain ⟨u3, t3, e3, s3⟩ := len_cons s2; obtain ⟨u4, t4, e4, s4⟩ := len_cons s3; obtain ⟨u5, t5, e5, s5⟩ := len_cons s4; obtain ⟨u6, t6, e6, s6⟩ := len_cons s5; obtain ⟨u7, t7, e7, s7⟩ := len_cons s6; obtain ⟨u8, t8, e8, s8⟩ := len_cons s7; obtain ⟨u9, t9, e9, s9⟩ := len_cons s8; obtain ⟨u10, t10, e10, s10⟩ := len_cons s9; obtain ⟨u11, t11, e11, s11⟩ := len_cons s10; obtain ⟨u12, t12, e12, s12⟩ := len_cons s11; obtain ⟨u13, t13, e13, s13⟩ := len_cons s12; obtain ⟨u14, t14, e14, s14⟩ := len_cons s13; obtain ⟨u15, t15, e15, s15⟩ := len_cons s14; obtain ⟨u16, t16, e16, s16⟩ := len_cons s15; obtain ⟨u17, t17, e17, s17⟩ := len_cons s16
        obtain rfl := len_nil s17
        clear hus s0 s1 s2 s3 s4 s5 s6 s7 s8 s9 s10 s11 s12 s13 s14 s15 s16 s17
        subst e17 e16 e15 e14 e13 e12 e11 e10 e9 e8 e7 e6 e5 e4 e3 e2 e1 e0
        have h11 : Bs w' u11 a0.data.toList := h 11 (by kernel_rfl)
        have h12 : u12 = .string a1 := h 12 (by kernel_rfl)
        clear h
        simp only [over, Act.put, List.setIfInBounds_toArray, List.set_cons_zero, List.set_cons_succ]
        subst h12
        have c5 := impl_Trim _ _ a1 _ h11 (HT.out.ext x) (by omega) (by show a0.size ≤ _; omega)
        rw [HTT.out] at c5
        go_wp2_with (go_at_call 29; refine c5.mono ?_)
        rintro _ w5 ⟨v5, rfl, o5, x5⟩
        go_wp2_with fail
        exact postK_normal ⟨_, rfl, o5.bs, x5⟩
      refine AllSteps.cons (fun us hus w' x h => ?_) ?_
      · obtain ⟨u0, t0, e0, s0⟩ := len_cons hus; obtain ⟨u1, t1, e1, s1⟩ := len_cons s0; obtain ⟨u2, t2, e2, s2⟩ := len_cons s1; obtain ⟨u3, t3, e3, s3⟩ := len_cons s2; obtain ⟨u4, t4, e4, s4⟩ := len_cons s3; obtain ⟨u5, t5, e5, s5⟩ := len_cons s4; obtain ⟨u6, t6, e6, s6⟩ := len_cons s5; obtain ⟨u7, t7, e7, s7⟩ := len_cons s6; obtain ⟨u8, t8, e8, s8⟩ := len_cons s7; obtain ⟨u9, t9, e9, s9⟩ := len_cons s8; obtain ⟨u10, t10, e10, s10⟩ := len_cons s9; obtain ⟨u11, t11, e11, s11⟩ := len_cons s10; obtain ⟨u12, t12, e12, s12⟩ := len_cons s11; obtain ⟨u13, t13, e13, s13⟩ := len_cons s12; obtain ⟨u14, t14, e14, s14⟩ := len_cons s13; obtain ⟨u15, t15, e15, s15⟩ := len_cons s14; obtain ⟨u16, t16, e16, s16⟩ := len_cons s15; obtain ⟨u17, t17, e17, s17⟩ := len_cons s16
        obtain rfl := len_nil s17
        clear hus s0 s1 s2 s3 s4 s5 s6 s7 s8 s9 s10 s11 s12 s13 s14 s15 s16 s17
        subst e17 e16 e15 e14 e13 e12 e11 e10 e9 e8 e7 e6 e5 e4 e3 e2 e1 e0
        have h13 : Bs w' u13 TT := h 13 (by kernel_rfl)
        clear h
        simp only [over, Act.put, List.setIfInBounds_toArray, List.set_cons_zero, List.set_cons_succ]
        go_wp2_with (refine wpList_toString rfl 24 9 _ rfl 5 Tryd.underlying24 Tryd.underlying5 Tryd.underlying9 _ _ rfl h13 ?_)
        exact postK_normal ⟨_, rfl, rfl, Ext.refl _⟩
      refine AllSteps.cons (fun us hus w' x h => ?_) ?_
      · obtain ⟨u0, t0, e0, s0⟩ := len_cons hus; obtain ⟨u1, t1, e1, s1⟩ := len_cons s0; obtain ⟨u2, t2, e2, s2⟩ := len_cons s1; obtain ⟨u3, t3, e3, s3⟩ := len_cons s2; obtain ⟨u4, t4, e4, s4⟩ := len_cons s3; obtain ⟨u5, t5, e5, s5⟩ := len_cons s4; obtain ⟨u6, t6, e6, s6⟩ := len_cons s5; obtain ⟨u7, t7, e7, s7⟩ := len_cons s6; obtain ⟨u8, t8, e8, s8⟩ := len_cons s7; obtain ⟨u9, t9, e9, s9⟩ := len_cons s8; obtain ⟨u10, t10, e10, s10⟩ := len_cons s9; obtain ⟨u11, t11, e11, s11⟩ := len_cons s10; obtain ⟨u12, t12, e12, s12⟩ := len_cons s11; obtain ⟨u13, t13, e13, s13⟩ := len_cons s12; obtain ⟨u14, t14, e14, s14⟩ := len_cons s13; obtain ⟨u15, t15, e15, s15⟩ := len_cons s14; obtain ⟨u16, t16, e16, s16⟩ := len_cons s15; obtain ⟨u17, t17, e17, s17⟩ := len_cons s16
        obtain rfl := len_nil s17
        clear hus s0 s1 s2 s3 s4 s5 s6 s7 s8 s9 s10 s11 s12 s13 s14 s15 s16 s17
        subst e17 e16 e15 e14 e13 e12 e11 e10 e9 e8 e7 e6 e5 e4 e3 e2 e1 e0
        have h4 : u4 = .string ⟨TL.toArray⟩ := h 4 (by kernel_rfl)
        clear h
        simp only [over, Act.put, List.setIfInBounds_toArray, List.set_cons_zero, List.set_cons_succ]
        subst h4
        go_wp2_with fail
        exact postK_normal ⟨_, rfl, rfl, Ext.refl _⟩
      refine AllSteps.cons (fun us hus w' x h => ?_) ?_
      · obtain ⟨u0, t0, e0, s0⟩ := len_cons hus; obtain ⟨u1, t1, e1, s1⟩ := len_cons s0; obtain ⟨u2, t2, e2, s2⟩ := len_cons s1; obtain ⟨u3, t3, e3, s3⟩ := len_cons s2; obtain ⟨u4, t4, e4, s4⟩ := len_cons s3; obtain ⟨u5, t5, e5, s5⟩ := len_cons s4; obtain ⟨u6, t6, e6, s6⟩ := len_cons s5; obtain ⟨u7, t7, e7, s7⟩ := len_cons s6; obtain ⟨u8, t8, e8, s8⟩ := len_cons s7; obtain ⟨u9, t9, e9, s9⟩ := len_cons s8; obtain ⟨u10, t10, e10, s10⟩ := len_cons s9; obtain ⟨u11, t11, e11, s11⟩ := len_cons s10; obtain ⟨u12, t12, e12, s12⟩ := len_cons s11; obtain ⟨u13, t13, e13, s13⟩ := len_cons s12; obtain ⟨u14, t14, e14, s14⟩ := len_cons s13; obtain ⟨u15, t15, e15, s15⟩ := len_cons s14; obtain ⟨u16, t16, e16, s16⟩ := len_cons s15; obtain ⟨u17, t17, e17, s17⟩ := len_cons s16
        obtain rfl := len_nil s17
        clear hus s0 s1 s2 s3 s4 s5 s6 s7 s8 s9 s10 s11 s12 s13 s14 s15 s16 s17
        subst e17 e16 e15 e14 e13 e12 e11 e10 e9 e8 e7 e6 e5 e4 e3 e2 e1 e0
        have h9 : u9 = .string ⟨TR.toArray⟩ := h 9 (by kernel_rfl)
        clear h
        simp only [over, Act.put, List.setIfInBounds_toArray, List.set_cons_zero, List.set_cons_succ]
        subst h9
        go_wp2_with fail
        exact postK_normal ⟨_, rfl, rfl, Ext.refl _⟩
      refine AllSteps.cons (fun us hus w' x h => ?_) ?_
      · obtain ⟨u0, t0, e0, s0⟩ := len_cons hus; obtain ⟨u1, t1, e1, s1⟩ := len_cons s0; obtain ⟨u2, t2, e2, s2⟩ := len_cons s1; obtain ⟨u3, t3, e3, s3⟩ := len_cons s2; obtain ⟨u4, t4, e4, s4⟩ := len_cons s3; obtain ⟨u5, t5, e5, s5⟩ := len_cons s4; obtain ⟨u6, t6, e6, s6⟩ := len_cons s5; obtain ⟨u7, t7, e7, s7⟩ := len_cons s6; obtain ⟨u8, t8, e8, s8⟩ := len_cons s7; obtain ⟨u9, t9, e9, s9⟩ := len_cons s8; obtain ⟨u10, t10, e10, s10⟩ := len_cons s9; obtain ⟨u11, t11, e11, s11⟩ := len_cons s10; obtain ⟨u12, t12, e12, s12⟩ := len_cons s11; obtain ⟨u13, t13, e13, s13⟩ := len_cons s12; obtain ⟨u14, t14, e14, s14⟩ := len_cons s13; obtain ⟨u15, t15, e15, s15⟩ := len_cons s14; obtain ⟨u16, t16, e16, s16⟩ := len_cons s15; obtain ⟨u17, t17, e17, s17⟩ := len_cons s16
        obtain rfl := len_nil s17
        clear hus s0 s1 s2 s3 s4 s5 s6 s7 s8 s9 s10 s11 s12 s13 s14 s15 s16 s17
        subst e17 e16 e15 e14 e13 e12 e11 e10 e9 e8 e7 e6 e5 e4 e3 e2 e1 e0
        have h14 : u14 = .string ⟨TT.toArray⟩ := h 14 (by kernel_rfl)
        clear h
        simp only [over, Act.put, List.setIfInBounds_toArray, List.set_cons_zero, List.set_cons_succ]
        subst h14
        go_wp2_with fail
        exact postK_normal ⟨_, rfl, rfl, Ext.refl _⟩
      exact AllSteps.nil
    case fin =>
      intro us hus w' x h
      obtain ⟨u0, t0, e0, s0⟩ := len_cons hus; obtain ⟨u1, t1, e1, s1⟩ := len_cons s0; obtain ⟨u2, t2, e2, s2⟩ := len_cons s1; obtain ⟨u3, t3, e3, s3⟩ := len_cons s2; obtain ⟨u4, t4, e4, s4⟩ := len_cons s3; obtain ⟨u5, t5, e5, s5⟩ := len_cons s4; obtain ⟨u6, t6, e6, s6⟩ := len_cons s5; obtain ⟨u7, t7, e7, s7⟩ := len_cons s6; obtain ⟨u8, t8, e8, s8⟩ := len_cons s7; obtain ⟨u9, t9, e9, s9⟩ := len_cons s8; obtain ⟨u10, t10, e10, s10⟩ := len_cons s9; obtain ⟨u11, t11, e11, s11⟩ := len_cons s10; obtain ⟨u12, t12, e12, s12⟩ := len_cons s11; obtain ⟨u13, t13, e13, s13⟩ := len_cons s12; obtain ⟨u14, t14, e14, s14⟩ := len_cons s13; obtain ⟨u15, t15, e15, s15⟩ := len_cons s14; obtain ⟨u16, t16, e16, s16⟩ := len_cons s15; obtain ⟨u17, t17, e17, s17⟩ := len_cons s16
      obtain rfl := len_nil s17
      clear hus s0 s1 s2 s3 s4 s5 s6 s7 s8 s9 s10 s11 s12 s13 s14 s15 s16 s17
      subst e17 e16 e15 e14 e13 e12 e11 e10 e9 e8 e7 e6 e5 e4 e3 e2 e1 e0
      have h15 : u15 = .string ⟨TL.toArray⟩ := h 15 (by decide)
      have h16 : u16 = .string ⟨TR.toArray⟩ := h 16 (by decide)
      have h17 : u17 = .string ⟨TT.toArray⟩ := h 17 (by decide)
      clear h
      subst h15 h16 h17
      simp only [over, Act.put, List.setIfInBounds_toArray, List.set_cons_zero, List.set_cons_succ]
      go_wp2_with fail
      go_meet
      exact ⟨rfl, rfl, rfl, x⟩
  case rest =>
    obtain ⟨rfl, rfl, rfl, X⟩ := hcut
    go_wp2_with (refine wpList_toBytes rfl 9 24 _ rfl 5 Tryd.underlying9 Tryd.underlying24 Tryd.underlying5 _ rfl ml ?_)
    intro v4 w4 o4 x4
    replace X := X.trans x4
    replace o4 := o4.bs
    have p4 : Bs _ _ TL := o4
    replace o4 := p4
    clear p4
    have c5 := impl_TrimLeft _ _ a1 _ o4 (HT.out.ext X) (by omega) (by omega)
    rw [HP1.out] at c5
    go_wp2_with (go_at_call 22; refine c5.mono ?_)
    rintro _ w5 ⟨v5, rfl, o5, x5⟩
    replace X := X.trans x5
    replace o5 := o5.bs
    go_wp2_with (first | (refine wpList_toString rfl 24 9 _ rfl 5 Tryd.underlying24 Tryd.underlying5 Tryd.underlying9 _ _ rfl o5 ?_) | (refine wpList_toBytes rfl 9 24 _ rfl 5 Tryd.underlying9 Tryd.underlying24 Tryd.underlying5 _ rfl mr ?_))
    intro v6 w6 o6 x6
    replace X := X.trans x6
    replace o6 := o6.bs
    have p6 : Bs _ _ TR := o6
    replace o6 := p6
    clear p6
    have c7 := impl_TrimRight _ _ a1 _ o6 (HT.out.ext X) (by omega) (by omega)
    rw [HP2.out] at c7
    go_wp2_with (go_at_call 27; refine c7.mono ?_)
    rintro _ w7 ⟨v7, rfl, o7, x7⟩
    replace X := X.trans x7
    replace o7 := o7.bs
    go_wp2_with (first | (refine wpList_toString rfl 24 9 _ rfl 5 Tryd.underlying24 Tryd.underlying5 Tryd.underlying9 _ _ rfl o7 ?_) | (refine wpList_toBytes rfl 9 24 _ rfl 5 Tryd.underlying9 Tryd.underlying24 Tryd.underlying5 _ rfl mt ?_))
    intro v8 w8 o8 x8
    replace X := X.trans x8
    replace o8 := o8.bs
    have p8 : Bs _ _ TT := o8
    replace o8 := p8
    clear p8
    have c9 := impl_Trim _ _ a1 _ o8 (HT.out.ext X) (by omega) (by omega)
    rw [HP3.out] at c9
    go_wp2_with (go_at_call 29; refine c9.mono ?_)
    rintro _ w9 ⟨v9, rfl, o9, x9⟩
    replace X := X.trans x9
    replace o9 := o9.bs
    go_wp2_with (first | (refine wpList_toString rfl 24 9 _ rfl 5 Tryd.underlying24 Tryd.underlying5 Tryd.underlying9 _ _ rfl o9 ?_) | (refine wpList_toBytes rfl 9 24 _ rfl 5 Tryd.underlying9 Tryd.underlying24 Tryd.underlying5 _ rfl HC.out ?_))
    intro v10 w10 o10 x10
    replace X := X.trans x10
    replace o10 := o10.bs
    have c11 := impl_TrimV _ _ ⟨#[]⟩ _ o10 (HT.out.ext X) (by decide) (HC2.out)
    rw [HN.out] at c11
    go_wp2_with (go_at_call 29; refine c11.mono ?_)
    rintro _ w11 ⟨v11, rfl, o11, x11⟩
    replace X := X.trans x11
    replace o11 := o11.bs
    go_wp2_with (refine wpList_toString rfl 24 9 _ rfl 5 Tryd.underlying24 Tryd.underlying5 Tryd.underlying9 _ _ rfl o11 ?_)
    go_ret
    exact ⟨rfl, X.below⟩
end Go.Proofs.YtdlobdbclgcogaaDoor
