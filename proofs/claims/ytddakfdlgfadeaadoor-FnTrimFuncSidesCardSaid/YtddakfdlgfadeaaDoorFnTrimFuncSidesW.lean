/- The walk of the law FnTrimFuncSides: it returns true for every input. -/
import Derived.Test.YtddakfdlgfadeaaDoorAppV
import Derived.Test.YtddakfdlgfadeaaDoorTrimP
import Derived.Test.YtddakfdlgfadeaaDoorMono
import Derived.Deep.DeepCutAuto
namespace Go.Proofs.YtddakfdlgfadeaaDoor
open Go.RowKit
set_option maxRecDepth 100000 in
set_option maxHeartbeats 8000000 in
theorem FnTrimFuncSides_walk (w : World) (hT : Tabs w) (a0 : ByteArray) (z0 : a0.size ≤ 140737488351232) (v1 : Value) (rs : List Int) (b1 : Is w v1 rs) (z1 : rs.length ≤ 35184372087808) (nt : Bool) :
    Calls Tryd.prog 12 #[.string a0, v1, .bool nt] w fun e w' => e = .returned (.bool true) ∧ Below w.heap.size w w' := by
  have hmax : a0.size ≤ maxLen := by unfold maxLen; omega
  have hz2 : rs.length ≤ 35184372088832 := by omega
  go_enter Tryd.func12, Tryd.ntmps12
  go_wp2_with (go_at_call 22; refine (laws_test _ rs _ _ b1 hz2).mono ?_)
  rintro _ w2 ⟨v2, rfl, i2, x2⟩
  replace b1 := b1.ext x2
  go_wp2_with (go_at_call 22; refine (laws_test _ rs _ _ b1 hz2).mono ?_)
  rintro _ w3 ⟨v3, rfl, i3, x3⟩
  obtain ⟨a2, c2, rfl, _, _, _⟩ := i2.raw
  obtain ⟨a3, c3, rfl, _, _, _⟩ := i3.raw
  replace i2 := i2.ext x3
  have X3 := x2.trans x3
  replace hT := hT.ext X3
  clear x2 x3 b1
  go_upto_region 2 with fail
  obtain ⟨n, hn⟩ : ∃ n, w3.heap.size = n := ⟨_, rfl⟩
  have x4 : Ext w3 ((w3.alloc (.cells #[.slice a2 rs.length c2, .bool nt] 29)).alloc (.cells #[.slice a3 rs.length c3, .bool !nt] 29)) := (Ext.alloc _ _).trans (Ext.alloc _ _)
  have f0 : ((w3.alloc (.cells #[.slice a2 rs.length c2, .bool nt] 29)).alloc (.cells #[.slice a3 rs.length c3, .bool !nt] 29)).cell? ⟨n, 0, none⟩ = some (.slice a2 rs.length c2) := (Ext.alloc _ _).cell (by rw [← hn, World.cell?_alloc_mark]; rfl)
  have f1 : ((w3.alloc (.cells #[.slice a2 rs.length c2, .bool nt] 29)).alloc (.cells #[.slice a3 rs.length c3, .bool !nt] 29)).cell? ⟨n, 1, none⟩ = some (.bool nt) := (Ext.alloc _ _).cell (by rw [← hn, World.cell?_alloc_mark]; rfl)
  have hb2 := heap_alloc2_new w3 (.cells #[.slice a2 rs.length c2, .bool nt] 29) (.cells #[.slice a3 rs.length c3, .bool !nt] 29)
  rw [hn] at hb2
  have g0 : ((w3.alloc (.cells #[.slice a2 rs.length c2, .bool nt] 29)).alloc (.cells #[.slice a3 rs.length c3, .bool !nt] 29)).cell? ⟨n + 1, 0, none⟩ = some (.slice a3 rs.length c3) := by simp [World.cell?, hb2]
  have g1 : ((w3.alloc (.cells #[.slice a2 rs.length c2, .bool nt] 29)).alloc (.cells #[.slice a3 rs.length c3, .bool !nt] 29)).cell? ⟨n + 1, 1, none⟩ = some (.bool !nt) := by simp [World.cell?, hb2]
  obtain ⟨w4, hw4⟩ : ∃ w4, ((w3.alloc (.cells #[.slice a2 rs.length c2, .bool nt] 29)).alloc (.cells #[.slice a3 rs.length c3, .bool !nt] 29)) = w4 := ⟨_, rfl⟩
  rw [hw4] at x4 f0 f1 g0 g1 ⊢
  rw [hn]
  replace i2 := i2.ext x4
  replace i3 := i3.ext x4
  replace hT := hT.ext x4
  have X4 := X3.trans x4
  have HF0 := Lib.hid f0
  have HF1 := Lib.hid f1
  have HI := Lib.hid i2
  have HT := Lib.hid hT
  have HX := Lib.hid X4
  clear hn hw4 hb2 x4 X3 X4 f0 f1 i2 hT
  go_cut [9, 10, 11] (fun s9 s10 s11 wx => s9 = .string ⟨(tlB (holdsT rs nt) a0.data.toList).toArray⟩ ∧ s10 = .string ⟨(trB (holdsT rs nt) a0.data.toList).toArray⟩ ∧ s11 = .string ⟨(tB (holdsT rs nt) a0.data.toList).toArray⟩ ∧ Ext w4 wx)
  case first =>
    refine wp_region_mono (by kernel_rfl) [19, 20, 21, 22, 23, 24, 25, 26, 27, 28, 29, 30, 31, 32, 33, 9, 10, 11] (by kernel_rfl) (by decide) (by simp) (by kernel_rfl)
      (fun i => match i with | 0 => (fun v w => v = .string a0) | 1 => (fun v w => Bs w v a0.data.toList) | 2 => (fun v w => v = .agg #[.slice a2 rs.length c2, .bool nt]) | 3 => (fun v w => Bs w v (tlB (holdsT rs nt) a0.data.toList)) | 4 => (fun v w => v = .string ⟨(tlB (holdsT rs nt) a0.data.toList).toArray⟩) | 5 => (fun v w => v = .string a0) | 6 => (fun v w => Bs w v a0.data.toList) | 7 => (fun v w => v = .agg #[.slice a2 rs.length c2, .bool nt]) | 8 => (fun v w => Bs w v (trB (holdsT rs nt) a0.data.toList)) | 9 => (fun v w => v = .string ⟨(trB (holdsT rs nt) a0.data.toList).toArray⟩) | 10 => (fun v w => v = .string a0) | 11 => (fun v w => Bs w v a0.data.toList) | 12 => (fun v w => v = .agg #[.slice a2 rs.length c2, .bool nt]) | 13 => (fun v w => Bs w v (tB (holdsT rs nt) a0.data.toList)) | 14 => (fun v w => v = .string ⟨(tB (holdsT rs nt) a0.data.toList).toArray⟩) | 15 => (fun v w => v = .string ⟨(tlB (holdsT rs nt) a0.data.toList).toArray⟩) | 16 => (fun v w => v = .string ⟨(trB (holdsT rs nt) a0.data.toList).toArray⟩) | 17 => (fun v w => v = .string ⟨(tB (holdsT rs nt) a0.data.toList).toArray⟩) | _ => fun _ _ => True) ?stable ?steps ?fin
    case stable =>
      intro i v w' w'' h x
      match i, h with
      | 0, h => exact h
      | 1, h => exact (show Bs w' v a0.data.toList from h).ext x
      | 2, h => exact h
      | 3, h => exact (show Bs w' v (tlB (holdsT rs nt) a0.data.toList) from h).ext x
      | 4, h => exact h
      | 5, h => exact h
      | 6, h => exact (show Bs w' v a0.data.toList from h).ext x
      | 7, h => exact h
      | 8, h => exact (show Bs w' v (trB (holdsT rs nt) a0.data.toList) from h).ext x
      | 9, h => exact h
      | 10, h => exact h
      | 11, h => exact (show Bs w' v a0.data.toList from h).ext x
      | 12, h => exact h
      | 13, h => exact (show Bs w' v (tB (holdsT rs nt) a0.data.toList) from h).ext x
      | 14, h => exact h
      | 15, h => exact h
      | 16, h => exact h
      | 17, h => exact h
      | _ + 18, _ => trivial
    case steps =>
      refine AllSteps.cons (fun us hus w' x h => ?_) ?_
      · obtain ⟨u0, t0, e0, s0⟩ := len_cons hus; obtain ⟨u1, t1, e1, s1⟩ := len_cons s0; obtain ⟨u2, t2, e2, s2⟩ := len_cons s1; obtain ⟨u3, t3, e3, s3⟩ := len_cons s2; obtain ⟨u4, t4, e4, s4⟩ := len_cons s3; obtain ⟨u5, t5, e5, s5⟩ := len_cons s4; obtain ⟨u6, t6, e6, s6⟩ := len_cons s5; obtain ⟨u7, t7, e7, s7⟩ := len_cons s6; obtain ⟨u8, t8, e8, s8⟩ := len_cons s7; obtain ⟨u9, t9, e9, s9⟩ := len_cons s8; obtain ⟨u10, t10, e10, s10⟩ := len_cons s9; obtain ⟨u11, t11, e11, s11⟩ := len_cons s10; obtain ⟨u12, t12, e12, s12⟩ := len_cons s11; obtain ⟨u13, t13, e13, s13⟩ := len_cons s12; obtain ⟨u14, t14, e14, s14⟩ := len_cons s13; obtain ⟨u15, t15, e15, s15⟩ := len_cons s14; obtain ⟨u16, t16, e16, s16⟩ := len_cons s15; obtain ⟨u17, t17, e17, s17⟩ := len_cons s16
        obtain rfl := len_nil s17
        clear hus s0 s1 s2 s3 s4 s5 s6 s7 s8 s9 s10 s11 s12 s13 s14 s15 s16 s17
        subst e17 e16 e15 e14 e13 e12 e11 e10 e9 e8 e7 e6 e5 e4 e3 e2 e1 e0
        clear h
        simp only [over, Act.put, List.setIfInBounds_toArray, List.set_cons_zero, List.set_cons_succ]
        go_wp2_with fail
        exact postK_normal ⟨_, rfl, rfl, Ext.refl _⟩
      refine AllSteps.cons (fun us hus w' x h => ?_) ?_
      · obtain ⟨u0, t0, e0, s0⟩ := len_cons hus; obtain ⟨u1, t1, e1, s1⟩ := len_cons s0; obtain ⟨u2, t2, e2, s2⟩ := len_cons s1; obtain ⟨u3, t3, e3, s3⟩ := len_cons s2; obtain ⟨u4, t4, e4, s4⟩ := len_cons s3; obtain ⟨u5, t5, e5, s5⟩ := len_cons s4; obtain ⟨u6, t6, e6, s6⟩ := len_cons s5; obtain ⟨u7, t7, e7, s7⟩ := len_cons s6; obtain ⟨u8, t8, e8, s8⟩ := len_cons s7; obtain ⟨u9, t9, e9, s9⟩ := len_cons s8; obtain ⟨u10, t10, e10, s10⟩ := len_cons s9; obtain ⟨u11, t11, e11, s11⟩ := len_cons s10; obtain ⟨u12, t12, e12, s12⟩ := len_cons s11; obtain ⟨u13, t13, e13, s13⟩ := len_cons s12; obtain ⟨u14, t14, e14, s14⟩ := len_cons s13; obtain ⟨u15, t15, e15, s15⟩ := len_cons s14; obtain ⟨u16, t16, e16, s16⟩ := len_cons s15; obtain ⟨u17, t17, e17, s17⟩ := len_cons s16
        obtain rfl := len_nil s17
        clear hus s0 s1 s2 s3 s4 s5 s6 s7 s8 s9 s10 s11 s12 s13 s14 s15 s16 s17
        subst e17 e16 e15 e14 e13 e12 e11 e10 e9 e8 e7 e6 e5 e4 e3 e2 e1 e0
        have h0 : u0 = .string a0 := h 0 (by kernel_rfl)
        clear h
        simp only [over, Act.put, List.setIfInBounds_toArray, List.set_cons_zero, List.set_cons_succ]
        subst h0
        go_wp2_with (refine wpList_toBytes rfl 9 22 _ rfl 5 Tryd.underlying9 Tryd.underlying22 Tryd.underlying5 _ rfl hmax ?_)
        intro v5 w5 o5 x5
        go_wp2_with fail
        exact postK_normal ⟨_, rfl, o5.bs, x5⟩
      refine AllSteps.cons (fun us hus w' x h => ?_) ?_
      · obtain ⟨u0, t0, e0, s0⟩ := len_cons hus; obtain ⟨u1, t1, e1, s1⟩ := len_cons s0; obtain ⟨u2, t2, e2, s2⟩ := len_cons s1; obtain ⟨u3, t3, e3, s3⟩ := len_cons s2; obtain ⟨u4, t4, e4, s4⟩ := len_cons s3; obtain ⟨u5, t5, e5, s5⟩ := len_cons s4; obtain ⟨u6, t6, e6, s6⟩ := len_cons s5; obtain ⟨u7, t7, e7, s7⟩ := len_cons s6; obtain ⟨u8, t8, e8, s8⟩ := len_cons s7; obtain ⟨u9, t9, e9, s9⟩ := len_cons s8; obtain ⟨u10, t10, e10, s10⟩ := len_cons s9; obtain ⟨u11, t11, e11, s11⟩ := len_cons s10; obtain ⟨u12, t12, e12, s12⟩ := len_cons s11; obtain ⟨u13, t13, e13, s13⟩ := len_cons s12; obtain ⟨u14, t14, e14, s14⟩ := len_cons s13; obtain ⟨u15, t15, e15, s15⟩ := len_cons s14; obtain ⟨u16, t16, e16, s16⟩ := len_cons s15; obtain ⟨u17, t17, e17, s17⟩ := len_cons s16
        obtain rfl := len_nil s17
        clear hus s0 s1 s2 s3 s4 s5 s6 s7 s8 s9 s10 s11 s12 s13 s14 s15 s16 s17
        subst e17 e16 e15 e14 e13 e12 e11 e10 e9 e8 e7 e6 e5 e4 e3 e2 e1 e0
        clear h
        simp only [over, Act.put, List.setIfInBounds_toArray, List.set_cons_zero, List.set_cons_succ]
        have f0 := x.cell HF0.out
        have f1 := x.cell HF1.out
        go_wp2_with fail
        exact postK_normal ⟨_, rfl, rfl, Ext.refl _⟩
      refine AllSteps.cons (fun us hus w' x h => ?_) ?_
      · obtain ⟨u0, t0, e0, s0⟩ := len_cons hus; obtain ⟨u1, t1, e1, s1⟩ := len_cons s0; obtain ⟨u2, t2, e2, s2⟩ := len_cons s1; obtain ⟨u3, t3, e3, s3⟩ := len_cons s2; obtain ⟨u4, t4, e4, s4⟩ := len_cons s3; obtain ⟨u5, t5, e5, s5⟩ := len_cons s4; obtain ⟨u6, t6, e6, s6⟩ := len_cons s5; obtain ⟨u7, t7, e7, s7⟩ := len_cons s6; obtain ⟨u8, t8, e8, s8⟩ := len_cons s7; obtain ⟨u9, t9, e9, s9⟩ := len_cons s8; obtain ⟨u10, t10, e10, s10⟩ := len_cons s9; obtain ⟨u11, t11, e11, s11⟩ := len_cons s10; obtain ⟨u12, t12, e12, s12⟩ := len_cons s11; obtain ⟨u13, t13, e13, s13⟩ := len_cons s12; obtain ⟨u14, t14, e14, s14⟩ := len_cons s13; obtain ⟨u15, t15, e15, s15⟩ := len_cons s14; obtain ⟨u16, t16, e16, s16⟩ := len_cons s15; obtain ⟨u17, t17, e17, s17⟩ := len_cons s16
        obtain rfl := len_nil s17
        clear hus s0 s1 s2 s3 s4 s5 s6 s7 s8 s9 s10 s11 s12 s13 s14 s15 s16 s17
        subst e17 e16 e15 e14 e13 e12 e11 e10 e9 e8 e7 e6 e5 e4 e3 e2 e1 e0
        have h1 : Bs w' u1 a0.data.toList := h 1 (by kernel_rfl)
        have h2 : u2 = .agg #[.slice a2 rs.length c2, .bool nt] := h 2 (by kernel_rfl)
        clear h
        simp only [over, Act.put, List.setIfInBounds_toArray, List.set_cons_zero, List.set_cons_succ]
        subst h2
        go_wp2_with (go_at_call 32; refine (impl_TrimLeftFunc _ _ _ rs _ _ h1 (HI.out.ext x) (HT.out.ext x) (by show a0.size ≤ _; omega)).mono ?_)
        rintro _ w5 ⟨v5, rfl, o5, x5⟩
        go_wp2_with fail
        exact postK_normal ⟨_, rfl, o5.bs, x5⟩
      refine AllSteps.cons (fun us hus w' x h => ?_) ?_
      · obtain ⟨u0, t0, e0, s0⟩ := len_cons hus; obtain ⟨u1, t1, e1, s1⟩ := len_cons s0; obtain ⟨u2, t2, e2, s2⟩ := len_cons s1; obtain ⟨u3, t3, e3, s3⟩ := len_cons s2; obtain ⟨u4, t4, e4, s4⟩ := len_cons s3; obtain ⟨u5, t5, e5, s5⟩ := len_cons s4; obtain ⟨u6, t6, e6, s6⟩ := len_cons s5; obtain ⟨u7, t7, e7, s7⟩ := len_cons s6; obtain ⟨u8, t8, e8, s8⟩ := len_cons s7; obtain ⟨u9, t9, e9, s9⟩ := len_cons s8; obtain ⟨u10, t10, e10, s10⟩ := len_cons s9; obtain ⟨u11, t11, e11, s11⟩ := len_cons s10; obtain ⟨u12, t12, e12, s12⟩ := len_cons s11; obtain ⟨u13, t13, e13, s13⟩ := len_cons s12; obtain ⟨u14, t14, e14, s14⟩ := len_cons s13; obtain ⟨u15, t15, e15, s15⟩ := len_cons s14; obtain ⟨u16, t16, e16, s16⟩ := len_cons s15; obtain ⟨u17, t17, e17, s17⟩ := len_cons s16
        obtain rfl := len_nil s17
        clear hus s0 s1 s2 s3 s4 s5 s6 s7 s8 s9 s10 s11 s12 s13 s14 s15 s16 s17
        subst e17 e16 e15 e14 e13 e12 e11 e10 e9 e8 e7 e6 e5 e4 e3 e2 e1 e0
        have h3 : Bs w' u3 (tlB (holdsT rs nt) a0.data.toList) := h 3 (by kernel_rfl)
        clear h
        simp only [over, Act.put, List.setIfInBounds_toArray, List.set_cons_zero, List.set_cons_succ]
        go_wp2_with (refine wpList_toString rfl 22 9 _ rfl 5 Tryd.underlying22 Tryd.underlying5 Tryd.underlying9 _ _ rfl h3 ?_)
        go_wp2_with fail
        exact postK_normal ⟨_, rfl, rfl, Ext.refl _⟩
      refine AllSteps.cons (fun us hus w' x h => ?_) ?_
      · obtain ⟨u0, t0, e0, s0⟩ := len_cons hus; obtain ⟨u1, t1, e1, s1⟩ := len_cons s0; obtain ⟨u2, t2, e2, s2⟩ := len_cons s1; obtain ⟨u3, t3, e3, s3⟩ := len_cons s2; obtain ⟨u4, t4, e4, s4⟩ := len_cons s3; obtain ⟨u5, t5, e5, s5⟩ := len_cons s4; obtain ⟨u6, t6, e6, s6⟩ := len_cons s5; obtain ⟨u7, t7, e7, s7⟩ := len_cons s6; obtain ⟨u8, t8, e8, s8⟩ := len_cons s7; obtain ⟨u9, t9, e9, s9⟩ := len_cons s8; obtain ⟨u10, t10, e10, s10⟩ := len_cons s9; obtain ⟨u11, t11, e11, s11⟩ := len_cons s10; obtain ⟨u12, t12, e12, s12⟩ := len_cons s11; obtain ⟨u13, t13, e13, s13⟩ := len_cons s12; obtain ⟨u14, t14, e14, s14⟩ := len_cons s13; obtain ⟨u15, t15, e15, s15⟩ := len_cons s14; obtain ⟨u16, t16, e16, s16⟩ := len_cons s15; obtain ⟨u17, t17, e17, s17⟩ := len_cons s16
        obtain rfl := len_nil s17
        clear hus s0 s1 s2 s3 s4 s5 s6 s7 s8 s9 s10 s11 s12 s13 s14 s15 s16 s17
        subst e17 e16 e15 e14 e13 e12 e11 e10 e9 e8 e7 e6 e5 e4 e3 e2 e1 e0
        clear h
        simp only [over, Act.put, List.setIfInBounds_toArray, List.set_cons_zero, List.set_cons_succ]
        go_wp2_with fail
        exact postK_normal ⟨_, rfl, rfl, Ext.refl _⟩
      refine AllSteps.cons (fun us hus w' x h => ?_) ?_
      · obtain ⟨u0, t0, e0, s0⟩ := len_cons hus; obtain ⟨u1, t1, e1, s1⟩ := len_cons s0; obtain ⟨u2, t2, e2, s2⟩ := len_cons s1; obtain ⟨u3, t3, e3, s3⟩ := len_cons s2; obtain ⟨u4, t4, e4, s4⟩ := len_cons s3; obtain ⟨u5, t5, e5, s5⟩ := len_cons s4; obtain ⟨u6, t6, e6, s6⟩ := len_cons s5; obtain ⟨u7, t7, e7, s7⟩ := len_cons s6; obtain ⟨u8, t8, e8, s8⟩ := len_cons s7; obtain ⟨u9, t9, e9, s9⟩ := len_cons s8; obtain ⟨u10, t10, e10, s10⟩ := len_cons s9; obtain ⟨u11, t11, e11, s11⟩ := len_cons s10; obtain ⟨u12, t12, e12, s12⟩ := len_cons s11; obtain ⟨u13, t13, e13, s13⟩ := len_cons s12; obtain ⟨u14, t14, e14, s14⟩ := len_cons s13; obtain ⟨u15, t15, e15, s15⟩ := len_cons s14; obtain ⟨u16, t16, e16, s16⟩ := len_cons s15; obtain ⟨u17, t17, e17, s17⟩ := len_cons s16
        obtain rfl := len_nil s17
        clear hus s0 s1 s2 s3 s4 s5 s6 s7 s8 s9 s10 s11 s12 s13 s14 s15 s16 s17
        subst e17 e16 e15 e14 e13 e12 e11 e10 e9 e8 e7 e6 e5 e4 e3 e2 e1 e0
        have h5 : u5 = .string a0 := h 5 (by kernel_rfl)
        clear h
        simp only [over, Act.put, List.setIfInBounds_toArray, List.set_cons_zero, List.set_cons_succ]
        subst h5
        go_wp2_with (refine wpList_toBytes rfl 9 22 _ rfl 5 Tryd.underlying9 Tryd.underlying22 Tryd.underlying5 _ rfl hmax ?_)
        intro v5 w5 o5 x5
        go_wp2_with fail
        exact postK_normal ⟨_, rfl, o5.bs, x5⟩
      refine AllSteps.cons (fun us hus w' x h => ?_) ?_
      · obtain ⟨u0, t0, e0, s0⟩ := len_cons hus; obtain ⟨u1, t1, e1, s1⟩ := len_cons s0; obtain ⟨u2, t2, e2, s2⟩ := len_cons s1; obtain ⟨u3, t3, e3, s3⟩ := len_cons s2; obtain ⟨u4, t4, e4, s4⟩ := len_cons s3; obtain ⟨u5, t5, e5, s5⟩ := len_cons s4; obtain ⟨u6, t6, e6, s6⟩ := len_cons s5; obtain ⟨u7, t7, e7, s7⟩ := len_cons s6; obtain ⟨u8, t8, e8, s8⟩ := len_cons s7; obtain ⟨u9, t9, e9, s9⟩ := len_cons s8; obtain ⟨u10, t10, e10, s10⟩ := len_cons s9; obtain ⟨u11, t11, e11, s11⟩ := len_cons s10; obtain ⟨u12, t12, e12, s12⟩ := len_cons s11; obtain ⟨u13, t13, e13, s13⟩ := len_cons s12; obtain ⟨u14, t14, e14, s14⟩ := len_cons s13; obtain ⟨u15, t15, e15, s15⟩ := len_cons s14; obtain ⟨u16, t16, e16, s16⟩ := len_cons s15; obtain ⟨u17, t17, e17, s17⟩ := len_cons s16
        obtain rfl := len_nil s17
        clear hus s0 s1 s2 s3 s4 s5 s6 s7 s8 s9 s10 s11 s12 s13 s14 s15 s16 s17
        subst e17 e16 e15 e14 e13 e12 e11 e10 e9 e8 e7 e6 e5 e4 e3 e2 e1 e0
        clear h
        simp only [over, Act.put, List.setIfInBounds_toArray, List.set_cons_zero, List.set_cons_succ]
        have f0 := x.cell HF0.out
        have f1 := x.cell HF1.out
        go_wp2_with fail
        exact postK_normal ⟨_, rfl, rfl, Ext.refl _⟩
      refine AllSteps.cons (fun us hus w' x h => ?_) ?_
      · obtain ⟨u0, t0, e0, s0⟩ := len_cons hus; obtain ⟨u1, t1, e1, s1⟩ := len_cons s0; obtain ⟨u2, t2, e2, s2⟩ := len_cons s1; obtain ⟨u3, t3, e3, s3⟩ := len_cons s2; obtain ⟨u4, t4, e4, s4⟩ := len_cons s3; obtain ⟨u5, t5, e5, s5⟩ := len_cons s4; obtain ⟨u6, t6, e6, s6⟩ := len_cons s5; obtain ⟨u7, t7, e7, s7⟩ := len_cons s6; obtain ⟨u8, t8, e8, s8⟩ := len_cons s7; obtain ⟨u9, t9, e9, s9⟩ := len_cons s8; obtain ⟨u10, t10, e10, s10⟩ := len_cons s9; obtain ⟨u11, t11, e11, s11⟩ := len_cons s10; obtain ⟨u12, t12, e12, s12⟩ := len_cons s11; obtain ⟨u13, t13, e13, s13⟩ := len_cons s12; obtain ⟨u14, t14, e14, s14⟩ := len_cons s13; obtain ⟨u15, t15, e15, s15⟩ := len_cons s14; obtain ⟨u16, t16, e16, s16⟩ := len_cons s15; obtain ⟨u17, t17, e17, s17⟩ := len_cons s16
        obtain rfl := len_nil s17
        clear hus s0 s1 s2 s3 s4 s5 s6 s7 s8 s9 s10 s11 s12 s13 s14 s15 s16 s17
        subst e17 e16 e15 e14 e13 e12 e11 e10 e9 e8 e7 e6 e5 e4 e3 e2 e1 e0
        have h6 : Bs w' u6 a0.data.toList := h 6 (by kernel_rfl)
        have h7 : u7 = .agg #[.slice a2 rs.length c2, .bool nt] := h 7 (by kernel_rfl)
        clear h
        simp only [over, Act.put, List.setIfInBounds_toArray, List.set_cons_zero, List.set_cons_succ]
        subst h7
        go_wp2_with (go_at_call 38; refine (impl_TrimRightFunc _ _ _ rs _ _ h6 (HI.out.ext x) (HT.out.ext x) (by show a0.size ≤ _; omega)).mono ?_)
        rintro _ w5 ⟨v5, rfl, o5, x5⟩
        go_wp2_with fail
        exact postK_normal ⟨_, rfl, o5.bs, x5⟩
      refine AllSteps.cons (fun us hus w' x h => ?_) ?_
      · obtain ⟨u0, t0, e0, s0⟩ := len_cons hus; obtain ⟨u1, t1, e1, s1⟩ := len_cons s0; obtain ⟨u2, t2, e2, s2⟩ := len_cons s1; obtain ⟨u3, t3, e3, s3⟩ := len_cons s2; obtain ⟨u4, t4, e4, s4⟩ := len_cons s3; obtain ⟨u5, t5, e5, s5⟩ := len_cons s4; obtain ⟨u6, t6, e6, s6⟩ := len_cons s5; obtain ⟨u7, t7, e7, s7⟩ := len_cons s6; obtain ⟨u8, t8, e8, s8⟩ := len_cons s7; obtain ⟨u9, t9, e9, s9⟩ := len_cons s8; obtain ⟨u10, t10, e10, s10⟩ := len_cons s9; obtain ⟨u11, t11, e11, s11⟩ := len_cons s10; obtain ⟨u12, t12, e12, s12⟩ := len_cons s11; obtain ⟨u13, t13, e13, s13⟩ := len_cons s12; obtain ⟨u14, t14, e14, s14⟩ := len_cons s13; obtain ⟨u15, t15, e15, s15⟩ := len_cons s14; obtain ⟨u16, t16, e16, s16⟩ := len_cons s15; obtain ⟨u17, t17, e17, s17⟩ := len_cons s16
        obtain rfl := len_nil s17
        clear hus s0 s1 s2 s3 s4 s5 s6 s7 s8 s9 s10 s11 s12 s13 s14 s15 s16 s17
        subst e17 e16 e15 e14 e13 e12 e11 e10 e9 e8 e7 e6 e5 e4 e3 e2 e1 e0
        have h8 : Bs w' u8 (trB (holdsT rs nt) a0.data.toList) := h 8 (by kernel_rfl)
        clear h
        simp only [over, Act.put, List.setIfInBounds_toArray, List.set_cons_zero, List.set_cons_succ]
        go_wp2_with (refine wpList_toString rfl 22 9 _ rfl 5 Tryd.underlying22 Tryd.underlying5 Tryd.underlying9 _ _ rfl h8 ?_)
        go_wp2_with fail
        exact postK_normal ⟨_, rfl, rfl, Ext.refl _⟩
      refine AllSteps.cons (fun us hus w' x h => ?_) ?_
      · obtain ⟨u0, t0, e0, s0⟩ := len_cons hus; obtain ⟨u1, t1, e1, s1⟩ := len_cons s0; obtain ⟨u2, t2, e2, s2⟩ := len_cons s1; obtain ⟨u3, t3, e3, s3⟩ := len_cons s2; obtain ⟨u4, t4, e4, s4⟩ := len_cons s3; obtain ⟨u5, t5, e5, s5⟩ := len_cons s4; obtain ⟨u6, t6, e6, s6⟩ := len_cons s5; obtain ⟨u7, t7, e7, s7⟩ := len_cons s6; obtain ⟨u8, t8, e8, s8⟩ := len_cons s7; obtain ⟨u9, t9, e9, s9⟩ := len_cons s8; obtain ⟨u10, t10, e10, s10⟩ := len_cons s9; obtain ⟨u11, t11, e11, s11⟩ := len_cons s10; obtain ⟨u12, t12, e12, s12⟩ := len_cons s11; obtain ⟨u13, t13, e13, s13⟩ := len_cons s12; obtain ⟨u14, t14, e14, s14⟩ := len_cons s13; obtain ⟨u15, t15, e15, s15⟩ := len_cons s14; obtain ⟨u16, t16, e16, s16⟩ := len_cons s15; obtain ⟨u17, t17, e17, s17⟩ := len_cons s16
        obtain rfl := len_nil s17
        clear hus s0 s1 s2 s3 s4 s5 s6 s7 s8 s9 s10 s11 s12 s13 s14 s15 s16 s17
        subst e17 e16 e15 e14 e13 e12 e11 e10 e9 e8 e7 e6 e5 e4 e3 e2 e1 e0
        clear h
        simp only [over, Act.put, List.setIfInBounds_toArray, List.set_cons_zero, List.set_cons_succ]
        go_wp2_with fail
        exact postK_normal ⟨_, rfl, rfl, Ext.refl _⟩
      refine AllSteps.cons (fun us hus w' x h => ?_) ?_
      · obtain ⟨u0, t0, e0, s0⟩ := len_cons hus; obtain ⟨u1, t1, e1, s1⟩ := len_cons s0; obtain ⟨u2, t2, e2, s2⟩ := len_cons s1; obtain ⟨u3, t3, e3, s3⟩ := len_cons s2; obtain ⟨u4, t4, e4, s4⟩ := len_cons s3; obtain ⟨u5, t5, e5, s5⟩ := len_cons s4; obtain ⟨u6, t6, e6, s6⟩ := len_cons s5; obtain ⟨u7, t7, e7, s7⟩ := len_cons s6; obtain ⟨u8, t8, e8, s8⟩ := len_cons s7; obtain ⟨u9, t9, e9, s9⟩ := len_cons s8; obtain ⟨u10, t10, e10, s10⟩ := len_cons s9; obtain ⟨u11, t11, e11, s11⟩ := len_cons s10; obtain ⟨u12, t12, e12, s12⟩ := len_cons s11; obtain ⟨u13, t13, e13, s13⟩ := len_cons s12; obtain ⟨u14, t14, e14, s14⟩ := len_cons s13; obtain ⟨u15, t15, e15, s15⟩ := len_cons s14; obtain ⟨u16, t16, e16, s16⟩ := len_cons s15; obtain ⟨u17, t17, e17, s17⟩ := len_cons s16
        obtain rfl := len_nil s17
        clear hus s0 s1 s2 s3 s4 s5 s6 s7 s8 s9 s10 s11 s12 s13 s14 s15 s16 s17
        subst e17 e16 e15 e14 e13 e12 e11 e10 e9 e8 e7 e6 e5 e4 e3 e2 e1 e0
        have h10 : u10 = .string a0 := h 10 (by kernel_rfl)
        clear h
        simp only [over, Act.put, List.setIfInBounds_toArray, List.set_cons_zero, List.set_cons_succ]
        subst h10
        go_wp2_with (refine wpList_toBytes rfl 9 22 _ rfl 5 Tryd.underlying9 Tryd.underlying22 Tryd.underlying5 _ rfl hmax ?_)
        intro v5 w5 o5 x5
        go_wp2_with fail
        exact postK_normal ⟨_, rfl, o5.bs, x5⟩
      refine AllSteps.cons (fun us hus w' x h => ?_) ?_
      · obtain ⟨u0, t0, e0, s0⟩ := len_cons hus; obtain ⟨u1, t1, e1, s1⟩ := len_cons s0; obtain ⟨u2, t2, e2, s2⟩ := len_cons s1; obtain ⟨u3, t3, e3, s3⟩ := len_cons s2; obtain ⟨u4, t4, e4, s4⟩ := len_cons s3; obtain ⟨u5, t5, e5, s5⟩ := len_cons s4; obtain ⟨u6, t6, e6, s6⟩ := len_cons s5; obtain ⟨u7, t7, e7, s7⟩ := len_cons s6; obtain ⟨u8, t8, e8, s8⟩ := len_cons s7; obtain ⟨u9, t9, e9, s9⟩ := len_cons s8; obtain ⟨u10, t10, e10, s10⟩ := len_cons s9; obtain ⟨u11, t11, e11, s11⟩ := len_cons s10; obtain ⟨u12, t12, e12, s12⟩ := len_cons s11; obtain ⟨u13, t13, e13, s13⟩ := len_cons s12; obtain ⟨u14, t14, e14, s14⟩ := len_cons s13; obtain ⟨u15, t15, e15, s15⟩ := len_cons s14; obtain ⟨u16, t16, e16, s16⟩ := len_cons s15; obtain ⟨u17, t17, e17, s17⟩ := len_cons s16
        obtain rfl := len_nil s17
        clear hus s0 s1 s2 s3 s4 s5 s6 s7 s8 s9 s10 s11 s12 s13 s14 s15 s16 s17
        subst e17 e16 e15 e14 e13 e12 e11 e10 e9 e8 e7 e6 e5 e4 e3 e2 e1 e0
        clear h
        simp only [over, Act.put, List.setIfInBounds_toArray, List.set_cons_zero, List.set_cons_succ]
        have f0 := x.cell HF0.out
        have f1 := x.cell HF1.out
        go_wp2_with fail
        exact postK_normal ⟨_, rfl, rfl, Ext.refl _⟩
      refine AllSteps.cons (fun us hus w' x h => ?_) ?_
      · obtain ⟨u0, t0, e0, s0⟩ := len_cons hus; obtain ⟨u1, t1, e1, s1⟩ := len_cons s0; obtain ⟨u2, t2, e2, s2⟩ := len_cons s1; obtain ⟨u3, t3, e3, s3⟩ := len_cons s2; obtain ⟨u4, t4, e4, s4⟩ := len_cons s3; obtain ⟨u5, t5, e5, s5⟩ := len_cons s4; obtain ⟨u6, t6, e6, s6⟩ := len_cons s5; obtain ⟨u7, t7, e7, s7⟩ := len_cons s6; obtain ⟨u8, t8, e8, s8⟩ := len_cons s7; obtain ⟨u9, t9, e9, s9⟩ := len_cons s8; obtain ⟨u10, t10, e10, s10⟩ := len_cons s9; obtain ⟨u11, t11, e11, s11⟩ := len_cons s10; obtain ⟨u12, t12, e12, s12⟩ := len_cons s11; obtain ⟨u13, t13, e13, s13⟩ := len_cons s12; obtain ⟨u14, t14, e14, s14⟩ := len_cons s13; obtain ⟨u15, t15, e15, s15⟩ := len_cons s14; obtain ⟨u16, t16, e16, s16⟩ := len_cons s15; obtain ⟨u17, t17, e17, s17⟩ := len_cons s16
        obtain rfl := len_nil s17
        clear hus s0 s1 s2 s3 s4 s5 s6 s7 s8 s9 s10 s11 s12 s13 s14 s15 s16 s17
        subst e17 e16 e15 e14 e13 e12 e11 e10 e9 e8 e7 e6 e5 e4 e3 e2 e1 e0
        have h11 : Bs w' u11 a0.data.toList := h 11 (by kernel_rfl)
        have h12 : u12 = .agg #[.slice a2 rs.length c2, .bool nt] := h 12 (by kernel_rfl)
        clear h
        simp only [over, Act.put, List.setIfInBounds_toArray, List.set_cons_zero, List.set_cons_succ]
        subst h12
        go_wp2_with (go_at_call 41; refine (impl_TrimFunc _ _ _ rs _ _ h11 (HI.out.ext x) (HT.out.ext x) (by show a0.size ≤ _; omega)).mono ?_)
        rintro _ w5 ⟨v5, rfl, o5, x5⟩
        go_wp2_with fail
        exact postK_normal ⟨_, rfl, o5.bs, x5⟩
      refine AllSteps.cons (fun us hus w' x h => ?_) ?_
      · obtain ⟨u0, t0, e0, s0⟩ := len_cons hus; obtain ⟨u1, t1, e1, s1⟩ := len_cons s0; obtain ⟨u2, t2, e2, s2⟩ := len_cons s1; obtain ⟨u3, t3, e3, s3⟩ := len_cons s2; obtain ⟨u4, t4, e4, s4⟩ := len_cons s3; obtain ⟨u5, t5, e5, s5⟩ := len_cons s4; obtain ⟨u6, t6, e6, s6⟩ := len_cons s5; obtain ⟨u7, t7, e7, s7⟩ := len_cons s6; obtain ⟨u8, t8, e8, s8⟩ := len_cons s7; obtain ⟨u9, t9, e9, s9⟩ := len_cons s8; obtain ⟨u10, t10, e10, s10⟩ := len_cons s9; obtain ⟨u11, t11, e11, s11⟩ := len_cons s10; obtain ⟨u12, t12, e12, s12⟩ := len_cons s11; obtain ⟨u13, t13, e13, s13⟩ := len_cons s12; obtain ⟨u14, t14, e14, s14⟩ := len_cons s13; obtain ⟨u15, t15, e15, s15⟩ := len_cons s14; obtain ⟨u16, t16, e16, s16⟩ := len_cons s15; obtain ⟨u17, t17, e17, s17⟩ := len_cons s16
        obtain rfl := len_nil s17
        clear hus s0 s1 s2 s3 s4 s5 s6 s7 s8 s9 s10 s11 s12 s13 s14 s15 s16 s17
        subst e17 e16 e15 e14 e13 e12 e11 e10 e9 e8 e7 e6 e5 e4 e3 e2 e1 e0
        have h13 : Bs w' u13 (tB (holdsT rs nt) a0.data.toList) := h 13 (by kernel_rfl)
        clear h
        simp only [over, Act.put, List.setIfInBounds_toArray, List.set_cons_zero, List.set_cons_succ]
        go_wp2_with (refine wpList_toString rfl 22 9 _ rfl 5 Tryd.underlying22 Tryd.underlying5 Tryd.underlying9 _ _ rfl h13 ?_)
        go_wp2_with fail
        exact postK_normal ⟨_, rfl, rfl, Ext.refl _⟩
      refine AllSteps.cons (fun us hus w' x h => ?_) ?_
      · obtain ⟨u0, t0, e0, s0⟩ := len_cons hus; obtain ⟨u1, t1, e1, s1⟩ := len_cons s0; obtain ⟨u2, t2, e2, s2⟩ := len_cons s1; obtain ⟨u3, t3, e3, s3⟩ := len_cons s2; obtain ⟨u4, t4, e4, s4⟩ := len_cons s3; obtain ⟨u5, t5, e5, s5⟩ := len_cons s4; obtain ⟨u6, t6, e6, s6⟩ := len_cons s5; obtain ⟨u7, t7, e7, s7⟩ := len_cons s6; obtain ⟨u8, t8, e8, s8⟩ := len_cons s7; obtain ⟨u9, t9, e9, s9⟩ := len_cons s8; obtain ⟨u10, t10, e10, s10⟩ := len_cons s9; obtain ⟨u11, t11, e11, s11⟩ := len_cons s10; obtain ⟨u12, t12, e12, s12⟩ := len_cons s11; obtain ⟨u13, t13, e13, s13⟩ := len_cons s12; obtain ⟨u14, t14, e14, s14⟩ := len_cons s13; obtain ⟨u15, t15, e15, s15⟩ := len_cons s14; obtain ⟨u16, t16, e16, s16⟩ := len_cons s15; obtain ⟨u17, t17, e17, s17⟩ := len_cons s16
        obtain rfl := len_nil s17
        clear hus s0 s1 s2 s3 s4 s5 s6 s7 s8 s9 s10 s11 s12 s13 s14 s15 s16 s17
        subst e17 e16 e15 e14 e13 e12 e11 e10 e9 e8 e7 e6 e5 e4 e3 e2 e1 e0
        have h4 : u4 = .string ⟨(tlB (holdsT rs nt) a0.data.toList).toArray⟩ := h 4 (by kernel_rfl)
        clear h
        simp only [over, Act.put, List.setIfInBounds_toArray, List.set_cons_zero, List.set_cons_succ]
        subst h4
        go_wp2_with fail
        exact postK_normal ⟨_, rfl, rfl, Ext.refl _⟩
      refine AllSteps.cons (fun us hus w' x h => ?_) ?_
      · obtain ⟨u0, t0, e0, s0⟩ := len_cons hus; obtain ⟨u1, t1, e1, s1⟩ := len_cons s0; obtain ⟨u2, t2, e2, s2⟩ := len_cons s1; obtain ⟨u3, t3, e3, s3⟩ := len_cons s2; obtain ⟨u4, t4, e4, s4⟩ := len_cons s3; obtain ⟨u5, t5, e5, s5⟩ := len_cons s4; obtain ⟨u6, t6, e6, s6⟩ := len_cons s5; obtain ⟨u7, t7, e7, s7⟩ := len_cons s6; obtain ⟨u8, t8, e8, s8⟩ := len_cons s7; obtain ⟨u9, t9, e9, s9⟩ := len_cons s8; obtain ⟨u10, t10, e10, s10⟩ := len_cons s9; obtain ⟨u11, t11, e11, s11⟩ := len_cons s10; obtain ⟨u12, t12, e12, s12⟩ := len_cons s11; obtain ⟨u13, t13, e13, s13⟩ := len_cons s12; obtain ⟨u14, t14, e14, s14⟩ := len_cons s13; obtain ⟨u15, t15, e15, s15⟩ := len_cons s14; obtain ⟨u16, t16, e16, s16⟩ := len_cons s15; obtain ⟨u17, t17, e17, s17⟩ := len_cons s16
        obtain rfl := len_nil s17
        clear hus s0 s1 s2 s3 s4 s5 s6 s7 s8 s9 s10 s11 s12 s13 s14 s15 s16 s17
        subst e17 e16 e15 e14 e13 e12 e11 e10 e9 e8 e7 e6 e5 e4 e3 e2 e1 e0
        have h9 : u9 = .string ⟨(trB (holdsT rs nt) a0.data.toList).toArray⟩ := h 9 (by kernel_rfl)
        clear h
        simp only [over, Act.put, List.setIfInBounds_toArray, List.set_cons_zero, List.set_cons_succ]
        subst h9
        go_wp2_with fail
        exact postK_normal ⟨_, rfl, rfl, Ext.refl _⟩
      refine AllSteps.cons (fun us hus w' x h => ?_) ?_
      · obtain ⟨u0, t0, e0, s0⟩ := len_cons hus; obtain ⟨u1, t1, e1, s1⟩ := len_cons s0; obtain ⟨u2, t2, e2, s2⟩ := len_cons s1; obtain ⟨u3, t3, e3, s3⟩ := len_cons s2; obtain ⟨u4, t4, e4, s4⟩ := len_cons s3; obtain ⟨u5, t5, e5, s5⟩ := len_cons s4; obtain ⟨u6, t6, e6, s6⟩ := len_cons s5; obtain ⟨u7, t7, e7, s7⟩ := len_cons s6; obtain ⟨u8, t8, e8, s8⟩ := len_cons s7; obtain ⟨u9, t9, e9, s9⟩ := len_cons s8; obtain ⟨u10, t10, e10, s10⟩ := len_cons s9; obtain ⟨u11, t11, e11, s11⟩ := len_cons s10; obtain ⟨u12, t12, e12, s12⟩ := len_cons s11; obtain ⟨u13, t13, e13, s13⟩ := len_cons s12; obtain ⟨u14, t14, e14, s14⟩ := len_cons s13; obtain ⟨u15, t15, e15, s15⟩ := len_cons s14; obtain ⟨u16, t16, e16, s16⟩ := len_cons s15; obtain ⟨u17, t17, e17, s17⟩ := len_cons s16
        obtain rfl := len_nil s17
        clear hus s0 s1 s2 s3 s4 s5 s6 s7 s8 s9 s10 s11 s12 s13 s14 s15 s16 s17
        subst e17 e16 e15 e14 e13 e12 e11 e10 e9 e8 e7 e6 e5 e4 e3 e2 e1 e0
        have h14 : u14 = .string ⟨(tB (holdsT rs nt) a0.data.toList).toArray⟩ := h 14 (by kernel_rfl)
        clear h
        simp only [over, Act.put, List.setIfInBounds_toArray, List.set_cons_zero, List.set_cons_succ]
        subst h14
        go_wp2_with fail
        exact postK_normal ⟨_, rfl, rfl, Ext.refl _⟩
      exact AllSteps.nil
    case fin =>
      intro us hus w' x h
      obtain ⟨u0, t0, e0, s0⟩ := len_cons hus; obtain ⟨u1, t1, e1, s1⟩ := len_cons s0; obtain ⟨u2, t2, e2, s2⟩ := len_cons s1; obtain ⟨u3, t3, e3, s3⟩ := len_cons s2; obtain ⟨u4, t4, e4, s4⟩ := len_cons s3; obtain ⟨u5, t5, e5, s5⟩ := len_cons s4; obtain ⟨u6, t6, e6, s6⟩ := len_cons s5; obtain ⟨u7, t7, e7, s7⟩ := len_cons s6; obtain ⟨u8, t8, e8, s8⟩ := len_cons s7; obtain ⟨u9, t9, e9, s9⟩ := len_cons s8; obtain ⟨u10, t10, e10, s10⟩ := len_cons s9; obtain ⟨u11, t11, e11, s11⟩ := len_cons s10; obtain ⟨u12, t12, e12, s12⟩ := len_cons s11; obtain ⟨u13, t13, e13, s13⟩ := len_cons s12; obtain ⟨u14, t14, e14, s14⟩ := len_cons s13; obtain ⟨u15, t15, e15, s15⟩ := len_cons s14; obtain ⟨u16, t16, e16, s16⟩ := len_cons s15; obtain ⟨u17, t17, e17, s17⟩ := len_cons s16
      obtain rfl := len_nil s17
      clear hus s0 s1 s2 s3 s4 s5 s6 s7 s8 s9 s10 s11 s12 s13 s14 s15 s16 s17
      subst e17 e16 e15 e14 e13 e12 e11 e10 e9 e8 e7 e6 e5 e4 e3 e2 e1 e0
      have h15 : u15 = .string ⟨(tlB (holdsT rs nt) a0.data.toList).toArray⟩ := h 15 (by decide)
      have h16 : u16 = .string ⟨(trB (holdsT rs nt) a0.data.toList).toArray⟩ := h 16 (by decide)
      have h17 : u17 = .string ⟨(tB (holdsT rs nt) a0.data.toList).toArray⟩ := h 17 (by decide)
      clear h
      subst h15 h16 h17
      simp only [over, Act.put, List.setIfInBounds_toArray, List.set_cons_zero, List.set_cons_succ]
      go_wp2_with fail
      go_meet
      exact ⟨rfl, rfl, rfl, x⟩
  case rest =>
    obtain ⟨rfl, rfl, rfl, x5⟩ := hcut
    obtain ⟨w5, hw5⟩ : ∃ w5, w5 = wc := ⟨_, rfl⟩
    subst hw5
    have f0 := x5.cell HF0.out
    have f1 := x5.cell HF1.out
    replace g0 := x5.cell g0
    replace g1 := x5.cell g1
    have i2 := HI.out.ext x5
    replace i3 := i3.ext x5
    have hT := HT.out.ext x5
    have X := HX.out.trans x5
    clear HF0 HF1 HI HT HX x5
    have key : ∃ L R T : List UInt8, ∃ I : Int, tlB (holdsT rs nt) a0.data.toList = L ∧ trB (holdsT rs nt) a0.data.toList = R ∧ tB (holdsT rs nt) a0.data.toList = T ∧ trB (holdsT rs nt) L = T ∧ tlB (holdsT rs nt) R = T ∧ tB (holdsT rs nt) T = T ∧
        firstC (holdsT rs (!nt)) 0 (chunks a0.data.toList) = I ∧ L.length ≤ a0.size ∧ R.length ≤ a0.size ∧ T.length ≤ a0.size ∧ (T = [] ∧ I = -1 ∨ T ≠ [] ∧ firstC (holdsT rs (!nt)) 0 (chunks T) = 0 ∧ I + (L.length : Int) = (a0.size : Int)) := by
      rw [holdsT_not']
      refine ⟨_, _, _, _, rfl, rfl, rfl, rfl, ?_, ?_, rfl, tlB_len _ _, trB_len _ _, tB_len _ _, ?_⟩
      · rcases trim_cases (holdsT rs nt) a0.data.toList with ⟨_, e1, e2, e3⟩ | ⟨A, M, B, h⟩
        · rw [e2, e3]; rfl
        · exact h.tl_tr
      · rcases trim_cases (holdsT rs nt) a0.data.toList with ⟨_, e1, e2, e3⟩ | ⟨A, M, B, h⟩
        · rw [e3]; rfl
        · rw [h.t]; exact h.t_m
      · rcases trim_cases (holdsT rs nt) a0.data.toList with ⟨h, e1, e2, e3⟩ | ⟨A, M, B, h⟩
        · exact .inl ⟨e3, first_not_none h⟩
        · refine .inr ⟨by rw [h.t]; exact h.ne, by rw [h.t]; exact h.first_m, ?_⟩
          rw [h.first_not, h.tl]
          have := h.len
          have e : a0.data.toList.length = a0.size := rfl
          omega
    obtain ⟨L, R, T, I, eL, eR, eT, kL, kR, kT, eI, lL, lR, lT, hc⟩ := key
    rw [eL, eR, eT]
    have HK := Lib.hid kL
    have HR := Lib.hid kR
    have HT2 := Lib.hid kT
    have HE := Lib.hid eI
    clear eL eR eT kL kR kT eI
    have sz : a0.size ≤ 140737488355328 := by omega
    have hLm : (⟨L.toArray⟩ : ByteArray).size ≤ maxLen := by show L.length ≤ _; omega
    have hRm : (⟨R.toArray⟩ : ByteArray).size ≤ maxLen := by show R.length ≤ _; omega
    have hTm : (⟨T.toArray⟩ : ByteArray).size ≤ maxLen := by show T.length ≤ _; omega
    go_wp2_with (refine wpList_toBytes rfl 9 22 _ rfl 5 Tryd.underlying9 Tryd.underlying22 Tryd.underlying5 _ rfl hLm ?_)
    intro v6 w6 o6 x6
    replace f0 := x6.cell f0
    replace f1 := x6.cell f1
    replace g0 := x6.cell g0
    replace g1 := x6.cell g1
    replace i2 := i2.ext x6
    replace i3 := i3.ext x6
    replace hT := hT.ext x6
    replace X := X.trans x6
    clear x6
    have q6 : Bs w6 v6 L := o6.bs
    have c6 := impl_TrimRightFunc _ _ _ rs nt w6 q6 i2 hT (by omega)
    rw [HK.out] at c6
    go_wp2_with (go_at_call 38; refine c6.mono ?_)
    rintro _ w7 ⟨v7, rfl, o7, x7⟩
    clear q6 c6 o6
    replace f0 := x7.cell f0
    replace f1 := x7.cell f1
    replace g0 := x7.cell g0
    replace g1 := x7.cell g1
    replace i2 := i2.ext x7
    replace i3 := i3.ext x7
    replace hT := hT.ext x7
    replace X := X.trans x7
    clear x7
    have q7 := o7.bs
    clear o7
    go_wp2_with (first | refine wpList_toString rfl 22 9 (.tmp 38) rfl 5 Tryd.underlying22 Tryd.underlying5 Tryd.underlying9 _ _ rfl q7 ?_ | refine wpList_toBytes rfl 9 22 (.tmp 43) rfl 5 Tryd.underlying9 Tryd.underlying22 Tryd.underlying5 _ rfl hRm ?_)
    intro v8 w8 o8 x8
    clear q7
    replace f0 := x8.cell f0
    replace f1 := x8.cell f1
    replace g0 := x8.cell g0
    replace g1 := x8.cell g1
    replace i2 := i2.ext x8
    replace i3 := i3.ext x8
    replace hT := hT.ext x8
    replace X := X.trans x8
    clear x8
    have q8 : Bs w8 v8 R := o8.bs
    have c8 := impl_TrimLeftFunc _ _ _ rs nt w8 q8 i2 hT (by omega)
    rw [HR.out] at c8
    go_wp2_with (go_at_call 32; refine c8.mono ?_)
    rintro _ w9 ⟨v9, rfl, o9, x9⟩
    clear q8 c8 o8
    replace f0 := x9.cell f0
    replace f1 := x9.cell f1
    replace g0 := x9.cell g0
    replace g1 := x9.cell g1
    replace i2 := i2.ext x9
    replace i3 := i3.ext x9
    replace hT := hT.ext x9
    replace X := X.trans x9
    clear x9
    have q9 := o9.bs
    clear o9
    go_wp2_with (first | refine wpList_toString rfl 22 9 (.tmp 46) rfl 5 Tryd.underlying22 Tryd.underlying5 Tryd.underlying9 _ _ rfl q9 ?_ | refine wpList_toBytes rfl 9 22 (.tmp 51) rfl 5 Tryd.underlying9 Tryd.underlying22 Tryd.underlying5 _ rfl hTm ?_)
    intro v10 w10 o10 x10
    clear q9
    replace f0 := x10.cell f0
    replace f1 := x10.cell f1
    replace g0 := x10.cell g0
    replace g1 := x10.cell g1
    replace i2 := i2.ext x10
    replace i3 := i3.ext x10
    replace hT := hT.ext x10
    replace X := X.trans x10
    clear x10
    have q10 : Bs w10 v10 T := o10.bs
    have c10 := impl_TrimFunc _ _ _ rs nt w10 q10 i2 hT (by omega)
    rw [HT2.out] at c10
    go_wp2_with (go_at_call 41; refine c10.mono ?_)
    rintro _ w11 ⟨v11, rfl, o11, x11⟩
    clear q10 c10 o10
    replace f0 := x11.cell f0
    replace f1 := x11.cell f1
    replace g0 := x11.cell g0
    replace g1 := x11.cell g1
    replace i2 := i2.ext x11
    replace i3 := i3.ext x11
    replace hT := hT.ext x11
    replace X := X.trans x11
    clear x11
    have q11 := o11.bs
    clear o11
    rcases hc with ⟨hT0, hI0⟩ | ⟨hne, h0, hsum⟩
    · have hs : T.isEmpty = true := by rw [hT0]; rfl
      rw [hI0] at HE
      clear hT0 hI0
      go_wp2_with (first | refine wpList_toString rfl 22 9 (.tmp 54) rfl 5 Tryd.underlying22 Tryd.underlying5 Tryd.underlying9 _ _ rfl q11 ?_ | refine wpList_toBytes rfl 9 22 (.tmp 61) rfl 5 Tryd.underlying9 Tryd.underlying22 Tryd.underlying5 _ rfl hmax ?_)
      intro v12 w12 o12 x12
      replace f0 := x12.cell f0
      replace f1 := x12.cell f1
      replace g0 := x12.cell g0
      replace g1 := x12.cell g1
      replace i2 := i2.ext x12
      replace i3 := i3.ext x12
      replace hT := hT.ext x12
      replace X := X.trans x12
      clear x12
      have c12 := impl_IndexFunc _ _ _ rs (!nt) w12 o12.bs i3 hT
      rw [HE.out] at c12
      go_wp2_with (go_at_call 19; refine c12.mono ?_)
      rintro _ w13 ⟨rfl, x13⟩
      replace X := X.trans x13
      go_wp2_with fail
      go_ret
      exact ⟨rfl, X.below⟩
    · have hs : T.isEmpty = false := by simpa using hne
      have H0 := Lib.hid h0
      have HS := Lib.hid hsum
      clear hne h0
      go_wp2_with (first | refine wpList_toString rfl 22 9 (.tmp 54) rfl 5 Tryd.underlying22 Tryd.underlying5 Tryd.underlying9 _ _ rfl q11 ?_ | refine wpList_toBytes rfl 9 22 (.tmp 66) rfl 5 Tryd.underlying9 Tryd.underlying22 Tryd.underlying5 _ rfl hTm ?_)
      intro v12 w12 o12 x12
      replace f0 := x12.cell f0
      replace f1 := x12.cell f1
      replace g0 := x12.cell g0
      replace g1 := x12.cell g1
      replace i2 := i2.ext x12
      replace i3 := i3.ext x12
      replace hT := hT.ext x12
      replace X := X.trans x12
      clear x12
      have q12 : Bs w12 v12 T := o12.bs
      have c12 := impl_IndexFunc _ _ _ rs (!nt) w12 q12 i3 hT
      rw [H0.out] at c12
      go_wp2_with (go_at_call 19; refine c12.mono ?_)
      rintro _ w13 ⟨rfl, x13⟩
      clear q12 c12 o12 q11
      replace f0 := x13.cell f0
      replace f1 := x13.cell f1
      replace g0 := x13.cell g0
      replace g1 := x13.cell g1
      replace i2 := i2.ext x13
      replace i3 := i3.ext x13
      replace hT := hT.ext x13
      replace X := X.trans x13
      clear x13
      go_wp2_with (refine wpList_toBytes rfl 9 22 (.tmp 72) rfl 5 Tryd.underlying9 Tryd.underlying22 Tryd.underlying5 _ rfl hmax ?_)
      intro v14 w14 o14 x14
      replace f0 := x14.cell f0
      replace f1 := x14.cell f1
      replace g0 := x14.cell g0
      replace g1 := x14.cell g1
      replace i2 := i2.ext x14
      replace i3 := i3.ext x14
      replace hT := hT.ext x14
      replace X := X.trans x14
      clear x14
      have c14 := impl_IndexFunc _ _ _ rs (!nt) w14 o14.bs i3 hT
      rw [HE.out] at c14
      go_wp2_with (go_at_call 19; refine c14.mono ?_)
      rintro _ w15 ⟨rfl, x15⟩
      replace X := X.trans x15
      have hsum := HS.out
      have hI1 : -1 ≤ I := by omega
      have hI2 : I ≤ a0.size := by omega
      go_wp2_with fail
      go_ret
      exact ⟨rfl, X.below⟩
end Go.Proofs.YtddakfdlgfadeaaDoor
