/- The walk of the law FnFieldsFuncTrim: it returns true where the text has at most 2^20 bytes. Printed by fnfieldsfunctrim.py. -/
import Derived.Test.YtlbaoghebjaliaaDoorAppV
import Derived.Test.YtlbaoghebjaliaaDoorFieldsW
import Derived.Test.YtlbaoghebjaliaaDoorFieldsT
import Derived.Test.YtlbaoghebjaliaaDoorTexts
import Derived.Test.YtlbaoghebjaliaaDoorMono
import Derived.Deep.DeepCutAuto
namespace Go.Proofs.YtlbaoghebjaliaaDoor
open Go.RowKit

set_option maxRecDepth 100000 in
set_option maxHeartbeats 8000000 in
theorem FnFieldsFuncTrim_walk (w : World) (hT : Tabs w) (a0 : ByteArray) (z0 : a0.size ≤ 1048576) (v1 : Value) (rs : List Int) (b1 : Is w v1 rs) (z1 : rs.length ≤ 1048576) (nt : Bool) :
    Calls Tryd.prog 4 #[.string a0, v1, .bool nt] w fun e w' => e = .returned (.bool true) ∧ Below w.heap.size w w' := by
  have hmax : a0.size ≤ maxLen := by unfold maxLen; omega
  have hz2 : rs.length ≤ 35184372088832 := by omega
  have es : a0.data.toList.length = a0.size := rfl
  have key := fields_trim (holdsT rs nt) a0.data.toList
  have key3 := fieldsB_len (holdsT rs nt) a0.data.toList
  have key4 : ∀ x ∈ fieldsB (holdsT rs nt) a0.data.toList, x.length ≤ 1048576 := fun x hx => by
    have h1 := mem_size hx
    have h2 := fieldsB_size (holdsT rs nt) a0.data.toList
    omega
  have key5 := tB_len (holdsT rs nt) a0.data.toList
  obtain ⟨L, hL⟩ : ∃ L, fieldsB (holdsT rs nt) a0.data.toList = L := ⟨_, rfl⟩
  obtain ⟨T, hTT⟩ : ∃ T, tB (holdsT rs nt) a0.data.toList = T := ⟨_, rfl⟩
  rw [hL, hTT] at key
  rw [hL] at key3 key4
  rw [hTT] at key5
  rw [es] at key3 key5
  obtain ⟨keyF, keyC⟩ := key
  obtain ⟨st, hst⟩ : ∃ st, (⟨T.toArray⟩ : ByteArray) = st := ⟨_, rfl⟩
  have HST := Lib.hid hst
  have HSD := Lib.hid (show st.data.toList = T by rw [← hst])
  have hmt : st.size ≤ maxLen := by rw [← hst]; show T.length ≤ _; unfold maxLen; omega
  have hst2 : st.size ≤ 1048576 := by rw [← hst]; show T.length ≤ _; omega
  have HL := Lib.hid hL
  have HTT := Lib.hid hTT
  have KF := Lib.hid keyF
  have KC := Lib.hid keyC
  have K4 := Lib.hid key4
  have hLn : L.length ≤ 1048576 := by omega
  clear hL hTT keyF keyC key4 key3 key5 es hst
  go_enter Tryd.func4, Tryd.ntmps4
  go_wp2_with (go_at_call 15; refine (laws_test _ rs _ _ b1 hz2).mono ?_)
  rintro _ w2 ⟨v2, rfl, i2, x2⟩
  obtain ⟨a2, c2, rfl, _, _, _⟩ := i2.raw
  replace hT := hT.ext x2
  clear b1
  go_upto_region 2 with fail
  obtain ⟨n, hn⟩ : ∃ n, w2.heap.size = n := ⟨_, rfl⟩
  have x4 : Ext w2 (w2.alloc (.cells #[.slice a2 rs.length c2, .bool nt] 24)) := Ext.alloc _ _
  have f0 : (w2.alloc (.cells #[.slice a2 rs.length c2, .bool nt] 24)).cell? ⟨n, 0, none⟩ = some (.slice a2 rs.length c2) := by rw [← hn, World.cell?_alloc_mark]; rfl
  have f1 : (w2.alloc (.cells #[.slice a2 rs.length c2, .bool nt] 24)).cell? ⟨n, 1, none⟩ = some (.bool nt) := by rw [← hn, World.cell?_alloc_mark]; rfl
  obtain ⟨w4, hw4⟩ : ∃ w4, w2.alloc (.cells #[.slice a2 rs.length c2, .bool nt] 24) = w4 := ⟨_, rfl⟩
  rw [hw4] at x4 f0 f1 ⊢
  rw [hn]
  replace i2 := i2.ext x4
  replace hT := hT.ext x4
  have X4 := x2.trans x4
  have HF0 := Lib.hid f0
  have HF1 := Lib.hid f1
  have HI := Lib.hid i2
  have HT := Lib.hid hT
  have HX := Lib.hid X4
  clear hn hw4 x4 x2 X4 f0 f1 i2 hT
  go_cut [8, 9] (fun s8 s9 wx => Ss wx s8 L ∧ s9 = .string st ∧ Ext w4 wx)
  case first =>
    refine wp_region_mono (by kernel_rfl) [13, 14, 15, 16, 17, 18, 19, 20, 21, 22, 8, 9] (by kernel_rfl) (by decide) (by simp) (by kernel_rfl)
      (fun i => match i with | 0 => (fun v w => v = .string a0) | 1 => (fun v w => Bs w v a0.data.toList) | 2 => (fun v w => v = .agg #[.slice a2 rs.length c2, .bool nt]) | 3 => (fun v w => Ls w v L) | 4 => (fun v w => Ss w v L) | 5 => (fun v w => v = .string a0) | 6 => (fun v w => Bs w v a0.data.toList) | 7 => (fun v w => v = .agg #[.slice a2 rs.length c2, .bool nt]) | 8 => (fun v w => Bs w v T) | 9 => (fun v w => v = .string st) | 10 => (fun v w => Ss w v L) | 11 => (fun v w => v = .string st) | _ => fun _ _ => True) ?stable ?steps ?fin
    case stable =>
      intro i v w' w'' h x
      match i, h with
      | 0, h => exact h
      | 1, h => exact (show Bs w' v a0.data.toList from h).ext x
      | 2, h => exact h
      | 3, h => exact (show Ls w' v L from h).ext x
      | 4, h => exact (show Ss w' v L from h).ext x
      | 5, h => exact h
      | 6, h => exact (show Bs w' v a0.data.toList from h).ext x
      | 7, h => exact h
      | 8, h => exact (show Bs w' v T from h).ext x
      | 9, h => exact h
      | 10, h => exact (show Ss w' v L from h).ext x
      | 11, h => exact h
      | _ + 12, _ => trivial
    case steps =>
      refine AllSteps.cons (fun us hus w' x h => ?_) ?_
      · obtain ⟨u0, t0, e0, s0⟩ := len_cons hus; obtain ⟨u1, t1, e1, s1⟩ := len_cons s0; obtain ⟨u2, t2, e2, s2⟩ := len_cons s1; obtain ⟨u3, t3, e3, s3⟩ := len_cons s2; obtain ⟨u4, t4, e4, s4⟩ := len_cons s3; obtain ⟨u5, t5, e5, s5⟩ := len_cons s4; obtain ⟨u6, t6, e6, s6⟩ := len_cons s5; obtain ⟨u7, t7, e7, s7⟩ := len_cons s6; obtain ⟨u8, t8, e8, s8⟩ := len_cons s7; obtain ⟨u9, t9, e9, s9⟩ := len_cons s8; obtain ⟨u10, t10, e10, s10⟩ := len_cons s9; obtain ⟨u11, t11, e11, s11⟩ := len_cons s10
        obtain rfl := len_nil s11
        clear hus s0 s1 s2 s3 s4 s5 s6 s7 s8 s9 s10 s11
        subst e11 e10 e9 e8 e7 e6 e5 e4 e3 e2 e1 e0
        clear h
        simp only [over, Act.put, List.setIfInBounds_toArray, List.set_cons_zero, List.set_cons_succ]
        go_wp2_with fail
        exact postK_normal ⟨_, rfl, rfl, Ext.refl _⟩
      refine AllSteps.cons (fun us hus w' x h => ?_) ?_
      · obtain ⟨u0, t0, e0, s0⟩ := len_cons hus; obtain ⟨u1, t1, e1, s1⟩ := len_cons s0; obtain ⟨u2, t2, e2, s2⟩ := len_cons s1; obtain ⟨u3, t3, e3, s3⟩ := len_cons s2; obtain ⟨u4, t4, e4, s4⟩ := len_cons s3; obtain ⟨u5, t5, e5, s5⟩ := len_cons s4; obtain ⟨u6, t6, e6, s6⟩ := len_cons s5; obtain ⟨u7, t7, e7, s7⟩ := len_cons s6; obtain ⟨u8, t8, e8, s8⟩ := len_cons s7; obtain ⟨u9, t9, e9, s9⟩ := len_cons s8; obtain ⟨u10, t10, e10, s10⟩ := len_cons s9; obtain ⟨u11, t11, e11, s11⟩ := len_cons s10
        obtain rfl := len_nil s11
        clear hus s0 s1 s2 s3 s4 s5 s6 s7 s8 s9 s10 s11
        subst e11 e10 e9 e8 e7 e6 e5 e4 e3 e2 e1 e0
        have h0 : u0 = .string a0 := h 0 (by kernel_rfl)
        clear h
        simp only [over, Act.put, List.setIfInBounds_toArray, List.set_cons_zero, List.set_cons_succ]
        subst h0
        go_wp2_with (refine wpList_toBytes rfl 9 30 _ rfl 5 Tryd.underlying9 Tryd.underlying30 Tryd.underlying5 _ rfl hmax ?_)
        intro v5 w5 o5 x5
        go_wp2_with fail
        exact postK_normal ⟨_, rfl, o5.bs, x5⟩
      refine AllSteps.cons (fun us hus w' x h => ?_) ?_
      · obtain ⟨u0, t0, e0, s0⟩ := len_cons hus; obtain ⟨u1, t1, e1, s1⟩ := len_cons s0; obtain ⟨u2, t2, e2, s2⟩ := len_cons s1; obtain ⟨u3, t3, e3, s3⟩ := len_cons s2; obtain ⟨u4, t4, e4, s4⟩ := len_cons s3; obtain ⟨u5, t5, e5, s5⟩ := len_cons s4; obtain ⟨u6, t6, e6, s6⟩ := len_cons s5; obtain ⟨u7, t7, e7, s7⟩ := len_cons s6; obtain ⟨u8, t8, e8, s8⟩ := len_cons s7; obtain ⟨u9, t9, e9, s9⟩ := len_cons s8; obtain ⟨u10, t10, e10, s10⟩ := len_cons s9; obtain ⟨u11, t11, e11, s11⟩ := len_cons s10
        obtain rfl := len_nil s11
        clear hus s0 s1 s2 s3 s4 s5 s6 s7 s8 s9 s10 s11
        subst e11 e10 e9 e8 e7 e6 e5 e4 e3 e2 e1 e0
        clear h
        simp only [over, Act.put, List.setIfInBounds_toArray, List.set_cons_zero, List.set_cons_succ]
        have f0 := x.cell HF0.out
        have f1 := x.cell HF1.out
        go_wp2_with fail
        exact postK_normal ⟨_, rfl, rfl, Ext.refl _⟩
      refine AllSteps.cons (fun us hus w' x h => ?_) ?_
      · obtain ⟨u0, t0, e0, s0⟩ := len_cons hus; obtain ⟨u1, t1, e1, s1⟩ := len_cons s0; obtain ⟨u2, t2, e2, s2⟩ := len_cons s1; obtain ⟨u3, t3, e3, s3⟩ := len_cons s2; obtain ⟨u4, t4, e4, s4⟩ := len_cons s3; obtain ⟨u5, t5, e5, s5⟩ := len_cons s4; obtain ⟨u6, t6, e6, s6⟩ := len_cons s5; obtain ⟨u7, t7, e7, s7⟩ := len_cons s6; obtain ⟨u8, t8, e8, s8⟩ := len_cons s7; obtain ⟨u9, t9, e9, s9⟩ := len_cons s8; obtain ⟨u10, t10, e10, s10⟩ := len_cons s9; obtain ⟨u11, t11, e11, s11⟩ := len_cons s10
        obtain rfl := len_nil s11
        clear hus s0 s1 s2 s3 s4 s5 s6 s7 s8 s9 s10 s11
        subst e11 e10 e9 e8 e7 e6 e5 e4 e3 e2 e1 e0
        have h1 : Bs w' u1 a0.data.toList := h 1 (by kernel_rfl)
        have h2 : u2 = .agg #[.slice a2 rs.length c2, .bool nt] := h 2 (by kernel_rfl)
        clear h
        simp only [over, Act.put, List.setIfInBounds_toArray, List.set_cons_zero, List.set_cons_succ]
        subst h2
        have c5 := impl_FieldsFunc _ _ _ rs nt _ h1 (HI.out.ext x) (HT.out.ext x) (by show a0.size ≤ _; omega)
        rw [HL.out] at c5
        go_wp2_with (go_at_call 17; refine c5.mono ?_)
        rintro _ w5 ⟨v5, rfl, o5, x5⟩
        go_wp2_with fail
        exact postK_normal ⟨_, rfl, o5.bs, x5⟩
      refine AllSteps.cons (fun us hus w' x h => ?_) ?_
      · obtain ⟨u0, t0, e0, s0⟩ := len_cons hus; obtain ⟨u1, t1, e1, s1⟩ := len_cons s0; obtain ⟨u2, t2, e2, s2⟩ := len_cons s1; obtain ⟨u3, t3, e3, s3⟩ := len_cons s2; obtain ⟨u4, t4, e4, s4⟩ := len_cons s3; obtain ⟨u5, t5, e5, s5⟩ := len_cons s4; obtain ⟨u6, t6, e6, s6⟩ := len_cons s5; obtain ⟨u7, t7, e7, s7⟩ := len_cons s6; obtain ⟨u8, t8, e8, s8⟩ := len_cons s7; obtain ⟨u9, t9, e9, s9⟩ := len_cons s8; obtain ⟨u10, t10, e10, s10⟩ := len_cons s9; obtain ⟨u11, t11, e11, s11⟩ := len_cons s10
        obtain rfl := len_nil s11
        clear hus s0 s1 s2 s3 s4 s5 s6 s7 s8 s9 s10 s11
        subst e11 e10 e9 e8 e7 e6 e5 e4 e3 e2 e1 e0
        have h3 : Ls w' u3 L := h 3 (by kernel_rfl)
        clear h
        simp only [over, Act.put, List.setIfInBounds_toArray, List.set_cons_zero, List.set_cons_succ]
        go_wp2_with (go_at_call 16; refine (laws_texts _ L _ h3 (by omega)).mono ?_)
        rintro _ w5 ⟨v5, rfl, o5, x5⟩
        go_wp2_with fail
        exact postK_normal ⟨_, rfl, o5, x5⟩
      refine AllSteps.cons (fun us hus w' x h => ?_) ?_
      · obtain ⟨u0, t0, e0, s0⟩ := len_cons hus; obtain ⟨u1, t1, e1, s1⟩ := len_cons s0; obtain ⟨u2, t2, e2, s2⟩ := len_cons s1; obtain ⟨u3, t3, e3, s3⟩ := len_cons s2; obtain ⟨u4, t4, e4, s4⟩ := len_cons s3; obtain ⟨u5, t5, e5, s5⟩ := len_cons s4; obtain ⟨u6, t6, e6, s6⟩ := len_cons s5; obtain ⟨u7, t7, e7, s7⟩ := len_cons s6; obtain ⟨u8, t8, e8, s8⟩ := len_cons s7; obtain ⟨u9, t9, e9, s9⟩ := len_cons s8; obtain ⟨u10, t10, e10, s10⟩ := len_cons s9; obtain ⟨u11, t11, e11, s11⟩ := len_cons s10
        obtain rfl := len_nil s11
        clear hus s0 s1 s2 s3 s4 s5 s6 s7 s8 s9 s10 s11
        subst e11 e10 e9 e8 e7 e6 e5 e4 e3 e2 e1 e0
        clear h
        simp only [over, Act.put, List.setIfInBounds_toArray, List.set_cons_zero, List.set_cons_succ]
        go_wp2_with fail
        exact postK_normal ⟨_, rfl, rfl, Ext.refl _⟩
      refine AllSteps.cons (fun us hus w' x h => ?_) ?_
      · obtain ⟨u0, t0, e0, s0⟩ := len_cons hus; obtain ⟨u1, t1, e1, s1⟩ := len_cons s0; obtain ⟨u2, t2, e2, s2⟩ := len_cons s1; obtain ⟨u3, t3, e3, s3⟩ := len_cons s2; obtain ⟨u4, t4, e4, s4⟩ := len_cons s3; obtain ⟨u5, t5, e5, s5⟩ := len_cons s4; obtain ⟨u6, t6, e6, s6⟩ := len_cons s5; obtain ⟨u7, t7, e7, s7⟩ := len_cons s6; obtain ⟨u8, t8, e8, s8⟩ := len_cons s7; obtain ⟨u9, t9, e9, s9⟩ := len_cons s8; obtain ⟨u10, t10, e10, s10⟩ := len_cons s9; obtain ⟨u11, t11, e11, s11⟩ := len_cons s10
        obtain rfl := len_nil s11
        clear hus s0 s1 s2 s3 s4 s5 s6 s7 s8 s9 s10 s11
        subst e11 e10 e9 e8 e7 e6 e5 e4 e3 e2 e1 e0
        have h5 : u5 = .string a0 := h 5 (by kernel_rfl)
        clear h
        simp only [over, Act.put, List.setIfInBounds_toArray, List.set_cons_zero, List.set_cons_succ]
        subst h5
        go_wp2_with (refine wpList_toBytes rfl 9 30 _ rfl 5 Tryd.underlying9 Tryd.underlying30 Tryd.underlying5 _ rfl hmax ?_)
        intro v5 w5 o5 x5
        go_wp2_with fail
        exact postK_normal ⟨_, rfl, o5.bs, x5⟩
      refine AllSteps.cons (fun us hus w' x h => ?_) ?_
      · obtain ⟨u0, t0, e0, s0⟩ := len_cons hus; obtain ⟨u1, t1, e1, s1⟩ := len_cons s0; obtain ⟨u2, t2, e2, s2⟩ := len_cons s1; obtain ⟨u3, t3, e3, s3⟩ := len_cons s2; obtain ⟨u4, t4, e4, s4⟩ := len_cons s3; obtain ⟨u5, t5, e5, s5⟩ := len_cons s4; obtain ⟨u6, t6, e6, s6⟩ := len_cons s5; obtain ⟨u7, t7, e7, s7⟩ := len_cons s6; obtain ⟨u8, t8, e8, s8⟩ := len_cons s7; obtain ⟨u9, t9, e9, s9⟩ := len_cons s8; obtain ⟨u10, t10, e10, s10⟩ := len_cons s9; obtain ⟨u11, t11, e11, s11⟩ := len_cons s10
        obtain rfl := len_nil s11
        clear hus s0 s1 s2 s3 s4 s5 s6 s7 s8 s9 s10 s11
        subst e11 e10 e9 e8 e7 e6 e5 e4 e3 e2 e1 e0
        clear h
        simp only [over, Act.put, List.setIfInBounds_toArray, List.set_cons_zero, List.set_cons_succ]
        have f0 := x.cell HF0.out
        have f1 := x.cell HF1.out
        go_wp2_with fail
        exact postK_normal ⟨_, rfl, rfl, Ext.refl _⟩
      refine AllSteps.cons (fun us hus w' x h => ?_) ?_
      · obtain ⟨u0, t0, e0, s0⟩ := len_cons hus; obtain ⟨u1, t1, e1, s1⟩ := len_cons s0; obtain ⟨u2, t2, e2, s2⟩ := len_cons s1; obtain ⟨u3, t3, e3, s3⟩ := len_cons s2; obtain ⟨u4, t4, e4, s4⟩ := len_cons s3; obtain ⟨u5, t5, e5, s5⟩ := len_cons s4; obtain ⟨u6, t6, e6, s6⟩ := len_cons s5; obtain ⟨u7, t7, e7, s7⟩ := len_cons s6; obtain ⟨u8, t8, e8, s8⟩ := len_cons s7; obtain ⟨u9, t9, e9, s9⟩ := len_cons s8; obtain ⟨u10, t10, e10, s10⟩ := len_cons s9; obtain ⟨u11, t11, e11, s11⟩ := len_cons s10
        obtain rfl := len_nil s11
        clear hus s0 s1 s2 s3 s4 s5 s6 s7 s8 s9 s10 s11
        subst e11 e10 e9 e8 e7 e6 e5 e4 e3 e2 e1 e0
        have h6 : Bs w' u6 a0.data.toList := h 6 (by kernel_rfl)
        have h7 : u7 = .agg #[.slice a2 rs.length c2, .bool nt] := h 7 (by kernel_rfl)
        clear h
        simp only [over, Act.put, List.setIfInBounds_toArray, List.set_cons_zero, List.set_cons_succ]
        subst h7
        have c5 := impl_TrimFunc _ _ _ rs nt _ h6 (HI.out.ext x) (HT.out.ext x) (by show a0.size ≤ _; omega)
        rw [HTT.out] at c5
        go_wp2_with (go_at_call 21; refine c5.mono ?_)
        rintro _ w5 ⟨v5, rfl, o5, x5⟩
        go_wp2_with fail
        exact postK_normal ⟨_, rfl, o5.bs, x5⟩
      refine AllSteps.cons (fun us hus w' x h => ?_) ?_
      · obtain ⟨u0, t0, e0, s0⟩ := len_cons hus; obtain ⟨u1, t1, e1, s1⟩ := len_cons s0; obtain ⟨u2, t2, e2, s2⟩ := len_cons s1; obtain ⟨u3, t3, e3, s3⟩ := len_cons s2; obtain ⟨u4, t4, e4, s4⟩ := len_cons s3; obtain ⟨u5, t5, e5, s5⟩ := len_cons s4; obtain ⟨u6, t6, e6, s6⟩ := len_cons s5; obtain ⟨u7, t7, e7, s7⟩ := len_cons s6; obtain ⟨u8, t8, e8, s8⟩ := len_cons s7; obtain ⟨u9, t9, e9, s9⟩ := len_cons s8; obtain ⟨u10, t10, e10, s10⟩ := len_cons s9; obtain ⟨u11, t11, e11, s11⟩ := len_cons s10
        obtain rfl := len_nil s11
        clear hus s0 s1 s2 s3 s4 s5 s6 s7 s8 s9 s10 s11
        subst e11 e10 e9 e8 e7 e6 e5 e4 e3 e2 e1 e0
        have h8 : Bs w' u8 T := h 8 (by kernel_rfl)
        clear h
        simp only [over, Act.put, List.setIfInBounds_toArray, List.set_cons_zero, List.set_cons_succ]
        go_wp2_with (refine wpList_toString rfl 30 9 _ rfl 5 Tryd.underlying30 Tryd.underlying5 Tryd.underlying9 _ _ rfl h8 ?_)
        rw [HST.out]
        go_wp2_with fail
        exact postK_normal ⟨_, rfl, rfl, Ext.refl _⟩
      refine AllSteps.cons (fun us hus w' x h => ?_) ?_
      · obtain ⟨u0, t0, e0, s0⟩ := len_cons hus; obtain ⟨u1, t1, e1, s1⟩ := len_cons s0; obtain ⟨u2, t2, e2, s2⟩ := len_cons s1; obtain ⟨u3, t3, e3, s3⟩ := len_cons s2; obtain ⟨u4, t4, e4, s4⟩ := len_cons s3; obtain ⟨u5, t5, e5, s5⟩ := len_cons s4; obtain ⟨u6, t6, e6, s6⟩ := len_cons s5; obtain ⟨u7, t7, e7, s7⟩ := len_cons s6; obtain ⟨u8, t8, e8, s8⟩ := len_cons s7; obtain ⟨u9, t9, e9, s9⟩ := len_cons s8; obtain ⟨u10, t10, e10, s10⟩ := len_cons s9; obtain ⟨u11, t11, e11, s11⟩ := len_cons s10
        obtain rfl := len_nil s11
        clear hus s0 s1 s2 s3 s4 s5 s6 s7 s8 s9 s10 s11
        subst e11 e10 e9 e8 e7 e6 e5 e4 e3 e2 e1 e0
        have h4 : Ss w' u4 L := h 4 (by kernel_rfl)
        clear h
        simp only [over, Act.put, List.setIfInBounds_toArray, List.set_cons_zero, List.set_cons_succ]
        obtain ⟨a5, c5, e5, _⟩ := h4.raw
        subst e5
        go_wp2_with fail
        exact postK_normal ⟨_, rfl, h4, Ext.refl _⟩
      refine AllSteps.cons (fun us hus w' x h => ?_) ?_
      · obtain ⟨u0, t0, e0, s0⟩ := len_cons hus; obtain ⟨u1, t1, e1, s1⟩ := len_cons s0; obtain ⟨u2, t2, e2, s2⟩ := len_cons s1; obtain ⟨u3, t3, e3, s3⟩ := len_cons s2; obtain ⟨u4, t4, e4, s4⟩ := len_cons s3; obtain ⟨u5, t5, e5, s5⟩ := len_cons s4; obtain ⟨u6, t6, e6, s6⟩ := len_cons s5; obtain ⟨u7, t7, e7, s7⟩ := len_cons s6; obtain ⟨u8, t8, e8, s8⟩ := len_cons s7; obtain ⟨u9, t9, e9, s9⟩ := len_cons s8; obtain ⟨u10, t10, e10, s10⟩ := len_cons s9; obtain ⟨u11, t11, e11, s11⟩ := len_cons s10
        obtain rfl := len_nil s11
        clear hus s0 s1 s2 s3 s4 s5 s6 s7 s8 s9 s10 s11
        subst e11 e10 e9 e8 e7 e6 e5 e4 e3 e2 e1 e0
        have h9 : u9 = .string st := h 9 (by kernel_rfl)
        clear h
        simp only [over, Act.put, List.setIfInBounds_toArray, List.set_cons_zero, List.set_cons_succ]
        subst h9
        go_wp2_with fail
        exact postK_normal ⟨_, rfl, rfl, Ext.refl _⟩
      exact AllSteps.nil
    case fin =>
      intro us hus w' x h
      obtain ⟨u0, t0, e0, s0⟩ := len_cons hus; obtain ⟨u1, t1, e1, s1⟩ := len_cons s0; obtain ⟨u2, t2, e2, s2⟩ := len_cons s1; obtain ⟨u3, t3, e3, s3⟩ := len_cons s2; obtain ⟨u4, t4, e4, s4⟩ := len_cons s3; obtain ⟨u5, t5, e5, s5⟩ := len_cons s4; obtain ⟨u6, t6, e6, s6⟩ := len_cons s5; obtain ⟨u7, t7, e7, s7⟩ := len_cons s6; obtain ⟨u8, t8, e8, s8⟩ := len_cons s7; obtain ⟨u9, t9, e9, s9⟩ := len_cons s8; obtain ⟨u10, t10, e10, s10⟩ := len_cons s9; obtain ⟨u11, t11, e11, s11⟩ := len_cons s10
      obtain rfl := len_nil s11
      clear hus s0 s1 s2 s3 s4 s5 s6 s7 s8 s9 s10 s11
      subst e11 e10 e9 e8 e7 e6 e5 e4 e3 e2 e1 e0
      have h10 : Ss w' u10 L := h 10 (by decide)
      have h11 : u11 = .string st := h 11 (by decide)
      clear h
      subst h11
      simp only [over, Act.put, List.setIfInBounds_toArray, List.set_cons_zero, List.set_cons_succ]
      go_wp2_with fail
      go_meet
      exact ⟨h10, rfl, x⟩
  case rest =>
    obtain ⟨s8, rfl, x5⟩ := hcut
    obtain ⟨w5, hw5⟩ : ∃ w5, w5 = wc := ⟨_, rfl⟩
    subst hw5
    have f0 := x5.cell HF0.out
    have f1 := x5.cell HF1.out
    have i2 := HI.out.ext x5
    have hT := HT.out.ext x5
    have X := HX.out.trans x5
    clear HF0 HF1 HI HT HX x5
    obtain ⟨a8, c8, e8, p8, q8, r8⟩ := s8.raw
    subst e8
    have hc8 : c8 ≤ 9223372036854775807 := by unfold maxLen at q8; omega
    have HR := Lib.hid r8
    clear q8 r8
    go_wp2_with (refine wpList_toBytes rfl 9 30 _ rfl 5 Tryd.underlying9 Tryd.underlying30 Tryd.underlying5 _ rfl hmt ?_)
    intro v6 w6 o6 x6
    have o6 : Bs w6 v6 T := HSD.out ▸ o6.bs
    replace f0 := x6.cell f0
    replace f1 := x6.cell f1
    replace i2 := i2.ext x6
    replace hT := hT.ext x6
    replace s8 := s8.ext x6
    replace X := X.trans x6
    have Y := x6
    clear x6
    have c7 := impl_FieldsFunc _ _ _ rs nt _ o6 i2 hT (by rw [← HSD.out]; show st.size ≤ _; omega)
    rw [KF.out] at c7
    go_wp2_with (go_at_call 17; refine c7.mono ?_)
    rintro _ w7 ⟨v7, rfl, o7, x7⟩
    replace f0 := x7.cell f0
    replace f1 := x7.cell f1
    replace i2 := i2.ext x7
    replace s8 := s8.ext x7
    replace X := X.trans x7
    replace Y := Y.trans x7
    clear x7 c7 o6 hT
    go_wp2_with (go_at_call 16; refine (laws_texts _ L _ o7.bs (by omega)).mono ?_)
    rintro _ w8 ⟨v8, rfl, o8, x8⟩
    replace f0 := x8.cell f0
    replace f1 := x8.cell f1
    replace i2 := i2.ext x8
    replace s8 := s8.ext x8
    replace X := X.trans x8
    replace Y := Y.trans x8
    clear x8 o7
    go_wp2_with (go_at_call 22; refine (laws_same _ _ L L _ o8 s8 rfl).mono ?_)
    rintro _ w9 ⟨rfl, x9⟩
    replace f0 := x9.cell f0
    replace f1 := x9.cell f1
    replace i2 := i2.ext x9
    replace X := X.trans x9
    replace Y := Y.trans x9
    clear x9 o8 s8
    go_wp2_with (refine wpList_toBytes rfl 9 30 _ rfl 5 Tryd.underlying9 Tryd.underlying30 Tryd.underlying5 _ rfl hmax ?_)
    intro v10 w10 o10 x10
    replace f0 := x10.cell f0
    replace f1 := x10.cell f1
    replace i2 := i2.ext x10
    replace X := X.trans x10
    replace Y := Y.trans x10
    have c11 := spec_TrimFunc _ _ _ rs nt _ (by show a0.size ≤ _; omega) o10.bs i2
    rw [HTT.out] at c11
    clear x10 o10
    go_wp2_with (go_at_call 23; refine c11.mono ?_)
    rintro _ w11 ⟨v11, rfl, o11, x11⟩
    replace X := X.trans x11
    replace Y := Y.trans x11
    clear x11 c11 f0 f1 i2
    have o11 := o11.bs
    rcases KC.out with ⟨hL0, hT0⟩ | ⟨x, L', y, D, e1, e2, hTn, hp, hs⟩
    · have hq : ((L.length : Int) == 0) = true := by rw [hL0]; rfl
      have hn2 : T.isEmpty = true := by rw [hT0]; rfl
      clear hL0 hT0
      rw [hq]
      go_wp2_with (refine wpList_toString rfl 30 9 _ rfl 5 Tryd.underlying30 Tryd.underlying5 Tryd.underlying9 _ _ rfl o11 ?_)
      rw [HST.out]
      go_wp2_with fail
      go_ret
      exact ⟨rfl, X.below⟩
    · have hq : ((L.length : Int) == 0) = false := by rw [e1]; simp; omega
      have hn2 : T.isEmpty = false := by simpa using hTn
      have hLp : 0 < L.length := by rw [e1]; simp
      obtain ⟨m, hm⟩ : ∃ m, L.length = m + 1 := ⟨L.length - 1, by omega⟩
      have x0 := Lib.hid (show L[0]'(by omega) = x by simp [e1])
      have y0 := Lib.hid (show L[m]'(by omega) = y by
        have hD : D.length = m := by have := congrArg List.length e2; simp at this; omega
        simp [e2, ← hD])
      have HP := Lib.hid hp
      have HS := Lib.hid hs
      have kx := K4.out x (by rw [e1]; simp)
      have ky := K4.out y (by rw [e2]; simp)
      obtain ⟨b, o, ha, d0⟩ := HR.out 0 (by omega)
      obtain ⟨b', o', ha', d1⟩ := HR.out m (by omega)
      rw [ha] at ha'
      injection ha' with ha'
      injection ha' with hb1 ho1 _
      subst hb1 ho1
      subst ha
      rw [x0.out, Nat.add_zero] at d0
      rw [y0.out] at d1
      replace d0 := Y.cell d0
      replace d1 := Y.cell d1
      obtain ⟨sx, hsx⟩ : ∃ s, (⟨x.toArray⟩ : ByteArray) = s := ⟨_, rfl⟩
      obtain ⟨sy, hsy⟩ : ∃ s, (⟨y.toArray⟩ : ByteArray) = s := ⟨_, rfl⟩
      rw [hsx] at d0
      rw [hsy] at d1
      have HX1 := Lib.hid (show sx.data.toList = x by rw [← hsx])
      have HY1 := Lib.hid (show sy.data.toList = y by rw [← hsy])
      have mx : sx.size ≤ maxLen := by rw [← hsx]; show x.length ≤ _; unfold maxLen; omega
      have my : sy.size ≤ maxLen := by rw [← hsy]; show y.length ≤ _; unfold maxLen; omega
      have hle : L.length ≤ c8 := p8
      clear hTn hp hs e1 e2 hsx hsy x0 y0 HR
      have hq2 : ((m : Int) + 1 == 0) = false := by rw [beq_eq_false_iff_ne]; omega
      rw [hm] at hq hle ⊢
      rw [hq]
      have hst3 : (⟨T.toArray⟩ : ByteArray).toList.isEmpty = false := by rw [ByteArray.toList_eq]; exact hn2
      go_wp2_with (first | refine wpList_toString rfl 30 9 _ rfl 5 Tryd.underlying30 Tryd.underlying5 Tryd.underlying9 _ _ rfl o11 ?_ | refine wpList_toBytes rfl 9 30 _ rfl 5 Tryd.underlying9 Tryd.underlying30 Tryd.underlying5 _ rfl hmt ?_)
      intro v12 w12 o12 x12
      have o12 : Bs w12 v12 T := HSD.out ▸ o12.bs
      replace d0 := x12.cell d0
      replace d1 := x12.cell d1
      replace X := X.trans x12
      clear x12
      go_wp2_with (refine wpList_toBytes rfl 9 30 _ rfl 5 Tryd.underlying9 Tryd.underlying30 Tryd.underlying5 _ rfl mx ?_)
      intro v13 w13 o13 x13
      have o13 : Bs w13 v13 x := HX1.out ▸ o13.bs
      replace d1 := x13.cell d1
      replace X := X.trans x13
      have c14 := impl_HasPrefix _ _ T x _ (o12.ext x13) o13
      rw [HP.out] at c14
      clear x13 o12 o13 d0
      go_wp2_with (go_at_call 24; refine c14.mono ?_)
      rintro _ w14 ⟨rfl, rfl⟩
      clear c14
      go_wp2_with (refine wpList_toBytes rfl 9 30 _ rfl 5 Tryd.underlying9 Tryd.underlying30 Tryd.underlying5 _ rfl hmt ?_)
      intro v15 w15 o15 x15
      have o15 : Bs w15 v15 T := HSD.out ▸ o15.bs
      replace d1 := x15.cell d1
      replace X := X.trans x15
      clear x15
      go_wp2_with (refine wpList_toBytes rfl 9 30 _ rfl 5 Tryd.underlying9 Tryd.underlying30 Tryd.underlying5 _ rfl my ?_)
      intro v16 w16 o16 x16
      have o16 : Bs w16 v16 y := HY1.out ▸ o16.bs
      replace X := X.trans x16
      have c17 := impl_HasSuffix _ _ T y _ (o15.ext x16) o16
      rw [HS.out] at c17
      clear x16 o15 o16 d1
      go_wp2_with (go_at_call 25; refine c17.mono ?_)
      rintro _ w17 ⟨rfl, rfl⟩
      go_wp2_with fail
      go_ret
      exact ⟨rfl, X.below⟩
end Go.Proofs.YtlbaoghebjaliaaDoor
