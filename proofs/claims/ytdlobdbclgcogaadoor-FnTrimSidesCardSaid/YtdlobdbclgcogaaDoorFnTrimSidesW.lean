/- The walk of the law FnTrimSides: it returns true for every input. Printed by testlaws.py. -/
import Derived.Test.YtdlobdbclgcogaaDoorCutW
import Derived.Test.YtdlobdbclgcogaaDoorMonoQ
import Derived.Test.YtdlobdbclgcogaaDoorPlainB
import Derived.Test.YtdlobdbclgcogaaDoorWrapA
import Derived.Deep.DeepCutAuto
namespace Go.Proofs.YtdlobdbclgcogaaDoor
open Go.RowKit

theorem trim_sides (p : Int → Bool) (l : List UInt8) : trB p (tlB p l) = tB p l ∧ tlB p (trB p l) = tB p l ∧ hasSuf l (tlB p l) = true ∧ hasPre l (trB p l) = true ∧ (tB p l).length ≤ (tlB p l).length + (trB p l).length ∧
    (l = [] ∨ l ≠ [] ∧ (tlB p l).length + (trB p l).length = l.length + (tB p l).length ∨ l ≠ [] ∧ (tlB p l).length + (trB p l).length ≠ l.length + (tB p l).length ∧ tB p l = []) := by
  refine ⟨rfl, tB_trB p l, ?_, ?_, ?_, ?_⟩
  · rcases trim_cases p l with ⟨_, h1, h2, h3⟩ | ⟨A, M, B, h⟩
    · rw [h1]; exact hasSuf_iff.2 ⟨l, by simp⟩
    · rw [h.tl]
      refine hasSuf_iff.2 ⟨glue A, ?_⟩
      rw [← glue_append, ← List.append_assoc, ← h.cut, glue_chunks]
  · rcases trim_cases p l with ⟨_, h1, h2, h3⟩ | ⟨A, M, B, h⟩
    · rw [h2]; exact hasPre_iff.2 ⟨l, by simp⟩
    · rw [h.tr]
      refine hasPre_iff.2 ⟨glue B, ?_⟩
      rw [← glue_append, ← h.cut, glue_chunks]
  · have := trB_len p (tlB p l)
    show (trB p (tlB p l)).length ≤ _
    omega
  · by_cases hl : l = []
    · exact .inl hl
    · right
      rcases trim_cases p l with ⟨_, h1, h2, h3⟩ | ⟨A, M, B, h⟩
      · right
        rw [h1, h2, h3]
        refine ⟨hl, ?_, rfl⟩
        have := List.length_pos_iff.2 hl
        simp
        omega
      · left
        refine ⟨hl, ?_⟩
        have e := h.len3
        rw [h.tl, h.tr, h.t, glue_append, glue_append, List.length_append, List.length_append]
        omega

theorem lc10 {us : List Value} {n : Nat} (hus : us.length = n + 10) : ∃ u0 u1 u2 u3 u4 u5 u6 u7 u8 u9 t, us = u0 :: u1 :: u2 :: u3 :: u4 :: u5 :: u6 :: u7 :: u8 :: u9 :: t ∧ t.length = n := by
  obtain ⟨u0, t0, e0, s0⟩ := len_cons hus; obtain ⟨u1, t1, e1, s1⟩ := len_cons s0; obtain ⟨u2, t2, e2, s2⟩ := len_cons s1; obtain ⟨u3, t3, e3, s3⟩ := len_cons s2; obtain ⟨u4, t4, e4, s4⟩ := len_cons s3; obtain ⟨u5, t5, e5, s5⟩ := len_cons s4; obtain ⟨u6, t6, e6, s6⟩ := len_cons s5; obtain ⟨u7, t7, e7, s7⟩ := len_cons s6; obtain ⟨u8, t8, e8, s8⟩ := len_cons s7; obtain ⟨u9, t9, e9, s9⟩ := len_cons s8
  subst e9 e8 e7 e6 e5 e4 e3 e2 e1 e0
  exact ⟨_, _, _, _, _, _, _, _, _, _, _, rfl, s9⟩
set_option maxRecDepth 100000 in
set_option maxHeartbeats 16000000 in
theorem FnTrimSides_walk (w : World) (hT : Tabs w) (a0 : ByteArray) (z0 : a0.size ≤ 140737488351232) (a1 : ByteArray) (z1 : a1.size ≤ 140737488351232) :
    Calls Tryd.prog 8 #[.string a0, .string a1] w fun e w' => e = .returned (.bool true) ∧ Below w.heap.size w w' := by
  have hmax : a0.size ≤ maxLen := by unfold maxLen; omega
  have LTL := tlB_len (inP a1.data.toList) a0.data.toList
  have LTR := trB_len (inP a1.data.toList) a0.data.toList
  have LTT := tB_len (inP a1.data.toList) a0.data.toList
  have ea : a0.data.toList.length = a0.size := rfl
  rw [ea] at LTL LTR LTT
  have PL := trim_sides (inP a1.data.toList) a0.data.toList
  obtain ⟨TL, hTL⟩ : ∃ x, tlB (inP a1.data.toList) a0.data.toList = x := ⟨_, rfl⟩
  obtain ⟨TR, hTR⟩ : ∃ x, trB (inP a1.data.toList) a0.data.toList = x := ⟨_, rfl⟩
  obtain ⟨TT, hTT⟩ : ∃ x, tB (inP a1.data.toList) a0.data.toList = x := ⟨_, rfl⟩
  rw [hTL] at LTL
  rw [hTR] at LTR
  rw [hTT] at LTT
  simp only [hTL, hTR, hTT] at PL
  have HTL := Lib.hid hTL
  have HTR := Lib.hid hTR
  have HTT := Lib.hid hTT
  have ml : (⟨TL.toArray⟩ : ByteArray).size ≤ maxLen := by show TL.length ≤ _; unfold maxLen; omega
  have mr : (⟨TR.toArray⟩ : ByteArray).size ≤ maxLen := by show TR.length ≤ _; unfold maxLen; omega
  have hT0 := hT
  obtain ⟨p1, p2, p3, p4, p5, key⟩ := PL
  have HP1 := Lib.hid p1
  have HP2 := Lib.hid p2
  have HP3 := Lib.hid p3
  have HP4 := Lib.hid p4
  have HGE := Lib.hid (show (TT.length : Int) ≤ (TL.length : Int) + (TR.length : Int) by omega)
  have HN := Lib.hid (show tB (inP (⟨#[]⟩ : ByteArray).data.toList) a0.data.toList = a0.data.toList from tB_never inP_nil _)
  have HW1 := Lib.hid (show (a0.data.toList == a0.toList) = true by rw [ByteArray.toList_eq]; simp)
  have HA := Lib.hid (show a0.data.toList.length ≤ 140737488355328 by show a0.size ≤ _; omega)
  obtain ⟨E0, he0⟩ : ∃ E0, a0.toList.isEmpty = E0 := ⟨_, rfl⟩
  obtain ⟨E1, he1⟩ : ∃ E1, ((TL.length : Int) + (TR.length : Int) - (TT.length : Int) == (a0.size : Int)) = E1 := ⟨_, rfl⟩
  obtain ⟨E2, he2⟩ : ∃ E2, TT.isEmpty = E2 := ⟨_, rfl⟩
  obtain ⟨F, hF⟩ : ∃ F, F = (E0 || E1) := ⟨_, rfl⟩
  have HE0 := Lib.hid he0
  have HE1 := Lib.hid he1
  have HE2 := Lib.hid he2
  have HFF := Lib.hid hF
  have HEF := Lib.hid (show F = false → E2 = true by
    intro hf
    rw [hF, Bool.or_eq_false_iff] at hf
    rw [ea] at key
    rcases key with k | ⟨_, k2⟩ | ⟨_, _, k3⟩
    · rw [← he0, ByteArray.toList_eq, k] at hf
      exact absurd hf.1 (by simp)
    · rw [← he1, beq_eq_false_iff_ne] at hf
      exact absurd (by omega) hf.2
    · rw [← he2, k3]; rfl)
  have HT := Lib.hid hT
  clear p1 p2 p3 p4 p5 key hT hTL hTR hTT ea he0 he1 he2 hF
  go_enter Tryd.func8, Tryd.ntmps8
  go_upto_region 1 with fail
  go_cut [5, 6] (fun s5 s6 wx => s5 = .string ⟨TL.toArray⟩ ∧ s6 = .string ⟨TR.toArray⟩ ∧ Ext w wx)
  case first =>
    refine wp_region_mono (by kernel_rfl) [8, 9, 10, 11, 12, 13, 14, 15, 16, 17, 5, 6] (by kernel_rfl) (by decide) (by simp) (by kernel_rfl)
      (fun i => match i with | 0 => (fun v w => v = .string a0) | 1 => (fun v w => Bs w v a0.data.toList) | 2 => (fun v w => v = .string a1) | 3 => (fun v w => Bs w v TL) | 4 => (fun v w => v = .string ⟨TL.toArray⟩) | 5 => (fun v w => v = .string a0) | 6 => (fun v w => Bs w v a0.data.toList) | 7 => (fun v w => v = .string a1) | 8 => (fun v w => Bs w v TR) | 9 => (fun v w => v = .string ⟨TR.toArray⟩) | 10 => (fun v w => v = .string ⟨TL.toArray⟩) | 11 => (fun v w => v = .string ⟨TR.toArray⟩) | _ => fun _ _ => True) ?stable ?steps ?fin
    case stable =>
      intro i v w' w'' h x
      match i, h with
      | 0, h => exact h
      | 1, h => exact (show Bs w' v a0.data.toList from h).ext x
      | 2, h => exact h
      | 3, h => exact (show Bs w' v TL from h).ext x
      | 4, h => exact h
      | 5, h => exact h
      | 6, h => exact (show Bs w' v a0.data.toList from h).ext x
      | 7, h => exact h
      | 8, h => exact (show Bs w' v TR from h).ext x
      | 9, h => exact h
      | 10, h => exact h
      | 11, h => exact h
      | _ + 12, _ => trivial
    case steps =>
      refine AllSteps.cons (fun us hus w' x h => ?_) ?_
      · obtain ⟨u0, t0, e0, s0⟩ := len_cons hus; obtain ⟨u1, t1, e1, s1⟩ := len_cons s0; obtain ⟨u2, t2, e2, s2⟩ := len_cons s1; obtain ⟨u3, t3, e3, s3⟩ := len_cons s2; obtain ⟨u4, t4, e4, s4⟩ := len_cons s3; obtain ⟨u5, t5, e5, s5⟩ := len_cons s4; obtain ⟨u6, t6, e6, s6⟩ := len_cons s5; obtain ⟨u7, t7, e7, s7⟩ := len_cons s6; obtain ⟨u8, t8, e8, s8⟩ := len_cons s7; obtain ⟨u9, t9, e9, s9⟩ := len_cons s8; obtain ⟨u10, t10, e10, s10⟩ := len_cons s9; obtain ⟨u11, t11, e11, s11⟩ := len_cons s10
        obtain rfl := len_nil s11
        clear hus s0 s1 s2 s3 s4 s5 s6 s7 s8 s9 s10 s11
        subst e11 e10 e9 e8 e7 e6 e5 e4 e3 e2 e1 e0
        clear h
        simp only [over, Act.put, List.setIfInBounds_toArray, List.set_cons_zero, List.set_cons_succ]
        go_wp2_with fail
        exact postK_normal ⟨_, rfl, rfl, Ext.refl _⟩
      refine AllSteps.cons (fun us hus w' x h => ?_) ?_
      · obtain ⟨u0, t0, e0, s0⟩ := len_cons hus; obtain ⟨u1, t1, e1, s1⟩ := len_cons s0; obtain ⟨u2, t2, e2, s2⟩ := len_cons s1; obtain ⟨u3, t3, e3, s3⟩ := len_cons s2; obtain ⟨u4, t4, e4, s4⟩ := len_cons s3; obtain ⟨u5, t5, e5, s5⟩ := len_cons s4; obtain ⟨u6, t6, e6, s6⟩ := len_cons s5; obtain ⟨u7, t7, e7, s7⟩ := len_cons s6; obtain ⟨u8, t8, e8, s8⟩ := len_cons s7; obtain ⟨u9, t9, e9, s9⟩ := len_cons s8; obtain ⟨u10, t10, e10, s10⟩ := len_cons s9; obtain ⟨u11, t11, e11, s11⟩ := len_cons s10
        obtain rfl := len_nil s11
        clear hus s0 s1 s2 s3 s4 s5 s6 s7 s8 s9 s10 s11
        subst e11 e10 e9 e8 e7 e6 e5 e4 e3 e2 e1 e0
        have h0 : u0 = .string a0 := h 0 (by kernel_rfl)
        clear h
        simp only [over, Act.put, List.setIfInBounds_toArray, List.set_cons_zero, List.set_cons_succ]
        subst h0
        go_wp2_with (refine wpList_toBytes rfl 9 24 _ rfl 5 Tryd.underlying9 Tryd.underlying24 Tryd.underlying5 _ rfl hmax ?_)
        intro v5 w5 o5 x5
        go_wp2_with fail
        exact postK_normal ⟨_, rfl, o5.bs, x5⟩
      refine AllSteps.cons (fun us hus w' x h => ?_) ?_
      · obtain ⟨u0, t0, e0, s0⟩ := len_cons hus; obtain ⟨u1, t1, e1, s1⟩ := len_cons s0; obtain ⟨u2, t2, e2, s2⟩ := len_cons s1; obtain ⟨u3, t3, e3, s3⟩ := len_cons s2; obtain ⟨u4, t4, e4, s4⟩ := len_cons s3; obtain ⟨u5, t5, e5, s5⟩ := len_cons s4; obtain ⟨u6, t6, e6, s6⟩ := len_cons s5; obtain ⟨u7, t7, e7, s7⟩ := len_cons s6; obtain ⟨u8, t8, e8, s8⟩ := len_cons s7; obtain ⟨u9, t9, e9, s9⟩ := len_cons s8; obtain ⟨u10, t10, e10, s10⟩ := len_cons s9; obtain ⟨u11, t11, e11, s11⟩ := len_cons s10
        obtain rfl := len_nil s11
        clear hus s0 s1 s2 s3 s4 s5 s6 s7 s8 s9 s10 s11
        subst e11 e10 e9 e8 e7 e6 e5 e4 e3 e2 e1 e0
        clear h
        simp only [over, Act.put, List.setIfInBounds_toArray, List.set_cons_zero, List.set_cons_succ]
        go_wp2_with fail
        exact postK_normal ⟨_, rfl, rfl, Ext.refl _⟩
      refine AllSteps.cons (fun us hus w' x h => ?_) ?_
      · obtain ⟨u0, t0, e0, s0⟩ := len_cons hus; obtain ⟨u1, t1, e1, s1⟩ := len_cons s0; obtain ⟨u2, t2, e2, s2⟩ := len_cons s1; obtain ⟨u3, t3, e3, s3⟩ := len_cons s2; obtain ⟨u4, t4, e4, s4⟩ := len_cons s3; obtain ⟨u5, t5, e5, s5⟩ := len_cons s4; obtain ⟨u6, t6, e6, s6⟩ := len_cons s5; obtain ⟨u7, t7, e7, s7⟩ := len_cons s6; obtain ⟨u8, t8, e8, s8⟩ := len_cons s7; obtain ⟨u9, t9, e9, s9⟩ := len_cons s8; obtain ⟨u10, t10, e10, s10⟩ := len_cons s9; obtain ⟨u11, t11, e11, s11⟩ := len_cons s10
        obtain rfl := len_nil s11
        clear hus s0 s1 s2 s3 s4 s5 s6 s7 s8 s9 s10 s11
        subst e11 e10 e9 e8 e7 e6 e5 e4 e3 e2 e1 e0
        have h1 : Bs w' u1 a0.data.toList := h 1 (by kernel_rfl)
        have h2 : u2 = .string a1 := h 2 (by kernel_rfl)
        clear h
        simp only [over, Act.put, List.setIfInBounds_toArray, List.set_cons_zero, List.set_cons_succ]
        subst h2
        have c5 := impl_TrimLeft _ _ a1 _ h1 (HT.out.ext x) (by omega) HA.out
        rw [HTL.out] at c5
        go_wp2_with (go_at_call 22; refine c5.mono ?_)
        rintro _ w5 ⟨v5, rfl, o5, x5⟩
        go_wp2_with fail
        exact postK_normal ⟨_, rfl, o5.bs, x5⟩
      refine AllSteps.cons (fun us hus w' x h => ?_) ?_
      · obtain ⟨u0, t0, e0, s0⟩ := len_cons hus; obtain ⟨u1, t1, e1, s1⟩ := len_cons s0; obtain ⟨u2, t2, e2, s2⟩ := len_cons s1; obtain ⟨u3, t3, e3, s3⟩ := len_cons s2; obtain ⟨u4, t4, e4, s4⟩ := len_cons s3; obtain ⟨u5, t5, e5, s5⟩ := len_cons s4; obtain ⟨u6, t6, e6, s6⟩ := len_cons s5; obtain ⟨u7, t7, e7, s7⟩ := len_cons s6; obtain ⟨u8, t8, e8, s8⟩ := len_cons s7; obtain ⟨u9, t9, e9, s9⟩ := len_cons s8; obtain ⟨u10, t10, e10, s10⟩ := len_cons s9; obtain ⟨u11, t11, e11, s11⟩ := len_cons s10
        obtain rfl := len_nil s11
        clear hus s0 s1 s2 s3 s4 s5 s6 s7 s8 s9 s10 s11
        subst e11 e10 e9 e8 e7 e6 e5 e4 e3 e2 e1 e0
        have h3 : Bs w' u3 TL := h 3 (by kernel_rfl)
        clear h
        simp only [over, Act.put, List.setIfInBounds_toArray, List.set_cons_zero, List.set_cons_succ]
        go_wp2_with (refine wpList_toString rfl 24 9 _ rfl 5 Tryd.underlying24 Tryd.underlying5 Tryd.underlying9 _ _ rfl h3 ?_)
        exact postK_normal ⟨_, rfl, rfl, Ext.refl _⟩
      refine AllSteps.cons (fun us hus w' x h => ?_) ?_
      · obtain ⟨u0, t0, e0, s0⟩ := len_cons hus; obtain ⟨u1, t1, e1, s1⟩ := len_cons s0; obtain ⟨u2, t2, e2, s2⟩ := len_cons s1; obtain ⟨u3, t3, e3, s3⟩ := len_cons s2; obtain ⟨u4, t4, e4, s4⟩ := len_cons s3; obtain ⟨u5, t5, e5, s5⟩ := len_cons s4; obtain ⟨u6, t6, e6, s6⟩ := len_cons s5; obtain ⟨u7, t7, e7, s7⟩ := len_cons s6; obtain ⟨u8, t8, e8, s8⟩ := len_cons s7; obtain ⟨u9, t9, e9, s9⟩ := len_cons s8; obtain ⟨u10, t10, e10, s10⟩ := len_cons s9; obtain ⟨u11, t11, e11, s11⟩ := len_cons s10
        obtain rfl := len_nil s11
        clear hus s0 s1 s2 s3 s4 s5 s6 s7 s8 s9 s10 s11
        subst e11 e10 e9 e8 e7 e6 e5 e4 e3 e2 e1 e0
        clear h
        simp only [over, Act.put, List.setIfInBounds_toArray, List.set_cons_zero, List.set_cons_succ]
        go_wp2_with fail
        exact postK_normal ⟨_, rfl, rfl, Ext.refl _⟩
      refine AllSteps.cons (fun us hus w' x h => ?_) ?_
      · obtain ⟨u0, t0, e0, s0⟩ := len_cons hus; obtain ⟨u1, t1, e1, s1⟩ := len_cons s0; obtain ⟨u2, t2, e2, s2⟩ := len_cons s1; obtain ⟨u3, t3, e3, s3⟩ := len_cons s2; obtain ⟨u4, t4, e4, s4⟩ := len_cons s3; obtain ⟨u5, t5, e5, s5⟩ := len_cons s4; obtain ⟨u6, t6, e6, s6⟩ := len_cons s5; obtain ⟨u7, t7, e7, s7⟩ := len_cons s6; obtain ⟨u8, t8, e8, s8⟩ := len_cons s7; obtain ⟨u9, t9, e9, s9⟩ := len_cons s8; obtain ⟨u10, t10, e10, s10⟩ := len_cons s9; obtain ⟨u11, t11, e11, s11⟩ := len_cons s10
        obtain rfl := len_nil s11
        clear hus s0 s1 s2 s3 s4 s5 s6 s7 s8 s9 s10 s11
        subst e11 e10 e9 e8 e7 e6 e5 e4 e3 e2 e1 e0
        have h5 : u5 = .string a0 := h 5 (by kernel_rfl)
        clear h
        simp only [over, Act.put, List.setIfInBounds_toArray, List.set_cons_zero, List.set_cons_succ]
        subst h5
        go_wp2_with (refine wpList_toBytes rfl 9 24 _ rfl 5 Tryd.underlying9 Tryd.underlying24 Tryd.underlying5 _ rfl hmax ?_)
        intro v5 w5 o5 x5
        go_wp2_with fail
        exact postK_normal ⟨_, rfl, o5.bs, x5⟩
      refine AllSteps.cons (fun us hus w' x h => ?_) ?_
      · obtain ⟨u0, t0, e0, s0⟩ := len_cons hus; obtain ⟨u1, t1, e1, s1⟩ := len_cons s0; obtain ⟨u2, t2, e2, s2⟩ := len_cons s1; obtain ⟨u3, t3, e3, s3⟩ := len_cons s2; obtain ⟨u4, t4, e4, s4⟩ := len_cons s3; obtain ⟨u5, t5, e5, s5⟩ := len_cons s4; obtain ⟨u6, t6, e6, s6⟩ := len_cons s5; obtain ⟨u7, t7, e7, s7⟩ := len_cons s6; obtain ⟨u8, t8, e8, s8⟩ := len_cons s7; obtain ⟨u9, t9, e9, s9⟩ := len_cons s8; obtain ⟨u10, t10, e10, s10⟩ := len_cons s9; obtain ⟨u11, t11, e11, s11⟩ := len_cons s10
        obtain rfl := len_nil s11
        clear hus s0 s1 s2 s3 s4 s5 s6 s7 s8 s9 s10 s11
        subst e11 e10 e9 e8 e7 e6 e5 e4 e3 e2 e1 e0
        clear h
        simp only [over, Act.put, List.setIfInBounds_toArray, List.set_cons_zero, List.set_cons_succ]
        go_wp2_with fail
        exact postK_normal ⟨_, rfl, rfl, Ext.refl _⟩
      refine AllSteps.cons (fun us hus w' x h => ?_) ?_
      · obtain ⟨u0, t0, e0, s0⟩ := len_cons hus; obtain ⟨u1, t1, e1, s1⟩ := len_cons s0; obtain ⟨u2, t2, e2, s2⟩ := len_cons s1; obtain ⟨u3, t3, e3, s3⟩ := len_cons s2; obtain ⟨u4, t4, e4, s4⟩ := len_cons s3; obtain ⟨u5, t5, e5, s5⟩ := len_cons s4; obtain ⟨u6, t6, e6, s6⟩ := len_cons s5; obtain ⟨u7, t7, e7, s7⟩ := len_cons s6; obtain ⟨u8, t8, e8, s8⟩ := len_cons s7; obtain ⟨u9, t9, e9, s9⟩ := len_cons s8; obtain ⟨u10, t10, e10, s10⟩ := len_cons s9; obtain ⟨u11, t11, e11, s11⟩ := len_cons s10
        obtain rfl := len_nil s11
        clear hus s0 s1 s2 s3 s4 s5 s6 s7 s8 s9 s10 s11
        subst e11 e10 e9 e8 e7 e6 e5 e4 e3 e2 e1 e0
        have h6 : Bs w' u6 a0.data.toList := h 6 (by kernel_rfl)
        have h7 : u7 = .string a1 := h 7 (by kernel_rfl)
        clear h
        simp only [over, Act.put, List.setIfInBounds_toArray, List.set_cons_zero, List.set_cons_succ]
        subst h7
        have c5 := impl_TrimRight _ _ a1 _ h6 (HT.out.ext x) (by omega) HA.out
        rw [HTR.out] at c5
        go_wp2_with (go_at_call 27; refine c5.mono ?_)
        rintro _ w5 ⟨v5, rfl, o5, x5⟩
        go_wp2_with fail
        exact postK_normal ⟨_, rfl, o5.bs, x5⟩
      refine AllSteps.cons (fun us hus w' x h => ?_) ?_
      · obtain ⟨u0, t0, e0, s0⟩ := len_cons hus; obtain ⟨u1, t1, e1, s1⟩ := len_cons s0; obtain ⟨u2, t2, e2, s2⟩ := len_cons s1; obtain ⟨u3, t3, e3, s3⟩ := len_cons s2; obtain ⟨u4, t4, e4, s4⟩ := len_cons s3; obtain ⟨u5, t5, e5, s5⟩ := len_cons s4; obtain ⟨u6, t6, e6, s6⟩ := len_cons s5; obtain ⟨u7, t7, e7, s7⟩ := len_cons s6; obtain ⟨u8, t8, e8, s8⟩ := len_cons s7; obtain ⟨u9, t9, e9, s9⟩ := len_cons s8; obtain ⟨u10, t10, e10, s10⟩ := len_cons s9; obtain ⟨u11, t11, e11, s11⟩ := len_cons s10
        obtain rfl := len_nil s11
        clear hus s0 s1 s2 s3 s4 s5 s6 s7 s8 s9 s10 s11
        subst e11 e10 e9 e8 e7 e6 e5 e4 e3 e2 e1 e0
        have h8 : Bs w' u8 TR := h 8 (by kernel_rfl)
        clear h
        simp only [over, Act.put, List.setIfInBounds_toArray, List.set_cons_zero, List.set_cons_succ]
        go_wp2_with (refine wpList_toString rfl 24 9 _ rfl 5 Tryd.underlying24 Tryd.underlying5 Tryd.underlying9 _ _ rfl h8 ?_)
        exact postK_normal ⟨_, rfl, rfl, Ext.refl _⟩
      refine AllSteps.cons (fun us hus w' x h => ?_) ?_
      · obtain ⟨u0, t0, e0, s0⟩ := len_cons hus; obtain ⟨u1, t1, e1, s1⟩ := len_cons s0; obtain ⟨u2, t2, e2, s2⟩ := len_cons s1; obtain ⟨u3, t3, e3, s3⟩ := len_cons s2; obtain ⟨u4, t4, e4, s4⟩ := len_cons s3; obtain ⟨u5, t5, e5, s5⟩ := len_cons s4; obtain ⟨u6, t6, e6, s6⟩ := len_cons s5; obtain ⟨u7, t7, e7, s7⟩ := len_cons s6; obtain ⟨u8, t8, e8, s8⟩ := len_cons s7; obtain ⟨u9, t9, e9, s9⟩ := len_cons s8; obtain ⟨u10, t10, e10, s10⟩ := len_cons s9; obtain ⟨u11, t11, e11, s11⟩ := len_cons s10
        obtain rfl := len_nil s11
        clear hus s0 s1 s2 s3 s4 s5 s6 s7 s8 s9 s10 s11
        subst e11 e10 e9 e8 e7 e6 e5 e4 e3 e2 e1 e0
        have h4 : u4 = .string ⟨TL.toArray⟩ := h 4 (by kernel_rfl)
        clear h
        simp only [over, Act.put, List.setIfInBounds_toArray, List.set_cons_zero, List.set_cons_succ]
        subst h4
        go_wp2_with fail
        exact postK_normal ⟨_, rfl, rfl, Ext.refl _⟩
      refine AllSteps.cons (fun us hus w' x h => ?_) ?_
      · obtain ⟨u0, t0, e0, s0⟩ := len_cons hus; obtain ⟨u1, t1, e1, s1⟩ := len_cons s0; obtain ⟨u2, t2, e2, s2⟩ := len_cons s1; obtain ⟨u3, t3, e3, s3⟩ := len_cons s2; obtain ⟨u4, t4, e4, s4⟩ := len_cons s3; obtain ⟨u5, t5, e5, s5⟩ := len_cons s4; obtain ⟨u6, t6, e6, s6⟩ := len_cons s5; obtain ⟨u7, t7, e7, s7⟩ := len_cons s6; obtain ⟨u8, t8, e8, s8⟩ := len_cons s7; obtain ⟨u9, t9, e9, s9⟩ := len_cons s8; obtain ⟨u10, t10, e10, s10⟩ := len_cons s9; obtain ⟨u11, t11, e11, s11⟩ := len_cons s10
        obtain rfl := len_nil s11
        clear hus s0 s1 s2 s3 s4 s5 s6 s7 s8 s9 s10 s11
        subst e11 e10 e9 e8 e7 e6 e5 e4 e3 e2 e1 e0
        have h9 : u9 = .string ⟨TR.toArray⟩ := h 9 (by kernel_rfl)
        clear h
        simp only [over, Act.put, List.setIfInBounds_toArray, List.set_cons_zero, List.set_cons_succ]
        subst h9
        go_wp2_with fail
        exact postK_normal ⟨_, rfl, rfl, Ext.refl _⟩
      exact AllSteps.nil
    case fin =>
      intro us hus w' x h
      obtain ⟨u0, t0, e0, s0⟩ := len_cons hus; obtain ⟨u1, t1, e1, s1⟩ := len_cons s0; obtain ⟨u2, t2, e2, s2⟩ := len_cons s1; obtain ⟨u3, t3, e3, s3⟩ := len_cons s2; obtain ⟨u4, t4, e4, s4⟩ := len_cons s3; obtain ⟨u5, t5, e5, s5⟩ := len_cons s4; obtain ⟨u6, t6, e6, s6⟩ := len_cons s5; obtain ⟨u7, t7, e7, s7⟩ := len_cons s6; obtain ⟨u8, t8, e8, s8⟩ := len_cons s7; obtain ⟨u9, t9, e9, s9⟩ := len_cons s8; obtain ⟨u10, t10, e10, s10⟩ := len_cons s9; obtain ⟨u11, t11, e11, s11⟩ := len_cons s10
      obtain rfl := len_nil s11
      clear hus s0 s1 s2 s3 s4 s5 s6 s7 s8 s9 s10 s11
      subst e11 e10 e9 e8 e7 e6 e5 e4 e3 e2 e1 e0
      have h10 : u10 = .string ⟨TL.toArray⟩ := h 10 (by decide)
      have h11 : u11 = .string ⟨TR.toArray⟩ := h 11 (by decide)
      clear h
      subst h10 h11
      simp only [over, Act.put, List.setIfInBounds_toArray, List.set_cons_zero, List.set_cons_succ]
      go_wp2_with fail
      go_meet
      exact ⟨rfl, rfl, x⟩
  case rest =>
    obtain ⟨rfl, rfl, X⟩ := hcut
    go_wp2_with (refine wpList_toBytes rfl 9 24 _ rfl 5 Tryd.underlying9 Tryd.underlying24 Tryd.underlying5 _ rfl hmax ?_)
    intro v4 w4 o4 x4
    replace X := X.trans x4
    have c5 := impl_Trim _ _ a1 _ o4.bs (HT.out.ext X) (by omega) HA.out
    rw [HTT.out] at c5
    clear o4 x4
    go_wp2_with (go_at_call 29; refine c5.mono ?_)
    rintro _ w5 ⟨v5, rfl, o5, x5⟩
    replace X := X.trans x5
    have q5 := o5.bs
    replace HT := Lib.hid (HT.out.ext X)
    clear x5 o5 c5
    go_upto_region 3 with (refine wpList_toString rfl 24 9 _ rfl 5 Tryd.underlying24 Tryd.underlying5 Tryd.underlying9 _ _ rfl q5 ?_)
    clear q5
    go_cut [4] (fun s4 wx => s4 = .bool true ∧ Ext w5 wx)
    case first =>
      refine wp_region_seq (by kernel_rfl) [23, 24, 25, 26, 27, 28, 29, 30, 31, 32, 33, 34, 35, 36, 37, 38, 39, 40, 41, 42, 43, 44, 45, 46, 47, 48, 49, 50, 51, 52, 53, 54, 55, 56, 57, 58, 59, 60, 61, 62, 63, 64, 65, 66, 67, 68, 69, 70, 71, 72, 73, 74, 75, 76, 77, 78, 79, 80, 81, 82, 83, 84, 85, 86, 87, 88, 89, 90, 91, 4] (by kernel_rfl) (by decide) (by simp) (by kernel_rfl)
        (fun i => match i with | 0 => (fun v w => v = .string ⟨TT.toArray⟩) | 1 => (fun v w => v = .string ⟨TL.toArray⟩) | 2 => (fun v w => Bs w v TL) | 3 => (fun v w => v = .string a1) | 4 => (fun v w => Bs w v TT) | 5 => (fun v w => v = .string ⟨TT.toArray⟩) | 6 => (fun v w => v = .bool true) | 7 => (fun v w => v = .bool true) | 8 => (fun v w => v = .string ⟨TT.toArray⟩) | 9 => (fun v w => v = .string ⟨TR.toArray⟩) | 10 => (fun v w => Bs w v TR) | 11 => (fun v w => v = .string a1) | 12 => (fun v w => Bs w v TT) | 13 => (fun v w => v = .string ⟨TT.toArray⟩) | 14 => (fun v w => v = .bool true) | 15 => (fun v w => v = .bool true) | 16 => (fun v w => v = .bool true) | 17 => (fun v w => v = .string a0) | 18 => (fun v w => Bs w v a0.data.toList) | 19 => (fun v w => v = .string ⟨TL.toArray⟩) | 20 => (fun v w => Bs w v TL) | 21 => (fun v w => v = .bool true) | 22 => (fun v w => v = .bool true) | 23 => (fun v w => v = .bool true) | 24 => (fun v w => v = .string a0) | 25 => (fun v w => Bs w v a0.data.toList) | 26 => (fun v w => v = .string ⟨TR.toArray⟩) | 27 => (fun v w => Bs w v TR) | 28 => (fun v w => v = .bool true) | 29 => (fun v w => v = .bool true) | 30 => (fun v w => v = .bool true) | 31 => (fun v w => v = .string ⟨TL.toArray⟩) | 32 => (fun v w => v = .int .i64 ((TL.length : Int))) | 33 => (fun v w => v = .string ⟨TR.toArray⟩) | 34 => (fun v w => v = .int .i64 ((TR.length : Int))) | 35 => (fun v w => v = .int .i64 ((TL.length : Int) + (TR.length : Int))) | 36 => (fun v w => v = .string ⟨TT.toArray⟩) | 37 => (fun v w => v = .int .i64 ((TT.length : Int))) | 38 => (fun v w => v = .bool true) | 39 => (fun v w => v = .bool true) | 40 => (fun v w => v = .bool true) | 41 => (fun v w => v = .string a0) | 42 => (fun v w => v = .bool E0) | 43 => (fun v w => v = .bool E0) | 44 => (fun v w => E0 = false → v = .string ⟨TL.toArray⟩) | 45 => (fun v w => E0 = false → v = .int .i64 ((TL.length : Int))) | 46 => (fun v w => E0 = false → v = .string ⟨TR.toArray⟩) | 47 => (fun v w => E0 = false → v = .int .i64 ((TR.length : Int))) | 48 => (fun v w => E0 = false → v = .int .i64 ((TL.length : Int) + (TR.length : Int))) | 49 => (fun v w => E0 = false → v = .string ⟨TT.toArray⟩) | 50 => (fun v w => E0 = false → v = .int .i64 ((TT.length : Int))) | 51 => (fun v w => E0 = false → v = .int .i64 ((TL.length : Int) + (TR.length : Int) - (TT.length : Int))) | 52 => (fun v w => E0 = false → v = .string a0) | 53 => (fun v w => E0 = false → v = .int .i64 ((a0.size : Int))) | 54 => (fun v w => E0 = false → v = .bool E1) | 55 => (fun v w => v = .bool F) | 56 => (fun v w => v = .bool F) | 57 => (fun v w => F = false → v = .string ⟨TT.toArray⟩) | 58 => (fun v w => F = false → v = .bool E2) | 59 => (fun v w => v = .bool true) | 60 => (fun v w => v = .bool true) | 61 => (fun v w => v = .bool true) | 62 => (fun v w => v = .string a0) | 63 => (fun v w => Bs w v a0.data.toList) | 64 => (fun v w => Bs w v a0.data.toList) | 65 => (fun v w => v = .string ⟨a0.data.toList.toArray⟩) | 66 => (fun v w => v = .string a0) | 67 => (fun v w => v = .bool true) | 68 => (fun v w => v = .bool true) | 69 => (fun v w => v = .bool true) | _ => fun _ _ => True) ?stable ?steps ?fin
      case stable =>
        intro i v w' w'' h x
        match i, h with
        | 0, h => exact h
        | 1, h => exact h
        | 2, h => exact (show Bs w' v TL from h).ext x
        | 3, h => exact h
        | 4, h => exact (show Bs w' v TT from h).ext x
        | 5, h => exact h
        | 6, h => exact h
        | 7, h => exact h
        | 8, h => exact h
        | 9, h => exact h
        | 10, h => exact (show Bs w' v TR from h).ext x
        | 11, h => exact h
        | 12, h => exact (show Bs w' v TT from h).ext x
        | 13, h => exact h
        | 14, h => exact h
        | 15, h => exact h
        | 16, h => exact h
        | 17, h => exact h
        | 18, h => exact (show Bs w' v a0.data.toList from h).ext x
        | 19, h => exact h
        | 20, h => exact (show Bs w' v TL from h).ext x
        | 21, h => exact h
        | 22, h => exact h
        | 23, h => exact h
        | 24, h => exact h
        | 25, h => exact (show Bs w' v a0.data.toList from h).ext x
        | 26, h => exact h
        | 27, h => exact (show Bs w' v TR from h).ext x
        | 28, h => exact h
        | 29, h => exact h
        | 30, h => exact h
        | 31, h => exact h
        | 32, h => exact h
        | 33, h => exact h
        | 34, h => exact h
        | 35, h => exact h
        | 36, h => exact h
        | 37, h => exact h
        | 38, h => exact h
        | 39, h => exact h
        | 40, h => exact h
        | 41, h => exact h
        | 42, h => exact h
        | 43, h => exact h
        | 44, h => exact h
        | 45, h => exact h
        | 46, h => exact h
        | 47, h => exact h
        | 48, h => exact h
        | 49, h => exact h
        | 50, h => exact h
        | 51, h => exact h
        | 52, h => exact h
        | 53, h => exact h
        | 54, h => exact h
        | 55, h => exact h
        | 56, h => exact h
        | 57, h => exact h
        | 58, h => exact h
        | 59, h => exact h
        | 60, h => exact h
        | 61, h => exact h
        | 62, h => exact h
        | 63, h => exact (show Bs w' v a0.data.toList from h).ext x
        | 64, h => exact (show Bs w' v a0.data.toList from h).ext x
        | 65, h => exact h
        | 66, h => exact h
        | 67, h => exact h
        | 68, h => exact h
        | 69, h => exact h
        | _ + 70, _ => trivial
      case steps =>
        refine AllSteps.cons (fun us hus w' x h => ?_) ?_
        · obtain ⟨u0, u1, u2, u3, u4, u5, u6, u7, u8, u9, t0, e0, s0⟩ := lc10 hus
          obtain ⟨u10, u11, u12, u13, u14, u15, u16, u17, u18, u19, t1, e1, s1⟩ := lc10 s0
          obtain ⟨u20, u21, u22, u23, u24, u25, u26, u27, u28, u29, t2, e2, s2⟩ := lc10 s1
          obtain ⟨u30, u31, u32, u33, u34, u35, u36, u37, u38, u39, t3, e3, s3⟩ := lc10 s2
          obtain ⟨u40, u41, u42, u43, u44, u45, u46, u47, u48, u49, t4, e4, s4⟩ := lc10 s3
          obtain ⟨u50, u51, u52, u53, u54, u55, u56, u57, u58, u59, t5, e5, s5⟩ := lc10 s4
          obtain ⟨u60, u61, u62, u63, u64, u65, u66, u67, u68, u69, t6, e6, s6⟩ := lc10 s5
          obtain rfl := len_nil s6
          clear hus s0 s1 s2 s3 s4 s5 s6
          subst e6 e5 e4 e3 e2 e1 e0
          clear h
          simp only [over, Act.put, List.setIfInBounds_toArray, List.set_cons_zero, List.set_cons_succ]
          go_wp2_with fail
          exact postK_normal ⟨_, rfl, rfl, Ext.refl _⟩
        refine AllSteps.cons (fun us hus w' x h => ?_) ?_
        · obtain ⟨u0, u1, u2, u3, u4, u5, u6, u7, u8, u9, t0, e0, s0⟩ := lc10 hus
          obtain ⟨u10, u11, u12, u13, u14, u15, u16, u17, u18, u19, t1, e1, s1⟩ := lc10 s0
          obtain ⟨u20, u21, u22, u23, u24, u25, u26, u27, u28, u29, t2, e2, s2⟩ := lc10 s1
          obtain ⟨u30, u31, u32, u33, u34, u35, u36, u37, u38, u39, t3, e3, s3⟩ := lc10 s2
          obtain ⟨u40, u41, u42, u43, u44, u45, u46, u47, u48, u49, t4, e4, s4⟩ := lc10 s3
          obtain ⟨u50, u51, u52, u53, u54, u55, u56, u57, u58, u59, t5, e5, s5⟩ := lc10 s4
          obtain ⟨u60, u61, u62, u63, u64, u65, u66, u67, u68, u69, t6, e6, s6⟩ := lc10 s5
          obtain rfl := len_nil s6
          clear hus s0 s1 s2 s3 s4 s5 s6
          subst e6 e5 e4 e3 e2 e1 e0
          clear h
          simp only [over, Act.put, List.setIfInBounds_toArray, List.set_cons_zero, List.set_cons_succ]
          go_wp2_with fail
          exact postK_normal ⟨_, rfl, rfl, Ext.refl _⟩
        refine AllSteps.cons (fun us hus w' x h => ?_) ?_
        · obtain ⟨u0, u1, u2, u3, u4, u5, u6, u7, u8, u9, t0, e0, s0⟩ := lc10 hus
          obtain ⟨u10, u11, u12, u13, u14, u15, u16, u17, u18, u19, t1, e1, s1⟩ := lc10 s0
          obtain ⟨u20, u21, u22, u23, u24, u25, u26, u27, u28, u29, t2, e2, s2⟩ := lc10 s1
          obtain ⟨u30, u31, u32, u33, u34, u35, u36, u37, u38, u39, t3, e3, s3⟩ := lc10 s2
          obtain ⟨u40, u41, u42, u43, u44, u45, u46, u47, u48, u49, t4, e4, s4⟩ := lc10 s3
          obtain ⟨u50, u51, u52, u53, u54, u55, u56, u57, u58, u59, t5, e5, s5⟩ := lc10 s4
          obtain ⟨u60, u61, u62, u63, u64, u65, u66, u67, u68, u69, t6, e6, s6⟩ := lc10 s5
          obtain rfl := len_nil s6
          clear hus s0 s1 s2 s3 s4 s5 s6
          subst e6 e5 e4 e3 e2 e1 e0
          have h1 : u1 = .string ⟨TL.toArray⟩ := h 1 (by kernel_rfl)
          clear h
          simp only [over, Act.put, List.setIfInBounds_toArray, List.set_cons_zero, List.set_cons_succ]
          subst h1
          go_wp2_with (refine wpList_toBytes rfl 9 24 _ rfl 5 Tryd.underlying9 Tryd.underlying24 Tryd.underlying5 _ rfl ml ?_)
          intro v5 w5 o5 x5
          go_wp2_with fail
          exact postK_normal ⟨_, rfl, o5.bs, x5⟩
        refine AllSteps.cons (fun us hus w' x h => ?_) ?_
        · obtain ⟨u0, u1, u2, u3, u4, u5, u6, u7, u8, u9, t0, e0, s0⟩ := lc10 hus
          obtain ⟨u10, u11, u12, u13, u14, u15, u16, u17, u18, u19, t1, e1, s1⟩ := lc10 s0
          obtain ⟨u20, u21, u22, u23, u24, u25, u26, u27, u28, u29, t2, e2, s2⟩ := lc10 s1
          obtain ⟨u30, u31, u32, u33, u34, u35, u36, u37, u38, u39, t3, e3, s3⟩ := lc10 s2
          obtain ⟨u40, u41, u42, u43, u44, u45, u46, u47, u48, u49, t4, e4, s4⟩ := lc10 s3
          obtain ⟨u50, u51, u52, u53, u54, u55, u56, u57, u58, u59, t5, e5, s5⟩ := lc10 s4
          obtain ⟨u60, u61, u62, u63, u64, u65, u66, u67, u68, u69, t6, e6, s6⟩ := lc10 s5
          obtain rfl := len_nil s6
          clear hus s0 s1 s2 s3 s4 s5 s6
          subst e6 e5 e4 e3 e2 e1 e0
          clear h
          simp only [over, Act.put, List.setIfInBounds_toArray, List.set_cons_zero, List.set_cons_succ]
          go_wp2_with fail
          exact postK_normal ⟨_, rfl, rfl, Ext.refl _⟩
        refine AllSteps.cons (fun us hus w' x h => ?_) ?_
        · obtain ⟨u0, u1, u2, u3, u4, u5, u6, u7, u8, u9, t0, e0, s0⟩ := lc10 hus
          obtain ⟨u10, u11, u12, u13, u14, u15, u16, u17, u18, u19, t1, e1, s1⟩ := lc10 s0
          obtain ⟨u20, u21, u22, u23, u24, u25, u26, u27, u28, u29, t2, e2, s2⟩ := lc10 s1
          obtain ⟨u30, u31, u32, u33, u34, u35, u36, u37, u38, u39, t3, e3, s3⟩ := lc10 s2
          obtain ⟨u40, u41, u42, u43, u44, u45, u46, u47, u48, u49, t4, e4, s4⟩ := lc10 s3
          obtain ⟨u50, u51, u52, u53, u54, u55, u56, u57, u58, u59, t5, e5, s5⟩ := lc10 s4
          obtain ⟨u60, u61, u62, u63, u64, u65, u66, u67, u68, u69, t6, e6, s6⟩ := lc10 s5
          obtain rfl := len_nil s6
          clear hus s0 s1 s2 s3 s4 s5 s6
          subst e6 e5 e4 e3 e2 e1 e0
          have h2 : Bs w' u2 TL := h 2 (by kernel_rfl)
          have h3 : u3 = .string a1 := h 3 (by kernel_rfl)
          clear h
          simp only [over, Act.put, List.setIfInBounds_toArray, List.set_cons_zero, List.set_cons_succ]
          subst h3
          have c5 := impl_TrimRight _ _ a1 _ h2 (HT.out.ext x) (by omega) (by omega)
          rw [HP1.out] at c5
          go_wp2_with (go_at_call 27; refine c5.mono ?_)
          rintro _ w5 ⟨v5, rfl, o5, x5⟩
          go_wp2_with fail
          exact postK_normal ⟨_, rfl, o5.bs, x5⟩
        refine AllSteps.cons (fun us hus w' x h => ?_) ?_
        · obtain ⟨u0, u1, u2, u3, u4, u5, u6, u7, u8, u9, t0, e0, s0⟩ := lc10 hus
          obtain ⟨u10, u11, u12, u13, u14, u15, u16, u17, u18, u19, t1, e1, s1⟩ := lc10 s0
          obtain ⟨u20, u21, u22, u23, u24, u25, u26, u27, u28, u29, t2, e2, s2⟩ := lc10 s1
          obtain ⟨u30, u31, u32, u33, u34, u35, u36, u37, u38, u39, t3, e3, s3⟩ := lc10 s2
          obtain ⟨u40, u41, u42, u43, u44, u45, u46, u47, u48, u49, t4, e4, s4⟩ := lc10 s3
          obtain ⟨u50, u51, u52, u53, u54, u55, u56, u57, u58, u59, t5, e5, s5⟩ := lc10 s4
          obtain ⟨u60, u61, u62, u63, u64, u65, u66, u67, u68, u69, t6, e6, s6⟩ := lc10 s5
          obtain rfl := len_nil s6
          clear hus s0 s1 s2 s3 s4 s5 s6
          subst e6 e5 e4 e3 e2 e1 e0
          have h4 : Bs w' u4 TT := h 4 (by kernel_rfl)
          clear h
          simp only [over, Act.put, List.setIfInBounds_toArray, List.set_cons_zero, List.set_cons_succ]
          go_wp2_with (refine wpList_toString rfl 24 9 _ rfl 5 Tryd.underlying24 Tryd.underlying5 Tryd.underlying9 _ _ rfl h4 ?_)
          exact postK_normal ⟨_, rfl, rfl, Ext.refl _⟩
        refine AllSteps.cons (fun us hus w' x h => ?_) ?_
        · obtain ⟨u0, u1, u2, u3, u4, u5, u6, u7, u8, u9, t0, e0, s0⟩ := lc10 hus
          obtain ⟨u10, u11, u12, u13, u14, u15, u16, u17, u18, u19, t1, e1, s1⟩ := lc10 s0
          obtain ⟨u20, u21, u22, u23, u24, u25, u26, u27, u28, u29, t2, e2, s2⟩ := lc10 s1
          obtain ⟨u30, u31, u32, u33, u34, u35, u36, u37, u38, u39, t3, e3, s3⟩ := lc10 s2
          obtain ⟨u40, u41, u42, u43, u44, u45, u46, u47, u48, u49, t4, e4, s4⟩ := lc10 s3
          obtain ⟨u50, u51, u52, u53, u54, u55, u56, u57, u58, u59, t5, e5, s5⟩ := lc10 s4
          obtain ⟨u60, u61, u62, u63, u64, u65, u66, u67, u68, u69, t6, e6, s6⟩ := lc10 s5
          obtain rfl := len_nil s6
          clear hus s0 s1 s2 s3 s4 s5 s6
          subst e6 e5 e4 e3 e2 e1 e0
          have h0 : u0 = .string ⟨TT.toArray⟩ := h 0 (by kernel_rfl)
          have h5 : u5 = .string ⟨TT.toArray⟩ := h 5 (by kernel_rfl)
          clear h
          simp only [over, Act.put, List.setIfInBounds_toArray, List.set_cons_zero, List.set_cons_succ]
          subst h0
          subst h5
          go_wp2_with fail
          exact postK_normal ⟨_, rfl, rfl, Ext.refl _⟩
        refine AllSteps.cons (fun us hus w' x h => ?_) ?_
        · obtain ⟨u0, u1, u2, u3, u4, u5, u6, u7, u8, u9, t0, e0, s0⟩ := lc10 hus
          obtain ⟨u10, u11, u12, u13, u14, u15, u16, u17, u18, u19, t1, e1, s1⟩ := lc10 s0
          obtain ⟨u20, u21, u22, u23, u24, u25, u26, u27, u28, u29, t2, e2, s2⟩ := lc10 s1
          obtain ⟨u30, u31, u32, u33, u34, u35, u36, u37, u38, u39, t3, e3, s3⟩ := lc10 s2
          obtain ⟨u40, u41, u42, u43, u44, u45, u46, u47, u48, u49, t4, e4, s4⟩ := lc10 s3
          obtain ⟨u50, u51, u52, u53, u54, u55, u56, u57, u58, u59, t5, e5, s5⟩ := lc10 s4
          obtain ⟨u60, u61, u62, u63, u64, u65, u66, u67, u68, u69, t6, e6, s6⟩ := lc10 s5
          obtain rfl := len_nil s6
          clear hus s0 s1 s2 s3 s4 s5 s6
          subst e6 e5 e4 e3 e2 e1 e0
          have h6 : u6 = .bool true := h 6 (by kernel_rfl)
          clear h
          simp only [over, Act.put, List.setIfInBounds_toArray, List.set_cons_zero, List.set_cons_succ]
          subst h6
          go_wp2_with fail
          exact postK_normal ⟨_, rfl, rfl, Ext.refl _⟩
        refine AllSteps.cons (fun us hus w' x h => ?_) ?_
        · obtain ⟨u0, u1, u2, u3, u4, u5, u6, u7, u8, u9, t0, e0, s0⟩ := lc10 hus
          obtain ⟨u10, u11, u12, u13, u14, u15, u16, u17, u18, u19, t1, e1, s1⟩ := lc10 s0
          obtain ⟨u20, u21, u22, u23, u24, u25, u26, u27, u28, u29, t2, e2, s2⟩ := lc10 s1
          obtain ⟨u30, u31, u32, u33, u34, u35, u36, u37, u38, u39, t3, e3, s3⟩ := lc10 s2
          obtain ⟨u40, u41, u42, u43, u44, u45, u46, u47, u48, u49, t4, e4, s4⟩ := lc10 s3
          obtain ⟨u50, u51, u52, u53, u54, u55, u56, u57, u58, u59, t5, e5, s5⟩ := lc10 s4
          obtain ⟨u60, u61, u62, u63, u64, u65, u66, u67, u68, u69, t6, e6, s6⟩ := lc10 s5
          obtain rfl := len_nil s6
          clear hus s0 s1 s2 s3 s4 s5 s6
          subst e6 e5 e4 e3 e2 e1 e0
          have h7 : u7 = .bool true := h 7 (by kernel_rfl)
          clear h
          simp only [over, Act.put, List.setIfInBounds_toArray, List.set_cons_zero, List.set_cons_succ]
          subst h7
          go_wp2_with fail
          exact postK_normal ⟨_, rfl, rfl, Ext.refl _⟩
        refine AllSteps.cons (fun us hus w' x h => ?_) ?_
        · obtain ⟨u0, u1, u2, u3, u4, u5, u6, u7, u8, u9, t0, e0, s0⟩ := lc10 hus
          obtain ⟨u10, u11, u12, u13, u14, u15, u16, u17, u18, u19, t1, e1, s1⟩ := lc10 s0
          obtain ⟨u20, u21, u22, u23, u24, u25, u26, u27, u28, u29, t2, e2, s2⟩ := lc10 s1
          obtain ⟨u30, u31, u32, u33, u34, u35, u36, u37, u38, u39, t3, e3, s3⟩ := lc10 s2
          obtain ⟨u40, u41, u42, u43, u44, u45, u46, u47, u48, u49, t4, e4, s4⟩ := lc10 s3
          obtain ⟨u50, u51, u52, u53, u54, u55, u56, u57, u58, u59, t5, e5, s5⟩ := lc10 s4
          obtain ⟨u60, u61, u62, u63, u64, u65, u66, u67, u68, u69, t6, e6, s6⟩ := lc10 s5
          obtain rfl := len_nil s6
          clear hus s0 s1 s2 s3 s4 s5 s6
          subst e6 e5 e4 e3 e2 e1 e0
          have h7 : u7 = .bool true := h 7 (by kernel_rfl)
          clear h
          simp only [over, Act.put, List.setIfInBounds_toArray, List.set_cons_zero, List.set_cons_succ]
          subst h7
          go_wp2_with fail
          exact postK_normal ⟨_, rfl, rfl, Ext.refl _⟩
        refine AllSteps.cons (fun us hus w' x h => ?_) ?_
        · obtain ⟨u0, u1, u2, u3, u4, u5, u6, u7, u8, u9, t0, e0, s0⟩ := lc10 hus
          obtain ⟨u10, u11, u12, u13, u14, u15, u16, u17, u18, u19, t1, e1, s1⟩ := lc10 s0
          obtain ⟨u20, u21, u22, u23, u24, u25, u26, u27, u28, u29, t2, e2, s2⟩ := lc10 s1
          obtain ⟨u30, u31, u32, u33, u34, u35, u36, u37, u38, u39, t3, e3, s3⟩ := lc10 s2
          obtain ⟨u40, u41, u42, u43, u44, u45, u46, u47, u48, u49, t4, e4, s4⟩ := lc10 s3
          obtain ⟨u50, u51, u52, u53, u54, u55, u56, u57, u58, u59, t5, e5, s5⟩ := lc10 s4
          obtain ⟨u60, u61, u62, u63, u64, u65, u66, u67, u68, u69, t6, e6, s6⟩ := lc10 s5
          obtain rfl := len_nil s6
          clear hus s0 s1 s2 s3 s4 s5 s6
          subst e6 e5 e4 e3 e2 e1 e0
          have h9 : u9 = .string ⟨TR.toArray⟩ := h 9 (by kernel_rfl)
          have h7 : u7 = .bool true := h 7 (by kernel_rfl)
          clear h
          simp only [over, Act.put, List.setIfInBounds_toArray, List.set_cons_zero, List.set_cons_succ]
          subst h9
          subst h7
          go_wp2_with (refine wpList_toBytes rfl 9 24 _ rfl 5 Tryd.underlying9 Tryd.underlying24 Tryd.underlying5 _ rfl mr ?_)
          intro v5 w5 o5 x5
          go_wp2_with fail
          exact postK_normal ⟨_, rfl, o5.bs, x5⟩
        refine AllSteps.cons (fun us hus w' x h => ?_) ?_
        · obtain ⟨u0, u1, u2, u3, u4, u5, u6, u7, u8, u9, t0, e0, s0⟩ := lc10 hus
          obtain ⟨u10, u11, u12, u13, u14, u15, u16, u17, u18, u19, t1, e1, s1⟩ := lc10 s0
          obtain ⟨u20, u21, u22, u23, u24, u25, u26, u27, u28, u29, t2, e2, s2⟩ := lc10 s1
          obtain ⟨u30, u31, u32, u33, u34, u35, u36, u37, u38, u39, t3, e3, s3⟩ := lc10 s2
          obtain ⟨u40, u41, u42, u43, u44, u45, u46, u47, u48, u49, t4, e4, s4⟩ := lc10 s3
          obtain ⟨u50, u51, u52, u53, u54, u55, u56, u57, u58, u59, t5, e5, s5⟩ := lc10 s4
          obtain ⟨u60, u61, u62, u63, u64, u65, u66, u67, u68, u69, t6, e6, s6⟩ := lc10 s5
          obtain rfl := len_nil s6
          clear hus s0 s1 s2 s3 s4 s5 s6
          subst e6 e5 e4 e3 e2 e1 e0
          have h7 : u7 = .bool true := h 7 (by kernel_rfl)
          clear h
          simp only [over, Act.put, List.setIfInBounds_toArray, List.set_cons_zero, List.set_cons_succ]
          subst h7
          go_wp2_with fail
          exact postK_normal ⟨_, rfl, rfl, Ext.refl _⟩
        refine AllSteps.cons (fun us hus w' x h => ?_) ?_
        · obtain ⟨u0, u1, u2, u3, u4, u5, u6, u7, u8, u9, t0, e0, s0⟩ := lc10 hus
          obtain ⟨u10, u11, u12, u13, u14, u15, u16, u17, u18, u19, t1, e1, s1⟩ := lc10 s0
          obtain ⟨u20, u21, u22, u23, u24, u25, u26, u27, u28, u29, t2, e2, s2⟩ := lc10 s1
          obtain ⟨u30, u31, u32, u33, u34, u35, u36, u37, u38, u39, t3, e3, s3⟩ := lc10 s2
          obtain ⟨u40, u41, u42, u43, u44, u45, u46, u47, u48, u49, t4, e4, s4⟩ := lc10 s3
          obtain ⟨u50, u51, u52, u53, u54, u55, u56, u57, u58, u59, t5, e5, s5⟩ := lc10 s4
          obtain ⟨u60, u61, u62, u63, u64, u65, u66, u67, u68, u69, t6, e6, s6⟩ := lc10 s5
          obtain rfl := len_nil s6
          clear hus s0 s1 s2 s3 s4 s5 s6
          subst e6 e5 e4 e3 e2 e1 e0
          have h10 : Bs w' u10 TR := h 10 (by kernel_rfl)
          have h11 : u11 = .string a1 := h 11 (by kernel_rfl)
          have h7 : u7 = .bool true := h 7 (by kernel_rfl)
          clear h
          simp only [over, Act.put, List.setIfInBounds_toArray, List.set_cons_zero, List.set_cons_succ]
          subst h11
          subst h7
          have c5 := impl_TrimLeft _ _ a1 _ h10 (HT.out.ext x) (by omega) (by omega)
          rw [HP2.out] at c5
          go_wp2_with (go_at_call 22; refine c5.mono ?_)
          rintro _ w5 ⟨v5, rfl, o5, x5⟩
          go_wp2_with fail
          exact postK_normal ⟨_, rfl, o5.bs, x5⟩
        refine AllSteps.cons (fun us hus w' x h => ?_) ?_
        · obtain ⟨u0, u1, u2, u3, u4, u5, u6, u7, u8, u9, t0, e0, s0⟩ := lc10 hus
          obtain ⟨u10, u11, u12, u13, u14, u15, u16, u17, u18, u19, t1, e1, s1⟩ := lc10 s0
          obtain ⟨u20, u21, u22, u23, u24, u25, u26, u27, u28, u29, t2, e2, s2⟩ := lc10 s1
          obtain ⟨u30, u31, u32, u33, u34, u35, u36, u37, u38, u39, t3, e3, s3⟩ := lc10 s2
          obtain ⟨u40, u41, u42, u43, u44, u45, u46, u47, u48, u49, t4, e4, s4⟩ := lc10 s3
          obtain ⟨u50, u51, u52, u53, u54, u55, u56, u57, u58, u59, t5, e5, s5⟩ := lc10 s4
          obtain ⟨u60, u61, u62, u63, u64, u65, u66, u67, u68, u69, t6, e6, s6⟩ := lc10 s5
          obtain rfl := len_nil s6
          clear hus s0 s1 s2 s3 s4 s5 s6
          subst e6 e5 e4 e3 e2 e1 e0
          have h12 : Bs w' u12 TT := h 12 (by kernel_rfl)
          have h7 : u7 = .bool true := h 7 (by kernel_rfl)
          clear h
          simp only [over, Act.put, List.setIfInBounds_toArray, List.set_cons_zero, List.set_cons_succ]
          subst h7
          go_wp2_with (refine wpList_toString rfl 24 9 _ rfl 5 Tryd.underlying24 Tryd.underlying5 Tryd.underlying9 _ _ rfl h12 ?_)
          exact postK_normal ⟨_, rfl, rfl, Ext.refl _⟩
        refine AllSteps.cons (fun us hus w' x h => ?_) ?_
        · obtain ⟨u0, u1, u2, u3, u4, u5, u6, u7, u8, u9, t0, e0, s0⟩ := lc10 hus
          obtain ⟨u10, u11, u12, u13, u14, u15, u16, u17, u18, u19, t1, e1, s1⟩ := lc10 s0
          obtain ⟨u20, u21, u22, u23, u24, u25, u26, u27, u28, u29, t2, e2, s2⟩ := lc10 s1
          obtain ⟨u30, u31, u32, u33, u34, u35, u36, u37, u38, u39, t3, e3, s3⟩ := lc10 s2
          obtain ⟨u40, u41, u42, u43, u44, u45, u46, u47, u48, u49, t4, e4, s4⟩ := lc10 s3
          obtain ⟨u50, u51, u52, u53, u54, u55, u56, u57, u58, u59, t5, e5, s5⟩ := lc10 s4
          obtain ⟨u60, u61, u62, u63, u64, u65, u66, u67, u68, u69, t6, e6, s6⟩ := lc10 s5
          obtain rfl := len_nil s6
          clear hus s0 s1 s2 s3 s4 s5 s6
          subst e6 e5 e4 e3 e2 e1 e0
          have h8 : u8 = .string ⟨TT.toArray⟩ := h 8 (by kernel_rfl)
          have h13 : u13 = .string ⟨TT.toArray⟩ := h 13 (by kernel_rfl)
          have h7 : u7 = .bool true := h 7 (by kernel_rfl)
          clear h
          simp only [over, Act.put, List.setIfInBounds_toArray, List.set_cons_zero, List.set_cons_succ]
          subst h8
          subst h13
          subst h7
          go_wp2_with fail
          exact postK_normal ⟨_, rfl, rfl, Ext.refl _⟩
        refine AllSteps.cons (fun us hus w' x h => ?_) ?_
        · obtain ⟨u0, u1, u2, u3, u4, u5, u6, u7, u8, u9, t0, e0, s0⟩ := lc10 hus
          obtain ⟨u10, u11, u12, u13, u14, u15, u16, u17, u18, u19, t1, e1, s1⟩ := lc10 s0
          obtain ⟨u20, u21, u22, u23, u24, u25, u26, u27, u28, u29, t2, e2, s2⟩ := lc10 s1
          obtain ⟨u30, u31, u32, u33, u34, u35, u36, u37, u38, u39, t3, e3, s3⟩ := lc10 s2
          obtain ⟨u40, u41, u42, u43, u44, u45, u46, u47, u48, u49, t4, e4, s4⟩ := lc10 s3
          obtain ⟨u50, u51, u52, u53, u54, u55, u56, u57, u58, u59, t5, e5, s5⟩ := lc10 s4
          obtain ⟨u60, u61, u62, u63, u64, u65, u66, u67, u68, u69, t6, e6, s6⟩ := lc10 s5
          obtain rfl := len_nil s6
          clear hus s0 s1 s2 s3 s4 s5 s6
          subst e6 e5 e4 e3 e2 e1 e0
          have h7 : u7 = .bool true := h 7 (by kernel_rfl)
          have h14 : u14 = .bool true := h 14 (by kernel_rfl)
          clear h
          simp only [over, Act.put, List.setIfInBounds_toArray, List.set_cons_zero, List.set_cons_succ]
          subst h7
          subst h14
          go_wp2_with fail
          exact postK_normal ⟨_, rfl, rfl, Ext.refl _⟩
        refine AllSteps.cons (fun us hus w' x h => ?_) ?_
        · obtain ⟨u0, u1, u2, u3, u4, u5, u6, u7, u8, u9, t0, e0, s0⟩ := lc10 hus
          obtain ⟨u10, u11, u12, u13, u14, u15, u16, u17, u18, u19, t1, e1, s1⟩ := lc10 s0
          obtain ⟨u20, u21, u22, u23, u24, u25, u26, u27, u28, u29, t2, e2, s2⟩ := lc10 s1
          obtain ⟨u30, u31, u32, u33, u34, u35, u36, u37, u38, u39, t3, e3, s3⟩ := lc10 s2
          obtain ⟨u40, u41, u42, u43, u44, u45, u46, u47, u48, u49, t4, e4, s4⟩ := lc10 s3
          obtain ⟨u50, u51, u52, u53, u54, u55, u56, u57, u58, u59, t5, e5, s5⟩ := lc10 s4
          obtain ⟨u60, u61, u62, u63, u64, u65, u66, u67, u68, u69, t6, e6, s6⟩ := lc10 s5
          obtain rfl := len_nil s6
          clear hus s0 s1 s2 s3 s4 s5 s6
          subst e6 e5 e4 e3 e2 e1 e0
          have h15 : u15 = .bool true := h 15 (by kernel_rfl)
          clear h
          simp only [over, Act.put, List.setIfInBounds_toArray, List.set_cons_zero, List.set_cons_succ]
          subst h15
          go_wp2_with fail
          exact postK_normal ⟨_, rfl, rfl, Ext.refl _⟩
        refine AllSteps.cons (fun us hus w' x h => ?_) ?_
        · obtain ⟨u0, u1, u2, u3, u4, u5, u6, u7, u8, u9, t0, e0, s0⟩ := lc10 hus
          obtain ⟨u10, u11, u12, u13, u14, u15, u16, u17, u18, u19, t1, e1, s1⟩ := lc10 s0
          obtain ⟨u20, u21, u22, u23, u24, u25, u26, u27, u28, u29, t2, e2, s2⟩ := lc10 s1
          obtain ⟨u30, u31, u32, u33, u34, u35, u36, u37, u38, u39, t3, e3, s3⟩ := lc10 s2
          obtain ⟨u40, u41, u42, u43, u44, u45, u46, u47, u48, u49, t4, e4, s4⟩ := lc10 s3
          obtain ⟨u50, u51, u52, u53, u54, u55, u56, u57, u58, u59, t5, e5, s5⟩ := lc10 s4
          obtain ⟨u60, u61, u62, u63, u64, u65, u66, u67, u68, u69, t6, e6, s6⟩ := lc10 s5
          obtain rfl := len_nil s6
          clear hus s0 s1 s2 s3 s4 s5 s6
          subst e6 e5 e4 e3 e2 e1 e0
          have h16 : u16 = .bool true := h 16 (by kernel_rfl)
          clear h
          simp only [over, Act.put, List.setIfInBounds_toArray, List.set_cons_zero, List.set_cons_succ]
          subst h16
          go_wp2_with fail
          exact postK_normal ⟨_, rfl, rfl, Ext.refl _⟩
        refine AllSteps.cons (fun us hus w' x h => ?_) ?_
        · obtain ⟨u0, u1, u2, u3, u4, u5, u6, u7, u8, u9, t0, e0, s0⟩ := lc10 hus
          obtain ⟨u10, u11, u12, u13, u14, u15, u16, u17, u18, u19, t1, e1, s1⟩ := lc10 s0
          obtain ⟨u20, u21, u22, u23, u24, u25, u26, u27, u28, u29, t2, e2, s2⟩ := lc10 s1
          obtain ⟨u30, u31, u32, u33, u34, u35, u36, u37, u38, u39, t3, e3, s3⟩ := lc10 s2
          obtain ⟨u40, u41, u42, u43, u44, u45, u46, u47, u48, u49, t4, e4, s4⟩ := lc10 s3
          obtain ⟨u50, u51, u52, u53, u54, u55, u56, u57, u58, u59, t5, e5, s5⟩ := lc10 s4
          obtain ⟨u60, u61, u62, u63, u64, u65, u66, u67, u68, u69, t6, e6, s6⟩ := lc10 s5
          obtain rfl := len_nil s6
          clear hus s0 s1 s2 s3 s4 s5 s6
          subst e6 e5 e4 e3 e2 e1 e0
          have h17 : u17 = .string a0 := h 17 (by kernel_rfl)
          have h16 : u16 = .bool true := h 16 (by kernel_rfl)
          clear h
          simp only [over, Act.put, List.setIfInBounds_toArray, List.set_cons_zero, List.set_cons_succ]
          subst h17
          subst h16
          go_wp2_with (refine wpList_toBytes rfl 9 24 _ rfl 5 Tryd.underlying9 Tryd.underlying24 Tryd.underlying5 _ rfl hmax ?_)
          intro v5 w5 o5 x5
          go_wp2_with fail
          exact postK_normal ⟨_, rfl, o5.bs, x5⟩
        refine AllSteps.cons (fun us hus w' x h => ?_) ?_
        · obtain ⟨u0, u1, u2, u3, u4, u5, u6, u7, u8, u9, t0, e0, s0⟩ := lc10 hus
          obtain ⟨u10, u11, u12, u13, u14, u15, u16, u17, u18, u19, t1, e1, s1⟩ := lc10 s0
          obtain ⟨u20, u21, u22, u23, u24, u25, u26, u27, u28, u29, t2, e2, s2⟩ := lc10 s1
          obtain ⟨u30, u31, u32, u33, u34, u35, u36, u37, u38, u39, t3, e3, s3⟩ := lc10 s2
          obtain ⟨u40, u41, u42, u43, u44, u45, u46, u47, u48, u49, t4, e4, s4⟩ := lc10 s3
          obtain ⟨u50, u51, u52, u53, u54, u55, u56, u57, u58, u59, t5, e5, s5⟩ := lc10 s4
          obtain ⟨u60, u61, u62, u63, u64, u65, u66, u67, u68, u69, t6, e6, s6⟩ := lc10 s5
          obtain rfl := len_nil s6
          clear hus s0 s1 s2 s3 s4 s5 s6
          subst e6 e5 e4 e3 e2 e1 e0
          have h16 : u16 = .bool true := h 16 (by kernel_rfl)
          clear h
          simp only [over, Act.put, List.setIfInBounds_toArray, List.set_cons_zero, List.set_cons_succ]
          subst h16
          go_wp2_with fail
          exact postK_normal ⟨_, rfl, rfl, Ext.refl _⟩
        refine AllSteps.cons (fun us hus w' x h => ?_) ?_
        · obtain ⟨u0, u1, u2, u3, u4, u5, u6, u7, u8, u9, t0, e0, s0⟩ := lc10 hus
          obtain ⟨u10, u11, u12, u13, u14, u15, u16, u17, u18, u19, t1, e1, s1⟩ := lc10 s0
          obtain ⟨u20, u21, u22, u23, u24, u25, u26, u27, u28, u29, t2, e2, s2⟩ := lc10 s1
          obtain ⟨u30, u31, u32, u33, u34, u35, u36, u37, u38, u39, t3, e3, s3⟩ := lc10 s2
          obtain ⟨u40, u41, u42, u43, u44, u45, u46, u47, u48, u49, t4, e4, s4⟩ := lc10 s3
          obtain ⟨u50, u51, u52, u53, u54, u55, u56, u57, u58, u59, t5, e5, s5⟩ := lc10 s4
          obtain ⟨u60, u61, u62, u63, u64, u65, u66, u67, u68, u69, t6, e6, s6⟩ := lc10 s5
          obtain rfl := len_nil s6
          clear hus s0 s1 s2 s3 s4 s5 s6
          subst e6 e5 e4 e3 e2 e1 e0
          have h19 : u19 = .string ⟨TL.toArray⟩ := h 19 (by kernel_rfl)
          have h16 : u16 = .bool true := h 16 (by kernel_rfl)
          clear h
          simp only [over, Act.put, List.setIfInBounds_toArray, List.set_cons_zero, List.set_cons_succ]
          subst h19
          subst h16
          go_wp2_with (refine wpList_toBytes rfl 9 24 _ rfl 5 Tryd.underlying9 Tryd.underlying24 Tryd.underlying5 _ rfl ml ?_)
          intro v5 w5 o5 x5
          go_wp2_with fail
          exact postK_normal ⟨_, rfl, o5.bs, x5⟩
        refine AllSteps.cons (fun us hus w' x h => ?_) ?_
        · obtain ⟨u0, u1, u2, u3, u4, u5, u6, u7, u8, u9, t0, e0, s0⟩ := lc10 hus
          obtain ⟨u10, u11, u12, u13, u14, u15, u16, u17, u18, u19, t1, e1, s1⟩ := lc10 s0
          obtain ⟨u20, u21, u22, u23, u24, u25, u26, u27, u28, u29, t2, e2, s2⟩ := lc10 s1
          obtain ⟨u30, u31, u32, u33, u34, u35, u36, u37, u38, u39, t3, e3, s3⟩ := lc10 s2
          obtain ⟨u40, u41, u42, u43, u44, u45, u46, u47, u48, u49, t4, e4, s4⟩ := lc10 s3
          obtain ⟨u50, u51, u52, u53, u54, u55, u56, u57, u58, u59, t5, e5, s5⟩ := lc10 s4
          obtain ⟨u60, u61, u62, u63, u64, u65, u66, u67, u68, u69, t6, e6, s6⟩ := lc10 s5
          obtain rfl := len_nil s6
          clear hus s0 s1 s2 s3 s4 s5 s6
          subst e6 e5 e4 e3 e2 e1 e0
          have h18 : Bs w' u18 a0.data.toList := h 18 (by kernel_rfl)
          have h20 : Bs w' u20 TL := h 20 (by kernel_rfl)
          have h16 : u16 = .bool true := h 16 (by kernel_rfl)
          clear h
          simp only [over, Act.put, List.setIfInBounds_toArray, List.set_cons_zero, List.set_cons_succ]
          subst h16
          have c5 := spec_HasSuffix _ _ _ _ _ h18 h20
          rw [HP3.out] at c5
          go_wp2_with (go_at_call 30; refine c5.mono ?_)
          rintro _ _ ⟨rfl, rfl⟩
          go_wp2_with fail
          exact postK_normal ⟨_, rfl, rfl, Ext.refl _⟩
        refine AllSteps.cons (fun us hus w' x h => ?_) ?_
        · obtain ⟨u0, u1, u2, u3, u4, u5, u6, u7, u8, u9, t0, e0, s0⟩ := lc10 hus
          obtain ⟨u10, u11, u12, u13, u14, u15, u16, u17, u18, u19, t1, e1, s1⟩ := lc10 s0
          obtain ⟨u20, u21, u22, u23, u24, u25, u26, u27, u28, u29, t2, e2, s2⟩ := lc10 s1
          obtain ⟨u30, u31, u32, u33, u34, u35, u36, u37, u38, u39, t3, e3, s3⟩ := lc10 s2
          obtain ⟨u40, u41, u42, u43, u44, u45, u46, u47, u48, u49, t4, e4, s4⟩ := lc10 s3
          obtain ⟨u50, u51, u52, u53, u54, u55, u56, u57, u58, u59, t5, e5, s5⟩ := lc10 s4
          obtain ⟨u60, u61, u62, u63, u64, u65, u66, u67, u68, u69, t6, e6, s6⟩ := lc10 s5
          obtain rfl := len_nil s6
          clear hus s0 s1 s2 s3 s4 s5 s6
          subst e6 e5 e4 e3 e2 e1 e0
          have h16 : u16 = .bool true := h 16 (by kernel_rfl)
          have h21 : u21 = .bool true := h 21 (by kernel_rfl)
          clear h
          simp only [over, Act.put, List.setIfInBounds_toArray, List.set_cons_zero, List.set_cons_succ]
          subst h16
          subst h21
          go_wp2_with fail
          exact postK_normal ⟨_, rfl, rfl, Ext.refl _⟩
        refine AllSteps.cons (fun us hus w' x h => ?_) ?_
        · obtain ⟨u0, u1, u2, u3, u4, u5, u6, u7, u8, u9, t0, e0, s0⟩ := lc10 hus
          obtain ⟨u10, u11, u12, u13, u14, u15, u16, u17, u18, u19, t1, e1, s1⟩ := lc10 s0
          obtain ⟨u20, u21, u22, u23, u24, u25, u26, u27, u28, u29, t2, e2, s2⟩ := lc10 s1
          obtain ⟨u30, u31, u32, u33, u34, u35, u36, u37, u38, u39, t3, e3, s3⟩ := lc10 s2
          obtain ⟨u40, u41, u42, u43, u44, u45, u46, u47, u48, u49, t4, e4, s4⟩ := lc10 s3
          obtain ⟨u50, u51, u52, u53, u54, u55, u56, u57, u58, u59, t5, e5, s5⟩ := lc10 s4
          obtain ⟨u60, u61, u62, u63, u64, u65, u66, u67, u68, u69, t6, e6, s6⟩ := lc10 s5
          obtain rfl := len_nil s6
          clear hus s0 s1 s2 s3 s4 s5 s6
          subst e6 e5 e4 e3 e2 e1 e0
          have h22 : u22 = .bool true := h 22 (by kernel_rfl)
          clear h
          simp only [over, Act.put, List.setIfInBounds_toArray, List.set_cons_zero, List.set_cons_succ]
          subst h22
          go_wp2_with fail
          exact postK_normal ⟨_, rfl, rfl, Ext.refl _⟩
        refine AllSteps.cons (fun us hus w' x h => ?_) ?_
        · obtain ⟨u0, u1, u2, u3, u4, u5, u6, u7, u8, u9, t0, e0, s0⟩ := lc10 hus
          obtain ⟨u10, u11, u12, u13, u14, u15, u16, u17, u18, u19, t1, e1, s1⟩ := lc10 s0
          obtain ⟨u20, u21, u22, u23, u24, u25, u26, u27, u28, u29, t2, e2, s2⟩ := lc10 s1
          obtain ⟨u30, u31, u32, u33, u34, u35, u36, u37, u38, u39, t3, e3, s3⟩ := lc10 s2
          obtain ⟨u40, u41, u42, u43, u44, u45, u46, u47, u48, u49, t4, e4, s4⟩ := lc10 s3
          obtain ⟨u50, u51, u52, u53, u54, u55, u56, u57, u58, u59, t5, e5, s5⟩ := lc10 s4
          obtain ⟨u60, u61, u62, u63, u64, u65, u66, u67, u68, u69, t6, e6, s6⟩ := lc10 s5
          obtain rfl := len_nil s6
          clear hus s0 s1 s2 s3 s4 s5 s6
          subst e6 e5 e4 e3 e2 e1 e0
          have h23 : u23 = .bool true := h 23 (by kernel_rfl)
          clear h
          simp only [over, Act.put, List.setIfInBounds_toArray, List.set_cons_zero, List.set_cons_succ]
          subst h23
          go_wp2_with fail
          exact postK_normal ⟨_, rfl, rfl, Ext.refl _⟩
        refine AllSteps.cons (fun us hus w' x h => ?_) ?_
        · obtain ⟨u0, u1, u2, u3, u4, u5, u6, u7, u8, u9, t0, e0, s0⟩ := lc10 hus
          obtain ⟨u10, u11, u12, u13, u14, u15, u16, u17, u18, u19, t1, e1, s1⟩ := lc10 s0
          obtain ⟨u20, u21, u22, u23, u24, u25, u26, u27, u28, u29, t2, e2, s2⟩ := lc10 s1
          obtain ⟨u30, u31, u32, u33, u34, u35, u36, u37, u38, u39, t3, e3, s3⟩ := lc10 s2
          obtain ⟨u40, u41, u42, u43, u44, u45, u46, u47, u48, u49, t4, e4, s4⟩ := lc10 s3
          obtain ⟨u50, u51, u52, u53, u54, u55, u56, u57, u58, u59, t5, e5, s5⟩ := lc10 s4
          obtain ⟨u60, u61, u62, u63, u64, u65, u66, u67, u68, u69, t6, e6, s6⟩ := lc10 s5
          obtain rfl := len_nil s6
          clear hus s0 s1 s2 s3 s4 s5 s6
          subst e6 e5 e4 e3 e2 e1 e0
          have h24 : u24 = .string a0 := h 24 (by kernel_rfl)
          have h23 : u23 = .bool true := h 23 (by kernel_rfl)
          clear h
          simp only [over, Act.put, List.setIfInBounds_toArray, List.set_cons_zero, List.set_cons_succ]
          subst h24
          subst h23
          go_wp2_with (refine wpList_toBytes rfl 9 24 _ rfl 5 Tryd.underlying9 Tryd.underlying24 Tryd.underlying5 _ rfl hmax ?_)
          intro v5 w5 o5 x5
          go_wp2_with fail
          exact postK_normal ⟨_, rfl, o5.bs, x5⟩
        refine AllSteps.cons (fun us hus w' x h => ?_) ?_
        · obtain ⟨u0, u1, u2, u3, u4, u5, u6, u7, u8, u9, t0, e0, s0⟩ := lc10 hus
          obtain ⟨u10, u11, u12, u13, u14, u15, u16, u17, u18, u19, t1, e1, s1⟩ := lc10 s0
          obtain ⟨u20, u21, u22, u23, u24, u25, u26, u27, u28, u29, t2, e2, s2⟩ := lc10 s1
          obtain ⟨u30, u31, u32, u33, u34, u35, u36, u37, u38, u39, t3, e3, s3⟩ := lc10 s2
          obtain ⟨u40, u41, u42, u43, u44, u45, u46, u47, u48, u49, t4, e4, s4⟩ := lc10 s3
          obtain ⟨u50, u51, u52, u53, u54, u55, u56, u57, u58, u59, t5, e5, s5⟩ := lc10 s4
          obtain ⟨u60, u61, u62, u63, u64, u65, u66, u67, u68, u69, t6, e6, s6⟩ := lc10 s5
          obtain rfl := len_nil s6
          clear hus s0 s1 s2 s3 s4 s5 s6
          subst e6 e5 e4 e3 e2 e1 e0
          have h23 : u23 = .bool true := h 23 (by kernel_rfl)
          clear h
          simp only [over, Act.put, List.setIfInBounds_toArray, List.set_cons_zero, List.set_cons_succ]
          subst h23
          go_wp2_with fail
          exact postK_normal ⟨_, rfl, rfl, Ext.refl _⟩
        refine AllSteps.cons (fun us hus w' x h => ?_) ?_
        · obtain ⟨u0, u1, u2, u3, u4, u5, u6, u7, u8, u9, t0, e0, s0⟩ := lc10 hus
          obtain ⟨u10, u11, u12, u13, u14, u15, u16, u17, u18, u19, t1, e1, s1⟩ := lc10 s0
          obtain ⟨u20, u21, u22, u23, u24, u25, u26, u27, u28, u29, t2, e2, s2⟩ := lc10 s1
          obtain ⟨u30, u31, u32, u33, u34, u35, u36, u37, u38, u39, t3, e3, s3⟩ := lc10 s2
          obtain ⟨u40, u41, u42, u43, u44, u45, u46, u47, u48, u49, t4, e4, s4⟩ := lc10 s3
          obtain ⟨u50, u51, u52, u53, u54, u55, u56, u57, u58, u59, t5, e5, s5⟩ := lc10 s4
          obtain ⟨u60, u61, u62, u63, u64, u65, u66, u67, u68, u69, t6, e6, s6⟩ := lc10 s5
          obtain rfl := len_nil s6
          clear hus s0 s1 s2 s3 s4 s5 s6
          subst e6 e5 e4 e3 e2 e1 e0
          have h26 : u26 = .string ⟨TR.toArray⟩ := h 26 (by kernel_rfl)
          have h23 : u23 = .bool true := h 23 (by kernel_rfl)
          clear h
          simp only [over, Act.put, List.setIfInBounds_toArray, List.set_cons_zero, List.set_cons_succ]
          subst h26
          subst h23
          go_wp2_with (refine wpList_toBytes rfl 9 24 _ rfl 5 Tryd.underlying9 Tryd.underlying24 Tryd.underlying5 _ rfl mr ?_)
          intro v5 w5 o5 x5
          go_wp2_with fail
          exact postK_normal ⟨_, rfl, o5.bs, x5⟩
        refine AllSteps.cons (fun us hus w' x h => ?_) ?_
        · obtain ⟨u0, u1, u2, u3, u4, u5, u6, u7, u8, u9, t0, e0, s0⟩ := lc10 hus
          obtain ⟨u10, u11, u12, u13, u14, u15, u16, u17, u18, u19, t1, e1, s1⟩ := lc10 s0
          obtain ⟨u20, u21, u22, u23, u24, u25, u26, u27, u28, u29, t2, e2, s2⟩ := lc10 s1
          obtain ⟨u30, u31, u32, u33, u34, u35, u36, u37, u38, u39, t3, e3, s3⟩ := lc10 s2
          obtain ⟨u40, u41, u42, u43, u44, u45, u46, u47, u48, u49, t4, e4, s4⟩ := lc10 s3
          obtain ⟨u50, u51, u52, u53, u54, u55, u56, u57, u58, u59, t5, e5, s5⟩ := lc10 s4
          obtain ⟨u60, u61, u62, u63, u64, u65, u66, u67, u68, u69, t6, e6, s6⟩ := lc10 s5
          obtain rfl := len_nil s6
          clear hus s0 s1 s2 s3 s4 s5 s6
          subst e6 e5 e4 e3 e2 e1 e0
          have h25 : Bs w' u25 a0.data.toList := h 25 (by kernel_rfl)
          have h27 : Bs w' u27 TR := h 27 (by kernel_rfl)
          have h23 : u23 = .bool true := h 23 (by kernel_rfl)
          clear h
          simp only [over, Act.put, List.setIfInBounds_toArray, List.set_cons_zero, List.set_cons_succ]
          subst h23
          have c5 := spec_HasPrefix _ _ _ _ _ h25 h27
          rw [HP4.out] at c5
          go_wp2_with (go_at_call 31; refine c5.mono ?_)
          rintro _ _ ⟨rfl, rfl⟩
          go_wp2_with fail
          exact postK_normal ⟨_, rfl, rfl, Ext.refl _⟩
        refine AllSteps.cons (fun us hus w' x h => ?_) ?_
        · obtain ⟨u0, u1, u2, u3, u4, u5, u6, u7, u8, u9, t0, e0, s0⟩ := lc10 hus
          obtain ⟨u10, u11, u12, u13, u14, u15, u16, u17, u18, u19, t1, e1, s1⟩ := lc10 s0
          obtain ⟨u20, u21, u22, u23, u24, u25, u26, u27, u28, u29, t2, e2, s2⟩ := lc10 s1
          obtain ⟨u30, u31, u32, u33, u34, u35, u36, u37, u38, u39, t3, e3, s3⟩ := lc10 s2
          obtain ⟨u40, u41, u42, u43, u44, u45, u46, u47, u48, u49, t4, e4, s4⟩ := lc10 s3
          obtain ⟨u50, u51, u52, u53, u54, u55, u56, u57, u58, u59, t5, e5, s5⟩ := lc10 s4
          obtain ⟨u60, u61, u62, u63, u64, u65, u66, u67, u68, u69, t6, e6, s6⟩ := lc10 s5
          obtain rfl := len_nil s6
          clear hus s0 s1 s2 s3 s4 s5 s6
          subst e6 e5 e4 e3 e2 e1 e0
          have h23 : u23 = .bool true := h 23 (by kernel_rfl)
          have h28 : u28 = .bool true := h 28 (by kernel_rfl)
          clear h
          simp only [over, Act.put, List.setIfInBounds_toArray, List.set_cons_zero, List.set_cons_succ]
          subst h23
          subst h28
          go_wp2_with fail
          exact postK_normal ⟨_, rfl, rfl, Ext.refl _⟩
        refine AllSteps.cons (fun us hus w' x h => ?_) ?_
        · obtain ⟨u0, u1, u2, u3, u4, u5, u6, u7, u8, u9, t0, e0, s0⟩ := lc10 hus
          obtain ⟨u10, u11, u12, u13, u14, u15, u16, u17, u18, u19, t1, e1, s1⟩ := lc10 s0
          obtain ⟨u20, u21, u22, u23, u24, u25, u26, u27, u28, u29, t2, e2, s2⟩ := lc10 s1
          obtain ⟨u30, u31, u32, u33, u34, u35, u36, u37, u38, u39, t3, e3, s3⟩ := lc10 s2
          obtain ⟨u40, u41, u42, u43, u44, u45, u46, u47, u48, u49, t4, e4, s4⟩ := lc10 s3
          obtain ⟨u50, u51, u52, u53, u54, u55, u56, u57, u58, u59, t5, e5, s5⟩ := lc10 s4
          obtain ⟨u60, u61, u62, u63, u64, u65, u66, u67, u68, u69, t6, e6, s6⟩ := lc10 s5
          obtain rfl := len_nil s6
          clear hus s0 s1 s2 s3 s4 s5 s6
          subst e6 e5 e4 e3 e2 e1 e0
          have h29 : u29 = .bool true := h 29 (by kernel_rfl)
          clear h
          simp only [over, Act.put, List.setIfInBounds_toArray, List.set_cons_zero, List.set_cons_succ]
          subst h29
          go_wp2_with fail
          exact postK_normal ⟨_, rfl, rfl, Ext.refl _⟩
        refine AllSteps.cons (fun us hus w' x h => ?_) ?_
        · obtain ⟨u0, u1, u2, u3, u4, u5, u6, u7, u8, u9, t0, e0, s0⟩ := lc10 hus
          obtain ⟨u10, u11, u12, u13, u14, u15, u16, u17, u18, u19, t1, e1, s1⟩ := lc10 s0
          obtain ⟨u20, u21, u22, u23, u24, u25, u26, u27, u28, u29, t2, e2, s2⟩ := lc10 s1
          obtain ⟨u30, u31, u32, u33, u34, u35, u36, u37, u38, u39, t3, e3, s3⟩ := lc10 s2
          obtain ⟨u40, u41, u42, u43, u44, u45, u46, u47, u48, u49, t4, e4, s4⟩ := lc10 s3
          obtain ⟨u50, u51, u52, u53, u54, u55, u56, u57, u58, u59, t5, e5, s5⟩ := lc10 s4
          obtain ⟨u60, u61, u62, u63, u64, u65, u66, u67, u68, u69, t6, e6, s6⟩ := lc10 s5
          obtain rfl := len_nil s6
          clear hus s0 s1 s2 s3 s4 s5 s6
          subst e6 e5 e4 e3 e2 e1 e0
          have h30 : u30 = .bool true := h 30 (by kernel_rfl)
          clear h
          simp only [over, Act.put, List.setIfInBounds_toArray, List.set_cons_zero, List.set_cons_succ]
          subst h30
          go_wp2_with fail
          exact postK_normal ⟨_, rfl, rfl, Ext.refl _⟩
        refine AllSteps.cons (fun us hus w' x h => ?_) ?_
        · obtain ⟨u0, u1, u2, u3, u4, u5, u6, u7, u8, u9, t0, e0, s0⟩ := lc10 hus
          obtain ⟨u10, u11, u12, u13, u14, u15, u16, u17, u18, u19, t1, e1, s1⟩ := lc10 s0
          obtain ⟨u20, u21, u22, u23, u24, u25, u26, u27, u28, u29, t2, e2, s2⟩ := lc10 s1
          obtain ⟨u30, u31, u32, u33, u34, u35, u36, u37, u38, u39, t3, e3, s3⟩ := lc10 s2
          obtain ⟨u40, u41, u42, u43, u44, u45, u46, u47, u48, u49, t4, e4, s4⟩ := lc10 s3
          obtain ⟨u50, u51, u52, u53, u54, u55, u56, u57, u58, u59, t5, e5, s5⟩ := lc10 s4
          obtain ⟨u60, u61, u62, u63, u64, u65, u66, u67, u68, u69, t6, e6, s6⟩ := lc10 s5
          obtain rfl := len_nil s6
          clear hus s0 s1 s2 s3 s4 s5 s6
          subst e6 e5 e4 e3 e2 e1 e0
          have h31 : u31 = .string ⟨TL.toArray⟩ := h 31 (by kernel_rfl)
          have h30 : u30 = .bool true := h 30 (by kernel_rfl)
          clear h
          simp only [over, Act.put, List.setIfInBounds_toArray, List.set_cons_zero, List.set_cons_succ]
          subst h31
          subst h30
          go_wp2_with fail
          exact postK_normal ⟨_, rfl, rfl, Ext.refl _⟩
        refine AllSteps.cons (fun us hus w' x h => ?_) ?_
        · obtain ⟨u0, u1, u2, u3, u4, u5, u6, u7, u8, u9, t0, e0, s0⟩ := lc10 hus
          obtain ⟨u10, u11, u12, u13, u14, u15, u16, u17, u18, u19, t1, e1, s1⟩ := lc10 s0
          obtain ⟨u20, u21, u22, u23, u24, u25, u26, u27, u28, u29, t2, e2, s2⟩ := lc10 s1
          obtain ⟨u30, u31, u32, u33, u34, u35, u36, u37, u38, u39, t3, e3, s3⟩ := lc10 s2
          obtain ⟨u40, u41, u42, u43, u44, u45, u46, u47, u48, u49, t4, e4, s4⟩ := lc10 s3
          obtain ⟨u50, u51, u52, u53, u54, u55, u56, u57, u58, u59, t5, e5, s5⟩ := lc10 s4
          obtain ⟨u60, u61, u62, u63, u64, u65, u66, u67, u68, u69, t6, e6, s6⟩ := lc10 s5
          obtain rfl := len_nil s6
          clear hus s0 s1 s2 s3 s4 s5 s6
          subst e6 e5 e4 e3 e2 e1 e0
          have h30 : u30 = .bool true := h 30 (by kernel_rfl)
          clear h
          simp only [over, Act.put, List.setIfInBounds_toArray, List.set_cons_zero, List.set_cons_succ]
          subst h30
          go_wp2_with fail
          exact postK_normal ⟨_, rfl, rfl, Ext.refl _⟩
        refine AllSteps.cons (fun us hus w' x h => ?_) ?_
        · obtain ⟨u0, u1, u2, u3, u4, u5, u6, u7, u8, u9, t0, e0, s0⟩ := lc10 hus
          obtain ⟨u10, u11, u12, u13, u14, u15, u16, u17, u18, u19, t1, e1, s1⟩ := lc10 s0
          obtain ⟨u20, u21, u22, u23, u24, u25, u26, u27, u28, u29, t2, e2, s2⟩ := lc10 s1
          obtain ⟨u30, u31, u32, u33, u34, u35, u36, u37, u38, u39, t3, e3, s3⟩ := lc10 s2
          obtain ⟨u40, u41, u42, u43, u44, u45, u46, u47, u48, u49, t4, e4, s4⟩ := lc10 s3
          obtain ⟨u50, u51, u52, u53, u54, u55, u56, u57, u58, u59, t5, e5, s5⟩ := lc10 s4
          obtain ⟨u60, u61, u62, u63, u64, u65, u66, u67, u68, u69, t6, e6, s6⟩ := lc10 s5
          obtain rfl := len_nil s6
          clear hus s0 s1 s2 s3 s4 s5 s6
          subst e6 e5 e4 e3 e2 e1 e0
          have h33 : u33 = .string ⟨TR.toArray⟩ := h 33 (by kernel_rfl)
          have h30 : u30 = .bool true := h 30 (by kernel_rfl)
          clear h
          simp only [over, Act.put, List.setIfInBounds_toArray, List.set_cons_zero, List.set_cons_succ]
          subst h33
          subst h30
          go_wp2_with fail
          exact postK_normal ⟨_, rfl, rfl, Ext.refl _⟩
        refine AllSteps.cons (fun us hus w' x h => ?_) ?_
        · obtain ⟨u0, u1, u2, u3, u4, u5, u6, u7, u8, u9, t0, e0, s0⟩ := lc10 hus
          obtain ⟨u10, u11, u12, u13, u14, u15, u16, u17, u18, u19, t1, e1, s1⟩ := lc10 s0
          obtain ⟨u20, u21, u22, u23, u24, u25, u26, u27, u28, u29, t2, e2, s2⟩ := lc10 s1
          obtain ⟨u30, u31, u32, u33, u34, u35, u36, u37, u38, u39, t3, e3, s3⟩ := lc10 s2
          obtain ⟨u40, u41, u42, u43, u44, u45, u46, u47, u48, u49, t4, e4, s4⟩ := lc10 s3
          obtain ⟨u50, u51, u52, u53, u54, u55, u56, u57, u58, u59, t5, e5, s5⟩ := lc10 s4
          obtain ⟨u60, u61, u62, u63, u64, u65, u66, u67, u68, u69, t6, e6, s6⟩ := lc10 s5
          obtain rfl := len_nil s6
          clear hus s0 s1 s2 s3 s4 s5 s6
          subst e6 e5 e4 e3 e2 e1 e0
          have h32 : u32 = .int .i64 ((TL.length : Int)) := h 32 (by kernel_rfl)
          have h34 : u34 = .int .i64 ((TR.length : Int)) := h 34 (by kernel_rfl)
          have h30 : u30 = .bool true := h 30 (by kernel_rfl)
          clear h
          simp only [over, Act.put, List.setIfInBounds_toArray, List.set_cons_zero, List.set_cons_succ]
          subst h32
          subst h34
          subst h30
          go_wp2_with fail
          exact postK_normal ⟨_, rfl, rfl, Ext.refl _⟩
        refine AllSteps.cons (fun us hus w' x h => ?_) ?_
        · obtain ⟨u0, u1, u2, u3, u4, u5, u6, u7, u8, u9, t0, e0, s0⟩ := lc10 hus
          obtain ⟨u10, u11, u12, u13, u14, u15, u16, u17, u18, u19, t1, e1, s1⟩ := lc10 s0
          obtain ⟨u20, u21, u22, u23, u24, u25, u26, u27, u28, u29, t2, e2, s2⟩ := lc10 s1
          obtain ⟨u30, u31, u32, u33, u34, u35, u36, u37, u38, u39, t3, e3, s3⟩ := lc10 s2
          obtain ⟨u40, u41, u42, u43, u44, u45, u46, u47, u48, u49, t4, e4, s4⟩ := lc10 s3
          obtain ⟨u50, u51, u52, u53, u54, u55, u56, u57, u58, u59, t5, e5, s5⟩ := lc10 s4
          obtain ⟨u60, u61, u62, u63, u64, u65, u66, u67, u68, u69, t6, e6, s6⟩ := lc10 s5
          obtain rfl := len_nil s6
          clear hus s0 s1 s2 s3 s4 s5 s6
          subst e6 e5 e4 e3 e2 e1 e0
          have h30 : u30 = .bool true := h 30 (by kernel_rfl)
          clear h
          simp only [over, Act.put, List.setIfInBounds_toArray, List.set_cons_zero, List.set_cons_succ]
          subst h30
          go_wp2_with fail
          exact postK_normal ⟨_, rfl, rfl, Ext.refl _⟩
        refine AllSteps.cons (fun us hus w' x h => ?_) ?_
        · obtain ⟨u0, u1, u2, u3, u4, u5, u6, u7, u8, u9, t0, e0, s0⟩ := lc10 hus
          obtain ⟨u10, u11, u12, u13, u14, u15, u16, u17, u18, u19, t1, e1, s1⟩ := lc10 s0
          obtain ⟨u20, u21, u22, u23, u24, u25, u26, u27, u28, u29, t2, e2, s2⟩ := lc10 s1
          obtain ⟨u30, u31, u32, u33, u34, u35, u36, u37, u38, u39, t3, e3, s3⟩ := lc10 s2
          obtain ⟨u40, u41, u42, u43, u44, u45, u46, u47, u48, u49, t4, e4, s4⟩ := lc10 s3
          obtain ⟨u50, u51, u52, u53, u54, u55, u56, u57, u58, u59, t5, e5, s5⟩ := lc10 s4
          obtain ⟨u60, u61, u62, u63, u64, u65, u66, u67, u68, u69, t6, e6, s6⟩ := lc10 s5
          obtain rfl := len_nil s6
          clear hus s0 s1 s2 s3 s4 s5 s6
          subst e6 e5 e4 e3 e2 e1 e0
          have h36 : u36 = .string ⟨TT.toArray⟩ := h 36 (by kernel_rfl)
          have h30 : u30 = .bool true := h 30 (by kernel_rfl)
          clear h
          simp only [over, Act.put, List.setIfInBounds_toArray, List.set_cons_zero, List.set_cons_succ]
          subst h36
          subst h30
          go_wp2_with fail
          exact postK_normal ⟨_, rfl, rfl, Ext.refl _⟩
        refine AllSteps.cons (fun us hus w' x h => ?_) ?_
        · obtain ⟨u0, u1, u2, u3, u4, u5, u6, u7, u8, u9, t0, e0, s0⟩ := lc10 hus
          obtain ⟨u10, u11, u12, u13, u14, u15, u16, u17, u18, u19, t1, e1, s1⟩ := lc10 s0
          obtain ⟨u20, u21, u22, u23, u24, u25, u26, u27, u28, u29, t2, e2, s2⟩ := lc10 s1
          obtain ⟨u30, u31, u32, u33, u34, u35, u36, u37, u38, u39, t3, e3, s3⟩ := lc10 s2
          obtain ⟨u40, u41, u42, u43, u44, u45, u46, u47, u48, u49, t4, e4, s4⟩ := lc10 s3
          obtain ⟨u50, u51, u52, u53, u54, u55, u56, u57, u58, u59, t5, e5, s5⟩ := lc10 s4
          obtain ⟨u60, u61, u62, u63, u64, u65, u66, u67, u68, u69, t6, e6, s6⟩ := lc10 s5
          obtain rfl := len_nil s6
          clear hus s0 s1 s2 s3 s4 s5 s6
          subst e6 e5 e4 e3 e2 e1 e0
          have h35 : u35 = .int .i64 ((TL.length : Int) + (TR.length : Int)) := h 35 (by kernel_rfl)
          have h37 : u37 = .int .i64 ((TT.length : Int)) := h 37 (by kernel_rfl)
          have h30 : u30 = .bool true := h 30 (by kernel_rfl)
          clear h
          simp only [over, Act.put, List.setIfInBounds_toArray, List.set_cons_zero, List.set_cons_succ]
          subst h35
          subst h37
          subst h30
          have hge := HGE.out
          go_wp2_with fail
          exact postK_normal ⟨_, rfl, rfl, Ext.refl _⟩
        refine AllSteps.cons (fun us hus w' x h => ?_) ?_
        · obtain ⟨u0, u1, u2, u3, u4, u5, u6, u7, u8, u9, t0, e0, s0⟩ := lc10 hus
          obtain ⟨u10, u11, u12, u13, u14, u15, u16, u17, u18, u19, t1, e1, s1⟩ := lc10 s0
          obtain ⟨u20, u21, u22, u23, u24, u25, u26, u27, u28, u29, t2, e2, s2⟩ := lc10 s1
          obtain ⟨u30, u31, u32, u33, u34, u35, u36, u37, u38, u39, t3, e3, s3⟩ := lc10 s2
          obtain ⟨u40, u41, u42, u43, u44, u45, u46, u47, u48, u49, t4, e4, s4⟩ := lc10 s3
          obtain ⟨u50, u51, u52, u53, u54, u55, u56, u57, u58, u59, t5, e5, s5⟩ := lc10 s4
          obtain ⟨u60, u61, u62, u63, u64, u65, u66, u67, u68, u69, t6, e6, s6⟩ := lc10 s5
          obtain rfl := len_nil s6
          clear hus s0 s1 s2 s3 s4 s5 s6
          subst e6 e5 e4 e3 e2 e1 e0
          have h30 : u30 = .bool true := h 30 (by kernel_rfl)
          have h38 : u38 = .bool true := h 38 (by kernel_rfl)
          clear h
          simp only [over, Act.put, List.setIfInBounds_toArray, List.set_cons_zero, List.set_cons_succ]
          subst h30
          subst h38
          go_wp2_with fail
          exact postK_normal ⟨_, rfl, rfl, Ext.refl _⟩
        refine AllSteps.cons (fun us hus w' x h => ?_) ?_
        · obtain ⟨u0, u1, u2, u3, u4, u5, u6, u7, u8, u9, t0, e0, s0⟩ := lc10 hus
          obtain ⟨u10, u11, u12, u13, u14, u15, u16, u17, u18, u19, t1, e1, s1⟩ := lc10 s0
          obtain ⟨u20, u21, u22, u23, u24, u25, u26, u27, u28, u29, t2, e2, s2⟩ := lc10 s1
          obtain ⟨u30, u31, u32, u33, u34, u35, u36, u37, u38, u39, t3, e3, s3⟩ := lc10 s2
          obtain ⟨u40, u41, u42, u43, u44, u45, u46, u47, u48, u49, t4, e4, s4⟩ := lc10 s3
          obtain ⟨u50, u51, u52, u53, u54, u55, u56, u57, u58, u59, t5, e5, s5⟩ := lc10 s4
          obtain ⟨u60, u61, u62, u63, u64, u65, u66, u67, u68, u69, t6, e6, s6⟩ := lc10 s5
          obtain rfl := len_nil s6
          clear hus s0 s1 s2 s3 s4 s5 s6
          subst e6 e5 e4 e3 e2 e1 e0
          have h39 : u39 = .bool true := h 39 (by kernel_rfl)
          clear h
          simp only [over, Act.put, List.setIfInBounds_toArray, List.set_cons_zero, List.set_cons_succ]
          subst h39
          go_wp2_with fail
          exact postK_normal ⟨_, rfl, rfl, Ext.refl _⟩
        refine AllSteps.cons (fun us hus w' x h => ?_) ?_
        · obtain ⟨u0, u1, u2, u3, u4, u5, u6, u7, u8, u9, t0, e0, s0⟩ := lc10 hus
          obtain ⟨u10, u11, u12, u13, u14, u15, u16, u17, u18, u19, t1, e1, s1⟩ := lc10 s0
          obtain ⟨u20, u21, u22, u23, u24, u25, u26, u27, u28, u29, t2, e2, s2⟩ := lc10 s1
          obtain ⟨u30, u31, u32, u33, u34, u35, u36, u37, u38, u39, t3, e3, s3⟩ := lc10 s2
          obtain ⟨u40, u41, u42, u43, u44, u45, u46, u47, u48, u49, t4, e4, s4⟩ := lc10 s3
          obtain ⟨u50, u51, u52, u53, u54, u55, u56, u57, u58, u59, t5, e5, s5⟩ := lc10 s4
          obtain ⟨u60, u61, u62, u63, u64, u65, u66, u67, u68, u69, t6, e6, s6⟩ := lc10 s5
          obtain rfl := len_nil s6
          clear hus s0 s1 s2 s3 s4 s5 s6
          subst e6 e5 e4 e3 e2 e1 e0
          have h40 : u40 = .bool true := h 40 (by kernel_rfl)
          clear h
          simp only [over, Act.put, List.setIfInBounds_toArray, List.set_cons_zero, List.set_cons_succ]
          subst h40
          go_wp2_with fail
          exact postK_normal ⟨_, rfl, rfl, Ext.refl _⟩
        refine AllSteps.cons (fun us hus w' x h => ?_) ?_
        · obtain ⟨u0, u1, u2, u3, u4, u5, u6, u7, u8, u9, t0, e0, s0⟩ := lc10 hus
          obtain ⟨u10, u11, u12, u13, u14, u15, u16, u17, u18, u19, t1, e1, s1⟩ := lc10 s0
          obtain ⟨u20, u21, u22, u23, u24, u25, u26, u27, u28, u29, t2, e2, s2⟩ := lc10 s1
          obtain ⟨u30, u31, u32, u33, u34, u35, u36, u37, u38, u39, t3, e3, s3⟩ := lc10 s2
          obtain ⟨u40, u41, u42, u43, u44, u45, u46, u47, u48, u49, t4, e4, s4⟩ := lc10 s3
          obtain ⟨u50, u51, u52, u53, u54, u55, u56, u57, u58, u59, t5, e5, s5⟩ := lc10 s4
          obtain ⟨u60, u61, u62, u63, u64, u65, u66, u67, u68, u69, t6, e6, s6⟩ := lc10 s5
          obtain rfl := len_nil s6
          clear hus s0 s1 s2 s3 s4 s5 s6
          subst e6 e5 e4 e3 e2 e1 e0
          have h41 : u41 = .string a0 := h 41 (by kernel_rfl)
          have h40 : u40 = .bool true := h 40 (by kernel_rfl)
          clear h
          simp only [over, Act.put, List.setIfInBounds_toArray, List.set_cons_zero, List.set_cons_succ]
          subst h41
          subst h40
          have he := HE0.out
          go_wp2_with fail
          exact postK_normal ⟨_, rfl, rfl, Ext.refl _⟩
        refine AllSteps.cons (fun us hus w' x h => ?_) ?_
        · obtain ⟨u0, u1, u2, u3, u4, u5, u6, u7, u8, u9, t0, e0, s0⟩ := lc10 hus
          obtain ⟨u10, u11, u12, u13, u14, u15, u16, u17, u18, u19, t1, e1, s1⟩ := lc10 s0
          obtain ⟨u20, u21, u22, u23, u24, u25, u26, u27, u28, u29, t2, e2, s2⟩ := lc10 s1
          obtain ⟨u30, u31, u32, u33, u34, u35, u36, u37, u38, u39, t3, e3, s3⟩ := lc10 s2
          obtain ⟨u40, u41, u42, u43, u44, u45, u46, u47, u48, u49, t4, e4, s4⟩ := lc10 s3
          obtain ⟨u50, u51, u52, u53, u54, u55, u56, u57, u58, u59, t5, e5, s5⟩ := lc10 s4
          obtain ⟨u60, u61, u62, u63, u64, u65, u66, u67, u68, u69, t6, e6, s6⟩ := lc10 s5
          obtain rfl := len_nil s6
          clear hus s0 s1 s2 s3 s4 s5 s6
          subst e6 e5 e4 e3 e2 e1 e0
          have h42 : u42 = .bool E0 := h 42 (by kernel_rfl)
          have h40 : u40 = .bool true := h 40 (by kernel_rfl)
          clear h
          simp only [over, Act.put, List.setIfInBounds_toArray, List.set_cons_zero, List.set_cons_succ]
          subst h42
          subst h40
          go_wp2_with fail
          exact postK_normal ⟨_, rfl, rfl, Ext.refl _⟩
        refine AllSteps.cons (fun us hus w' x h => ?_) ?_
        · obtain ⟨u0, u1, u2, u3, u4, u5, u6, u7, u8, u9, t0, e0, s0⟩ := lc10 hus
          obtain ⟨u10, u11, u12, u13, u14, u15, u16, u17, u18, u19, t1, e1, s1⟩ := lc10 s0
          obtain ⟨u20, u21, u22, u23, u24, u25, u26, u27, u28, u29, t2, e2, s2⟩ := lc10 s1
          obtain ⟨u30, u31, u32, u33, u34, u35, u36, u37, u38, u39, t3, e3, s3⟩ := lc10 s2
          obtain ⟨u40, u41, u42, u43, u44, u45, u46, u47, u48, u49, t4, e4, s4⟩ := lc10 s3
          obtain ⟨u50, u51, u52, u53, u54, u55, u56, u57, u58, u59, t5, e5, s5⟩ := lc10 s4
          obtain ⟨u60, u61, u62, u63, u64, u65, u66, u67, u68, u69, t6, e6, s6⟩ := lc10 s5
          obtain rfl := len_nil s6
          clear hus s0 s1 s2 s3 s4 s5 s6
          subst e6 e5 e4 e3 e2 e1 e0
          have h43 : u43 = .bool E0 := h 43 (by kernel_rfl)
          clear h
          simp only [over, Act.put, List.setIfInBounds_toArray, List.set_cons_zero, List.set_cons_succ]
          subst h43
          cases E0
          · go_wp2_with fail; refine postK_normal ⟨_, rfl, ?_, Ext.refl _⟩; first | rfl | (intro _; rfl)
          · go_wp2_with fail
            refine postK_normal ⟨_, rfl, ?_, Ext.refl _⟩
            intro h
            cases h
        refine AllSteps.cons (fun us hus w' x h => ?_) ?_
        · obtain ⟨u0, u1, u2, u3, u4, u5, u6, u7, u8, u9, t0, e0, s0⟩ := lc10 hus
          obtain ⟨u10, u11, u12, u13, u14, u15, u16, u17, u18, u19, t1, e1, s1⟩ := lc10 s0
          obtain ⟨u20, u21, u22, u23, u24, u25, u26, u27, u28, u29, t2, e2, s2⟩ := lc10 s1
          obtain ⟨u30, u31, u32, u33, u34, u35, u36, u37, u38, u39, t3, e3, s3⟩ := lc10 s2
          obtain ⟨u40, u41, u42, u43, u44, u45, u46, u47, u48, u49, t4, e4, s4⟩ := lc10 s3
          obtain ⟨u50, u51, u52, u53, u54, u55, u56, u57, u58, u59, t5, e5, s5⟩ := lc10 s4
          obtain ⟨u60, u61, u62, u63, u64, u65, u66, u67, u68, u69, t6, e6, s6⟩ := lc10 s5
          obtain rfl := len_nil s6
          clear hus s0 s1 s2 s3 s4 s5 s6
          subst e6 e5 e4 e3 e2 e1 e0
          have h44 : E0 = false → u44 = .string ⟨TL.toArray⟩ := h 44 (by kernel_rfl)
          have h43 : u43 = .bool E0 := h 43 (by kernel_rfl)
          clear h
          simp only [over, Act.put, List.setIfInBounds_toArray, List.set_cons_zero, List.set_cons_succ]
          subst h43
          cases E0
          · have k44 := h44 rfl; subst k44; go_wp2_with fail; refine postK_normal ⟨_, rfl, ?_, Ext.refl _⟩; first | rfl | (intro _; rfl)
          · go_wp2_with fail
            refine postK_normal ⟨_, rfl, ?_, Ext.refl _⟩
            intro h
            cases h
        refine AllSteps.cons (fun us hus w' x h => ?_) ?_
        · obtain ⟨u0, u1, u2, u3, u4, u5, u6, u7, u8, u9, t0, e0, s0⟩ := lc10 hus
          obtain ⟨u10, u11, u12, u13, u14, u15, u16, u17, u18, u19, t1, e1, s1⟩ := lc10 s0
          obtain ⟨u20, u21, u22, u23, u24, u25, u26, u27, u28, u29, t2, e2, s2⟩ := lc10 s1
          obtain ⟨u30, u31, u32, u33, u34, u35, u36, u37, u38, u39, t3, e3, s3⟩ := lc10 s2
          obtain ⟨u40, u41, u42, u43, u44, u45, u46, u47, u48, u49, t4, e4, s4⟩ := lc10 s3
          obtain ⟨u50, u51, u52, u53, u54, u55, u56, u57, u58, u59, t5, e5, s5⟩ := lc10 s4
          obtain ⟨u60, u61, u62, u63, u64, u65, u66, u67, u68, u69, t6, e6, s6⟩ := lc10 s5
          obtain rfl := len_nil s6
          clear hus s0 s1 s2 s3 s4 s5 s6
          subst e6 e5 e4 e3 e2 e1 e0
          have h43 : u43 = .bool E0 := h 43 (by kernel_rfl)
          clear h
          simp only [over, Act.put, List.setIfInBounds_toArray, List.set_cons_zero, List.set_cons_succ]
          subst h43
          cases E0
          · go_wp2_with fail; refine postK_normal ⟨_, rfl, ?_, Ext.refl _⟩; first | rfl | (intro _; rfl)
          · go_wp2_with fail
            refine postK_normal ⟨_, rfl, ?_, Ext.refl _⟩
            intro h
            cases h
        refine AllSteps.cons (fun us hus w' x h => ?_) ?_
        · obtain ⟨u0, u1, u2, u3, u4, u5, u6, u7, u8, u9, t0, e0, s0⟩ := lc10 hus
          obtain ⟨u10, u11, u12, u13, u14, u15, u16, u17, u18, u19, t1, e1, s1⟩ := lc10 s0
          obtain ⟨u20, u21, u22, u23, u24, u25, u26, u27, u28, u29, t2, e2, s2⟩ := lc10 s1
          obtain ⟨u30, u31, u32, u33, u34, u35, u36, u37, u38, u39, t3, e3, s3⟩ := lc10 s2
          obtain ⟨u40, u41, u42, u43, u44, u45, u46, u47, u48, u49, t4, e4, s4⟩ := lc10 s3
          obtain ⟨u50, u51, u52, u53, u54, u55, u56, u57, u58, u59, t5, e5, s5⟩ := lc10 s4
          obtain ⟨u60, u61, u62, u63, u64, u65, u66, u67, u68, u69, t6, e6, s6⟩ := lc10 s5
          obtain rfl := len_nil s6
          clear hus s0 s1 s2 s3 s4 s5 s6
          subst e6 e5 e4 e3 e2 e1 e0
          have h46 : E0 = false → u46 = .string ⟨TR.toArray⟩ := h 46 (by kernel_rfl)
          have h43 : u43 = .bool E0 := h 43 (by kernel_rfl)
          clear h
          simp only [over, Act.put, List.setIfInBounds_toArray, List.set_cons_zero, List.set_cons_succ]
          subst h43
          cases E0
          · have k46 := h46 rfl; subst k46; go_wp2_with fail; refine postK_normal ⟨_, rfl, ?_, Ext.refl _⟩; first | rfl | (intro _; rfl)
          · go_wp2_with fail
            refine postK_normal ⟨_, rfl, ?_, Ext.refl _⟩
            intro h
            cases h
        refine AllSteps.cons (fun us hus w' x h => ?_) ?_
        · obtain ⟨u0, u1, u2, u3, u4, u5, u6, u7, u8, u9, t0, e0, s0⟩ := lc10 hus
          obtain ⟨u10, u11, u12, u13, u14, u15, u16, u17, u18, u19, t1, e1, s1⟩ := lc10 s0
          obtain ⟨u20, u21, u22, u23, u24, u25, u26, u27, u28, u29, t2, e2, s2⟩ := lc10 s1
          obtain ⟨u30, u31, u32, u33, u34, u35, u36, u37, u38, u39, t3, e3, s3⟩ := lc10 s2
          obtain ⟨u40, u41, u42, u43, u44, u45, u46, u47, u48, u49, t4, e4, s4⟩ := lc10 s3
          obtain ⟨u50, u51, u52, u53, u54, u55, u56, u57, u58, u59, t5, e5, s5⟩ := lc10 s4
          obtain ⟨u60, u61, u62, u63, u64, u65, u66, u67, u68, u69, t6, e6, s6⟩ := lc10 s5
          obtain rfl := len_nil s6
          clear hus s0 s1 s2 s3 s4 s5 s6
          subst e6 e5 e4 e3 e2 e1 e0
          have h45 : E0 = false → u45 = .int .i64 ((TL.length : Int)) := h 45 (by kernel_rfl)
          have h47 : E0 = false → u47 = .int .i64 ((TR.length : Int)) := h 47 (by kernel_rfl)
          have h43 : u43 = .bool E0 := h 43 (by kernel_rfl)
          clear h
          simp only [over, Act.put, List.setIfInBounds_toArray, List.set_cons_zero, List.set_cons_succ]
          subst h43
          cases E0
          · have k45 := h45 rfl; have k47 := h47 rfl; subst k45; subst k47; go_wp2_with fail; refine postK_normal ⟨_, rfl, ?_, Ext.refl _⟩; first | rfl | (intro _; rfl)
          · go_wp2_with fail
            refine postK_normal ⟨_, rfl, ?_, Ext.refl _⟩
            intro h
            cases h
        refine AllSteps.cons (fun us hus w' x h => ?_) ?_
        · obtain ⟨u0, u1, u2, u3, u4, u5, u6, u7, u8, u9, t0, e0, s0⟩ := lc10 hus
          obtain ⟨u10, u11, u12, u13, u14, u15, u16, u17, u18, u19, t1, e1, s1⟩ := lc10 s0
          obtain ⟨u20, u21, u22, u23, u24, u25, u26, u27, u28, u29, t2, e2, s2⟩ := lc10 s1
          obtain ⟨u30, u31, u32, u33, u34, u35, u36, u37, u38, u39, t3, e3, s3⟩ := lc10 s2
          obtain ⟨u40, u41, u42, u43, u44, u45, u46, u47, u48, u49, t4, e4, s4⟩ := lc10 s3
          obtain ⟨u50, u51, u52, u53, u54, u55, u56, u57, u58, u59, t5, e5, s5⟩ := lc10 s4
          obtain ⟨u60, u61, u62, u63, u64, u65, u66, u67, u68, u69, t6, e6, s6⟩ := lc10 s5
          obtain rfl := len_nil s6
          clear hus s0 s1 s2 s3 s4 s5 s6
          subst e6 e5 e4 e3 e2 e1 e0
          have h43 : u43 = .bool E0 := h 43 (by kernel_rfl)
          clear h
          simp only [over, Act.put, List.setIfInBounds_toArray, List.set_cons_zero, List.set_cons_succ]
          subst h43
          cases E0
          · go_wp2_with fail; refine postK_normal ⟨_, rfl, ?_, Ext.refl _⟩; first | rfl | (intro _; rfl)
          · go_wp2_with fail
            refine postK_normal ⟨_, rfl, ?_, Ext.refl _⟩
            intro h
            cases h
        refine AllSteps.cons (fun us hus w' x h => ?_) ?_
        · obtain ⟨u0, u1, u2, u3, u4, u5, u6, u7, u8, u9, t0, e0, s0⟩ := lc10 hus
          obtain ⟨u10, u11, u12, u13, u14, u15, u16, u17, u18, u19, t1, e1, s1⟩ := lc10 s0
          obtain ⟨u20, u21, u22, u23, u24, u25, u26, u27, u28, u29, t2, e2, s2⟩ := lc10 s1
          obtain ⟨u30, u31, u32, u33, u34, u35, u36, u37, u38, u39, t3, e3, s3⟩ := lc10 s2
          obtain ⟨u40, u41, u42, u43, u44, u45, u46, u47, u48, u49, t4, e4, s4⟩ := lc10 s3
          obtain ⟨u50, u51, u52, u53, u54, u55, u56, u57, u58, u59, t5, e5, s5⟩ := lc10 s4
          obtain ⟨u60, u61, u62, u63, u64, u65, u66, u67, u68, u69, t6, e6, s6⟩ := lc10 s5
          obtain rfl := len_nil s6
          clear hus s0 s1 s2 s3 s4 s5 s6
          subst e6 e5 e4 e3 e2 e1 e0
          have h49 : E0 = false → u49 = .string ⟨TT.toArray⟩ := h 49 (by kernel_rfl)
          have h43 : u43 = .bool E0 := h 43 (by kernel_rfl)
          clear h
          simp only [over, Act.put, List.setIfInBounds_toArray, List.set_cons_zero, List.set_cons_succ]
          subst h43
          cases E0
          · have k49 := h49 rfl; subst k49; go_wp2_with fail; refine postK_normal ⟨_, rfl, ?_, Ext.refl _⟩; first | rfl | (intro _; rfl)
          · go_wp2_with fail
            refine postK_normal ⟨_, rfl, ?_, Ext.refl _⟩
            intro h
            cases h
        refine AllSteps.cons (fun us hus w' x h => ?_) ?_
        · obtain ⟨u0, u1, u2, u3, u4, u5, u6, u7, u8, u9, t0, e0, s0⟩ := lc10 hus
          obtain ⟨u10, u11, u12, u13, u14, u15, u16, u17, u18, u19, t1, e1, s1⟩ := lc10 s0
          obtain ⟨u20, u21, u22, u23, u24, u25, u26, u27, u28, u29, t2, e2, s2⟩ := lc10 s1
          obtain ⟨u30, u31, u32, u33, u34, u35, u36, u37, u38, u39, t3, e3, s3⟩ := lc10 s2
          obtain ⟨u40, u41, u42, u43, u44, u45, u46, u47, u48, u49, t4, e4, s4⟩ := lc10 s3
          obtain ⟨u50, u51, u52, u53, u54, u55, u56, u57, u58, u59, t5, e5, s5⟩ := lc10 s4
          obtain ⟨u60, u61, u62, u63, u64, u65, u66, u67, u68, u69, t6, e6, s6⟩ := lc10 s5
          obtain rfl := len_nil s6
          clear hus s0 s1 s2 s3 s4 s5 s6
          subst e6 e5 e4 e3 e2 e1 e0
          have h48 : E0 = false → u48 = .int .i64 ((TL.length : Int) + (TR.length : Int)) := h 48 (by kernel_rfl)
          have h50 : E0 = false → u50 = .int .i64 ((TT.length : Int)) := h 50 (by kernel_rfl)
          have h43 : u43 = .bool E0 := h 43 (by kernel_rfl)
          clear h
          simp only [over, Act.put, List.setIfInBounds_toArray, List.set_cons_zero, List.set_cons_succ]
          subst h43
          cases E0
          · have k48 := h48 rfl; have k50 := h50 rfl; subst k48; subst k50; go_wp2_with fail; refine postK_normal ⟨_, rfl, ?_, Ext.refl _⟩; first | rfl | (intro _; rfl)
          · go_wp2_with fail
            refine postK_normal ⟨_, rfl, ?_, Ext.refl _⟩
            intro h
            cases h
        refine AllSteps.cons (fun us hus w' x h => ?_) ?_
        · obtain ⟨u0, u1, u2, u3, u4, u5, u6, u7, u8, u9, t0, e0, s0⟩ := lc10 hus
          obtain ⟨u10, u11, u12, u13, u14, u15, u16, u17, u18, u19, t1, e1, s1⟩ := lc10 s0
          obtain ⟨u20, u21, u22, u23, u24, u25, u26, u27, u28, u29, t2, e2, s2⟩ := lc10 s1
          obtain ⟨u30, u31, u32, u33, u34, u35, u36, u37, u38, u39, t3, e3, s3⟩ := lc10 s2
          obtain ⟨u40, u41, u42, u43, u44, u45, u46, u47, u48, u49, t4, e4, s4⟩ := lc10 s3
          obtain ⟨u50, u51, u52, u53, u54, u55, u56, u57, u58, u59, t5, e5, s5⟩ := lc10 s4
          obtain ⟨u60, u61, u62, u63, u64, u65, u66, u67, u68, u69, t6, e6, s6⟩ := lc10 s5
          obtain rfl := len_nil s6
          clear hus s0 s1 s2 s3 s4 s5 s6
          subst e6 e5 e4 e3 e2 e1 e0
          have h43 : u43 = .bool E0 := h 43 (by kernel_rfl)
          clear h
          simp only [over, Act.put, List.setIfInBounds_toArray, List.set_cons_zero, List.set_cons_succ]
          subst h43
          cases E0
          · go_wp2_with fail; refine postK_normal ⟨_, rfl, ?_, Ext.refl _⟩; first | rfl | (intro _; rfl)
          · go_wp2_with fail
            refine postK_normal ⟨_, rfl, ?_, Ext.refl _⟩
            intro h
            cases h
        refine AllSteps.cons (fun us hus w' x h => ?_) ?_
        · obtain ⟨u0, u1, u2, u3, u4, u5, u6, u7, u8, u9, t0, e0, s0⟩ := lc10 hus
          obtain ⟨u10, u11, u12, u13, u14, u15, u16, u17, u18, u19, t1, e1, s1⟩ := lc10 s0
          obtain ⟨u20, u21, u22, u23, u24, u25, u26, u27, u28, u29, t2, e2, s2⟩ := lc10 s1
          obtain ⟨u30, u31, u32, u33, u34, u35, u36, u37, u38, u39, t3, e3, s3⟩ := lc10 s2
          obtain ⟨u40, u41, u42, u43, u44, u45, u46, u47, u48, u49, t4, e4, s4⟩ := lc10 s3
          obtain ⟨u50, u51, u52, u53, u54, u55, u56, u57, u58, u59, t5, e5, s5⟩ := lc10 s4
          obtain ⟨u60, u61, u62, u63, u64, u65, u66, u67, u68, u69, t6, e6, s6⟩ := lc10 s5
          obtain rfl := len_nil s6
          clear hus s0 s1 s2 s3 s4 s5 s6
          subst e6 e5 e4 e3 e2 e1 e0
          have h52 : E0 = false → u52 = .string a0 := h 52 (by kernel_rfl)
          have h43 : u43 = .bool E0 := h 43 (by kernel_rfl)
          clear h
          simp only [over, Act.put, List.setIfInBounds_toArray, List.set_cons_zero, List.set_cons_succ]
          subst h43
          cases E0
          · have k52 := h52 rfl; subst k52; go_wp2_with fail; refine postK_normal ⟨_, rfl, ?_, Ext.refl _⟩; first | rfl | (intro _; rfl)
          · go_wp2_with fail
            refine postK_normal ⟨_, rfl, ?_, Ext.refl _⟩
            intro h
            cases h
        refine AllSteps.cons (fun us hus w' x h => ?_) ?_
        · obtain ⟨u0, u1, u2, u3, u4, u5, u6, u7, u8, u9, t0, e0, s0⟩ := lc10 hus
          obtain ⟨u10, u11, u12, u13, u14, u15, u16, u17, u18, u19, t1, e1, s1⟩ := lc10 s0
          obtain ⟨u20, u21, u22, u23, u24, u25, u26, u27, u28, u29, t2, e2, s2⟩ := lc10 s1
          obtain ⟨u30, u31, u32, u33, u34, u35, u36, u37, u38, u39, t3, e3, s3⟩ := lc10 s2
          obtain ⟨u40, u41, u42, u43, u44, u45, u46, u47, u48, u49, t4, e4, s4⟩ := lc10 s3
          obtain ⟨u50, u51, u52, u53, u54, u55, u56, u57, u58, u59, t5, e5, s5⟩ := lc10 s4
          obtain ⟨u60, u61, u62, u63, u64, u65, u66, u67, u68, u69, t6, e6, s6⟩ := lc10 s5
          obtain rfl := len_nil s6
          clear hus s0 s1 s2 s3 s4 s5 s6
          subst e6 e5 e4 e3 e2 e1 e0
          have h51 : E0 = false → u51 = .int .i64 ((TL.length : Int) + (TR.length : Int) - (TT.length : Int)) := h 51 (by kernel_rfl)
          have h53 : E0 = false → u53 = .int .i64 ((a0.size : Int)) := h 53 (by kernel_rfl)
          have h43 : u43 = .bool E0 := h 43 (by kernel_rfl)
          clear h
          simp only [over, Act.put, List.setIfInBounds_toArray, List.set_cons_zero, List.set_cons_succ]
          subst h43
          cases E0
          · have k51 := h51 rfl; have k53 := h53 rfl; subst k51; subst k53; have he := HE1.out; go_wp2_with fail; refine postK_normal ⟨_, rfl, ?_, Ext.refl _⟩; first | rfl | (intro _; rfl)
          · go_wp2_with fail
            refine postK_normal ⟨_, rfl, ?_, Ext.refl _⟩
            intro h
            cases h
        refine AllSteps.cons (fun us hus w' x h => ?_) ?_
        · obtain ⟨u0, u1, u2, u3, u4, u5, u6, u7, u8, u9, t0, e0, s0⟩ := lc10 hus
          obtain ⟨u10, u11, u12, u13, u14, u15, u16, u17, u18, u19, t1, e1, s1⟩ := lc10 s0
          obtain ⟨u20, u21, u22, u23, u24, u25, u26, u27, u28, u29, t2, e2, s2⟩ := lc10 s1
          obtain ⟨u30, u31, u32, u33, u34, u35, u36, u37, u38, u39, t3, e3, s3⟩ := lc10 s2
          obtain ⟨u40, u41, u42, u43, u44, u45, u46, u47, u48, u49, t4, e4, s4⟩ := lc10 s3
          obtain ⟨u50, u51, u52, u53, u54, u55, u56, u57, u58, u59, t5, e5, s5⟩ := lc10 s4
          obtain ⟨u60, u61, u62, u63, u64, u65, u66, u67, u68, u69, t6, e6, s6⟩ := lc10 s5
          obtain rfl := len_nil s6
          clear hus s0 s1 s2 s3 s4 s5 s6
          subst e6 e5 e4 e3 e2 e1 e0
          have h43 : u43 = .bool E0 := h 43 (by kernel_rfl)
          have h54 : E0 = false → u54 = .bool E1 := h 54 (by kernel_rfl)
          have h40 : u40 = .bool true := h 40 (by kernel_rfl)
          clear h
          simp only [over, Act.put, List.setIfInBounds_toArray, List.set_cons_zero, List.set_cons_succ]
          subst h40 h43
          cases E0
          · have kq := h54 rfl; subst kq; go_wp2_with fail; exact postK_normal ⟨_, rfl, by rw [HFF.out]; rfl, Ext.refl _⟩
          · go_wp2_with fail
            exact postK_normal ⟨_, rfl, by rw [HFF.out]; rfl, Ext.refl _⟩
        refine AllSteps.cons (fun us hus w' x h => ?_) ?_
        · obtain ⟨u0, u1, u2, u3, u4, u5, u6, u7, u8, u9, t0, e0, s0⟩ := lc10 hus
          obtain ⟨u10, u11, u12, u13, u14, u15, u16, u17, u18, u19, t1, e1, s1⟩ := lc10 s0
          obtain ⟨u20, u21, u22, u23, u24, u25, u26, u27, u28, u29, t2, e2, s2⟩ := lc10 s1
          obtain ⟨u30, u31, u32, u33, u34, u35, u36, u37, u38, u39, t3, e3, s3⟩ := lc10 s2
          obtain ⟨u40, u41, u42, u43, u44, u45, u46, u47, u48, u49, t4, e4, s4⟩ := lc10 s3
          obtain ⟨u50, u51, u52, u53, u54, u55, u56, u57, u58, u59, t5, e5, s5⟩ := lc10 s4
          obtain ⟨u60, u61, u62, u63, u64, u65, u66, u67, u68, u69, t6, e6, s6⟩ := lc10 s5
          obtain rfl := len_nil s6
          clear hus s0 s1 s2 s3 s4 s5 s6
          subst e6 e5 e4 e3 e2 e1 e0
          have h55 : u55 = .bool F := h 55 (by kernel_rfl)
          have h40 : u40 = .bool true := h 40 (by kernel_rfl)
          clear h
          simp only [over, Act.put, List.setIfInBounds_toArray, List.set_cons_zero, List.set_cons_succ]
          subst h55
          subst h40
          go_wp2_with fail
          exact postK_normal ⟨_, rfl, rfl, Ext.refl _⟩
        refine AllSteps.cons (fun us hus w' x h => ?_) ?_
        · obtain ⟨u0, u1, u2, u3, u4, u5, u6, u7, u8, u9, t0, e0, s0⟩ := lc10 hus
          obtain ⟨u10, u11, u12, u13, u14, u15, u16, u17, u18, u19, t1, e1, s1⟩ := lc10 s0
          obtain ⟨u20, u21, u22, u23, u24, u25, u26, u27, u28, u29, t2, e2, s2⟩ := lc10 s1
          obtain ⟨u30, u31, u32, u33, u34, u35, u36, u37, u38, u39, t3, e3, s3⟩ := lc10 s2
          obtain ⟨u40, u41, u42, u43, u44, u45, u46, u47, u48, u49, t4, e4, s4⟩ := lc10 s3
          obtain ⟨u50, u51, u52, u53, u54, u55, u56, u57, u58, u59, t5, e5, s5⟩ := lc10 s4
          obtain ⟨u60, u61, u62, u63, u64, u65, u66, u67, u68, u69, t6, e6, s6⟩ := lc10 s5
          obtain rfl := len_nil s6
          clear hus s0 s1 s2 s3 s4 s5 s6
          subst e6 e5 e4 e3 e2 e1 e0
          have h56 : u56 = .bool F := h 56 (by kernel_rfl)
          clear h
          simp only [over, Act.put, List.setIfInBounds_toArray, List.set_cons_zero, List.set_cons_succ]
          subst h56
          cases F
          · go_wp2_with fail; refine postK_normal ⟨_, rfl, ?_, Ext.refl _⟩; first | rfl | (intro _; rfl)
          · go_wp2_with fail
            refine postK_normal ⟨_, rfl, ?_, Ext.refl _⟩
            intro h
            cases h
        refine AllSteps.cons (fun us hus w' x h => ?_) ?_
        · obtain ⟨u0, u1, u2, u3, u4, u5, u6, u7, u8, u9, t0, e0, s0⟩ := lc10 hus
          obtain ⟨u10, u11, u12, u13, u14, u15, u16, u17, u18, u19, t1, e1, s1⟩ := lc10 s0
          obtain ⟨u20, u21, u22, u23, u24, u25, u26, u27, u28, u29, t2, e2, s2⟩ := lc10 s1
          obtain ⟨u30, u31, u32, u33, u34, u35, u36, u37, u38, u39, t3, e3, s3⟩ := lc10 s2
          obtain ⟨u40, u41, u42, u43, u44, u45, u46, u47, u48, u49, t4, e4, s4⟩ := lc10 s3
          obtain ⟨u50, u51, u52, u53, u54, u55, u56, u57, u58, u59, t5, e5, s5⟩ := lc10 s4
          obtain ⟨u60, u61, u62, u63, u64, u65, u66, u67, u68, u69, t6, e6, s6⟩ := lc10 s5
          obtain rfl := len_nil s6
          clear hus s0 s1 s2 s3 s4 s5 s6
          subst e6 e5 e4 e3 e2 e1 e0
          have h57 : F = false → u57 = .string ⟨TT.toArray⟩ := h 57 (by kernel_rfl)
          have h56 : u56 = .bool F := h 56 (by kernel_rfl)
          clear h
          simp only [over, Act.put, List.setIfInBounds_toArray, List.set_cons_zero, List.set_cons_succ]
          subst h56
          cases F
          · have k57 := h57 rfl; subst k57; have he := HE2.out; go_wp2_with fail; refine postK_normal ⟨_, rfl, ?_, Ext.refl _⟩; first | rfl | (intro _; rfl)
          · go_wp2_with fail
            refine postK_normal ⟨_, rfl, ?_, Ext.refl _⟩
            intro h
            cases h
        refine AllSteps.cons (fun us hus w' x h => ?_) ?_
        · obtain ⟨u0, u1, u2, u3, u4, u5, u6, u7, u8, u9, t0, e0, s0⟩ := lc10 hus
          obtain ⟨u10, u11, u12, u13, u14, u15, u16, u17, u18, u19, t1, e1, s1⟩ := lc10 s0
          obtain ⟨u20, u21, u22, u23, u24, u25, u26, u27, u28, u29, t2, e2, s2⟩ := lc10 s1
          obtain ⟨u30, u31, u32, u33, u34, u35, u36, u37, u38, u39, t3, e3, s3⟩ := lc10 s2
          obtain ⟨u40, u41, u42, u43, u44, u45, u46, u47, u48, u49, t4, e4, s4⟩ := lc10 s3
          obtain ⟨u50, u51, u52, u53, u54, u55, u56, u57, u58, u59, t5, e5, s5⟩ := lc10 s4
          obtain ⟨u60, u61, u62, u63, u64, u65, u66, u67, u68, u69, t6, e6, s6⟩ := lc10 s5
          obtain rfl := len_nil s6
          clear hus s0 s1 s2 s3 s4 s5 s6
          subst e6 e5 e4 e3 e2 e1 e0
          have h56 : u56 = .bool F := h 56 (by kernel_rfl)
          have h58 : F = false → u58 = .bool E2 := h 58 (by kernel_rfl)
          have h40 : u40 = .bool true := h 40 (by kernel_rfl)
          clear h
          simp only [over, Act.put, List.setIfInBounds_toArray, List.set_cons_zero, List.set_cons_succ]
          subst h40 h56
          cases F
          · have kq := h58 rfl; subst kq; go_wp2_with fail; exact postK_normal ⟨_, rfl, by rw [show E2 = true from HEF.out (by trivial)], Ext.refl _⟩
          · go_wp2_with fail
            exact postK_normal ⟨_, rfl, rfl, Ext.refl _⟩
        refine AllSteps.cons (fun us hus w' x h => ?_) ?_
        · obtain ⟨u0, u1, u2, u3, u4, u5, u6, u7, u8, u9, t0, e0, s0⟩ := lc10 hus
          obtain ⟨u10, u11, u12, u13, u14, u15, u16, u17, u18, u19, t1, e1, s1⟩ := lc10 s0
          obtain ⟨u20, u21, u22, u23, u24, u25, u26, u27, u28, u29, t2, e2, s2⟩ := lc10 s1
          obtain ⟨u30, u31, u32, u33, u34, u35, u36, u37, u38, u39, t3, e3, s3⟩ := lc10 s2
          obtain ⟨u40, u41, u42, u43, u44, u45, u46, u47, u48, u49, t4, e4, s4⟩ := lc10 s3
          obtain ⟨u50, u51, u52, u53, u54, u55, u56, u57, u58, u59, t5, e5, s5⟩ := lc10 s4
          obtain ⟨u60, u61, u62, u63, u64, u65, u66, u67, u68, u69, t6, e6, s6⟩ := lc10 s5
          obtain rfl := len_nil s6
          clear hus s0 s1 s2 s3 s4 s5 s6
          subst e6 e5 e4 e3 e2 e1 e0
          have h40 : u40 = .bool true := h 40 (by kernel_rfl)
          have h59 : u59 = .bool true := h 59 (by kernel_rfl)
          clear h
          simp only [over, Act.put, List.setIfInBounds_toArray, List.set_cons_zero, List.set_cons_succ]
          subst h40
          subst h59
          go_wp2_with fail
          exact postK_normal ⟨_, rfl, rfl, Ext.refl _⟩
        refine AllSteps.cons (fun us hus w' x h => ?_) ?_
        · obtain ⟨u0, u1, u2, u3, u4, u5, u6, u7, u8, u9, t0, e0, s0⟩ := lc10 hus
          obtain ⟨u10, u11, u12, u13, u14, u15, u16, u17, u18, u19, t1, e1, s1⟩ := lc10 s0
          obtain ⟨u20, u21, u22, u23, u24, u25, u26, u27, u28, u29, t2, e2, s2⟩ := lc10 s1
          obtain ⟨u30, u31, u32, u33, u34, u35, u36, u37, u38, u39, t3, e3, s3⟩ := lc10 s2
          obtain ⟨u40, u41, u42, u43, u44, u45, u46, u47, u48, u49, t4, e4, s4⟩ := lc10 s3
          obtain ⟨u50, u51, u52, u53, u54, u55, u56, u57, u58, u59, t5, e5, s5⟩ := lc10 s4
          obtain ⟨u60, u61, u62, u63, u64, u65, u66, u67, u68, u69, t6, e6, s6⟩ := lc10 s5
          obtain rfl := len_nil s6
          clear hus s0 s1 s2 s3 s4 s5 s6
          subst e6 e5 e4 e3 e2 e1 e0
          have h60 : u60 = .bool true := h 60 (by kernel_rfl)
          clear h
          simp only [over, Act.put, List.setIfInBounds_toArray, List.set_cons_zero, List.set_cons_succ]
          subst h60
          go_wp2_with fail
          exact postK_normal ⟨_, rfl, rfl, Ext.refl _⟩
        refine AllSteps.cons (fun us hus w' x h => ?_) ?_
        · obtain ⟨u0, u1, u2, u3, u4, u5, u6, u7, u8, u9, t0, e0, s0⟩ := lc10 hus
          obtain ⟨u10, u11, u12, u13, u14, u15, u16, u17, u18, u19, t1, e1, s1⟩ := lc10 s0
          obtain ⟨u20, u21, u22, u23, u24, u25, u26, u27, u28, u29, t2, e2, s2⟩ := lc10 s1
          obtain ⟨u30, u31, u32, u33, u34, u35, u36, u37, u38, u39, t3, e3, s3⟩ := lc10 s2
          obtain ⟨u40, u41, u42, u43, u44, u45, u46, u47, u48, u49, t4, e4, s4⟩ := lc10 s3
          obtain ⟨u50, u51, u52, u53, u54, u55, u56, u57, u58, u59, t5, e5, s5⟩ := lc10 s4
          obtain ⟨u60, u61, u62, u63, u64, u65, u66, u67, u68, u69, t6, e6, s6⟩ := lc10 s5
          obtain rfl := len_nil s6
          clear hus s0 s1 s2 s3 s4 s5 s6
          subst e6 e5 e4 e3 e2 e1 e0
          have h61 : u61 = .bool true := h 61 (by kernel_rfl)
          clear h
          simp only [over, Act.put, List.setIfInBounds_toArray, List.set_cons_zero, List.set_cons_succ]
          subst h61
          go_wp2_with fail
          exact postK_normal ⟨_, rfl, rfl, Ext.refl _⟩
        refine AllSteps.cons (fun us hus w' x h => ?_) ?_
        · obtain ⟨u0, u1, u2, u3, u4, u5, u6, u7, u8, u9, t0, e0, s0⟩ := lc10 hus
          obtain ⟨u10, u11, u12, u13, u14, u15, u16, u17, u18, u19, t1, e1, s1⟩ := lc10 s0
          obtain ⟨u20, u21, u22, u23, u24, u25, u26, u27, u28, u29, t2, e2, s2⟩ := lc10 s1
          obtain ⟨u30, u31, u32, u33, u34, u35, u36, u37, u38, u39, t3, e3, s3⟩ := lc10 s2
          obtain ⟨u40, u41, u42, u43, u44, u45, u46, u47, u48, u49, t4, e4, s4⟩ := lc10 s3
          obtain ⟨u50, u51, u52, u53, u54, u55, u56, u57, u58, u59, t5, e5, s5⟩ := lc10 s4
          obtain ⟨u60, u61, u62, u63, u64, u65, u66, u67, u68, u69, t6, e6, s6⟩ := lc10 s5
          obtain rfl := len_nil s6
          clear hus s0 s1 s2 s3 s4 s5 s6
          subst e6 e5 e4 e3 e2 e1 e0
          have h62 : u62 = .string a0 := h 62 (by kernel_rfl)
          have h61 : u61 = .bool true := h 61 (by kernel_rfl)
          clear h
          simp only [over, Act.put, List.setIfInBounds_toArray, List.set_cons_zero, List.set_cons_succ]
          subst h62
          subst h61
          go_wp2_with (refine wpList_toBytes rfl 9 24 _ rfl 5 Tryd.underlying9 Tryd.underlying24 Tryd.underlying5 _ rfl hmax ?_)
          intro v5 w5 o5 x5
          go_wp2_with fail
          exact postK_normal ⟨_, rfl, o5.bs, x5⟩
        refine AllSteps.cons (fun us hus w' x h => ?_) ?_
        · obtain ⟨u0, u1, u2, u3, u4, u5, u6, u7, u8, u9, t0, e0, s0⟩ := lc10 hus
          obtain ⟨u10, u11, u12, u13, u14, u15, u16, u17, u18, u19, t1, e1, s1⟩ := lc10 s0
          obtain ⟨u20, u21, u22, u23, u24, u25, u26, u27, u28, u29, t2, e2, s2⟩ := lc10 s1
          obtain ⟨u30, u31, u32, u33, u34, u35, u36, u37, u38, u39, t3, e3, s3⟩ := lc10 s2
          obtain ⟨u40, u41, u42, u43, u44, u45, u46, u47, u48, u49, t4, e4, s4⟩ := lc10 s3
          obtain ⟨u50, u51, u52, u53, u54, u55, u56, u57, u58, u59, t5, e5, s5⟩ := lc10 s4
          obtain ⟨u60, u61, u62, u63, u64, u65, u66, u67, u68, u69, t6, e6, s6⟩ := lc10 s5
          obtain rfl := len_nil s6
          clear hus s0 s1 s2 s3 s4 s5 s6
          subst e6 e5 e4 e3 e2 e1 e0
          have h63 : Bs w' u63 a0.data.toList := h 63 (by kernel_rfl)
          have h61 : u61 = .bool true := h 61 (by kernel_rfl)
          clear h
          simp only [over, Act.put, List.setIfInBounds_toArray, List.set_cons_zero, List.set_cons_succ]
          subst h61
          have c5 := impl_Trim _ _ ⟨#[]⟩ _ h63 (HT.out.ext x) (by decide) HA.out
          rw [HN.out] at c5
          go_wp2_with (go_at_call 29; refine c5.mono ?_)
          rintro _ w5 ⟨v5, rfl, o5, x5⟩
          go_wp2_with fail
          exact postK_normal ⟨_, rfl, o5.bs, x5⟩
        refine AllSteps.cons (fun us hus w' x h => ?_) ?_
        · obtain ⟨u0, u1, u2, u3, u4, u5, u6, u7, u8, u9, t0, e0, s0⟩ := lc10 hus
          obtain ⟨u10, u11, u12, u13, u14, u15, u16, u17, u18, u19, t1, e1, s1⟩ := lc10 s0
          obtain ⟨u20, u21, u22, u23, u24, u25, u26, u27, u28, u29, t2, e2, s2⟩ := lc10 s1
          obtain ⟨u30, u31, u32, u33, u34, u35, u36, u37, u38, u39, t3, e3, s3⟩ := lc10 s2
          obtain ⟨u40, u41, u42, u43, u44, u45, u46, u47, u48, u49, t4, e4, s4⟩ := lc10 s3
          obtain ⟨u50, u51, u52, u53, u54, u55, u56, u57, u58, u59, t5, e5, s5⟩ := lc10 s4
          obtain ⟨u60, u61, u62, u63, u64, u65, u66, u67, u68, u69, t6, e6, s6⟩ := lc10 s5
          obtain rfl := len_nil s6
          clear hus s0 s1 s2 s3 s4 s5 s6
          subst e6 e5 e4 e3 e2 e1 e0
          have h64 : Bs w' u64 a0.data.toList := h 64 (by kernel_rfl)
          have h61 : u61 = .bool true := h 61 (by kernel_rfl)
          clear h
          simp only [over, Act.put, List.setIfInBounds_toArray, List.set_cons_zero, List.set_cons_succ]
          subst h61
          go_wp2_with (refine wpList_toString rfl 24 9 _ rfl 5 Tryd.underlying24 Tryd.underlying5 Tryd.underlying9 _ _ rfl h64 ?_)
          exact postK_normal ⟨_, rfl, rfl, Ext.refl _⟩
        refine AllSteps.cons (fun us hus w' x h => ?_) ?_
        · obtain ⟨u0, u1, u2, u3, u4, u5, u6, u7, u8, u9, t0, e0, s0⟩ := lc10 hus
          obtain ⟨u10, u11, u12, u13, u14, u15, u16, u17, u18, u19, t1, e1, s1⟩ := lc10 s0
          obtain ⟨u20, u21, u22, u23, u24, u25, u26, u27, u28, u29, t2, e2, s2⟩ := lc10 s1
          obtain ⟨u30, u31, u32, u33, u34, u35, u36, u37, u38, u39, t3, e3, s3⟩ := lc10 s2
          obtain ⟨u40, u41, u42, u43, u44, u45, u46, u47, u48, u49, t4, e4, s4⟩ := lc10 s3
          obtain ⟨u50, u51, u52, u53, u54, u55, u56, u57, u58, u59, t5, e5, s5⟩ := lc10 s4
          obtain ⟨u60, u61, u62, u63, u64, u65, u66, u67, u68, u69, t6, e6, s6⟩ := lc10 s5
          obtain rfl := len_nil s6
          clear hus s0 s1 s2 s3 s4 s5 s6
          subst e6 e5 e4 e3 e2 e1 e0
          have h61 : u61 = .bool true := h 61 (by kernel_rfl)
          clear h
          simp only [over, Act.put, List.setIfInBounds_toArray, List.set_cons_zero, List.set_cons_succ]
          subst h61
          go_wp2_with fail
          exact postK_normal ⟨_, rfl, rfl, Ext.refl _⟩
        refine AllSteps.cons (fun us hus w' x h => ?_) ?_
        · obtain ⟨u0, u1, u2, u3, u4, u5, u6, u7, u8, u9, t0, e0, s0⟩ := lc10 hus
          obtain ⟨u10, u11, u12, u13, u14, u15, u16, u17, u18, u19, t1, e1, s1⟩ := lc10 s0
          obtain ⟨u20, u21, u22, u23, u24, u25, u26, u27, u28, u29, t2, e2, s2⟩ := lc10 s1
          obtain ⟨u30, u31, u32, u33, u34, u35, u36, u37, u38, u39, t3, e3, s3⟩ := lc10 s2
          obtain ⟨u40, u41, u42, u43, u44, u45, u46, u47, u48, u49, t4, e4, s4⟩ := lc10 s3
          obtain ⟨u50, u51, u52, u53, u54, u55, u56, u57, u58, u59, t5, e5, s5⟩ := lc10 s4
          obtain ⟨u60, u61, u62, u63, u64, u65, u66, u67, u68, u69, t6, e6, s6⟩ := lc10 s5
          obtain rfl := len_nil s6
          clear hus s0 s1 s2 s3 s4 s5 s6
          subst e6 e5 e4 e3 e2 e1 e0
          have h65 : u65 = .string ⟨a0.data.toList.toArray⟩ := h 65 (by kernel_rfl)
          have h66 : u66 = .string a0 := h 66 (by kernel_rfl)
          have h61 : u61 = .bool true := h 61 (by kernel_rfl)
          clear h
          simp only [over, Act.put, List.setIfInBounds_toArray, List.set_cons_zero, List.set_cons_succ]
          subst h65
          subst h66
          subst h61
          have hw := HW1.out
          go_wp2_with fail
          exact postK_normal ⟨_, rfl, rfl, Ext.refl _⟩
        refine AllSteps.cons (fun us hus w' x h => ?_) ?_
        · obtain ⟨u0, u1, u2, u3, u4, u5, u6, u7, u8, u9, t0, e0, s0⟩ := lc10 hus
          obtain ⟨u10, u11, u12, u13, u14, u15, u16, u17, u18, u19, t1, e1, s1⟩ := lc10 s0
          obtain ⟨u20, u21, u22, u23, u24, u25, u26, u27, u28, u29, t2, e2, s2⟩ := lc10 s1
          obtain ⟨u30, u31, u32, u33, u34, u35, u36, u37, u38, u39, t3, e3, s3⟩ := lc10 s2
          obtain ⟨u40, u41, u42, u43, u44, u45, u46, u47, u48, u49, t4, e4, s4⟩ := lc10 s3
          obtain ⟨u50, u51, u52, u53, u54, u55, u56, u57, u58, u59, t5, e5, s5⟩ := lc10 s4
          obtain ⟨u60, u61, u62, u63, u64, u65, u66, u67, u68, u69, t6, e6, s6⟩ := lc10 s5
          obtain rfl := len_nil s6
          clear hus s0 s1 s2 s3 s4 s5 s6
          subst e6 e5 e4 e3 e2 e1 e0
          have h61 : u61 = .bool true := h 61 (by kernel_rfl)
          have h67 : u67 = .bool true := h 67 (by kernel_rfl)
          clear h
          simp only [over, Act.put, List.setIfInBounds_toArray, List.set_cons_zero, List.set_cons_succ]
          subst h61
          subst h67
          go_wp2_with fail
          exact postK_normal ⟨_, rfl, rfl, Ext.refl _⟩
        refine AllSteps.cons (fun us hus w' x h => ?_) ?_
        · obtain ⟨u0, u1, u2, u3, u4, u5, u6, u7, u8, u9, t0, e0, s0⟩ := lc10 hus
          obtain ⟨u10, u11, u12, u13, u14, u15, u16, u17, u18, u19, t1, e1, s1⟩ := lc10 s0
          obtain ⟨u20, u21, u22, u23, u24, u25, u26, u27, u28, u29, t2, e2, s2⟩ := lc10 s1
          obtain ⟨u30, u31, u32, u33, u34, u35, u36, u37, u38, u39, t3, e3, s3⟩ := lc10 s2
          obtain ⟨u40, u41, u42, u43, u44, u45, u46, u47, u48, u49, t4, e4, s4⟩ := lc10 s3
          obtain ⟨u50, u51, u52, u53, u54, u55, u56, u57, u58, u59, t5, e5, s5⟩ := lc10 s4
          obtain ⟨u60, u61, u62, u63, u64, u65, u66, u67, u68, u69, t6, e6, s6⟩ := lc10 s5
          obtain rfl := len_nil s6
          clear hus s0 s1 s2 s3 s4 s5 s6
          subst e6 e5 e4 e3 e2 e1 e0
          have h68 : u68 = .bool true := h 68 (by kernel_rfl)
          clear h
          simp only [over, Act.put, List.setIfInBounds_toArray, List.set_cons_zero, List.set_cons_succ]
          subst h68
          go_wp2_with fail
          exact postK_normal ⟨_, rfl, rfl, Ext.refl _⟩
        exact AllSteps.nil
      case fin =>
        intro us hus w' x h
        obtain ⟨u0, u1, u2, u3, u4, u5, u6, u7, u8, u9, t0, e0, s0⟩ := lc10 hus
        obtain ⟨u10, u11, u12, u13, u14, u15, u16, u17, u18, u19, t1, e1, s1⟩ := lc10 s0
        obtain ⟨u20, u21, u22, u23, u24, u25, u26, u27, u28, u29, t2, e2, s2⟩ := lc10 s1
        obtain ⟨u30, u31, u32, u33, u34, u35, u36, u37, u38, u39, t3, e3, s3⟩ := lc10 s2
        obtain ⟨u40, u41, u42, u43, u44, u45, u46, u47, u48, u49, t4, e4, s4⟩ := lc10 s3
        obtain ⟨u50, u51, u52, u53, u54, u55, u56, u57, u58, u59, t5, e5, s5⟩ := lc10 s4
        obtain ⟨u60, u61, u62, u63, u64, u65, u66, u67, u68, u69, t6, e6, s6⟩ := lc10 s5
        obtain rfl := len_nil s6
        clear hus s0 s1 s2 s3 s4 s5 s6
        subst e6 e5 e4 e3 e2 e1 e0
        have h69 : u69 = .bool true := h 69 (by decide)
        clear h
        subst h69
        simp only [over, Act.put, List.setIfInBounds_toArray, List.set_cons_zero, List.set_cons_succ]
        go_wp2_with fail
        go_meet
        exact ⟨rfl, x⟩
    case rest =>
      obtain ⟨rfl, x8⟩ := hcut
      go_wp2_with fail
      go_ret
      exact ⟨rfl, (X.trans x8).below⟩
end Go.Proofs.YtdlobdbclgcogaaDoor
