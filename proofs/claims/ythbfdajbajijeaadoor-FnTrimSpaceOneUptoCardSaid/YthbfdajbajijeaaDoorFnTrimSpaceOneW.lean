/- The walk of the law FnTrimSpaceOne: it returns true where the text has at most 2^20 bytes. Printed by trimspaceone.py. -/
import Derived.Test.YthbfdajbajijeaaDoorZE
import Derived.Test.YthbfdajbajijeaaDoorZC
import Derived.Test.YthbfdajbajijeaaDoorZA
import Derived.Deep.DeepCutAuto
namespace Go.Proofs.YthbfdajbajijeaaDoor
open Go.RowKit

theorem runsA_first (p : Int → Bool) : ∀ (cs r : List Ch), ∃ r' rest ds, runsA p (some r) cs = (r ++ r') :: rest ∧ cs = r' ++ ds ∧ (ds = [] ∨ ∃ s ds', ds = s :: ds' ∧ p s.r = true ∧ rest = runsA p none ds')
  | [], r => ⟨[], [], [], by simp [runsA], rfl, .inl rfl⟩
  | x :: cs, r => by
    cases hx : p x.r
    · obtain ⟨r', rest, ds, h1, h2, h3⟩ := runsA_first p cs (r ++ [x])
      refine ⟨x :: r', rest, ds, ?_, by rw [h2]; rfl, h3⟩
      rw [runsA, hx]
      simp only [Bool.false_eq_true, if_false]
      rw [h1]
      simp
    · refine ⟨[], runsA p none cs, x :: cs, ?_, rfl, .inr ⟨x, cs, rfl, hx, rfl⟩⟩
      rw [runsA, hx]
      simp

/-- A text with one field is that field, when it is trimmed. -/
theorem fields_one (p : Int → Bool) (l x : List UInt8) (h : fieldsB p l = [x]) : tB p l = x := by
  rcases trim_cases p l with ⟨h0, _, _, _⟩ | ⟨A, M, B, hM⟩
  · exfalso
    unfold fieldsB at h
    rw [(runsC_nil p _).2 h0] at h
    cases h
  · have h1 := (fields_trim p l).1
    rw [h, hM.t] at h1
    unfold fieldsB at h1
    rw [hM.cm] at h1
    rw [hM.t]
    obtain ⟨c, M', e, hc⟩ := hM.first
    obtain ⟨M2, c2, e2, hc2⟩ := hM.last
    obtain ⟨r', rest, ds, k1, k2, k3⟩ := runsA_first p M' [c]
    unfold runsC at h1
    rw [e, runsA, hc] at h1
    simp only [Bool.false_eq_true, if_false] at h1
    rw [k1, List.map_cons] at h1
    have hr : rest = [] := by
      have := congrArg List.length h1
      simp at this
      exact this
    have hx : glue ([c] ++ r') = x := by
      injection h1
    rcases k3 with rfl | ⟨s, ds', rfl, hs, hrest⟩
    · rw [e, k2, List.append_nil]; exact hx
    · exfalso
      rw [hr] at hrest
      have hall := (runsC_nil p ds').1 hrest.symm
      have hlast : M.getLast? = some c2 := by rw [e2]; simp
      rw [e, k2] at hlast
      have h5 : (c :: (r' ++ s :: ds')).getLast? = (s :: ds').getLast? := by
        rw [show c :: (r' ++ s :: ds') = (c :: r') ++ (s :: ds') from rfl, List.getLast?_append]
        rw [List.getLast?_eq_some_getLast (by simp)]
        rfl
      rw [h5] at hlast
      have hmem := List.mem_of_getLast? hlast
      rcases List.mem_cons.1 hmem with rfl | hmem
      · rw [hs] at hc2; cases hc2
      · rw [hall _ hmem] at hc2; cases hc2

set_option maxRecDepth 100000 in
set_option maxHeartbeats 8000000 in
theorem FnTrimSpaceOne_walk (w : World) (hT : Tabs w) (hWh : White w) (a0 : ByteArray) (z0 : a0.size ≤ 1048576) :
    Calls Tryd.prog 4 #[.string a0] w fun e w' => e = .returned (.bool true) ∧ Below w.heap.size w w' := by
  have hmax : a0.size ≤ maxLen := by unfold maxLen; omega
  have es : a0.data.toList.length = a0.size := rfl
  have k1 := fieldsB_len wsP a0.data.toList
  have kT := tB_len wsP a0.data.toList
  have key := fields_trim wsP a0.data.toList
  have kone := fields_one wsP a0.data.toList
  have key4 : ∀ x ∈ fieldsB wsP a0.data.toList, x.length ≤ 1048576 := fun x hx => by
    have h1 := mem_size hx
    have h2 := fieldsB_size wsP a0.data.toList
    omega
  rw [es] at k1 kT
  obtain ⟨L, hL⟩ : ∃ L, fieldsB wsP a0.data.toList = L := ⟨_, rfl⟩
  obtain ⟨T, hTT⟩ : ∃ T, tB wsP a0.data.toList = T := ⟨_, rfl⟩
  rw [hL] at k1 key4
  rw [hTT] at kT
  simp only [hL, hTT] at key kone
  obtain ⟨kf, kc⟩ := key
  have HL := Lib.hid hL
  have HTT := Lib.hid hTT
  have KF := Lib.hid kf
  have KC := Lib.hid kc
  have K1 := Lib.hid kone
  have K4 := Lib.hid key4
  have hmt : (⟨T.toArray⟩ : ByteArray).size ≤ maxLen := by show T.length ≤ _; unfold maxLen; omega
  have HLT := Lib.hid (show T.length ≤ 1099511627776 by omega)
  have HT := Lib.hid hT
  have HW := Lib.hid hWh
  have hT0 := hT
  have hW0 := hWh
  clear hL hTT es kf kc kone key4 hT hWh
  go_enter Tryd.func4, Tryd.ntmps4
  go_upto_region 1 with fail
  go_cut [3, 4] (fun s3 s4 wx => Ss wx s3 L ∧ s4 = .string ⟨T.toArray⟩ ∧ Ext w wx)
  case first =>
    refine wp_region_mono (by kernel_rfl) [5, 6, 7, 8, 9, 10, 11, 12, 3, 4] (by kernel_rfl) (by decide) (by simp) (by kernel_rfl)
      (fun i => match i with | 0 => (fun v w => v = .string a0) | 1 => (fun v w => Bs w v a0.data.toList) | 2 => (fun v w => Ls w v L) | 3 => (fun v w => Ss w v L) | 4 => (fun v w => v = .string a0) | 5 => (fun v w => Bs w v a0.data.toList) | 6 => (fun v w => Bs w v T) | 7 => (fun v w => v = .string ⟨T.toArray⟩) | 8 => (fun v w => Ss w v L) | 9 => (fun v w => v = .string ⟨T.toArray⟩) | _ => fun _ _ => True) ?stable ?steps ?fin
    case stable =>
      intro i v w' w'' h x
      match i, h with
      | 0, h => exact h
      | 1, h => exact (show Bs w' v a0.data.toList from h).ext x
      | 2, h => exact (show Ls w' v L from h).ext x
      | 3, h => exact (show Ss w' v L from h).ext x
      | 4, h => exact h
      | 5, h => exact (show Bs w' v a0.data.toList from h).ext x
      | 6, h => exact (show Bs w' v T from h).ext x
      | 7, h => exact h
      | 8, h => exact (show Ss w' v L from h).ext x
      | 9, h => exact h
      | _ + 10, _ => trivial
    case steps =>
      refine AllSteps.cons (fun us hus w' x h => ?_) ?_
      · obtain ⟨u0, t0, e0, s0⟩ := len_cons hus; obtain ⟨u1, t1, e1, s1⟩ := len_cons s0; obtain ⟨u2, t2, e2, s2⟩ := len_cons s1; obtain ⟨u3, t3, e3, s3⟩ := len_cons s2; obtain ⟨u4, t4, e4, s4⟩ := len_cons s3; obtain ⟨u5, t5, e5, s5⟩ := len_cons s4; obtain ⟨u6, t6, e6, s6⟩ := len_cons s5; obtain ⟨u7, t7, e7, s7⟩ := len_cons s6; obtain ⟨u8, t8, e8, s8⟩ := len_cons s7; obtain ⟨u9, t9, e9, s9⟩ := len_cons s8
        obtain rfl := len_nil s9
        clear hus s0 s1 s2 s3 s4 s5 s6 s7 s8 s9
        subst e9 e8 e7 e6 e5 e4 e3 e2 e1 e0
        clear h
        simp only [over, Act.put, List.setIfInBounds_toArray, List.set_cons_zero, List.set_cons_succ]
        go_wp2_with fail
        exact postK_normal ⟨_, rfl, rfl, Ext.refl _⟩
      refine AllSteps.cons (fun us hus w' x h => ?_) ?_
      · obtain ⟨u0, t0, e0, s0⟩ := len_cons hus; obtain ⟨u1, t1, e1, s1⟩ := len_cons s0; obtain ⟨u2, t2, e2, s2⟩ := len_cons s1; obtain ⟨u3, t3, e3, s3⟩ := len_cons s2; obtain ⟨u4, t4, e4, s4⟩ := len_cons s3; obtain ⟨u5, t5, e5, s5⟩ := len_cons s4; obtain ⟨u6, t6, e6, s6⟩ := len_cons s5; obtain ⟨u7, t7, e7, s7⟩ := len_cons s6; obtain ⟨u8, t8, e8, s8⟩ := len_cons s7; obtain ⟨u9, t9, e9, s9⟩ := len_cons s8
        obtain rfl := len_nil s9
        clear hus s0 s1 s2 s3 s4 s5 s6 s7 s8 s9
        subst e9 e8 e7 e6 e5 e4 e3 e2 e1 e0
        have h0 : u0 = .string a0 := h 0 (by kernel_rfl)
        clear h
        simp only [over, Act.put, List.setIfInBounds_toArray, List.set_cons_zero, List.set_cons_succ]
        subst h0
        go_wp2_with (refine wpList_toBytes rfl 9 27 _ rfl 5 Tryd.underlying9 Tryd.underlying27 Tryd.underlying5 _ rfl hmax ?_)
        intro v5 w5 o5 x5
        go_wp2_with fail
        exact postK_normal ⟨_, rfl, o5.bs, x5⟩
      refine AllSteps.cons (fun us hus w' x h => ?_) ?_
      · obtain ⟨u0, t0, e0, s0⟩ := len_cons hus; obtain ⟨u1, t1, e1, s1⟩ := len_cons s0; obtain ⟨u2, t2, e2, s2⟩ := len_cons s1; obtain ⟨u3, t3, e3, s3⟩ := len_cons s2; obtain ⟨u4, t4, e4, s4⟩ := len_cons s3; obtain ⟨u5, t5, e5, s5⟩ := len_cons s4; obtain ⟨u6, t6, e6, s6⟩ := len_cons s5; obtain ⟨u7, t7, e7, s7⟩ := len_cons s6; obtain ⟨u8, t8, e8, s8⟩ := len_cons s7; obtain ⟨u9, t9, e9, s9⟩ := len_cons s8
        obtain rfl := len_nil s9
        clear hus s0 s1 s2 s3 s4 s5 s6 s7 s8 s9
        subst e9 e8 e7 e6 e5 e4 e3 e2 e1 e0
        have h1 : Bs w' u1 a0.data.toList := h 1 (by kernel_rfl)
        clear h
        simp only [over, Act.put, List.setIfInBounds_toArray, List.set_cons_zero, List.set_cons_succ]
        have c5 := impl_Fields _ _ _ h1 (HW.out.ext x) (HT.out.ext x) (by show a0.size ≤ _; omega)
        rw [HL.out] at c5
        go_wp2_with (go_at_call 18; refine c5.mono ?_)
        rintro _ w5 ⟨v5, rfl, o5, x5⟩
        go_wp2_with fail
        exact postK_normal ⟨_, rfl, o5.bs, x5⟩
      refine AllSteps.cons (fun us hus w' x h => ?_) ?_
      · obtain ⟨u0, t0, e0, s0⟩ := len_cons hus; obtain ⟨u1, t1, e1, s1⟩ := len_cons s0; obtain ⟨u2, t2, e2, s2⟩ := len_cons s1; obtain ⟨u3, t3, e3, s3⟩ := len_cons s2; obtain ⟨u4, t4, e4, s4⟩ := len_cons s3; obtain ⟨u5, t5, e5, s5⟩ := len_cons s4; obtain ⟨u6, t6, e6, s6⟩ := len_cons s5; obtain ⟨u7, t7, e7, s7⟩ := len_cons s6; obtain ⟨u8, t8, e8, s8⟩ := len_cons s7; obtain ⟨u9, t9, e9, s9⟩ := len_cons s8
        obtain rfl := len_nil s9
        clear hus s0 s1 s2 s3 s4 s5 s6 s7 s8 s9
        subst e9 e8 e7 e6 e5 e4 e3 e2 e1 e0
        have h2 : Ls w' u2 L := h 2 (by kernel_rfl)
        clear h
        simp only [over, Act.put, List.setIfInBounds_toArray, List.set_cons_zero, List.set_cons_succ]
        go_wp2_with (go_at_call 17; refine (laws_texts _ L _ h2 (by omega)).mono ?_)
        rintro _ w5 ⟨v5, rfl, o5, x5⟩
        go_wp2_with fail
        exact postK_normal ⟨_, rfl, o5, x5⟩
      refine AllSteps.cons (fun us hus w' x h => ?_) ?_
      · obtain ⟨u0, t0, e0, s0⟩ := len_cons hus; obtain ⟨u1, t1, e1, s1⟩ := len_cons s0; obtain ⟨u2, t2, e2, s2⟩ := len_cons s1; obtain ⟨u3, t3, e3, s3⟩ := len_cons s2; obtain ⟨u4, t4, e4, s4⟩ := len_cons s3; obtain ⟨u5, t5, e5, s5⟩ := len_cons s4; obtain ⟨u6, t6, e6, s6⟩ := len_cons s5; obtain ⟨u7, t7, e7, s7⟩ := len_cons s6; obtain ⟨u8, t8, e8, s8⟩ := len_cons s7; obtain ⟨u9, t9, e9, s9⟩ := len_cons s8
        obtain rfl := len_nil s9
        clear hus s0 s1 s2 s3 s4 s5 s6 s7 s8 s9
        subst e9 e8 e7 e6 e5 e4 e3 e2 e1 e0
        clear h
        simp only [over, Act.put, List.setIfInBounds_toArray, List.set_cons_zero, List.set_cons_succ]
        go_wp2_with fail
        exact postK_normal ⟨_, rfl, rfl, Ext.refl _⟩
      refine AllSteps.cons (fun us hus w' x h => ?_) ?_
      · obtain ⟨u0, t0, e0, s0⟩ := len_cons hus; obtain ⟨u1, t1, e1, s1⟩ := len_cons s0; obtain ⟨u2, t2, e2, s2⟩ := len_cons s1; obtain ⟨u3, t3, e3, s3⟩ := len_cons s2; obtain ⟨u4, t4, e4, s4⟩ := len_cons s3; obtain ⟨u5, t5, e5, s5⟩ := len_cons s4; obtain ⟨u6, t6, e6, s6⟩ := len_cons s5; obtain ⟨u7, t7, e7, s7⟩ := len_cons s6; obtain ⟨u8, t8, e8, s8⟩ := len_cons s7; obtain ⟨u9, t9, e9, s9⟩ := len_cons s8
        obtain rfl := len_nil s9
        clear hus s0 s1 s2 s3 s4 s5 s6 s7 s8 s9
        subst e9 e8 e7 e6 e5 e4 e3 e2 e1 e0
        have h4 : u4 = .string a0 := h 4 (by kernel_rfl)
        clear h
        simp only [over, Act.put, List.setIfInBounds_toArray, List.set_cons_zero, List.set_cons_succ]
        subst h4
        go_wp2_with (refine wpList_toBytes rfl 9 27 _ rfl 5 Tryd.underlying9 Tryd.underlying27 Tryd.underlying5 _ rfl hmax ?_)
        intro v5 w5 o5 x5
        go_wp2_with fail
        exact postK_normal ⟨_, rfl, o5.bs, x5⟩
      refine AllSteps.cons (fun us hus w' x h => ?_) ?_
      · obtain ⟨u0, t0, e0, s0⟩ := len_cons hus; obtain ⟨u1, t1, e1, s1⟩ := len_cons s0; obtain ⟨u2, t2, e2, s2⟩ := len_cons s1; obtain ⟨u3, t3, e3, s3⟩ := len_cons s2; obtain ⟨u4, t4, e4, s4⟩ := len_cons s3; obtain ⟨u5, t5, e5, s5⟩ := len_cons s4; obtain ⟨u6, t6, e6, s6⟩ := len_cons s5; obtain ⟨u7, t7, e7, s7⟩ := len_cons s6; obtain ⟨u8, t8, e8, s8⟩ := len_cons s7; obtain ⟨u9, t9, e9, s9⟩ := len_cons s8
        obtain rfl := len_nil s9
        clear hus s0 s1 s2 s3 s4 s5 s6 s7 s8 s9
        subst e9 e8 e7 e6 e5 e4 e3 e2 e1 e0
        have h5 : Bs w' u5 a0.data.toList := h 5 (by kernel_rfl)
        clear h
        simp only [over, Act.put, List.setIfInBounds_toArray, List.set_cons_zero, List.set_cons_succ]
        have c5 := impl_TrimSpace _ _ _ h5 (HW.out.ext x) (HT.out.ext x) (by show a0.size ≤ _; omega)
        rw [HTT.out] at c5
        go_wp2_with (go_at_call 14; refine c5.mono ?_)
        rintro _ w5 ⟨v5, rfl, o5, x5⟩
        go_wp2_with fail
        exact postK_normal ⟨_, rfl, o5.bs, x5⟩
      refine AllSteps.cons (fun us hus w' x h => ?_) ?_
      · obtain ⟨u0, t0, e0, s0⟩ := len_cons hus; obtain ⟨u1, t1, e1, s1⟩ := len_cons s0; obtain ⟨u2, t2, e2, s2⟩ := len_cons s1; obtain ⟨u3, t3, e3, s3⟩ := len_cons s2; obtain ⟨u4, t4, e4, s4⟩ := len_cons s3; obtain ⟨u5, t5, e5, s5⟩ := len_cons s4; obtain ⟨u6, t6, e6, s6⟩ := len_cons s5; obtain ⟨u7, t7, e7, s7⟩ := len_cons s6; obtain ⟨u8, t8, e8, s8⟩ := len_cons s7; obtain ⟨u9, t9, e9, s9⟩ := len_cons s8
        obtain rfl := len_nil s9
        clear hus s0 s1 s2 s3 s4 s5 s6 s7 s8 s9
        subst e9 e8 e7 e6 e5 e4 e3 e2 e1 e0
        have h6 : Bs w' u6 T := h 6 (by kernel_rfl)
        clear h
        simp only [over, Act.put, List.setIfInBounds_toArray, List.set_cons_zero, List.set_cons_succ]
        go_wp2_with (refine wpList_toString rfl 27 9 _ rfl 5 Tryd.underlying27 Tryd.underlying5 Tryd.underlying9 _ _ rfl h6 ?_)
        exact postK_normal ⟨_, rfl, rfl, Ext.refl _⟩
      refine AllSteps.cons (fun us hus w' x h => ?_) ?_
      · obtain ⟨u0, t0, e0, s0⟩ := len_cons hus; obtain ⟨u1, t1, e1, s1⟩ := len_cons s0; obtain ⟨u2, t2, e2, s2⟩ := len_cons s1; obtain ⟨u3, t3, e3, s3⟩ := len_cons s2; obtain ⟨u4, t4, e4, s4⟩ := len_cons s3; obtain ⟨u5, t5, e5, s5⟩ := len_cons s4; obtain ⟨u6, t6, e6, s6⟩ := len_cons s5; obtain ⟨u7, t7, e7, s7⟩ := len_cons s6; obtain ⟨u8, t8, e8, s8⟩ := len_cons s7; obtain ⟨u9, t9, e9, s9⟩ := len_cons s8
        obtain rfl := len_nil s9
        clear hus s0 s1 s2 s3 s4 s5 s6 s7 s8 s9
        subst e9 e8 e7 e6 e5 e4 e3 e2 e1 e0
        have h3 : Ss w' u3 L := h 3 (by kernel_rfl)
        clear h
        simp only [over, Act.put, List.setIfInBounds_toArray, List.set_cons_zero, List.set_cons_succ]
        obtain ⟨a5, c5, e5, _⟩ := h3.raw
        subst e5
        go_wp2_with fail
        exact postK_normal ⟨_, rfl, h3, Ext.refl _⟩
      refine AllSteps.cons (fun us hus w' x h => ?_) ?_
      · obtain ⟨u0, t0, e0, s0⟩ := len_cons hus; obtain ⟨u1, t1, e1, s1⟩ := len_cons s0; obtain ⟨u2, t2, e2, s2⟩ := len_cons s1; obtain ⟨u3, t3, e3, s3⟩ := len_cons s2; obtain ⟨u4, t4, e4, s4⟩ := len_cons s3; obtain ⟨u5, t5, e5, s5⟩ := len_cons s4; obtain ⟨u6, t6, e6, s6⟩ := len_cons s5; obtain ⟨u7, t7, e7, s7⟩ := len_cons s6; obtain ⟨u8, t8, e8, s8⟩ := len_cons s7; obtain ⟨u9, t9, e9, s9⟩ := len_cons s8
        obtain rfl := len_nil s9
        clear hus s0 s1 s2 s3 s4 s5 s6 s7 s8 s9
        subst e9 e8 e7 e6 e5 e4 e3 e2 e1 e0
        have h7 : u7 = .string ⟨T.toArray⟩ := h 7 (by kernel_rfl)
        clear h
        simp only [over, Act.put, List.setIfInBounds_toArray, List.set_cons_zero, List.set_cons_succ]
        subst h7
        go_wp2_with fail
        exact postK_normal ⟨_, rfl, rfl, Ext.refl _⟩
      exact AllSteps.nil
    case fin =>
      intro us hus w' x h
      obtain ⟨u0, t0, e0, s0⟩ := len_cons hus; obtain ⟨u1, t1, e1, s1⟩ := len_cons s0; obtain ⟨u2, t2, e2, s2⟩ := len_cons s1; obtain ⟨u3, t3, e3, s3⟩ := len_cons s2; obtain ⟨u4, t4, e4, s4⟩ := len_cons s3; obtain ⟨u5, t5, e5, s5⟩ := len_cons s4; obtain ⟨u6, t6, e6, s6⟩ := len_cons s5; obtain ⟨u7, t7, e7, s7⟩ := len_cons s6; obtain ⟨u8, t8, e8, s8⟩ := len_cons s7; obtain ⟨u9, t9, e9, s9⟩ := len_cons s8
      obtain rfl := len_nil s9
      clear hus s0 s1 s2 s3 s4 s5 s6 s7 s8 s9
      subst e9 e8 e7 e6 e5 e4 e3 e2 e1 e0
      have h8 : Ss w' u8 L := h 8 (by decide)
      have h9 : u9 = .string ⟨T.toArray⟩ := h 9 (by decide)
      clear h
      subst h9
      obtain ⟨a5, c5, e5, _⟩ := h8.raw
      subst e5
      simp only [over, Act.put, List.setIfInBounds_toArray, List.set_cons_zero, List.set_cons_succ]
      go_wp2_with fail
      go_meet
      exact ⟨h8, rfl, x⟩
  case rest =>
    obtain ⟨s3, rfl, X⟩ := hcut
    obtain ⟨w3, hw3⟩ : ∃ w3, w3 = wc := ⟨_, rfl⟩
    subst hw3
    have HSL := Lib.hid s3
    obtain ⟨a3, c3, e3, p3, q3, hcl⟩ := s3.raw
    subst e3
    have hc3 : c3 ≤ 9223372036854775807 := by unfold maxLen at q3; omega
    have HR := Lib.hid hcl
    clear s3 hcl q3
    rcases KC.out with ⟨hL0, hTn⟩ | ⟨x, L', y, D, e1, e2, hTn, hp, hs⟩
    · have hq : ((L.length : Int) == 0) = true := by rw [hL0]; rfl
      have hn2 : T.isEmpty = true := by rw [hTn]; rfl
      clear hL0 hTn
      go_wp2_with (refine wpList_toBytes rfl 9 27 _ rfl 5 Tryd.underlying9 Tryd.underlying27 Tryd.underlying5 _ rfl hmax ?_)
      intro v5 w5 o5 x5
      replace X := X.trans x5
      have c5 := spec_TrimSpace _ _ _ (by show a0.size ≤ _; omega) o5.bs
      rw [HTT.out] at c5
      clear x5 o5
      go_wp2_with (go_at_call 20; refine c5.mono ?_)
      rintro _ w6 ⟨v6, rfl, o6, x6⟩
      replace X := X.trans x6
      replace o6 := o6.bs
      clear x6 c5
      go_wp2_with (refine wpList_toString rfl 27 9 _ rfl 5 Tryd.underlying27 Tryd.underlying5 Tryd.underlying9 _ _ rfl o6 ?_)
      go_ret
      exact ⟨rfl, X.below⟩
    · obtain ⟨m, hm⟩ : ∃ m, L.length = m + 1 := ⟨L.length - 1, by rw [e1]; simp⟩
      have hq : ((L.length : Int) == 0) = false := by rw [beq_eq_false_iff_ne]; omega
      have x0 := Lib.hid (show L[0]'(by omega) = x by simp [e1])
      have y0 := Lib.hid (show L[m]'(by omega) = y by
        have hD : D.length = m := by have := congrArg List.length e2; simp at this; omega
        simp [e2, ← hD])
      have HP := Lib.hid hp
      have HS := Lib.hid hs
      have kx := K4.out x (by rw [e1]; simp)
      have ky := K4.out y (by rw [e2]; simp)
      have HONE := Lib.hid (show m = 0 → T = x by
        intro h0
        refine K1.out x ?_
        have hl1 : L'.length = 0 := by have := congrArg List.length e1; simp at this; omega
        rw [e1, List.eq_nil_of_length_eq_zero hl1])
      obtain ⟨b, o, ha, d0⟩ := HR.out 0 (by omega)
      obtain ⟨b', o', ha', d1⟩ := HR.out m (by omega)
      rw [ha] at ha'
      injection ha' with ha'
      injection ha' with hb1 ho1 _
      subst hb1 ho1
      subst ha
      rw [x0.out, Nat.add_zero] at d0
      rw [y0.out] at d1
      obtain ⟨sx, hsx⟩ : ∃ s, (⟨x.toArray⟩ : ByteArray) = s := ⟨_, rfl⟩
      obtain ⟨sy, hsy⟩ : ∃ s, (⟨y.toArray⟩ : ByteArray) = s := ⟨_, rfl⟩
      rw [hsx] at d0
      rw [hsy] at d1
      have HX1 := Lib.hid (show sx.data.toList = x by rw [← hsx])
      have HY1 := Lib.hid (show sy.data.toList = y by rw [← hsy])
      have mx : sx.size ≤ maxLen := by rw [← hsx]; show x.length ≤ _; unfold maxLen; omega
      have my : sy.size ≤ maxLen := by rw [← hsy]; show y.length ≤ _; unfold maxLen; omega
      have hle : L.length ≤ c3 := p3
      clear hTn hp hs e1 e2 x0 y0 HR
      have HSM := Lib.hid (show Ss w3 (.slice (some ⟨b, o, none⟩) (m + 1) c3) L by rw [← hm]; exact HSL.out)
      rw [hm] at hq hle ⊢
      by_cases hm0 : m = 0
      · have hTx := HONE.out hm0
        have hg1 : ¬ (1 : Int) < (m : Int) + 1 := by omega
        have hw : (T == sx.toList) = true := by rw [← hsx, ByteArray.toList_eq]; simp [hTx]
        clear hTx hsx hsy hm0
        go_wp2_with (first | (refine wpList_toBytes rfl 9 27 _ rfl 5 Tryd.underlying9 Tryd.underlying27 Tryd.underlying5 _ rfl hmt ?_) | fail)
        intro v12 w12 o12 x12
        have o12 : Bs w12 v12 T := o12.bs
        replace d0 := x12.cell d0
        replace d1 := x12.cell d1
        replace X := X.trans x12
        have Y := x12
        clear x12
        go_wp2_with (refine wpList_toBytes rfl 9 27 _ rfl 5 Tryd.underlying9 Tryd.underlying27 Tryd.underlying5 _ rfl mx ?_)
        intro v13 w13 o13 x13
        have o13 : Bs w13 v13 x := HX1.out ▸ o13.bs
        replace d1 := x13.cell d1
        replace X := X.trans x13
        replace Y := Y.trans x13
        have c14 := impl_HasPrefix _ _ T x _ (o12.ext x13) o13
        rw [HP.out] at c14
        clear x13 o12 o13 d0
        go_wp2_with (go_at_call 21; refine c14.mono ?_)
        rintro _ w14 ⟨rfl, rfl⟩
        clear c14
        go_wp2_with (refine wpList_toBytes rfl 9 27 _ rfl 5 Tryd.underlying9 Tryd.underlying27 Tryd.underlying5 _ rfl hmt ?_)
        intro v15 w15 o15 x15
        have o15 : Bs w15 v15 T := o15.bs
        replace d1 := x15.cell d1
        replace X := X.trans x15
        replace Y := Y.trans x15
        clear x15
        go_wp2_with (refine wpList_toBytes rfl 9 27 _ rfl 5 Tryd.underlying9 Tryd.underlying27 Tryd.underlying5 _ rfl my ?_)
        intro v16 w16 o16 x16
        have o16 : Bs w16 v16 y := HY1.out ▸ o16.bs
        replace X := X.trans x16
        replace Y := Y.trans x16
        have c17 := impl_HasSuffix _ _ T y _ (o15.ext x16) o16
        rw [HS.out] at c17
        clear x16 o15 o16 d1
        go_wp2_with (go_at_call 22; refine c17.mono ?_)
        rintro _ w17 ⟨rfl, rfl⟩
        clear c17
        go_wp2_with (refine wpList_toBytes rfl 9 27 _ rfl 5 Tryd.underlying9 Tryd.underlying27 Tryd.underlying5 _ rfl hmt ?_)
        intro v18 w18 o18 x18
        have o18 : Bs w18 v18 T := o18.bs
        replace X := X.trans x18
        replace Y := Y.trans x18
        have c18 := impl_Fields _ _ _ o18 (hW0.ext X) (hT0.ext X) HLT.out
        rw [KF.out] at c18
        clear x18 o18
        go_wp2_with (go_at_call 18; refine c18.mono ?_)
        rintro _ w19 ⟨v19, rfl, o19, x19⟩
        replace X := X.trans x19
        replace Y := Y.trans x19
        clear x19 c18
        go_wp2_with (go_at_call 17; refine (laws_texts v19 L _ o19.bs (by omega)).mono ?_)
        rintro _ w20 ⟨v20, rfl, s20, x20⟩
        replace X := X.trans x20
        replace Y := Y.trans x20
        clear x20 o19
        go_wp2_with (go_at_call 16; refine (laws_same _ _ L L _ s20 (HSM.out.ext Y) rfl).mono ?_)
        rintro _ w21 ⟨rfl, x21⟩
        replace X := X.trans x21
        go_wp2_with fail
        go_ret
        exact ⟨rfl, X.below⟩
      · have hg1 : (1 : Int) < (m : Int) + 1 := by omega
        clear hsx hsy hm0
        go_wp2_with (first | (refine wpList_toBytes rfl 9 27 _ rfl 5 Tryd.underlying9 Tryd.underlying27 Tryd.underlying5 _ rfl hmt ?_) | fail)
        intro v12 w12 o12 x12
        have o12 : Bs w12 v12 T := o12.bs
        replace d0 := x12.cell d0
        replace d1 := x12.cell d1
        replace X := X.trans x12
        have Y := x12
        clear x12
        go_wp2_with (refine wpList_toBytes rfl 9 27 _ rfl 5 Tryd.underlying9 Tryd.underlying27 Tryd.underlying5 _ rfl mx ?_)
        intro v13 w13 o13 x13
        have o13 : Bs w13 v13 x := HX1.out ▸ o13.bs
        replace d1 := x13.cell d1
        replace X := X.trans x13
        replace Y := Y.trans x13
        have c14 := impl_HasPrefix _ _ T x _ (o12.ext x13) o13
        rw [HP.out] at c14
        clear x13 o12 o13 d0
        go_wp2_with (go_at_call 21; refine c14.mono ?_)
        rintro _ w14 ⟨rfl, rfl⟩
        clear c14
        go_wp2_with (refine wpList_toBytes rfl 9 27 _ rfl 5 Tryd.underlying9 Tryd.underlying27 Tryd.underlying5 _ rfl hmt ?_)
        intro v15 w15 o15 x15
        have o15 : Bs w15 v15 T := o15.bs
        replace d1 := x15.cell d1
        replace X := X.trans x15
        replace Y := Y.trans x15
        clear x15
        go_wp2_with (refine wpList_toBytes rfl 9 27 _ rfl 5 Tryd.underlying9 Tryd.underlying27 Tryd.underlying5 _ rfl my ?_)
        intro v16 w16 o16 x16
        have o16 : Bs w16 v16 y := HY1.out ▸ o16.bs
        replace X := X.trans x16
        replace Y := Y.trans x16
        have c17 := impl_HasSuffix _ _ T y _ (o15.ext x16) o16
        rw [HS.out] at c17
        clear x16 o15 o16 d1
        go_wp2_with (go_at_call 22; refine c17.mono ?_)
        rintro _ w17 ⟨rfl, rfl⟩
        clear c17
        go_wp2_with (refine wpList_toBytes rfl 9 27 _ rfl 5 Tryd.underlying9 Tryd.underlying27 Tryd.underlying5 _ rfl hmt ?_)
        intro v18 w18 o18 x18
        have o18 : Bs w18 v18 T := o18.bs
        replace X := X.trans x18
        replace Y := Y.trans x18
        have c18 := impl_Fields _ _ _ o18 (hW0.ext X) (hT0.ext X) HLT.out
        rw [KF.out] at c18
        clear x18 o18
        go_wp2_with (go_at_call 18; refine c18.mono ?_)
        rintro _ w19 ⟨v19, rfl, o19, x19⟩
        replace X := X.trans x19
        replace Y := Y.trans x19
        clear x19 c18
        go_wp2_with (go_at_call 17; refine (laws_texts v19 L _ o19.bs (by omega)).mono ?_)
        rintro _ w20 ⟨v20, rfl, s20, x20⟩
        replace X := X.trans x20
        replace Y := Y.trans x20
        clear x20 o19
        go_wp2_with (go_at_call 16; refine (laws_same _ _ L L _ s20 (HSM.out.ext Y) rfl).mono ?_)
        rintro _ w21 ⟨rfl, x21⟩
        replace X := X.trans x21
        go_wp2_with fail
        go_ret
        exact ⟨rfl, X.below⟩
end Go.Proofs.YthbfdajbajijeaaDoor
