/- The walk of the law FnValidMap: it returns true where the text has at most 2^20 bytes. Printed by fnvalidmap.py. -/
import Derived.Test.YtlbaoghebjaliaaDoorFnMapSelfW
import Derived.Test.YtlbaoghebjaliaaDoorMonoC
import Derived.Deep.DeepCutAuto
namespace Go.Proofs.YtlbaoghebjaliaaDoor
open Go.RowKit

theorem is_one (w : World) (e : TypeId) (r : Int) : Is (w.alloc (.cells #[.int .i32 r] e)) (.slice (some ⟨w.heap.size, 0, none⟩) 1 1) [r] := by
  refine ⟨rfl, _, 1, rfl, Nat.le_refl _, by unfold maxLen; decide, ?_⟩
  refine .inr ⟨_, _, rfl, fun i h => ?_⟩
  have h0 : i = 0 := by have : i < 1 := h; omega
  subst h0
  rw [World.cell?_alloc_mark]; rfl
theorem bs_fffd (w : World) (e : TypeId) : Bs (w.alloc (.cells #[.int .u8 239, .int .u8 191, .int .u8 189] e)) (.slice (some ⟨w.heap.size, 0, none⟩) 3 3) [239, 191, 189] := by
  refine ⟨_, 3, rfl, Nat.le_refl _, by unfold maxLen; decide, .inr ⟨_, _, rfl, fun i h => ?_⟩⟩
  have h0 : i = 0 ∨ i = 1 ∨ i = 2 := by have : i < 3 := h; omega
  rcases h0 with rfl | rfl | rfl <;> (rw [World.cell?_alloc_mark]; rfl)
theorem Bs.empty0 (w : World) (e : TypeId) : Bs (w.alloc (.cells #[] e)) (.slice (some ⟨w.heap.size, 0, none⟩) 0 0) [] := ⟨_, 0, rfl, Nat.le_refl _, Nat.zero_le _, .inl rfl⟩

theorem mendB_nil {by_ : List UInt8} (hb : by_ ≠ []) (l : List UInt8) : mendB by_ l = [] ↔ l = [] := by
  constructor
  · intro h
    cases l with
    | nil => rfl
    | cons x l =>
      exfalso
      unfold mendB at h
      rw [chunks_cons (l := x :: l) (by simp), mendC] at h
      have h1 := (List.append_eq_nil_iff.1 h).1
      have hs := dec_size (l := x :: l) (by simp)
      split at h1
      · have := congrArg List.length h1
        simp only [List.length_take, List.length_nil] at this
        omega
      · exact hb h1
  · rintro rfl; rfl

theorem fffd_map : mapB (imageT [(65533, -1)]) [239, 191, 189] = [] := by decide
theorem fffd_whole : wholeB [239, 191, 189] = true := by decide

set_option maxRecDepth 100000 in
set_option maxHeartbeats 16000000 in
theorem FnValidMap_walk (w : World) (hT : Tabs w) (a0 : ByteArray) (z0 : a0.size ≤ 1048576) :
    Calls Tryd.prog 13 #[.string a0] w fun e w' => e = .returned (.bool true) ∧ Below w.heap.size w w' := by
  have hmax : a0.size ≤ maxLen := by unfold maxLen; omega
  have es : a0.data.toList.length = a0.size := rfl
  have hcl := chunks_length a0.data.toList
  obtain ⟨rows, hrows⟩ : ∃ rows : List (Int × Int), [(65533, -1)] = rows := ⟨_, rfl⟩
  have key0 : mapB (imageT rows) (mendB [239, 191, 189] a0.data.toList) = mapB (imageT rows) a0.data.toList := by
    rw [← hrows]
    exact mapC_mend fffd_whole fffd_map (by decide) _ _ (chunks_ok _)
  have HLE := Lib.hid (show ∀ r : Int, 0 ≤ r → r ≤ 1114111 → imageT rows r ≤ 2147483647 by
    rw [← hrows]
    intro r h1 h2
    simp only [imageT]
    split <;> omega)
  obtain ⟨f, hf⟩ : ∃ f, imageT rows = f := ⟨_, rfl⟩
  have HFF := Lib.hid hf
  rw [hf] at key0
  have key3 := mendB_is_whole (by_ := []) rfl a0.data.toList
  have s2 := mendC_size [239, 191, 189] (chunks a0.data.toList) false
  have s3 := mendC_size [] (chunks a0.data.toList) false
  rw [glue_chunks, es] at s2 s3
  have q2 : (mendB [239, 191, 189] a0.data.toList).length ≤ 4194304 := by show (mendC _ _ _).length ≤ _; simp at s2; omega
  have q3 : (mendB [] a0.data.toList).length ≤ 4194304 := by show (mendC _ _ _).length ≤ _; simp at s3; omega
  have keyz := mendB_nil (by_ := [239, 191, 189]) (by simp) a0.data.toList
  obtain ⟨M2, hM2⟩ : ∃ M2, mendB [239, 191, 189] a0.data.toList = M2 := ⟨_, rfl⟩
  obtain ⟨M3, hM3⟩ : ∃ M3, mendB [] a0.data.toList = M3 := ⟨_, rfl⟩
  obtain ⟨T, hTE⟩ : ∃ T, mapB f a0.data.toList = T := ⟨_, rfl⟩
  rw [hM2, hTE] at key0
  rw [hM2] at q2 keyz
  rw [hM3] at q3 key3
  obtain ⟨sT, hsT⟩ : ∃ st, (⟨T.toArray⟩ : ByteArray) = st := ⟨_, rfl⟩
  obtain ⟨s2', hs2⟩ : ∃ st, (⟨M2.toArray⟩ : ByteArray) = st := ⟨_, rfl⟩
  obtain ⟨s3', hs3⟩ : ∃ st, (⟨M3.toArray⟩ : ByteArray) = st := ⟨_, rfl⟩
  have HSD2 := Lib.hid (show s2'.data.toList = M2 by rw [← hs2])
  have HSD3 := Lib.hid (show s3'.data.toList = M3 by rw [← hs3])
  have hm2 : s2'.size ≤ maxLen := by rw [← hs2]; show M2.length ≤ _; unfold maxLen; omega
  have hm3 : s3'.size ≤ 4194304 := by rw [← hs3]; exact q3
  obtain ⟨bb, hbb⟩ : ∃ bb, a0.data.toList.isEmpty = bb := ⟨_, rfl⟩
  have HZ0 := Lib.hid (show a0.toList.isEmpty = bb by rw [ByteArray.toList_eq]; exact hbb)
  have HZ2 := Lib.hid (show s2'.toList.isEmpty = bb by
    rw [ByteArray.toList_eq, HSD2.out, ← hbb, Bool.eq_iff_iff, List.isEmpty_iff, List.isEmpty_iff]
    exact keyz)
  have HTE := Lib.hid hTE
  have HTE2 := Lib.hid key0
  have HM2 := Lib.hid hM2
  have HM3 := Lib.hid hM3
  have HST := Lib.hid hsT
  have HS2 := Lib.hid hs2
  have HS3 := Lib.hid hs3
  have HW3 := Lib.hid key3
  have HRW := Lib.hid hrows
  clear hcl key0 hf key3 s2 s3 keyz hM2 hM3 hTE hsT hs2 hs3 hbb es hrows
  obtain ⟨n1, hn1⟩ : ∃ n1, w.heap.size = n1 := ⟨_, rfl⟩
  have i1 := (is_one w 21 65533).ext (Ext.alloc (w.alloc (.cells #[.int .i32 65533] 21)) (.cells #[.int .i32 (-1)] 21))
  have i2 := is_one (w.alloc (.cells #[.int .i32 65533] 21)) 21 (-1)
  have x1 : Ext w ((w.alloc (.cells #[.int .i32 65533] 21)).alloc (.cells #[.int .i32 (-1)] 21)) := (Ext.alloc _ _).trans (Ext.alloc _ _)
  rw [World.size_alloc, hn1] at i2
  rw [hn1] at i1
  have cT := laws_table _ _ [65533] [-1] _ i1 i2 (by simp)
  clear i1 i2
  go_enter Tryd.func13, Tryd.ntmps13
  go_wp2_with (go_at_call 42; refine cT.mono ?_)
  rintro _ w1 ⟨v3, rfl, t1, x2⟩
  replace t1 : Ts w1 v3 rows := HRW.out ▸ t1
  obtain ⟨ta, tc, te, _⟩ := t1.raw
  subst te
  have x3 : Ext w1 (w1.alloc (.cells #[.slice ta rows.length tc] 49)) := Ext.alloc _ _
  have f0 : (w1.alloc (.cells #[.slice ta rows.length tc] 49)).cell? ⟨w1.heap.size, 0, none⟩ = some (.slice ta rows.length tc) := by rw [World.cell?_alloc_mark]; rfl
  replace t1 := t1.ext x3
  have X := (x1.trans x2).trans x3
  obtain ⟨w2, hw2⟩ : ∃ w2, w1.alloc (.cells #[.slice ta rows.length tc] 49) = w2 := ⟨_, rfl⟩
  obtain ⟨n, hn⟩ : ∃ n, w1.heap.size = n := ⟨_, rfl⟩
  rw [hw2] at t1 f0 X
  rw [hn] at f0
  have HTS := Lib.hid t1
  have HF0 := Lib.hid f0
  have HX := Lib.hid X
  replace HT := Lib.hid (hT.ext X)
  clear x1 x2 x3 cT t1 f0 X hT
  go_upto_region 2 with fail
  clear hw2 hn hn1
  obtain ⟨n0, hn0'⟩ : ∃ n0, w2.heap.size = n0 := ⟨_, rfl⟩
  have HN0 := Lib.hid hn0'
  have hle0 : n0 ≤ w2.heap.size := by omega
  clear hn0'
  go_cut [2] (fun s2 wx => s2 = .bool true ∧ Rc n0 w2 wx)
  case first =>
    refine wp_region_monoR (by kernel_rfl) [7, 8, 9, 10, 11, 12, 13, 14, 15, 16, 17, 18, 19, 20, 21, 22, 23, 24, 25, 26, 27, 28, 29, 30, 31, 32, 33, 34, 35, 36, 37, 38, 39, 40, 41, 42, 43, 2] (by kernel_rfl) (by decide) (by simp) (by kernel_rfl) (Rc n0) (Rc.drew n0) (fun _ _ _ h k => h.trans k)
      (fun i => match i with | 0 => (fun v w => v = .string a0) | 1 => (fun v w => Bs w v a0.data.toList) | 2 => (fun v w => v = .agg #[.slice ta rows.length tc]) | 3 => (fun v w => Bs w v T) | 4 => (fun v w => v = .string sT) | 5 => (fun v w => v = .string a0) | 6 => (fun v w => Bs w v a0.data.toList) | 7 => (fun v w => ∃ k, v = .slice (some ⟨k, 0, none⟩) 3 3 ∧ n0 ≤ k ∧ Bs w v [239, 191, 189]) | 8 => (fun v w => Bs w v [239, 191, 189]) | 9 => (fun v w => Bs w v M2) | 10 => (fun v w => v = .string s2') | 11 => (fun v w => Bs w v M2) | 12 => (fun v w => v = .agg #[.slice ta rows.length tc]) | 13 => (fun v w => Bs w v T) | 14 => (fun v w => v = .string sT) | 15 => (fun v w => v = .bool true) | 16 => (fun v w => v = .bool true) | 17 => (fun v w => v = .string a0) | 18 => (fun v w => Bs w v a0.data.toList) | 19 => (fun v w => ∃ k, v = .slice (some ⟨k, 0, none⟩) 0 0 ∧ n0 ≤ k ∧ Bs w v []) | 20 => (fun v w => Bs w v []) | 21 => (fun v w => Bs w v M3) | 22 => (fun v w => v = .string s3') | 23 => (fun v w => v = .bool true) | 24 => (fun v w => v = .bool true) | 25 => (fun v w => v = .bool true) | 26 => (fun v w => v = .string a0) | 27 => (fun v w => Bs w v a0.data.toList) | 28 => (fun v w => ∃ k, v = .slice (some ⟨k, 0, none⟩) 3 3 ∧ n0 ≤ k ∧ Bs w v [239, 191, 189]) | 29 => (fun v w => Bs w v [239, 191, 189]) | 30 => (fun v w => Bs w v M2) | 31 => (fun v w => v = .string s2') | 32 => (fun v w => v = .bool bb) | 33 => (fun v w => v = .string a0) | 34 => (fun v w => v = .bool bb) | 35 => (fun v w => v = .bool true) | 36 => (fun v w => v = .bool true) | 37 => (fun v w => v = .bool true) | _ => fun _ _ => True) ?stable ?steps ?fin
    case stable =>
      intro i v w' w'' h x
      match i, h with
      | 0, h => exact h
      | 1, h => exact Bs.rc (show Bs w' v a0.data.toList from h) x
      | 2, h => exact h
      | 3, h => exact Bs.rc (show Bs w' v T from h) x
      | 4, h => exact h
      | 5, h => exact h
      | 6, h => exact Bs.rc (show Bs w' v a0.data.toList from h) x
      | 7, ⟨k, h1, h2, h3⟩ => exact ⟨k, h1, h2, Bs.rc h3 x⟩
      | 8, h => exact Bs.rc (show Bs w' v [239, 191, 189] from h) x
      | 9, h => exact Bs.rc (show Bs w' v M2 from h) x
      | 10, h => exact h
      | 11, h => exact Bs.rc (show Bs w' v M2 from h) x
      | 12, h => exact h
      | 13, h => exact Bs.rc (show Bs w' v T from h) x
      | 14, h => exact h
      | 15, h => exact h
      | 16, h => exact h
      | 17, h => exact h
      | 18, h => exact Bs.rc (show Bs w' v a0.data.toList from h) x
      | 19, ⟨k, h1, h2, h3⟩ => exact ⟨k, h1, h2, Bs.rc h3 x⟩
      | 20, h => exact Bs.rc (show Bs w' v [] from h) x
      | 21, h => exact Bs.rc (show Bs w' v M3 from h) x
      | 22, h => exact h
      | 23, h => exact h
      | 24, h => exact h
      | 25, h => exact h
      | 26, h => exact h
      | 27, h => exact Bs.rc (show Bs w' v a0.data.toList from h) x
      | 28, ⟨k, h1, h2, h3⟩ => exact ⟨k, h1, h2, Bs.rc h3 x⟩
      | 29, h => exact Bs.rc (show Bs w' v [239, 191, 189] from h) x
      | 30, h => exact Bs.rc (show Bs w' v M2 from h) x
      | 31, h => exact h
      | 32, h => exact h
      | 33, h => exact h
      | 34, h => exact h
      | 35, h => exact h
      | 36, h => exact h
      | 37, h => exact h
      | _ + 38, _ => trivial
    case steps =>
      refine AllSteps.cons (fun us hus w' x h => ?_) ?_
      · obtain ⟨u0, t0, e0, s0⟩ := len_cons hus; obtain ⟨u1, t1, e1, s1⟩ := len_cons s0; obtain ⟨u2, t2, e2, s2⟩ := len_cons s1; obtain ⟨u3, t3, e3, s3⟩ := len_cons s2; obtain ⟨u4, t4, e4, s4⟩ := len_cons s3; obtain ⟨u5, t5, e5, s5⟩ := len_cons s4; obtain ⟨u6, t6, e6, s6⟩ := len_cons s5; obtain ⟨u7, t7, e7, s7⟩ := len_cons s6; obtain ⟨u8, t8, e8, s8⟩ := len_cons s7; obtain ⟨u9, t9, e9, s9⟩ := len_cons s8; obtain ⟨u10, t10, e10, s10⟩ := len_cons s9; obtain ⟨u11, t11, e11, s11⟩ := len_cons s10; obtain ⟨u12, t12, e12, s12⟩ := len_cons s11; obtain ⟨u13, t13, e13, s13⟩ := len_cons s12; obtain ⟨u14, t14, e14, s14⟩ := len_cons s13; obtain ⟨u15, t15, e15, s15⟩ := len_cons s14; obtain ⟨u16, t16, e16, s16⟩ := len_cons s15; obtain ⟨u17, t17, e17, s17⟩ := len_cons s16; obtain ⟨u18, t18, e18, s18⟩ := len_cons s17; obtain ⟨u19, t19, e19, s19⟩ := len_cons s18; obtain ⟨u20, t20, e20, s20⟩ := len_cons s19; obtain ⟨u21, t21, e21, s21⟩ := len_cons s20; obtain ⟨u22, t22, e22, s22⟩ := len_cons s21; obtain ⟨u23, t23, e23, s23⟩ := len_cons s22; obtain ⟨u24, t24, e24, s24⟩ := len_cons s23; obtain ⟨u25, t25, e25, s25⟩ := len_cons s24; obtain ⟨u26, t26, e26, s26⟩ := len_cons s25; obtain ⟨u27, t27, e27, s27⟩ := len_cons s26; obtain ⟨u28, t28, e28, s28⟩ := len_cons s27; obtain ⟨u29, t29, e29, s29⟩ := len_cons s28; obtain ⟨u30, t30, e30, s30⟩ := len_cons s29; obtain ⟨u31, t31, e31, s31⟩ := len_cons s30; obtain ⟨u32, t32, e32, s32⟩ := len_cons s31; obtain ⟨u33, t33, e33, s33⟩ := len_cons s32; obtain ⟨u34, t34, e34, s34⟩ := len_cons s33; obtain ⟨u35, t35, e35, s35⟩ := len_cons s34; obtain ⟨u36, t36, e36, s36⟩ := len_cons s35; obtain ⟨u37, t37, e37, s37⟩ := len_cons s36
        obtain rfl := len_nil s37
        clear hus s0 s1 s2 s3 s4 s5 s6 s7 s8 s9 s10 s11 s12 s13 s14 s15 s16 s17 s18 s19 s20 s21 s22 s23 s24 s25 s26 s27 s28 s29 s30 s31 s32 s33 s34 s35 s36 s37
        subst e37 e36 e35 e34 e33 e32 e31 e30 e29 e28 e27 e26 e25 e24 e23 e22 e21 e20 e19 e18 e17 e16 e15 e14 e13 e12 e11 e10 e9 e8 e7 e6 e5 e4 e3 e2 e1 e0
        clear h
        simp only [over, Act.put, List.setIfInBounds_toArray, List.set_cons_zero, List.set_cons_succ]
        go_wp2_with fail
        exact postK_normal ⟨_, rfl, rfl, Rc.refl _ _⟩
      refine AllSteps.cons (fun us hus w' x h => ?_) ?_
      · obtain ⟨u0, t0, e0, s0⟩ := len_cons hus; obtain ⟨u1, t1, e1, s1⟩ := len_cons s0; obtain ⟨u2, t2, e2, s2⟩ := len_cons s1; obtain ⟨u3, t3, e3, s3⟩ := len_cons s2; obtain ⟨u4, t4, e4, s4⟩ := len_cons s3; obtain ⟨u5, t5, e5, s5⟩ := len_cons s4; obtain ⟨u6, t6, e6, s6⟩ := len_cons s5; obtain ⟨u7, t7, e7, s7⟩ := len_cons s6; obtain ⟨u8, t8, e8, s8⟩ := len_cons s7; obtain ⟨u9, t9, e9, s9⟩ := len_cons s8; obtain ⟨u10, t10, e10, s10⟩ := len_cons s9; obtain ⟨u11, t11, e11, s11⟩ := len_cons s10; obtain ⟨u12, t12, e12, s12⟩ := len_cons s11; obtain ⟨u13, t13, e13, s13⟩ := len_cons s12; obtain ⟨u14, t14, e14, s14⟩ := len_cons s13; obtain ⟨u15, t15, e15, s15⟩ := len_cons s14; obtain ⟨u16, t16, e16, s16⟩ := len_cons s15; obtain ⟨u17, t17, e17, s17⟩ := len_cons s16; obtain ⟨u18, t18, e18, s18⟩ := len_cons s17; obtain ⟨u19, t19, e19, s19⟩ := len_cons s18; obtain ⟨u20, t20, e20, s20⟩ := len_cons s19; obtain ⟨u21, t21, e21, s21⟩ := len_cons s20; obtain ⟨u22, t22, e22, s22⟩ := len_cons s21; obtain ⟨u23, t23, e23, s23⟩ := len_cons s22; obtain ⟨u24, t24, e24, s24⟩ := len_cons s23; obtain ⟨u25, t25, e25, s25⟩ := len_cons s24; obtain ⟨u26, t26, e26, s26⟩ := len_cons s25; obtain ⟨u27, t27, e27, s27⟩ := len_cons s26; obtain ⟨u28, t28, e28, s28⟩ := len_cons s27; obtain ⟨u29, t29, e29, s29⟩ := len_cons s28; obtain ⟨u30, t30, e30, s30⟩ := len_cons s29; obtain ⟨u31, t31, e31, s31⟩ := len_cons s30; obtain ⟨u32, t32, e32, s32⟩ := len_cons s31; obtain ⟨u33, t33, e33, s33⟩ := len_cons s32; obtain ⟨u34, t34, e34, s34⟩ := len_cons s33; obtain ⟨u35, t35, e35, s35⟩ := len_cons s34; obtain ⟨u36, t36, e36, s36⟩ := len_cons s35; obtain ⟨u37, t37, e37, s37⟩ := len_cons s36
        obtain rfl := len_nil s37
        clear hus s0 s1 s2 s3 s4 s5 s6 s7 s8 s9 s10 s11 s12 s13 s14 s15 s16 s17 s18 s19 s20 s21 s22 s23 s24 s25 s26 s27 s28 s29 s30 s31 s32 s33 s34 s35 s36 s37
        subst e37 e36 e35 e34 e33 e32 e31 e30 e29 e28 e27 e26 e25 e24 e23 e22 e21 e20 e19 e18 e17 e16 e15 e14 e13 e12 e11 e10 e9 e8 e7 e6 e5 e4 e3 e2 e1 e0
        have h0 : u0 = .string a0 := h 0 (by kernel_rfl)
        clear h
        simp only [over, Act.put, List.setIfInBounds_toArray, List.set_cons_zero, List.set_cons_succ]
        subst h0
        have hn0 : n0 ≤ w'.heap.size := by have := x.below.size; omega
        go_wp2_with (refine wpList_toBytes rfl 9 30 _ rfl 5 Tryd.underlying9 Tryd.underlying30 Tryd.underlying5 _ rfl hmax ?_)
        intro v5 w5 o5 x5
        have o5 : Bs w5 v5 a0.data.toList := o5.bs
        go_wp2_with fail
        exact postK_normal ⟨_, rfl, o5, Rc.ext x5 hn0⟩
      refine AllSteps.cons (fun us hus w' x h => ?_) ?_
      · obtain ⟨u0, t0, e0, s0⟩ := len_cons hus; obtain ⟨u1, t1, e1, s1⟩ := len_cons s0; obtain ⟨u2, t2, e2, s2⟩ := len_cons s1; obtain ⟨u3, t3, e3, s3⟩ := len_cons s2; obtain ⟨u4, t4, e4, s4⟩ := len_cons s3; obtain ⟨u5, t5, e5, s5⟩ := len_cons s4; obtain ⟨u6, t6, e6, s6⟩ := len_cons s5; obtain ⟨u7, t7, e7, s7⟩ := len_cons s6; obtain ⟨u8, t8, e8, s8⟩ := len_cons s7; obtain ⟨u9, t9, e9, s9⟩ := len_cons s8; obtain ⟨u10, t10, e10, s10⟩ := len_cons s9; obtain ⟨u11, t11, e11, s11⟩ := len_cons s10; obtain ⟨u12, t12, e12, s12⟩ := len_cons s11; obtain ⟨u13, t13, e13, s13⟩ := len_cons s12; obtain ⟨u14, t14, e14, s14⟩ := len_cons s13; obtain ⟨u15, t15, e15, s15⟩ := len_cons s14; obtain ⟨u16, t16, e16, s16⟩ := len_cons s15; obtain ⟨u17, t17, e17, s17⟩ := len_cons s16; obtain ⟨u18, t18, e18, s18⟩ := len_cons s17; obtain ⟨u19, t19, e19, s19⟩ := len_cons s18; obtain ⟨u20, t20, e20, s20⟩ := len_cons s19; obtain ⟨u21, t21, e21, s21⟩ := len_cons s20; obtain ⟨u22, t22, e22, s22⟩ := len_cons s21; obtain ⟨u23, t23, e23, s23⟩ := len_cons s22; obtain ⟨u24, t24, e24, s24⟩ := len_cons s23; obtain ⟨u25, t25, e25, s25⟩ := len_cons s24; obtain ⟨u26, t26, e26, s26⟩ := len_cons s25; obtain ⟨u27, t27, e27, s27⟩ := len_cons s26; obtain ⟨u28, t28, e28, s28⟩ := len_cons s27; obtain ⟨u29, t29, e29, s29⟩ := len_cons s28; obtain ⟨u30, t30, e30, s30⟩ := len_cons s29; obtain ⟨u31, t31, e31, s31⟩ := len_cons s30; obtain ⟨u32, t32, e32, s32⟩ := len_cons s31; obtain ⟨u33, t33, e33, s33⟩ := len_cons s32; obtain ⟨u34, t34, e34, s34⟩ := len_cons s33; obtain ⟨u35, t35, e35, s35⟩ := len_cons s34; obtain ⟨u36, t36, e36, s36⟩ := len_cons s35; obtain ⟨u37, t37, e37, s37⟩ := len_cons s36
        obtain rfl := len_nil s37
        clear hus s0 s1 s2 s3 s4 s5 s6 s7 s8 s9 s10 s11 s12 s13 s14 s15 s16 s17 s18 s19 s20 s21 s22 s23 s24 s25 s26 s27 s28 s29 s30 s31 s32 s33 s34 s35 s36 s37
        subst e37 e36 e35 e34 e33 e32 e31 e30 e29 e28 e27 e26 e25 e24 e23 e22 e21 e20 e19 e18 e17 e16 e15 e14 e13 e12 e11 e10 e9 e8 e7 e6 e5 e4 e3 e2 e1 e0
        clear h
        simp only [over, Act.put, List.setIfInBounds_toArray, List.set_cons_zero, List.set_cons_succ]
        have f0 := x.cell _ _ HF0.out
        go_wp2_with fail
        exact postK_normal ⟨_, rfl, rfl, Rc.refl _ _⟩
      refine AllSteps.cons (fun us hus w' x h => ?_) ?_
      · obtain ⟨u0, t0, e0, s0⟩ := len_cons hus; obtain ⟨u1, t1, e1, s1⟩ := len_cons s0; obtain ⟨u2, t2, e2, s2⟩ := len_cons s1; obtain ⟨u3, t3, e3, s3⟩ := len_cons s2; obtain ⟨u4, t4, e4, s4⟩ := len_cons s3; obtain ⟨u5, t5, e5, s5⟩ := len_cons s4; obtain ⟨u6, t6, e6, s6⟩ := len_cons s5; obtain ⟨u7, t7, e7, s7⟩ := len_cons s6; obtain ⟨u8, t8, e8, s8⟩ := len_cons s7; obtain ⟨u9, t9, e9, s9⟩ := len_cons s8; obtain ⟨u10, t10, e10, s10⟩ := len_cons s9; obtain ⟨u11, t11, e11, s11⟩ := len_cons s10; obtain ⟨u12, t12, e12, s12⟩ := len_cons s11; obtain ⟨u13, t13, e13, s13⟩ := len_cons s12; obtain ⟨u14, t14, e14, s14⟩ := len_cons s13; obtain ⟨u15, t15, e15, s15⟩ := len_cons s14; obtain ⟨u16, t16, e16, s16⟩ := len_cons s15; obtain ⟨u17, t17, e17, s17⟩ := len_cons s16; obtain ⟨u18, t18, e18, s18⟩ := len_cons s17; obtain ⟨u19, t19, e19, s19⟩ := len_cons s18; obtain ⟨u20, t20, e20, s20⟩ := len_cons s19; obtain ⟨u21, t21, e21, s21⟩ := len_cons s20; obtain ⟨u22, t22, e22, s22⟩ := len_cons s21; obtain ⟨u23, t23, e23, s23⟩ := len_cons s22; obtain ⟨u24, t24, e24, s24⟩ := len_cons s23; obtain ⟨u25, t25, e25, s25⟩ := len_cons s24; obtain ⟨u26, t26, e26, s26⟩ := len_cons s25; obtain ⟨u27, t27, e27, s27⟩ := len_cons s26; obtain ⟨u28, t28, e28, s28⟩ := len_cons s27; obtain ⟨u29, t29, e29, s29⟩ := len_cons s28; obtain ⟨u30, t30, e30, s30⟩ := len_cons s29; obtain ⟨u31, t31, e31, s31⟩ := len_cons s30; obtain ⟨u32, t32, e32, s32⟩ := len_cons s31; obtain ⟨u33, t33, e33, s33⟩ := len_cons s32; obtain ⟨u34, t34, e34, s34⟩ := len_cons s33; obtain ⟨u35, t35, e35, s35⟩ := len_cons s34; obtain ⟨u36, t36, e36, s36⟩ := len_cons s35; obtain ⟨u37, t37, e37, s37⟩ := len_cons s36
        obtain rfl := len_nil s37
        clear hus s0 s1 s2 s3 s4 s5 s6 s7 s8 s9 s10 s11 s12 s13 s14 s15 s16 s17 s18 s19 s20 s21 s22 s23 s24 s25 s26 s27 s28 s29 s30 s31 s32 s33 s34 s35 s36 s37
        subst e37 e36 e35 e34 e33 e32 e31 e30 e29 e28 e27 e26 e25 e24 e23 e22 e21 e20 e19 e18 e17 e16 e15 e14 e13 e12 e11 e10 e9 e8 e7 e6 e5 e4 e3 e2 e1 e0
        have h1 : Bs w' u1 a0.data.toList := h 1 (by kernel_rfl)
        have h2 : u2 = .agg #[.slice ta rows.length tc] := h 2 (by kernel_rfl)
        clear h
        simp only [over, Act.put, List.setIfInBounds_toArray, List.set_cons_zero, List.set_cons_succ]
        subst h2
        have hn0 : n0 ≤ w'.heap.size := by have := x.below.size; omega
        have c5 := impl_Map _ _ rows _ _ (HTS.out.rc x) h1 (HT.out.rc x) (by show a0.size ≤ _; omega) HLE.out
        rw [HFF.out, HTE.out] at c5
        go_wp2_with (go_at_call 36; refine c5.mono ?_)
        rintro _ w5 ⟨v5, rfl, o5, x5⟩
        go_wp2_with fail
        exact postK_normal ⟨_, rfl, o5.bs, Rc.ext x5 hn0⟩
      refine AllSteps.cons (fun us hus w' x h => ?_) ?_
      · obtain ⟨u0, t0, e0, s0⟩ := len_cons hus; obtain ⟨u1, t1, e1, s1⟩ := len_cons s0; obtain ⟨u2, t2, e2, s2⟩ := len_cons s1; obtain ⟨u3, t3, e3, s3⟩ := len_cons s2; obtain ⟨u4, t4, e4, s4⟩ := len_cons s3; obtain ⟨u5, t5, e5, s5⟩ := len_cons s4; obtain ⟨u6, t6, e6, s6⟩ := len_cons s5; obtain ⟨u7, t7, e7, s7⟩ := len_cons s6; obtain ⟨u8, t8, e8, s8⟩ := len_cons s7; obtain ⟨u9, t9, e9, s9⟩ := len_cons s8; obtain ⟨u10, t10, e10, s10⟩ := len_cons s9; obtain ⟨u11, t11, e11, s11⟩ := len_cons s10; obtain ⟨u12, t12, e12, s12⟩ := len_cons s11; obtain ⟨u13, t13, e13, s13⟩ := len_cons s12; obtain ⟨u14, t14, e14, s14⟩ := len_cons s13; obtain ⟨u15, t15, e15, s15⟩ := len_cons s14; obtain ⟨u16, t16, e16, s16⟩ := len_cons s15; obtain ⟨u17, t17, e17, s17⟩ := len_cons s16; obtain ⟨u18, t18, e18, s18⟩ := len_cons s17; obtain ⟨u19, t19, e19, s19⟩ := len_cons s18; obtain ⟨u20, t20, e20, s20⟩ := len_cons s19; obtain ⟨u21, t21, e21, s21⟩ := len_cons s20; obtain ⟨u22, t22, e22, s22⟩ := len_cons s21; obtain ⟨u23, t23, e23, s23⟩ := len_cons s22; obtain ⟨u24, t24, e24, s24⟩ := len_cons s23; obtain ⟨u25, t25, e25, s25⟩ := len_cons s24; obtain ⟨u26, t26, e26, s26⟩ := len_cons s25; obtain ⟨u27, t27, e27, s27⟩ := len_cons s26; obtain ⟨u28, t28, e28, s28⟩ := len_cons s27; obtain ⟨u29, t29, e29, s29⟩ := len_cons s28; obtain ⟨u30, t30, e30, s30⟩ := len_cons s29; obtain ⟨u31, t31, e31, s31⟩ := len_cons s30; obtain ⟨u32, t32, e32, s32⟩ := len_cons s31; obtain ⟨u33, t33, e33, s33⟩ := len_cons s32; obtain ⟨u34, t34, e34, s34⟩ := len_cons s33; obtain ⟨u35, t35, e35, s35⟩ := len_cons s34; obtain ⟨u36, t36, e36, s36⟩ := len_cons s35; obtain ⟨u37, t37, e37, s37⟩ := len_cons s36
        obtain rfl := len_nil s37
        clear hus s0 s1 s2 s3 s4 s5 s6 s7 s8 s9 s10 s11 s12 s13 s14 s15 s16 s17 s18 s19 s20 s21 s22 s23 s24 s25 s26 s27 s28 s29 s30 s31 s32 s33 s34 s35 s36 s37
        subst e37 e36 e35 e34 e33 e32 e31 e30 e29 e28 e27 e26 e25 e24 e23 e22 e21 e20 e19 e18 e17 e16 e15 e14 e13 e12 e11 e10 e9 e8 e7 e6 e5 e4 e3 e2 e1 e0
        have h3 : Bs w' u3 T := h 3 (by kernel_rfl)
        clear h
        simp only [over, Act.put, List.setIfInBounds_toArray, List.set_cons_zero, List.set_cons_succ]
        go_wp2_with (refine wpList_toString rfl 30 9 _ rfl 5 Tryd.underlying30 Tryd.underlying5 Tryd.underlying9 _ _ rfl h3 ?_)
        rw [HST.out]
        go_wp2_with fail
        exact postK_normal ⟨_, rfl, rfl, Rc.refl _ _⟩
      refine AllSteps.cons (fun us hus w' x h => ?_) ?_
      · obtain ⟨u0, t0, e0, s0⟩ := len_cons hus; obtain ⟨u1, t1, e1, s1⟩ := len_cons s0; obtain ⟨u2, t2, e2, s2⟩ := len_cons s1; obtain ⟨u3, t3, e3, s3⟩ := len_cons s2; obtain ⟨u4, t4, e4, s4⟩ := len_cons s3; obtain ⟨u5, t5, e5, s5⟩ := len_cons s4; obtain ⟨u6, t6, e6, s6⟩ := len_cons s5; obtain ⟨u7, t7, e7, s7⟩ := len_cons s6; obtain ⟨u8, t8, e8, s8⟩ := len_cons s7; obtain ⟨u9, t9, e9, s9⟩ := len_cons s8; obtain ⟨u10, t10, e10, s10⟩ := len_cons s9; obtain ⟨u11, t11, e11, s11⟩ := len_cons s10; obtain ⟨u12, t12, e12, s12⟩ := len_cons s11; obtain ⟨u13, t13, e13, s13⟩ := len_cons s12; obtain ⟨u14, t14, e14, s14⟩ := len_cons s13; obtain ⟨u15, t15, e15, s15⟩ := len_cons s14; obtain ⟨u16, t16, e16, s16⟩ := len_cons s15; obtain ⟨u17, t17, e17, s17⟩ := len_cons s16; obtain ⟨u18, t18, e18, s18⟩ := len_cons s17; obtain ⟨u19, t19, e19, s19⟩ := len_cons s18; obtain ⟨u20, t20, e20, s20⟩ := len_cons s19; obtain ⟨u21, t21, e21, s21⟩ := len_cons s20; obtain ⟨u22, t22, e22, s22⟩ := len_cons s21; obtain ⟨u23, t23, e23, s23⟩ := len_cons s22; obtain ⟨u24, t24, e24, s24⟩ := len_cons s23; obtain ⟨u25, t25, e25, s25⟩ := len_cons s24; obtain ⟨u26, t26, e26, s26⟩ := len_cons s25; obtain ⟨u27, t27, e27, s27⟩ := len_cons s26; obtain ⟨u28, t28, e28, s28⟩ := len_cons s27; obtain ⟨u29, t29, e29, s29⟩ := len_cons s28; obtain ⟨u30, t30, e30, s30⟩ := len_cons s29; obtain ⟨u31, t31, e31, s31⟩ := len_cons s30; obtain ⟨u32, t32, e32, s32⟩ := len_cons s31; obtain ⟨u33, t33, e33, s33⟩ := len_cons s32; obtain ⟨u34, t34, e34, s34⟩ := len_cons s33; obtain ⟨u35, t35, e35, s35⟩ := len_cons s34; obtain ⟨u36, t36, e36, s36⟩ := len_cons s35; obtain ⟨u37, t37, e37, s37⟩ := len_cons s36
        obtain rfl := len_nil s37
        clear hus s0 s1 s2 s3 s4 s5 s6 s7 s8 s9 s10 s11 s12 s13 s14 s15 s16 s17 s18 s19 s20 s21 s22 s23 s24 s25 s26 s27 s28 s29 s30 s31 s32 s33 s34 s35 s36 s37
        subst e37 e36 e35 e34 e33 e32 e31 e30 e29 e28 e27 e26 e25 e24 e23 e22 e21 e20 e19 e18 e17 e16 e15 e14 e13 e12 e11 e10 e9 e8 e7 e6 e5 e4 e3 e2 e1 e0
        clear h
        simp only [over, Act.put, List.setIfInBounds_toArray, List.set_cons_zero, List.set_cons_succ]
        go_wp2_with fail
        exact postK_normal ⟨_, rfl, rfl, Rc.refl _ _⟩
      refine AllSteps.cons (fun us hus w' x h => ?_) ?_
      · obtain ⟨u0, t0, e0, s0⟩ := len_cons hus; obtain ⟨u1, t1, e1, s1⟩ := len_cons s0; obtain ⟨u2, t2, e2, s2⟩ := len_cons s1; obtain ⟨u3, t3, e3, s3⟩ := len_cons s2; obtain ⟨u4, t4, e4, s4⟩ := len_cons s3; obtain ⟨u5, t5, e5, s5⟩ := len_cons s4; obtain ⟨u6, t6, e6, s6⟩ := len_cons s5; obtain ⟨u7, t7, e7, s7⟩ := len_cons s6; obtain ⟨u8, t8, e8, s8⟩ := len_cons s7; obtain ⟨u9, t9, e9, s9⟩ := len_cons s8; obtain ⟨u10, t10, e10, s10⟩ := len_cons s9; obtain ⟨u11, t11, e11, s11⟩ := len_cons s10; obtain ⟨u12, t12, e12, s12⟩ := len_cons s11; obtain ⟨u13, t13, e13, s13⟩ := len_cons s12; obtain ⟨u14, t14, e14, s14⟩ := len_cons s13; obtain ⟨u15, t15, e15, s15⟩ := len_cons s14; obtain ⟨u16, t16, e16, s16⟩ := len_cons s15; obtain ⟨u17, t17, e17, s17⟩ := len_cons s16; obtain ⟨u18, t18, e18, s18⟩ := len_cons s17; obtain ⟨u19, t19, e19, s19⟩ := len_cons s18; obtain ⟨u20, t20, e20, s20⟩ := len_cons s19; obtain ⟨u21, t21, e21, s21⟩ := len_cons s20; obtain ⟨u22, t22, e22, s22⟩ := len_cons s21; obtain ⟨u23, t23, e23, s23⟩ := len_cons s22; obtain ⟨u24, t24, e24, s24⟩ := len_cons s23; obtain ⟨u25, t25, e25, s25⟩ := len_cons s24; obtain ⟨u26, t26, e26, s26⟩ := len_cons s25; obtain ⟨u27, t27, e27, s27⟩ := len_cons s26; obtain ⟨u28, t28, e28, s28⟩ := len_cons s27; obtain ⟨u29, t29, e29, s29⟩ := len_cons s28; obtain ⟨u30, t30, e30, s30⟩ := len_cons s29; obtain ⟨u31, t31, e31, s31⟩ := len_cons s30; obtain ⟨u32, t32, e32, s32⟩ := len_cons s31; obtain ⟨u33, t33, e33, s33⟩ := len_cons s32; obtain ⟨u34, t34, e34, s34⟩ := len_cons s33; obtain ⟨u35, t35, e35, s35⟩ := len_cons s34; obtain ⟨u36, t36, e36, s36⟩ := len_cons s35; obtain ⟨u37, t37, e37, s37⟩ := len_cons s36
        obtain rfl := len_nil s37
        clear hus s0 s1 s2 s3 s4 s5 s6 s7 s8 s9 s10 s11 s12 s13 s14 s15 s16 s17 s18 s19 s20 s21 s22 s23 s24 s25 s26 s27 s28 s29 s30 s31 s32 s33 s34 s35 s36 s37
        subst e37 e36 e35 e34 e33 e32 e31 e30 e29 e28 e27 e26 e25 e24 e23 e22 e21 e20 e19 e18 e17 e16 e15 e14 e13 e12 e11 e10 e9 e8 e7 e6 e5 e4 e3 e2 e1 e0
        have h5 : u5 = .string a0 := h 5 (by kernel_rfl)
        clear h
        simp only [over, Act.put, List.setIfInBounds_toArray, List.set_cons_zero, List.set_cons_succ]
        subst h5
        have hn0 : n0 ≤ w'.heap.size := by have := x.below.size; omega
        go_wp2_with (refine wpList_toBytes rfl 9 30 _ rfl 5 Tryd.underlying9 Tryd.underlying30 Tryd.underlying5 _ rfl hmax ?_)
        intro v5 w5 o5 x5
        have o5 : Bs w5 v5 a0.data.toList := o5.bs
        go_wp2_with fail
        exact postK_normal ⟨_, rfl, o5, Rc.ext x5 hn0⟩
      refine AllSteps.cons (fun us hus w' x h => ?_) ?_
      · obtain ⟨u0, t0, e0, s0⟩ := len_cons hus; obtain ⟨u1, t1, e1, s1⟩ := len_cons s0; obtain ⟨u2, t2, e2, s2⟩ := len_cons s1; obtain ⟨u3, t3, e3, s3⟩ := len_cons s2; obtain ⟨u4, t4, e4, s4⟩ := len_cons s3; obtain ⟨u5, t5, e5, s5⟩ := len_cons s4; obtain ⟨u6, t6, e6, s6⟩ := len_cons s5; obtain ⟨u7, t7, e7, s7⟩ := len_cons s6; obtain ⟨u8, t8, e8, s8⟩ := len_cons s7; obtain ⟨u9, t9, e9, s9⟩ := len_cons s8; obtain ⟨u10, t10, e10, s10⟩ := len_cons s9; obtain ⟨u11, t11, e11, s11⟩ := len_cons s10; obtain ⟨u12, t12, e12, s12⟩ := len_cons s11; obtain ⟨u13, t13, e13, s13⟩ := len_cons s12; obtain ⟨u14, t14, e14, s14⟩ := len_cons s13; obtain ⟨u15, t15, e15, s15⟩ := len_cons s14; obtain ⟨u16, t16, e16, s16⟩ := len_cons s15; obtain ⟨u17, t17, e17, s17⟩ := len_cons s16; obtain ⟨u18, t18, e18, s18⟩ := len_cons s17; obtain ⟨u19, t19, e19, s19⟩ := len_cons s18; obtain ⟨u20, t20, e20, s20⟩ := len_cons s19; obtain ⟨u21, t21, e21, s21⟩ := len_cons s20; obtain ⟨u22, t22, e22, s22⟩ := len_cons s21; obtain ⟨u23, t23, e23, s23⟩ := len_cons s22; obtain ⟨u24, t24, e24, s24⟩ := len_cons s23; obtain ⟨u25, t25, e25, s25⟩ := len_cons s24; obtain ⟨u26, t26, e26, s26⟩ := len_cons s25; obtain ⟨u27, t27, e27, s27⟩ := len_cons s26; obtain ⟨u28, t28, e28, s28⟩ := len_cons s27; obtain ⟨u29, t29, e29, s29⟩ := len_cons s28; obtain ⟨u30, t30, e30, s30⟩ := len_cons s29; obtain ⟨u31, t31, e31, s31⟩ := len_cons s30; obtain ⟨u32, t32, e32, s32⟩ := len_cons s31; obtain ⟨u33, t33, e33, s33⟩ := len_cons s32; obtain ⟨u34, t34, e34, s34⟩ := len_cons s33; obtain ⟨u35, t35, e35, s35⟩ := len_cons s34; obtain ⟨u36, t36, e36, s36⟩ := len_cons s35; obtain ⟨u37, t37, e37, s37⟩ := len_cons s36
        obtain rfl := len_nil s37
        clear hus s0 s1 s2 s3 s4 s5 s6 s7 s8 s9 s10 s11 s12 s13 s14 s15 s16 s17 s18 s19 s20 s21 s22 s23 s24 s25 s26 s27 s28 s29 s30 s31 s32 s33 s34 s35 s36 s37
        subst e37 e36 e35 e34 e33 e32 e31 e30 e29 e28 e27 e26 e25 e24 e23 e22 e21 e20 e19 e18 e17 e16 e15 e14 e13 e12 e11 e10 e9 e8 e7 e6 e5 e4 e3 e2 e1 e0
        clear h
        simp only [over, Act.put, List.setIfInBounds_toArray, List.set_cons_zero, List.set_cons_succ]
        have hn0 : n0 ≤ w'.heap.size := by have := x.below.size; omega
        go_wp2_with fail
        exact postK_normal ⟨_, rfl, ⟨w'.heap.size, rfl, hn0, bs_fffd w' _⟩, Rc.ext (Ext.alloc _ _) hn0⟩
      refine AllSteps.cons (fun us hus w' x h => ?_) ?_
      · obtain ⟨u0, t0, e0, s0⟩ := len_cons hus; obtain ⟨u1, t1, e1, s1⟩ := len_cons s0; obtain ⟨u2, t2, e2, s2⟩ := len_cons s1; obtain ⟨u3, t3, e3, s3⟩ := len_cons s2; obtain ⟨u4, t4, e4, s4⟩ := len_cons s3; obtain ⟨u5, t5, e5, s5⟩ := len_cons s4; obtain ⟨u6, t6, e6, s6⟩ := len_cons s5; obtain ⟨u7, t7, e7, s7⟩ := len_cons s6; obtain ⟨u8, t8, e8, s8⟩ := len_cons s7; obtain ⟨u9, t9, e9, s9⟩ := len_cons s8; obtain ⟨u10, t10, e10, s10⟩ := len_cons s9; obtain ⟨u11, t11, e11, s11⟩ := len_cons s10; obtain ⟨u12, t12, e12, s12⟩ := len_cons s11; obtain ⟨u13, t13, e13, s13⟩ := len_cons s12; obtain ⟨u14, t14, e14, s14⟩ := len_cons s13; obtain ⟨u15, t15, e15, s15⟩ := len_cons s14; obtain ⟨u16, t16, e16, s16⟩ := len_cons s15; obtain ⟨u17, t17, e17, s17⟩ := len_cons s16; obtain ⟨u18, t18, e18, s18⟩ := len_cons s17; obtain ⟨u19, t19, e19, s19⟩ := len_cons s18; obtain ⟨u20, t20, e20, s20⟩ := len_cons s19; obtain ⟨u21, t21, e21, s21⟩ := len_cons s20; obtain ⟨u22, t22, e22, s22⟩ := len_cons s21; obtain ⟨u23, t23, e23, s23⟩ := len_cons s22; obtain ⟨u24, t24, e24, s24⟩ := len_cons s23; obtain ⟨u25, t25, e25, s25⟩ := len_cons s24; obtain ⟨u26, t26, e26, s26⟩ := len_cons s25; obtain ⟨u27, t27, e27, s27⟩ := len_cons s26; obtain ⟨u28, t28, e28, s28⟩ := len_cons s27; obtain ⟨u29, t29, e29, s29⟩ := len_cons s28; obtain ⟨u30, t30, e30, s30⟩ := len_cons s29; obtain ⟨u31, t31, e31, s31⟩ := len_cons s30; obtain ⟨u32, t32, e32, s32⟩ := len_cons s31; obtain ⟨u33, t33, e33, s33⟩ := len_cons s32; obtain ⟨u34, t34, e34, s34⟩ := len_cons s33; obtain ⟨u35, t35, e35, s35⟩ := len_cons s34; obtain ⟨u36, t36, e36, s36⟩ := len_cons s35; obtain ⟨u37, t37, e37, s37⟩ := len_cons s36
        obtain rfl := len_nil s37
        clear hus s0 s1 s2 s3 s4 s5 s6 s7 s8 s9 s10 s11 s12 s13 s14 s15 s16 s17 s18 s19 s20 s21 s22 s23 s24 s25 s26 s27 s28 s29 s30 s31 s32 s33 s34 s35 s36 s37
        subst e37 e36 e35 e34 e33 e32 e31 e30 e29 e28 e27 e26 e25 e24 e23 e22 e21 e20 e19 e18 e17 e16 e15 e14 e13 e12 e11 e10 e9 e8 e7 e6 e5 e4 e3 e2 e1 e0
        have h7 : ∃ k, u7 = .slice (some ⟨k, 0, none⟩) 3 3 ∧ n0 ≤ k ∧ Bs w' u7 [239, 191, 189] := h 7 (by kernel_rfl)
        clear h
        simp only [over, Act.put, List.setIfInBounds_toArray, List.set_cons_zero, List.set_cons_succ]
        obtain ⟨k, e, hk, hb⟩ := h7
        subst e
        go_wp2_with (refine wpList_mark rfl 30 5 _ rfl Tryd.underlying30 Tryd.underlying5 k 3 3 rfl ?_)
        intro w5 hc
        go_wp2_with fail
        exact postK_normal ⟨_, rfl, hb.rc (hc n0 hk), hc n0 hk⟩
      refine AllSteps.cons (fun us hus w' x h => ?_) ?_
      · obtain ⟨u0, t0, e0, s0⟩ := len_cons hus; obtain ⟨u1, t1, e1, s1⟩ := len_cons s0; obtain ⟨u2, t2, e2, s2⟩ := len_cons s1; obtain ⟨u3, t3, e3, s3⟩ := len_cons s2; obtain ⟨u4, t4, e4, s4⟩ := len_cons s3; obtain ⟨u5, t5, e5, s5⟩ := len_cons s4; obtain ⟨u6, t6, e6, s6⟩ := len_cons s5; obtain ⟨u7, t7, e7, s7⟩ := len_cons s6; obtain ⟨u8, t8, e8, s8⟩ := len_cons s7; obtain ⟨u9, t9, e9, s9⟩ := len_cons s8; obtain ⟨u10, t10, e10, s10⟩ := len_cons s9; obtain ⟨u11, t11, e11, s11⟩ := len_cons s10; obtain ⟨u12, t12, e12, s12⟩ := len_cons s11; obtain ⟨u13, t13, e13, s13⟩ := len_cons s12; obtain ⟨u14, t14, e14, s14⟩ := len_cons s13; obtain ⟨u15, t15, e15, s15⟩ := len_cons s14; obtain ⟨u16, t16, e16, s16⟩ := len_cons s15; obtain ⟨u17, t17, e17, s17⟩ := len_cons s16; obtain ⟨u18, t18, e18, s18⟩ := len_cons s17; obtain ⟨u19, t19, e19, s19⟩ := len_cons s18; obtain ⟨u20, t20, e20, s20⟩ := len_cons s19; obtain ⟨u21, t21, e21, s21⟩ := len_cons s20; obtain ⟨u22, t22, e22, s22⟩ := len_cons s21; obtain ⟨u23, t23, e23, s23⟩ := len_cons s22; obtain ⟨u24, t24, e24, s24⟩ := len_cons s23; obtain ⟨u25, t25, e25, s25⟩ := len_cons s24; obtain ⟨u26, t26, e26, s26⟩ := len_cons s25; obtain ⟨u27, t27, e27, s27⟩ := len_cons s26; obtain ⟨u28, t28, e28, s28⟩ := len_cons s27; obtain ⟨u29, t29, e29, s29⟩ := len_cons s28; obtain ⟨u30, t30, e30, s30⟩ := len_cons s29; obtain ⟨u31, t31, e31, s31⟩ := len_cons s30; obtain ⟨u32, t32, e32, s32⟩ := len_cons s31; obtain ⟨u33, t33, e33, s33⟩ := len_cons s32; obtain ⟨u34, t34, e34, s34⟩ := len_cons s33; obtain ⟨u35, t35, e35, s35⟩ := len_cons s34; obtain ⟨u36, t36, e36, s36⟩ := len_cons s35; obtain ⟨u37, t37, e37, s37⟩ := len_cons s36
        obtain rfl := len_nil s37
        clear hus s0 s1 s2 s3 s4 s5 s6 s7 s8 s9 s10 s11 s12 s13 s14 s15 s16 s17 s18 s19 s20 s21 s22 s23 s24 s25 s26 s27 s28 s29 s30 s31 s32 s33 s34 s35 s36 s37
        subst e37 e36 e35 e34 e33 e32 e31 e30 e29 e28 e27 e26 e25 e24 e23 e22 e21 e20 e19 e18 e17 e16 e15 e14 e13 e12 e11 e10 e9 e8 e7 e6 e5 e4 e3 e2 e1 e0
        have h6 : Bs w' u6 a0.data.toList := h 6 (by kernel_rfl)
        have h8 : Bs w' u8 [239, 191, 189] := h 8 (by kernel_rfl)
        clear h
        simp only [over, Act.put, List.setIfInBounds_toArray, List.set_cons_zero, List.set_cons_succ]
        have hn0 : n0 ≤ w'.heap.size := by have := x.below.size; omega
        have c5 := impl_ToValidUTF8 _ _ _ _ _ h6 h8 (HT.out.rc x) (by show a0.size ≤ _; omega) (by simp) (by rw [HM2.out]; omega)
        rw [HM2.out] at c5
        go_wp2_with (go_at_call 29; refine c5.mono ?_)
        rintro _ w5 ⟨v5, rfl, o5, x5⟩
        go_wp2_with fail
        exact postK_normal ⟨_, rfl, o5.bs, Rc.ext x5 hn0⟩
      refine AllSteps.cons (fun us hus w' x h => ?_) ?_
      · obtain ⟨u0, t0, e0, s0⟩ := len_cons hus; obtain ⟨u1, t1, e1, s1⟩ := len_cons s0; obtain ⟨u2, t2, e2, s2⟩ := len_cons s1; obtain ⟨u3, t3, e3, s3⟩ := len_cons s2; obtain ⟨u4, t4, e4, s4⟩ := len_cons s3; obtain ⟨u5, t5, e5, s5⟩ := len_cons s4; obtain ⟨u6, t6, e6, s6⟩ := len_cons s5; obtain ⟨u7, t7, e7, s7⟩ := len_cons s6; obtain ⟨u8, t8, e8, s8⟩ := len_cons s7; obtain ⟨u9, t9, e9, s9⟩ := len_cons s8; obtain ⟨u10, t10, e10, s10⟩ := len_cons s9; obtain ⟨u11, t11, e11, s11⟩ := len_cons s10; obtain ⟨u12, t12, e12, s12⟩ := len_cons s11; obtain ⟨u13, t13, e13, s13⟩ := len_cons s12; obtain ⟨u14, t14, e14, s14⟩ := len_cons s13; obtain ⟨u15, t15, e15, s15⟩ := len_cons s14; obtain ⟨u16, t16, e16, s16⟩ := len_cons s15; obtain ⟨u17, t17, e17, s17⟩ := len_cons s16; obtain ⟨u18, t18, e18, s18⟩ := len_cons s17; obtain ⟨u19, t19, e19, s19⟩ := len_cons s18; obtain ⟨u20, t20, e20, s20⟩ := len_cons s19; obtain ⟨u21, t21, e21, s21⟩ := len_cons s20; obtain ⟨u22, t22, e22, s22⟩ := len_cons s21; obtain ⟨u23, t23, e23, s23⟩ := len_cons s22; obtain ⟨u24, t24, e24, s24⟩ := len_cons s23; obtain ⟨u25, t25, e25, s25⟩ := len_cons s24; obtain ⟨u26, t26, e26, s26⟩ := len_cons s25; obtain ⟨u27, t27, e27, s27⟩ := len_cons s26; obtain ⟨u28, t28, e28, s28⟩ := len_cons s27; obtain ⟨u29, t29, e29, s29⟩ := len_cons s28; obtain ⟨u30, t30, e30, s30⟩ := len_cons s29; obtain ⟨u31, t31, e31, s31⟩ := len_cons s30; obtain ⟨u32, t32, e32, s32⟩ := len_cons s31; obtain ⟨u33, t33, e33, s33⟩ := len_cons s32; obtain ⟨u34, t34, e34, s34⟩ := len_cons s33; obtain ⟨u35, t35, e35, s35⟩ := len_cons s34; obtain ⟨u36, t36, e36, s36⟩ := len_cons s35; obtain ⟨u37, t37, e37, s37⟩ := len_cons s36
        obtain rfl := len_nil s37
        clear hus s0 s1 s2 s3 s4 s5 s6 s7 s8 s9 s10 s11 s12 s13 s14 s15 s16 s17 s18 s19 s20 s21 s22 s23 s24 s25 s26 s27 s28 s29 s30 s31 s32 s33 s34 s35 s36 s37
        subst e37 e36 e35 e34 e33 e32 e31 e30 e29 e28 e27 e26 e25 e24 e23 e22 e21 e20 e19 e18 e17 e16 e15 e14 e13 e12 e11 e10 e9 e8 e7 e6 e5 e4 e3 e2 e1 e0
        have h9 : Bs w' u9 M2 := h 9 (by kernel_rfl)
        clear h
        simp only [over, Act.put, List.setIfInBounds_toArray, List.set_cons_zero, List.set_cons_succ]
        go_wp2_with (refine wpList_toString rfl 30 9 _ rfl 5 Tryd.underlying30 Tryd.underlying5 Tryd.underlying9 _ _ rfl h9 ?_)
        rw [HS2.out]
        go_wp2_with fail
        exact postK_normal ⟨_, rfl, rfl, Rc.refl _ _⟩
      refine AllSteps.cons (fun us hus w' x h => ?_) ?_
      · obtain ⟨u0, t0, e0, s0⟩ := len_cons hus; obtain ⟨u1, t1, e1, s1⟩ := len_cons s0; obtain ⟨u2, t2, e2, s2⟩ := len_cons s1; obtain ⟨u3, t3, e3, s3⟩ := len_cons s2; obtain ⟨u4, t4, e4, s4⟩ := len_cons s3; obtain ⟨u5, t5, e5, s5⟩ := len_cons s4; obtain ⟨u6, t6, e6, s6⟩ := len_cons s5; obtain ⟨u7, t7, e7, s7⟩ := len_cons s6; obtain ⟨u8, t8, e8, s8⟩ := len_cons s7; obtain ⟨u9, t9, e9, s9⟩ := len_cons s8; obtain ⟨u10, t10, e10, s10⟩ := len_cons s9; obtain ⟨u11, t11, e11, s11⟩ := len_cons s10; obtain ⟨u12, t12, e12, s12⟩ := len_cons s11; obtain ⟨u13, t13, e13, s13⟩ := len_cons s12; obtain ⟨u14, t14, e14, s14⟩ := len_cons s13; obtain ⟨u15, t15, e15, s15⟩ := len_cons s14; obtain ⟨u16, t16, e16, s16⟩ := len_cons s15; obtain ⟨u17, t17, e17, s17⟩ := len_cons s16; obtain ⟨u18, t18, e18, s18⟩ := len_cons s17; obtain ⟨u19, t19, e19, s19⟩ := len_cons s18; obtain ⟨u20, t20, e20, s20⟩ := len_cons s19; obtain ⟨u21, t21, e21, s21⟩ := len_cons s20; obtain ⟨u22, t22, e22, s22⟩ := len_cons s21; obtain ⟨u23, t23, e23, s23⟩ := len_cons s22; obtain ⟨u24, t24, e24, s24⟩ := len_cons s23; obtain ⟨u25, t25, e25, s25⟩ := len_cons s24; obtain ⟨u26, t26, e26, s26⟩ := len_cons s25; obtain ⟨u27, t27, e27, s27⟩ := len_cons s26; obtain ⟨u28, t28, e28, s28⟩ := len_cons s27; obtain ⟨u29, t29, e29, s29⟩ := len_cons s28; obtain ⟨u30, t30, e30, s30⟩ := len_cons s29; obtain ⟨u31, t31, e31, s31⟩ := len_cons s30; obtain ⟨u32, t32, e32, s32⟩ := len_cons s31; obtain ⟨u33, t33, e33, s33⟩ := len_cons s32; obtain ⟨u34, t34, e34, s34⟩ := len_cons s33; obtain ⟨u35, t35, e35, s35⟩ := len_cons s34; obtain ⟨u36, t36, e36, s36⟩ := len_cons s35; obtain ⟨u37, t37, e37, s37⟩ := len_cons s36
        obtain rfl := len_nil s37
        clear hus s0 s1 s2 s3 s4 s5 s6 s7 s8 s9 s10 s11 s12 s13 s14 s15 s16 s17 s18 s19 s20 s21 s22 s23 s24 s25 s26 s27 s28 s29 s30 s31 s32 s33 s34 s35 s36 s37
        subst e37 e36 e35 e34 e33 e32 e31 e30 e29 e28 e27 e26 e25 e24 e23 e22 e21 e20 e19 e18 e17 e16 e15 e14 e13 e12 e11 e10 e9 e8 e7 e6 e5 e4 e3 e2 e1 e0
        have h10 : u10 = .string s2' := h 10 (by kernel_rfl)
        clear h
        simp only [over, Act.put, List.setIfInBounds_toArray, List.set_cons_zero, List.set_cons_succ]
        subst h10
        have hn0 : n0 ≤ w'.heap.size := by have := x.below.size; omega
        go_wp2_with (refine wpList_toBytes rfl 9 30 _ rfl 5 Tryd.underlying9 Tryd.underlying30 Tryd.underlying5 _ rfl hm2 ?_)
        intro v5 w5 o5 x5
        have o5 : Bs w5 v5 M2 := HSD2.out ▸ o5.bs
        go_wp2_with fail
        exact postK_normal ⟨_, rfl, o5, Rc.ext x5 hn0⟩
      refine AllSteps.cons (fun us hus w' x h => ?_) ?_
      · obtain ⟨u0, t0, e0, s0⟩ := len_cons hus; obtain ⟨u1, t1, e1, s1⟩ := len_cons s0; obtain ⟨u2, t2, e2, s2⟩ := len_cons s1; obtain ⟨u3, t3, e3, s3⟩ := len_cons s2; obtain ⟨u4, t4, e4, s4⟩ := len_cons s3; obtain ⟨u5, t5, e5, s5⟩ := len_cons s4; obtain ⟨u6, t6, e6, s6⟩ := len_cons s5; obtain ⟨u7, t7, e7, s7⟩ := len_cons s6; obtain ⟨u8, t8, e8, s8⟩ := len_cons s7; obtain ⟨u9, t9, e9, s9⟩ := len_cons s8; obtain ⟨u10, t10, e10, s10⟩ := len_cons s9; obtain ⟨u11, t11, e11, s11⟩ := len_cons s10; obtain ⟨u12, t12, e12, s12⟩ := len_cons s11; obtain ⟨u13, t13, e13, s13⟩ := len_cons s12; obtain ⟨u14, t14, e14, s14⟩ := len_cons s13; obtain ⟨u15, t15, e15, s15⟩ := len_cons s14; obtain ⟨u16, t16, e16, s16⟩ := len_cons s15; obtain ⟨u17, t17, e17, s17⟩ := len_cons s16; obtain ⟨u18, t18, e18, s18⟩ := len_cons s17; obtain ⟨u19, t19, e19, s19⟩ := len_cons s18; obtain ⟨u20, t20, e20, s20⟩ := len_cons s19; obtain ⟨u21, t21, e21, s21⟩ := len_cons s20; obtain ⟨u22, t22, e22, s22⟩ := len_cons s21; obtain ⟨u23, t23, e23, s23⟩ := len_cons s22; obtain ⟨u24, t24, e24, s24⟩ := len_cons s23; obtain ⟨u25, t25, e25, s25⟩ := len_cons s24; obtain ⟨u26, t26, e26, s26⟩ := len_cons s25; obtain ⟨u27, t27, e27, s27⟩ := len_cons s26; obtain ⟨u28, t28, e28, s28⟩ := len_cons s27; obtain ⟨u29, t29, e29, s29⟩ := len_cons s28; obtain ⟨u30, t30, e30, s30⟩ := len_cons s29; obtain ⟨u31, t31, e31, s31⟩ := len_cons s30; obtain ⟨u32, t32, e32, s32⟩ := len_cons s31; obtain ⟨u33, t33, e33, s33⟩ := len_cons s32; obtain ⟨u34, t34, e34, s34⟩ := len_cons s33; obtain ⟨u35, t35, e35, s35⟩ := len_cons s34; obtain ⟨u36, t36, e36, s36⟩ := len_cons s35; obtain ⟨u37, t37, e37, s37⟩ := len_cons s36
        obtain rfl := len_nil s37
        clear hus s0 s1 s2 s3 s4 s5 s6 s7 s8 s9 s10 s11 s12 s13 s14 s15 s16 s17 s18 s19 s20 s21 s22 s23 s24 s25 s26 s27 s28 s29 s30 s31 s32 s33 s34 s35 s36 s37
        subst e37 e36 e35 e34 e33 e32 e31 e30 e29 e28 e27 e26 e25 e24 e23 e22 e21 e20 e19 e18 e17 e16 e15 e14 e13 e12 e11 e10 e9 e8 e7 e6 e5 e4 e3 e2 e1 e0
        clear h
        simp only [over, Act.put, List.setIfInBounds_toArray, List.set_cons_zero, List.set_cons_succ]
        have f0 := x.cell _ _ HF0.out
        go_wp2_with fail
        exact postK_normal ⟨_, rfl, rfl, Rc.refl _ _⟩
      refine AllSteps.cons (fun us hus w' x h => ?_) ?_
      · obtain ⟨u0, t0, e0, s0⟩ := len_cons hus; obtain ⟨u1, t1, e1, s1⟩ := len_cons s0; obtain ⟨u2, t2, e2, s2⟩ := len_cons s1; obtain ⟨u3, t3, e3, s3⟩ := len_cons s2; obtain ⟨u4, t4, e4, s4⟩ := len_cons s3; obtain ⟨u5, t5, e5, s5⟩ := len_cons s4; obtain ⟨u6, t6, e6, s6⟩ := len_cons s5; obtain ⟨u7, t7, e7, s7⟩ := len_cons s6; obtain ⟨u8, t8, e8, s8⟩ := len_cons s7; obtain ⟨u9, t9, e9, s9⟩ := len_cons s8; obtain ⟨u10, t10, e10, s10⟩ := len_cons s9; obtain ⟨u11, t11, e11, s11⟩ := len_cons s10; obtain ⟨u12, t12, e12, s12⟩ := len_cons s11; obtain ⟨u13, t13, e13, s13⟩ := len_cons s12; obtain ⟨u14, t14, e14, s14⟩ := len_cons s13; obtain ⟨u15, t15, e15, s15⟩ := len_cons s14; obtain ⟨u16, t16, e16, s16⟩ := len_cons s15; obtain ⟨u17, t17, e17, s17⟩ := len_cons s16; obtain ⟨u18, t18, e18, s18⟩ := len_cons s17; obtain ⟨u19, t19, e19, s19⟩ := len_cons s18; obtain ⟨u20, t20, e20, s20⟩ := len_cons s19; obtain ⟨u21, t21, e21, s21⟩ := len_cons s20; obtain ⟨u22, t22, e22, s22⟩ := len_cons s21; obtain ⟨u23, t23, e23, s23⟩ := len_cons s22; obtain ⟨u24, t24, e24, s24⟩ := len_cons s23; obtain ⟨u25, t25, e25, s25⟩ := len_cons s24; obtain ⟨u26, t26, e26, s26⟩ := len_cons s25; obtain ⟨u27, t27, e27, s27⟩ := len_cons s26; obtain ⟨u28, t28, e28, s28⟩ := len_cons s27; obtain ⟨u29, t29, e29, s29⟩ := len_cons s28; obtain ⟨u30, t30, e30, s30⟩ := len_cons s29; obtain ⟨u31, t31, e31, s31⟩ := len_cons s30; obtain ⟨u32, t32, e32, s32⟩ := len_cons s31; obtain ⟨u33, t33, e33, s33⟩ := len_cons s32; obtain ⟨u34, t34, e34, s34⟩ := len_cons s33; obtain ⟨u35, t35, e35, s35⟩ := len_cons s34; obtain ⟨u36, t36, e36, s36⟩ := len_cons s35; obtain ⟨u37, t37, e37, s37⟩ := len_cons s36
        obtain rfl := len_nil s37
        clear hus s0 s1 s2 s3 s4 s5 s6 s7 s8 s9 s10 s11 s12 s13 s14 s15 s16 s17 s18 s19 s20 s21 s22 s23 s24 s25 s26 s27 s28 s29 s30 s31 s32 s33 s34 s35 s36 s37
        subst e37 e36 e35 e34 e33 e32 e31 e30 e29 e28 e27 e26 e25 e24 e23 e22 e21 e20 e19 e18 e17 e16 e15 e14 e13 e12 e11 e10 e9 e8 e7 e6 e5 e4 e3 e2 e1 e0
        have h11 : Bs w' u11 M2 := h 11 (by kernel_rfl)
        have h12 : u12 = .agg #[.slice ta rows.length tc] := h 12 (by kernel_rfl)
        clear h
        simp only [over, Act.put, List.setIfInBounds_toArray, List.set_cons_zero, List.set_cons_succ]
        subst h12
        have hn0 : n0 ≤ w'.heap.size := by have := x.below.size; omega
        have c5 := impl_Map _ _ rows _ _ (HTS.out.rc x) h11 (HT.out.rc x) (by omega) HLE.out
        rw [HFF.out, HTE2.out] at c5
        go_wp2_with (go_at_call 36; refine c5.mono ?_)
        rintro _ w5 ⟨v5, rfl, o5, x5⟩
        go_wp2_with fail
        exact postK_normal ⟨_, rfl, o5.bs, Rc.ext x5 hn0⟩
      refine AllSteps.cons (fun us hus w' x h => ?_) ?_
      · obtain ⟨u0, t0, e0, s0⟩ := len_cons hus; obtain ⟨u1, t1, e1, s1⟩ := len_cons s0; obtain ⟨u2, t2, e2, s2⟩ := len_cons s1; obtain ⟨u3, t3, e3, s3⟩ := len_cons s2; obtain ⟨u4, t4, e4, s4⟩ := len_cons s3; obtain ⟨u5, t5, e5, s5⟩ := len_cons s4; obtain ⟨u6, t6, e6, s6⟩ := len_cons s5; obtain ⟨u7, t7, e7, s7⟩ := len_cons s6; obtain ⟨u8, t8, e8, s8⟩ := len_cons s7; obtain ⟨u9, t9, e9, s9⟩ := len_cons s8; obtain ⟨u10, t10, e10, s10⟩ := len_cons s9; obtain ⟨u11, t11, e11, s11⟩ := len_cons s10; obtain ⟨u12, t12, e12, s12⟩ := len_cons s11; obtain ⟨u13, t13, e13, s13⟩ := len_cons s12; obtain ⟨u14, t14, e14, s14⟩ := len_cons s13; obtain ⟨u15, t15, e15, s15⟩ := len_cons s14; obtain ⟨u16, t16, e16, s16⟩ := len_cons s15; obtain ⟨u17, t17, e17, s17⟩ := len_cons s16; obtain ⟨u18, t18, e18, s18⟩ := len_cons s17; obtain ⟨u19, t19, e19, s19⟩ := len_cons s18; obtain ⟨u20, t20, e20, s20⟩ := len_cons s19; obtain ⟨u21, t21, e21, s21⟩ := len_cons s20; obtain ⟨u22, t22, e22, s22⟩ := len_cons s21; obtain ⟨u23, t23, e23, s23⟩ := len_cons s22; obtain ⟨u24, t24, e24, s24⟩ := len_cons s23; obtain ⟨u25, t25, e25, s25⟩ := len_cons s24; obtain ⟨u26, t26, e26, s26⟩ := len_cons s25; obtain ⟨u27, t27, e27, s27⟩ := len_cons s26; obtain ⟨u28, t28, e28, s28⟩ := len_cons s27; obtain ⟨u29, t29, e29, s29⟩ := len_cons s28; obtain ⟨u30, t30, e30, s30⟩ := len_cons s29; obtain ⟨u31, t31, e31, s31⟩ := len_cons s30; obtain ⟨u32, t32, e32, s32⟩ := len_cons s31; obtain ⟨u33, t33, e33, s33⟩ := len_cons s32; obtain ⟨u34, t34, e34, s34⟩ := len_cons s33; obtain ⟨u35, t35, e35, s35⟩ := len_cons s34; obtain ⟨u36, t36, e36, s36⟩ := len_cons s35; obtain ⟨u37, t37, e37, s37⟩ := len_cons s36
        obtain rfl := len_nil s37
        clear hus s0 s1 s2 s3 s4 s5 s6 s7 s8 s9 s10 s11 s12 s13 s14 s15 s16 s17 s18 s19 s20 s21 s22 s23 s24 s25 s26 s27 s28 s29 s30 s31 s32 s33 s34 s35 s36 s37
        subst e37 e36 e35 e34 e33 e32 e31 e30 e29 e28 e27 e26 e25 e24 e23 e22 e21 e20 e19 e18 e17 e16 e15 e14 e13 e12 e11 e10 e9 e8 e7 e6 e5 e4 e3 e2 e1 e0
        have h13 : Bs w' u13 T := h 13 (by kernel_rfl)
        clear h
        simp only [over, Act.put, List.setIfInBounds_toArray, List.set_cons_zero, List.set_cons_succ]
        go_wp2_with (refine wpList_toString rfl 30 9 _ rfl 5 Tryd.underlying30 Tryd.underlying5 Tryd.underlying9 _ _ rfl h13 ?_)
        rw [HST.out]
        go_wp2_with fail
        exact postK_normal ⟨_, rfl, rfl, Rc.refl _ _⟩
      refine AllSteps.cons (fun us hus w' x h => ?_) ?_
      · obtain ⟨u0, t0, e0, s0⟩ := len_cons hus; obtain ⟨u1, t1, e1, s1⟩ := len_cons s0; obtain ⟨u2, t2, e2, s2⟩ := len_cons s1; obtain ⟨u3, t3, e3, s3⟩ := len_cons s2; obtain ⟨u4, t4, e4, s4⟩ := len_cons s3; obtain ⟨u5, t5, e5, s5⟩ := len_cons s4; obtain ⟨u6, t6, e6, s6⟩ := len_cons s5; obtain ⟨u7, t7, e7, s7⟩ := len_cons s6; obtain ⟨u8, t8, e8, s8⟩ := len_cons s7; obtain ⟨u9, t9, e9, s9⟩ := len_cons s8; obtain ⟨u10, t10, e10, s10⟩ := len_cons s9; obtain ⟨u11, t11, e11, s11⟩ := len_cons s10; obtain ⟨u12, t12, e12, s12⟩ := len_cons s11; obtain ⟨u13, t13, e13, s13⟩ := len_cons s12; obtain ⟨u14, t14, e14, s14⟩ := len_cons s13; obtain ⟨u15, t15, e15, s15⟩ := len_cons s14; obtain ⟨u16, t16, e16, s16⟩ := len_cons s15; obtain ⟨u17, t17, e17, s17⟩ := len_cons s16; obtain ⟨u18, t18, e18, s18⟩ := len_cons s17; obtain ⟨u19, t19, e19, s19⟩ := len_cons s18; obtain ⟨u20, t20, e20, s20⟩ := len_cons s19; obtain ⟨u21, t21, e21, s21⟩ := len_cons s20; obtain ⟨u22, t22, e22, s22⟩ := len_cons s21; obtain ⟨u23, t23, e23, s23⟩ := len_cons s22; obtain ⟨u24, t24, e24, s24⟩ := len_cons s23; obtain ⟨u25, t25, e25, s25⟩ := len_cons s24; obtain ⟨u26, t26, e26, s26⟩ := len_cons s25; obtain ⟨u27, t27, e27, s27⟩ := len_cons s26; obtain ⟨u28, t28, e28, s28⟩ := len_cons s27; obtain ⟨u29, t29, e29, s29⟩ := len_cons s28; obtain ⟨u30, t30, e30, s30⟩ := len_cons s29; obtain ⟨u31, t31, e31, s31⟩ := len_cons s30; obtain ⟨u32, t32, e32, s32⟩ := len_cons s31; obtain ⟨u33, t33, e33, s33⟩ := len_cons s32; obtain ⟨u34, t34, e34, s34⟩ := len_cons s33; obtain ⟨u35, t35, e35, s35⟩ := len_cons s34; obtain ⟨u36, t36, e36, s36⟩ := len_cons s35; obtain ⟨u37, t37, e37, s37⟩ := len_cons s36
        obtain rfl := len_nil s37
        clear hus s0 s1 s2 s3 s4 s5 s6 s7 s8 s9 s10 s11 s12 s13 s14 s15 s16 s17 s18 s19 s20 s21 s22 s23 s24 s25 s26 s27 s28 s29 s30 s31 s32 s33 s34 s35 s36 s37
        subst e37 e36 e35 e34 e33 e32 e31 e30 e29 e28 e27 e26 e25 e24 e23 e22 e21 e20 e19 e18 e17 e16 e15 e14 e13 e12 e11 e10 e9 e8 e7 e6 e5 e4 e3 e2 e1 e0
        have h4 : u4 = .string sT := h 4 (by kernel_rfl)
        have h14 : u14 = .string sT := h 14 (by kernel_rfl)
        clear h
        simp only [over, Act.put, List.setIfInBounds_toArray, List.set_cons_zero, List.set_cons_succ]
        subst h4 h14
        go_wp2_with fail
        exact postK_normal ⟨_, rfl, by simp, Rc.refl _ _⟩
      refine AllSteps.cons (fun us hus w' x h => ?_) ?_
      · obtain ⟨u0, t0, e0, s0⟩ := len_cons hus; obtain ⟨u1, t1, e1, s1⟩ := len_cons s0; obtain ⟨u2, t2, e2, s2⟩ := len_cons s1; obtain ⟨u3, t3, e3, s3⟩ := len_cons s2; obtain ⟨u4, t4, e4, s4⟩ := len_cons s3; obtain ⟨u5, t5, e5, s5⟩ := len_cons s4; obtain ⟨u6, t6, e6, s6⟩ := len_cons s5; obtain ⟨u7, t7, e7, s7⟩ := len_cons s6; obtain ⟨u8, t8, e8, s8⟩ := len_cons s7; obtain ⟨u9, t9, e9, s9⟩ := len_cons s8; obtain ⟨u10, t10, e10, s10⟩ := len_cons s9; obtain ⟨u11, t11, e11, s11⟩ := len_cons s10; obtain ⟨u12, t12, e12, s12⟩ := len_cons s11; obtain ⟨u13, t13, e13, s13⟩ := len_cons s12; obtain ⟨u14, t14, e14, s14⟩ := len_cons s13; obtain ⟨u15, t15, e15, s15⟩ := len_cons s14; obtain ⟨u16, t16, e16, s16⟩ := len_cons s15; obtain ⟨u17, t17, e17, s17⟩ := len_cons s16; obtain ⟨u18, t18, e18, s18⟩ := len_cons s17; obtain ⟨u19, t19, e19, s19⟩ := len_cons s18; obtain ⟨u20, t20, e20, s20⟩ := len_cons s19; obtain ⟨u21, t21, e21, s21⟩ := len_cons s20; obtain ⟨u22, t22, e22, s22⟩ := len_cons s21; obtain ⟨u23, t23, e23, s23⟩ := len_cons s22; obtain ⟨u24, t24, e24, s24⟩ := len_cons s23; obtain ⟨u25, t25, e25, s25⟩ := len_cons s24; obtain ⟨u26, t26, e26, s26⟩ := len_cons s25; obtain ⟨u27, t27, e27, s27⟩ := len_cons s26; obtain ⟨u28, t28, e28, s28⟩ := len_cons s27; obtain ⟨u29, t29, e29, s29⟩ := len_cons s28; obtain ⟨u30, t30, e30, s30⟩ := len_cons s29; obtain ⟨u31, t31, e31, s31⟩ := len_cons s30; obtain ⟨u32, t32, e32, s32⟩ := len_cons s31; obtain ⟨u33, t33, e33, s33⟩ := len_cons s32; obtain ⟨u34, t34, e34, s34⟩ := len_cons s33; obtain ⟨u35, t35, e35, s35⟩ := len_cons s34; obtain ⟨u36, t36, e36, s36⟩ := len_cons s35; obtain ⟨u37, t37, e37, s37⟩ := len_cons s36
        obtain rfl := len_nil s37
        clear hus s0 s1 s2 s3 s4 s5 s6 s7 s8 s9 s10 s11 s12 s13 s14 s15 s16 s17 s18 s19 s20 s21 s22 s23 s24 s25 s26 s27 s28 s29 s30 s31 s32 s33 s34 s35 s36 s37
        subst e37 e36 e35 e34 e33 e32 e31 e30 e29 e28 e27 e26 e25 e24 e23 e22 e21 e20 e19 e18 e17 e16 e15 e14 e13 e12 e11 e10 e9 e8 e7 e6 e5 e4 e3 e2 e1 e0
        have h15 : u15 = .bool true := h 15 (by kernel_rfl)
        clear h
        simp only [over, Act.put, List.setIfInBounds_toArray, List.set_cons_zero, List.set_cons_succ]
        subst h15
        go_wp2_with fail
        exact postK_normal ⟨_, rfl, rfl, Rc.refl _ _⟩
      refine AllSteps.cons (fun us hus w' x h => ?_) ?_
      · obtain ⟨u0, t0, e0, s0⟩ := len_cons hus; obtain ⟨u1, t1, e1, s1⟩ := len_cons s0; obtain ⟨u2, t2, e2, s2⟩ := len_cons s1; obtain ⟨u3, t3, e3, s3⟩ := len_cons s2; obtain ⟨u4, t4, e4, s4⟩ := len_cons s3; obtain ⟨u5, t5, e5, s5⟩ := len_cons s4; obtain ⟨u6, t6, e6, s6⟩ := len_cons s5; obtain ⟨u7, t7, e7, s7⟩ := len_cons s6; obtain ⟨u8, t8, e8, s8⟩ := len_cons s7; obtain ⟨u9, t9, e9, s9⟩ := len_cons s8; obtain ⟨u10, t10, e10, s10⟩ := len_cons s9; obtain ⟨u11, t11, e11, s11⟩ := len_cons s10; obtain ⟨u12, t12, e12, s12⟩ := len_cons s11; obtain ⟨u13, t13, e13, s13⟩ := len_cons s12; obtain ⟨u14, t14, e14, s14⟩ := len_cons s13; obtain ⟨u15, t15, e15, s15⟩ := len_cons s14; obtain ⟨u16, t16, e16, s16⟩ := len_cons s15; obtain ⟨u17, t17, e17, s17⟩ := len_cons s16; obtain ⟨u18, t18, e18, s18⟩ := len_cons s17; obtain ⟨u19, t19, e19, s19⟩ := len_cons s18; obtain ⟨u20, t20, e20, s20⟩ := len_cons s19; obtain ⟨u21, t21, e21, s21⟩ := len_cons s20; obtain ⟨u22, t22, e22, s22⟩ := len_cons s21; obtain ⟨u23, t23, e23, s23⟩ := len_cons s22; obtain ⟨u24, t24, e24, s24⟩ := len_cons s23; obtain ⟨u25, t25, e25, s25⟩ := len_cons s24; obtain ⟨u26, t26, e26, s26⟩ := len_cons s25; obtain ⟨u27, t27, e27, s27⟩ := len_cons s26; obtain ⟨u28, t28, e28, s28⟩ := len_cons s27; obtain ⟨u29, t29, e29, s29⟩ := len_cons s28; obtain ⟨u30, t30, e30, s30⟩ := len_cons s29; obtain ⟨u31, t31, e31, s31⟩ := len_cons s30; obtain ⟨u32, t32, e32, s32⟩ := len_cons s31; obtain ⟨u33, t33, e33, s33⟩ := len_cons s32; obtain ⟨u34, t34, e34, s34⟩ := len_cons s33; obtain ⟨u35, t35, e35, s35⟩ := len_cons s34; obtain ⟨u36, t36, e36, s36⟩ := len_cons s35; obtain ⟨u37, t37, e37, s37⟩ := len_cons s36
        obtain rfl := len_nil s37
        clear hus s0 s1 s2 s3 s4 s5 s6 s7 s8 s9 s10 s11 s12 s13 s14 s15 s16 s17 s18 s19 s20 s21 s22 s23 s24 s25 s26 s27 s28 s29 s30 s31 s32 s33 s34 s35 s36 s37
        subst e37 e36 e35 e34 e33 e32 e31 e30 e29 e28 e27 e26 e25 e24 e23 e22 e21 e20 e19 e18 e17 e16 e15 e14 e13 e12 e11 e10 e9 e8 e7 e6 e5 e4 e3 e2 e1 e0
        have h16 : u16 = .bool true := h 16 (by kernel_rfl)
        clear h
        simp only [over, Act.put, List.setIfInBounds_toArray, List.set_cons_zero, List.set_cons_succ]
        subst h16
        go_wp2_with fail
        exact postK_normal ⟨_, rfl, rfl, Rc.refl _ _⟩
      refine AllSteps.cons (fun us hus w' x h => ?_) ?_
      · obtain ⟨u0, t0, e0, s0⟩ := len_cons hus; obtain ⟨u1, t1, e1, s1⟩ := len_cons s0; obtain ⟨u2, t2, e2, s2⟩ := len_cons s1; obtain ⟨u3, t3, e3, s3⟩ := len_cons s2; obtain ⟨u4, t4, e4, s4⟩ := len_cons s3; obtain ⟨u5, t5, e5, s5⟩ := len_cons s4; obtain ⟨u6, t6, e6, s6⟩ := len_cons s5; obtain ⟨u7, t7, e7, s7⟩ := len_cons s6; obtain ⟨u8, t8, e8, s8⟩ := len_cons s7; obtain ⟨u9, t9, e9, s9⟩ := len_cons s8; obtain ⟨u10, t10, e10, s10⟩ := len_cons s9; obtain ⟨u11, t11, e11, s11⟩ := len_cons s10; obtain ⟨u12, t12, e12, s12⟩ := len_cons s11; obtain ⟨u13, t13, e13, s13⟩ := len_cons s12; obtain ⟨u14, t14, e14, s14⟩ := len_cons s13; obtain ⟨u15, t15, e15, s15⟩ := len_cons s14; obtain ⟨u16, t16, e16, s16⟩ := len_cons s15; obtain ⟨u17, t17, e17, s17⟩ := len_cons s16; obtain ⟨u18, t18, e18, s18⟩ := len_cons s17; obtain ⟨u19, t19, e19, s19⟩ := len_cons s18; obtain ⟨u20, t20, e20, s20⟩ := len_cons s19; obtain ⟨u21, t21, e21, s21⟩ := len_cons s20; obtain ⟨u22, t22, e22, s22⟩ := len_cons s21; obtain ⟨u23, t23, e23, s23⟩ := len_cons s22; obtain ⟨u24, t24, e24, s24⟩ := len_cons s23; obtain ⟨u25, t25, e25, s25⟩ := len_cons s24; obtain ⟨u26, t26, e26, s26⟩ := len_cons s25; obtain ⟨u27, t27, e27, s27⟩ := len_cons s26; obtain ⟨u28, t28, e28, s28⟩ := len_cons s27; obtain ⟨u29, t29, e29, s29⟩ := len_cons s28; obtain ⟨u30, t30, e30, s30⟩ := len_cons s29; obtain ⟨u31, t31, e31, s31⟩ := len_cons s30; obtain ⟨u32, t32, e32, s32⟩ := len_cons s31; obtain ⟨u33, t33, e33, s33⟩ := len_cons s32; obtain ⟨u34, t34, e34, s34⟩ := len_cons s33; obtain ⟨u35, t35, e35, s35⟩ := len_cons s34; obtain ⟨u36, t36, e36, s36⟩ := len_cons s35; obtain ⟨u37, t37, e37, s37⟩ := len_cons s36
        obtain rfl := len_nil s37
        clear hus s0 s1 s2 s3 s4 s5 s6 s7 s8 s9 s10 s11 s12 s13 s14 s15 s16 s17 s18 s19 s20 s21 s22 s23 s24 s25 s26 s27 s28 s29 s30 s31 s32 s33 s34 s35 s36 s37
        subst e37 e36 e35 e34 e33 e32 e31 e30 e29 e28 e27 e26 e25 e24 e23 e22 e21 e20 e19 e18 e17 e16 e15 e14 e13 e12 e11 e10 e9 e8 e7 e6 e5 e4 e3 e2 e1 e0
        have h17 : u17 = .string a0 := h 17 (by kernel_rfl)
        have h16 : u16 = .bool true := h 16 (by kernel_rfl)
        clear h
        simp only [over, Act.put, List.setIfInBounds_toArray, List.set_cons_zero, List.set_cons_succ]
        subst h17
        subst h16
        have hn0 : n0 ≤ w'.heap.size := by have := x.below.size; omega
        go_wp2_with (refine wpList_toBytes rfl 9 30 _ rfl 5 Tryd.underlying9 Tryd.underlying30 Tryd.underlying5 _ rfl hmax ?_)
        intro v5 w5 o5 x5
        have o5 : Bs w5 v5 a0.data.toList := o5.bs
        go_wp2_with fail
        exact postK_normal ⟨_, rfl, o5, Rc.ext x5 hn0⟩
      refine AllSteps.cons (fun us hus w' x h => ?_) ?_
      · obtain ⟨u0, t0, e0, s0⟩ := len_cons hus; obtain ⟨u1, t1, e1, s1⟩ := len_cons s0; obtain ⟨u2, t2, e2, s2⟩ := len_cons s1; obtain ⟨u3, t3, e3, s3⟩ := len_cons s2; obtain ⟨u4, t4, e4, s4⟩ := len_cons s3; obtain ⟨u5, t5, e5, s5⟩ := len_cons s4; obtain ⟨u6, t6, e6, s6⟩ := len_cons s5; obtain ⟨u7, t7, e7, s7⟩ := len_cons s6; obtain ⟨u8, t8, e8, s8⟩ := len_cons s7; obtain ⟨u9, t9, e9, s9⟩ := len_cons s8; obtain ⟨u10, t10, e10, s10⟩ := len_cons s9; obtain ⟨u11, t11, e11, s11⟩ := len_cons s10; obtain ⟨u12, t12, e12, s12⟩ := len_cons s11; obtain ⟨u13, t13, e13, s13⟩ := len_cons s12; obtain ⟨u14, t14, e14, s14⟩ := len_cons s13; obtain ⟨u15, t15, e15, s15⟩ := len_cons s14; obtain ⟨u16, t16, e16, s16⟩ := len_cons s15; obtain ⟨u17, t17, e17, s17⟩ := len_cons s16; obtain ⟨u18, t18, e18, s18⟩ := len_cons s17; obtain ⟨u19, t19, e19, s19⟩ := len_cons s18; obtain ⟨u20, t20, e20, s20⟩ := len_cons s19; obtain ⟨u21, t21, e21, s21⟩ := len_cons s20; obtain ⟨u22, t22, e22, s22⟩ := len_cons s21; obtain ⟨u23, t23, e23, s23⟩ := len_cons s22; obtain ⟨u24, t24, e24, s24⟩ := len_cons s23; obtain ⟨u25, t25, e25, s25⟩ := len_cons s24; obtain ⟨u26, t26, e26, s26⟩ := len_cons s25; obtain ⟨u27, t27, e27, s27⟩ := len_cons s26; obtain ⟨u28, t28, e28, s28⟩ := len_cons s27; obtain ⟨u29, t29, e29, s29⟩ := len_cons s28; obtain ⟨u30, t30, e30, s30⟩ := len_cons s29; obtain ⟨u31, t31, e31, s31⟩ := len_cons s30; obtain ⟨u32, t32, e32, s32⟩ := len_cons s31; obtain ⟨u33, t33, e33, s33⟩ := len_cons s32; obtain ⟨u34, t34, e34, s34⟩ := len_cons s33; obtain ⟨u35, t35, e35, s35⟩ := len_cons s34; obtain ⟨u36, t36, e36, s36⟩ := len_cons s35; obtain ⟨u37, t37, e37, s37⟩ := len_cons s36
        obtain rfl := len_nil s37
        clear hus s0 s1 s2 s3 s4 s5 s6 s7 s8 s9 s10 s11 s12 s13 s14 s15 s16 s17 s18 s19 s20 s21 s22 s23 s24 s25 s26 s27 s28 s29 s30 s31 s32 s33 s34 s35 s36 s37
        subst e37 e36 e35 e34 e33 e32 e31 e30 e29 e28 e27 e26 e25 e24 e23 e22 e21 e20 e19 e18 e17 e16 e15 e14 e13 e12 e11 e10 e9 e8 e7 e6 e5 e4 e3 e2 e1 e0
        have h16 : u16 = .bool true := h 16 (by kernel_rfl)
        clear h
        simp only [over, Act.put, List.setIfInBounds_toArray, List.set_cons_zero, List.set_cons_succ]
        subst h16
        have hn0 : n0 ≤ w'.heap.size := by have := x.below.size; omega
        go_wp2_with fail
        exact postK_normal ⟨_, rfl, ⟨w'.heap.size, rfl, hn0, Bs.empty0 w' _⟩, Rc.ext (Ext.alloc _ _) hn0⟩
      refine AllSteps.cons (fun us hus w' x h => ?_) ?_
      · obtain ⟨u0, t0, e0, s0⟩ := len_cons hus; obtain ⟨u1, t1, e1, s1⟩ := len_cons s0; obtain ⟨u2, t2, e2, s2⟩ := len_cons s1; obtain ⟨u3, t3, e3, s3⟩ := len_cons s2; obtain ⟨u4, t4, e4, s4⟩ := len_cons s3; obtain ⟨u5, t5, e5, s5⟩ := len_cons s4; obtain ⟨u6, t6, e6, s6⟩ := len_cons s5; obtain ⟨u7, t7, e7, s7⟩ := len_cons s6; obtain ⟨u8, t8, e8, s8⟩ := len_cons s7; obtain ⟨u9, t9, e9, s9⟩ := len_cons s8; obtain ⟨u10, t10, e10, s10⟩ := len_cons s9; obtain ⟨u11, t11, e11, s11⟩ := len_cons s10; obtain ⟨u12, t12, e12, s12⟩ := len_cons s11; obtain ⟨u13, t13, e13, s13⟩ := len_cons s12; obtain ⟨u14, t14, e14, s14⟩ := len_cons s13; obtain ⟨u15, t15, e15, s15⟩ := len_cons s14; obtain ⟨u16, t16, e16, s16⟩ := len_cons s15; obtain ⟨u17, t17, e17, s17⟩ := len_cons s16; obtain ⟨u18, t18, e18, s18⟩ := len_cons s17; obtain ⟨u19, t19, e19, s19⟩ := len_cons s18; obtain ⟨u20, t20, e20, s20⟩ := len_cons s19; obtain ⟨u21, t21, e21, s21⟩ := len_cons s20; obtain ⟨u22, t22, e22, s22⟩ := len_cons s21; obtain ⟨u23, t23, e23, s23⟩ := len_cons s22; obtain ⟨u24, t24, e24, s24⟩ := len_cons s23; obtain ⟨u25, t25, e25, s25⟩ := len_cons s24; obtain ⟨u26, t26, e26, s26⟩ := len_cons s25; obtain ⟨u27, t27, e27, s27⟩ := len_cons s26; obtain ⟨u28, t28, e28, s28⟩ := len_cons s27; obtain ⟨u29, t29, e29, s29⟩ := len_cons s28; obtain ⟨u30, t30, e30, s30⟩ := len_cons s29; obtain ⟨u31, t31, e31, s31⟩ := len_cons s30; obtain ⟨u32, t32, e32, s32⟩ := len_cons s31; obtain ⟨u33, t33, e33, s33⟩ := len_cons s32; obtain ⟨u34, t34, e34, s34⟩ := len_cons s33; obtain ⟨u35, t35, e35, s35⟩ := len_cons s34; obtain ⟨u36, t36, e36, s36⟩ := len_cons s35; obtain ⟨u37, t37, e37, s37⟩ := len_cons s36
        obtain rfl := len_nil s37
        clear hus s0 s1 s2 s3 s4 s5 s6 s7 s8 s9 s10 s11 s12 s13 s14 s15 s16 s17 s18 s19 s20 s21 s22 s23 s24 s25 s26 s27 s28 s29 s30 s31 s32 s33 s34 s35 s36 s37
        subst e37 e36 e35 e34 e33 e32 e31 e30 e29 e28 e27 e26 e25 e24 e23 e22 e21 e20 e19 e18 e17 e16 e15 e14 e13 e12 e11 e10 e9 e8 e7 e6 e5 e4 e3 e2 e1 e0
        have h19 : ∃ k, u19 = .slice (some ⟨k, 0, none⟩) 0 0 ∧ n0 ≤ k ∧ Bs w' u19 [] := h 19 (by kernel_rfl)
        have h16 : u16 = .bool true := h 16 (by kernel_rfl)
        clear h
        simp only [over, Act.put, List.setIfInBounds_toArray, List.set_cons_zero, List.set_cons_succ]
        obtain ⟨k, e, hk, hb⟩ := h19
        subst e
        subst h16
        go_wp2_with (refine wpList_mark rfl 30 5 _ rfl Tryd.underlying30 Tryd.underlying5 k 0 0 rfl ?_)
        intro w5 hc
        go_wp2_with fail
        exact postK_normal ⟨_, rfl, hb.rc (hc n0 hk), hc n0 hk⟩
      refine AllSteps.cons (fun us hus w' x h => ?_) ?_
      · obtain ⟨u0, t0, e0, s0⟩ := len_cons hus; obtain ⟨u1, t1, e1, s1⟩ := len_cons s0; obtain ⟨u2, t2, e2, s2⟩ := len_cons s1; obtain ⟨u3, t3, e3, s3⟩ := len_cons s2; obtain ⟨u4, t4, e4, s4⟩ := len_cons s3; obtain ⟨u5, t5, e5, s5⟩ := len_cons s4; obtain ⟨u6, t6, e6, s6⟩ := len_cons s5; obtain ⟨u7, t7, e7, s7⟩ := len_cons s6; obtain ⟨u8, t8, e8, s8⟩ := len_cons s7; obtain ⟨u9, t9, e9, s9⟩ := len_cons s8; obtain ⟨u10, t10, e10, s10⟩ := len_cons s9; obtain ⟨u11, t11, e11, s11⟩ := len_cons s10; obtain ⟨u12, t12, e12, s12⟩ := len_cons s11; obtain ⟨u13, t13, e13, s13⟩ := len_cons s12; obtain ⟨u14, t14, e14, s14⟩ := len_cons s13; obtain ⟨u15, t15, e15, s15⟩ := len_cons s14; obtain ⟨u16, t16, e16, s16⟩ := len_cons s15; obtain ⟨u17, t17, e17, s17⟩ := len_cons s16; obtain ⟨u18, t18, e18, s18⟩ := len_cons s17; obtain ⟨u19, t19, e19, s19⟩ := len_cons s18; obtain ⟨u20, t20, e20, s20⟩ := len_cons s19; obtain ⟨u21, t21, e21, s21⟩ := len_cons s20; obtain ⟨u22, t22, e22, s22⟩ := len_cons s21; obtain ⟨u23, t23, e23, s23⟩ := len_cons s22; obtain ⟨u24, t24, e24, s24⟩ := len_cons s23; obtain ⟨u25, t25, e25, s25⟩ := len_cons s24; obtain ⟨u26, t26, e26, s26⟩ := len_cons s25; obtain ⟨u27, t27, e27, s27⟩ := len_cons s26; obtain ⟨u28, t28, e28, s28⟩ := len_cons s27; obtain ⟨u29, t29, e29, s29⟩ := len_cons s28; obtain ⟨u30, t30, e30, s30⟩ := len_cons s29; obtain ⟨u31, t31, e31, s31⟩ := len_cons s30; obtain ⟨u32, t32, e32, s32⟩ := len_cons s31; obtain ⟨u33, t33, e33, s33⟩ := len_cons s32; obtain ⟨u34, t34, e34, s34⟩ := len_cons s33; obtain ⟨u35, t35, e35, s35⟩ := len_cons s34; obtain ⟨u36, t36, e36, s36⟩ := len_cons s35; obtain ⟨u37, t37, e37, s37⟩ := len_cons s36
        obtain rfl := len_nil s37
        clear hus s0 s1 s2 s3 s4 s5 s6 s7 s8 s9 s10 s11 s12 s13 s14 s15 s16 s17 s18 s19 s20 s21 s22 s23 s24 s25 s26 s27 s28 s29 s30 s31 s32 s33 s34 s35 s36 s37
        subst e37 e36 e35 e34 e33 e32 e31 e30 e29 e28 e27 e26 e25 e24 e23 e22 e21 e20 e19 e18 e17 e16 e15 e14 e13 e12 e11 e10 e9 e8 e7 e6 e5 e4 e3 e2 e1 e0
        have h18 : Bs w' u18 a0.data.toList := h 18 (by kernel_rfl)
        have h20 : Bs w' u20 [] := h 20 (by kernel_rfl)
        have h16 : u16 = .bool true := h 16 (by kernel_rfl)
        clear h
        simp only [over, Act.put, List.setIfInBounds_toArray, List.set_cons_zero, List.set_cons_succ]
        subst h16
        have hn0 : n0 ≤ w'.heap.size := by have := x.below.size; omega
        have c5 := impl_ToValidUTF8 _ _ _ _ _ h18 h20 (HT.out.rc x) (by show a0.size ≤ _; omega) (by simp) (by rw [HM3.out]; omega)
        rw [HM3.out] at c5
        go_wp2_with (go_at_call 29; refine c5.mono ?_)
        rintro _ w5 ⟨v5, rfl, o5, x5⟩
        go_wp2_with fail
        exact postK_normal ⟨_, rfl, o5.bs, Rc.ext x5 hn0⟩
      refine AllSteps.cons (fun us hus w' x h => ?_) ?_
      · obtain ⟨u0, t0, e0, s0⟩ := len_cons hus; obtain ⟨u1, t1, e1, s1⟩ := len_cons s0; obtain ⟨u2, t2, e2, s2⟩ := len_cons s1; obtain ⟨u3, t3, e3, s3⟩ := len_cons s2; obtain ⟨u4, t4, e4, s4⟩ := len_cons s3; obtain ⟨u5, t5, e5, s5⟩ := len_cons s4; obtain ⟨u6, t6, e6, s6⟩ := len_cons s5; obtain ⟨u7, t7, e7, s7⟩ := len_cons s6; obtain ⟨u8, t8, e8, s8⟩ := len_cons s7; obtain ⟨u9, t9, e9, s9⟩ := len_cons s8; obtain ⟨u10, t10, e10, s10⟩ := len_cons s9; obtain ⟨u11, t11, e11, s11⟩ := len_cons s10; obtain ⟨u12, t12, e12, s12⟩ := len_cons s11; obtain ⟨u13, t13, e13, s13⟩ := len_cons s12; obtain ⟨u14, t14, e14, s14⟩ := len_cons s13; obtain ⟨u15, t15, e15, s15⟩ := len_cons s14; obtain ⟨u16, t16, e16, s16⟩ := len_cons s15; obtain ⟨u17, t17, e17, s17⟩ := len_cons s16; obtain ⟨u18, t18, e18, s18⟩ := len_cons s17; obtain ⟨u19, t19, e19, s19⟩ := len_cons s18; obtain ⟨u20, t20, e20, s20⟩ := len_cons s19; obtain ⟨u21, t21, e21, s21⟩ := len_cons s20; obtain ⟨u22, t22, e22, s22⟩ := len_cons s21; obtain ⟨u23, t23, e23, s23⟩ := len_cons s22; obtain ⟨u24, t24, e24, s24⟩ := len_cons s23; obtain ⟨u25, t25, e25, s25⟩ := len_cons s24; obtain ⟨u26, t26, e26, s26⟩ := len_cons s25; obtain ⟨u27, t27, e27, s27⟩ := len_cons s26; obtain ⟨u28, t28, e28, s28⟩ := len_cons s27; obtain ⟨u29, t29, e29, s29⟩ := len_cons s28; obtain ⟨u30, t30, e30, s30⟩ := len_cons s29; obtain ⟨u31, t31, e31, s31⟩ := len_cons s30; obtain ⟨u32, t32, e32, s32⟩ := len_cons s31; obtain ⟨u33, t33, e33, s33⟩ := len_cons s32; obtain ⟨u34, t34, e34, s34⟩ := len_cons s33; obtain ⟨u35, t35, e35, s35⟩ := len_cons s34; obtain ⟨u36, t36, e36, s36⟩ := len_cons s35; obtain ⟨u37, t37, e37, s37⟩ := len_cons s36
        obtain rfl := len_nil s37
        clear hus s0 s1 s2 s3 s4 s5 s6 s7 s8 s9 s10 s11 s12 s13 s14 s15 s16 s17 s18 s19 s20 s21 s22 s23 s24 s25 s26 s27 s28 s29 s30 s31 s32 s33 s34 s35 s36 s37
        subst e37 e36 e35 e34 e33 e32 e31 e30 e29 e28 e27 e26 e25 e24 e23 e22 e21 e20 e19 e18 e17 e16 e15 e14 e13 e12 e11 e10 e9 e8 e7 e6 e5 e4 e3 e2 e1 e0
        have h21 : Bs w' u21 M3 := h 21 (by kernel_rfl)
        have h16 : u16 = .bool true := h 16 (by kernel_rfl)
        clear h
        simp only [over, Act.put, List.setIfInBounds_toArray, List.set_cons_zero, List.set_cons_succ]
        subst h16
        go_wp2_with (refine wpList_toString rfl 30 9 _ rfl 5 Tryd.underlying30 Tryd.underlying5 Tryd.underlying9 _ _ rfl h21 ?_)
        rw [HS3.out]
        go_wp2_with fail
        exact postK_normal ⟨_, rfl, rfl, Rc.refl _ _⟩
      refine AllSteps.cons (fun us hus w' x h => ?_) ?_
      · obtain ⟨u0, t0, e0, s0⟩ := len_cons hus; obtain ⟨u1, t1, e1, s1⟩ := len_cons s0; obtain ⟨u2, t2, e2, s2⟩ := len_cons s1; obtain ⟨u3, t3, e3, s3⟩ := len_cons s2; obtain ⟨u4, t4, e4, s4⟩ := len_cons s3; obtain ⟨u5, t5, e5, s5⟩ := len_cons s4; obtain ⟨u6, t6, e6, s6⟩ := len_cons s5; obtain ⟨u7, t7, e7, s7⟩ := len_cons s6; obtain ⟨u8, t8, e8, s8⟩ := len_cons s7; obtain ⟨u9, t9, e9, s9⟩ := len_cons s8; obtain ⟨u10, t10, e10, s10⟩ := len_cons s9; obtain ⟨u11, t11, e11, s11⟩ := len_cons s10; obtain ⟨u12, t12, e12, s12⟩ := len_cons s11; obtain ⟨u13, t13, e13, s13⟩ := len_cons s12; obtain ⟨u14, t14, e14, s14⟩ := len_cons s13; obtain ⟨u15, t15, e15, s15⟩ := len_cons s14; obtain ⟨u16, t16, e16, s16⟩ := len_cons s15; obtain ⟨u17, t17, e17, s17⟩ := len_cons s16; obtain ⟨u18, t18, e18, s18⟩ := len_cons s17; obtain ⟨u19, t19, e19, s19⟩ := len_cons s18; obtain ⟨u20, t20, e20, s20⟩ := len_cons s19; obtain ⟨u21, t21, e21, s21⟩ := len_cons s20; obtain ⟨u22, t22, e22, s22⟩ := len_cons s21; obtain ⟨u23, t23, e23, s23⟩ := len_cons s22; obtain ⟨u24, t24, e24, s24⟩ := len_cons s23; obtain ⟨u25, t25, e25, s25⟩ := len_cons s24; obtain ⟨u26, t26, e26, s26⟩ := len_cons s25; obtain ⟨u27, t27, e27, s27⟩ := len_cons s26; obtain ⟨u28, t28, e28, s28⟩ := len_cons s27; obtain ⟨u29, t29, e29, s29⟩ := len_cons s28; obtain ⟨u30, t30, e30, s30⟩ := len_cons s29; obtain ⟨u31, t31, e31, s31⟩ := len_cons s30; obtain ⟨u32, t32, e32, s32⟩ := len_cons s31; obtain ⟨u33, t33, e33, s33⟩ := len_cons s32; obtain ⟨u34, t34, e34, s34⟩ := len_cons s33; obtain ⟨u35, t35, e35, s35⟩ := len_cons s34; obtain ⟨u36, t36, e36, s36⟩ := len_cons s35; obtain ⟨u37, t37, e37, s37⟩ := len_cons s36
        obtain rfl := len_nil s37
        clear hus s0 s1 s2 s3 s4 s5 s6 s7 s8 s9 s10 s11 s12 s13 s14 s15 s16 s17 s18 s19 s20 s21 s22 s23 s24 s25 s26 s27 s28 s29 s30 s31 s32 s33 s34 s35 s36 s37
        subst e37 e36 e35 e34 e33 e32 e31 e30 e29 e28 e27 e26 e25 e24 e23 e22 e21 e20 e19 e18 e17 e16 e15 e14 e13 e12 e11 e10 e9 e8 e7 e6 e5 e4 e3 e2 e1 e0
        have h22 : u22 = .string s3' := h 22 (by kernel_rfl)
        have h16 : u16 = .bool true := h 16 (by kernel_rfl)
        clear h
        simp only [over, Act.put, List.setIfInBounds_toArray, List.set_cons_zero, List.set_cons_succ]
        subst h22 h16
        have hn0 : n0 ≤ w'.heap.size := by have := x.below.size; omega
        have c5 := spec_Whole s3' w' (by omega)
        rw [HSD3.out, HW3.out] at c5
        go_wp2_with (go_at_call 30; refine c5.mono ?_)
        rintro _ w5 ⟨rfl, x5⟩
        go_wp2_with fail
        exact postK_normal ⟨_, rfl, rfl, Rc.ext x5 hn0⟩
      refine AllSteps.cons (fun us hus w' x h => ?_) ?_
      · obtain ⟨u0, t0, e0, s0⟩ := len_cons hus; obtain ⟨u1, t1, e1, s1⟩ := len_cons s0; obtain ⟨u2, t2, e2, s2⟩ := len_cons s1; obtain ⟨u3, t3, e3, s3⟩ := len_cons s2; obtain ⟨u4, t4, e4, s4⟩ := len_cons s3; obtain ⟨u5, t5, e5, s5⟩ := len_cons s4; obtain ⟨u6, t6, e6, s6⟩ := len_cons s5; obtain ⟨u7, t7, e7, s7⟩ := len_cons s6; obtain ⟨u8, t8, e8, s8⟩ := len_cons s7; obtain ⟨u9, t9, e9, s9⟩ := len_cons s8; obtain ⟨u10, t10, e10, s10⟩ := len_cons s9; obtain ⟨u11, t11, e11, s11⟩ := len_cons s10; obtain ⟨u12, t12, e12, s12⟩ := len_cons s11; obtain ⟨u13, t13, e13, s13⟩ := len_cons s12; obtain ⟨u14, t14, e14, s14⟩ := len_cons s13; obtain ⟨u15, t15, e15, s15⟩ := len_cons s14; obtain ⟨u16, t16, e16, s16⟩ := len_cons s15; obtain ⟨u17, t17, e17, s17⟩ := len_cons s16; obtain ⟨u18, t18, e18, s18⟩ := len_cons s17; obtain ⟨u19, t19, e19, s19⟩ := len_cons s18; obtain ⟨u20, t20, e20, s20⟩ := len_cons s19; obtain ⟨u21, t21, e21, s21⟩ := len_cons s20; obtain ⟨u22, t22, e22, s22⟩ := len_cons s21; obtain ⟨u23, t23, e23, s23⟩ := len_cons s22; obtain ⟨u24, t24, e24, s24⟩ := len_cons s23; obtain ⟨u25, t25, e25, s25⟩ := len_cons s24; obtain ⟨u26, t26, e26, s26⟩ := len_cons s25; obtain ⟨u27, t27, e27, s27⟩ := len_cons s26; obtain ⟨u28, t28, e28, s28⟩ := len_cons s27; obtain ⟨u29, t29, e29, s29⟩ := len_cons s28; obtain ⟨u30, t30, e30, s30⟩ := len_cons s29; obtain ⟨u31, t31, e31, s31⟩ := len_cons s30; obtain ⟨u32, t32, e32, s32⟩ := len_cons s31; obtain ⟨u33, t33, e33, s33⟩ := len_cons s32; obtain ⟨u34, t34, e34, s34⟩ := len_cons s33; obtain ⟨u35, t35, e35, s35⟩ := len_cons s34; obtain ⟨u36, t36, e36, s36⟩ := len_cons s35; obtain ⟨u37, t37, e37, s37⟩ := len_cons s36
        obtain rfl := len_nil s37
        clear hus s0 s1 s2 s3 s4 s5 s6 s7 s8 s9 s10 s11 s12 s13 s14 s15 s16 s17 s18 s19 s20 s21 s22 s23 s24 s25 s26 s27 s28 s29 s30 s31 s32 s33 s34 s35 s36 s37
        subst e37 e36 e35 e34 e33 e32 e31 e30 e29 e28 e27 e26 e25 e24 e23 e22 e21 e20 e19 e18 e17 e16 e15 e14 e13 e12 e11 e10 e9 e8 e7 e6 e5 e4 e3 e2 e1 e0
        have h16 : u16 = .bool true := h 16 (by kernel_rfl)
        have h23 : u23 = .bool true := h 23 (by kernel_rfl)
        clear h
        simp only [over, Act.put, List.setIfInBounds_toArray, List.set_cons_zero, List.set_cons_succ]
        subst h16 h23
        go_wp2_with fail
        exact postK_normal ⟨_, rfl, rfl, Rc.refl _ _⟩
      refine AllSteps.cons (fun us hus w' x h => ?_) ?_
      · obtain ⟨u0, t0, e0, s0⟩ := len_cons hus; obtain ⟨u1, t1, e1, s1⟩ := len_cons s0; obtain ⟨u2, t2, e2, s2⟩ := len_cons s1; obtain ⟨u3, t3, e3, s3⟩ := len_cons s2; obtain ⟨u4, t4, e4, s4⟩ := len_cons s3; obtain ⟨u5, t5, e5, s5⟩ := len_cons s4; obtain ⟨u6, t6, e6, s6⟩ := len_cons s5; obtain ⟨u7, t7, e7, s7⟩ := len_cons s6; obtain ⟨u8, t8, e8, s8⟩ := len_cons s7; obtain ⟨u9, t9, e9, s9⟩ := len_cons s8; obtain ⟨u10, t10, e10, s10⟩ := len_cons s9; obtain ⟨u11, t11, e11, s11⟩ := len_cons s10; obtain ⟨u12, t12, e12, s12⟩ := len_cons s11; obtain ⟨u13, t13, e13, s13⟩ := len_cons s12; obtain ⟨u14, t14, e14, s14⟩ := len_cons s13; obtain ⟨u15, t15, e15, s15⟩ := len_cons s14; obtain ⟨u16, t16, e16, s16⟩ := len_cons s15; obtain ⟨u17, t17, e17, s17⟩ := len_cons s16; obtain ⟨u18, t18, e18, s18⟩ := len_cons s17; obtain ⟨u19, t19, e19, s19⟩ := len_cons s18; obtain ⟨u20, t20, e20, s20⟩ := len_cons s19; obtain ⟨u21, t21, e21, s21⟩ := len_cons s20; obtain ⟨u22, t22, e22, s22⟩ := len_cons s21; obtain ⟨u23, t23, e23, s23⟩ := len_cons s22; obtain ⟨u24, t24, e24, s24⟩ := len_cons s23; obtain ⟨u25, t25, e25, s25⟩ := len_cons s24; obtain ⟨u26, t26, e26, s26⟩ := len_cons s25; obtain ⟨u27, t27, e27, s27⟩ := len_cons s26; obtain ⟨u28, t28, e28, s28⟩ := len_cons s27; obtain ⟨u29, t29, e29, s29⟩ := len_cons s28; obtain ⟨u30, t30, e30, s30⟩ := len_cons s29; obtain ⟨u31, t31, e31, s31⟩ := len_cons s30; obtain ⟨u32, t32, e32, s32⟩ := len_cons s31; obtain ⟨u33, t33, e33, s33⟩ := len_cons s32; obtain ⟨u34, t34, e34, s34⟩ := len_cons s33; obtain ⟨u35, t35, e35, s35⟩ := len_cons s34; obtain ⟨u36, t36, e36, s36⟩ := len_cons s35; obtain ⟨u37, t37, e37, s37⟩ := len_cons s36
        obtain rfl := len_nil s37
        clear hus s0 s1 s2 s3 s4 s5 s6 s7 s8 s9 s10 s11 s12 s13 s14 s15 s16 s17 s18 s19 s20 s21 s22 s23 s24 s25 s26 s27 s28 s29 s30 s31 s32 s33 s34 s35 s36 s37
        subst e37 e36 e35 e34 e33 e32 e31 e30 e29 e28 e27 e26 e25 e24 e23 e22 e21 e20 e19 e18 e17 e16 e15 e14 e13 e12 e11 e10 e9 e8 e7 e6 e5 e4 e3 e2 e1 e0
        have h24 : u24 = .bool true := h 24 (by kernel_rfl)
        clear h
        simp only [over, Act.put, List.setIfInBounds_toArray, List.set_cons_zero, List.set_cons_succ]
        subst h24
        go_wp2_with fail
        exact postK_normal ⟨_, rfl, rfl, Rc.refl _ _⟩
      refine AllSteps.cons (fun us hus w' x h => ?_) ?_
      · obtain ⟨u0, t0, e0, s0⟩ := len_cons hus; obtain ⟨u1, t1, e1, s1⟩ := len_cons s0; obtain ⟨u2, t2, e2, s2⟩ := len_cons s1; obtain ⟨u3, t3, e3, s3⟩ := len_cons s2; obtain ⟨u4, t4, e4, s4⟩ := len_cons s3; obtain ⟨u5, t5, e5, s5⟩ := len_cons s4; obtain ⟨u6, t6, e6, s6⟩ := len_cons s5; obtain ⟨u7, t7, e7, s7⟩ := len_cons s6; obtain ⟨u8, t8, e8, s8⟩ := len_cons s7; obtain ⟨u9, t9, e9, s9⟩ := len_cons s8; obtain ⟨u10, t10, e10, s10⟩ := len_cons s9; obtain ⟨u11, t11, e11, s11⟩ := len_cons s10; obtain ⟨u12, t12, e12, s12⟩ := len_cons s11; obtain ⟨u13, t13, e13, s13⟩ := len_cons s12; obtain ⟨u14, t14, e14, s14⟩ := len_cons s13; obtain ⟨u15, t15, e15, s15⟩ := len_cons s14; obtain ⟨u16, t16, e16, s16⟩ := len_cons s15; obtain ⟨u17, t17, e17, s17⟩ := len_cons s16; obtain ⟨u18, t18, e18, s18⟩ := len_cons s17; obtain ⟨u19, t19, e19, s19⟩ := len_cons s18; obtain ⟨u20, t20, e20, s20⟩ := len_cons s19; obtain ⟨u21, t21, e21, s21⟩ := len_cons s20; obtain ⟨u22, t22, e22, s22⟩ := len_cons s21; obtain ⟨u23, t23, e23, s23⟩ := len_cons s22; obtain ⟨u24, t24, e24, s24⟩ := len_cons s23; obtain ⟨u25, t25, e25, s25⟩ := len_cons s24; obtain ⟨u26, t26, e26, s26⟩ := len_cons s25; obtain ⟨u27, t27, e27, s27⟩ := len_cons s26; obtain ⟨u28, t28, e28, s28⟩ := len_cons s27; obtain ⟨u29, t29, e29, s29⟩ := len_cons s28; obtain ⟨u30, t30, e30, s30⟩ := len_cons s29; obtain ⟨u31, t31, e31, s31⟩ := len_cons s30; obtain ⟨u32, t32, e32, s32⟩ := len_cons s31; obtain ⟨u33, t33, e33, s33⟩ := len_cons s32; obtain ⟨u34, t34, e34, s34⟩ := len_cons s33; obtain ⟨u35, t35, e35, s35⟩ := len_cons s34; obtain ⟨u36, t36, e36, s36⟩ := len_cons s35; obtain ⟨u37, t37, e37, s37⟩ := len_cons s36
        obtain rfl := len_nil s37
        clear hus s0 s1 s2 s3 s4 s5 s6 s7 s8 s9 s10 s11 s12 s13 s14 s15 s16 s17 s18 s19 s20 s21 s22 s23 s24 s25 s26 s27 s28 s29 s30 s31 s32 s33 s34 s35 s36 s37
        subst e37 e36 e35 e34 e33 e32 e31 e30 e29 e28 e27 e26 e25 e24 e23 e22 e21 e20 e19 e18 e17 e16 e15 e14 e13 e12 e11 e10 e9 e8 e7 e6 e5 e4 e3 e2 e1 e0
        have h25 : u25 = .bool true := h 25 (by kernel_rfl)
        clear h
        simp only [over, Act.put, List.setIfInBounds_toArray, List.set_cons_zero, List.set_cons_succ]
        subst h25
        go_wp2_with fail
        exact postK_normal ⟨_, rfl, rfl, Rc.refl _ _⟩
      refine AllSteps.cons (fun us hus w' x h => ?_) ?_
      · obtain ⟨u0, t0, e0, s0⟩ := len_cons hus; obtain ⟨u1, t1, e1, s1⟩ := len_cons s0; obtain ⟨u2, t2, e2, s2⟩ := len_cons s1; obtain ⟨u3, t3, e3, s3⟩ := len_cons s2; obtain ⟨u4, t4, e4, s4⟩ := len_cons s3; obtain ⟨u5, t5, e5, s5⟩ := len_cons s4; obtain ⟨u6, t6, e6, s6⟩ := len_cons s5; obtain ⟨u7, t7, e7, s7⟩ := len_cons s6; obtain ⟨u8, t8, e8, s8⟩ := len_cons s7; obtain ⟨u9, t9, e9, s9⟩ := len_cons s8; obtain ⟨u10, t10, e10, s10⟩ := len_cons s9; obtain ⟨u11, t11, e11, s11⟩ := len_cons s10; obtain ⟨u12, t12, e12, s12⟩ := len_cons s11; obtain ⟨u13, t13, e13, s13⟩ := len_cons s12; obtain ⟨u14, t14, e14, s14⟩ := len_cons s13; obtain ⟨u15, t15, e15, s15⟩ := len_cons s14; obtain ⟨u16, t16, e16, s16⟩ := len_cons s15; obtain ⟨u17, t17, e17, s17⟩ := len_cons s16; obtain ⟨u18, t18, e18, s18⟩ := len_cons s17; obtain ⟨u19, t19, e19, s19⟩ := len_cons s18; obtain ⟨u20, t20, e20, s20⟩ := len_cons s19; obtain ⟨u21, t21, e21, s21⟩ := len_cons s20; obtain ⟨u22, t22, e22, s22⟩ := len_cons s21; obtain ⟨u23, t23, e23, s23⟩ := len_cons s22; obtain ⟨u24, t24, e24, s24⟩ := len_cons s23; obtain ⟨u25, t25, e25, s25⟩ := len_cons s24; obtain ⟨u26, t26, e26, s26⟩ := len_cons s25; obtain ⟨u27, t27, e27, s27⟩ := len_cons s26; obtain ⟨u28, t28, e28, s28⟩ := len_cons s27; obtain ⟨u29, t29, e29, s29⟩ := len_cons s28; obtain ⟨u30, t30, e30, s30⟩ := len_cons s29; obtain ⟨u31, t31, e31, s31⟩ := len_cons s30; obtain ⟨u32, t32, e32, s32⟩ := len_cons s31; obtain ⟨u33, t33, e33, s33⟩ := len_cons s32; obtain ⟨u34, t34, e34, s34⟩ := len_cons s33; obtain ⟨u35, t35, e35, s35⟩ := len_cons s34; obtain ⟨u36, t36, e36, s36⟩ := len_cons s35; obtain ⟨u37, t37, e37, s37⟩ := len_cons s36
        obtain rfl := len_nil s37
        clear hus s0 s1 s2 s3 s4 s5 s6 s7 s8 s9 s10 s11 s12 s13 s14 s15 s16 s17 s18 s19 s20 s21 s22 s23 s24 s25 s26 s27 s28 s29 s30 s31 s32 s33 s34 s35 s36 s37
        subst e37 e36 e35 e34 e33 e32 e31 e30 e29 e28 e27 e26 e25 e24 e23 e22 e21 e20 e19 e18 e17 e16 e15 e14 e13 e12 e11 e10 e9 e8 e7 e6 e5 e4 e3 e2 e1 e0
        have h26 : u26 = .string a0 := h 26 (by kernel_rfl)
        have h25 : u25 = .bool true := h 25 (by kernel_rfl)
        clear h
        simp only [over, Act.put, List.setIfInBounds_toArray, List.set_cons_zero, List.set_cons_succ]
        subst h26
        subst h25
        have hn0 : n0 ≤ w'.heap.size := by have := x.below.size; omega
        go_wp2_with (refine wpList_toBytes rfl 9 30 _ rfl 5 Tryd.underlying9 Tryd.underlying30 Tryd.underlying5 _ rfl hmax ?_)
        intro v5 w5 o5 x5
        have o5 : Bs w5 v5 a0.data.toList := o5.bs
        go_wp2_with fail
        exact postK_normal ⟨_, rfl, o5, Rc.ext x5 hn0⟩
      refine AllSteps.cons (fun us hus w' x h => ?_) ?_
      · obtain ⟨u0, t0, e0, s0⟩ := len_cons hus; obtain ⟨u1, t1, e1, s1⟩ := len_cons s0; obtain ⟨u2, t2, e2, s2⟩ := len_cons s1; obtain ⟨u3, t3, e3, s3⟩ := len_cons s2; obtain ⟨u4, t4, e4, s4⟩ := len_cons s3; obtain ⟨u5, t5, e5, s5⟩ := len_cons s4; obtain ⟨u6, t6, e6, s6⟩ := len_cons s5; obtain ⟨u7, t7, e7, s7⟩ := len_cons s6; obtain ⟨u8, t8, e8, s8⟩ := len_cons s7; obtain ⟨u9, t9, e9, s9⟩ := len_cons s8; obtain ⟨u10, t10, e10, s10⟩ := len_cons s9; obtain ⟨u11, t11, e11, s11⟩ := len_cons s10; obtain ⟨u12, t12, e12, s12⟩ := len_cons s11; obtain ⟨u13, t13, e13, s13⟩ := len_cons s12; obtain ⟨u14, t14, e14, s14⟩ := len_cons s13; obtain ⟨u15, t15, e15, s15⟩ := len_cons s14; obtain ⟨u16, t16, e16, s16⟩ := len_cons s15; obtain ⟨u17, t17, e17, s17⟩ := len_cons s16; obtain ⟨u18, t18, e18, s18⟩ := len_cons s17; obtain ⟨u19, t19, e19, s19⟩ := len_cons s18; obtain ⟨u20, t20, e20, s20⟩ := len_cons s19; obtain ⟨u21, t21, e21, s21⟩ := len_cons s20; obtain ⟨u22, t22, e22, s22⟩ := len_cons s21; obtain ⟨u23, t23, e23, s23⟩ := len_cons s22; obtain ⟨u24, t24, e24, s24⟩ := len_cons s23; obtain ⟨u25, t25, e25, s25⟩ := len_cons s24; obtain ⟨u26, t26, e26, s26⟩ := len_cons s25; obtain ⟨u27, t27, e27, s27⟩ := len_cons s26; obtain ⟨u28, t28, e28, s28⟩ := len_cons s27; obtain ⟨u29, t29, e29, s29⟩ := len_cons s28; obtain ⟨u30, t30, e30, s30⟩ := len_cons s29; obtain ⟨u31, t31, e31, s31⟩ := len_cons s30; obtain ⟨u32, t32, e32, s32⟩ := len_cons s31; obtain ⟨u33, t33, e33, s33⟩ := len_cons s32; obtain ⟨u34, t34, e34, s34⟩ := len_cons s33; obtain ⟨u35, t35, e35, s35⟩ := len_cons s34; obtain ⟨u36, t36, e36, s36⟩ := len_cons s35; obtain ⟨u37, t37, e37, s37⟩ := len_cons s36
        obtain rfl := len_nil s37
        clear hus s0 s1 s2 s3 s4 s5 s6 s7 s8 s9 s10 s11 s12 s13 s14 s15 s16 s17 s18 s19 s20 s21 s22 s23 s24 s25 s26 s27 s28 s29 s30 s31 s32 s33 s34 s35 s36 s37
        subst e37 e36 e35 e34 e33 e32 e31 e30 e29 e28 e27 e26 e25 e24 e23 e22 e21 e20 e19 e18 e17 e16 e15 e14 e13 e12 e11 e10 e9 e8 e7 e6 e5 e4 e3 e2 e1 e0
        have h25 : u25 = .bool true := h 25 (by kernel_rfl)
        clear h
        simp only [over, Act.put, List.setIfInBounds_toArray, List.set_cons_zero, List.set_cons_succ]
        subst h25
        have hn0 : n0 ≤ w'.heap.size := by have := x.below.size; omega
        go_wp2_with fail
        exact postK_normal ⟨_, rfl, ⟨w'.heap.size, rfl, hn0, bs_fffd w' _⟩, Rc.ext (Ext.alloc _ _) hn0⟩
      refine AllSteps.cons (fun us hus w' x h => ?_) ?_
      · obtain ⟨u0, t0, e0, s0⟩ := len_cons hus; obtain ⟨u1, t1, e1, s1⟩ := len_cons s0; obtain ⟨u2, t2, e2, s2⟩ := len_cons s1; obtain ⟨u3, t3, e3, s3⟩ := len_cons s2; obtain ⟨u4, t4, e4, s4⟩ := len_cons s3; obtain ⟨u5, t5, e5, s5⟩ := len_cons s4; obtain ⟨u6, t6, e6, s6⟩ := len_cons s5; obtain ⟨u7, t7, e7, s7⟩ := len_cons s6; obtain ⟨u8, t8, e8, s8⟩ := len_cons s7; obtain ⟨u9, t9, e9, s9⟩ := len_cons s8; obtain ⟨u10, t10, e10, s10⟩ := len_cons s9; obtain ⟨u11, t11, e11, s11⟩ := len_cons s10; obtain ⟨u12, t12, e12, s12⟩ := len_cons s11; obtain ⟨u13, t13, e13, s13⟩ := len_cons s12; obtain ⟨u14, t14, e14, s14⟩ := len_cons s13; obtain ⟨u15, t15, e15, s15⟩ := len_cons s14; obtain ⟨u16, t16, e16, s16⟩ := len_cons s15; obtain ⟨u17, t17, e17, s17⟩ := len_cons s16; obtain ⟨u18, t18, e18, s18⟩ := len_cons s17; obtain ⟨u19, t19, e19, s19⟩ := len_cons s18; obtain ⟨u20, t20, e20, s20⟩ := len_cons s19; obtain ⟨u21, t21, e21, s21⟩ := len_cons s20; obtain ⟨u22, t22, e22, s22⟩ := len_cons s21; obtain ⟨u23, t23, e23, s23⟩ := len_cons s22; obtain ⟨u24, t24, e24, s24⟩ := len_cons s23; obtain ⟨u25, t25, e25, s25⟩ := len_cons s24; obtain ⟨u26, t26, e26, s26⟩ := len_cons s25; obtain ⟨u27, t27, e27, s27⟩ := len_cons s26; obtain ⟨u28, t28, e28, s28⟩ := len_cons s27; obtain ⟨u29, t29, e29, s29⟩ := len_cons s28; obtain ⟨u30, t30, e30, s30⟩ := len_cons s29; obtain ⟨u31, t31, e31, s31⟩ := len_cons s30; obtain ⟨u32, t32, e32, s32⟩ := len_cons s31; obtain ⟨u33, t33, e33, s33⟩ := len_cons s32; obtain ⟨u34, t34, e34, s34⟩ := len_cons s33; obtain ⟨u35, t35, e35, s35⟩ := len_cons s34; obtain ⟨u36, t36, e36, s36⟩ := len_cons s35; obtain ⟨u37, t37, e37, s37⟩ := len_cons s36
        obtain rfl := len_nil s37
        clear hus s0 s1 s2 s3 s4 s5 s6 s7 s8 s9 s10 s11 s12 s13 s14 s15 s16 s17 s18 s19 s20 s21 s22 s23 s24 s25 s26 s27 s28 s29 s30 s31 s32 s33 s34 s35 s36 s37
        subst e37 e36 e35 e34 e33 e32 e31 e30 e29 e28 e27 e26 e25 e24 e23 e22 e21 e20 e19 e18 e17 e16 e15 e14 e13 e12 e11 e10 e9 e8 e7 e6 e5 e4 e3 e2 e1 e0
        have h28 : ∃ k, u28 = .slice (some ⟨k, 0, none⟩) 3 3 ∧ n0 ≤ k ∧ Bs w' u28 [239, 191, 189] := h 28 (by kernel_rfl)
        have h25 : u25 = .bool true := h 25 (by kernel_rfl)
        clear h
        simp only [over, Act.put, List.setIfInBounds_toArray, List.set_cons_zero, List.set_cons_succ]
        obtain ⟨k, e, hk, hb⟩ := h28
        subst e
        subst h25
        go_wp2_with (refine wpList_mark rfl 30 5 _ rfl Tryd.underlying30 Tryd.underlying5 k 3 3 rfl ?_)
        intro w5 hc
        go_wp2_with fail
        exact postK_normal ⟨_, rfl, hb.rc (hc n0 hk), hc n0 hk⟩
      refine AllSteps.cons (fun us hus w' x h => ?_) ?_
      · obtain ⟨u0, t0, e0, s0⟩ := len_cons hus; obtain ⟨u1, t1, e1, s1⟩ := len_cons s0; obtain ⟨u2, t2, e2, s2⟩ := len_cons s1; obtain ⟨u3, t3, e3, s3⟩ := len_cons s2; obtain ⟨u4, t4, e4, s4⟩ := len_cons s3; obtain ⟨u5, t5, e5, s5⟩ := len_cons s4; obtain ⟨u6, t6, e6, s6⟩ := len_cons s5; obtain ⟨u7, t7, e7, s7⟩ := len_cons s6; obtain ⟨u8, t8, e8, s8⟩ := len_cons s7; obtain ⟨u9, t9, e9, s9⟩ := len_cons s8; obtain ⟨u10, t10, e10, s10⟩ := len_cons s9; obtain ⟨u11, t11, e11, s11⟩ := len_cons s10; obtain ⟨u12, t12, e12, s12⟩ := len_cons s11; obtain ⟨u13, t13, e13, s13⟩ := len_cons s12; obtain ⟨u14, t14, e14, s14⟩ := len_cons s13; obtain ⟨u15, t15, e15, s15⟩ := len_cons s14; obtain ⟨u16, t16, e16, s16⟩ := len_cons s15; obtain ⟨u17, t17, e17, s17⟩ := len_cons s16; obtain ⟨u18, t18, e18, s18⟩ := len_cons s17; obtain ⟨u19, t19, e19, s19⟩ := len_cons s18; obtain ⟨u20, t20, e20, s20⟩ := len_cons s19; obtain ⟨u21, t21, e21, s21⟩ := len_cons s20; obtain ⟨u22, t22, e22, s22⟩ := len_cons s21; obtain ⟨u23, t23, e23, s23⟩ := len_cons s22; obtain ⟨u24, t24, e24, s24⟩ := len_cons s23; obtain ⟨u25, t25, e25, s25⟩ := len_cons s24; obtain ⟨u26, t26, e26, s26⟩ := len_cons s25; obtain ⟨u27, t27, e27, s27⟩ := len_cons s26; obtain ⟨u28, t28, e28, s28⟩ := len_cons s27; obtain ⟨u29, t29, e29, s29⟩ := len_cons s28; obtain ⟨u30, t30, e30, s30⟩ := len_cons s29; obtain ⟨u31, t31, e31, s31⟩ := len_cons s30; obtain ⟨u32, t32, e32, s32⟩ := len_cons s31; obtain ⟨u33, t33, e33, s33⟩ := len_cons s32; obtain ⟨u34, t34, e34, s34⟩ := len_cons s33; obtain ⟨u35, t35, e35, s35⟩ := len_cons s34; obtain ⟨u36, t36, e36, s36⟩ := len_cons s35; obtain ⟨u37, t37, e37, s37⟩ := len_cons s36
        obtain rfl := len_nil s37
        clear hus s0 s1 s2 s3 s4 s5 s6 s7 s8 s9 s10 s11 s12 s13 s14 s15 s16 s17 s18 s19 s20 s21 s22 s23 s24 s25 s26 s27 s28 s29 s30 s31 s32 s33 s34 s35 s36 s37
        subst e37 e36 e35 e34 e33 e32 e31 e30 e29 e28 e27 e26 e25 e24 e23 e22 e21 e20 e19 e18 e17 e16 e15 e14 e13 e12 e11 e10 e9 e8 e7 e6 e5 e4 e3 e2 e1 e0
        have h27 : Bs w' u27 a0.data.toList := h 27 (by kernel_rfl)
        have h29 : Bs w' u29 [239, 191, 189] := h 29 (by kernel_rfl)
        have h25 : u25 = .bool true := h 25 (by kernel_rfl)
        clear h
        simp only [over, Act.put, List.setIfInBounds_toArray, List.set_cons_zero, List.set_cons_succ]
        subst h25
        have hn0 : n0 ≤ w'.heap.size := by have := x.below.size; omega
        have c5 := impl_ToValidUTF8 _ _ _ _ _ h27 h29 (HT.out.rc x) (by show a0.size ≤ _; omega) (by simp) (by rw [HM2.out]; omega)
        rw [HM2.out] at c5
        go_wp2_with (go_at_call 29; refine c5.mono ?_)
        rintro _ w5 ⟨v5, rfl, o5, x5⟩
        go_wp2_with fail
        exact postK_normal ⟨_, rfl, o5.bs, Rc.ext x5 hn0⟩
      refine AllSteps.cons (fun us hus w' x h => ?_) ?_
      · obtain ⟨u0, t0, e0, s0⟩ := len_cons hus; obtain ⟨u1, t1, e1, s1⟩ := len_cons s0; obtain ⟨u2, t2, e2, s2⟩ := len_cons s1; obtain ⟨u3, t3, e3, s3⟩ := len_cons s2; obtain ⟨u4, t4, e4, s4⟩ := len_cons s3; obtain ⟨u5, t5, e5, s5⟩ := len_cons s4; obtain ⟨u6, t6, e6, s6⟩ := len_cons s5; obtain ⟨u7, t7, e7, s7⟩ := len_cons s6; obtain ⟨u8, t8, e8, s8⟩ := len_cons s7; obtain ⟨u9, t9, e9, s9⟩ := len_cons s8; obtain ⟨u10, t10, e10, s10⟩ := len_cons s9; obtain ⟨u11, t11, e11, s11⟩ := len_cons s10; obtain ⟨u12, t12, e12, s12⟩ := len_cons s11; obtain ⟨u13, t13, e13, s13⟩ := len_cons s12; obtain ⟨u14, t14, e14, s14⟩ := len_cons s13; obtain ⟨u15, t15, e15, s15⟩ := len_cons s14; obtain ⟨u16, t16, e16, s16⟩ := len_cons s15; obtain ⟨u17, t17, e17, s17⟩ := len_cons s16; obtain ⟨u18, t18, e18, s18⟩ := len_cons s17; obtain ⟨u19, t19, e19, s19⟩ := len_cons s18; obtain ⟨u20, t20, e20, s20⟩ := len_cons s19; obtain ⟨u21, t21, e21, s21⟩ := len_cons s20; obtain ⟨u22, t22, e22, s22⟩ := len_cons s21; obtain ⟨u23, t23, e23, s23⟩ := len_cons s22; obtain ⟨u24, t24, e24, s24⟩ := len_cons s23; obtain ⟨u25, t25, e25, s25⟩ := len_cons s24; obtain ⟨u26, t26, e26, s26⟩ := len_cons s25; obtain ⟨u27, t27, e27, s27⟩ := len_cons s26; obtain ⟨u28, t28, e28, s28⟩ := len_cons s27; obtain ⟨u29, t29, e29, s29⟩ := len_cons s28; obtain ⟨u30, t30, e30, s30⟩ := len_cons s29; obtain ⟨u31, t31, e31, s31⟩ := len_cons s30; obtain ⟨u32, t32, e32, s32⟩ := len_cons s31; obtain ⟨u33, t33, e33, s33⟩ := len_cons s32; obtain ⟨u34, t34, e34, s34⟩ := len_cons s33; obtain ⟨u35, t35, e35, s35⟩ := len_cons s34; obtain ⟨u36, t36, e36, s36⟩ := len_cons s35; obtain ⟨u37, t37, e37, s37⟩ := len_cons s36
        obtain rfl := len_nil s37
        clear hus s0 s1 s2 s3 s4 s5 s6 s7 s8 s9 s10 s11 s12 s13 s14 s15 s16 s17 s18 s19 s20 s21 s22 s23 s24 s25 s26 s27 s28 s29 s30 s31 s32 s33 s34 s35 s36 s37
        subst e37 e36 e35 e34 e33 e32 e31 e30 e29 e28 e27 e26 e25 e24 e23 e22 e21 e20 e19 e18 e17 e16 e15 e14 e13 e12 e11 e10 e9 e8 e7 e6 e5 e4 e3 e2 e1 e0
        have h30 : Bs w' u30 M2 := h 30 (by kernel_rfl)
        have h25 : u25 = .bool true := h 25 (by kernel_rfl)
        clear h
        simp only [over, Act.put, List.setIfInBounds_toArray, List.set_cons_zero, List.set_cons_succ]
        subst h25
        go_wp2_with (refine wpList_toString rfl 30 9 _ rfl 5 Tryd.underlying30 Tryd.underlying5 Tryd.underlying9 _ _ rfl h30 ?_)
        rw [HS2.out]
        go_wp2_with fail
        exact postK_normal ⟨_, rfl, rfl, Rc.refl _ _⟩
      refine AllSteps.cons (fun us hus w' x h => ?_) ?_
      · obtain ⟨u0, t0, e0, s0⟩ := len_cons hus; obtain ⟨u1, t1, e1, s1⟩ := len_cons s0; obtain ⟨u2, t2, e2, s2⟩ := len_cons s1; obtain ⟨u3, t3, e3, s3⟩ := len_cons s2; obtain ⟨u4, t4, e4, s4⟩ := len_cons s3; obtain ⟨u5, t5, e5, s5⟩ := len_cons s4; obtain ⟨u6, t6, e6, s6⟩ := len_cons s5; obtain ⟨u7, t7, e7, s7⟩ := len_cons s6; obtain ⟨u8, t8, e8, s8⟩ := len_cons s7; obtain ⟨u9, t9, e9, s9⟩ := len_cons s8; obtain ⟨u10, t10, e10, s10⟩ := len_cons s9; obtain ⟨u11, t11, e11, s11⟩ := len_cons s10; obtain ⟨u12, t12, e12, s12⟩ := len_cons s11; obtain ⟨u13, t13, e13, s13⟩ := len_cons s12; obtain ⟨u14, t14, e14, s14⟩ := len_cons s13; obtain ⟨u15, t15, e15, s15⟩ := len_cons s14; obtain ⟨u16, t16, e16, s16⟩ := len_cons s15; obtain ⟨u17, t17, e17, s17⟩ := len_cons s16; obtain ⟨u18, t18, e18, s18⟩ := len_cons s17; obtain ⟨u19, t19, e19, s19⟩ := len_cons s18; obtain ⟨u20, t20, e20, s20⟩ := len_cons s19; obtain ⟨u21, t21, e21, s21⟩ := len_cons s20; obtain ⟨u22, t22, e22, s22⟩ := len_cons s21; obtain ⟨u23, t23, e23, s23⟩ := len_cons s22; obtain ⟨u24, t24, e24, s24⟩ := len_cons s23; obtain ⟨u25, t25, e25, s25⟩ := len_cons s24; obtain ⟨u26, t26, e26, s26⟩ := len_cons s25; obtain ⟨u27, t27, e27, s27⟩ := len_cons s26; obtain ⟨u28, t28, e28, s28⟩ := len_cons s27; obtain ⟨u29, t29, e29, s29⟩ := len_cons s28; obtain ⟨u30, t30, e30, s30⟩ := len_cons s29; obtain ⟨u31, t31, e31, s31⟩ := len_cons s30; obtain ⟨u32, t32, e32, s32⟩ := len_cons s31; obtain ⟨u33, t33, e33, s33⟩ := len_cons s32; obtain ⟨u34, t34, e34, s34⟩ := len_cons s33; obtain ⟨u35, t35, e35, s35⟩ := len_cons s34; obtain ⟨u36, t36, e36, s36⟩ := len_cons s35; obtain ⟨u37, t37, e37, s37⟩ := len_cons s36
        obtain rfl := len_nil s37
        clear hus s0 s1 s2 s3 s4 s5 s6 s7 s8 s9 s10 s11 s12 s13 s14 s15 s16 s17 s18 s19 s20 s21 s22 s23 s24 s25 s26 s27 s28 s29 s30 s31 s32 s33 s34 s35 s36 s37
        subst e37 e36 e35 e34 e33 e32 e31 e30 e29 e28 e27 e26 e25 e24 e23 e22 e21 e20 e19 e18 e17 e16 e15 e14 e13 e12 e11 e10 e9 e8 e7 e6 e5 e4 e3 e2 e1 e0
        have h31 : u31 = .string s2' := h 31 (by kernel_rfl)
        have h25 : u25 = .bool true := h 25 (by kernel_rfl)
        clear h
        simp only [over, Act.put, List.setIfInBounds_toArray, List.set_cons_zero, List.set_cons_succ]
        subst h31 h25
        have hz := HZ2.out
        go_wp2_with fail
        exact postK_normal ⟨_, rfl, rfl, Rc.refl _ _⟩
      refine AllSteps.cons (fun us hus w' x h => ?_) ?_
      · obtain ⟨u0, t0, e0, s0⟩ := len_cons hus; obtain ⟨u1, t1, e1, s1⟩ := len_cons s0; obtain ⟨u2, t2, e2, s2⟩ := len_cons s1; obtain ⟨u3, t3, e3, s3⟩ := len_cons s2; obtain ⟨u4, t4, e4, s4⟩ := len_cons s3; obtain ⟨u5, t5, e5, s5⟩ := len_cons s4; obtain ⟨u6, t6, e6, s6⟩ := len_cons s5; obtain ⟨u7, t7, e7, s7⟩ := len_cons s6; obtain ⟨u8, t8, e8, s8⟩ := len_cons s7; obtain ⟨u9, t9, e9, s9⟩ := len_cons s8; obtain ⟨u10, t10, e10, s10⟩ := len_cons s9; obtain ⟨u11, t11, e11, s11⟩ := len_cons s10; obtain ⟨u12, t12, e12, s12⟩ := len_cons s11; obtain ⟨u13, t13, e13, s13⟩ := len_cons s12; obtain ⟨u14, t14, e14, s14⟩ := len_cons s13; obtain ⟨u15, t15, e15, s15⟩ := len_cons s14; obtain ⟨u16, t16, e16, s16⟩ := len_cons s15; obtain ⟨u17, t17, e17, s17⟩ := len_cons s16; obtain ⟨u18, t18, e18, s18⟩ := len_cons s17; obtain ⟨u19, t19, e19, s19⟩ := len_cons s18; obtain ⟨u20, t20, e20, s20⟩ := len_cons s19; obtain ⟨u21, t21, e21, s21⟩ := len_cons s20; obtain ⟨u22, t22, e22, s22⟩ := len_cons s21; obtain ⟨u23, t23, e23, s23⟩ := len_cons s22; obtain ⟨u24, t24, e24, s24⟩ := len_cons s23; obtain ⟨u25, t25, e25, s25⟩ := len_cons s24; obtain ⟨u26, t26, e26, s26⟩ := len_cons s25; obtain ⟨u27, t27, e27, s27⟩ := len_cons s26; obtain ⟨u28, t28, e28, s28⟩ := len_cons s27; obtain ⟨u29, t29, e29, s29⟩ := len_cons s28; obtain ⟨u30, t30, e30, s30⟩ := len_cons s29; obtain ⟨u31, t31, e31, s31⟩ := len_cons s30; obtain ⟨u32, t32, e32, s32⟩ := len_cons s31; obtain ⟨u33, t33, e33, s33⟩ := len_cons s32; obtain ⟨u34, t34, e34, s34⟩ := len_cons s33; obtain ⟨u35, t35, e35, s35⟩ := len_cons s34; obtain ⟨u36, t36, e36, s36⟩ := len_cons s35; obtain ⟨u37, t37, e37, s37⟩ := len_cons s36
        obtain rfl := len_nil s37
        clear hus s0 s1 s2 s3 s4 s5 s6 s7 s8 s9 s10 s11 s12 s13 s14 s15 s16 s17 s18 s19 s20 s21 s22 s23 s24 s25 s26 s27 s28 s29 s30 s31 s32 s33 s34 s35 s36 s37
        subst e37 e36 e35 e34 e33 e32 e31 e30 e29 e28 e27 e26 e25 e24 e23 e22 e21 e20 e19 e18 e17 e16 e15 e14 e13 e12 e11 e10 e9 e8 e7 e6 e5 e4 e3 e2 e1 e0
        have h25 : u25 = .bool true := h 25 (by kernel_rfl)
        clear h
        simp only [over, Act.put, List.setIfInBounds_toArray, List.set_cons_zero, List.set_cons_succ]
        subst h25
        go_wp2_with fail
        exact postK_normal ⟨_, rfl, rfl, Rc.refl _ _⟩
      refine AllSteps.cons (fun us hus w' x h => ?_) ?_
      · obtain ⟨u0, t0, e0, s0⟩ := len_cons hus; obtain ⟨u1, t1, e1, s1⟩ := len_cons s0; obtain ⟨u2, t2, e2, s2⟩ := len_cons s1; obtain ⟨u3, t3, e3, s3⟩ := len_cons s2; obtain ⟨u4, t4, e4, s4⟩ := len_cons s3; obtain ⟨u5, t5, e5, s5⟩ := len_cons s4; obtain ⟨u6, t6, e6, s6⟩ := len_cons s5; obtain ⟨u7, t7, e7, s7⟩ := len_cons s6; obtain ⟨u8, t8, e8, s8⟩ := len_cons s7; obtain ⟨u9, t9, e9, s9⟩ := len_cons s8; obtain ⟨u10, t10, e10, s10⟩ := len_cons s9; obtain ⟨u11, t11, e11, s11⟩ := len_cons s10; obtain ⟨u12, t12, e12, s12⟩ := len_cons s11; obtain ⟨u13, t13, e13, s13⟩ := len_cons s12; obtain ⟨u14, t14, e14, s14⟩ := len_cons s13; obtain ⟨u15, t15, e15, s15⟩ := len_cons s14; obtain ⟨u16, t16, e16, s16⟩ := len_cons s15; obtain ⟨u17, t17, e17, s17⟩ := len_cons s16; obtain ⟨u18, t18, e18, s18⟩ := len_cons s17; obtain ⟨u19, t19, e19, s19⟩ := len_cons s18; obtain ⟨u20, t20, e20, s20⟩ := len_cons s19; obtain ⟨u21, t21, e21, s21⟩ := len_cons s20; obtain ⟨u22, t22, e22, s22⟩ := len_cons s21; obtain ⟨u23, t23, e23, s23⟩ := len_cons s22; obtain ⟨u24, t24, e24, s24⟩ := len_cons s23; obtain ⟨u25, t25, e25, s25⟩ := len_cons s24; obtain ⟨u26, t26, e26, s26⟩ := len_cons s25; obtain ⟨u27, t27, e27, s27⟩ := len_cons s26; obtain ⟨u28, t28, e28, s28⟩ := len_cons s27; obtain ⟨u29, t29, e29, s29⟩ := len_cons s28; obtain ⟨u30, t30, e30, s30⟩ := len_cons s29; obtain ⟨u31, t31, e31, s31⟩ := len_cons s30; obtain ⟨u32, t32, e32, s32⟩ := len_cons s31; obtain ⟨u33, t33, e33, s33⟩ := len_cons s32; obtain ⟨u34, t34, e34, s34⟩ := len_cons s33; obtain ⟨u35, t35, e35, s35⟩ := len_cons s34; obtain ⟨u36, t36, e36, s36⟩ := len_cons s35; obtain ⟨u37, t37, e37, s37⟩ := len_cons s36
        obtain rfl := len_nil s37
        clear hus s0 s1 s2 s3 s4 s5 s6 s7 s8 s9 s10 s11 s12 s13 s14 s15 s16 s17 s18 s19 s20 s21 s22 s23 s24 s25 s26 s27 s28 s29 s30 s31 s32 s33 s34 s35 s36 s37
        subst e37 e36 e35 e34 e33 e32 e31 e30 e29 e28 e27 e26 e25 e24 e23 e22 e21 e20 e19 e18 e17 e16 e15 e14 e13 e12 e11 e10 e9 e8 e7 e6 e5 e4 e3 e2 e1 e0
        have h33 : u33 = .string a0 := h 33 (by kernel_rfl)
        have h25 : u25 = .bool true := h 25 (by kernel_rfl)
        clear h
        simp only [over, Act.put, List.setIfInBounds_toArray, List.set_cons_zero, List.set_cons_succ]
        subst h33 h25
        have hz := HZ0.out
        go_wp2_with fail
        exact postK_normal ⟨_, rfl, rfl, Rc.refl _ _⟩
      refine AllSteps.cons (fun us hus w' x h => ?_) ?_
      · obtain ⟨u0, t0, e0, s0⟩ := len_cons hus; obtain ⟨u1, t1, e1, s1⟩ := len_cons s0; obtain ⟨u2, t2, e2, s2⟩ := len_cons s1; obtain ⟨u3, t3, e3, s3⟩ := len_cons s2; obtain ⟨u4, t4, e4, s4⟩ := len_cons s3; obtain ⟨u5, t5, e5, s5⟩ := len_cons s4; obtain ⟨u6, t6, e6, s6⟩ := len_cons s5; obtain ⟨u7, t7, e7, s7⟩ := len_cons s6; obtain ⟨u8, t8, e8, s8⟩ := len_cons s7; obtain ⟨u9, t9, e9, s9⟩ := len_cons s8; obtain ⟨u10, t10, e10, s10⟩ := len_cons s9; obtain ⟨u11, t11, e11, s11⟩ := len_cons s10; obtain ⟨u12, t12, e12, s12⟩ := len_cons s11; obtain ⟨u13, t13, e13, s13⟩ := len_cons s12; obtain ⟨u14, t14, e14, s14⟩ := len_cons s13; obtain ⟨u15, t15, e15, s15⟩ := len_cons s14; obtain ⟨u16, t16, e16, s16⟩ := len_cons s15; obtain ⟨u17, t17, e17, s17⟩ := len_cons s16; obtain ⟨u18, t18, e18, s18⟩ := len_cons s17; obtain ⟨u19, t19, e19, s19⟩ := len_cons s18; obtain ⟨u20, t20, e20, s20⟩ := len_cons s19; obtain ⟨u21, t21, e21, s21⟩ := len_cons s20; obtain ⟨u22, t22, e22, s22⟩ := len_cons s21; obtain ⟨u23, t23, e23, s23⟩ := len_cons s22; obtain ⟨u24, t24, e24, s24⟩ := len_cons s23; obtain ⟨u25, t25, e25, s25⟩ := len_cons s24; obtain ⟨u26, t26, e26, s26⟩ := len_cons s25; obtain ⟨u27, t27, e27, s27⟩ := len_cons s26; obtain ⟨u28, t28, e28, s28⟩ := len_cons s27; obtain ⟨u29, t29, e29, s29⟩ := len_cons s28; obtain ⟨u30, t30, e30, s30⟩ := len_cons s29; obtain ⟨u31, t31, e31, s31⟩ := len_cons s30; obtain ⟨u32, t32, e32, s32⟩ := len_cons s31; obtain ⟨u33, t33, e33, s33⟩ := len_cons s32; obtain ⟨u34, t34, e34, s34⟩ := len_cons s33; obtain ⟨u35, t35, e35, s35⟩ := len_cons s34; obtain ⟨u36, t36, e36, s36⟩ := len_cons s35; obtain ⟨u37, t37, e37, s37⟩ := len_cons s36
        obtain rfl := len_nil s37
        clear hus s0 s1 s2 s3 s4 s5 s6 s7 s8 s9 s10 s11 s12 s13 s14 s15 s16 s17 s18 s19 s20 s21 s22 s23 s24 s25 s26 s27 s28 s29 s30 s31 s32 s33 s34 s35 s36 s37
        subst e37 e36 e35 e34 e33 e32 e31 e30 e29 e28 e27 e26 e25 e24 e23 e22 e21 e20 e19 e18 e17 e16 e15 e14 e13 e12 e11 e10 e9 e8 e7 e6 e5 e4 e3 e2 e1 e0
        have h32 : u32 = .bool bb := h 32 (by kernel_rfl)
        have h34 : u34 = .bool bb := h 34 (by kernel_rfl)
        have h25 : u25 = .bool true := h 25 (by kernel_rfl)
        clear h
        simp only [over, Act.put, List.setIfInBounds_toArray, List.set_cons_zero, List.set_cons_succ]
        subst h32 h34 h25
        go_wp2_with fail
        exact postK_normal ⟨_, rfl, by simp, Rc.refl _ _⟩
      refine AllSteps.cons (fun us hus w' x h => ?_) ?_
      · obtain ⟨u0, t0, e0, s0⟩ := len_cons hus; obtain ⟨u1, t1, e1, s1⟩ := len_cons s0; obtain ⟨u2, t2, e2, s2⟩ := len_cons s1; obtain ⟨u3, t3, e3, s3⟩ := len_cons s2; obtain ⟨u4, t4, e4, s4⟩ := len_cons s3; obtain ⟨u5, t5, e5, s5⟩ := len_cons s4; obtain ⟨u6, t6, e6, s6⟩ := len_cons s5; obtain ⟨u7, t7, e7, s7⟩ := len_cons s6; obtain ⟨u8, t8, e8, s8⟩ := len_cons s7; obtain ⟨u9, t9, e9, s9⟩ := len_cons s8; obtain ⟨u10, t10, e10, s10⟩ := len_cons s9; obtain ⟨u11, t11, e11, s11⟩ := len_cons s10; obtain ⟨u12, t12, e12, s12⟩ := len_cons s11; obtain ⟨u13, t13, e13, s13⟩ := len_cons s12; obtain ⟨u14, t14, e14, s14⟩ := len_cons s13; obtain ⟨u15, t15, e15, s15⟩ := len_cons s14; obtain ⟨u16, t16, e16, s16⟩ := len_cons s15; obtain ⟨u17, t17, e17, s17⟩ := len_cons s16; obtain ⟨u18, t18, e18, s18⟩ := len_cons s17; obtain ⟨u19, t19, e19, s19⟩ := len_cons s18; obtain ⟨u20, t20, e20, s20⟩ := len_cons s19; obtain ⟨u21, t21, e21, s21⟩ := len_cons s20; obtain ⟨u22, t22, e22, s22⟩ := len_cons s21; obtain ⟨u23, t23, e23, s23⟩ := len_cons s22; obtain ⟨u24, t24, e24, s24⟩ := len_cons s23; obtain ⟨u25, t25, e25, s25⟩ := len_cons s24; obtain ⟨u26, t26, e26, s26⟩ := len_cons s25; obtain ⟨u27, t27, e27, s27⟩ := len_cons s26; obtain ⟨u28, t28, e28, s28⟩ := len_cons s27; obtain ⟨u29, t29, e29, s29⟩ := len_cons s28; obtain ⟨u30, t30, e30, s30⟩ := len_cons s29; obtain ⟨u31, t31, e31, s31⟩ := len_cons s30; obtain ⟨u32, t32, e32, s32⟩ := len_cons s31; obtain ⟨u33, t33, e33, s33⟩ := len_cons s32; obtain ⟨u34, t34, e34, s34⟩ := len_cons s33; obtain ⟨u35, t35, e35, s35⟩ := len_cons s34; obtain ⟨u36, t36, e36, s36⟩ := len_cons s35; obtain ⟨u37, t37, e37, s37⟩ := len_cons s36
        obtain rfl := len_nil s37
        clear hus s0 s1 s2 s3 s4 s5 s6 s7 s8 s9 s10 s11 s12 s13 s14 s15 s16 s17 s18 s19 s20 s21 s22 s23 s24 s25 s26 s27 s28 s29 s30 s31 s32 s33 s34 s35 s36 s37
        subst e37 e36 e35 e34 e33 e32 e31 e30 e29 e28 e27 e26 e25 e24 e23 e22 e21 e20 e19 e18 e17 e16 e15 e14 e13 e12 e11 e10 e9 e8 e7 e6 e5 e4 e3 e2 e1 e0
        have h25 : u25 = .bool true := h 25 (by kernel_rfl)
        have h35 : u35 = .bool true := h 35 (by kernel_rfl)
        clear h
        simp only [over, Act.put, List.setIfInBounds_toArray, List.set_cons_zero, List.set_cons_succ]
        subst h25 h35
        go_wp2_with fail
        exact postK_normal ⟨_, rfl, rfl, Rc.refl _ _⟩
      refine AllSteps.cons (fun us hus w' x h => ?_) ?_
      · obtain ⟨u0, t0, e0, s0⟩ := len_cons hus; obtain ⟨u1, t1, e1, s1⟩ := len_cons s0; obtain ⟨u2, t2, e2, s2⟩ := len_cons s1; obtain ⟨u3, t3, e3, s3⟩ := len_cons s2; obtain ⟨u4, t4, e4, s4⟩ := len_cons s3; obtain ⟨u5, t5, e5, s5⟩ := len_cons s4; obtain ⟨u6, t6, e6, s6⟩ := len_cons s5; obtain ⟨u7, t7, e7, s7⟩ := len_cons s6; obtain ⟨u8, t8, e8, s8⟩ := len_cons s7; obtain ⟨u9, t9, e9, s9⟩ := len_cons s8; obtain ⟨u10, t10, e10, s10⟩ := len_cons s9; obtain ⟨u11, t11, e11, s11⟩ := len_cons s10; obtain ⟨u12, t12, e12, s12⟩ := len_cons s11; obtain ⟨u13, t13, e13, s13⟩ := len_cons s12; obtain ⟨u14, t14, e14, s14⟩ := len_cons s13; obtain ⟨u15, t15, e15, s15⟩ := len_cons s14; obtain ⟨u16, t16, e16, s16⟩ := len_cons s15; obtain ⟨u17, t17, e17, s17⟩ := len_cons s16; obtain ⟨u18, t18, e18, s18⟩ := len_cons s17; obtain ⟨u19, t19, e19, s19⟩ := len_cons s18; obtain ⟨u20, t20, e20, s20⟩ := len_cons s19; obtain ⟨u21, t21, e21, s21⟩ := len_cons s20; obtain ⟨u22, t22, e22, s22⟩ := len_cons s21; obtain ⟨u23, t23, e23, s23⟩ := len_cons s22; obtain ⟨u24, t24, e24, s24⟩ := len_cons s23; obtain ⟨u25, t25, e25, s25⟩ := len_cons s24; obtain ⟨u26, t26, e26, s26⟩ := len_cons s25; obtain ⟨u27, t27, e27, s27⟩ := len_cons s26; obtain ⟨u28, t28, e28, s28⟩ := len_cons s27; obtain ⟨u29, t29, e29, s29⟩ := len_cons s28; obtain ⟨u30, t30, e30, s30⟩ := len_cons s29; obtain ⟨u31, t31, e31, s31⟩ := len_cons s30; obtain ⟨u32, t32, e32, s32⟩ := len_cons s31; obtain ⟨u33, t33, e33, s33⟩ := len_cons s32; obtain ⟨u34, t34, e34, s34⟩ := len_cons s33; obtain ⟨u35, t35, e35, s35⟩ := len_cons s34; obtain ⟨u36, t36, e36, s36⟩ := len_cons s35; obtain ⟨u37, t37, e37, s37⟩ := len_cons s36
        obtain rfl := len_nil s37
        clear hus s0 s1 s2 s3 s4 s5 s6 s7 s8 s9 s10 s11 s12 s13 s14 s15 s16 s17 s18 s19 s20 s21 s22 s23 s24 s25 s26 s27 s28 s29 s30 s31 s32 s33 s34 s35 s36 s37
        subst e37 e36 e35 e34 e33 e32 e31 e30 e29 e28 e27 e26 e25 e24 e23 e22 e21 e20 e19 e18 e17 e16 e15 e14 e13 e12 e11 e10 e9 e8 e7 e6 e5 e4 e3 e2 e1 e0
        have h36 : u36 = .bool true := h 36 (by kernel_rfl)
        clear h
        simp only [over, Act.put, List.setIfInBounds_toArray, List.set_cons_zero, List.set_cons_succ]
        subst h36
        go_wp2_with fail
        exact postK_normal ⟨_, rfl, rfl, Rc.refl _ _⟩
      exact AllSteps.nil
    case fin =>
      intro us hus w' x h
      obtain ⟨u0, t0, e0, s0⟩ := len_cons hus; obtain ⟨u1, t1, e1, s1⟩ := len_cons s0; obtain ⟨u2, t2, e2, s2⟩ := len_cons s1; obtain ⟨u3, t3, e3, s3⟩ := len_cons s2; obtain ⟨u4, t4, e4, s4⟩ := len_cons s3; obtain ⟨u5, t5, e5, s5⟩ := len_cons s4; obtain ⟨u6, t6, e6, s6⟩ := len_cons s5; obtain ⟨u7, t7, e7, s7⟩ := len_cons s6; obtain ⟨u8, t8, e8, s8⟩ := len_cons s7; obtain ⟨u9, t9, e9, s9⟩ := len_cons s8; obtain ⟨u10, t10, e10, s10⟩ := len_cons s9; obtain ⟨u11, t11, e11, s11⟩ := len_cons s10; obtain ⟨u12, t12, e12, s12⟩ := len_cons s11; obtain ⟨u13, t13, e13, s13⟩ := len_cons s12; obtain ⟨u14, t14, e14, s14⟩ := len_cons s13; obtain ⟨u15, t15, e15, s15⟩ := len_cons s14; obtain ⟨u16, t16, e16, s16⟩ := len_cons s15; obtain ⟨u17, t17, e17, s17⟩ := len_cons s16; obtain ⟨u18, t18, e18, s18⟩ := len_cons s17; obtain ⟨u19, t19, e19, s19⟩ := len_cons s18; obtain ⟨u20, t20, e20, s20⟩ := len_cons s19; obtain ⟨u21, t21, e21, s21⟩ := len_cons s20; obtain ⟨u22, t22, e22, s22⟩ := len_cons s21; obtain ⟨u23, t23, e23, s23⟩ := len_cons s22; obtain ⟨u24, t24, e24, s24⟩ := len_cons s23; obtain ⟨u25, t25, e25, s25⟩ := len_cons s24; obtain ⟨u26, t26, e26, s26⟩ := len_cons s25; obtain ⟨u27, t27, e27, s27⟩ := len_cons s26; obtain ⟨u28, t28, e28, s28⟩ := len_cons s27; obtain ⟨u29, t29, e29, s29⟩ := len_cons s28; obtain ⟨u30, t30, e30, s30⟩ := len_cons s29; obtain ⟨u31, t31, e31, s31⟩ := len_cons s30; obtain ⟨u32, t32, e32, s32⟩ := len_cons s31; obtain ⟨u33, t33, e33, s33⟩ := len_cons s32; obtain ⟨u34, t34, e34, s34⟩ := len_cons s33; obtain ⟨u35, t35, e35, s35⟩ := len_cons s34; obtain ⟨u36, t36, e36, s36⟩ := len_cons s35; obtain ⟨u37, t37, e37, s37⟩ := len_cons s36
      obtain rfl := len_nil s37
      clear hus s0 s1 s2 s3 s4 s5 s6 s7 s8 s9 s10 s11 s12 s13 s14 s15 s16 s17 s18 s19 s20 s21 s22 s23 s24 s25 s26 s27 s28 s29 s30 s31 s32 s33 s34 s35 s36 s37
      subst e37 e36 e35 e34 e33 e32 e31 e30 e29 e28 e27 e26 e25 e24 e23 e22 e21 e20 e19 e18 e17 e16 e15 e14 e13 e12 e11 e10 e9 e8 e7 e6 e5 e4 e3 e2 e1 e0
      have h37 : u37 = .bool true := h 37 (by decide)
      clear h
      subst h37
      simp only [over, Act.put, List.setIfInBounds_toArray, List.set_cons_zero, List.set_cons_succ]
      go_wp2_with fail
      go_meet
      exact ⟨rfl, x⟩
  case rest =>
    obtain ⟨rfl, x5⟩ := hcut
    have B5 : Below w2.heap.size w2 wc := by have := x5.below; rw [← HN0.out] at this; exact this
    go_wp2_with fail
    go_ret
    exact ⟨rfl, HX.out.below.trans (B5.mono HX.out.size)⟩
end Go.Proofs.YtlbaoghebjaliaaDoor
