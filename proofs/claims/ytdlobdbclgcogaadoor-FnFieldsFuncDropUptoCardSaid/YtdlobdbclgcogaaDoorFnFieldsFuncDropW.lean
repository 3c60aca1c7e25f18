/- The walk of the law FnFieldsFuncDrop: it returns true where the text and the list have at most 2^20 elements. Printed by droplaws.py. -/
import Derived.Test.YtdlobdbclgcogaaDoorDropP
import Derived.Test.YtdlobdbclgcogaaDoorMapW
import Derived.Test.YtdlobdbclgcogaaDoorFieldsW
import Derived.Test.YtdlobdbclgcogaaDoorGlued
import Derived.Test.YtdlobdbclgcogaaDoorMono
import Derived.Deep.DeepCutAuto
namespace Go.Proofs.YtdlobdbclgcogaaDoor
open Go.RowKit

theorem is_nil (w : World) : Is w (.slice none 0 0) [] := ⟨rfl, none, 0, rfl, Nat.le_refl _, Nat.zero_le _, .inl rfl⟩
theorem flatten_size : ∀ L : List (List UInt8), L.flatten.length = sizeL' L
  | [] => rfl
  | l :: L => by rw [List.flatten_cons, List.length_append, sizeL'_cons, flatten_size L]
theorem image_nil_le' : ∀ r : Int, 0 ≤ r → r ≤ 1114111 → imageT [] r ≤ 2147483647 := fun r _ h => by show r ≤ _; omega

set_option maxRecDepth 100000 in
set_option maxHeartbeats 8000000 in
theorem FnFieldsFuncDrop_walk (w : World) (hT : Tabs w) (a0 : ByteArray) (z0 : a0.size ≤ 1048576) (v1 : Value) (rs : List Int) (b1 : Is w v1 rs) (z1 : rs.length ≤ 1048576) :
    Calls Tryd.prog 3 #[.string a0, v1] w fun e w' => e = .returned (.bool true) ∧ Below w.heap.size w w' := by
  have hmax : a0.size ≤ maxLen := by unfold maxLen; omega
  have cW := spec_Whole a0 w (by omega)
  have HSELF := Lib.hid (mapB_self a0.data.toList)
  have HDF := Lib.hid (drop_fields (fun r => imageT_dropT rs r) a0.data.toList)
  have hfl := fieldsB_len (holdsT rs false) a0.data.toList
  have hfs := fieldsB_size (holdsT rs false) a0.data.toList
  have es : a0.data.toList.length = a0.size := rfl
  rw [es] at hfl hfs
  obtain ⟨a1, c1, rfl, p1, q1, _⟩ := b1.raw
  have hc1 : c1 ≤ 9223372036854775807 := by unfold maxLen at q1; omega
  have HB1 := Lib.hid b1
  have HT := Lib.hid hT
  clear b1 hT es q1
  cases hw : wholeB a0.data.toList
  · rw [hw] at cW
    clear hw
    go_enter Tryd.func3, Tryd.ntmps3
    go_wp2_with (go_at_call 13; refine cW.mono ?_)
    rintro _ w1 ⟨rfl, x1⟩
    go_wp2_with fail
    go_ret
    exact ⟨rfl, x1.below⟩
  rw [hw] at cW
  have hS := HSELF.out.2 hw
  have hD := HDF.out hw
  have HWQ := Lib.hid (show (a0.data.toList == a0.toList) = true by rw [ByteArray.toList_eq]; simp)
  have HS := Lib.hid (show mapB (imageT []) a0.data.toList = a0.data.toList from hS)
  obtain ⟨L, hL⟩ : ∃ L, fieldsB (holdsT rs false) a0.data.toList = L := ⟨_, rfl⟩
  obtain ⟨rows, hrows⟩ : ∃ rows, dropT rs = rows := ⟨_, rfl⟩
  have HLE := Lib.hid (imageT_drop_le rs)
  rw [hL] at hD hfl hfs
  rw [hrows] at hD HLE
  obtain ⟨M, hM⟩ : ∃ M, mapB (imageT rows) a0.data.toList = M := ⟨_, rfl⟩
  rw [hM] at hD
  have HRW := Lib.hid (show rs.zip (List.replicate rs.length (-1)) = rows from hrows)
  have HL := Lib.hid hL
  have HM := Lib.hid hM
  have HG := Lib.hid hD.symm
  have HF := Lib.hid (show L.flatten.length ≤ 140737488355328 by have := flatten_size L; omega)
  clear hw HSELF HDF hS hD hL hrows hM hfs
  go_enter Tryd.func3, Tryd.ntmps3
  go_wp2_with (go_at_call 13; refine cW.mono ?_)
  rintro _ w1 ⟨rfl, x1⟩
  have HI1 := Lib.hid (HB1.out.ext x1)
  have HT1 := Lib.hid (HT.out.ext x1)
  have HX1 := Lib.hid x1
  obtain ⟨n, hn⟩ : ∃ n, w1.heap.size = n := ⟨_, rfl⟩
  clear cW x1 HB1 HT
  go_wp2_with fail
  go_loopg [5, 11] rs.length (fun k v i wr => ∃ (j : Nat) (rv : Value), j + k = rs.length ∧ i = .int .i64 (j : Int) ∧ rv = v ∧ wr.ownsRow n 21 1 rv j (List.replicate j (.int .i32 (-1))) ∧ Below n w1 wr)
  case atStart => exact ⟨0, _, by omega, rfl, rfl, World.ownsRow_nil _ _ _ _, Below.refl _ _⟩
  case round =>
    obtain ⟨j, rv, hj, rfl, rfl, hown, hbe⟩ := hrel
    have HO := Lib.hid hown
    have HB := Lib.hid hbe
    have HJ := Lib.hid hj
    have hnw : n ≤ wr.heap.size := by have := hbe.size; omega
    clear hown hbe
    by_cases hlt : j < rs.length
    · have hg : 0 < gk := by omega
      have HE := Lib.hid (show List.replicate (j + 1) (Value.int .i32 (-1)) = List.replicate j (Value.int .i32 (-1)) ++ [.int .i32 (-1)] from List.replicate_succ')
      clear hj
      have O1 := owns_keep HO.out (Ext.alloc wr (.cells #[.int .i32 (-1)] 21))
      have B1 := below_ext HB.out (Ext.alloc wr (.cells #[.int .i32 (-1)] 21)) hnw
      have hn1 : n ≤ (wr.alloc (.cells #[.int .i32 (-1)] 21)).heap.size := Nat.le_trans hnw (Ext.alloc wr _).size
      go_wp2_with (refine wpList_appendV rfl 22 _ _ rfl 21 1 4 _ Tryd.underlying22 info_i32 rfl (by omega) n _ j _ rfl O1 _ 1 _ [.int .i32 (-1)] rfl rfl (news_alloc _ _ _) (by simp [Value.oneCell']) (by omega) (by omega) hn1 ?_)
      intro v2 w2 o2 g2
      have B2 := owns_grown O1 g2 hn1 B1 (Nat.le_refl _)
      clear g2 O1 B1
      go_wp2_with fail
      go_roundg (gk - 1)
      case measure => omega
      case rel => exact ⟨j + 1, _, by have := HJ.out; omega, by go_num, rfl, by rw [HE.out]; exact o2, B2⟩
    · have hje : j = rs.length := by omega
      subst hje
      have XN : Ext w1 wr := ⟨by rw [hn]; exact HB.out⟩
      have iN : Is wr rv (List.replicate rs.length (-1)) := by
        have := vs_of_owns HO.out
        unfold Is
        rw [List.length_replicate, List.map_replicate]
        exact this
      obtain ⟨wn, hwn⟩ : ∃ wn, wn = wr := ⟨_, rfl⟩
      subst hwn
      clear HO HB HJ hj hnw
      have HI := Lib.hid (HI1.out.ext XN)
      have HT := Lib.hid (HT1.out.ext XN)
      have HN := Lib.hid iN
      have HX := Lib.hid (HX1.out.trans XN)
      clear HI1 HT1 HX1 iN XN hn
      go_upto_region 8 with fail
      go_cut [4] (fun s4 wx => s4 = .bool true ∧ Ext wn wx)
      case first =>
        refine wp_region_mono (by kernel_rfl) [17, 18, 19, 20, 21, 22, 23, 24, 25, 26, 27, 28, 29, 30, 31, 32, 33, 34, 35, 36, 37, 38, 39, 40, 4] (by kernel_rfl) (by decide) (by simp) (by kernel_rfl)
          (fun i => match i with | 0 => (fun v w => v = .string a0) | 1 => (fun v w => Bs w v a0.data.toList) | 2 => (fun v w => v = .slice a1 rs.length c1) | 3 => (fun v w => v = rv) | 4 => (fun v w => ∃ v7, v = .agg #[v7] ∧ Ts w v7 rows) | 5 => (fun v w => Bs w v M) | 6 => (fun v w => v = .string ⟨M.toArray⟩) | 7 => (fun v w => v = .string a0) | 8 => (fun v w => Bs w v a0.data.toList) | 9 => (fun v w => v = .slice a1 rs.length c1) | 10 => (fun v w => ∃ v7, v = .agg #[v7, .bool false] ∧ Is w v7 rs) | 11 => (fun v w => Ls w v L) | 12 => (fun v w => Ss w v L) | 13 => (fun v w => v = .string ⟨M.toArray⟩) | 14 => (fun v w => v = .bool true) | 15 => (fun v w => v = .bool true) | 16 => (fun v w => v = .string a0) | 17 => (fun v w => Bs w v a0.data.toList) | 18 => (fun v w => ∃ v7, v = .agg #[v7] ∧ Ts w v7 ([] : List (Int × Int))) | 19 => (fun v w => Bs w v a0.data.toList) | 20 => (fun v w => v = .string ⟨a0.data.toList.toArray⟩) | 21 => (fun v w => v = .string a0) | 22 => (fun v w => v = .bool true) | 23 => (fun v w => v = .bool true) | 24 => (fun v w => v = .bool true) | _ => fun _ _ => True) ?stable ?steps ?fin
        case stable =>
          intro i v w' w'' h x
          match i, h with
          | 0, h => exact h
          | 1, h => exact (show Bs w' v a0.data.toList from h).ext x
          | 2, h => exact h
          | 3, h => exact h
          | 4, ⟨v7, e7, i7⟩ => exact ⟨v7, e7, i7.ext x⟩
          | 5, h => exact (show Bs w' v M from h).ext x
          | 6, h => exact h
          | 7, h => exact h
          | 8, h => exact (show Bs w' v a0.data.toList from h).ext x
          | 9, h => exact h
          | 10, ⟨v7, e7, i7⟩ => exact ⟨v7, e7, i7.ext x⟩
          | 11, h => exact (show Ls w' v L from h).ext x
          | 12, h => exact (show Ss w' v L from h).ext x
          | 13, h => exact h
          | 14, h => exact h
          | 15, h => exact h
          | 16, h => exact h
          | 17, h => exact (show Bs w' v a0.data.toList from h).ext x
          | 18, ⟨v7, e7, i7⟩ => exact ⟨v7, e7, i7.ext x⟩
          | 19, h => exact (show Bs w' v a0.data.toList from h).ext x
          | 20, h => exact h
          | 21, h => exact h
          | 22, h => exact h
          | 23, h => exact h
          | 24, h => exact h
          | _ + 25, _ => trivial
        case steps =>
          refine AllSteps.cons (fun us hus w' x h => ?_) ?_
          · obtain ⟨u0, t0, e0, s0⟩ := len_cons hus; obtain ⟨u1, t1, e1, s1⟩ := len_cons s0; obtain ⟨u2, t2, e2, s2⟩ := len_cons s1; obtain ⟨u3, t3, e3, s3⟩ := len_cons s2; obtain ⟨u4, t4, e4, s4⟩ := len_cons s3; obtain ⟨u5, t5, e5, s5⟩ := len_cons s4; obtain ⟨u6, t6, e6, s6⟩ := len_cons s5; obtain ⟨u7, t7, e7, s7⟩ := len_cons s6; obtain ⟨u8, t8, e8, s8⟩ := len_cons s7; obtain ⟨u9, t9, e9, s9⟩ := len_cons s8; obtain ⟨u10, t10, e10, s10⟩ := len_cons s9; obtain ⟨u11, t11, e11, s11⟩ := len_cons s10; obtain ⟨u12, t12, e12, s12⟩ := len_cons s11; obtain ⟨u13, t13, e13, s13⟩ := len_cons s12; obtain ⟨u14, t14, e14, s14⟩ := len_cons s13; obtain ⟨u15, t15, e15, s15⟩ := len_cons s14; obtain ⟨u16, t16, e16, s16⟩ := len_cons s15; obtain ⟨u17, t17, e17, s17⟩ := len_cons s16; obtain ⟨u18, t18, e18, s18⟩ := len_cons s17; obtain ⟨u19, t19, e19, s19⟩ := len_cons s18; obtain ⟨u20, t20, e20, s20⟩ := len_cons s19; obtain ⟨u21, t21, e21, s21⟩ := len_cons s20; obtain ⟨u22, t22, e22, s22⟩ := len_cons s21; obtain ⟨u23, t23, e23, s23⟩ := len_cons s22; obtain ⟨u24, t24, e24, s24⟩ := len_cons s23
            obtain rfl := len_nil s24
            clear hus s0 s1 s2 s3 s4 s5 s6 s7 s8 s9 s10 s11 s12 s13 s14 s15 s16 s17 s18 s19 s20 s21 s22 s23 s24
            subst e24 e23 e22 e21 e20 e19 e18 e17 e16 e15 e14 e13 e12 e11 e10 e9 e8 e7 e6 e5 e4 e3 e2 e1 e0
            clear h
            simp only [over, Act.put, List.setIfInBounds_toArray, List.set_cons_zero, List.set_cons_succ]
            go_wp2_with fail
            exact postK_normal ⟨_, rfl, rfl, Ext.refl _⟩
          refine AllSteps.cons (fun us hus w' x h => ?_) ?_
          · obtain ⟨u0, t0, e0, s0⟩ := len_cons hus; obtain ⟨u1, t1, e1, s1⟩ := len_cons s0; obtain ⟨u2, t2, e2, s2⟩ := len_cons s1; obtain ⟨u3, t3, e3, s3⟩ := len_cons s2; obtain ⟨u4, t4, e4, s4⟩ := len_cons s3; obtain ⟨u5, t5, e5, s5⟩ := len_cons s4; obtain ⟨u6, t6, e6, s6⟩ := len_cons s5; obtain ⟨u7, t7, e7, s7⟩ := len_cons s6; obtain ⟨u8, t8, e8, s8⟩ := len_cons s7; obtain ⟨u9, t9, e9, s9⟩ := len_cons s8; obtain ⟨u10, t10, e10, s10⟩ := len_cons s9; obtain ⟨u11, t11, e11, s11⟩ := len_cons s10; obtain ⟨u12, t12, e12, s12⟩ := len_cons s11; obtain ⟨u13, t13, e13, s13⟩ := len_cons s12; obtain ⟨u14, t14, e14, s14⟩ := len_cons s13; obtain ⟨u15, t15, e15, s15⟩ := len_cons s14; obtain ⟨u16, t16, e16, s16⟩ := len_cons s15; obtain ⟨u17, t17, e17, s17⟩ := len_cons s16; obtain ⟨u18, t18, e18, s18⟩ := len_cons s17; obtain ⟨u19, t19, e19, s19⟩ := len_cons s18; obtain ⟨u20, t20, e20, s20⟩ := len_cons s19; obtain ⟨u21, t21, e21, s21⟩ := len_cons s20; obtain ⟨u22, t22, e22, s22⟩ := len_cons s21; obtain ⟨u23, t23, e23, s23⟩ := len_cons s22; obtain ⟨u24, t24, e24, s24⟩ := len_cons s23
            obtain rfl := len_nil s24
            clear hus s0 s1 s2 s3 s4 s5 s6 s7 s8 s9 s10 s11 s12 s13 s14 s15 s16 s17 s18 s19 s20 s21 s22 s23 s24
            subst e24 e23 e22 e21 e20 e19 e18 e17 e16 e15 e14 e13 e12 e11 e10 e9 e8 e7 e6 e5 e4 e3 e2 e1 e0
            have h0 : u0 = .string a0 := h 0 (by kernel_rfl)
            clear h
            simp only [over, Act.put, List.setIfInBounds_toArray, List.set_cons_zero, List.set_cons_succ]
            subst h0
            go_wp2_with (refine wpList_toBytes rfl 9 24 _ rfl 5 Tryd.underlying9 Tryd.underlying24 Tryd.underlying5 _ rfl hmax ?_)
            intro v5 w5 o5 x5
            go_wp2_with fail
            exact postK_normal ⟨_, rfl, o5.bs, x5⟩
          refine AllSteps.cons (fun us hus w' x h => ?_) ?_
          · obtain ⟨u0, t0, e0, s0⟩ := len_cons hus; obtain ⟨u1, t1, e1, s1⟩ := len_cons s0; obtain ⟨u2, t2, e2, s2⟩ := len_cons s1; obtain ⟨u3, t3, e3, s3⟩ := len_cons s2; obtain ⟨u4, t4, e4, s4⟩ := len_cons s3; obtain ⟨u5, t5, e5, s5⟩ := len_cons s4; obtain ⟨u6, t6, e6, s6⟩ := len_cons s5; obtain ⟨u7, t7, e7, s7⟩ := len_cons s6; obtain ⟨u8, t8, e8, s8⟩ := len_cons s7; obtain ⟨u9, t9, e9, s9⟩ := len_cons s8; obtain ⟨u10, t10, e10, s10⟩ := len_cons s9; obtain ⟨u11, t11, e11, s11⟩ := len_cons s10; obtain ⟨u12, t12, e12, s12⟩ := len_cons s11; obtain ⟨u13, t13, e13, s13⟩ := len_cons s12; obtain ⟨u14, t14, e14, s14⟩ := len_cons s13; obtain ⟨u15, t15, e15, s15⟩ := len_cons s14; obtain ⟨u16, t16, e16, s16⟩ := len_cons s15; obtain ⟨u17, t17, e17, s17⟩ := len_cons s16; obtain ⟨u18, t18, e18, s18⟩ := len_cons s17; obtain ⟨u19, t19, e19, s19⟩ := len_cons s18; obtain ⟨u20, t20, e20, s20⟩ := len_cons s19; obtain ⟨u21, t21, e21, s21⟩ := len_cons s20; obtain ⟨u22, t22, e22, s22⟩ := len_cons s21; obtain ⟨u23, t23, e23, s23⟩ := len_cons s22; obtain ⟨u24, t24, e24, s24⟩ := len_cons s23
            obtain rfl := len_nil s24
            clear hus s0 s1 s2 s3 s4 s5 s6 s7 s8 s9 s10 s11 s12 s13 s14 s15 s16 s17 s18 s19 s20 s21 s22 s23 s24
            subst e24 e23 e22 e21 e20 e19 e18 e17 e16 e15 e14 e13 e12 e11 e10 e9 e8 e7 e6 e5 e4 e3 e2 e1 e0
            clear h
            simp only [over, Act.put, List.setIfInBounds_toArray, List.set_cons_zero, List.set_cons_succ]
            go_wp2_with fail
            exact postK_normal ⟨_, rfl, rfl, Ext.refl _⟩
          refine AllSteps.cons (fun us hus w' x h => ?_) ?_
          · obtain ⟨u0, t0, e0, s0⟩ := len_cons hus; obtain ⟨u1, t1, e1, s1⟩ := len_cons s0; obtain ⟨u2, t2, e2, s2⟩ := len_cons s1; obtain ⟨u3, t3, e3, s3⟩ := len_cons s2; obtain ⟨u4, t4, e4, s4⟩ := len_cons s3; obtain ⟨u5, t5, e5, s5⟩ := len_cons s4; obtain ⟨u6, t6, e6, s6⟩ := len_cons s5; obtain ⟨u7, t7, e7, s7⟩ := len_cons s6; obtain ⟨u8, t8, e8, s8⟩ := len_cons s7; obtain ⟨u9, t9, e9, s9⟩ := len_cons s8; obtain ⟨u10, t10, e10, s10⟩ := len_cons s9; obtain ⟨u11, t11, e11, s11⟩ := len_cons s10; obtain ⟨u12, t12, e12, s12⟩ := len_cons s11; obtain ⟨u13, t13, e13, s13⟩ := len_cons s12; obtain ⟨u14, t14, e14, s14⟩ := len_cons s13; obtain ⟨u15, t15, e15, s15⟩ := len_cons s14; obtain ⟨u16, t16, e16, s16⟩ := len_cons s15; obtain ⟨u17, t17, e17, s17⟩ := len_cons s16; obtain ⟨u18, t18, e18, s18⟩ := len_cons s17; obtain ⟨u19, t19, e19, s19⟩ := len_cons s18; obtain ⟨u20, t20, e20, s20⟩ := len_cons s19; obtain ⟨u21, t21, e21, s21⟩ := len_cons s20; obtain ⟨u22, t22, e22, s22⟩ := len_cons s21; obtain ⟨u23, t23, e23, s23⟩ := len_cons s22; obtain ⟨u24, t24, e24, s24⟩ := len_cons s23
            obtain rfl := len_nil s24
            clear hus s0 s1 s2 s3 s4 s5 s6 s7 s8 s9 s10 s11 s12 s13 s14 s15 s16 s17 s18 s19 s20 s21 s22 s23 s24
            subst e24 e23 e22 e21 e20 e19 e18 e17 e16 e15 e14 e13 e12 e11 e10 e9 e8 e7 e6 e5 e4 e3 e2 e1 e0
            clear h
            simp only [over, Act.put, List.setIfInBounds_toArray, List.set_cons_zero, List.set_cons_succ]
            go_wp2_with fail
            exact postK_normal ⟨_, rfl, rfl, Ext.refl _⟩
          refine AllSteps.cons (fun us hus w' x h => ?_) ?_
          · obtain ⟨u0, t0, e0, s0⟩ := len_cons hus; obtain ⟨u1, t1, e1, s1⟩ := len_cons s0; obtain ⟨u2, t2, e2, s2⟩ := len_cons s1; obtain ⟨u3, t3, e3, s3⟩ := len_cons s2; obtain ⟨u4, t4, e4, s4⟩ := len_cons s3; obtain ⟨u5, t5, e5, s5⟩ := len_cons s4; obtain ⟨u6, t6, e6, s6⟩ := len_cons s5; obtain ⟨u7, t7, e7, s7⟩ := len_cons s6; obtain ⟨u8, t8, e8, s8⟩ := len_cons s7; obtain ⟨u9, t9, e9, s9⟩ := len_cons s8; obtain ⟨u10, t10, e10, s10⟩ := len_cons s9; obtain ⟨u11, t11, e11, s11⟩ := len_cons s10; obtain ⟨u12, t12, e12, s12⟩ := len_cons s11; obtain ⟨u13, t13, e13, s13⟩ := len_cons s12; obtain ⟨u14, t14, e14, s14⟩ := len_cons s13; obtain ⟨u15, t15, e15, s15⟩ := len_cons s14; obtain ⟨u16, t16, e16, s16⟩ := len_cons s15; obtain ⟨u17, t17, e17, s17⟩ := len_cons s16; obtain ⟨u18, t18, e18, s18⟩ := len_cons s17; obtain ⟨u19, t19, e19, s19⟩ := len_cons s18; obtain ⟨u20, t20, e20, s20⟩ := len_cons s19; obtain ⟨u21, t21, e21, s21⟩ := len_cons s20; obtain ⟨u22, t22, e22, s22⟩ := len_cons s21; obtain ⟨u23, t23, e23, s23⟩ := len_cons s22; obtain ⟨u24, t24, e24, s24⟩ := len_cons s23
            obtain rfl := len_nil s24
            clear hus s0 s1 s2 s3 s4 s5 s6 s7 s8 s9 s10 s11 s12 s13 s14 s15 s16 s17 s18 s19 s20 s21 s22 s23 s24
            subst e24 e23 e22 e21 e20 e19 e18 e17 e16 e15 e14 e13 e12 e11 e10 e9 e8 e7 e6 e5 e4 e3 e2 e1 e0
            have h2 : u2 = .slice a1 rs.length c1 := h 2 (by kernel_rfl)
            have h3 : u3 = rv := h 3 (by kernel_rfl)
            clear h
            simp only [over, Act.put, List.setIfInBounds_toArray, List.set_cons_zero, List.set_cons_succ]
            subst h2
            subst h3
            have c5 := laws_table _ _ rs _ _ (HI.out.ext x) (HN.out.ext x) (by omega)
            rw [HRW.out] at c5
            go_wp2_with (go_at_call 15; refine c5.mono ?_)
            rintro _ w5 ⟨v5, rfl, o5, x5⟩
            go_wp2_with fail
            exact postK_normal ⟨_, rfl, ⟨_, rfl, o5⟩, x5⟩
          refine AllSteps.cons (fun us hus w' x h => ?_) ?_
          · obtain ⟨u0, t0, e0, s0⟩ := len_cons hus; obtain ⟨u1, t1, e1, s1⟩ := len_cons s0; obtain ⟨u2, t2, e2, s2⟩ := len_cons s1; obtain ⟨u3, t3, e3, s3⟩ := len_cons s2; obtain ⟨u4, t4, e4, s4⟩ := len_cons s3; obtain ⟨u5, t5, e5, s5⟩ := len_cons s4; obtain ⟨u6, t6, e6, s6⟩ := len_cons s5; obtain ⟨u7, t7, e7, s7⟩ := len_cons s6; obtain ⟨u8, t8, e8, s8⟩ := len_cons s7; obtain ⟨u9, t9, e9, s9⟩ := len_cons s8; obtain ⟨u10, t10, e10, s10⟩ := len_cons s9; obtain ⟨u11, t11, e11, s11⟩ := len_cons s10; obtain ⟨u12, t12, e12, s12⟩ := len_cons s11; obtain ⟨u13, t13, e13, s13⟩ := len_cons s12; obtain ⟨u14, t14, e14, s14⟩ := len_cons s13; obtain ⟨u15, t15, e15, s15⟩ := len_cons s14; obtain ⟨u16, t16, e16, s16⟩ := len_cons s15; obtain ⟨u17, t17, e17, s17⟩ := len_cons s16; obtain ⟨u18, t18, e18, s18⟩ := len_cons s17; obtain ⟨u19, t19, e19, s19⟩ := len_cons s18; obtain ⟨u20, t20, e20, s20⟩ := len_cons s19; obtain ⟨u21, t21, e21, s21⟩ := len_cons s20; obtain ⟨u22, t22, e22, s22⟩ := len_cons s21; obtain ⟨u23, t23, e23, s23⟩ := len_cons s22; obtain ⟨u24, t24, e24, s24⟩ := len_cons s23
            obtain rfl := len_nil s24
            clear hus s0 s1 s2 s3 s4 s5 s6 s7 s8 s9 s10 s11 s12 s13 s14 s15 s16 s17 s18 s19 s20 s21 s22 s23 s24
            subst e24 e23 e22 e21 e20 e19 e18 e17 e16 e15 e14 e13 e12 e11 e10 e9 e8 e7 e6 e5 e4 e3 e2 e1 e0
            have h1 : Bs w' u1 a0.data.toList := h 1 (by kernel_rfl)
            have h4 : ∃ v7, u4 = .agg #[v7] ∧ Ts w' v7 rows := h 4 (by kernel_rfl)
            clear h
            simp only [over, Act.put, List.setIfInBounds_toArray, List.set_cons_zero, List.set_cons_succ]
            obtain ⟨v7, e7, i7⟩ := h4
            obtain ⟨ta, tc, te, _⟩ := i7.raw
            subst te
            subst e7
            have c5 := impl_Map _ _ rows _ _ i7 h1 (HT.out.ext x) (by show a0.size ≤ _; omega) HLE.out
            rw [HM.out] at c5
            go_wp2_with (go_at_call 14; refine c5.mono ?_)
            rintro _ w5 ⟨v5, rfl, o5, x5⟩
            go_wp2_with fail
            exact postK_normal ⟨_, rfl, o5.bs, x5⟩
          refine AllSteps.cons (fun us hus w' x h => ?_) ?_
          · obtain ⟨u0, t0, e0, s0⟩ := len_cons hus; obtain ⟨u1, t1, e1, s1⟩ := len_cons s0; obtain ⟨u2, t2, e2, s2⟩ := len_cons s1; obtain ⟨u3, t3, e3, s3⟩ := len_cons s2; obtain ⟨u4, t4, e4, s4⟩ := len_cons s3; obtain ⟨u5, t5, e5, s5⟩ := len_cons s4; obtain ⟨u6, t6, e6, s6⟩ := len_cons s5; obtain ⟨u7, t7, e7, s7⟩ := len_cons s6; obtain ⟨u8, t8, e8, s8⟩ := len_cons s7; obtain ⟨u9, t9, e9, s9⟩ := len_cons s8; obtain ⟨u10, t10, e10, s10⟩ := len_cons s9; obtain ⟨u11, t11, e11, s11⟩ := len_cons s10; obtain ⟨u12, t12, e12, s12⟩ := len_cons s11; obtain ⟨u13, t13, e13, s13⟩ := len_cons s12; obtain ⟨u14, t14, e14, s14⟩ := len_cons s13; obtain ⟨u15, t15, e15, s15⟩ := len_cons s14; obtain ⟨u16, t16, e16, s16⟩ := len_cons s15; obtain ⟨u17, t17, e17, s17⟩ := len_cons s16; obtain ⟨u18, t18, e18, s18⟩ := len_cons s17; obtain ⟨u19, t19, e19, s19⟩ := len_cons s18; obtain ⟨u20, t20, e20, s20⟩ := len_cons s19; obtain ⟨u21, t21, e21, s21⟩ := len_cons s20; obtain ⟨u22, t22, e22, s22⟩ := len_cons s21; obtain ⟨u23, t23, e23, s23⟩ := len_cons s22; obtain ⟨u24, t24, e24, s24⟩ := len_cons s23
            obtain rfl := len_nil s24
            clear hus s0 s1 s2 s3 s4 s5 s6 s7 s8 s9 s10 s11 s12 s13 s14 s15 s16 s17 s18 s19 s20 s21 s22 s23 s24
            subst e24 e23 e22 e21 e20 e19 e18 e17 e16 e15 e14 e13 e12 e11 e10 e9 e8 e7 e6 e5 e4 e3 e2 e1 e0
            have h5 : Bs w' u5 M := h 5 (by kernel_rfl)
            clear h
            simp only [over, Act.put, List.setIfInBounds_toArray, List.set_cons_zero, List.set_cons_succ]
            go_wp2_with (refine wpList_toString rfl 24 9 _ rfl 5 Tryd.underlying24 Tryd.underlying5 Tryd.underlying9 _ _ rfl h5 ?_)
            exact postK_normal ⟨_, rfl, rfl, Ext.refl _⟩
          refine AllSteps.cons (fun us hus w' x h => ?_) ?_
          · obtain ⟨u0, t0, e0, s0⟩ := len_cons hus; obtain ⟨u1, t1, e1, s1⟩ := len_cons s0; obtain ⟨u2, t2, e2, s2⟩ := len_cons s1; obtain ⟨u3, t3, e3, s3⟩ := len_cons s2; obtain ⟨u4, t4, e4, s4⟩ := len_cons s3; obtain ⟨u5, t5, e5, s5⟩ := len_cons s4; obtain ⟨u6, t6, e6, s6⟩ := len_cons s5; obtain ⟨u7, t7, e7, s7⟩ := len_cons s6; obtain ⟨u8, t8, e8, s8⟩ := len_cons s7; obtain ⟨u9, t9, e9, s9⟩ := len_cons s8; obtain ⟨u10, t10, e10, s10⟩ := len_cons s9; obtain ⟨u11, t11, e11, s11⟩ := len_cons s10; obtain ⟨u12, t12, e12, s12⟩ := len_cons s11; obtain ⟨u13, t13, e13, s13⟩ := len_cons s12; obtain ⟨u14, t14, e14, s14⟩ := len_cons s13; obtain ⟨u15, t15, e15, s15⟩ := len_cons s14; obtain ⟨u16, t16, e16, s16⟩ := len_cons s15; obtain ⟨u17, t17, e17, s17⟩ := len_cons s16; obtain ⟨u18, t18, e18, s18⟩ := len_cons s17; obtain ⟨u19, t19, e19, s19⟩ := len_cons s18; obtain ⟨u20, t20, e20, s20⟩ := len_cons s19; obtain ⟨u21, t21, e21, s21⟩ := len_cons s20; obtain ⟨u22, t22, e22, s22⟩ := len_cons s21; obtain ⟨u23, t23, e23, s23⟩ := len_cons s22; obtain ⟨u24, t24, e24, s24⟩ := len_cons s23
            obtain rfl := len_nil s24
            clear hus s0 s1 s2 s3 s4 s5 s6 s7 s8 s9 s10 s11 s12 s13 s14 s15 s16 s17 s18 s19 s20 s21 s22 s23 s24
            subst e24 e23 e22 e21 e20 e19 e18 e17 e16 e15 e14 e13 e12 e11 e10 e9 e8 e7 e6 e5 e4 e3 e2 e1 e0
            clear h
            simp only [over, Act.put, List.setIfInBounds_toArray, List.set_cons_zero, List.set_cons_succ]
            go_wp2_with fail
            exact postK_normal ⟨_, rfl, rfl, Ext.refl _⟩
          refine AllSteps.cons (fun us hus w' x h => ?_) ?_
          · obtain ⟨u0, t0, e0, s0⟩ := len_cons hus; obtain ⟨u1, t1, e1, s1⟩ := len_cons s0; obtain ⟨u2, t2, e2, s2⟩ := len_cons s1; obtain ⟨u3, t3, e3, s3⟩ := len_cons s2; obtain ⟨u4, t4, e4, s4⟩ := len_cons s3; obtain ⟨u5, t5, e5, s5⟩ := len_cons s4; obtain ⟨u6, t6, e6, s6⟩ := len_cons s5; obtain ⟨u7, t7, e7, s7⟩ := len_cons s6; obtain ⟨u8, t8, e8, s8⟩ := len_cons s7; obtain ⟨u9, t9, e9, s9⟩ := len_cons s8; obtain ⟨u10, t10, e10, s10⟩ := len_cons s9; obtain ⟨u11, t11, e11, s11⟩ := len_cons s10; obtain ⟨u12, t12, e12, s12⟩ := len_cons s11; obtain ⟨u13, t13, e13, s13⟩ := len_cons s12; obtain ⟨u14, t14, e14, s14⟩ := len_cons s13; obtain ⟨u15, t15, e15, s15⟩ := len_cons s14; obtain ⟨u16, t16, e16, s16⟩ := len_cons s15; obtain ⟨u17, t17, e17, s17⟩ := len_cons s16; obtain ⟨u18, t18, e18, s18⟩ := len_cons s17; obtain ⟨u19, t19, e19, s19⟩ := len_cons s18; obtain ⟨u20, t20, e20, s20⟩ := len_cons s19; obtain ⟨u21, t21, e21, s21⟩ := len_cons s20; obtain ⟨u22, t22, e22, s22⟩ := len_cons s21; obtain ⟨u23, t23, e23, s23⟩ := len_cons s22; obtain ⟨u24, t24, e24, s24⟩ := len_cons s23
            obtain rfl := len_nil s24
            clear hus s0 s1 s2 s3 s4 s5 s6 s7 s8 s9 s10 s11 s12 s13 s14 s15 s16 s17 s18 s19 s20 s21 s22 s23 s24
            subst e24 e23 e22 e21 e20 e19 e18 e17 e16 e15 e14 e13 e12 e11 e10 e9 e8 e7 e6 e5 e4 e3 e2 e1 e0
            have h7 : u7 = .string a0 := h 7 (by kernel_rfl)
            clear h
            simp only [over, Act.put, List.setIfInBounds_toArray, List.set_cons_zero, List.set_cons_succ]
            subst h7
            go_wp2_with (refine wpList_toBytes rfl 9 24 _ rfl 5 Tryd.underlying9 Tryd.underlying24 Tryd.underlying5 _ rfl hmax ?_)
            intro v5 w5 o5 x5
            go_wp2_with fail
            exact postK_normal ⟨_, rfl, o5.bs, x5⟩
          refine AllSteps.cons (fun us hus w' x h => ?_) ?_
          · obtain ⟨u0, t0, e0, s0⟩ := len_cons hus; obtain ⟨u1, t1, e1, s1⟩ := len_cons s0; obtain ⟨u2, t2, e2, s2⟩ := len_cons s1; obtain ⟨u3, t3, e3, s3⟩ := len_cons s2; obtain ⟨u4, t4, e4, s4⟩ := len_cons s3; obtain ⟨u5, t5, e5, s5⟩ := len_cons s4; obtain ⟨u6, t6, e6, s6⟩ := len_cons s5; obtain ⟨u7, t7, e7, s7⟩ := len_cons s6; obtain ⟨u8, t8, e8, s8⟩ := len_cons s7; obtain ⟨u9, t9, e9, s9⟩ := len_cons s8; obtain ⟨u10, t10, e10, s10⟩ := len_cons s9; obtain ⟨u11, t11, e11, s11⟩ := len_cons s10; obtain ⟨u12, t12, e12, s12⟩ := len_cons s11; obtain ⟨u13, t13, e13, s13⟩ := len_cons s12; obtain ⟨u14, t14, e14, s14⟩ := len_cons s13; obtain ⟨u15, t15, e15, s15⟩ := len_cons s14; obtain ⟨u16, t16, e16, s16⟩ := len_cons s15; obtain ⟨u17, t17, e17, s17⟩ := len_cons s16; obtain ⟨u18, t18, e18, s18⟩ := len_cons s17; obtain ⟨u19, t19, e19, s19⟩ := len_cons s18; obtain ⟨u20, t20, e20, s20⟩ := len_cons s19; obtain ⟨u21, t21, e21, s21⟩ := len_cons s20; obtain ⟨u22, t22, e22, s22⟩ := len_cons s21; obtain ⟨u23, t23, e23, s23⟩ := len_cons s22; obtain ⟨u24, t24, e24, s24⟩ := len_cons s23
            obtain rfl := len_nil s24
            clear hus s0 s1 s2 s3 s4 s5 s6 s7 s8 s9 s10 s11 s12 s13 s14 s15 s16 s17 s18 s19 s20 s21 s22 s23 s24
            subst e24 e23 e22 e21 e20 e19 e18 e17 e16 e15 e14 e13 e12 e11 e10 e9 e8 e7 e6 e5 e4 e3 e2 e1 e0
            clear h
            simp only [over, Act.put, List.setIfInBounds_toArray, List.set_cons_zero, List.set_cons_succ]
            go_wp2_with fail
            exact postK_normal ⟨_, rfl, rfl, Ext.refl _⟩
          refine AllSteps.cons (fun us hus w' x h => ?_) ?_
          · obtain ⟨u0, t0, e0, s0⟩ := len_cons hus; obtain ⟨u1, t1, e1, s1⟩ := len_cons s0; obtain ⟨u2, t2, e2, s2⟩ := len_cons s1; obtain ⟨u3, t3, e3, s3⟩ := len_cons s2; obtain ⟨u4, t4, e4, s4⟩ := len_cons s3; obtain ⟨u5, t5, e5, s5⟩ := len_cons s4; obtain ⟨u6, t6, e6, s6⟩ := len_cons s5; obtain ⟨u7, t7, e7, s7⟩ := len_cons s6; obtain ⟨u8, t8, e8, s8⟩ := len_cons s7; obtain ⟨u9, t9, e9, s9⟩ := len_cons s8; obtain ⟨u10, t10, e10, s10⟩ := len_cons s9; obtain ⟨u11, t11, e11, s11⟩ := len_cons s10; obtain ⟨u12, t12, e12, s12⟩ := len_cons s11; obtain ⟨u13, t13, e13, s13⟩ := len_cons s12; obtain ⟨u14, t14, e14, s14⟩ := len_cons s13; obtain ⟨u15, t15, e15, s15⟩ := len_cons s14; obtain ⟨u16, t16, e16, s16⟩ := len_cons s15; obtain ⟨u17, t17, e17, s17⟩ := len_cons s16; obtain ⟨u18, t18, e18, s18⟩ := len_cons s17; obtain ⟨u19, t19, e19, s19⟩ := len_cons s18; obtain ⟨u20, t20, e20, s20⟩ := len_cons s19; obtain ⟨u21, t21, e21, s21⟩ := len_cons s20; obtain ⟨u22, t22, e22, s22⟩ := len_cons s21; obtain ⟨u23, t23, e23, s23⟩ := len_cons s22; obtain ⟨u24, t24, e24, s24⟩ := len_cons s23
            obtain rfl := len_nil s24
            clear hus s0 s1 s2 s3 s4 s5 s6 s7 s8 s9 s10 s11 s12 s13 s14 s15 s16 s17 s18 s19 s20 s21 s22 s23 s24
            subst e24 e23 e22 e21 e20 e19 e18 e17 e16 e15 e14 e13 e12 e11 e10 e9 e8 e7 e6 e5 e4 e3 e2 e1 e0
            have h9 : u9 = .slice a1 rs.length c1 := h 9 (by kernel_rfl)
            clear h
            simp only [over, Act.put, List.setIfInBounds_toArray, List.set_cons_zero, List.set_cons_succ]
            subst h9
            have c5 := laws_test _ rs false _ (HI.out.ext x) (by omega)
            go_wp2_with (go_at_call 19; refine c5.mono ?_)
            rintro _ w5 ⟨v5, rfl, o5, x5⟩
            go_wp2_with fail
            exact postK_normal ⟨_, rfl, ⟨_, rfl, o5⟩, x5⟩
          refine AllSteps.cons (fun us hus w' x h => ?_) ?_
          · obtain ⟨u0, t0, e0, s0⟩ := len_cons hus; obtain ⟨u1, t1, e1, s1⟩ := len_cons s0; obtain ⟨u2, t2, e2, s2⟩ := len_cons s1; obtain ⟨u3, t3, e3, s3⟩ := len_cons s2; obtain ⟨u4, t4, e4, s4⟩ := len_cons s3; obtain ⟨u5, t5, e5, s5⟩ := len_cons s4; obtain ⟨u6, t6, e6, s6⟩ := len_cons s5; obtain ⟨u7, t7, e7, s7⟩ := len_cons s6; obtain ⟨u8, t8, e8, s8⟩ := len_cons s7; obtain ⟨u9, t9, e9, s9⟩ := len_cons s8; obtain ⟨u10, t10, e10, s10⟩ := len_cons s9; obtain ⟨u11, t11, e11, s11⟩ := len_cons s10; obtain ⟨u12, t12, e12, s12⟩ := len_cons s11; obtain ⟨u13, t13, e13, s13⟩ := len_cons s12; obtain ⟨u14, t14, e14, s14⟩ := len_cons s13; obtain ⟨u15, t15, e15, s15⟩ := len_cons s14; obtain ⟨u16, t16, e16, s16⟩ := len_cons s15; obtain ⟨u17, t17, e17, s17⟩ := len_cons s16; obtain ⟨u18, t18, e18, s18⟩ := len_cons s17; obtain ⟨u19, t19, e19, s19⟩ := len_cons s18; obtain ⟨u20, t20, e20, s20⟩ := len_cons s19; obtain ⟨u21, t21, e21, s21⟩ := len_cons s20; obtain ⟨u22, t22, e22, s22⟩ := len_cons s21; obtain ⟨u23, t23, e23, s23⟩ := len_cons s22; obtain ⟨u24, t24, e24, s24⟩ := len_cons s23
            obtain rfl := len_nil s24
            clear hus s0 s1 s2 s3 s4 s5 s6 s7 s8 s9 s10 s11 s12 s13 s14 s15 s16 s17 s18 s19 s20 s21 s22 s23 s24
            subst e24 e23 e22 e21 e20 e19 e18 e17 e16 e15 e14 e13 e12 e11 e10 e9 e8 e7 e6 e5 e4 e3 e2 e1 e0
            have h8 : Bs w' u8 a0.data.toList := h 8 (by kernel_rfl)
            have h10 : ∃ v7, u10 = .agg #[v7, .bool false] ∧ Is w' v7 rs := h 10 (by kernel_rfl)
            clear h
            simp only [over, Act.put, List.setIfInBounds_toArray, List.set_cons_zero, List.set_cons_succ]
            obtain ⟨v7, e7, i7⟩ := h10
            subst e7
            have c5 := impl_FieldsFunc _ _ _ rs false _ h8 i7 (HT.out.ext x) (by show a0.size ≤ _; omega)
            rw [HL.out] at c5
            go_wp2_with (go_at_call 18; refine c5.mono ?_)
            rintro _ w5 ⟨v5, rfl, o5, x5⟩
            go_wp2_with fail
            exact postK_normal ⟨_, rfl, o5.bs, x5⟩
          refine AllSteps.cons (fun us hus w' x h => ?_) ?_
          · obtain ⟨u0, t0, e0, s0⟩ := len_cons hus; obtain ⟨u1, t1, e1, s1⟩ := len_cons s0; obtain ⟨u2, t2, e2, s2⟩ := len_cons s1; obtain ⟨u3, t3, e3, s3⟩ := len_cons s2; obtain ⟨u4, t4, e4, s4⟩ := len_cons s3; obtain ⟨u5, t5, e5, s5⟩ := len_cons s4; obtain ⟨u6, t6, e6, s6⟩ := len_cons s5; obtain ⟨u7, t7, e7, s7⟩ := len_cons s6; obtain ⟨u8, t8, e8, s8⟩ := len_cons s7; obtain ⟨u9, t9, e9, s9⟩ := len_cons s8; obtain ⟨u10, t10, e10, s10⟩ := len_cons s9; obtain ⟨u11, t11, e11, s11⟩ := len_cons s10; obtain ⟨u12, t12, e12, s12⟩ := len_cons s11; obtain ⟨u13, t13, e13, s13⟩ := len_cons s12; obtain ⟨u14, t14, e14, s14⟩ := len_cons s13; obtain ⟨u15, t15, e15, s15⟩ := len_cons s14; obtain ⟨u16, t16, e16, s16⟩ := len_cons s15; obtain ⟨u17, t17, e17, s17⟩ := len_cons s16; obtain ⟨u18, t18, e18, s18⟩ := len_cons s17; obtain ⟨u19, t19, e19, s19⟩ := len_cons s18; obtain ⟨u20, t20, e20, s20⟩ := len_cons s19; obtain ⟨u21, t21, e21, s21⟩ := len_cons s20; obtain ⟨u22, t22, e22, s22⟩ := len_cons s21; obtain ⟨u23, t23, e23, s23⟩ := len_cons s22; obtain ⟨u24, t24, e24, s24⟩ := len_cons s23
            obtain rfl := len_nil s24
            clear hus s0 s1 s2 s3 s4 s5 s6 s7 s8 s9 s10 s11 s12 s13 s14 s15 s16 s17 s18 s19 s20 s21 s22 s23 s24
            subst e24 e23 e22 e21 e20 e19 e18 e17 e16 e15 e14 e13 e12 e11 e10 e9 e8 e7 e6 e5 e4 e3 e2 e1 e0
            have h11 : Ls w' u11 L := h 11 (by kernel_rfl)
            clear h
            simp only [over, Act.put, List.setIfInBounds_toArray, List.set_cons_zero, List.set_cons_succ]
            go_wp2_with (go_at_call 17; refine (laws_texts _ L _ h11 (by omega)).mono ?_)
            rintro _ w5 ⟨v5, rfl, o5, x5⟩
            go_wp2_with fail
            exact postK_normal ⟨_, rfl, o5, x5⟩
          refine AllSteps.cons (fun us hus w' x h => ?_) ?_
          · obtain ⟨u0, t0, e0, s0⟩ := len_cons hus; obtain ⟨u1, t1, e1, s1⟩ := len_cons s0; obtain ⟨u2, t2, e2, s2⟩ := len_cons s1; obtain ⟨u3, t3, e3, s3⟩ := len_cons s2; obtain ⟨u4, t4, e4, s4⟩ := len_cons s3; obtain ⟨u5, t5, e5, s5⟩ := len_cons s4; obtain ⟨u6, t6, e6, s6⟩ := len_cons s5; obtain ⟨u7, t7, e7, s7⟩ := len_cons s6; obtain ⟨u8, t8, e8, s8⟩ := len_cons s7; obtain ⟨u9, t9, e9, s9⟩ := len_cons s8; obtain ⟨u10, t10, e10, s10⟩ := len_cons s9; obtain ⟨u11, t11, e11, s11⟩ := len_cons s10; obtain ⟨u12, t12, e12, s12⟩ := len_cons s11; obtain ⟨u13, t13, e13, s13⟩ := len_cons s12; obtain ⟨u14, t14, e14, s14⟩ := len_cons s13; obtain ⟨u15, t15, e15, s15⟩ := len_cons s14; obtain ⟨u16, t16, e16, s16⟩ := len_cons s15; obtain ⟨u17, t17, e17, s17⟩ := len_cons s16; obtain ⟨u18, t18, e18, s18⟩ := len_cons s17; obtain ⟨u19, t19, e19, s19⟩ := len_cons s18; obtain ⟨u20, t20, e20, s20⟩ := len_cons s19; obtain ⟨u21, t21, e21, s21⟩ := len_cons s20; obtain ⟨u22, t22, e22, s22⟩ := len_cons s21; obtain ⟨u23, t23, e23, s23⟩ := len_cons s22; obtain ⟨u24, t24, e24, s24⟩ := len_cons s23
            obtain rfl := len_nil s24
            clear hus s0 s1 s2 s3 s4 s5 s6 s7 s8 s9 s10 s11 s12 s13 s14 s15 s16 s17 s18 s19 s20 s21 s22 s23 s24
            subst e24 e23 e22 e21 e20 e19 e18 e17 e16 e15 e14 e13 e12 e11 e10 e9 e8 e7 e6 e5 e4 e3 e2 e1 e0
            have h12 : Ss w' u12 L := h 12 (by kernel_rfl)
            clear h
            simp only [over, Act.put, List.setIfInBounds_toArray, List.set_cons_zero, List.set_cons_succ]
            have c5 := laws_glued _ L _ h12 HF.out
            rw [HG.out] at c5
            go_wp2_with (go_at_call 16; refine c5.mono ?_)
            rintro _ w5 ⟨rfl, x5⟩
            go_wp2_with fail
            exact postK_normal ⟨_, rfl, rfl, x5⟩
          refine AllSteps.cons (fun us hus w' x h => ?_) ?_
          · obtain ⟨u0, t0, e0, s0⟩ := len_cons hus; obtain ⟨u1, t1, e1, s1⟩ := len_cons s0; obtain ⟨u2, t2, e2, s2⟩ := len_cons s1; obtain ⟨u3, t3, e3, s3⟩ := len_cons s2; obtain ⟨u4, t4, e4, s4⟩ := len_cons s3; obtain ⟨u5, t5, e5, s5⟩ := len_cons s4; obtain ⟨u6, t6, e6, s6⟩ := len_cons s5; obtain ⟨u7, t7, e7, s7⟩ := len_cons s6; obtain ⟨u8, t8, e8, s8⟩ := len_cons s7; obtain ⟨u9, t9, e9, s9⟩ := len_cons s8; obtain ⟨u10, t10, e10, s10⟩ := len_cons s9; obtain ⟨u11, t11, e11, s11⟩ := len_cons s10; obtain ⟨u12, t12, e12, s12⟩ := len_cons s11; obtain ⟨u13, t13, e13, s13⟩ := len_cons s12; obtain ⟨u14, t14, e14, s14⟩ := len_cons s13; obtain ⟨u15, t15, e15, s15⟩ := len_cons s14; obtain ⟨u16, t16, e16, s16⟩ := len_cons s15; obtain ⟨u17, t17, e17, s17⟩ := len_cons s16; obtain ⟨u18, t18, e18, s18⟩ := len_cons s17; obtain ⟨u19, t19, e19, s19⟩ := len_cons s18; obtain ⟨u20, t20, e20, s20⟩ := len_cons s19; obtain ⟨u21, t21, e21, s21⟩ := len_cons s20; obtain ⟨u22, t22, e22, s22⟩ := len_cons s21; obtain ⟨u23, t23, e23, s23⟩ := len_cons s22; obtain ⟨u24, t24, e24, s24⟩ := len_cons s23
            obtain rfl := len_nil s24
            clear hus s0 s1 s2 s3 s4 s5 s6 s7 s8 s9 s10 s11 s12 s13 s14 s15 s16 s17 s18 s19 s20 s21 s22 s23 s24
            subst e24 e23 e22 e21 e20 e19 e18 e17 e16 e15 e14 e13 e12 e11 e10 e9 e8 e7 e6 e5 e4 e3 e2 e1 e0
            have h6 : u6 = .string ⟨M.toArray⟩ := h 6 (by kernel_rfl)
            have h13 : u13 = .string ⟨M.toArray⟩ := h 13 (by kernel_rfl)
            clear h
            simp only [over, Act.put, List.setIfInBounds_toArray, List.set_cons_zero, List.set_cons_succ]
            subst h6
            subst h13
            go_wp2_with fail
            exact postK_normal ⟨_, rfl, rfl, Ext.refl _⟩
          refine AllSteps.cons (fun us hus w' x h => ?_) ?_
          · obtain ⟨u0, t0, e0, s0⟩ := len_cons hus; obtain ⟨u1, t1, e1, s1⟩ := len_cons s0; obtain ⟨u2, t2, e2, s2⟩ := len_cons s1; obtain ⟨u3, t3, e3, s3⟩ := len_cons s2; obtain ⟨u4, t4, e4, s4⟩ := len_cons s3; obtain ⟨u5, t5, e5, s5⟩ := len_cons s4; obtain ⟨u6, t6, e6, s6⟩ := len_cons s5; obtain ⟨u7, t7, e7, s7⟩ := len_cons s6; obtain ⟨u8, t8, e8, s8⟩ := len_cons s7; obtain ⟨u9, t9, e9, s9⟩ := len_cons s8; obtain ⟨u10, t10, e10, s10⟩ := len_cons s9; obtain ⟨u11, t11, e11, s11⟩ := len_cons s10; obtain ⟨u12, t12, e12, s12⟩ := len_cons s11; obtain ⟨u13, t13, e13, s13⟩ := len_cons s12; obtain ⟨u14, t14, e14, s14⟩ := len_cons s13; obtain ⟨u15, t15, e15, s15⟩ := len_cons s14; obtain ⟨u16, t16, e16, s16⟩ := len_cons s15; obtain ⟨u17, t17, e17, s17⟩ := len_cons s16; obtain ⟨u18, t18, e18, s18⟩ := len_cons s17; obtain ⟨u19, t19, e19, s19⟩ := len_cons s18; obtain ⟨u20, t20, e20, s20⟩ := len_cons s19; obtain ⟨u21, t21, e21, s21⟩ := len_cons s20; obtain ⟨u22, t22, e22, s22⟩ := len_cons s21; obtain ⟨u23, t23, e23, s23⟩ := len_cons s22; obtain ⟨u24, t24, e24, s24⟩ := len_cons s23
            obtain rfl := len_nil s24
            clear hus s0 s1 s2 s3 s4 s5 s6 s7 s8 s9 s10 s11 s12 s13 s14 s15 s16 s17 s18 s19 s20 s21 s22 s23 s24
            subst e24 e23 e22 e21 e20 e19 e18 e17 e16 e15 e14 e13 e12 e11 e10 e9 e8 e7 e6 e5 e4 e3 e2 e1 e0
            have h14 : u14 = .bool true := h 14 (by kernel_rfl)
            clear h
            simp only [over, Act.put, List.setIfInBounds_toArray, List.set_cons_zero, List.set_cons_succ]
            subst h14
            go_wp2_with fail
            exact postK_normal ⟨_, rfl, rfl, Ext.refl _⟩
          refine AllSteps.cons (fun us hus w' x h => ?_) ?_
          · obtain ⟨u0, t0, e0, s0⟩ := len_cons hus; obtain ⟨u1, t1, e1, s1⟩ := len_cons s0; obtain ⟨u2, t2, e2, s2⟩ := len_cons s1; obtain ⟨u3, t3, e3, s3⟩ := len_cons s2; obtain ⟨u4, t4, e4, s4⟩ := len_cons s3; obtain ⟨u5, t5, e5, s5⟩ := len_cons s4; obtain ⟨u6, t6, e6, s6⟩ := len_cons s5; obtain ⟨u7, t7, e7, s7⟩ := len_cons s6; obtain ⟨u8, t8, e8, s8⟩ := len_cons s7; obtain ⟨u9, t9, e9, s9⟩ := len_cons s8; obtain ⟨u10, t10, e10, s10⟩ := len_cons s9; obtain ⟨u11, t11, e11, s11⟩ := len_cons s10; obtain ⟨u12, t12, e12, s12⟩ := len_cons s11; obtain ⟨u13, t13, e13, s13⟩ := len_cons s12; obtain ⟨u14, t14, e14, s14⟩ := len_cons s13; obtain ⟨u15, t15, e15, s15⟩ := len_cons s14; obtain ⟨u16, t16, e16, s16⟩ := len_cons s15; obtain ⟨u17, t17, e17, s17⟩ := len_cons s16; obtain ⟨u18, t18, e18, s18⟩ := len_cons s17; obtain ⟨u19, t19, e19, s19⟩ := len_cons s18; obtain ⟨u20, t20, e20, s20⟩ := len_cons s19; obtain ⟨u21, t21, e21, s21⟩ := len_cons s20; obtain ⟨u22, t22, e22, s22⟩ := len_cons s21; obtain ⟨u23, t23, e23, s23⟩ := len_cons s22; obtain ⟨u24, t24, e24, s24⟩ := len_cons s23
            obtain rfl := len_nil s24
            clear hus s0 s1 s2 s3 s4 s5 s6 s7 s8 s9 s10 s11 s12 s13 s14 s15 s16 s17 s18 s19 s20 s21 s22 s23 s24
            subst e24 e23 e22 e21 e20 e19 e18 e17 e16 e15 e14 e13 e12 e11 e10 e9 e8 e7 e6 e5 e4 e3 e2 e1 e0
            have h15 : u15 = .bool true := h 15 (by kernel_rfl)
            clear h
            simp only [over, Act.put, List.setIfInBounds_toArray, List.set_cons_zero, List.set_cons_succ]
            subst h15
            go_wp2_with fail
            exact postK_normal ⟨_, rfl, rfl, Ext.refl _⟩
          refine AllSteps.cons (fun us hus w' x h => ?_) ?_
          · obtain ⟨u0, t0, e0, s0⟩ := len_cons hus; obtain ⟨u1, t1, e1, s1⟩ := len_cons s0; obtain ⟨u2, t2, e2, s2⟩ := len_cons s1; obtain ⟨u3, t3, e3, s3⟩ := len_cons s2; obtain ⟨u4, t4, e4, s4⟩ := len_cons s3; obtain ⟨u5, t5, e5, s5⟩ := len_cons s4; obtain ⟨u6, t6, e6, s6⟩ := len_cons s5; obtain ⟨u7, t7, e7, s7⟩ := len_cons s6; obtain ⟨u8, t8, e8, s8⟩ := len_cons s7; obtain ⟨u9, t9, e9, s9⟩ := len_cons s8; obtain ⟨u10, t10, e10, s10⟩ := len_cons s9; obtain ⟨u11, t11, e11, s11⟩ := len_cons s10; obtain ⟨u12, t12, e12, s12⟩ := len_cons s11; obtain ⟨u13, t13, e13, s13⟩ := len_cons s12; obtain ⟨u14, t14, e14, s14⟩ := len_cons s13; obtain ⟨u15, t15, e15, s15⟩ := len_cons s14; obtain ⟨u16, t16, e16, s16⟩ := len_cons s15; obtain ⟨u17, t17, e17, s17⟩ := len_cons s16; obtain ⟨u18, t18, e18, s18⟩ := len_cons s17; obtain ⟨u19, t19, e19, s19⟩ := len_cons s18; obtain ⟨u20, t20, e20, s20⟩ := len_cons s19; obtain ⟨u21, t21, e21, s21⟩ := len_cons s20; obtain ⟨u22, t22, e22, s22⟩ := len_cons s21; obtain ⟨u23, t23, e23, s23⟩ := len_cons s22; obtain ⟨u24, t24, e24, s24⟩ := len_cons s23
            obtain rfl := len_nil s24
            clear hus s0 s1 s2 s3 s4 s5 s6 s7 s8 s9 s10 s11 s12 s13 s14 s15 s16 s17 s18 s19 s20 s21 s22 s23 s24
            subst e24 e23 e22 e21 e20 e19 e18 e17 e16 e15 e14 e13 e12 e11 e10 e9 e8 e7 e6 e5 e4 e3 e2 e1 e0
            have h16 : u16 = .string a0 := h 16 (by kernel_rfl)
            have h15 : u15 = .bool true := h 15 (by kernel_rfl)
            clear h
            simp only [over, Act.put, List.setIfInBounds_toArray, List.set_cons_zero, List.set_cons_succ]
            subst h16
            subst h15
            go_wp2_with (refine wpList_toBytes rfl 9 24 _ rfl 5 Tryd.underlying9 Tryd.underlying24 Tryd.underlying5 _ rfl hmax ?_)
            intro v5 w5 o5 x5
            go_wp2_with fail
            exact postK_normal ⟨_, rfl, o5.bs, x5⟩
          refine AllSteps.cons (fun us hus w' x h => ?_) ?_
          · obtain ⟨u0, t0, e0, s0⟩ := len_cons hus; obtain ⟨u1, t1, e1, s1⟩ := len_cons s0; obtain ⟨u2, t2, e2, s2⟩ := len_cons s1; obtain ⟨u3, t3, e3, s3⟩ := len_cons s2; obtain ⟨u4, t4, e4, s4⟩ := len_cons s3; obtain ⟨u5, t5, e5, s5⟩ := len_cons s4; obtain ⟨u6, t6, e6, s6⟩ := len_cons s5; obtain ⟨u7, t7, e7, s7⟩ := len_cons s6; obtain ⟨u8, t8, e8, s8⟩ := len_cons s7; obtain ⟨u9, t9, e9, s9⟩ := len_cons s8; obtain ⟨u10, t10, e10, s10⟩ := len_cons s9; obtain ⟨u11, t11, e11, s11⟩ := len_cons s10; obtain ⟨u12, t12, e12, s12⟩ := len_cons s11; obtain ⟨u13, t13, e13, s13⟩ := len_cons s12; obtain ⟨u14, t14, e14, s14⟩ := len_cons s13; obtain ⟨u15, t15, e15, s15⟩ := len_cons s14; obtain ⟨u16, t16, e16, s16⟩ := len_cons s15; obtain ⟨u17, t17, e17, s17⟩ := len_cons s16; obtain ⟨u18, t18, e18, s18⟩ := len_cons s17; obtain ⟨u19, t19, e19, s19⟩ := len_cons s18; obtain ⟨u20, t20, e20, s20⟩ := len_cons s19; obtain ⟨u21, t21, e21, s21⟩ := len_cons s20; obtain ⟨u22, t22, e22, s22⟩ := len_cons s21; obtain ⟨u23, t23, e23, s23⟩ := len_cons s22; obtain ⟨u24, t24, e24, s24⟩ := len_cons s23
            obtain rfl := len_nil s24
            clear hus s0 s1 s2 s3 s4 s5 s6 s7 s8 s9 s10 s11 s12 s13 s14 s15 s16 s17 s18 s19 s20 s21 s22 s23 s24
            subst e24 e23 e22 e21 e20 e19 e18 e17 e16 e15 e14 e13 e12 e11 e10 e9 e8 e7 e6 e5 e4 e3 e2 e1 e0
            have h15 : u15 = .bool true := h 15 (by kernel_rfl)
            clear h
            simp only [over, Act.put, List.setIfInBounds_toArray, List.set_cons_zero, List.set_cons_succ]
            subst h15
            have c5 := laws_table _ _ [] [] w' (is_nil w') (is_nil w') (by simp)
            go_wp2_with (go_at_call 15; refine c5.mono ?_)
            rintro _ w5 ⟨v5, rfl, o5, x5⟩
            go_wp2_with fail
            exact postK_normal ⟨_, rfl, ⟨_, rfl, o5⟩, x5⟩
          refine AllSteps.cons (fun us hus w' x h => ?_) ?_
          · obtain ⟨u0, t0, e0, s0⟩ := len_cons hus; obtain ⟨u1, t1, e1, s1⟩ := len_cons s0; obtain ⟨u2, t2, e2, s2⟩ := len_cons s1; obtain ⟨u3, t3, e3, s3⟩ := len_cons s2; obtain ⟨u4, t4, e4, s4⟩ := len_cons s3; obtain ⟨u5, t5, e5, s5⟩ := len_cons s4; obtain ⟨u6, t6, e6, s6⟩ := len_cons s5; obtain ⟨u7, t7, e7, s7⟩ := len_cons s6; obtain ⟨u8, t8, e8, s8⟩ := len_cons s7; obtain ⟨u9, t9, e9, s9⟩ := len_cons s8; obtain ⟨u10, t10, e10, s10⟩ := len_cons s9; obtain ⟨u11, t11, e11, s11⟩ := len_cons s10; obtain ⟨u12, t12, e12, s12⟩ := len_cons s11; obtain ⟨u13, t13, e13, s13⟩ := len_cons s12; obtain ⟨u14, t14, e14, s14⟩ := len_cons s13; obtain ⟨u15, t15, e15, s15⟩ := len_cons s14; obtain ⟨u16, t16, e16, s16⟩ := len_cons s15; obtain ⟨u17, t17, e17, s17⟩ := len_cons s16; obtain ⟨u18, t18, e18, s18⟩ := len_cons s17; obtain ⟨u19, t19, e19, s19⟩ := len_cons s18; obtain ⟨u20, t20, e20, s20⟩ := len_cons s19; obtain ⟨u21, t21, e21, s21⟩ := len_cons s20; obtain ⟨u22, t22, e22, s22⟩ := len_cons s21; obtain ⟨u23, t23, e23, s23⟩ := len_cons s22; obtain ⟨u24, t24, e24, s24⟩ := len_cons s23
            obtain rfl := len_nil s24
            clear hus s0 s1 s2 s3 s4 s5 s6 s7 s8 s9 s10 s11 s12 s13 s14 s15 s16 s17 s18 s19 s20 s21 s22 s23 s24
            subst e24 e23 e22 e21 e20 e19 e18 e17 e16 e15 e14 e13 e12 e11 e10 e9 e8 e7 e6 e5 e4 e3 e2 e1 e0
            have h17 : Bs w' u17 a0.data.toList := h 17 (by kernel_rfl)
            have h18 : ∃ v7, u18 = .agg #[v7] ∧ Ts w' v7 ([] : List (Int × Int)) := h 18 (by kernel_rfl)
            have h15 : u15 = .bool true := h 15 (by kernel_rfl)
            clear h
            simp only [over, Act.put, List.setIfInBounds_toArray, List.set_cons_zero, List.set_cons_succ]
            subst h15
            obtain ⟨v7, e7, i7⟩ := h18
            obtain ⟨ta, tc, te, _⟩ := i7.raw
            subst te
            subst e7
            have c5 := impl_Map _ _ [] _ _ i7 h17 (HT.out.ext x) (by show a0.size ≤ _; omega) image_nil_le'
            rw [HS.out] at c5
            go_wp2_with (go_at_call 14; refine c5.mono ?_)
            rintro _ w5 ⟨v5, rfl, o5, x5⟩
            go_wp2_with fail
            exact postK_normal ⟨_, rfl, o5.bs, x5⟩
          refine AllSteps.cons (fun us hus w' x h => ?_) ?_
          · obtain ⟨u0, t0, e0, s0⟩ := len_cons hus; obtain ⟨u1, t1, e1, s1⟩ := len_cons s0; obtain ⟨u2, t2, e2, s2⟩ := len_cons s1; obtain ⟨u3, t3, e3, s3⟩ := len_cons s2; obtain ⟨u4, t4, e4, s4⟩ := len_cons s3; obtain ⟨u5, t5, e5, s5⟩ := len_cons s4; obtain ⟨u6, t6, e6, s6⟩ := len_cons s5; obtain ⟨u7, t7, e7, s7⟩ := len_cons s6; obtain ⟨u8, t8, e8, s8⟩ := len_cons s7; obtain ⟨u9, t9, e9, s9⟩ := len_cons s8; obtain ⟨u10, t10, e10, s10⟩ := len_cons s9; obtain ⟨u11, t11, e11, s11⟩ := len_cons s10; obtain ⟨u12, t12, e12, s12⟩ := len_cons s11; obtain ⟨u13, t13, e13, s13⟩ := len_cons s12; obtain ⟨u14, t14, e14, s14⟩ := len_cons s13; obtain ⟨u15, t15, e15, s15⟩ := len_cons s14; obtain ⟨u16, t16, e16, s16⟩ := len_cons s15; obtain ⟨u17, t17, e17, s17⟩ := len_cons s16; obtain ⟨u18, t18, e18, s18⟩ := len_cons s17; obtain ⟨u19, t19, e19, s19⟩ := len_cons s18; obtain ⟨u20, t20, e20, s20⟩ := len_cons s19; obtain ⟨u21, t21, e21, s21⟩ := len_cons s20; obtain ⟨u22, t22, e22, s22⟩ := len_cons s21; obtain ⟨u23, t23, e23, s23⟩ := len_cons s22; obtain ⟨u24, t24, e24, s24⟩ := len_cons s23
            obtain rfl := len_nil s24
            clear hus s0 s1 s2 s3 s4 s5 s6 s7 s8 s9 s10 s11 s12 s13 s14 s15 s16 s17 s18 s19 s20 s21 s22 s23 s24
            subst e24 e23 e22 e21 e20 e19 e18 e17 e16 e15 e14 e13 e12 e11 e10 e9 e8 e7 e6 e5 e4 e3 e2 e1 e0
            have h19 : Bs w' u19 a0.data.toList := h 19 (by kernel_rfl)
            have h15 : u15 = .bool true := h 15 (by kernel_rfl)
            clear h
            simp only [over, Act.put, List.setIfInBounds_toArray, List.set_cons_zero, List.set_cons_succ]
            subst h15
            go_wp2_with (refine wpList_toString rfl 24 9 _ rfl 5 Tryd.underlying24 Tryd.underlying5 Tryd.underlying9 _ _ rfl h19 ?_)
            exact postK_normal ⟨_, rfl, rfl, Ext.refl _⟩
          refine AllSteps.cons (fun us hus w' x h => ?_) ?_
          · obtain ⟨u0, t0, e0, s0⟩ := len_cons hus; obtain ⟨u1, t1, e1, s1⟩ := len_cons s0; obtain ⟨u2, t2, e2, s2⟩ := len_cons s1; obtain ⟨u3, t3, e3, s3⟩ := len_cons s2; obtain ⟨u4, t4, e4, s4⟩ := len_cons s3; obtain ⟨u5, t5, e5, s5⟩ := len_cons s4; obtain ⟨u6, t6, e6, s6⟩ := len_cons s5; obtain ⟨u7, t7, e7, s7⟩ := len_cons s6; obtain ⟨u8, t8, e8, s8⟩ := len_cons s7; obtain ⟨u9, t9, e9, s9⟩ := len_cons s8; obtain ⟨u10, t10, e10, s10⟩ := len_cons s9; obtain ⟨u11, t11, e11, s11⟩ := len_cons s10; obtain ⟨u12, t12, e12, s12⟩ := len_cons s11; obtain ⟨u13, t13, e13, s13⟩ := len_cons s12; obtain ⟨u14, t14, e14, s14⟩ := len_cons s13; obtain ⟨u15, t15, e15, s15⟩ := len_cons s14; obtain ⟨u16, t16, e16, s16⟩ := len_cons s15; obtain ⟨u17, t17, e17, s17⟩ := len_cons s16; obtain ⟨u18, t18, e18, s18⟩ := len_cons s17; obtain ⟨u19, t19, e19, s19⟩ := len_cons s18; obtain ⟨u20, t20, e20, s20⟩ := len_cons s19; obtain ⟨u21, t21, e21, s21⟩ := len_cons s20; obtain ⟨u22, t22, e22, s22⟩ := len_cons s21; obtain ⟨u23, t23, e23, s23⟩ := len_cons s22; obtain ⟨u24, t24, e24, s24⟩ := len_cons s23
            obtain rfl := len_nil s24
            clear hus s0 s1 s2 s3 s4 s5 s6 s7 s8 s9 s10 s11 s12 s13 s14 s15 s16 s17 s18 s19 s20 s21 s22 s23 s24
            subst e24 e23 e22 e21 e20 e19 e18 e17 e16 e15 e14 e13 e12 e11 e10 e9 e8 e7 e6 e5 e4 e3 e2 e1 e0
            have h15 : u15 = .bool true := h 15 (by kernel_rfl)
            clear h
            simp only [over, Act.put, List.setIfInBounds_toArray, List.set_cons_zero, List.set_cons_succ]
            subst h15
            go_wp2_with fail
            exact postK_normal ⟨_, rfl, rfl, Ext.refl _⟩
          refine AllSteps.cons (fun us hus w' x h => ?_) ?_
          · obtain ⟨u0, t0, e0, s0⟩ := len_cons hus; obtain ⟨u1, t1, e1, s1⟩ := len_cons s0; obtain ⟨u2, t2, e2, s2⟩ := len_cons s1; obtain ⟨u3, t3, e3, s3⟩ := len_cons s2; obtain ⟨u4, t4, e4, s4⟩ := len_cons s3; obtain ⟨u5, t5, e5, s5⟩ := len_cons s4; obtain ⟨u6, t6, e6, s6⟩ := len_cons s5; obtain ⟨u7, t7, e7, s7⟩ := len_cons s6; obtain ⟨u8, t8, e8, s8⟩ := len_cons s7; obtain ⟨u9, t9, e9, s9⟩ := len_cons s8; obtain ⟨u10, t10, e10, s10⟩ := len_cons s9; obtain ⟨u11, t11, e11, s11⟩ := len_cons s10; obtain ⟨u12, t12, e12, s12⟩ := len_cons s11; obtain ⟨u13, t13, e13, s13⟩ := len_cons s12; obtain ⟨u14, t14, e14, s14⟩ := len_cons s13; obtain ⟨u15, t15, e15, s15⟩ := len_cons s14; obtain ⟨u16, t16, e16, s16⟩ := len_cons s15; obtain ⟨u17, t17, e17, s17⟩ := len_cons s16; obtain ⟨u18, t18, e18, s18⟩ := len_cons s17; obtain ⟨u19, t19, e19, s19⟩ := len_cons s18; obtain ⟨u20, t20, e20, s20⟩ := len_cons s19; obtain ⟨u21, t21, e21, s21⟩ := len_cons s20; obtain ⟨u22, t22, e22, s22⟩ := len_cons s21; obtain ⟨u23, t23, e23, s23⟩ := len_cons s22; obtain ⟨u24, t24, e24, s24⟩ := len_cons s23
            obtain rfl := len_nil s24
            clear hus s0 s1 s2 s3 s4 s5 s6 s7 s8 s9 s10 s11 s12 s13 s14 s15 s16 s17 s18 s19 s20 s21 s22 s23 s24
            subst e24 e23 e22 e21 e20 e19 e18 e17 e16 e15 e14 e13 e12 e11 e10 e9 e8 e7 e6 e5 e4 e3 e2 e1 e0
            have h20 : u20 = .string ⟨a0.data.toList.toArray⟩ := h 20 (by kernel_rfl)
            have h21 : u21 = .string a0 := h 21 (by kernel_rfl)
            have h15 : u15 = .bool true := h 15 (by kernel_rfl)
            clear h
            simp only [over, Act.put, List.setIfInBounds_toArray, List.set_cons_zero, List.set_cons_succ]
            subst h20
            subst h21
            subst h15
            have hw := HWQ.out
            go_wp2_with fail
            exact postK_normal ⟨_, rfl, rfl, Ext.refl _⟩
          refine AllSteps.cons (fun us hus w' x h => ?_) ?_
          · obtain ⟨u0, t0, e0, s0⟩ := len_cons hus; obtain ⟨u1, t1, e1, s1⟩ := len_cons s0; obtain ⟨u2, t2, e2, s2⟩ := len_cons s1; obtain ⟨u3, t3, e3, s3⟩ := len_cons s2; obtain ⟨u4, t4, e4, s4⟩ := len_cons s3; obtain ⟨u5, t5, e5, s5⟩ := len_cons s4; obtain ⟨u6, t6, e6, s6⟩ := len_cons s5; obtain ⟨u7, t7, e7, s7⟩ := len_cons s6; obtain ⟨u8, t8, e8, s8⟩ := len_cons s7; obtain ⟨u9, t9, e9, s9⟩ := len_cons s8; obtain ⟨u10, t10, e10, s10⟩ := len_cons s9; obtain ⟨u11, t11, e11, s11⟩ := len_cons s10; obtain ⟨u12, t12, e12, s12⟩ := len_cons s11; obtain ⟨u13, t13, e13, s13⟩ := len_cons s12; obtain ⟨u14, t14, e14, s14⟩ := len_cons s13; obtain ⟨u15, t15, e15, s15⟩ := len_cons s14; obtain ⟨u16, t16, e16, s16⟩ := len_cons s15; obtain ⟨u17, t17, e17, s17⟩ := len_cons s16; obtain ⟨u18, t18, e18, s18⟩ := len_cons s17; obtain ⟨u19, t19, e19, s19⟩ := len_cons s18; obtain ⟨u20, t20, e20, s20⟩ := len_cons s19; obtain ⟨u21, t21, e21, s21⟩ := len_cons s20; obtain ⟨u22, t22, e22, s22⟩ := len_cons s21; obtain ⟨u23, t23, e23, s23⟩ := len_cons s22; obtain ⟨u24, t24, e24, s24⟩ := len_cons s23
            obtain rfl := len_nil s24
            clear hus s0 s1 s2 s3 s4 s5 s6 s7 s8 s9 s10 s11 s12 s13 s14 s15 s16 s17 s18 s19 s20 s21 s22 s23 s24
            subst e24 e23 e22 e21 e20 e19 e18 e17 e16 e15 e14 e13 e12 e11 e10 e9 e8 e7 e6 e5 e4 e3 e2 e1 e0
            have h15 : u15 = .bool true := h 15 (by kernel_rfl)
            have h22 : u22 = .bool true := h 22 (by kernel_rfl)
            clear h
            simp only [over, Act.put, List.setIfInBounds_toArray, List.set_cons_zero, List.set_cons_succ]
            subst h15
            subst h22
            go_wp2_with fail
            exact postK_normal ⟨_, rfl, rfl, Ext.refl _⟩
          refine AllSteps.cons (fun us hus w' x h => ?_) ?_
          · obtain ⟨u0, t0, e0, s0⟩ := len_cons hus; obtain ⟨u1, t1, e1, s1⟩ := len_cons s0; obtain ⟨u2, t2, e2, s2⟩ := len_cons s1; obtain ⟨u3, t3, e3, s3⟩ := len_cons s2; obtain ⟨u4, t4, e4, s4⟩ := len_cons s3; obtain ⟨u5, t5, e5, s5⟩ := len_cons s4; obtain ⟨u6, t6, e6, s6⟩ := len_cons s5; obtain ⟨u7, t7, e7, s7⟩ := len_cons s6; obtain ⟨u8, t8, e8, s8⟩ := len_cons s7; obtain ⟨u9, t9, e9, s9⟩ := len_cons s8; obtain ⟨u10, t10, e10, s10⟩ := len_cons s9; obtain ⟨u11, t11, e11, s11⟩ := len_cons s10; obtain ⟨u12, t12, e12, s12⟩ := len_cons s11; obtain ⟨u13, t13, e13, s13⟩ := len_cons s12; obtain ⟨u14, t14, e14, s14⟩ := len_cons s13; obtain ⟨u15, t15, e15, s15⟩ := len_cons s14; obtain ⟨u16, t16, e16, s16⟩ := len_cons s15; obtain ⟨u17, t17, e17, s17⟩ := len_cons s16; obtain ⟨u18, t18, e18, s18⟩ := len_cons s17; obtain ⟨u19, t19, e19, s19⟩ := len_cons s18; obtain ⟨u20, t20, e20, s20⟩ := len_cons s19; obtain ⟨u21, t21, e21, s21⟩ := len_cons s20; obtain ⟨u22, t22, e22, s22⟩ := len_cons s21; obtain ⟨u23, t23, e23, s23⟩ := len_cons s22; obtain ⟨u24, t24, e24, s24⟩ := len_cons s23
            obtain rfl := len_nil s24
            clear hus s0 s1 s2 s3 s4 s5 s6 s7 s8 s9 s10 s11 s12 s13 s14 s15 s16 s17 s18 s19 s20 s21 s22 s23 s24
            subst e24 e23 e22 e21 e20 e19 e18 e17 e16 e15 e14 e13 e12 e11 e10 e9 e8 e7 e6 e5 e4 e3 e2 e1 e0
            have h23 : u23 = .bool true := h 23 (by kernel_rfl)
            clear h
            simp only [over, Act.put, List.setIfInBounds_toArray, List.set_cons_zero, List.set_cons_succ]
            subst h23
            go_wp2_with fail
            exact postK_normal ⟨_, rfl, rfl, Ext.refl _⟩
          exact AllSteps.nil
        case fin =>
          intro us hus w' x h
          obtain ⟨u0, t0, e0, s0⟩ := len_cons hus; obtain ⟨u1, t1, e1, s1⟩ := len_cons s0; obtain ⟨u2, t2, e2, s2⟩ := len_cons s1; obtain ⟨u3, t3, e3, s3⟩ := len_cons s2; obtain ⟨u4, t4, e4, s4⟩ := len_cons s3; obtain ⟨u5, t5, e5, s5⟩ := len_cons s4; obtain ⟨u6, t6, e6, s6⟩ := len_cons s5; obtain ⟨u7, t7, e7, s7⟩ := len_cons s6; obtain ⟨u8, t8, e8, s8⟩ := len_cons s7; obtain ⟨u9, t9, e9, s9⟩ := len_cons s8; obtain ⟨u10, t10, e10, s10⟩ := len_cons s9; obtain ⟨u11, t11, e11, s11⟩ := len_cons s10; obtain ⟨u12, t12, e12, s12⟩ := len_cons s11; obtain ⟨u13, t13, e13, s13⟩ := len_cons s12; obtain ⟨u14, t14, e14, s14⟩ := len_cons s13; obtain ⟨u15, t15, e15, s15⟩ := len_cons s14; obtain ⟨u16, t16, e16, s16⟩ := len_cons s15; obtain ⟨u17, t17, e17, s17⟩ := len_cons s16; obtain ⟨u18, t18, e18, s18⟩ := len_cons s17; obtain ⟨u19, t19, e19, s19⟩ := len_cons s18; obtain ⟨u20, t20, e20, s20⟩ := len_cons s19; obtain ⟨u21, t21, e21, s21⟩ := len_cons s20; obtain ⟨u22, t22, e22, s22⟩ := len_cons s21; obtain ⟨u23, t23, e23, s23⟩ := len_cons s22; obtain ⟨u24, t24, e24, s24⟩ := len_cons s23
          obtain rfl := len_nil s24
          clear hus s0 s1 s2 s3 s4 s5 s6 s7 s8 s9 s10 s11 s12 s13 s14 s15 s16 s17 s18 s19 s20 s21 s22 s23 s24
          subst e24 e23 e22 e21 e20 e19 e18 e17 e16 e15 e14 e13 e12 e11 e10 e9 e8 e7 e6 e5 e4 e3 e2 e1 e0
          have h24 : u24 = .bool true := h 24 (by decide)
          clear h
          subst h24
          simp only [over, Act.put, List.setIfInBounds_toArray, List.set_cons_zero, List.set_cons_succ]
          go_wp2_with fail
          go_meet
          exact ⟨rfl, x⟩
      case rest =>
        obtain ⟨rfl, x8⟩ := hcut
        go_wp2_with fail
        go_ret
        exact ⟨rfl, (HX.out.trans x8).below⟩
end Go.Proofs.YtdlobdbclgcogaaDoor
