/- The walk of the law FnTrimDrop: it returns true where the texts have at most 2^20 bytes. Printed by droplaws.py. -/
import Derived.Test.YtdlobdbclgcogaaDoorDropP
import Derived.Test.YtdlobdbclgcogaaDoorMapW
import Derived.Test.YtdlobdbclgcogaaDoorCutW
import Derived.Test.YtdlobdbclgcogaaDoorZA
import Derived.Deep.DeepCutAuto
namespace Go.Proofs.YtdlobdbclgcogaaDoor
open Go.RowKit

theorem is_nil (w : World) : Is w (.slice none 0 0) [] := ⟨rfl, none, 0, rfl, Nat.le_refl _, Nat.zero_le _, .inl rfl⟩
theorem image_nil_le' : ∀ r : Int, 0 ≤ r → r ≤ 1114111 → imageT [] r ≤ 2147483647 := fun r _ h => by show r ≤ _; omega

set_option maxRecDepth 100000 in
set_option maxHeartbeats 8000000 in
theorem FnTrimDrop_walk (w : World) (hT : Tabs w) (a0 : ByteArray) (z0 : a0.size ≤ 1048576) (a1 : ByteArray) (z1 : a1.size ≤ 1048576) :
    Calls Tryd.prog 10 #[.string a0, .string a1] w fun e w' => e = .returned (.bool true) ∧ Below w.heap.size w w' := by
  have hmax : a0.size ≤ maxLen := by unfold maxLen; omega
  have cW := spec_Whole a0 w (by omega)
  have HSELF := Lib.hid (mapB_self a0.data.toList)
  have es : a0.data.toList.length = a0.size := rfl
  have LTT := tB_len (inP a1.data.toList) a0.data.toList
  rw [es] at LTT
  have hrl : (runesOf (chunks a1.data.toList)).length ≤ 1048576 := by
    have h1 : (runesOf (chunks a1.data.toList)).length = (chunks a1.data.toList).length := by simp [runesOf]
    have h2 := chunks_length a1.data.toList
    have h3 : a1.data.toList.length = a1.size := rfl
    omega
  have hf : ∀ r, imageT (dropT (runesOf (chunks a1.data.toList))) r = if inP a1.data.toList r = true then -1 else r := fun r => imageT_dropT _ r
  have HD1 := Lib.hid (drop_trim hf a0.data.toList)
  have HD2 := Lib.hid (trim_drop hf a0.data.toList)
  have HLE := Lib.hid (imageT_drop_le (runesOf (chunks a1.data.toList)))
  have cP := fun W => spec_Points a1 W (by omega)
  have HT := Lib.hid hT
  clear hT hf
  cases hw : wholeB a0.data.toList
  · rw [hw] at cW
    clear hw
    go_enter Tryd.func10, Tryd.ntmps10
    go_wp2_with (go_at_call 13; refine cW.mono ?_)
    rintro _ w1 ⟨rfl, x1⟩
    go_wp2_with fail
    go_ret
    exact ⟨rfl, x1.below⟩
  rw [hw] at cW
  have hS := HSELF.out.2 hw
  have HWQ := Lib.hid (show (a0.data.toList == a0.toList) = true by rw [ByteArray.toList_eq]; simp)
  have HS := Lib.hid (show mapB (imageT []) a0.data.toList = a0.data.toList from hS)
  obtain ⟨rs, hrs⟩ : ∃ rs, runesOf (chunks a1.data.toList) = rs := ⟨_, rfl⟩
  simp only [hrs] at HD1 HD2 HLE cP hrl
  obtain ⟨rows, hrows⟩ : ∃ rows, dropT rs = rows := ⟨_, rfl⟩
  rw [hrows] at HD1 HD2 HLE
  have hms := mapC_size (imageT rows) (chunks a0.data.toList)
  have hcl := chunks_length a0.data.toList
  rw [es] at hcl
  have hms' : (mapB (imageT rows) a0.data.toList).length ≤ 4194304 := by show (mapC _ _).length ≤ _; omega
  obtain ⟨TT, hTT⟩ : ∃ x, tB (inP a1.data.toList) a0.data.toList = x := ⟨_, rfl⟩
  obtain ⟨M, hM⟩ : ∃ M, mapB (imageT rows) a0.data.toList = M := ⟨_, rfl⟩
  rw [hTT] at LTT HD1
  rw [hM] at HD1 HD2 hms'
  have mt : (⟨TT.toArray⟩ : ByteArray).size ≤ maxLen := by show TT.length ≤ _; unfold maxLen; omega
  have mm : (⟨M.toArray⟩ : ByteArray).size ≤ maxLen := by show M.length ≤ _; unfold maxLen; omega
  have HRW := Lib.hid (show rs.zip (List.replicate rs.length (-1)) = rows from hrows)
  have HRL := Lib.hid (show rows.length ≤ 1048576 by rw [← hrows]; unfold dropT; simp; omega)
  have HTT := Lib.hid hTT
  have HM := Lib.hid hM
  have HMT := HD1
  have HTM := HD2
  have HTL := Lib.hid (show TT.length ≤ 17592186044416 by omega)
  have HA := Lib.hid (show a0.data.toList.length ≤ 140737488355328 by rw [es]; omega)
  have HMA := Lib.hid (show M.length ≤ 140737488355328 by omega)
  clear hw HSELF hS hrs hrows hms hcl hms' hTT hM HD1 HD2 LTT es
  go_enter Tryd.func10, Tryd.ntmps10
  go_wp2_with (go_at_call 13; refine cW.mono ?_)
  rintro _ w1 ⟨rfl, x1⟩
  replace HT := Lib.hid (HT.out.ext x1)
  have HX := Lib.hid x1
  clear cW x1
  go_wp2_with (go_at_call 32; refine (cP _).mono ?_)
  rintro _ w2 ⟨v2, rfl, i2, x2⟩
  obtain ⟨a2, c2, rfl, p2, q2, _⟩ := i2.raw
  have hc2 : c2 ≤ 9223372036854775807 := by unfold maxLen at q2; omega
  replace HT := Lib.hid (HT.out.ext x2)
  replace HX := Lib.hid (HX.out.trans x2)
  obtain ⟨n, hn⟩ : ∃ n, w2.heap.size = n := ⟨_, rfl⟩
  clear x2 i2 q2
  go_wp2_with fail
  go_loopg [5, 13] rs.length (fun k v i wr => ∃ (j : Nat) (rv : Value), j + k = rs.length ∧ i = .int .i64 (j : Int) ∧ rv = v ∧ wr.ownsRow n 21 1 rv j (List.replicate j (.int .i32 (-1))) ∧ Below n w2 wr)
  case atStart => exact ⟨0, _, by omega, rfl, rfl, World.ownsRow_nil _ _ _ _, Below.refl _ _⟩
  case round =>
    obtain ⟨j, rv, hj, rfl, rfl, hown, hbe⟩ := hrel
    have HO := Lib.hid hown
    have HB := Lib.hid hbe
    have HJ := Lib.hid hj
    have hnw : n ≤ wr.heap.size := by have := hbe.size; omega
    clear hown hbe
    by_cases hlt : j < rs.length
    · have hg : 0 < gk := by omega
      have HE := Lib.hid (show List.replicate (j + 1) (Value.int .i32 (-1)) = List.replicate j (Value.int .i32 (-1)) ++ [.int .i32 (-1)] from List.replicate_succ')
      clear hj
      have O1 := owns_keep HO.out (Ext.alloc wr (.cells #[.int .i32 (-1)] 21))
      have B1 := below_ext HB.out (Ext.alloc wr (.cells #[.int .i32 (-1)] 21)) hnw
      have hn1 : n ≤ (wr.alloc (.cells #[.int .i32 (-1)] 21)).heap.size := Nat.le_trans hnw (Ext.alloc wr _).size
      go_wp2_with (refine wpList_appendV rfl 22 _ _ rfl 21 1 4 _ Tryd.underlying22 info_i32 rfl (by omega) n _ j _ rfl O1 _ 1 _ [.int .i32 (-1)] rfl rfl (news_alloc _ _ _) (by simp [Value.oneCell']) (by omega) (by omega) hn1 ?_)
      intro v2 w2 o2 g2
      have B2 := owns_grown O1 g2 hn1 B1 (Nat.le_refl _)
      clear g2 O1 B1
      go_wp2_with fail
      go_roundg (gk - 1)
      case measure => omega
      case rel => exact ⟨j + 1, _, by have := HJ.out; omega, by go_num, rfl, by rw [HE.out]; exact o2, B2⟩
    · have hje : j = rs.length := by omega
      subst hje
      have XN : Ext w2 wr := ⟨by rw [hn]; exact HB.out⟩
      have iN : Is wr rv (List.replicate rs.length (-1)) := by
        have := vs_of_owns HO.out
        unfold Is
        rw [List.length_replicate, List.map_replicate]
        exact this
      obtain ⟨wn, hwn⟩ : ∃ wn, wn = wr := ⟨_, rfl⟩
      subst hwn
      clear HO HB HJ hj hnw
      replace HT := Lib.hid (HT.out.ext XN)
      replace HX := Lib.hid (HX.out.trans XN)
      have HN := Lib.hid iN
      clear iN XN hn
      go_wp2_with (go_at_call 32; refine (cP _).mono ?_)
      rintro _ w3 ⟨v3, rfl, i3, x3⟩
      replace HT := Lib.hid (HT.out.ext x3)
      replace HX := Lib.hid (HX.out.trans x3)
      go_wp2_with (go_at_call 15; refine (laws_table _ _ rs _ _ i3 (HN.out.ext x3) (by omega)).mono ?_)
      rintro _ w4 ⟨v4, rfl, t4, x4⟩
      rw [HRW.out] at t4
      obtain ⟨ta, tc, rfl, _, _, _⟩ := t4.raw
      replace HT := Lib.hid (HT.out.ext x4)
      replace HX := Lib.hid (HX.out.trans x4)
      clear x3 x4 i3 HN
      go_upto_region 9 with fail
      obtain ⟨m, hm⟩ : ∃ m, w4.heap.size = m := ⟨_, rfl⟩
      have x5 : Ext w4 (w4.alloc (.cells #[.slice ta rows.length tc] 28)) := Ext.alloc _ _
      have f0 : (w4.alloc (.cells #[.slice ta rows.length tc] 28)).cell? ⟨m, 0, none⟩ = some (.slice ta rows.length tc) := by rw [← hm, World.cell?_alloc_mark]; rfl
      obtain ⟨w5, hw5⟩ : ∃ w5, w4.alloc (.cells #[.slice ta rows.length tc] 28) = w5 := ⟨_, rfl⟩
      rw [hw5] at x5 f0 ⊢
      rw [hm]
      have HTB := Lib.hid (t4.ext x5)
      have HF0 := Lib.hid f0
      replace HT := Lib.hid (HT.out.ext x5)
      replace HX := Lib.hid (HX.out.trans x5)
      clear hm hw5 x5 f0 t4 cP
      go_cut [4] (fun s4 wx => s4 = .bool true ∧ Ext w5 wx)
      case first =>
        refine wp_region_mono (by kernel_rfl) [23, 24, 25, 26, 27, 28, 29, 30, 31, 32, 33, 34, 35, 36, 37, 38, 39, 40, 41, 42, 43, 44, 45, 46, 47, 48, 49, 50, 51, 52, 53, 54, 55, 56, 57, 58, 59, 60, 61, 62, 63, 4] (by kernel_rfl) (by decide) (by simp) (by kernel_rfl)
          (fun i => match i with | 0 => (fun v w => v = .string a0) | 1 => (fun v w => Bs w v a0.data.toList) | 2 => (fun v w => v = .string a1) | 3 => (fun v w => Bs w v TT) | 4 => (fun v w => v = .string ⟨TT.toArray⟩) | 5 => (fun v w => Bs w v TT) | 6 => (fun v w => v = .agg #[.slice ta rows.length tc]) | 7 => (fun v w => Bs w v M) | 8 => (fun v w => v = .string ⟨M.toArray⟩) | 9 => (fun v w => v = .string a0) | 10 => (fun v w => Bs w v a0.data.toList) | 11 => (fun v w => v = .agg #[.slice ta rows.length tc]) | 12 => (fun v w => Bs w v M) | 13 => (fun v w => v = .string ⟨M.toArray⟩) | 14 => (fun v w => v = .bool true) | 15 => (fun v w => v = .bool true) | 16 => (fun v w => v = .string a0) | 17 => (fun v w => Bs w v a0.data.toList) | 18 => (fun v w => v = .agg #[.slice ta rows.length tc]) | 19 => (fun v w => Bs w v M) | 20 => (fun v w => v = .string ⟨M.toArray⟩) | 21 => (fun v w => Bs w v M) | 22 => (fun v w => v = .string a1) | 23 => (fun v w => Bs w v M) | 24 => (fun v w => v = .string ⟨M.toArray⟩) | 25 => (fun v w => v = .string a0) | 26 => (fun v w => Bs w v a0.data.toList) | 27 => (fun v w => v = .agg #[.slice ta rows.length tc]) | 28 => (fun v w => Bs w v M) | 29 => (fun v w => v = .string ⟨M.toArray⟩) | 30 => (fun v w => v = .bool true) | 31 => (fun v w => v = .bool true) | 32 => (fun v w => v = .bool true) | 33 => (fun v w => v = .string a0) | 34 => (fun v w => Bs w v a0.data.toList) | 35 => (fun v w => ∃ v7, v = .agg #[v7] ∧ Ts w v7 ([] : List (Int × Int))) | 36 => (fun v w => Bs w v a0.data.toList) | 37 => (fun v w => v = .string ⟨a0.data.toList.toArray⟩) | 38 => (fun v w => v = .string a0) | 39 => (fun v w => v = .bool true) | 40 => (fun v w => v = .bool true) | 41 => (fun v w => v = .bool true) | _ => fun _ _ => True) ?stable ?steps ?fin
        case stable =>
          intro i v w' w'' h x
          match i, h with
          | 0, h => exact h
          | 1, h => exact (show Bs w' v a0.data.toList from h).ext x
          | 2, h => exact h
          | 3, h => exact (show Bs w' v TT from h).ext x
          | 4, h => exact h
          | 5, h => exact (show Bs w' v TT from h).ext x
          | 6, h => exact h
          | 7, h => exact (show Bs w' v M from h).ext x
          | 8, h => exact h
          | 9, h => exact h
          | 10, h => exact (show Bs w' v a0.data.toList from h).ext x
          | 11, h => exact h
          | 12, h => exact (show Bs w' v M from h).ext x
          | 13, h => exact h
          | 14, h => exact h
          | 15, h => exact h
          | 16, h => exact h
          | 17, h => exact (show Bs w' v a0.data.toList from h).ext x
          | 18, h => exact h
          | 19, h => exact (show Bs w' v M from h).ext x
          | 20, h => exact h
          | 21, h => exact (show Bs w' v M from h).ext x
          | 22, h => exact h
          | 23, h => exact (show Bs w' v M from h).ext x
          | 24, h => exact h
          | 25, h => exact h
          | 26, h => exact (show Bs w' v a0.data.toList from h).ext x
          | 27, h => exact h
          | 28, h => exact (show Bs w' v M from h).ext x
          | 29, h => exact h
          | 30, h => exact h
          | 31, h => exact h
          | 32, h => exact h
          | 33, h => exact h
          | 34, h => exact (show Bs w' v a0.data.toList from h).ext x
          | 35, ⟨v7, e7, i7⟩ => exact ⟨v7, e7, i7.ext x⟩
          | 36, h => exact (show Bs w' v a0.data.toList from h).ext x
          | 37, h => exact h
          | 38, h => exact h
          | 39, h => exact h
          | 40, h => exact h
          | 41, h => exact h
          | _ + 42, _ => trivial
        case steps =>
          refine AllSteps.cons (fun us hus w' x h => ?_) ?_
          · obtain ⟨u0, t0, e0, s0⟩ := len_cons hus; obtain ⟨u1, t1, e1, s1⟩ := len_cons s0; obtain ⟨u2, t2, e2, s2⟩ := len_cons s1; obtain ⟨u3, t3, e3, s3⟩ := len_cons s2; obtain ⟨u4, t4, e4, s4⟩ := len_cons s3; obtain ⟨u5, t5, e5, s5⟩ := len_cons s4; obtain ⟨u6, t6, e6, s6⟩ := len_cons s5; obtain ⟨u7, t7, e7, s7⟩ := len_cons s6; obtain ⟨u8, t8, e8, s8⟩ := len_cons s7; obtain ⟨u9, t9, e9, s9⟩ := len_cons s8; obtain ⟨u10, t10, e10, s10⟩ := len_cons s9; obtain ⟨u11, t11, e11, s11⟩ := len_cons s10; obtain ⟨u12, t12, e12, s12⟩ := len_cons s11; obtain ⟨u13, t13, e13, s13⟩ := len_cons s12; obtain ⟨u14, t14, e14, s14⟩ := len_cons s13; obtain ⟨u15, t15, e15, s15⟩ := len_cons s14; obtain ⟨u16, t16, e16, s16⟩ := len_cons s15; obtain ⟨u17, t17, e17, s17⟩ := len_cons s16; obtain ⟨u18, t18, e18, s18⟩ := len_cons s17; obtain ⟨u19, t19, e19, s19⟩ := len_cons s18; obtain ⟨u20, t20, e20, s20⟩ := len_cons s19; obtain ⟨u21, t21, e21, s21⟩ := len_cons s20; obtain ⟨u22, t22, e22, s22⟩ := len_cons s21; obtain ⟨u23, t23, e23, s23⟩ := len_cons s22; obtain ⟨u24, t24, e24, s24⟩ := len_cons s23; obtain ⟨u25, t25, e25, s25⟩ := len_cons s24; obtain ⟨u26, t26, e26, s26⟩ := len_cons s25; obtain ⟨u27, t27, e27, s27⟩ := len_cons s26; obtain ⟨u28, t28, e28, s28⟩ := len_cons s27; obtain ⟨u29, t29, e29, s29⟩ := len_cons s28; obtain ⟨u30, t30, e30, s30⟩ := len_cons s29; obtain ⟨u31, t31, e31, s31⟩ := len_cons s30; obtain ⟨u32, t32, e32, s32⟩ := len_cons s31; obtain ⟨u33, t33, e33, s33⟩ := len_cons s32; obtain ⟨u34, t34, e34, s34⟩ := len_cons s33; obtain ⟨u35, t35, e35, s35⟩ := len_cons s34; obtain ⟨u36, t36, e36, s36⟩ := len_cons s35; obtain ⟨u37, t37, e37, s37⟩ := len_cons s36; obtain ⟨u38, t38, e38, s38⟩ := len_cons s37; obtain ⟨u39, t39, e39, s39⟩ := len_cons s38; obtain ⟨u40, t40, e40, s40⟩ := len_cons s39; obtain ⟨u41, t41, e41, s41⟩ := len_cons s40
            obtain rfl := len_nil s41
            clear hus s0 s1 s2 s3 s4 s5 s6 s7 s8 s9 s10 s11 s12 s13 s14 s15 s16 s17 s18 s19 s20 s21 s22 s23 s24 s25 s26 s27 s28 s29 s30 s31 s32 s33 s34 s35 s36 s37 s38 s39 s40 s41
            subst e41 e40 e39 e38 e37 e36 e35 e34 e33 e32 e31 e30 e29 e28 e27 e26 e25 e24 e23 e22 e21 e20 e19 e18 e17 e16 e15 e14 e13 e12 e11 e10 e9 e8 e7 e6 e5 e4 e3 e2 e1 e0
            clear h
            simp only [over, Act.put, List.setIfInBounds_toArray, List.set_cons_zero, List.set_cons_succ]
            go_wp2_with fail
            exact postK_normal ⟨_, rfl, rfl, Ext.refl _⟩
          refine AllSteps.cons (fun us hus w' x h => ?_) ?_
          · obtain ⟨u0, t0, e0, s0⟩ := len_cons hus; obtain ⟨u1, t1, e1, s1⟩ := len_cons s0; obtain ⟨u2, t2, e2, s2⟩ := len_cons s1; obtain ⟨u3, t3, e3, s3⟩ := len_cons s2; obtain ⟨u4, t4, e4, s4⟩ := len_cons s3; obtain ⟨u5, t5, e5, s5⟩ := len_cons s4; obtain ⟨u6, t6, e6, s6⟩ := len_cons s5; obtain ⟨u7, t7, e7, s7⟩ := len_cons s6; obtain ⟨u8, t8, e8, s8⟩ := len_cons s7; obtain ⟨u9, t9, e9, s9⟩ := len_cons s8; obtain ⟨u10, t10, e10, s10⟩ := len_cons s9; obtain ⟨u11, t11, e11, s11⟩ := len_cons s10; obtain ⟨u12, t12, e12, s12⟩ := len_cons s11; obtain ⟨u13, t13, e13, s13⟩ := len_cons s12; obtain ⟨u14, t14, e14, s14⟩ := len_cons s13; obtain ⟨u15, t15, e15, s15⟩ := len_cons s14; obtain ⟨u16, t16, e16, s16⟩ := len_cons s15; obtain ⟨u17, t17, e17, s17⟩ := len_cons s16; obtain ⟨u18, t18, e18, s18⟩ := len_cons s17; obtain ⟨u19, t19, e19, s19⟩ := len_cons s18; obtain ⟨u20, t20, e20, s20⟩ := len_cons s19; obtain ⟨u21, t21, e21, s21⟩ := len_cons s20; obtain ⟨u22, t22, e22, s22⟩ := len_cons s21; obtain ⟨u23, t23, e23, s23⟩ := len_cons s22; obtain ⟨u24, t24, e24, s24⟩ := len_cons s23; obtain ⟨u25, t25, e25, s25⟩ := len_cons s24; obtain ⟨u26, t26, e26, s26⟩ := len_cons s25; obtain ⟨u27, t27, e27, s27⟩ := len_cons s26; obtain ⟨u28, t28, e28, s28⟩ := len_cons s27; obtain ⟨u29, t29, e29, s29⟩ := len_cons s28; obtain ⟨u30, t30, e30, s30⟩ := len_cons s29; obtain ⟨u31, t31, e31, s31⟩ := len_cons s30; obtain ⟨u32, t32, e32, s32⟩ := len_cons s31; obtain ⟨u33, t33, e33, s33⟩ := len_cons s32; obtain ⟨u34, t34, e34, s34⟩ := len_cons s33; obtain ⟨u35, t35, e35, s35⟩ := len_cons s34; obtain ⟨u36, t36, e36, s36⟩ := len_cons s35; obtain ⟨u37, t37, e37, s37⟩ := len_cons s36; obtain ⟨u38, t38, e38, s38⟩ := len_cons s37; obtain ⟨u39, t39, e39, s39⟩ := len_cons s38; obtain ⟨u40, t40, e40, s40⟩ := len_cons s39; obtain ⟨u41, t41, e41, s41⟩ := len_cons s40
            obtain rfl := len_nil s41
            clear hus s0 s1 s2 s3 s4 s5 s6 s7 s8 s9 s10 s11 s12 s13 s14 s15 s16 s17 s18 s19 s20 s21 s22 s23 s24 s25 s26 s27 s28 s29 s30 s31 s32 s33 s34 s35 s36 s37 s38 s39 s40 s41
            subst e41 e40 e39 e38 e37 e36 e35 e34 e33 e32 e31 e30 e29 e28 e27 e26 e25 e24 e23 e22 e21 e20 e19 e18 e17 e16 e15 e14 e13 e12 e11 e10 e9 e8 e7 e6 e5 e4 e3 e2 e1 e0
            have h0 : u0 = .string a0 := h 0 (by kernel_rfl)
            clear h
            simp only [over, Act.put, List.setIfInBounds_toArray, List.set_cons_zero, List.set_cons_succ]
            subst h0
            go_wp2_with (refine wpList_toBytes rfl 9 24 _ rfl 5 Tryd.underlying9 Tryd.underlying24 Tryd.underlying5 _ rfl hmax ?_)
            intro v5 w5 o5 x5
            go_wp2_with fail
            exact postK_normal ⟨_, rfl, o5.bs, x5⟩
          refine AllSteps.cons (fun us hus w' x h => ?_) ?_
          · obtain ⟨u0, t0, e0, s0⟩ := len_cons hus; obtain ⟨u1, t1, e1, s1⟩ := len_cons s0; obtain ⟨u2, t2, e2, s2⟩ := len_cons s1; obtain ⟨u3, t3, e3, s3⟩ := len_cons s2; obtain ⟨u4, t4, e4, s4⟩ := len_cons s3; obtain ⟨u5, t5, e5, s5⟩ := len_cons s4; obtain ⟨u6, t6, e6, s6⟩ := len_cons s5; obtain ⟨u7, t7, e7, s7⟩ := len_cons s6; obtain ⟨u8, t8, e8, s8⟩ := len_cons s7; obtain ⟨u9, t9, e9, s9⟩ := len_cons s8; obtain ⟨u10, t10, e10, s10⟩ := len_cons s9; obtain ⟨u11, t11, e11, s11⟩ := len_cons s10; obtain ⟨u12, t12, e12, s12⟩ := len_cons s11; obtain ⟨u13, t13, e13, s13⟩ := len_cons s12; obtain ⟨u14, t14, e14, s14⟩ := len_cons s13; obtain ⟨u15, t15, e15, s15⟩ := len_cons s14; obtain ⟨u16, t16, e16, s16⟩ := len_cons s15; obtain ⟨u17, t17, e17, s17⟩ := len_cons s16; obtain ⟨u18, t18, e18, s18⟩ := len_cons s17; obtain ⟨u19, t19, e19, s19⟩ := len_cons s18; obtain ⟨u20, t20, e20, s20⟩ := len_cons s19; obtain ⟨u21, t21, e21, s21⟩ := len_cons s20; obtain ⟨u22, t22, e22, s22⟩ := len_cons s21; obtain ⟨u23, t23, e23, s23⟩ := len_cons s22; obtain ⟨u24, t24, e24, s24⟩ := len_cons s23; obtain ⟨u25, t25, e25, s25⟩ := len_cons s24; obtain ⟨u26, t26, e26, s26⟩ := len_cons s25; obtain ⟨u27, t27, e27, s27⟩ := len_cons s26; obtain ⟨u28, t28, e28, s28⟩ := len_cons s27; obtain ⟨u29, t29, e29, s29⟩ := len_cons s28; obtain ⟨u30, t30, e30, s30⟩ := len_cons s29; obtain ⟨u31, t31, e31, s31⟩ := len_cons s30; obtain ⟨u32, t32, e32, s32⟩ := len_cons s31; obtain ⟨u33, t33, e33, s33⟩ := len_cons s32; obtain ⟨u34, t34, e34, s34⟩ := len_cons s33; obtain ⟨u35, t35, e35, s35⟩ := len_cons s34; obtain ⟨u36, t36, e36, s36⟩ := len_cons s35; obtain ⟨u37, t37, e37, s37⟩ := len_cons s36; obtain ⟨u38, t38, e38, s38⟩ := len_cons s37; obtain ⟨u39, t39, e39, s39⟩ := len_cons s38; obtain ⟨u40, t40, e40, s40⟩ := len_cons s39; obtain ⟨u41, t41, e41, s41⟩ := len_cons s40
            obtain rfl := len_nil s41
            clear hus s0 s1 s2 s3 s4 s5 s6 s7 s8 s9 s10 s11 s12 s13 s14 s15 s16 s17 s18 s19 s20 s21 s22 s23 s24 s25 s26 s27 s28 s29 s30 s31 s32 s33 s34 s35 s36 s37 s38 s39 s40 s41
            subst e41 e40 e39 e38 e37 e36 e35 e34 e33 e32 e31 e30 e29 e28 e27 e26 e25 e24 e23 e22 e21 e20 e19 e18 e17 e16 e15 e14 e13 e12 e11 e10 e9 e8 e7 e6 e5 e4 e3 e2 e1 e0
            clear h
            simp only [over, Act.put, List.setIfInBounds_toArray, List.set_cons_zero, List.set_cons_succ]
            go_wp2_with fail
            exact postK_normal ⟨_, rfl, rfl, Ext.refl _⟩
          refine AllSteps.cons (fun us hus w' x h => ?_) ?_
          · obtain ⟨u0, t0, e0, s0⟩ := len_cons hus; obtain ⟨u1, t1, e1, s1⟩ := len_cons s0; obtain ⟨u2, t2, e2, s2⟩ := len_cons s1; obtain ⟨u3, t3, e3, s3⟩ := len_cons s2; obtain ⟨u4, t4, e4, s4⟩ := len_cons s3; obtain ⟨u5, t5, e5, s5⟩ := len_cons s4; obtain ⟨u6, t6, e6, s6⟩ := len_cons s5; obtain ⟨u7, t7, e7, s7⟩ := len_cons s6; obtain ⟨u8, t8, e8, s8⟩ := len_cons s7; obtain ⟨u9, t9, e9, s9⟩ := len_cons s8; obtain ⟨u10, t10, e10, s10⟩ := len_cons s9; obtain ⟨u11, t11, e11, s11⟩ := len_cons s10; obtain ⟨u12, t12, e12, s12⟩ := len_cons s11; obtain ⟨u13, t13, e13, s13⟩ := len_cons s12; obtain ⟨u14, t14, e14, s14⟩ := len_cons s13; obtain ⟨u15, t15, e15, s15⟩ := len_cons s14; obtain ⟨u16, t16, e16, s16⟩ := len_cons s15; obtain ⟨u17, t17, e17, s17⟩ := len_cons s16; obtain ⟨u18, t18, e18, s18⟩ := len_cons s17; obtain ⟨u19, t19, e19, s19⟩ := len_cons s18; obtain ⟨u20, t20, e20, s20⟩ := len_cons s19; obtain ⟨u21, t21, e21, s21⟩ := len_cons s20; obtain ⟨u22, t22, e22, s22⟩ := len_cons s21; obtain ⟨u23, t23, e23, s23⟩ := len_cons s22; obtain ⟨u24, t24, e24, s24⟩ := len_cons s23; obtain ⟨u25, t25, e25, s25⟩ := len_cons s24; obtain ⟨u26, t26, e26, s26⟩ := len_cons s25; obtain ⟨u27, t27, e27, s27⟩ := len_cons s26; obtain ⟨u28, t28, e28, s28⟩ := len_cons s27; obtain ⟨u29, t29, e29, s29⟩ := len_cons s28; obtain ⟨u30, t30, e30, s30⟩ := len_cons s29; obtain ⟨u31, t31, e31, s31⟩ := len_cons s30; obtain ⟨u32, t32, e32, s32⟩ := len_cons s31; obtain ⟨u33, t33, e33, s33⟩ := len_cons s32; obtain ⟨u34, t34, e34, s34⟩ := len_cons s33; obtain ⟨u35, t35, e35, s35⟩ := len_cons s34; obtain ⟨u36, t36, e36, s36⟩ := len_cons s35; obtain ⟨u37, t37, e37, s37⟩ := len_cons s36; obtain ⟨u38, t38, e38, s38⟩ := len_cons s37; obtain ⟨u39, t39, e39, s39⟩ := len_cons s38; obtain ⟨u40, t40, e40, s40⟩ := len_cons s39; obtain ⟨u41, t41, e41, s41⟩ := len_cons s40
            obtain rfl := len_nil s41
            clear hus s0 s1 s2 s3 s4 s5 s6 s7 s8 s9 s10 s11 s12 s13 s14 s15 s16 s17 s18 s19 s20 s21 s22 s23 s24 s25 s26 s27 s28 s29 s30 s31 s32 s33 s34 s35 s36 s37 s38 s39 s40 s41
            subst e41 e40 e39 e38 e37 e36 e35 e34 e33 e32 e31 e30 e29 e28 e27 e26 e25 e24 e23 e22 e21 e20 e19 e18 e17 e16 e15 e14 e13 e12 e11 e10 e9 e8 e7 e6 e5 e4 e3 e2 e1 e0
            have h1 : Bs w' u1 a0.data.toList := h 1 (by kernel_rfl)
            have h2 : u2 = .string a1 := h 2 (by kernel_rfl)
            clear h
            simp only [over, Act.put, List.setIfInBounds_toArray, List.set_cons_zero, List.set_cons_succ]
            subst h2
            have c5 := impl_Trim _ _ a1 _ h1 (HT.out.ext x) (by omega) HA.out
            rw [HTT.out] at c5
            go_wp2_with (go_at_call 29; refine c5.mono ?_)
            rintro _ w5 ⟨v5, rfl, o5, x5⟩
            go_wp2_with fail
            exact postK_normal ⟨_, rfl, o5.bs, x5⟩
          refine AllSteps.cons (fun us hus w' x h => ?_) ?_
          · obtain ⟨u0, t0, e0, s0⟩ := len_cons hus; obtain ⟨u1, t1, e1, s1⟩ := len_cons s0; obtain ⟨u2, t2, e2, s2⟩ := len_cons s1; obtain ⟨u3, t3, e3, s3⟩ := len_cons s2; obtain ⟨u4, t4, e4, s4⟩ := len_cons s3; obtain ⟨u5, t5, e5, s5⟩ := len_cons s4; obtain ⟨u6, t6, e6, s6⟩ := len_cons s5; obtain ⟨u7, t7, e7, s7⟩ := len_cons s6; obtain ⟨u8, t8, e8, s8⟩ := len_cons s7; obtain ⟨u9, t9, e9, s9⟩ := len_cons s8; obtain ⟨u10, t10, e10, s10⟩ := len_cons s9; obtain ⟨u11, t11, e11, s11⟩ := len_cons s10; obtain ⟨u12, t12, e12, s12⟩ := len_cons s11; obtain ⟨u13, t13, e13, s13⟩ := len_cons s12; obtain ⟨u14, t14, e14, s14⟩ := len_cons s13; obtain ⟨u15, t15, e15, s15⟩ := len_cons s14; obtain ⟨u16, t16, e16, s16⟩ := len_cons s15; obtain ⟨u17, t17, e17, s17⟩ := len_cons s16; obtain ⟨u18, t18, e18, s18⟩ := len_cons s17; obtain ⟨u19, t19, e19, s19⟩ := len_cons s18; obtain ⟨u20, t20, e20, s20⟩ := len_cons s19; obtain ⟨u21, t21, e21, s21⟩ := len_cons s20; obtain ⟨u22, t22, e22, s22⟩ := len_cons s21; obtain ⟨u23, t23, e23, s23⟩ := len_cons s22; obtain ⟨u24, t24, e24, s24⟩ := len_cons s23; obtain ⟨u25, t25, e25, s25⟩ := len_cons s24; obtain ⟨u26, t26, e26, s26⟩ := len_cons s25; obtain ⟨u27, t27, e27, s27⟩ := len_cons s26; obtain ⟨u28, t28, e28, s28⟩ := len_cons s27; obtain ⟨u29, t29, e29, s29⟩ := len_cons s28; obtain ⟨u30, t30, e30, s30⟩ := len_cons s29; obtain ⟨u31, t31, e31, s31⟩ := len_cons s30; obtain ⟨u32, t32, e32, s32⟩ := len_cons s31; obtain ⟨u33, t33, e33, s33⟩ := len_cons s32; obtain ⟨u34, t34, e34, s34⟩ := len_cons s33; obtain ⟨u35, t35, e35, s35⟩ := len_cons s34; obtain ⟨u36, t36, e36, s36⟩ := len_cons s35; obtain ⟨u37, t37, e37, s37⟩ := len_cons s36; obtain ⟨u38, t38, e38, s38⟩ := len_cons s37; obtain ⟨u39, t39, e39, s39⟩ := len_cons s38; obtain ⟨u40, t40, e40, s40⟩ := len_cons s39; obtain ⟨u41, t41, e41, s41⟩ := len_cons s40
            obtain rfl := len_nil s41
            clear hus s0 s1 s2 s3 s4 s5 s6 s7 s8 s9 s10 s11 s12 s13 s14 s15 s16 s17 s18 s19 s20 s21 s22 s23 s24 s25 s26 s27 s28 s29 s30 s31 s32 s33 s34 s35 s36 s37 s38 s39 s40 s41
            subst e41 e40 e39 e38 e37 e36 e35 e34 e33 e32 e31 e30 e29 e28 e27 e26 e25 e24 e23 e22 e21 e20 e19 e18 e17 e16 e15 e14 e13 e12 e11 e10 e9 e8 e7 e6 e5 e4 e3 e2 e1 e0
            have h3 : Bs w' u3 TT := h 3 (by kernel_rfl)
            clear h
            simp only [over, Act.put, List.setIfInBounds_toArray, List.set_cons_zero, List.set_cons_succ]
            go_wp2_with (refine wpList_toString rfl 24 9 _ rfl 5 Tryd.underlying24 Tryd.underlying5 Tryd.underlying9 _ _ rfl h3 ?_)
            exact postK_normal ⟨_, rfl, rfl, Ext.refl _⟩
          refine AllSteps.cons (fun us hus w' x h => ?_) ?_
          · obtain ⟨u0, t0, e0, s0⟩ := len_cons hus; obtain ⟨u1, t1, e1, s1⟩ := len_cons s0; obtain ⟨u2, t2, e2, s2⟩ := len_cons s1; obtain ⟨u3, t3, e3, s3⟩ := len_cons s2; obtain ⟨u4, t4, e4, s4⟩ := len_cons s3; obtain ⟨u5, t5, e5, s5⟩ := len_cons s4; obtain ⟨u6, t6, e6, s6⟩ := len_cons s5; obtain ⟨u7, t7, e7, s7⟩ := len_cons s6; obtain ⟨u8, t8, e8, s8⟩ := len_cons s7; obtain ⟨u9, t9, e9, s9⟩ := len_cons s8; obtain ⟨u10, t10, e10, s10⟩ := len_cons s9; obtain ⟨u11, t11, e11, s11⟩ := len_cons s10; obtain ⟨u12, t12, e12, s12⟩ := len_cons s11; obtain ⟨u13, t13, e13, s13⟩ := len_cons s12; obtain ⟨u14, t14, e14, s14⟩ := len_cons s13; obtain ⟨u15, t15, e15, s15⟩ := len_cons s14; obtain ⟨u16, t16, e16, s16⟩ := len_cons s15; obtain ⟨u17, t17, e17, s17⟩ := len_cons s16; obtain ⟨u18, t18, e18, s18⟩ := len_cons s17; obtain ⟨u19, t19, e19, s19⟩ := len_cons s18; obtain ⟨u20, t20, e20, s20⟩ := len_cons s19; obtain ⟨u21, t21, e21, s21⟩ := len_cons s20; obtain ⟨u22, t22, e22, s22⟩ := len_cons s21; obtain ⟨u23, t23, e23, s23⟩ := len_cons s22; obtain ⟨u24, t24, e24, s24⟩ := len_cons s23; obtain ⟨u25, t25, e25, s25⟩ := len_cons s24; obtain ⟨u26, t26, e26, s26⟩ := len_cons s25; obtain ⟨u27, t27, e27, s27⟩ := len_cons s26; obtain ⟨u28, t28, e28, s28⟩ := len_cons s27; obtain ⟨u29, t29, e29, s29⟩ := len_cons s28; obtain ⟨u30, t30, e30, s30⟩ := len_cons s29; obtain ⟨u31, t31, e31, s31⟩ := len_cons s30; obtain ⟨u32, t32, e32, s32⟩ := len_cons s31; obtain ⟨u33, t33, e33, s33⟩ := len_cons s32; obtain ⟨u34, t34, e34, s34⟩ := len_cons s33; obtain ⟨u35, t35, e35, s35⟩ := len_cons s34; obtain ⟨u36, t36, e36, s36⟩ := len_cons s35; obtain ⟨u37, t37, e37, s37⟩ := len_cons s36; obtain ⟨u38, t38, e38, s38⟩ := len_cons s37; obtain ⟨u39, t39, e39, s39⟩ := len_cons s38; obtain ⟨u40, t40, e40, s40⟩ := len_cons s39; obtain ⟨u41, t41, e41, s41⟩ := len_cons s40
            obtain rfl := len_nil s41
            clear hus s0 s1 s2 s3 s4 s5 s6 s7 s8 s9 s10 s11 s12 s13 s14 s15 s16 s17 s18 s19 s20 s21 s22 s23 s24 s25 s26 s27 s28 s29 s30 s31 s32 s33 s34 s35 s36 s37 s38 s39 s40 s41
            subst e41 e40 e39 e38 e37 e36 e35 e34 e33 e32 e31 e30 e29 e28 e27 e26 e25 e24 e23 e22 e21 e20 e19 e18 e17 e16 e15 e14 e13 e12 e11 e10 e9 e8 e7 e6 e5 e4 e3 e2 e1 e0
            have h4 : u4 = .string ⟨TT.toArray⟩ := h 4 (by kernel_rfl)
            clear h
            simp only [over, Act.put, List.setIfInBounds_toArray, List.set_cons_zero, List.set_cons_succ]
            subst h4
            go_wp2_with (refine wpList_toBytes rfl 9 24 _ rfl 5 Tryd.underlying9 Tryd.underlying24 Tryd.underlying5 _ rfl mt ?_)
            intro v5 w5 o5 x5
            go_wp2_with fail
            exact postK_normal ⟨_, rfl, o5.bs, x5⟩
          refine AllSteps.cons (fun us hus w' x h => ?_) ?_
          · obtain ⟨u0, t0, e0, s0⟩ := len_cons hus; obtain ⟨u1, t1, e1, s1⟩ := len_cons s0; obtain ⟨u2, t2, e2, s2⟩ := len_cons s1; obtain ⟨u3, t3, e3, s3⟩ := len_cons s2; obtain ⟨u4, t4, e4, s4⟩ := len_cons s3; obtain ⟨u5, t5, e5, s5⟩ := len_cons s4; obtain ⟨u6, t6, e6, s6⟩ := len_cons s5; obtain ⟨u7, t7, e7, s7⟩ := len_cons s6; obtain ⟨u8, t8, e8, s8⟩ := len_cons s7; obtain ⟨u9, t9, e9, s9⟩ := len_cons s8; obtain ⟨u10, t10, e10, s10⟩ := len_cons s9; obtain ⟨u11, t11, e11, s11⟩ := len_cons s10; obtain ⟨u12, t12, e12, s12⟩ := len_cons s11; obtain ⟨u13, t13, e13, s13⟩ := len_cons s12; obtain ⟨u14, t14, e14, s14⟩ := len_cons s13; obtain ⟨u15, t15, e15, s15⟩ := len_cons s14; obtain ⟨u16, t16, e16, s16⟩ := len_cons s15; obtain ⟨u17, t17, e17, s17⟩ := len_cons s16; obtain ⟨u18, t18, e18, s18⟩ := len_cons s17; obtain ⟨u19, t19, e19, s19⟩ := len_cons s18; obtain ⟨u20, t20, e20, s20⟩ := len_cons s19; obtain ⟨u21, t21, e21, s21⟩ := len_cons s20; obtain ⟨u22, t22, e22, s22⟩ := len_cons s21; obtain ⟨u23, t23, e23, s23⟩ := len_cons s22; obtain ⟨u24, t24, e24, s24⟩ := len_cons s23; obtain ⟨u25, t25, e25, s25⟩ := len_cons s24; obtain ⟨u26, t26, e26, s26⟩ := len_cons s25; obtain ⟨u27, t27, e27, s27⟩ := len_cons s26; obtain ⟨u28, t28, e28, s28⟩ := len_cons s27; obtain ⟨u29, t29, e29, s29⟩ := len_cons s28; obtain ⟨u30, t30, e30, s30⟩ := len_cons s29; obtain ⟨u31, t31, e31, s31⟩ := len_cons s30; obtain ⟨u32, t32, e32, s32⟩ := len_cons s31; obtain ⟨u33, t33, e33, s33⟩ := len_cons s32; obtain ⟨u34, t34, e34, s34⟩ := len_cons s33; obtain ⟨u35, t35, e35, s35⟩ := len_cons s34; obtain ⟨u36, t36, e36, s36⟩ := len_cons s35; obtain ⟨u37, t37, e37, s37⟩ := len_cons s36; obtain ⟨u38, t38, e38, s38⟩ := len_cons s37; obtain ⟨u39, t39, e39, s39⟩ := len_cons s38; obtain ⟨u40, t40, e40, s40⟩ := len_cons s39; obtain ⟨u41, t41, e41, s41⟩ := len_cons s40
            obtain rfl := len_nil s41
            clear hus s0 s1 s2 s3 s4 s5 s6 s7 s8 s9 s10 s11 s12 s13 s14 s15 s16 s17 s18 s19 s20 s21 s22 s23 s24 s25 s26 s27 s28 s29 s30 s31 s32 s33 s34 s35 s36 s37 s38 s39 s40 s41
            subst e41 e40 e39 e38 e37 e36 e35 e34 e33 e32 e31 e30 e29 e28 e27 e26 e25 e24 e23 e22 e21 e20 e19 e18 e17 e16 e15 e14 e13 e12 e11 e10 e9 e8 e7 e6 e5 e4 e3 e2 e1 e0
            clear h
            simp only [over, Act.put, List.setIfInBounds_toArray, List.set_cons_zero, List.set_cons_succ]
            have f0 := x.cell HF0.out
            go_wp2_with fail
            exact postK_normal ⟨_, rfl, rfl, Ext.refl _⟩
          refine AllSteps.cons (fun us hus w' x h => ?_) ?_
          · obtain ⟨u0, t0, e0, s0⟩ := len_cons hus; obtain ⟨u1, t1, e1, s1⟩ := len_cons s0; obtain ⟨u2, t2, e2, s2⟩ := len_cons s1; obtain ⟨u3, t3, e3, s3⟩ := len_cons s2; obtain ⟨u4, t4, e4, s4⟩ := len_cons s3; obtain ⟨u5, t5, e5, s5⟩ := len_cons s4; obtain ⟨u6, t6, e6, s6⟩ := len_cons s5; obtain ⟨u7, t7, e7, s7⟩ := len_cons s6; obtain ⟨u8, t8, e8, s8⟩ := len_cons s7; obtain ⟨u9, t9, e9, s9⟩ := len_cons s8; obtain ⟨u10, t10, e10, s10⟩ := len_cons s9; obtain ⟨u11, t11, e11, s11⟩ := len_cons s10; obtain ⟨u12, t12, e12, s12⟩ := len_cons s11; obtain ⟨u13, t13, e13, s13⟩ := len_cons s12; obtain ⟨u14, t14, e14, s14⟩ := len_cons s13; obtain ⟨u15, t15, e15, s15⟩ := len_cons s14; obtain ⟨u16, t16, e16, s16⟩ := len_cons s15; obtain ⟨u17, t17, e17, s17⟩ := len_cons s16; obtain ⟨u18, t18, e18, s18⟩ := len_cons s17; obtain ⟨u19, t19, e19, s19⟩ := len_cons s18; obtain ⟨u20, t20, e20, s20⟩ := len_cons s19; obtain ⟨u21, t21, e21, s21⟩ := len_cons s20; obtain ⟨u22, t22, e22, s22⟩ := len_cons s21; obtain ⟨u23, t23, e23, s23⟩ := len_cons s22; obtain ⟨u24, t24, e24, s24⟩ := len_cons s23; obtain ⟨u25, t25, e25, s25⟩ := len_cons s24; obtain ⟨u26, t26, e26, s26⟩ := len_cons s25; obtain ⟨u27, t27, e27, s27⟩ := len_cons s26; obtain ⟨u28, t28, e28, s28⟩ := len_cons s27; obtain ⟨u29, t29, e29, s29⟩ := len_cons s28; obtain ⟨u30, t30, e30, s30⟩ := len_cons s29; obtain ⟨u31, t31, e31, s31⟩ := len_cons s30; obtain ⟨u32, t32, e32, s32⟩ := len_cons s31; obtain ⟨u33, t33, e33, s33⟩ := len_cons s32; obtain ⟨u34, t34, e34, s34⟩ := len_cons s33; obtain ⟨u35, t35, e35, s35⟩ := len_cons s34; obtain ⟨u36, t36, e36, s36⟩ := len_cons s35; obtain ⟨u37, t37, e37, s37⟩ := len_cons s36; obtain ⟨u38, t38, e38, s38⟩ := len_cons s37; obtain ⟨u39, t39, e39, s39⟩ := len_cons s38; obtain ⟨u40, t40, e40, s40⟩ := len_cons s39; obtain ⟨u41, t41, e41, s41⟩ := len_cons s40
            obtain rfl := len_nil s41
            clear hus s0 s1 s2 s3 s4 s5 s6 s7 s8 s9 s10 s11 s12 s13 s14 s15 s16 s17 s18 s19 s20 s21 s22 s23 s24 s25 s26 s27 s28 s29 s30 s31 s32 s33 s34 s35 s36 s37 s38 s39 s40 s41
            subst e41 e40 e39 e38 e37 e36 e35 e34 e33 e32 e31 e30 e29 e28 e27 e26 e25 e24 e23 e22 e21 e20 e19 e18 e17 e16 e15 e14 e13 e12 e11 e10 e9 e8 e7 e6 e5 e4 e3 e2 e1 e0
            have h5 : Bs w' u5 TT := h 5 (by kernel_rfl)
            have h6 : u6 = .agg #[.slice ta rows.length tc] := h 6 (by kernel_rfl)
            clear h
            simp only [over, Act.put, List.setIfInBounds_toArray, List.set_cons_zero, List.set_cons_succ]
            subst h6
            have c5 := impl_Map _ _ rows _ _ (HTB.out.ext x) h5 (HT.out.ext x) HTL.out HLE.out
            rw [HMT.out] at c5
            go_wp2_with (go_at_call 14; refine c5.mono ?_)
            rintro _ w5 ⟨v5, rfl, o5, x5⟩
            go_wp2_with fail
            exact postK_normal ⟨_, rfl, o5.bs, x5⟩
          refine AllSteps.cons (fun us hus w' x h => ?_) ?_
          · obtain ⟨u0, t0, e0, s0⟩ := len_cons hus; obtain ⟨u1, t1, e1, s1⟩ := len_cons s0; obtain ⟨u2, t2, e2, s2⟩ := len_cons s1; obtain ⟨u3, t3, e3, s3⟩ := len_cons s2; obtain ⟨u4, t4, e4, s4⟩ := len_cons s3; obtain ⟨u5, t5, e5, s5⟩ := len_cons s4; obtain ⟨u6, t6, e6, s6⟩ := len_cons s5; obtain ⟨u7, t7, e7, s7⟩ := len_cons s6; obtain ⟨u8, t8, e8, s8⟩ := len_cons s7; obtain ⟨u9, t9, e9, s9⟩ := len_cons s8; obtain ⟨u10, t10, e10, s10⟩ := len_cons s9; obtain ⟨u11, t11, e11, s11⟩ := len_cons s10; obtain ⟨u12, t12, e12, s12⟩ := len_cons s11; obtain ⟨u13, t13, e13, s13⟩ := len_cons s12; obtain ⟨u14, t14, e14, s14⟩ := len_cons s13; obtain ⟨u15, t15, e15, s15⟩ := len_cons s14; obtain ⟨u16, t16, e16, s16⟩ := len_cons s15; obtain ⟨u17, t17, e17, s17⟩ := len_cons s16; obtain ⟨u18, t18, e18, s18⟩ := len_cons s17; obtain ⟨u19, t19, e19, s19⟩ := len_cons s18; obtain ⟨u20, t20, e20, s20⟩ := len_cons s19; obtain ⟨u21, t21, e21, s21⟩ := len_cons s20; obtain ⟨u22, t22, e22, s22⟩ := len_cons s21; obtain ⟨u23, t23, e23, s23⟩ := len_cons s22; obtain ⟨u24, t24, e24, s24⟩ := len_cons s23; obtain ⟨u25, t25, e25, s25⟩ := len_cons s24; obtain ⟨u26, t26, e26, s26⟩ := len_cons s25; obtain ⟨u27, t27, e27, s27⟩ := len_cons s26; obtain ⟨u28, t28, e28, s28⟩ := len_cons s27; obtain ⟨u29, t29, e29, s29⟩ := len_cons s28; obtain ⟨u30, t30, e30, s30⟩ := len_cons s29; obtain ⟨u31, t31, e31, s31⟩ := len_cons s30; obtain ⟨u32, t32, e32, s32⟩ := len_cons s31; obtain ⟨u33, t33, e33, s33⟩ := len_cons s32; obtain ⟨u34, t34, e34, s34⟩ := len_cons s33; obtain ⟨u35, t35, e35, s35⟩ := len_cons s34; obtain ⟨u36, t36, e36, s36⟩ := len_cons s35; obtain ⟨u37, t37, e37, s37⟩ := len_cons s36; obtain ⟨u38, t38, e38, s38⟩ := len_cons s37; obtain ⟨u39, t39, e39, s39⟩ := len_cons s38; obtain ⟨u40, t40, e40, s40⟩ := len_cons s39; obtain ⟨u41, t41, e41, s41⟩ := len_cons s40
            obtain rfl := len_nil s41
            clear hus s0 s1 s2 s3 s4 s5 s6 s7 s8 s9 s10 s11 s12 s13 s14 s15 s16 s17 s18 s19 s20 s21 s22 s23 s24 s25 s26 s27 s28 s29 s30 s31 s32 s33 s34 s35 s36 s37 s38 s39 s40 s41
            subst e41 e40 e39 e38 e37 e36 e35 e34 e33 e32 e31 e30 e29 e28 e27 e26 e25 e24 e23 e22 e21 e20 e19 e18 e17 e16 e15 e14 e13 e12 e11 e10 e9 e8 e7 e6 e5 e4 e3 e2 e1 e0
            have h7 : Bs w' u7 M := h 7 (by kernel_rfl)
            clear h
            simp only [over, Act.put, List.setIfInBounds_toArray, List.set_cons_zero, List.set_cons_succ]
            go_wp2_with (refine wpList_toString rfl 24 9 _ rfl 5 Tryd.underlying24 Tryd.underlying5 Tryd.underlying9 _ _ rfl h7 ?_)
            exact postK_normal ⟨_, rfl, rfl, Ext.refl _⟩
          refine AllSteps.cons (fun us hus w' x h => ?_) ?_
          · obtain ⟨u0, t0, e0, s0⟩ := len_cons hus; obtain ⟨u1, t1, e1, s1⟩ := len_cons s0; obtain ⟨u2, t2, e2, s2⟩ := len_cons s1; obtain ⟨u3, t3, e3, s3⟩ := len_cons s2; obtain ⟨u4, t4, e4, s4⟩ := len_cons s3; obtain ⟨u5, t5, e5, s5⟩ := len_cons s4; obtain ⟨u6, t6, e6, s6⟩ := len_cons s5; obtain ⟨u7, t7, e7, s7⟩ := len_cons s6; obtain ⟨u8, t8, e8, s8⟩ := len_cons s7; obtain ⟨u9, t9, e9, s9⟩ := len_cons s8; obtain ⟨u10, t10, e10, s10⟩ := len_cons s9; obtain ⟨u11, t11, e11, s11⟩ := len_cons s10; obtain ⟨u12, t12, e12, s12⟩ := len_cons s11; obtain ⟨u13, t13, e13, s13⟩ := len_cons s12; obtain ⟨u14, t14, e14, s14⟩ := len_cons s13; obtain ⟨u15, t15, e15, s15⟩ := len_cons s14; obtain ⟨u16, t16, e16, s16⟩ := len_cons s15; obtain ⟨u17, t17, e17, s17⟩ := len_cons s16; obtain ⟨u18, t18, e18, s18⟩ := len_cons s17; obtain ⟨u19, t19, e19, s19⟩ := len_cons s18; obtain ⟨u20, t20, e20, s20⟩ := len_cons s19; obtain ⟨u21, t21, e21, s21⟩ := len_cons s20; obtain ⟨u22, t22, e22, s22⟩ := len_cons s21; obtain ⟨u23, t23, e23, s23⟩ := len_cons s22; obtain ⟨u24, t24, e24, s24⟩ := len_cons s23; obtain ⟨u25, t25, e25, s25⟩ := len_cons s24; obtain ⟨u26, t26, e26, s26⟩ := len_cons s25; obtain ⟨u27, t27, e27, s27⟩ := len_cons s26; obtain ⟨u28, t28, e28, s28⟩ := len_cons s27; obtain ⟨u29, t29, e29, s29⟩ := len_cons s28; obtain ⟨u30, t30, e30, s30⟩ := len_cons s29; obtain ⟨u31, t31, e31, s31⟩ := len_cons s30; obtain ⟨u32, t32, e32, s32⟩ := len_cons s31; obtain ⟨u33, t33, e33, s33⟩ := len_cons s32; obtain ⟨u34, t34, e34, s34⟩ := len_cons s33; obtain ⟨u35, t35, e35, s35⟩ := len_cons s34; obtain ⟨u36, t36, e36, s36⟩ := len_cons s35; obtain ⟨u37, t37, e37, s37⟩ := len_cons s36; obtain ⟨u38, t38, e38, s38⟩ := len_cons s37; obtain ⟨u39, t39, e39, s39⟩ := len_cons s38; obtain ⟨u40, t40, e40, s40⟩ := len_cons s39; obtain ⟨u41, t41, e41, s41⟩ := len_cons s40
            obtain rfl := len_nil s41
            clear hus s0 s1 s2 s3 s4 s5 s6 s7 s8 s9 s10 s11 s12 s13 s14 s15 s16 s17 s18 s19 s20 s21 s22 s23 s24 s25 s26 s27 s28 s29 s30 s31 s32 s33 s34 s35 s36 s37 s38 s39 s40 s41
            subst e41 e40 e39 e38 e37 e36 e35 e34 e33 e32 e31 e30 e29 e28 e27 e26 e25 e24 e23 e22 e21 e20 e19 e18 e17 e16 e15 e14 e13 e12 e11 e10 e9 e8 e7 e6 e5 e4 e3 e2 e1 e0
            clear h
            simp only [over, Act.put, List.setIfInBounds_toArray, List.set_cons_zero, List.set_cons_succ]
            go_wp2_with fail
            exact postK_normal ⟨_, rfl, rfl, Ext.refl _⟩
          refine AllSteps.cons (fun us hus w' x h => ?_) ?_
          · obtain ⟨u0, t0, e0, s0⟩ := len_cons hus; obtain ⟨u1, t1, e1, s1⟩ := len_cons s0; obtain ⟨u2, t2, e2, s2⟩ := len_cons s1; obtain ⟨u3, t3, e3, s3⟩ := len_cons s2; obtain ⟨u4, t4, e4, s4⟩ := len_cons s3; obtain ⟨u5, t5, e5, s5⟩ := len_cons s4; obtain ⟨u6, t6, e6, s6⟩ := len_cons s5; obtain ⟨u7, t7, e7, s7⟩ := len_cons s6; obtain ⟨u8, t8, e8, s8⟩ := len_cons s7; obtain ⟨u9, t9, e9, s9⟩ := len_cons s8; obtain ⟨u10, t10, e10, s10⟩ := len_cons s9; obtain ⟨u11, t11, e11, s11⟩ := len_cons s10; obtain ⟨u12, t12, e12, s12⟩ := len_cons s11; obtain ⟨u13, t13, e13, s13⟩ := len_cons s12; obtain ⟨u14, t14, e14, s14⟩ := len_cons s13; obtain ⟨u15, t15, e15, s15⟩ := len_cons s14; obtain ⟨u16, t16, e16, s16⟩ := len_cons s15; obtain ⟨u17, t17, e17, s17⟩ := len_cons s16; obtain ⟨u18, t18, e18, s18⟩ := len_cons s17; obtain ⟨u19, t19, e19, s19⟩ := len_cons s18; obtain ⟨u20, t20, e20, s20⟩ := len_cons s19; obtain ⟨u21, t21, e21, s21⟩ := len_cons s20; obtain ⟨u22, t22, e22, s22⟩ := len_cons s21; obtain ⟨u23, t23, e23, s23⟩ := len_cons s22; obtain ⟨u24, t24, e24, s24⟩ := len_cons s23; obtain ⟨u25, t25, e25, s25⟩ := len_cons s24; obtain ⟨u26, t26, e26, s26⟩ := len_cons s25; obtain ⟨u27, t27, e27, s27⟩ := len_cons s26; obtain ⟨u28, t28, e28, s28⟩ := len_cons s27; obtain ⟨u29, t29, e29, s29⟩ := len_cons s28; obtain ⟨u30, t30, e30, s30⟩ := len_cons s29; obtain ⟨u31, t31, e31, s31⟩ := len_cons s30; obtain ⟨u32, t32, e32, s32⟩ := len_cons s31; obtain ⟨u33, t33, e33, s33⟩ := len_cons s32; obtain ⟨u34, t34, e34, s34⟩ := len_cons s33; obtain ⟨u35, t35, e35, s35⟩ := len_cons s34; obtain ⟨u36, t36, e36, s36⟩ := len_cons s35; obtain ⟨u37, t37, e37, s37⟩ := len_cons s36; obtain ⟨u38, t38, e38, s38⟩ := len_cons s37; obtain ⟨u39, t39, e39, s39⟩ := len_cons s38; obtain ⟨u40, t40, e40, s40⟩ := len_cons s39; obtain ⟨u41, t41, e41, s41⟩ := len_cons s40
            obtain rfl := len_nil s41
            clear hus s0 s1 s2 s3 s4 s5 s6 s7 s8 s9 s10 s11 s12 s13 s14 s15 s16 s17 s18 s19 s20 s21 s22 s23 s24 s25 s26 s27 s28 s29 s30 s31 s32 s33 s34 s35 s36 s37 s38 s39 s40 s41
            subst e41 e40 e39 e38 e37 e36 e35 e34 e33 e32 e31 e30 e29 e28 e27 e26 e25 e24 e23 e22 e21 e20 e19 e18 e17 e16 e15 e14 e13 e12 e11 e10 e9 e8 e7 e6 e5 e4 e3 e2 e1 e0
            have h9 : u9 = .string a0 := h 9 (by kernel_rfl)
            clear h
            simp only [over, Act.put, List.setIfInBounds_toArray, List.set_cons_zero, List.set_cons_succ]
            subst h9
            go_wp2_with (refine wpList_toBytes rfl 9 24 _ rfl 5 Tryd.underlying9 Tryd.underlying24 Tryd.underlying5 _ rfl hmax ?_)
            intro v5 w5 o5 x5
            go_wp2_with fail
            exact postK_normal ⟨_, rfl, o5.bs, x5⟩
          refine AllSteps.cons (fun us hus w' x h => ?_) ?_
          · obtain ⟨u0, t0, e0, s0⟩ := len_cons hus; obtain ⟨u1, t1, e1, s1⟩ := len_cons s0; obtain ⟨u2, t2, e2, s2⟩ := len_cons s1; obtain ⟨u3, t3, e3, s3⟩ := len_cons s2; obtain ⟨u4, t4, e4, s4⟩ := len_cons s3; obtain ⟨u5, t5, e5, s5⟩ := len_cons s4; obtain ⟨u6, t6, e6, s6⟩ := len_cons s5; obtain ⟨u7, t7, e7, s7⟩ := len_cons s6; obtain ⟨u8, t8, e8, s8⟩ := len_cons s7; obtain ⟨u9, t9, e9, s9⟩ := len_cons s8; obtain ⟨u10, t10, e10, s10⟩ := len_cons s9; obtain ⟨u11, t11, e11, s11⟩ := len_cons s10; obtain ⟨u12, t12, e12, s12⟩ := len_cons s11; obtain ⟨u13, t13, e13, s13⟩ := len_cons s12; obtain ⟨u14, t14, e14, s14⟩ := len_cons s13; obtain ⟨u15, t15, e15, s15⟩ := len_cons s14; obtain ⟨u16, t16, e16, s16⟩ := len_cons s15; obtain ⟨u17, t17, e17, s17⟩ := len_cons s16; obtain ⟨u18, t18, e18, s18⟩ := len_cons s17; obtain ⟨u19, t19, e19, s19⟩ := len_cons s18; obtain ⟨u20, t20, e20, s20⟩ := len_cons s19; obtain ⟨u21, t21, e21, s21⟩ := len_cons s20; obtain ⟨u22, t22, e22, s22⟩ := len_cons s21; obtain ⟨u23, t23, e23, s23⟩ := len_cons s22; obtain ⟨u24, t24, e24, s24⟩ := len_cons s23; obtain ⟨u25, t25, e25, s25⟩ := len_cons s24; obtain ⟨u26, t26, e26, s26⟩ := len_cons s25; obtain ⟨u27, t27, e27, s27⟩ := len_cons s26; obtain ⟨u28, t28, e28, s28⟩ := len_cons s27; obtain ⟨u29, t29, e29, s29⟩ := len_cons s28; obtain ⟨u30, t30, e30, s30⟩ := len_cons s29; obtain ⟨u31, t31, e31, s31⟩ := len_cons s30; obtain ⟨u32, t32, e32, s32⟩ := len_cons s31; obtain ⟨u33, t33, e33, s33⟩ := len_cons s32; obtain ⟨u34, t34, e34, s34⟩ := len_cons s33; obtain ⟨u35, t35, e35, s35⟩ := len_cons s34; obtain ⟨u36, t36, e36, s36⟩ := len_cons s35; obtain ⟨u37, t37, e37, s37⟩ := len_cons s36; obtain ⟨u38, t38, e38, s38⟩ := len_cons s37; obtain ⟨u39, t39, e39, s39⟩ := len_cons s38; obtain ⟨u40, t40, e40, s40⟩ := len_cons s39; obtain ⟨u41, t41, e41, s41⟩ := len_cons s40
            obtain rfl := len_nil s41
            clear hus s0 s1 s2 s3 s4 s5 s6 s7 s8 s9 s10 s11 s12 s13 s14 s15 s16 s17 s18 s19 s20 s21 s22 s23 s24 s25 s26 s27 s28 s29 s30 s31 s32 s33 s34 s35 s36 s37 s38 s39 s40 s41
            subst e41 e40 e39 e38 e37 e36 e35 e34 e33 e32 e31 e30 e29 e28 e27 e26 e25 e24 e23 e22 e21 e20 e19 e18 e17 e16 e15 e14 e13 e12 e11 e10 e9 e8 e7 e6 e5 e4 e3 e2 e1 e0
            clear h
            simp only [over, Act.put, List.setIfInBounds_toArray, List.set_cons_zero, List.set_cons_succ]
            have f0 := x.cell HF0.out
            go_wp2_with fail
            exact postK_normal ⟨_, rfl, rfl, Ext.refl _⟩
          refine AllSteps.cons (fun us hus w' x h => ?_) ?_
          · obtain ⟨u0, t0, e0, s0⟩ := len_cons hus; obtain ⟨u1, t1, e1, s1⟩ := len_cons s0; obtain ⟨u2, t2, e2, s2⟩ := len_cons s1; obtain ⟨u3, t3, e3, s3⟩ := len_cons s2; obtain ⟨u4, t4, e4, s4⟩ := len_cons s3; obtain ⟨u5, t5, e5, s5⟩ := len_cons s4; obtain ⟨u6, t6, e6, s6⟩ := len_cons s5; obtain ⟨u7, t7, e7, s7⟩ := len_cons s6; obtain ⟨u8, t8, e8, s8⟩ := len_cons s7; obtain ⟨u9, t9, e9, s9⟩ := len_cons s8; obtain ⟨u10, t10, e10, s10⟩ := len_cons s9; obtain ⟨u11, t11, e11, s11⟩ := len_cons s10; obtain ⟨u12, t12, e12, s12⟩ := len_cons s11; obtain ⟨u13, t13, e13, s13⟩ := len_cons s12; obtain ⟨u14, t14, e14, s14⟩ := len_cons s13; obtain ⟨u15, t15, e15, s15⟩ := len_cons s14; obtain ⟨u16, t16, e16, s16⟩ := len_cons s15; obtain ⟨u17, t17, e17, s17⟩ := len_cons s16; obtain ⟨u18, t18, e18, s18⟩ := len_cons s17; obtain ⟨u19, t19, e19, s19⟩ := len_cons s18; obtain ⟨u20, t20, e20, s20⟩ := len_cons s19; obtain ⟨u21, t21, e21, s21⟩ := len_cons s20; obtain ⟨u22, t22, e22, s22⟩ := len_cons s21; obtain ⟨u23, t23, e23, s23⟩ := len_cons s22; obtain ⟨u24, t24, e24, s24⟩ := len_cons s23; obtain ⟨u25, t25, e25, s25⟩ := len_cons s24; obtain ⟨u26, t26, e26, s26⟩ := len_cons s25; obtain ⟨u27, t27, e27, s27⟩ := len_cons s26; obtain ⟨u28, t28, e28, s28⟩ := len_cons s27; obtain ⟨u29, t29, e29, s29⟩ := len_cons s28; obtain ⟨u30, t30, e30, s30⟩ := len_cons s29; obtain ⟨u31, t31, e31, s31⟩ := len_cons s30; obtain ⟨u32, t32, e32, s32⟩ := len_cons s31; obtain ⟨u33, t33, e33, s33⟩ := len_cons s32; obtain ⟨u34, t34, e34, s34⟩ := len_cons s33; obtain ⟨u35, t35, e35, s35⟩ := len_cons s34; obtain ⟨u36, t36, e36, s36⟩ := len_cons s35; obtain ⟨u37, t37, e37, s37⟩ := len_cons s36; obtain ⟨u38, t38, e38, s38⟩ := len_cons s37; obtain ⟨u39, t39, e39, s39⟩ := len_cons s38; obtain ⟨u40, t40, e40, s40⟩ := len_cons s39; obtain ⟨u41, t41, e41, s41⟩ := len_cons s40
            obtain rfl := len_nil s41
            clear hus s0 s1 s2 s3 s4 s5 s6 s7 s8 s9 s10 s11 s12 s13 s14 s15 s16 s17 s18 s19 s20 s21 s22 s23 s24 s25 s26 s27 s28 s29 s30 s31 s32 s33 s34 s35 s36 s37 s38 s39 s40 s41
            subst e41 e40 e39 e38 e37 e36 e35 e34 e33 e32 e31 e30 e29 e28 e27 e26 e25 e24 e23 e22 e21 e20 e19 e18 e17 e16 e15 e14 e13 e12 e11 e10 e9 e8 e7 e6 e5 e4 e3 e2 e1 e0
            have h10 : Bs w' u10 a0.data.toList := h 10 (by kernel_rfl)
            have h11 : u11 = .agg #[.slice ta rows.length tc] := h 11 (by kernel_rfl)
            clear h
            simp only [over, Act.put, List.setIfInBounds_toArray, List.set_cons_zero, List.set_cons_succ]
            subst h11
            have c5 := impl_Map _ _ rows _ _ (HTB.out.ext x) h10 (HT.out.ext x) (by show a0.size ≤ _; omega) HLE.out
            rw [HM.out] at c5
            go_wp2_with (go_at_call 14; refine c5.mono ?_)
            rintro _ w5 ⟨v5, rfl, o5, x5⟩
            go_wp2_with fail
            exact postK_normal ⟨_, rfl, o5.bs, x5⟩
          refine AllSteps.cons (fun us hus w' x h => ?_) ?_
          · obtain ⟨u0, t0, e0, s0⟩ := len_cons hus; obtain ⟨u1, t1, e1, s1⟩ := len_cons s0; obtain ⟨u2, t2, e2, s2⟩ := len_cons s1; obtain ⟨u3, t3, e3, s3⟩ := len_cons s2; obtain ⟨u4, t4, e4, s4⟩ := len_cons s3; obtain ⟨u5, t5, e5, s5⟩ := len_cons s4; obtain ⟨u6, t6, e6, s6⟩ := len_cons s5; obtain ⟨u7, t7, e7, s7⟩ := len_cons s6; obtain ⟨u8, t8, e8, s8⟩ := len_cons s7; obtain ⟨u9, t9, e9, s9⟩ := len_cons s8; obtain ⟨u10, t10, e10, s10⟩ := len_cons s9; obtain ⟨u11, t11, e11, s11⟩ := len_cons s10; obtain ⟨u12, t12, e12, s12⟩ := len_cons s11; obtain ⟨u13, t13, e13, s13⟩ := len_cons s12; obtain ⟨u14, t14, e14, s14⟩ := len_cons s13; obtain ⟨u15, t15, e15, s15⟩ := len_cons s14; obtain ⟨u16, t16, e16, s16⟩ := len_cons s15; obtain ⟨u17, t17, e17, s17⟩ := len_cons s16; obtain ⟨u18, t18, e18, s18⟩ := len_cons s17; obtain ⟨u19, t19, e19, s19⟩ := len_cons s18; obtain ⟨u20, t20, e20, s20⟩ := len_cons s19; obtain ⟨u21, t21, e21, s21⟩ := len_cons s20; obtain ⟨u22, t22, e22, s22⟩ := len_cons s21; obtain ⟨u23, t23, e23, s23⟩ := len_cons s22; obtain ⟨u24, t24, e24, s24⟩ := len_cons s23; obtain ⟨u25, t25, e25, s25⟩ := len_cons s24; obtain ⟨u26, t26, e26, s26⟩ := len_cons s25; obtain ⟨u27, t27, e27, s27⟩ := len_cons s26; obtain ⟨u28, t28, e28, s28⟩ := len_cons s27; obtain ⟨u29, t29, e29, s29⟩ := len_cons s28; obtain ⟨u30, t30, e30, s30⟩ := len_cons s29; obtain ⟨u31, t31, e31, s31⟩ := len_cons s30; obtain ⟨u32, t32, e32, s32⟩ := len_cons s31; obtain ⟨u33, t33, e33, s33⟩ := len_cons s32; obtain ⟨u34, t34, e34, s34⟩ := len_cons s33; obtain ⟨u35, t35, e35, s35⟩ := len_cons s34; obtain ⟨u36, t36, e36, s36⟩ := len_cons s35; obtain ⟨u37, t37, e37, s37⟩ := len_cons s36; obtain ⟨u38, t38, e38, s38⟩ := len_cons s37; obtain ⟨u39, t39, e39, s39⟩ := len_cons s38; obtain ⟨u40, t40, e40, s40⟩ := len_cons s39; obtain ⟨u41, t41, e41, s41⟩ := len_cons s40
            obtain rfl := len_nil s41
            clear hus s0 s1 s2 s3 s4 s5 s6 s7 s8 s9 s10 s11 s12 s13 s14 s15 s16 s17 s18 s19 s20 s21 s22 s23 s24 s25 s26 s27 s28 s29 s30 s31 s32 s33 s34 s35 s36 s37 s38 s39 s40 s41
            subst e41 e40 e39 e38 e37 e36 e35 e34 e33 e32 e31 e30 e29 e28 e27 e26 e25 e24 e23 e22 e21 e20 e19 e18 e17 e16 e15 e14 e13 e12 e11 e10 e9 e8 e7 e6 e5 e4 e3 e2 e1 e0
            have h12 : Bs w' u12 M := h 12 (by kernel_rfl)
            clear h
            simp only [over, Act.put, List.setIfInBounds_toArray, List.set_cons_zero, List.set_cons_succ]
            go_wp2_with (refine wpList_toString rfl 24 9 _ rfl 5 Tryd.underlying24 Tryd.underlying5 Tryd.underlying9 _ _ rfl h12 ?_)
            exact postK_normal ⟨_, rfl, rfl, Ext.refl _⟩
          refine AllSteps.cons (fun us hus w' x h => ?_) ?_
          · obtain ⟨u0, t0, e0, s0⟩ := len_cons hus; obtain ⟨u1, t1, e1, s1⟩ := len_cons s0; obtain ⟨u2, t2, e2, s2⟩ := len_cons s1; obtain ⟨u3, t3, e3, s3⟩ := len_cons s2; obtain ⟨u4, t4, e4, s4⟩ := len_cons s3; obtain ⟨u5, t5, e5, s5⟩ := len_cons s4; obtain ⟨u6, t6, e6, s6⟩ := len_cons s5; obtain ⟨u7, t7, e7, s7⟩ := len_cons s6; obtain ⟨u8, t8, e8, s8⟩ := len_cons s7; obtain ⟨u9, t9, e9, s9⟩ := len_cons s8; obtain ⟨u10, t10, e10, s10⟩ := len_cons s9; obtain ⟨u11, t11, e11, s11⟩ := len_cons s10; obtain ⟨u12, t12, e12, s12⟩ := len_cons s11; obtain ⟨u13, t13, e13, s13⟩ := len_cons s12; obtain ⟨u14, t14, e14, s14⟩ := len_cons s13; obtain ⟨u15, t15, e15, s15⟩ := len_cons s14; obtain ⟨u16, t16, e16, s16⟩ := len_cons s15; obtain ⟨u17, t17, e17, s17⟩ := len_cons s16; obtain ⟨u18, t18, e18, s18⟩ := len_cons s17; obtain ⟨u19, t19, e19, s19⟩ := len_cons s18; obtain ⟨u20, t20, e20, s20⟩ := len_cons s19; obtain ⟨u21, t21, e21, s21⟩ := len_cons s20; obtain ⟨u22, t22, e22, s22⟩ := len_cons s21; obtain ⟨u23, t23, e23, s23⟩ := len_cons s22; obtain ⟨u24, t24, e24, s24⟩ := len_cons s23; obtain ⟨u25, t25, e25, s25⟩ := len_cons s24; obtain ⟨u26, t26, e26, s26⟩ := len_cons s25; obtain ⟨u27, t27, e27, s27⟩ := len_cons s26; obtain ⟨u28, t28, e28, s28⟩ := len_cons s27; obtain ⟨u29, t29, e29, s29⟩ := len_cons s28; obtain ⟨u30, t30, e30, s30⟩ := len_cons s29; obtain ⟨u31, t31, e31, s31⟩ := len_cons s30; obtain ⟨u32, t32, e32, s32⟩ := len_cons s31; obtain ⟨u33, t33, e33, s33⟩ := len_cons s32; obtain ⟨u34, t34, e34, s34⟩ := len_cons s33; obtain ⟨u35, t35, e35, s35⟩ := len_cons s34; obtain ⟨u36, t36, e36, s36⟩ := len_cons s35; obtain ⟨u37, t37, e37, s37⟩ := len_cons s36; obtain ⟨u38, t38, e38, s38⟩ := len_cons s37; obtain ⟨u39, t39, e39, s39⟩ := len_cons s38; obtain ⟨u40, t40, e40, s40⟩ := len_cons s39; obtain ⟨u41, t41, e41, s41⟩ := len_cons s40
            obtain rfl := len_nil s41
            clear hus s0 s1 s2 s3 s4 s5 s6 s7 s8 s9 s10 s11 s12 s13 s14 s15 s16 s17 s18 s19 s20 s21 s22 s23 s24 s25 s26 s27 s28 s29 s30 s31 s32 s33 s34 s35 s36 s37 s38 s39 s40 s41
            subst e41 e40 e39 e38 e37 e36 e35 e34 e33 e32 e31 e30 e29 e28 e27 e26 e25 e24 e23 e22 e21 e20 e19 e18 e17 e16 e15 e14 e13 e12 e11 e10 e9 e8 e7 e6 e5 e4 e3 e2 e1 e0
            have h8 : u8 = .string ⟨M.toArray⟩ := h 8 (by kernel_rfl)
            have h13 : u13 = .string ⟨M.toArray⟩ := h 13 (by kernel_rfl)
            clear h
            simp only [over, Act.put, List.setIfInBounds_toArray, List.set_cons_zero, List.set_cons_succ]
            subst h8
            subst h13
            go_wp2_with fail
            exact postK_normal ⟨_, rfl, rfl, Ext.refl _⟩
          refine AllSteps.cons (fun us hus w' x h => ?_) ?_
          · obtain ⟨u0, t0, e0, s0⟩ := len_cons hus; obtain ⟨u1, t1, e1, s1⟩ := len_cons s0; obtain ⟨u2, t2, e2, s2⟩ := len_cons s1; obtain ⟨u3, t3, e3, s3⟩ := len_cons s2; obtain ⟨u4, t4, e4, s4⟩ := len_cons s3; obtain ⟨u5, t5, e5, s5⟩ := len_cons s4; obtain ⟨u6, t6, e6, s6⟩ := len_cons s5; obtain ⟨u7, t7, e7, s7⟩ := len_cons s6; obtain ⟨u8, t8, e8, s8⟩ := len_cons s7; obtain ⟨u9, t9, e9, s9⟩ := len_cons s8; obtain ⟨u10, t10, e10, s10⟩ := len_cons s9; obtain ⟨u11, t11, e11, s11⟩ := len_cons s10; obtain ⟨u12, t12, e12, s12⟩ := len_cons s11; obtain ⟨u13, t13, e13, s13⟩ := len_cons s12; obtain ⟨u14, t14, e14, s14⟩ := len_cons s13; obtain ⟨u15, t15, e15, s15⟩ := len_cons s14; obtain ⟨u16, t16, e16, s16⟩ := len_cons s15; obtain ⟨u17, t17, e17, s17⟩ := len_cons s16; obtain ⟨u18, t18, e18, s18⟩ := len_cons s17; obtain ⟨u19, t19, e19, s19⟩ := len_cons s18; obtain ⟨u20, t20, e20, s20⟩ := len_cons s19; obtain ⟨u21, t21, e21, s21⟩ := len_cons s20; obtain ⟨u22, t22, e22, s22⟩ := len_cons s21; obtain ⟨u23, t23, e23, s23⟩ := len_cons s22; obtain ⟨u24, t24, e24, s24⟩ := len_cons s23; obtain ⟨u25, t25, e25, s25⟩ := len_cons s24; obtain ⟨u26, t26, e26, s26⟩ := len_cons s25; obtain ⟨u27, t27, e27, s27⟩ := len_cons s26; obtain ⟨u28, t28, e28, s28⟩ := len_cons s27; obtain ⟨u29, t29, e29, s29⟩ := len_cons s28; obtain ⟨u30, t30, e30, s30⟩ := len_cons s29; obtain ⟨u31, t31, e31, s31⟩ := len_cons s30; obtain ⟨u32, t32, e32, s32⟩ := len_cons s31; obtain ⟨u33, t33, e33, s33⟩ := len_cons s32; obtain ⟨u34, t34, e34, s34⟩ := len_cons s33; obtain ⟨u35, t35, e35, s35⟩ := len_cons s34; obtain ⟨u36, t36, e36, s36⟩ := len_cons s35; obtain ⟨u37, t37, e37, s37⟩ := len_cons s36; obtain ⟨u38, t38, e38, s38⟩ := len_cons s37; obtain ⟨u39, t39, e39, s39⟩ := len_cons s38; obtain ⟨u40, t40, e40, s40⟩ := len_cons s39; obtain ⟨u41, t41, e41, s41⟩ := len_cons s40
            obtain rfl := len_nil s41
            clear hus s0 s1 s2 s3 s4 s5 s6 s7 s8 s9 s10 s11 s12 s13 s14 s15 s16 s17 s18 s19 s20 s21 s22 s23 s24 s25 s26 s27 s28 s29 s30 s31 s32 s33 s34 s35 s36 s37 s38 s39 s40 s41
            subst e41 e40 e39 e38 e37 e36 e35 e34 e33 e32 e31 e30 e29 e28 e27 e26 e25 e24 e23 e22 e21 e20 e19 e18 e17 e16 e15 e14 e13 e12 e11 e10 e9 e8 e7 e6 e5 e4 e3 e2 e1 e0
            have h14 : u14 = .bool true := h 14 (by kernel_rfl)
            clear h
            simp only [over, Act.put, List.setIfInBounds_toArray, List.set_cons_zero, List.set_cons_succ]
            subst h14
            go_wp2_with fail
            exact postK_normal ⟨_, rfl, rfl, Ext.refl _⟩
          refine AllSteps.cons (fun us hus w' x h => ?_) ?_
          · obtain ⟨u0, t0, e0, s0⟩ := len_cons hus; obtain ⟨u1, t1, e1, s1⟩ := len_cons s0; obtain ⟨u2, t2, e2, s2⟩ := len_cons s1; obtain ⟨u3, t3, e3, s3⟩ := len_cons s2; obtain ⟨u4, t4, e4, s4⟩ := len_cons s3; obtain ⟨u5, t5, e5, s5⟩ := len_cons s4; obtain ⟨u6, t6, e6, s6⟩ := len_cons s5; obtain ⟨u7, t7, e7, s7⟩ := len_cons s6; obtain ⟨u8, t8, e8, s8⟩ := len_cons s7; obtain ⟨u9, t9, e9, s9⟩ := len_cons s8; obtain ⟨u10, t10, e10, s10⟩ := len_cons s9; obtain ⟨u11, t11, e11, s11⟩ := len_cons s10; obtain ⟨u12, t12, e12, s12⟩ := len_cons s11; obtain ⟨u13, t13, e13, s13⟩ := len_cons s12; obtain ⟨u14, t14, e14, s14⟩ := len_cons s13; obtain ⟨u15, t15, e15, s15⟩ := len_cons s14; obtain ⟨u16, t16, e16, s16⟩ := len_cons s15; obtain ⟨u17, t17, e17, s17⟩ := len_cons s16; obtain ⟨u18, t18, e18, s18⟩ := len_cons s17; obtain ⟨u19, t19, e19, s19⟩ := len_cons s18; obtain ⟨u20, t20, e20, s20⟩ := len_cons s19; obtain ⟨u21, t21, e21, s21⟩ := len_cons s20; obtain ⟨u22, t22, e22, s22⟩ := len_cons s21; obtain ⟨u23, t23, e23, s23⟩ := len_cons s22; obtain ⟨u24, t24, e24, s24⟩ := len_cons s23; obtain ⟨u25, t25, e25, s25⟩ := len_cons s24; obtain ⟨u26, t26, e26, s26⟩ := len_cons s25; obtain ⟨u27, t27, e27, s27⟩ := len_cons s26; obtain ⟨u28, t28, e28, s28⟩ := len_cons s27; obtain ⟨u29, t29, e29, s29⟩ := len_cons s28; obtain ⟨u30, t30, e30, s30⟩ := len_cons s29; obtain ⟨u31, t31, e31, s31⟩ := len_cons s30; obtain ⟨u32, t32, e32, s32⟩ := len_cons s31; obtain ⟨u33, t33, e33, s33⟩ := len_cons s32; obtain ⟨u34, t34, e34, s34⟩ := len_cons s33; obtain ⟨u35, t35, e35, s35⟩ := len_cons s34; obtain ⟨u36, t36, e36, s36⟩ := len_cons s35; obtain ⟨u37, t37, e37, s37⟩ := len_cons s36; obtain ⟨u38, t38, e38, s38⟩ := len_cons s37; obtain ⟨u39, t39, e39, s39⟩ := len_cons s38; obtain ⟨u40, t40, e40, s40⟩ := len_cons s39; obtain ⟨u41, t41, e41, s41⟩ := len_cons s40
            obtain rfl := len_nil s41
            clear hus s0 s1 s2 s3 s4 s5 s6 s7 s8 s9 s10 s11 s12 s13 s14 s15 s16 s17 s18 s19 s20 s21 s22 s23 s24 s25 s26 s27 s28 s29 s30 s31 s32 s33 s34 s35 s36 s37 s38 s39 s40 s41
            subst e41 e40 e39 e38 e37 e36 e35 e34 e33 e32 e31 e30 e29 e28 e27 e26 e25 e24 e23 e22 e21 e20 e19 e18 e17 e16 e15 e14 e13 e12 e11 e10 e9 e8 e7 e6 e5 e4 e3 e2 e1 e0
            have h15 : u15 = .bool true := h 15 (by kernel_rfl)
            clear h
            simp only [over, Act.put, List.setIfInBounds_toArray, List.set_cons_zero, List.set_cons_succ]
            subst h15
            go_wp2_with fail
            exact postK_normal ⟨_, rfl, rfl, Ext.refl _⟩
          refine AllSteps.cons (fun us hus w' x h => ?_) ?_
          · obtain ⟨u0, t0, e0, s0⟩ := len_cons hus; obtain ⟨u1, t1, e1, s1⟩ := len_cons s0; obtain ⟨u2, t2, e2, s2⟩ := len_cons s1; obtain ⟨u3, t3, e3, s3⟩ := len_cons s2; obtain ⟨u4, t4, e4, s4⟩ := len_cons s3; obtain ⟨u5, t5, e5, s5⟩ := len_cons s4; obtain ⟨u6, t6, e6, s6⟩ := len_cons s5; obtain ⟨u7, t7, e7, s7⟩ := len_cons s6; obtain ⟨u8, t8, e8, s8⟩ := len_cons s7; obtain ⟨u9, t9, e9, s9⟩ := len_cons s8; obtain ⟨u10, t10, e10, s10⟩ := len_cons s9; obtain ⟨u11, t11, e11, s11⟩ := len_cons s10; obtain ⟨u12, t12, e12, s12⟩ := len_cons s11; obtain ⟨u13, t13, e13, s13⟩ := len_cons s12; obtain ⟨u14, t14, e14, s14⟩ := len_cons s13; obtain ⟨u15, t15, e15, s15⟩ := len_cons s14; obtain ⟨u16, t16, e16, s16⟩ := len_cons s15; obtain ⟨u17, t17, e17, s17⟩ := len_cons s16; obtain ⟨u18, t18, e18, s18⟩ := len_cons s17; obtain ⟨u19, t19, e19, s19⟩ := len_cons s18; obtain ⟨u20, t20, e20, s20⟩ := len_cons s19; obtain ⟨u21, t21, e21, s21⟩ := len_cons s20; obtain ⟨u22, t22, e22, s22⟩ := len_cons s21; obtain ⟨u23, t23, e23, s23⟩ := len_cons s22; obtain ⟨u24, t24, e24, s24⟩ := len_cons s23; obtain ⟨u25, t25, e25, s25⟩ := len_cons s24; obtain ⟨u26, t26, e26, s26⟩ := len_cons s25; obtain ⟨u27, t27, e27, s27⟩ := len_cons s26; obtain ⟨u28, t28, e28, s28⟩ := len_cons s27; obtain ⟨u29, t29, e29, s29⟩ := len_cons s28; obtain ⟨u30, t30, e30, s30⟩ := len_cons s29; obtain ⟨u31, t31, e31, s31⟩ := len_cons s30; obtain ⟨u32, t32, e32, s32⟩ := len_cons s31; obtain ⟨u33, t33, e33, s33⟩ := len_cons s32; obtain ⟨u34, t34, e34, s34⟩ := len_cons s33; obtain ⟨u35, t35, e35, s35⟩ := len_cons s34; obtain ⟨u36, t36, e36, s36⟩ := len_cons s35; obtain ⟨u37, t37, e37, s37⟩ := len_cons s36; obtain ⟨u38, t38, e38, s38⟩ := len_cons s37; obtain ⟨u39, t39, e39, s39⟩ := len_cons s38; obtain ⟨u40, t40, e40, s40⟩ := len_cons s39; obtain ⟨u41, t41, e41, s41⟩ := len_cons s40
            obtain rfl := len_nil s41
            clear hus s0 s1 s2 s3 s4 s5 s6 s7 s8 s9 s10 s11 s12 s13 s14 s15 s16 s17 s18 s19 s20 s21 s22 s23 s24 s25 s26 s27 s28 s29 s30 s31 s32 s33 s34 s35 s36 s37 s38 s39 s40 s41
            subst e41 e40 e39 e38 e37 e36 e35 e34 e33 e32 e31 e30 e29 e28 e27 e26 e25 e24 e23 e22 e21 e20 e19 e18 e17 e16 e15 e14 e13 e12 e11 e10 e9 e8 e7 e6 e5 e4 e3 e2 e1 e0
            have h16 : u16 = .string a0 := h 16 (by kernel_rfl)
            have h15 : u15 = .bool true := h 15 (by kernel_rfl)
            clear h
            simp only [over, Act.put, List.setIfInBounds_toArray, List.set_cons_zero, List.set_cons_succ]
            subst h16
            subst h15
            go_wp2_with (refine wpList_toBytes rfl 9 24 _ rfl 5 Tryd.underlying9 Tryd.underlying24 Tryd.underlying5 _ rfl hmax ?_)
            intro v5 w5 o5 x5
            go_wp2_with fail
            exact postK_normal ⟨_, rfl, o5.bs, x5⟩
          refine AllSteps.cons (fun us hus w' x h => ?_) ?_
          · obtain ⟨u0, t0, e0, s0⟩ := len_cons hus; obtain ⟨u1, t1, e1, s1⟩ := len_cons s0; obtain ⟨u2, t2, e2, s2⟩ := len_cons s1; obtain ⟨u3, t3, e3, s3⟩ := len_cons s2; obtain ⟨u4, t4, e4, s4⟩ := len_cons s3; obtain ⟨u5, t5, e5, s5⟩ := len_cons s4; obtain ⟨u6, t6, e6, s6⟩ := len_cons s5; obtain ⟨u7, t7, e7, s7⟩ := len_cons s6; obtain ⟨u8, t8, e8, s8⟩ := len_cons s7; obtain ⟨u9, t9, e9, s9⟩ := len_cons s8; obtain ⟨u10, t10, e10, s10⟩ := len_cons s9; obtain ⟨u11, t11, e11, s11⟩ := len_cons s10; obtain ⟨u12, t12, e12, s12⟩ := len_cons s11; obtain ⟨u13, t13, e13, s13⟩ := len_cons s12; obtain ⟨u14, t14, e14, s14⟩ := len_cons s13; obtain ⟨u15, t15, e15, s15⟩ := len_cons s14; obtain ⟨u16, t16, e16, s16⟩ := len_cons s15; obtain ⟨u17, t17, e17, s17⟩ := len_cons s16; obtain ⟨u18, t18, e18, s18⟩ := len_cons s17; obtain ⟨u19, t19, e19, s19⟩ := len_cons s18; obtain ⟨u20, t20, e20, s20⟩ := len_cons s19; obtain ⟨u21, t21, e21, s21⟩ := len_cons s20; obtain ⟨u22, t22, e22, s22⟩ := len_cons s21; obtain ⟨u23, t23, e23, s23⟩ := len_cons s22; obtain ⟨u24, t24, e24, s24⟩ := len_cons s23; obtain ⟨u25, t25, e25, s25⟩ := len_cons s24; obtain ⟨u26, t26, e26, s26⟩ := len_cons s25; obtain ⟨u27, t27, e27, s27⟩ := len_cons s26; obtain ⟨u28, t28, e28, s28⟩ := len_cons s27; obtain ⟨u29, t29, e29, s29⟩ := len_cons s28; obtain ⟨u30, t30, e30, s30⟩ := len_cons s29; obtain ⟨u31, t31, e31, s31⟩ := len_cons s30; obtain ⟨u32, t32, e32, s32⟩ := len_cons s31; obtain ⟨u33, t33, e33, s33⟩ := len_cons s32; obtain ⟨u34, t34, e34, s34⟩ := len_cons s33; obtain ⟨u35, t35, e35, s35⟩ := len_cons s34; obtain ⟨u36, t36, e36, s36⟩ := len_cons s35; obtain ⟨u37, t37, e37, s37⟩ := len_cons s36; obtain ⟨u38, t38, e38, s38⟩ := len_cons s37; obtain ⟨u39, t39, e39, s39⟩ := len_cons s38; obtain ⟨u40, t40, e40, s40⟩ := len_cons s39; obtain ⟨u41, t41, e41, s41⟩ := len_cons s40
            obtain rfl := len_nil s41
            clear hus s0 s1 s2 s3 s4 s5 s6 s7 s8 s9 s10 s11 s12 s13 s14 s15 s16 s17 s18 s19 s20 s21 s22 s23 s24 s25 s26 s27 s28 s29 s30 s31 s32 s33 s34 s35 s36 s37 s38 s39 s40 s41
            subst e41 e40 e39 e38 e37 e36 e35 e34 e33 e32 e31 e30 e29 e28 e27 e26 e25 e24 e23 e22 e21 e20 e19 e18 e17 e16 e15 e14 e13 e12 e11 e10 e9 e8 e7 e6 e5 e4 e3 e2 e1 e0
            have h15 : u15 = .bool true := h 15 (by kernel_rfl)
            clear h
            simp only [over, Act.put, List.setIfInBounds_toArray, List.set_cons_zero, List.set_cons_succ]
            subst h15
            have f0 := x.cell HF0.out
            go_wp2_with fail
            exact postK_normal ⟨_, rfl, rfl, Ext.refl _⟩
          refine AllSteps.cons (fun us hus w' x h => ?_) ?_
          · obtain ⟨u0, t0, e0, s0⟩ := len_cons hus; obtain ⟨u1, t1, e1, s1⟩ := len_cons s0; obtain ⟨u2, t2, e2, s2⟩ := len_cons s1; obtain ⟨u3, t3, e3, s3⟩ := len_cons s2; obtain ⟨u4, t4, e4, s4⟩ := len_cons s3; obtain ⟨u5, t5, e5, s5⟩ := len_cons s4; obtain ⟨u6, t6, e6, s6⟩ := len_cons s5; obtain ⟨u7, t7, e7, s7⟩ := len_cons s6; obtain ⟨u8, t8, e8, s8⟩ := len_cons s7; obtain ⟨u9, t9, e9, s9⟩ := len_cons s8; obtain ⟨u10, t10, e10, s10⟩ := len_cons s9; obtain ⟨u11, t11, e11, s11⟩ := len_cons s10; obtain ⟨u12, t12, e12, s12⟩ := len_cons s11; obtain ⟨u13, t13, e13, s13⟩ := len_cons s12; obtain ⟨u14, t14, e14, s14⟩ := len_cons s13; obtain ⟨u15, t15, e15, s15⟩ := len_cons s14; obtain ⟨u16, t16, e16, s16⟩ := len_cons s15; obtain ⟨u17, t17, e17, s17⟩ := len_cons s16; obtain ⟨u18, t18, e18, s18⟩ := len_cons s17; obtain ⟨u19, t19, e19, s19⟩ := len_cons s18; obtain ⟨u20, t20, e20, s20⟩ := len_cons s19; obtain ⟨u21, t21, e21, s21⟩ := len_cons s20; obtain ⟨u22, t22, e22, s22⟩ := len_cons s21; obtain ⟨u23, t23, e23, s23⟩ := len_cons s22; obtain ⟨u24, t24, e24, s24⟩ := len_cons s23; obtain ⟨u25, t25, e25, s25⟩ := len_cons s24; obtain ⟨u26, t26, e26, s26⟩ := len_cons s25; obtain ⟨u27, t27, e27, s27⟩ := len_cons s26; obtain ⟨u28, t28, e28, s28⟩ := len_cons s27; obtain ⟨u29, t29, e29, s29⟩ := len_cons s28; obtain ⟨u30, t30, e30, s30⟩ := len_cons s29; obtain ⟨u31, t31, e31, s31⟩ := len_cons s30; obtain ⟨u32, t32, e32, s32⟩ := len_cons s31; obtain ⟨u33, t33, e33, s33⟩ := len_cons s32; obtain ⟨u34, t34, e34, s34⟩ := len_cons s33; obtain ⟨u35, t35, e35, s35⟩ := len_cons s34; obtain ⟨u36, t36, e36, s36⟩ := len_cons s35; obtain ⟨u37, t37, e37, s37⟩ := len_cons s36; obtain ⟨u38, t38, e38, s38⟩ := len_cons s37; obtain ⟨u39, t39, e39, s39⟩ := len_cons s38; obtain ⟨u40, t40, e40, s40⟩ := len_cons s39; obtain ⟨u41, t41, e41, s41⟩ := len_cons s40
            obtain rfl := len_nil s41
            clear hus s0 s1 s2 s3 s4 s5 s6 s7 s8 s9 s10 s11 s12 s13 s14 s15 s16 s17 s18 s19 s20 s21 s22 s23 s24 s25 s26 s27 s28 s29 s30 s31 s32 s33 s34 s35 s36 s37 s38 s39 s40 s41
            subst e41 e40 e39 e38 e37 e36 e35 e34 e33 e32 e31 e30 e29 e28 e27 e26 e25 e24 e23 e22 e21 e20 e19 e18 e17 e16 e15 e14 e13 e12 e11 e10 e9 e8 e7 e6 e5 e4 e3 e2 e1 e0
            have h17 : Bs w' u17 a0.data.toList := h 17 (by kernel_rfl)
            have h18 : u18 = .agg #[.slice ta rows.length tc] := h 18 (by kernel_rfl)
            have h15 : u15 = .bool true := h 15 (by kernel_rfl)
            clear h
            simp only [over, Act.put, List.setIfInBounds_toArray, List.set_cons_zero, List.set_cons_succ]
            subst h18
            subst h15
            have c5 := impl_Map _ _ rows _ _ (HTB.out.ext x) h17 (HT.out.ext x) (by show a0.size ≤ _; omega) HLE.out
            rw [HM.out] at c5
            go_wp2_with (go_at_call 14; refine c5.mono ?_)
            rintro _ w5 ⟨v5, rfl, o5, x5⟩
            go_wp2_with fail
            exact postK_normal ⟨_, rfl, o5.bs, x5⟩
          refine AllSteps.cons (fun us hus w' x h => ?_) ?_
          · obtain ⟨u0, t0, e0, s0⟩ := len_cons hus; obtain ⟨u1, t1, e1, s1⟩ := len_cons s0; obtain ⟨u2, t2, e2, s2⟩ := len_cons s1; obtain ⟨u3, t3, e3, s3⟩ := len_cons s2; obtain ⟨u4, t4, e4, s4⟩ := len_cons s3; obtain ⟨u5, t5, e5, s5⟩ := len_cons s4; obtain ⟨u6, t6, e6, s6⟩ := len_cons s5; obtain ⟨u7, t7, e7, s7⟩ := len_cons s6; obtain ⟨u8, t8, e8, s8⟩ := len_cons s7; obtain ⟨u9, t9, e9, s9⟩ := len_cons s8; obtain ⟨u10, t10, e10, s10⟩ := len_cons s9; obtain ⟨u11, t11, e11, s11⟩ := len_cons s10; obtain ⟨u12, t12, e12, s12⟩ := len_cons s11; obtain ⟨u13, t13, e13, s13⟩ := len_cons s12; obtain ⟨u14, t14, e14, s14⟩ := len_cons s13; obtain ⟨u15, t15, e15, s15⟩ := len_cons s14; obtain ⟨u16, t16, e16, s16⟩ := len_cons s15; obtain ⟨u17, t17, e17, s17⟩ := len_cons s16; obtain ⟨u18, t18, e18, s18⟩ := len_cons s17; obtain ⟨u19, t19, e19, s19⟩ := len_cons s18; obtain ⟨u20, t20, e20, s20⟩ := len_cons s19; obtain ⟨u21, t21, e21, s21⟩ := len_cons s20; obtain ⟨u22, t22, e22, s22⟩ := len_cons s21; obtain ⟨u23, t23, e23, s23⟩ := len_cons s22; obtain ⟨u24, t24, e24, s24⟩ := len_cons s23; obtain ⟨u25, t25, e25, s25⟩ := len_cons s24; obtain ⟨u26, t26, e26, s26⟩ := len_cons s25; obtain ⟨u27, t27, e27, s27⟩ := len_cons s26; obtain ⟨u28, t28, e28, s28⟩ := len_cons s27; obtain ⟨u29, t29, e29, s29⟩ := len_cons s28; obtain ⟨u30, t30, e30, s30⟩ := len_cons s29; obtain ⟨u31, t31, e31, s31⟩ := len_cons s30; obtain ⟨u32, t32, e32, s32⟩ := len_cons s31; obtain ⟨u33, t33, e33, s33⟩ := len_cons s32; obtain ⟨u34, t34, e34, s34⟩ := len_cons s33; obtain ⟨u35, t35, e35, s35⟩ := len_cons s34; obtain ⟨u36, t36, e36, s36⟩ := len_cons s35; obtain ⟨u37, t37, e37, s37⟩ := len_cons s36; obtain ⟨u38, t38, e38, s38⟩ := len_cons s37; obtain ⟨u39, t39, e39, s39⟩ := len_cons s38; obtain ⟨u40, t40, e40, s40⟩ := len_cons s39; obtain ⟨u41, t41, e41, s41⟩ := len_cons s40
            obtain rfl := len_nil s41
            clear hus s0 s1 s2 s3 s4 s5 s6 s7 s8 s9 s10 s11 s12 s13 s14 s15 s16 s17 s18 s19 s20 s21 s22 s23 s24 s25 s26 s27 s28 s29 s30 s31 s32 s33 s34 s35 s36 s37 s38 s39 s40 s41
            subst e41 e40 e39 e38 e37 e36 e35 e34 e33 e32 e31 e30 e29 e28 e27 e26 e25 e24 e23 e22 e21 e20 e19 e18 e17 e16 e15 e14 e13 e12 e11 e10 e9 e8 e7 e6 e5 e4 e3 e2 e1 e0
            have h19 : Bs w' u19 M := h 19 (by kernel_rfl)
            have h15 : u15 = .bool true := h 15 (by kernel_rfl)
            clear h
            simp only [over, Act.put, List.setIfInBounds_toArray, List.set_cons_zero, List.set_cons_succ]
            subst h15
            go_wp2_with (refine wpList_toString rfl 24 9 _ rfl 5 Tryd.underlying24 Tryd.underlying5 Tryd.underlying9 _ _ rfl h19 ?_)
            exact postK_normal ⟨_, rfl, rfl, Ext.refl _⟩
          refine AllSteps.cons (fun us hus w' x h => ?_) ?_
          · obtain ⟨u0, t0, e0, s0⟩ := len_cons hus; obtain ⟨u1, t1, e1, s1⟩ := len_cons s0; obtain ⟨u2, t2, e2, s2⟩ := len_cons s1; obtain ⟨u3, t3, e3, s3⟩ := len_cons s2; obtain ⟨u4, t4, e4, s4⟩ := len_cons s3; obtain ⟨u5, t5, e5, s5⟩ := len_cons s4; obtain ⟨u6, t6, e6, s6⟩ := len_cons s5; obtain ⟨u7, t7, e7, s7⟩ := len_cons s6; obtain ⟨u8, t8, e8, s8⟩ := len_cons s7; obtain ⟨u9, t9, e9, s9⟩ := len_cons s8; obtain ⟨u10, t10, e10, s10⟩ := len_cons s9; obtain ⟨u11, t11, e11, s11⟩ := len_cons s10; obtain ⟨u12, t12, e12, s12⟩ := len_cons s11; obtain ⟨u13, t13, e13, s13⟩ := len_cons s12; obtain ⟨u14, t14, e14, s14⟩ := len_cons s13; obtain ⟨u15, t15, e15, s15⟩ := len_cons s14; obtain ⟨u16, t16, e16, s16⟩ := len_cons s15; obtain ⟨u17, t17, e17, s17⟩ := len_cons s16; obtain ⟨u18, t18, e18, s18⟩ := len_cons s17; obtain ⟨u19, t19, e19, s19⟩ := len_cons s18; obtain ⟨u20, t20, e20, s20⟩ := len_cons s19; obtain ⟨u21, t21, e21, s21⟩ := len_cons s20; obtain ⟨u22, t22, e22, s22⟩ := len_cons s21; obtain ⟨u23, t23, e23, s23⟩ := len_cons s22; obtain ⟨u24, t24, e24, s24⟩ := len_cons s23; obtain ⟨u25, t25, e25, s25⟩ := len_cons s24; obtain ⟨u26, t26, e26, s26⟩ := len_cons s25; obtain ⟨u27, t27, e27, s27⟩ := len_cons s26; obtain ⟨u28, t28, e28, s28⟩ := len_cons s27; obtain ⟨u29, t29, e29, s29⟩ := len_cons s28; obtain ⟨u30, t30, e30, s30⟩ := len_cons s29; obtain ⟨u31, t31, e31, s31⟩ := len_cons s30; obtain ⟨u32, t32, e32, s32⟩ := len_cons s31; obtain ⟨u33, t33, e33, s33⟩ := len_cons s32; obtain ⟨u34, t34, e34, s34⟩ := len_cons s33; obtain ⟨u35, t35, e35, s35⟩ := len_cons s34; obtain ⟨u36, t36, e36, s36⟩ := len_cons s35; obtain ⟨u37, t37, e37, s37⟩ := len_cons s36; obtain ⟨u38, t38, e38, s38⟩ := len_cons s37; obtain ⟨u39, t39, e39, s39⟩ := len_cons s38; obtain ⟨u40, t40, e40, s40⟩ := len_cons s39; obtain ⟨u41, t41, e41, s41⟩ := len_cons s40
            obtain rfl := len_nil s41
            clear hus s0 s1 s2 s3 s4 s5 s6 s7 s8 s9 s10 s11 s12 s13 s14 s15 s16 s17 s18 s19 s20 s21 s22 s23 s24 s25 s26 s27 s28 s29 s30 s31 s32 s33 s34 s35 s36 s37 s38 s39 s40 s41
            subst e41 e40 e39 e38 e37 e36 e35 e34 e33 e32 e31 e30 e29 e28 e27 e26 e25 e24 e23 e22 e21 e20 e19 e18 e17 e16 e15 e14 e13 e12 e11 e10 e9 e8 e7 e6 e5 e4 e3 e2 e1 e0
            have h20 : u20 = .string ⟨M.toArray⟩ := h 20 (by kernel_rfl)
            have h15 : u15 = .bool true := h 15 (by kernel_rfl)
            clear h
            simp only [over, Act.put, List.setIfInBounds_toArray, List.set_cons_zero, List.set_cons_succ]
            subst h20
            subst h15
            go_wp2_with (refine wpList_toBytes rfl 9 24 _ rfl 5 Tryd.underlying9 Tryd.underlying24 Tryd.underlying5 _ rfl mm ?_)
            intro v5 w5 o5 x5
            go_wp2_with fail
            exact postK_normal ⟨_, rfl, o5.bs, x5⟩
          refine AllSteps.cons (fun us hus w' x h => ?_) ?_
          · obtain ⟨u0, t0, e0, s0⟩ := len_cons hus; obtain ⟨u1, t1, e1, s1⟩ := len_cons s0; obtain ⟨u2, t2, e2, s2⟩ := len_cons s1; obtain ⟨u3, t3, e3, s3⟩ := len_cons s2; obtain ⟨u4, t4, e4, s4⟩ := len_cons s3; obtain ⟨u5, t5, e5, s5⟩ := len_cons s4; obtain ⟨u6, t6, e6, s6⟩ := len_cons s5; obtain ⟨u7, t7, e7, s7⟩ := len_cons s6; obtain ⟨u8, t8, e8, s8⟩ := len_cons s7; obtain ⟨u9, t9, e9, s9⟩ := len_cons s8; obtain ⟨u10, t10, e10, s10⟩ := len_cons s9; obtain ⟨u11, t11, e11, s11⟩ := len_cons s10; obtain ⟨u12, t12, e12, s12⟩ := len_cons s11; obtain ⟨u13, t13, e13, s13⟩ := len_cons s12; obtain ⟨u14, t14, e14, s14⟩ := len_cons s13; obtain ⟨u15, t15, e15, s15⟩ := len_cons s14; obtain ⟨u16, t16, e16, s16⟩ := len_cons s15; obtain ⟨u17, t17, e17, s17⟩ := len_cons s16; obtain ⟨u18, t18, e18, s18⟩ := len_cons s17; obtain ⟨u19, t19, e19, s19⟩ := len_cons s18; obtain ⟨u20, t20, e20, s20⟩ := len_cons s19; obtain ⟨u21, t21, e21, s21⟩ := len_cons s20; obtain ⟨u22, t22, e22, s22⟩ := len_cons s21; obtain ⟨u23, t23, e23, s23⟩ := len_cons s22; obtain ⟨u24, t24, e24, s24⟩ := len_cons s23; obtain ⟨u25, t25, e25, s25⟩ := len_cons s24; obtain ⟨u26, t26, e26, s26⟩ := len_cons s25; obtain ⟨u27, t27, e27, s27⟩ := len_cons s26; obtain ⟨u28, t28, e28, s28⟩ := len_cons s27; obtain ⟨u29, t29, e29, s29⟩ := len_cons s28; obtain ⟨u30, t30, e30, s30⟩ := len_cons s29; obtain ⟨u31, t31, e31, s31⟩ := len_cons s30; obtain ⟨u32, t32, e32, s32⟩ := len_cons s31; obtain ⟨u33, t33, e33, s33⟩ := len_cons s32; obtain ⟨u34, t34, e34, s34⟩ := len_cons s33; obtain ⟨u35, t35, e35, s35⟩ := len_cons s34; obtain ⟨u36, t36, e36, s36⟩ := len_cons s35; obtain ⟨u37, t37, e37, s37⟩ := len_cons s36; obtain ⟨u38, t38, e38, s38⟩ := len_cons s37; obtain ⟨u39, t39, e39, s39⟩ := len_cons s38; obtain ⟨u40, t40, e40, s40⟩ := len_cons s39; obtain ⟨u41, t41, e41, s41⟩ := len_cons s40
            obtain rfl := len_nil s41
            clear hus s0 s1 s2 s3 s4 s5 s6 s7 s8 s9 s10 s11 s12 s13 s14 s15 s16 s17 s18 s19 s20 s21 s22 s23 s24 s25 s26 s27 s28 s29 s30 s31 s32 s33 s34 s35 s36 s37 s38 s39 s40 s41
            subst e41 e40 e39 e38 e37 e36 e35 e34 e33 e32 e31 e30 e29 e28 e27 e26 e25 e24 e23 e22 e21 e20 e19 e18 e17 e16 e15 e14 e13 e12 e11 e10 e9 e8 e7 e6 e5 e4 e3 e2 e1 e0
            have h15 : u15 = .bool true := h 15 (by kernel_rfl)
            clear h
            simp only [over, Act.put, List.setIfInBounds_toArray, List.set_cons_zero, List.set_cons_succ]
            subst h15
            go_wp2_with fail
            exact postK_normal ⟨_, rfl, rfl, Ext.refl _⟩
          refine AllSteps.cons (fun us hus w' x h => ?_) ?_
          · obtain ⟨u0, t0, e0, s0⟩ := len_cons hus; obtain ⟨u1, t1, e1, s1⟩ := len_cons s0; obtain ⟨u2, t2, e2, s2⟩ := len_cons s1; obtain ⟨u3, t3, e3, s3⟩ := len_cons s2; obtain ⟨u4, t4, e4, s4⟩ := len_cons s3; obtain ⟨u5, t5, e5, s5⟩ := len_cons s4; obtain ⟨u6, t6, e6, s6⟩ := len_cons s5; obtain ⟨u7, t7, e7, s7⟩ := len_cons s6; obtain ⟨u8, t8, e8, s8⟩ := len_cons s7; obtain ⟨u9, t9, e9, s9⟩ := len_cons s8; obtain ⟨u10, t10, e10, s10⟩ := len_cons s9; obtain ⟨u11, t11, e11, s11⟩ := len_cons s10; obtain ⟨u12, t12, e12, s12⟩ := len_cons s11; obtain ⟨u13, t13, e13, s13⟩ := len_cons s12; obtain ⟨u14, t14, e14, s14⟩ := len_cons s13; obtain ⟨u15, t15, e15, s15⟩ := len_cons s14; obtain ⟨u16, t16, e16, s16⟩ := len_cons s15; obtain ⟨u17, t17, e17, s17⟩ := len_cons s16; obtain ⟨u18, t18, e18, s18⟩ := len_cons s17; obtain ⟨u19, t19, e19, s19⟩ := len_cons s18; obtain ⟨u20, t20, e20, s20⟩ := len_cons s19; obtain ⟨u21, t21, e21, s21⟩ := len_cons s20; obtain ⟨u22, t22, e22, s22⟩ := len_cons s21; obtain ⟨u23, t23, e23, s23⟩ := len_cons s22; obtain ⟨u24, t24, e24, s24⟩ := len_cons s23; obtain ⟨u25, t25, e25, s25⟩ := len_cons s24; obtain ⟨u26, t26, e26, s26⟩ := len_cons s25; obtain ⟨u27, t27, e27, s27⟩ := len_cons s26; obtain ⟨u28, t28, e28, s28⟩ := len_cons s27; obtain ⟨u29, t29, e29, s29⟩ := len_cons s28; obtain ⟨u30, t30, e30, s30⟩ := len_cons s29; obtain ⟨u31, t31, e31, s31⟩ := len_cons s30; obtain ⟨u32, t32, e32, s32⟩ := len_cons s31; obtain ⟨u33, t33, e33, s33⟩ := len_cons s32; obtain ⟨u34, t34, e34, s34⟩ := len_cons s33; obtain ⟨u35, t35, e35, s35⟩ := len_cons s34; obtain ⟨u36, t36, e36, s36⟩ := len_cons s35; obtain ⟨u37, t37, e37, s37⟩ := len_cons s36; obtain ⟨u38, t38, e38, s38⟩ := len_cons s37; obtain ⟨u39, t39, e39, s39⟩ := len_cons s38; obtain ⟨u40, t40, e40, s40⟩ := len_cons s39; obtain ⟨u41, t41, e41, s41⟩ := len_cons s40
            obtain rfl := len_nil s41
            clear hus s0 s1 s2 s3 s4 s5 s6 s7 s8 s9 s10 s11 s12 s13 s14 s15 s16 s17 s18 s19 s20 s21 s22 s23 s24 s25 s26 s27 s28 s29 s30 s31 s32 s33 s34 s35 s36 s37 s38 s39 s40 s41
            subst e41 e40 e39 e38 e37 e36 e35 e34 e33 e32 e31 e30 e29 e28 e27 e26 e25 e24 e23 e22 e21 e20 e19 e18 e17 e16 e15 e14 e13 e12 e11 e10 e9 e8 e7 e6 e5 e4 e3 e2 e1 e0
            have h21 : Bs w' u21 M := h 21 (by kernel_rfl)
            have h22 : u22 = .string a1 := h 22 (by kernel_rfl)
            have h15 : u15 = .bool true := h 15 (by kernel_rfl)
            clear h
            simp only [over, Act.put, List.setIfInBounds_toArray, List.set_cons_zero, List.set_cons_succ]
            subst h22
            subst h15
            have c5 := impl_Trim _ _ a1 _ h21 (HT.out.ext x) (by omega) HMA.out
            rw [HTM.out] at c5
            go_wp2_with (go_at_call 29; refine c5.mono ?_)
            rintro _ w5 ⟨v5, rfl, o5, x5⟩
            go_wp2_with fail
            exact postK_normal ⟨_, rfl, o5.bs, x5⟩
          refine AllSteps.cons (fun us hus w' x h => ?_) ?_
          · obtain ⟨u0, t0, e0, s0⟩ := len_cons hus; obtain ⟨u1, t1, e1, s1⟩ := len_cons s0; obtain ⟨u2, t2, e2, s2⟩ := len_cons s1; obtain ⟨u3, t3, e3, s3⟩ := len_cons s2; obtain ⟨u4, t4, e4, s4⟩ := len_cons s3; obtain ⟨u5, t5, e5, s5⟩ := len_cons s4; obtain ⟨u6, t6, e6, s6⟩ := len_cons s5; obtain ⟨u7, t7, e7, s7⟩ := len_cons s6; obtain ⟨u8, t8, e8, s8⟩ := len_cons s7; obtain ⟨u9, t9, e9, s9⟩ := len_cons s8; obtain ⟨u10, t10, e10, s10⟩ := len_cons s9; obtain ⟨u11, t11, e11, s11⟩ := len_cons s10; obtain ⟨u12, t12, e12, s12⟩ := len_cons s11; obtain ⟨u13, t13, e13, s13⟩ := len_cons s12; obtain ⟨u14, t14, e14, s14⟩ := len_cons s13; obtain ⟨u15, t15, e15, s15⟩ := len_cons s14; obtain ⟨u16, t16, e16, s16⟩ := len_cons s15; obtain ⟨u17, t17, e17, s17⟩ := len_cons s16; obtain ⟨u18, t18, e18, s18⟩ := len_cons s17; obtain ⟨u19, t19, e19, s19⟩ := len_cons s18; obtain ⟨u20, t20, e20, s20⟩ := len_cons s19; obtain ⟨u21, t21, e21, s21⟩ := len_cons s20; obtain ⟨u22, t22, e22, s22⟩ := len_cons s21; obtain ⟨u23, t23, e23, s23⟩ := len_cons s22; obtain ⟨u24, t24, e24, s24⟩ := len_cons s23; obtain ⟨u25, t25, e25, s25⟩ := len_cons s24; obtain ⟨u26, t26, e26, s26⟩ := len_cons s25; obtain ⟨u27, t27, e27, s27⟩ := len_cons s26; obtain ⟨u28, t28, e28, s28⟩ := len_cons s27; obtain ⟨u29, t29, e29, s29⟩ := len_cons s28; obtain ⟨u30, t30, e30, s30⟩ := len_cons s29; obtain ⟨u31, t31, e31, s31⟩ := len_cons s30; obtain ⟨u32, t32, e32, s32⟩ := len_cons s31; obtain ⟨u33, t33, e33, s33⟩ := len_cons s32; obtain ⟨u34, t34, e34, s34⟩ := len_cons s33; obtain ⟨u35, t35, e35, s35⟩ := len_cons s34; obtain ⟨u36, t36, e36, s36⟩ := len_cons s35; obtain ⟨u37, t37, e37, s37⟩ := len_cons s36; obtain ⟨u38, t38, e38, s38⟩ := len_cons s37; obtain ⟨u39, t39, e39, s39⟩ := len_cons s38; obtain ⟨u40, t40, e40, s40⟩ := len_cons s39; obtain ⟨u41, t41, e41, s41⟩ := len_cons s40
            obtain rfl := len_nil s41
            clear hus s0 s1 s2 s3 s4 s5 s6 s7 s8 s9 s10 s11 s12 s13 s14 s15 s16 s17 s18 s19 s20 s21 s22 s23 s24 s25 s26 s27 s28 s29 s30 s31 s32 s33 s34 s35 s36 s37 s38 s39 s40 s41
            subst e41 e40 e39 e38 e37 e36 e35 e34 e33 e32 e31 e30 e29 e28 e27 e26 e25 e24 e23 e22 e21 e20 e19 e18 e17 e16 e15 e14 e13 e12 e11 e10 e9 e8 e7 e6 e5 e4 e3 e2 e1 e0
            have h23 : Bs w' u23 M := h 23 (by kernel_rfl)
            have h15 : u15 = .bool true := h 15 (by kernel_rfl)
            clear h
            simp only [over, Act.put, List.setIfInBounds_toArray, List.set_cons_zero, List.set_cons_succ]
            subst h15
            go_wp2_with (refine wpList_toString rfl 24 9 _ rfl 5 Tryd.underlying24 Tryd.underlying5 Tryd.underlying9 _ _ rfl h23 ?_)
            exact postK_normal ⟨_, rfl, rfl, Ext.refl _⟩
          refine AllSteps.cons (fun us hus w' x h => ?_) ?_
          · obtain ⟨u0, t0, e0, s0⟩ := len_cons hus; obtain ⟨u1, t1, e1, s1⟩ := len_cons s0; obtain ⟨u2, t2, e2, s2⟩ := len_cons s1; obtain ⟨u3, t3, e3, s3⟩ := len_cons s2; obtain ⟨u4, t4, e4, s4⟩ := len_cons s3; obtain ⟨u5, t5, e5, s5⟩ := len_cons s4; obtain ⟨u6, t6, e6, s6⟩ := len_cons s5; obtain ⟨u7, t7, e7, s7⟩ := len_cons s6; obtain ⟨u8, t8, e8, s8⟩ := len_cons s7; obtain ⟨u9, t9, e9, s9⟩ := len_cons s8; obtain ⟨u10, t10, e10, s10⟩ := len_cons s9; obtain ⟨u11, t11, e11, s11⟩ := len_cons s10; obtain ⟨u12, t12, e12, s12⟩ := len_cons s11; obtain ⟨u13, t13, e13, s13⟩ := len_cons s12; obtain ⟨u14, t14, e14, s14⟩ := len_cons s13; obtain ⟨u15, t15, e15, s15⟩ := len_cons s14; obtain ⟨u16, t16, e16, s16⟩ := len_cons s15; obtain ⟨u17, t17, e17, s17⟩ := len_cons s16; obtain ⟨u18, t18, e18, s18⟩ := len_cons s17; obtain ⟨u19, t19, e19, s19⟩ := len_cons s18; obtain ⟨u20, t20, e20, s20⟩ := len_cons s19; obtain ⟨u21, t21, e21, s21⟩ := len_cons s20; obtain ⟨u22, t22, e22, s22⟩ := len_cons s21; obtain ⟨u23, t23, e23, s23⟩ := len_cons s22; obtain ⟨u24, t24, e24, s24⟩ := len_cons s23; obtain ⟨u25, t25, e25, s25⟩ := len_cons s24; obtain ⟨u26, t26, e26, s26⟩ := len_cons s25; obtain ⟨u27, t27, e27, s27⟩ := len_cons s26; obtain ⟨u28, t28, e28, s28⟩ := len_cons s27; obtain ⟨u29, t29, e29, s29⟩ := len_cons s28; obtain ⟨u30, t30, e30, s30⟩ := len_cons s29; obtain ⟨u31, t31, e31, s31⟩ := len_cons s30; obtain ⟨u32, t32, e32, s32⟩ := len_cons s31; obtain ⟨u33, t33, e33, s33⟩ := len_cons s32; obtain ⟨u34, t34, e34, s34⟩ := len_cons s33; obtain ⟨u35, t35, e35, s35⟩ := len_cons s34; obtain ⟨u36, t36, e36, s36⟩ := len_cons s35; obtain ⟨u37, t37, e37, s37⟩ := len_cons s36; obtain ⟨u38, t38, e38, s38⟩ := len_cons s37; obtain ⟨u39, t39, e39, s39⟩ := len_cons s38; obtain ⟨u40, t40, e40, s40⟩ := len_cons s39; obtain ⟨u41, t41, e41, s41⟩ := len_cons s40
            obtain rfl := len_nil s41
            clear hus s0 s1 s2 s3 s4 s5 s6 s7 s8 s9 s10 s11 s12 s13 s14 s15 s16 s17 s18 s19 s20 s21 s22 s23 s24 s25 s26 s27 s28 s29 s30 s31 s32 s33 s34 s35 s36 s37 s38 s39 s40 s41
            subst e41 e40 e39 e38 e37 e36 e35 e34 e33 e32 e31 e30 e29 e28 e27 e26 e25 e24 e23 e22 e21 e20 e19 e18 e17 e16 e15 e14 e13 e12 e11 e10 e9 e8 e7 e6 e5 e4 e3 e2 e1 e0
            have h15 : u15 = .bool true := h 15 (by kernel_rfl)
            clear h
            simp only [over, Act.put, List.setIfInBounds_toArray, List.set_cons_zero, List.set_cons_succ]
            subst h15
            go_wp2_with fail
            exact postK_normal ⟨_, rfl, rfl, Ext.refl _⟩
          refine AllSteps.cons (fun us hus w' x h => ?_) ?_
          · obtain ⟨u0, t0, e0, s0⟩ := len_cons hus; obtain ⟨u1, t1, e1, s1⟩ := len_cons s0; obtain ⟨u2, t2, e2, s2⟩ := len_cons s1; obtain ⟨u3, t3, e3, s3⟩ := len_cons s2; obtain ⟨u4, t4, e4, s4⟩ := len_cons s3; obtain ⟨u5, t5, e5, s5⟩ := len_cons s4; obtain ⟨u6, t6, e6, s6⟩ := len_cons s5; obtain ⟨u7, t7, e7, s7⟩ := len_cons s6; obtain ⟨u8, t8, e8, s8⟩ := len_cons s7; obtain ⟨u9, t9, e9, s9⟩ := len_cons s8; obtain ⟨u10, t10, e10, s10⟩ := len_cons s9; obtain ⟨u11, t11, e11, s11⟩ := len_cons s10; obtain ⟨u12, t12, e12, s12⟩ := len_cons s11; obtain ⟨u13, t13, e13, s13⟩ := len_cons s12; obtain ⟨u14, t14, e14, s14⟩ := len_cons s13; obtain ⟨u15, t15, e15, s15⟩ := len_cons s14; obtain ⟨u16, t16, e16, s16⟩ := len_cons s15; obtain ⟨u17, t17, e17, s17⟩ := len_cons s16; obtain ⟨u18, t18, e18, s18⟩ := len_cons s17; obtain ⟨u19, t19, e19, s19⟩ := len_cons s18; obtain ⟨u20, t20, e20, s20⟩ := len_cons s19; obtain ⟨u21, t21, e21, s21⟩ := len_cons s20; obtain ⟨u22, t22, e22, s22⟩ := len_cons s21; obtain ⟨u23, t23, e23, s23⟩ := len_cons s22; obtain ⟨u24, t24, e24, s24⟩ := len_cons s23; obtain ⟨u25, t25, e25, s25⟩ := len_cons s24; obtain ⟨u26, t26, e26, s26⟩ := len_cons s25; obtain ⟨u27, t27, e27, s27⟩ := len_cons s26; obtain ⟨u28, t28, e28, s28⟩ := len_cons s27; obtain ⟨u29, t29, e29, s29⟩ := len_cons s28; obtain ⟨u30, t30, e30, s30⟩ := len_cons s29; obtain ⟨u31, t31, e31, s31⟩ := len_cons s30; obtain ⟨u32, t32, e32, s32⟩ := len_cons s31; obtain ⟨u33, t33, e33, s33⟩ := len_cons s32; obtain ⟨u34, t34, e34, s34⟩ := len_cons s33; obtain ⟨u35, t35, e35, s35⟩ := len_cons s34; obtain ⟨u36, t36, e36, s36⟩ := len_cons s35; obtain ⟨u37, t37, e37, s37⟩ := len_cons s36; obtain ⟨u38, t38, e38, s38⟩ := len_cons s37; obtain ⟨u39, t39, e39, s39⟩ := len_cons s38; obtain ⟨u40, t40, e40, s40⟩ := len_cons s39; obtain ⟨u41, t41, e41, s41⟩ := len_cons s40
            obtain rfl := len_nil s41
            clear hus s0 s1 s2 s3 s4 s5 s6 s7 s8 s9 s10 s11 s12 s13 s14 s15 s16 s17 s18 s19 s20 s21 s22 s23 s24 s25 s26 s27 s28 s29 s30 s31 s32 s33 s34 s35 s36 s37 s38 s39 s40 s41
            subst e41 e40 e39 e38 e37 e36 e35 e34 e33 e32 e31 e30 e29 e28 e27 e26 e25 e24 e23 e22 e21 e20 e19 e18 e17 e16 e15 e14 e13 e12 e11 e10 e9 e8 e7 e6 e5 e4 e3 e2 e1 e0
            have h25 : u25 = .string a0 := h 25 (by kernel_rfl)
            have h15 : u15 = .bool true := h 15 (by kernel_rfl)
            clear h
            simp only [over, Act.put, List.setIfInBounds_toArray, List.set_cons_zero, List.set_cons_succ]
            subst h25
            subst h15
            go_wp2_with (refine wpList_toBytes rfl 9 24 _ rfl 5 Tryd.underlying9 Tryd.underlying24 Tryd.underlying5 _ rfl hmax ?_)
            intro v5 w5 o5 x5
            go_wp2_with fail
            exact postK_normal ⟨_, rfl, o5.bs, x5⟩
          refine AllSteps.cons (fun us hus w' x h => ?_) ?_
          · obtain ⟨u0, t0, e0, s0⟩ := len_cons hus; obtain ⟨u1, t1, e1, s1⟩ := len_cons s0; obtain ⟨u2, t2, e2, s2⟩ := len_cons s1; obtain ⟨u3, t3, e3, s3⟩ := len_cons s2; obtain ⟨u4, t4, e4, s4⟩ := len_cons s3; obtain ⟨u5, t5, e5, s5⟩ := len_cons s4; obtain ⟨u6, t6, e6, s6⟩ := len_cons s5; obtain ⟨u7, t7, e7, s7⟩ := len_cons s6; obtain ⟨u8, t8, e8, s8⟩ := len_cons s7; obtain ⟨u9, t9, e9, s9⟩ := len_cons s8; obtain ⟨u10, t10, e10, s10⟩ := len_cons s9; obtain ⟨u11, t11, e11, s11⟩ := len_cons s10; obtain ⟨u12, t12, e12, s12⟩ := len_cons s11; obtain ⟨u13, t13, e13, s13⟩ := len_cons s12; obtain ⟨u14, t14, e14, s14⟩ := len_cons s13; obtain ⟨u15, t15, e15, s15⟩ := len_cons s14; obtain ⟨u16, t16, e16, s16⟩ := len_cons s15; obtain ⟨u17, t17, e17, s17⟩ := len_cons s16; obtain ⟨u18, t18, e18, s18⟩ := len_cons s17; obtain ⟨u19, t19, e19, s19⟩ := len_cons s18; obtain ⟨u20, t20, e20, s20⟩ := len_cons s19; obtain ⟨u21, t21, e21, s21⟩ := len_cons s20; obtain ⟨u22, t22, e22, s22⟩ := len_cons s21; obtain ⟨u23, t23, e23, s23⟩ := len_cons s22; obtain ⟨u24, t24, e24, s24⟩ := len_cons s23; obtain ⟨u25, t25, e25, s25⟩ := len_cons s24; obtain ⟨u26, t26, e26, s26⟩ := len_cons s25; obtain ⟨u27, t27, e27, s27⟩ := len_cons s26; obtain ⟨u28, t28, e28, s28⟩ := len_cons s27; obtain ⟨u29, t29, e29, s29⟩ := len_cons s28; obtain ⟨u30, t30, e30, s30⟩ := len_cons s29; obtain ⟨u31, t31, e31, s31⟩ := len_cons s30; obtain ⟨u32, t32, e32, s32⟩ := len_cons s31; obtain ⟨u33, t33, e33, s33⟩ := len_cons s32; obtain ⟨u34, t34, e34, s34⟩ := len_cons s33; obtain ⟨u35, t35, e35, s35⟩ := len_cons s34; obtain ⟨u36, t36, e36, s36⟩ := len_cons s35; obtain ⟨u37, t37, e37, s37⟩ := len_cons s36; obtain ⟨u38, t38, e38, s38⟩ := len_cons s37; obtain ⟨u39, t39, e39, s39⟩ := len_cons s38; obtain ⟨u40, t40, e40, s40⟩ := len_cons s39; obtain ⟨u41, t41, e41, s41⟩ := len_cons s40
            obtain rfl := len_nil s41
            clear hus s0 s1 s2 s3 s4 s5 s6 s7 s8 s9 s10 s11 s12 s13 s14 s15 s16 s17 s18 s19 s20 s21 s22 s23 s24 s25 s26 s27 s28 s29 s30 s31 s32 s33 s34 s35 s36 s37 s38 s39 s40 s41
            subst e41 e40 e39 e38 e37 e36 e35 e34 e33 e32 e31 e30 e29 e28 e27 e26 e25 e24 e23 e22 e21 e20 e19 e18 e17 e16 e15 e14 e13 e12 e11 e10 e9 e8 e7 e6 e5 e4 e3 e2 e1 e0
            have h15 : u15 = .bool true := h 15 (by kernel_rfl)
            clear h
            simp only [over, Act.put, List.setIfInBounds_toArray, List.set_cons_zero, List.set_cons_succ]
            subst h15
            have f0 := x.cell HF0.out
            go_wp2_with fail
            exact postK_normal ⟨_, rfl, rfl, Ext.refl _⟩
          refine AllSteps.cons (fun us hus w' x h => ?_) ?_
          · obtain ⟨u0, t0, e0, s0⟩ := len_cons hus; obtain ⟨u1, t1, e1, s1⟩ := len_cons s0; obtain ⟨u2, t2, e2, s2⟩ := len_cons s1; obtain ⟨u3, t3, e3, s3⟩ := len_cons s2; obtain ⟨u4, t4, e4, s4⟩ := len_cons s3; obtain ⟨u5, t5, e5, s5⟩ := len_cons s4; obtain ⟨u6, t6, e6, s6⟩ := len_cons s5; obtain ⟨u7, t7, e7, s7⟩ := len_cons s6; obtain ⟨u8, t8, e8, s8⟩ := len_cons s7; obtain ⟨u9, t9, e9, s9⟩ := len_cons s8; obtain ⟨u10, t10, e10, s10⟩ := len_cons s9; obtain ⟨u11, t11, e11, s11⟩ := len_cons s10; obtain ⟨u12, t12, e12, s12⟩ := len_cons s11; obtain ⟨u13, t13, e13, s13⟩ := len_cons s12; obtain ⟨u14, t14, e14, s14⟩ := len_cons s13; obtain ⟨u15, t15, e15, s15⟩ := len_cons s14; obtain ⟨u16, t16, e16, s16⟩ := len_cons s15; obtain ⟨u17, t17, e17, s17⟩ := len_cons s16; obtain ⟨u18, t18, e18, s18⟩ := len_cons s17; obtain ⟨u19, t19, e19, s19⟩ := len_cons s18; obtain ⟨u20, t20, e20, s20⟩ := len_cons s19; obtain ⟨u21, t21, e21, s21⟩ := len_cons s20; obtain ⟨u22, t22, e22, s22⟩ := len_cons s21; obtain ⟨u23, t23, e23, s23⟩ := len_cons s22; obtain ⟨u24, t24, e24, s24⟩ := len_cons s23; obtain ⟨u25, t25, e25, s25⟩ := len_cons s24; obtain ⟨u26, t26, e26, s26⟩ := len_cons s25; obtain ⟨u27, t27, e27, s27⟩ := len_cons s26; obtain ⟨u28, t28, e28, s28⟩ := len_cons s27; obtain ⟨u29, t29, e29, s29⟩ := len_cons s28; obtain ⟨u30, t30, e30, s30⟩ := len_cons s29; obtain ⟨u31, t31, e31, s31⟩ := len_cons s30; obtain ⟨u32, t32, e32, s32⟩ := len_cons s31; obtain ⟨u33, t33, e33, s33⟩ := len_cons s32; obtain ⟨u34, t34, e34, s34⟩ := len_cons s33; obtain ⟨u35, t35, e35, s35⟩ := len_cons s34; obtain ⟨u36, t36, e36, s36⟩ := len_cons s35; obtain ⟨u37, t37, e37, s37⟩ := len_cons s36; obtain ⟨u38, t38, e38, s38⟩ := len_cons s37; obtain ⟨u39, t39, e39, s39⟩ := len_cons s38; obtain ⟨u40, t40, e40, s40⟩ := len_cons s39; obtain ⟨u41, t41, e41, s41⟩ := len_cons s40
            obtain rfl := len_nil s41
            clear hus s0 s1 s2 s3 s4 s5 s6 s7 s8 s9 s10 s11 s12 s13 s14 s15 s16 s17 s18 s19 s20 s21 s22 s23 s24 s25 s26 s27 s28 s29 s30 s31 s32 s33 s34 s35 s36 s37 s38 s39 s40 s41
            subst e41 e40 e39 e38 e37 e36 e35 e34 e33 e32 e31 e30 e29 e28 e27 e26 e25 e24 e23 e22 e21 e20 e19 e18 e17 e16 e15 e14 e13 e12 e11 e10 e9 e8 e7 e6 e5 e4 e3 e2 e1 e0
            have h26 : Bs w' u26 a0.data.toList := h 26 (by kernel_rfl)
            have h27 : u27 = .agg #[.slice ta rows.length tc] := h 27 (by kernel_rfl)
            have h15 : u15 = .bool true := h 15 (by kernel_rfl)
            clear h
            simp only [over, Act.put, List.setIfInBounds_toArray, List.set_cons_zero, List.set_cons_succ]
            subst h27
            subst h15
            have c5 := impl_Map _ _ rows _ _ (HTB.out.ext x) h26 (HT.out.ext x) (by show a0.size ≤ _; omega) HLE.out
            rw [HM.out] at c5
            go_wp2_with (go_at_call 14; refine c5.mono ?_)
            rintro _ w5 ⟨v5, rfl, o5, x5⟩
            go_wp2_with fail
            exact postK_normal ⟨_, rfl, o5.bs, x5⟩
          refine AllSteps.cons (fun us hus w' x h => ?_) ?_
          · obtain ⟨u0, t0, e0, s0⟩ := len_cons hus; obtain ⟨u1, t1, e1, s1⟩ := len_cons s0; obtain ⟨u2, t2, e2, s2⟩ := len_cons s1; obtain ⟨u3, t3, e3, s3⟩ := len_cons s2; obtain ⟨u4, t4, e4, s4⟩ := len_cons s3; obtain ⟨u5, t5, e5, s5⟩ := len_cons s4; obtain ⟨u6, t6, e6, s6⟩ := len_cons s5; obtain ⟨u7, t7, e7, s7⟩ := len_cons s6; obtain ⟨u8, t8, e8, s8⟩ := len_cons s7; obtain ⟨u9, t9, e9, s9⟩ := len_cons s8; obtain ⟨u10, t10, e10, s10⟩ := len_cons s9; obtain ⟨u11, t11, e11, s11⟩ := len_cons s10; obtain ⟨u12, t12, e12, s12⟩ := len_cons s11; obtain ⟨u13, t13, e13, s13⟩ := len_cons s12; obtain ⟨u14, t14, e14, s14⟩ := len_cons s13; obtain ⟨u15, t15, e15, s15⟩ := len_cons s14; obtain ⟨u16, t16, e16, s16⟩ := len_cons s15; obtain ⟨u17, t17, e17, s17⟩ := len_cons s16; obtain ⟨u18, t18, e18, s18⟩ := len_cons s17; obtain ⟨u19, t19, e19, s19⟩ := len_cons s18; obtain ⟨u20, t20, e20, s20⟩ := len_cons s19; obtain ⟨u21, t21, e21, s21⟩ := len_cons s20; obtain ⟨u22, t22, e22, s22⟩ := len_cons s21; obtain ⟨u23, t23, e23, s23⟩ := len_cons s22; obtain ⟨u24, t24, e24, s24⟩ := len_cons s23; obtain ⟨u25, t25, e25, s25⟩ := len_cons s24; obtain ⟨u26, t26, e26, s26⟩ := len_cons s25; obtain ⟨u27, t27, e27, s27⟩ := len_cons s26; obtain ⟨u28, t28, e28, s28⟩ := len_cons s27; obtain ⟨u29, t29, e29, s29⟩ := len_cons s28; obtain ⟨u30, t30, e30, s30⟩ := len_cons s29; obtain ⟨u31, t31, e31, s31⟩ := len_cons s30; obtain ⟨u32, t32, e32, s32⟩ := len_cons s31; obtain ⟨u33, t33, e33, s33⟩ := len_cons s32; obtain ⟨u34, t34, e34, s34⟩ := len_cons s33; obtain ⟨u35, t35, e35, s35⟩ := len_cons s34; obtain ⟨u36, t36, e36, s36⟩ := len_cons s35; obtain ⟨u37, t37, e37, s37⟩ := len_cons s36; obtain ⟨u38, t38, e38, s38⟩ := len_cons s37; obtain ⟨u39, t39, e39, s39⟩ := len_cons s38; obtain ⟨u40, t40, e40, s40⟩ := len_cons s39; obtain ⟨u41, t41, e41, s41⟩ := len_cons s40
            obtain rfl := len_nil s41
            clear hus s0 s1 s2 s3 s4 s5 s6 s7 s8 s9 s10 s11 s12 s13 s14 s15 s16 s17 s18 s19 s20 s21 s22 s23 s24 s25 s26 s27 s28 s29 s30 s31 s32 s33 s34 s35 s36 s37 s38 s39 s40 s41
            subst e41 e40 e39 e38 e37 e36 e35 e34 e33 e32 e31 e30 e29 e28 e27 e26 e25 e24 e23 e22 e21 e20 e19 e18 e17 e16 e15 e14 e13 e12 e11 e10 e9 e8 e7 e6 e5 e4 e3 e2 e1 e0
            have h28 : Bs w' u28 M := h 28 (by kernel_rfl)
            have h15 : u15 = .bool true := h 15 (by kernel_rfl)
            clear h
            simp only [over, Act.put, List.setIfInBounds_toArray, List.set_cons_zero, List.set_cons_succ]
            subst h15
            go_wp2_with (refine wpList_toString rfl 24 9 _ rfl 5 Tryd.underlying24 Tryd.underlying5 Tryd.underlying9 _ _ rfl h28 ?_)
            exact postK_normal ⟨_, rfl, rfl, Ext.refl _⟩
          refine AllSteps.cons (fun us hus w' x h => ?_) ?_
          · obtain ⟨u0, t0, e0, s0⟩ := len_cons hus; obtain ⟨u1, t1, e1, s1⟩ := len_cons s0; obtain ⟨u2, t2, e2, s2⟩ := len_cons s1; obtain ⟨u3, t3, e3, s3⟩ := len_cons s2; obtain ⟨u4, t4, e4, s4⟩ := len_cons s3; obtain ⟨u5, t5, e5, s5⟩ := len_cons s4; obtain ⟨u6, t6, e6, s6⟩ := len_cons s5; obtain ⟨u7, t7, e7, s7⟩ := len_cons s6; obtain ⟨u8, t8, e8, s8⟩ := len_cons s7; obtain ⟨u9, t9, e9, s9⟩ := len_cons s8; obtain ⟨u10, t10, e10, s10⟩ := len_cons s9; obtain ⟨u11, t11, e11, s11⟩ := len_cons s10; obtain ⟨u12, t12, e12, s12⟩ := len_cons s11; obtain ⟨u13, t13, e13, s13⟩ := len_cons s12; obtain ⟨u14, t14, e14, s14⟩ := len_cons s13; obtain ⟨u15, t15, e15, s15⟩ := len_cons s14; obtain ⟨u16, t16, e16, s16⟩ := len_cons s15; obtain ⟨u17, t17, e17, s17⟩ := len_cons s16; obtain ⟨u18, t18, e18, s18⟩ := len_cons s17; obtain ⟨u19, t19, e19, s19⟩ := len_cons s18; obtain ⟨u20, t20, e20, s20⟩ := len_cons s19; obtain ⟨u21, t21, e21, s21⟩ := len_cons s20; obtain ⟨u22, t22, e22, s22⟩ := len_cons s21; obtain ⟨u23, t23, e23, s23⟩ := len_cons s22; obtain ⟨u24, t24, e24, s24⟩ := len_cons s23; obtain ⟨u25, t25, e25, s25⟩ := len_cons s24; obtain ⟨u26, t26, e26, s26⟩ := len_cons s25; obtain ⟨u27, t27, e27, s27⟩ := len_cons s26; obtain ⟨u28, t28, e28, s28⟩ := len_cons s27; obtain ⟨u29, t29, e29, s29⟩ := len_cons s28; obtain ⟨u30, t30, e30, s30⟩ := len_cons s29; obtain ⟨u31, t31, e31, s31⟩ := len_cons s30; obtain ⟨u32, t32, e32, s32⟩ := len_cons s31; obtain ⟨u33, t33, e33, s33⟩ := len_cons s32; obtain ⟨u34, t34, e34, s34⟩ := len_cons s33; obtain ⟨u35, t35, e35, s35⟩ := len_cons s34; obtain ⟨u36, t36, e36, s36⟩ := len_cons s35; obtain ⟨u37, t37, e37, s37⟩ := len_cons s36; obtain ⟨u38, t38, e38, s38⟩ := len_cons s37; obtain ⟨u39, t39, e39, s39⟩ := len_cons s38; obtain ⟨u40, t40, e40, s40⟩ := len_cons s39; obtain ⟨u41, t41, e41, s41⟩ := len_cons s40
            obtain rfl := len_nil s41
            clear hus s0 s1 s2 s3 s4 s5 s6 s7 s8 s9 s10 s11 s12 s13 s14 s15 s16 s17 s18 s19 s20 s21 s22 s23 s24 s25 s26 s27 s28 s29 s30 s31 s32 s33 s34 s35 s36 s37 s38 s39 s40 s41
            subst e41 e40 e39 e38 e37 e36 e35 e34 e33 e32 e31 e30 e29 e28 e27 e26 e25 e24 e23 e22 e21 e20 e19 e18 e17 e16 e15 e14 e13 e12 e11 e10 e9 e8 e7 e6 e5 e4 e3 e2 e1 e0
            have h24 : u24 = .string ⟨M.toArray⟩ := h 24 (by kernel_rfl)
            have h29 : u29 = .string ⟨M.toArray⟩ := h 29 (by kernel_rfl)
            have h15 : u15 = .bool true := h 15 (by kernel_rfl)
            clear h
            simp only [over, Act.put, List.setIfInBounds_toArray, List.set_cons_zero, List.set_cons_succ]
            subst h24
            subst h29
            subst h15
            go_wp2_with fail
            exact postK_normal ⟨_, rfl, rfl, Ext.refl _⟩
          refine AllSteps.cons (fun us hus w' x h => ?_) ?_
          · obtain ⟨u0, t0, e0, s0⟩ := len_cons hus; obtain ⟨u1, t1, e1, s1⟩ := len_cons s0; obtain ⟨u2, t2, e2, s2⟩ := len_cons s1; obtain ⟨u3, t3, e3, s3⟩ := len_cons s2; obtain ⟨u4, t4, e4, s4⟩ := len_cons s3; obtain ⟨u5, t5, e5, s5⟩ := len_cons s4; obtain ⟨u6, t6, e6, s6⟩ := len_cons s5; obtain ⟨u7, t7, e7, s7⟩ := len_cons s6; obtain ⟨u8, t8, e8, s8⟩ := len_cons s7; obtain ⟨u9, t9, e9, s9⟩ := len_cons s8; obtain ⟨u10, t10, e10, s10⟩ := len_cons s9; obtain ⟨u11, t11, e11, s11⟩ := len_cons s10; obtain ⟨u12, t12, e12, s12⟩ := len_cons s11; obtain ⟨u13, t13, e13, s13⟩ := len_cons s12; obtain ⟨u14, t14, e14, s14⟩ := len_cons s13; obtain ⟨u15, t15, e15, s15⟩ := len_cons s14; obtain ⟨u16, t16, e16, s16⟩ := len_cons s15; obtain ⟨u17, t17, e17, s17⟩ := len_cons s16; obtain ⟨u18, t18, e18, s18⟩ := len_cons s17; obtain ⟨u19, t19, e19, s19⟩ := len_cons s18; obtain ⟨u20, t20, e20, s20⟩ := len_cons s19; obtain ⟨u21, t21, e21, s21⟩ := len_cons s20; obtain ⟨u22, t22, e22, s22⟩ := len_cons s21; obtain ⟨u23, t23, e23, s23⟩ := len_cons s22; obtain ⟨u24, t24, e24, s24⟩ := len_cons s23; obtain ⟨u25, t25, e25, s25⟩ := len_cons s24; obtain ⟨u26, t26, e26, s26⟩ := len_cons s25; obtain ⟨u27, t27, e27, s27⟩ := len_cons s26; obtain ⟨u28, t28, e28, s28⟩ := len_cons s27; obtain ⟨u29, t29, e29, s29⟩ := len_cons s28; obtain ⟨u30, t30, e30, s30⟩ := len_cons s29; obtain ⟨u31, t31, e31, s31⟩ := len_cons s30; obtain ⟨u32, t32, e32, s32⟩ := len_cons s31; obtain ⟨u33, t33, e33, s33⟩ := len_cons s32; obtain ⟨u34, t34, e34, s34⟩ := len_cons s33; obtain ⟨u35, t35, e35, s35⟩ := len_cons s34; obtain ⟨u36, t36, e36, s36⟩ := len_cons s35; obtain ⟨u37, t37, e37, s37⟩ := len_cons s36; obtain ⟨u38, t38, e38, s38⟩ := len_cons s37; obtain ⟨u39, t39, e39, s39⟩ := len_cons s38; obtain ⟨u40, t40, e40, s40⟩ := len_cons s39; obtain ⟨u41, t41, e41, s41⟩ := len_cons s40
            obtain rfl := len_nil s41
            clear hus s0 s1 s2 s3 s4 s5 s6 s7 s8 s9 s10 s11 s12 s13 s14 s15 s16 s17 s18 s19 s20 s21 s22 s23 s24 s25 s26 s27 s28 s29 s30 s31 s32 s33 s34 s35 s36 s37 s38 s39 s40 s41
            subst e41 e40 e39 e38 e37 e36 e35 e34 e33 e32 e31 e30 e29 e28 e27 e26 e25 e24 e23 e22 e21 e20 e19 e18 e17 e16 e15 e14 e13 e12 e11 e10 e9 e8 e7 e6 e5 e4 e3 e2 e1 e0
            have h15 : u15 = .bool true := h 15 (by kernel_rfl)
            have h30 : u30 = .bool true := h 30 (by kernel_rfl)
            clear h
            simp only [over, Act.put, List.setIfInBounds_toArray, List.set_cons_zero, List.set_cons_succ]
            subst h15
            subst h30
            go_wp2_with fail
            exact postK_normal ⟨_, rfl, rfl, Ext.refl _⟩
          refine AllSteps.cons (fun us hus w' x h => ?_) ?_
          · obtain ⟨u0, t0, e0, s0⟩ := len_cons hus; obtain ⟨u1, t1, e1, s1⟩ := len_cons s0; obtain ⟨u2, t2, e2, s2⟩ := len_cons s1; obtain ⟨u3, t3, e3, s3⟩ := len_cons s2; obtain ⟨u4, t4, e4, s4⟩ := len_cons s3; obtain ⟨u5, t5, e5, s5⟩ := len_cons s4; obtain ⟨u6, t6, e6, s6⟩ := len_cons s5; obtain ⟨u7, t7, e7, s7⟩ := len_cons s6; obtain ⟨u8, t8, e8, s8⟩ := len_cons s7; obtain ⟨u9, t9, e9, s9⟩ := len_cons s8; obtain ⟨u10, t10, e10, s10⟩ := len_cons s9; obtain ⟨u11, t11, e11, s11⟩ := len_cons s10; obtain ⟨u12, t12, e12, s12⟩ := len_cons s11; obtain ⟨u13, t13, e13, s13⟩ := len_cons s12; obtain ⟨u14, t14, e14, s14⟩ := len_cons s13; obtain ⟨u15, t15, e15, s15⟩ := len_cons s14; obtain ⟨u16, t16, e16, s16⟩ := len_cons s15; obtain ⟨u17, t17, e17, s17⟩ := len_cons s16; obtain ⟨u18, t18, e18, s18⟩ := len_cons s17; obtain ⟨u19, t19, e19, s19⟩ := len_cons s18; obtain ⟨u20, t20, e20, s20⟩ := len_cons s19; obtain ⟨u21, t21, e21, s21⟩ := len_cons s20; obtain ⟨u22, t22, e22, s22⟩ := len_cons s21; obtain ⟨u23, t23, e23, s23⟩ := len_cons s22; obtain ⟨u24, t24, e24, s24⟩ := len_cons s23; obtain ⟨u25, t25, e25, s25⟩ := len_cons s24; obtain ⟨u26, t26, e26, s26⟩ := len_cons s25; obtain ⟨u27, t27, e27, s27⟩ := len_cons s26; obtain ⟨u28, t28, e28, s28⟩ := len_cons s27; obtain ⟨u29, t29, e29, s29⟩ := len_cons s28; obtain ⟨u30, t30, e30, s30⟩ := len_cons s29; obtain ⟨u31, t31, e31, s31⟩ := len_cons s30; obtain ⟨u32, t32, e32, s32⟩ := len_cons s31; obtain ⟨u33, t33, e33, s33⟩ := len_cons s32; obtain ⟨u34, t34, e34, s34⟩ := len_cons s33; obtain ⟨u35, t35, e35, s35⟩ := len_cons s34; obtain ⟨u36, t36, e36, s36⟩ := len_cons s35; obtain ⟨u37, t37, e37, s37⟩ := len_cons s36; obtain ⟨u38, t38, e38, s38⟩ := len_cons s37; obtain ⟨u39, t39, e39, s39⟩ := len_cons s38; obtain ⟨u40, t40, e40, s40⟩ := len_cons s39; obtain ⟨u41, t41, e41, s41⟩ := len_cons s40
            obtain rfl := len_nil s41
            clear hus s0 s1 s2 s3 s4 s5 s6 s7 s8 s9 s10 s11 s12 s13 s14 s15 s16 s17 s18 s19 s20 s21 s22 s23 s24 s25 s26 s27 s28 s29 s30 s31 s32 s33 s34 s35 s36 s37 s38 s39 s40 s41
            subst e41 e40 e39 e38 e37 e36 e35 e34 e33 e32 e31 e30 e29 e28 e27 e26 e25 e24 e23 e22 e21 e20 e19 e18 e17 e16 e15 e14 e13 e12 e11 e10 e9 e8 e7 e6 e5 e4 e3 e2 e1 e0
            have h31 : u31 = .bool true := h 31 (by kernel_rfl)
            clear h
            simp only [over, Act.put, List.setIfInBounds_toArray, List.set_cons_zero, List.set_cons_succ]
            subst h31
            go_wp2_with fail
            exact postK_normal ⟨_, rfl, rfl, Ext.refl _⟩
          refine AllSteps.cons (fun us hus w' x h => ?_) ?_
          · obtain ⟨u0, t0, e0, s0⟩ := len_cons hus; obtain ⟨u1, t1, e1, s1⟩ := len_cons s0; obtain ⟨u2, t2, e2, s2⟩ := len_cons s1; obtain ⟨u3, t3, e3, s3⟩ := len_cons s2; obtain ⟨u4, t4, e4, s4⟩ := len_cons s3; obtain ⟨u5, t5, e5, s5⟩ := len_cons s4; obtain ⟨u6, t6, e6, s6⟩ := len_cons s5; obtain ⟨u7, t7, e7, s7⟩ := len_cons s6; obtain ⟨u8, t8, e8, s8⟩ := len_cons s7; obtain ⟨u9, t9, e9, s9⟩ := len_cons s8; obtain ⟨u10, t10, e10, s10⟩ := len_cons s9; obtain ⟨u11, t11, e11, s11⟩ := len_cons s10; obtain ⟨u12, t12, e12, s12⟩ := len_cons s11; obtain ⟨u13, t13, e13, s13⟩ := len_cons s12; obtain ⟨u14, t14, e14, s14⟩ := len_cons s13; obtain ⟨u15, t15, e15, s15⟩ := len_cons s14; obtain ⟨u16, t16, e16, s16⟩ := len_cons s15; obtain ⟨u17, t17, e17, s17⟩ := len_cons s16; obtain ⟨u18, t18, e18, s18⟩ := len_cons s17; obtain ⟨u19, t19, e19, s19⟩ := len_cons s18; obtain ⟨u20, t20, e20, s20⟩ := len_cons s19; obtain ⟨u21, t21, e21, s21⟩ := len_cons s20; obtain ⟨u22, t22, e22, s22⟩ := len_cons s21; obtain ⟨u23, t23, e23, s23⟩ := len_cons s22; obtain ⟨u24, t24, e24, s24⟩ := len_cons s23; obtain ⟨u25, t25, e25, s25⟩ := len_cons s24; obtain ⟨u26, t26, e26, s26⟩ := len_cons s25; obtain ⟨u27, t27, e27, s27⟩ := len_cons s26; obtain ⟨u28, t28, e28, s28⟩ := len_cons s27; obtain ⟨u29, t29, e29, s29⟩ := len_cons s28; obtain ⟨u30, t30, e30, s30⟩ := len_cons s29; obtain ⟨u31, t31, e31, s31⟩ := len_cons s30; obtain ⟨u32, t32, e32, s32⟩ := len_cons s31; obtain ⟨u33, t33, e33, s33⟩ := len_cons s32; obtain ⟨u34, t34, e34, s34⟩ := len_cons s33; obtain ⟨u35, t35, e35, s35⟩ := len_cons s34; obtain ⟨u36, t36, e36, s36⟩ := len_cons s35; obtain ⟨u37, t37, e37, s37⟩ := len_cons s36; obtain ⟨u38, t38, e38, s38⟩ := len_cons s37; obtain ⟨u39, t39, e39, s39⟩ := len_cons s38; obtain ⟨u40, t40, e40, s40⟩ := len_cons s39; obtain ⟨u41, t41, e41, s41⟩ := len_cons s40
            obtain rfl := len_nil s41
            clear hus s0 s1 s2 s3 s4 s5 s6 s7 s8 s9 s10 s11 s12 s13 s14 s15 s16 s17 s18 s19 s20 s21 s22 s23 s24 s25 s26 s27 s28 s29 s30 s31 s32 s33 s34 s35 s36 s37 s38 s39 s40 s41
            subst e41 e40 e39 e38 e37 e36 e35 e34 e33 e32 e31 e30 e29 e28 e27 e26 e25 e24 e23 e22 e21 e20 e19 e18 e17 e16 e15 e14 e13 e12 e11 e10 e9 e8 e7 e6 e5 e4 e3 e2 e1 e0
            have h32 : u32 = .bool true := h 32 (by kernel_rfl)
            clear h
            simp only [over, Act.put, List.setIfInBounds_toArray, List.set_cons_zero, List.set_cons_succ]
            subst h32
            go_wp2_with fail
            exact postK_normal ⟨_, rfl, rfl, Ext.refl _⟩
          refine AllSteps.cons (fun us hus w' x h => ?_) ?_
          · obtain ⟨u0, t0, e0, s0⟩ := len_cons hus; obtain ⟨u1, t1, e1, s1⟩ := len_cons s0; obtain ⟨u2, t2, e2, s2⟩ := len_cons s1; obtain ⟨u3, t3, e3, s3⟩ := len_cons s2; obtain ⟨u4, t4, e4, s4⟩ := len_cons s3; obtain ⟨u5, t5, e5, s5⟩ := len_cons s4; obtain ⟨u6, t6, e6, s6⟩ := len_cons s5; obtain ⟨u7, t7, e7, s7⟩ := len_cons s6; obtain ⟨u8, t8, e8, s8⟩ := len_cons s7; obtain ⟨u9, t9, e9, s9⟩ := len_cons s8; obtain ⟨u10, t10, e10, s10⟩ := len_cons s9; obtain ⟨u11, t11, e11, s11⟩ := len_cons s10; obtain ⟨u12, t12, e12, s12⟩ := len_cons s11; obtain ⟨u13, t13, e13, s13⟩ := len_cons s12; obtain ⟨u14, t14, e14, s14⟩ := len_cons s13; obtain ⟨u15, t15, e15, s15⟩ := len_cons s14; obtain ⟨u16, t16, e16, s16⟩ := len_cons s15; obtain ⟨u17, t17, e17, s17⟩ := len_cons s16; obtain ⟨u18, t18, e18, s18⟩ := len_cons s17; obtain ⟨u19, t19, e19, s19⟩ := len_cons s18; obtain ⟨u20, t20, e20, s20⟩ := len_cons s19; obtain ⟨u21, t21, e21, s21⟩ := len_cons s20; obtain ⟨u22, t22, e22, s22⟩ := len_cons s21; obtain ⟨u23, t23, e23, s23⟩ := len_cons s22; obtain ⟨u24, t24, e24, s24⟩ := len_cons s23; obtain ⟨u25, t25, e25, s25⟩ := len_cons s24; obtain ⟨u26, t26, e26, s26⟩ := len_cons s25; obtain ⟨u27, t27, e27, s27⟩ := len_cons s26; obtain ⟨u28, t28, e28, s28⟩ := len_cons s27; obtain ⟨u29, t29, e29, s29⟩ := len_cons s28; obtain ⟨u30, t30, e30, s30⟩ := len_cons s29; obtain ⟨u31, t31, e31, s31⟩ := len_cons s30; obtain ⟨u32, t32, e32, s32⟩ := len_cons s31; obtain ⟨u33, t33, e33, s33⟩ := len_cons s32; obtain ⟨u34, t34, e34, s34⟩ := len_cons s33; obtain ⟨u35, t35, e35, s35⟩ := len_cons s34; obtain ⟨u36, t36, e36, s36⟩ := len_cons s35; obtain ⟨u37, t37, e37, s37⟩ := len_cons s36; obtain ⟨u38, t38, e38, s38⟩ := len_cons s37; obtain ⟨u39, t39, e39, s39⟩ := len_cons s38; obtain ⟨u40, t40, e40, s40⟩ := len_cons s39; obtain ⟨u41, t41, e41, s41⟩ := len_cons s40
            obtain rfl := len_nil s41
            clear hus s0 s1 s2 s3 s4 s5 s6 s7 s8 s9 s10 s11 s12 s13 s14 s15 s16 s17 s18 s19 s20 s21 s22 s23 s24 s25 s26 s27 s28 s29 s30 s31 s32 s33 s34 s35 s36 s37 s38 s39 s40 s41
            subst e41 e40 e39 e38 e37 e36 e35 e34 e33 e32 e31 e30 e29 e28 e27 e26 e25 e24 e23 e22 e21 e20 e19 e18 e17 e16 e15 e14 e13 e12 e11 e10 e9 e8 e7 e6 e5 e4 e3 e2 e1 e0
            have h33 : u33 = .string a0 := h 33 (by kernel_rfl)
            have h32 : u32 = .bool true := h 32 (by kernel_rfl)
            clear h
            simp only [over, Act.put, List.setIfInBounds_toArray, List.set_cons_zero, List.set_cons_succ]
            subst h33
            subst h32
            go_wp2_with (refine wpList_toBytes rfl 9 24 _ rfl 5 Tryd.underlying9 Tryd.underlying24 Tryd.underlying5 _ rfl hmax ?_)
            intro v5 w5 o5 x5
            go_wp2_with fail
            exact postK_normal ⟨_, rfl, o5.bs, x5⟩
          refine AllSteps.cons (fun us hus w' x h => ?_) ?_
          · obtain ⟨u0, t0, e0, s0⟩ := len_cons hus; obtain ⟨u1, t1, e1, s1⟩ := len_cons s0; obtain ⟨u2, t2, e2, s2⟩ := len_cons s1; obtain ⟨u3, t3, e3, s3⟩ := len_cons s2; obtain ⟨u4, t4, e4, s4⟩ := len_cons s3; obtain ⟨u5, t5, e5, s5⟩ := len_cons s4; obtain ⟨u6, t6, e6, s6⟩ := len_cons s5; obtain ⟨u7, t7, e7, s7⟩ := len_cons s6; obtain ⟨u8, t8, e8, s8⟩ := len_cons s7; obtain ⟨u9, t9, e9, s9⟩ := len_cons s8; obtain ⟨u10, t10, e10, s10⟩ := len_cons s9; obtain ⟨u11, t11, e11, s11⟩ := len_cons s10; obtain ⟨u12, t12, e12, s12⟩ := len_cons s11; obtain ⟨u13, t13, e13, s13⟩ := len_cons s12; obtain ⟨u14, t14, e14, s14⟩ := len_cons s13; obtain ⟨u15, t15, e15, s15⟩ := len_cons s14; obtain ⟨u16, t16, e16, s16⟩ := len_cons s15; obtain ⟨u17, t17, e17, s17⟩ := len_cons s16; obtain ⟨u18, t18, e18, s18⟩ := len_cons s17; obtain ⟨u19, t19, e19, s19⟩ := len_cons s18; obtain ⟨u20, t20, e20, s20⟩ := len_cons s19; obtain ⟨u21, t21, e21, s21⟩ := len_cons s20; obtain ⟨u22, t22, e22, s22⟩ := len_cons s21; obtain ⟨u23, t23, e23, s23⟩ := len_cons s22; obtain ⟨u24, t24, e24, s24⟩ := len_cons s23; obtain ⟨u25, t25, e25, s25⟩ := len_cons s24; obtain ⟨u26, t26, e26, s26⟩ := len_cons s25; obtain ⟨u27, t27, e27, s27⟩ := len_cons s26; obtain ⟨u28, t28, e28, s28⟩ := len_cons s27; obtain ⟨u29, t29, e29, s29⟩ := len_cons s28; obtain ⟨u30, t30, e30, s30⟩ := len_cons s29; obtain ⟨u31, t31, e31, s31⟩ := len_cons s30; obtain ⟨u32, t32, e32, s32⟩ := len_cons s31; obtain ⟨u33, t33, e33, s33⟩ := len_cons s32; obtain ⟨u34, t34, e34, s34⟩ := len_cons s33; obtain ⟨u35, t35, e35, s35⟩ := len_cons s34; obtain ⟨u36, t36, e36, s36⟩ := len_cons s35; obtain ⟨u37, t37, e37, s37⟩ := len_cons s36; obtain ⟨u38, t38, e38, s38⟩ := len_cons s37; obtain ⟨u39, t39, e39, s39⟩ := len_cons s38; obtain ⟨u40, t40, e40, s40⟩ := len_cons s39; obtain ⟨u41, t41, e41, s41⟩ := len_cons s40
            obtain rfl := len_nil s41
            clear hus s0 s1 s2 s3 s4 s5 s6 s7 s8 s9 s10 s11 s12 s13 s14 s15 s16 s17 s18 s19 s20 s21 s22 s23 s24 s25 s26 s27 s28 s29 s30 s31 s32 s33 s34 s35 s36 s37 s38 s39 s40 s41
            subst e41 e40 e39 e38 e37 e36 e35 e34 e33 e32 e31 e30 e29 e28 e27 e26 e25 e24 e23 e22 e21 e20 e19 e18 e17 e16 e15 e14 e13 e12 e11 e10 e9 e8 e7 e6 e5 e4 e3 e2 e1 e0
            have h32 : u32 = .bool true := h 32 (by kernel_rfl)
            clear h
            simp only [over, Act.put, List.setIfInBounds_toArray, List.set_cons_zero, List.set_cons_succ]
            subst h32
            have c5 := laws_table _ _ [] [] w' (is_nil w') (is_nil w') (by simp)
            go_wp2_with (go_at_call 15; refine c5.mono ?_)
            rintro _ w5 ⟨v5, rfl, o5, x5⟩
            go_wp2_with fail
            exact postK_normal ⟨_, rfl, ⟨_, rfl, o5⟩, x5⟩
          refine AllSteps.cons (fun us hus w' x h => ?_) ?_
          · obtain ⟨u0, t0, e0, s0⟩ := len_cons hus; obtain ⟨u1, t1, e1, s1⟩ := len_cons s0; obtain ⟨u2, t2, e2, s2⟩ := len_cons s1; obtain ⟨u3, t3, e3, s3⟩ := len_cons s2; obtain ⟨u4, t4, e4, s4⟩ := len_cons s3; obtain ⟨u5, t5, e5, s5⟩ := len_cons s4; obtain ⟨u6, t6, e6, s6⟩ := len_cons s5; obtain ⟨u7, t7, e7, s7⟩ := len_cons s6; obtain ⟨u8, t8, e8, s8⟩ := len_cons s7; obtain ⟨u9, t9, e9, s9⟩ := len_cons s8; obtain ⟨u10, t10, e10, s10⟩ := len_cons s9; obtain ⟨u11, t11, e11, s11⟩ := len_cons s10; obtain ⟨u12, t12, e12, s12⟩ := len_cons s11; obtain ⟨u13, t13, e13, s13⟩ := len_cons s12; obtain ⟨u14, t14, e14, s14⟩ := len_cons s13; obtain ⟨u15, t15, e15, s15⟩ := len_cons s14; obtain ⟨u16, t16, e16, s16⟩ := len_cons s15; obtain ⟨u17, t17, e17, s17⟩ := len_cons s16; obtain ⟨u18, t18, e18, s18⟩ := len_cons s17; obtain ⟨u19, t19, e19, s19⟩ := len_cons s18; obtain ⟨u20, t20, e20, s20⟩ := len_cons s19; obtain ⟨u21, t21, e21, s21⟩ := len_cons s20; obtain ⟨u22, t22, e22, s22⟩ := len_cons s21; obtain ⟨u23, t23, e23, s23⟩ := len_cons s22; obtain ⟨u24, t24, e24, s24⟩ := len_cons s23; obtain ⟨u25, t25, e25, s25⟩ := len_cons s24; obtain ⟨u26, t26, e26, s26⟩ := len_cons s25; obtain ⟨u27, t27, e27, s27⟩ := len_cons s26; obtain ⟨u28, t28, e28, s28⟩ := len_cons s27; obtain ⟨u29, t29, e29, s29⟩ := len_cons s28; obtain ⟨u30, t30, e30, s30⟩ := len_cons s29; obtain ⟨u31, t31, e31, s31⟩ := len_cons s30; obtain ⟨u32, t32, e32, s32⟩ := len_cons s31; obtain ⟨u33, t33, e33, s33⟩ := len_cons s32; obtain ⟨u34, t34, e34, s34⟩ := len_cons s33; obtain ⟨u35, t35, e35, s35⟩ := len_cons s34; obtain ⟨u36, t36, e36, s36⟩ := len_cons s35; obtain ⟨u37, t37, e37, s37⟩ := len_cons s36; obtain ⟨u38, t38, e38, s38⟩ := len_cons s37; obtain ⟨u39, t39, e39, s39⟩ := len_cons s38; obtain ⟨u40, t40, e40, s40⟩ := len_cons s39; obtain ⟨u41, t41, e41, s41⟩ := len_cons s40
            obtain rfl := len_nil s41
            clear hus s0 s1 s2 s3 s4 s5 s6 s7 s8 s9 s10 s11 s12 s13 s14 s15 s16 s17 s18 s19 s20 s21 s22 s23 s24 s25 s26 s27 s28 s29 s30 s31 s32 s33 s34 s35 s36 s37 s38 s39 s40 s41
            subst e41 e40 e39 e38 e37 e36 e35 e34 e33 e32 e31 e30 e29 e28 e27 e26 e25 e24 e23 e22 e21 e20 e19 e18 e17 e16 e15 e14 e13 e12 e11 e10 e9 e8 e7 e6 e5 e4 e3 e2 e1 e0
            have h34 : Bs w' u34 a0.data.toList := h 34 (by kernel_rfl)
            have h35 : ∃ v7, u35 = .agg #[v7] ∧ Ts w' v7 ([] : List (Int × Int)) := h 35 (by kernel_rfl)
            have h32 : u32 = .bool true := h 32 (by kernel_rfl)
            clear h
            simp only [over, Act.put, List.setIfInBounds_toArray, List.set_cons_zero, List.set_cons_succ]
            subst h32
            obtain ⟨v7, e7, i7⟩ := h35
            obtain ⟨ta, tc, te, _⟩ := i7.raw
            subst te
            subst e7
            have c5 := impl_Map _ _ [] _ _ i7 h34 (HT.out.ext x) (by show a0.size ≤ _; omega) image_nil_le'
            rw [HS.out] at c5
            go_wp2_with (go_at_call 14; refine c5.mono ?_)
            rintro _ w5 ⟨v5, rfl, o5, x5⟩
            go_wp2_with fail
            exact postK_normal ⟨_, rfl, o5.bs, x5⟩
          refine AllSteps.cons (fun us hus w' x h => ?_) ?_
          · obtain ⟨u0, t0, e0, s0⟩ := len_cons hus; obtain ⟨u1, t1, e1, s1⟩ := len_cons s0; obtain ⟨u2, t2, e2, s2⟩ := len_cons s1; obtain ⟨u3, t3, e3, s3⟩ := len_cons s2; obtain ⟨u4, t4, e4, s4⟩ := len_cons s3; obtain ⟨u5, t5, e5, s5⟩ := len_cons s4; obtain ⟨u6, t6, e6, s6⟩ := len_cons s5; obtain ⟨u7, t7, e7, s7⟩ := len_cons s6; obtain ⟨u8, t8, e8, s8⟩ := len_cons s7; obtain ⟨u9, t9, e9, s9⟩ := len_cons s8; obtain ⟨u10, t10, e10, s10⟩ := len_cons s9; obtain ⟨u11, t11, e11, s11⟩ := len_cons s10; obtain ⟨u12, t12, e12, s12⟩ := len_cons s11; obtain ⟨u13, t13, e13, s13⟩ := len_cons s12; obtain ⟨u14, t14, e14, s14⟩ := len_cons s13; obtain ⟨u15, t15, e15, s15⟩ := len_cons s14; obtain ⟨u16, t16, e16, s16⟩ := len_cons s15; obtain ⟨u17, t17, e17, s17⟩ := len_cons s16; obtain ⟨u18, t18, e18, s18⟩ := len_cons s17; obtain ⟨u19, t19, e19, s19⟩ := len_cons s18; obtain ⟨u20, t20, e20, s20⟩ := len_cons s19; obtain ⟨u21, t21, e21, s21⟩ := len_cons s20; obtain ⟨u22, t22, e22, s22⟩ := len_cons s21; obtain ⟨u23, t23, e23, s23⟩ := len_cons s22; obtain ⟨u24, t24, e24, s24⟩ := len_cons s23; obtain ⟨u25, t25, e25, s25⟩ := len_cons s24; obtain ⟨u26, t26, e26, s26⟩ := len_cons s25; obtain ⟨u27, t27, e27, s27⟩ := len_cons s26; obtain ⟨u28, t28, e28, s28⟩ := len_cons s27; obtain ⟨u29, t29, e29, s29⟩ := len_cons s28; obtain ⟨u30, t30, e30, s30⟩ := len_cons s29; obtain ⟨u31, t31, e31, s31⟩ := len_cons s30; obtain ⟨u32, t32, e32, s32⟩ := len_cons s31; obtain ⟨u33, t33, e33, s33⟩ := len_cons s32; obtain ⟨u34, t34, e34, s34⟩ := len_cons s33; obtain ⟨u35, t35, e35, s35⟩ := len_cons s34; obtain ⟨u36, t36, e36, s36⟩ := len_cons s35; obtain ⟨u37, t37, e37, s37⟩ := len_cons s36; obtain ⟨u38, t38, e38, s38⟩ := len_cons s37; obtain ⟨u39, t39, e39, s39⟩ := len_cons s38; obtain ⟨u40, t40, e40, s40⟩ := len_cons s39; obtain ⟨u41, t41, e41, s41⟩ := len_cons s40
            obtain rfl := len_nil s41
            clear hus s0 s1 s2 s3 s4 s5 s6 s7 s8 s9 s10 s11 s12 s13 s14 s15 s16 s17 s18 s19 s20 s21 s22 s23 s24 s25 s26 s27 s28 s29 s30 s31 s32 s33 s34 s35 s36 s37 s38 s39 s40 s41
            subst e41 e40 e39 e38 e37 e36 e35 e34 e33 e32 e31 e30 e29 e28 e27 e26 e25 e24 e23 e22 e21 e20 e19 e18 e17 e16 e15 e14 e13 e12 e11 e10 e9 e8 e7 e6 e5 e4 e3 e2 e1 e0
            have h36 : Bs w' u36 a0.data.toList := h 36 (by kernel_rfl)
            have h32 : u32 = .bool true := h 32 (by kernel_rfl)
            clear h
            simp only [over, Act.put, List.setIfInBounds_toArray, List.set_cons_zero, List.set_cons_succ]
            subst h32
            go_wp2_with (refine wpList_toString rfl 24 9 _ rfl 5 Tryd.underlying24 Tryd.underlying5 Tryd.underlying9 _ _ rfl h36 ?_)
            exact postK_normal ⟨_, rfl, rfl, Ext.refl _⟩
          refine AllSteps.cons (fun us hus w' x h => ?_) ?_
          · obtain ⟨u0, t0, e0, s0⟩ := len_cons hus; obtain ⟨u1, t1, e1, s1⟩ := len_cons s0; obtain ⟨u2, t2, e2, s2⟩ := len_cons s1; obtain ⟨u3, t3, e3, s3⟩ := len_cons s2; obtain ⟨u4, t4, e4, s4⟩ := len_cons s3; obtain ⟨u5, t5, e5, s5⟩ := len_cons s4; obtain ⟨u6, t6, e6, s6⟩ := len_cons s5; obtain ⟨u7, t7, e7, s7⟩ := len_cons s6; obtain ⟨u8, t8, e8, s8⟩ := len_cons s7; obtain ⟨u9, t9, e9, s9⟩ := len_cons s8; obtain ⟨u10, t10, e10, s10⟩ := len_cons s9; obtain ⟨u11, t11, e11, s11⟩ := len_cons s10; obtain ⟨u12, t12, e12, s12⟩ := len_cons s11; obtain ⟨u13, t13, e13, s13⟩ := len_cons s12; obtain ⟨u14, t14, e14, s14⟩ := len_cons s13; obtain ⟨u15, t15, e15, s15⟩ := len_cons s14; obtain ⟨u16, t16, e16, s16⟩ := len_cons s15; obtain ⟨u17, t17, e17, s17⟩ := len_cons s16; obtain ⟨u18, t18, e18, s18⟩ := len_cons s17; obtain ⟨u19, t19, e19, s19⟩ := len_cons s18; obtain ⟨u20, t20, e20, s20⟩ := len_cons s19; obtain ⟨u21, t21, e21, s21⟩ := len_cons s20; obtain ⟨u22, t22, e22, s22⟩ := len_cons s21; obtain ⟨u23, t23, e23, s23⟩ := len_cons s22; obtain ⟨u24, t24, e24, s24⟩ := len_cons s23; obtain ⟨u25, t25, e25, s25⟩ := len_cons s24; obtain ⟨u26, t26, e26, s26⟩ := len_cons s25; obtain ⟨u27, t27, e27, s27⟩ := len_cons s26; obtain ⟨u28, t28, e28, s28⟩ := len_cons s27; obtain ⟨u29, t29, e29, s29⟩ := len_cons s28; obtain ⟨u30, t30, e30, s30⟩ := len_cons s29; obtain ⟨u31, t31, e31, s31⟩ := len_cons s30; obtain ⟨u32, t32, e32, s32⟩ := len_cons s31; obtain ⟨u33, t33, e33, s33⟩ := len_cons s32; obtain ⟨u34, t34, e34, s34⟩ := len_cons s33; obtain ⟨u35, t35, e35, s35⟩ := len_cons s34; obtain ⟨u36, t36, e36, s36⟩ := len_cons s35; obtain ⟨u37, t37, e37, s37⟩ := len_cons s36; obtain ⟨u38, t38, e38, s38⟩ := len_cons s37; obtain ⟨u39, t39, e39, s39⟩ := len_cons s38; obtain ⟨u40, t40, e40, s40⟩ := len_cons s39; obtain ⟨u41, t41, e41, s41⟩ := len_cons s40
            obtain rfl := len_nil s41
            clear hus s0 s1 s2 s3 s4 s5 s6 s7 s8 s9 s10 s11 s12 s13 s14 s15 s16 s17 s18 s19 s20 s21 s22 s23 s24 s25 s26 s27 s28 s29 s30 s31 s32 s33 s34 s35 s36 s37 s38 s39 s40 s41
            subst e41 e40 e39 e38 e37 e36 e35 e34 e33 e32 e31 e30 e29 e28 e27 e26 e25 e24 e23 e22 e21 e20 e19 e18 e17 e16 e15 e14 e13 e12 e11 e10 e9 e8 e7 e6 e5 e4 e3 e2 e1 e0
            have h32 : u32 = .bool true := h 32 (by kernel_rfl)
            clear h
            simp only [over, Act.put, List.setIfInBounds_toArray, List.set_cons_zero, List.set_cons_succ]
            subst h32
            go_wp2_with fail
            exact postK_normal ⟨_, rfl, rfl, Ext.refl _⟩
          refine AllSteps.cons (fun us hus w' x h => ?_) ?_
          · obtain ⟨u0, t0, e0, s0⟩ := len_cons hus; obtain ⟨u1, t1, e1, s1⟩ := len_cons s0; obtain ⟨u2, t2, e2, s2⟩ := len_cons s1; obtain ⟨u3, t3, e3, s3⟩ := len_cons s2; obtain ⟨u4, t4, e4, s4⟩ := len_cons s3; obtain ⟨u5, t5, e5, s5⟩ := len_cons s4; obtain ⟨u6, t6, e6, s6⟩ := len_cons s5; obtain ⟨u7, t7, e7, s7⟩ := len_cons s6; obtain ⟨u8, t8, e8, s8⟩ := len_cons s7; obtain ⟨u9, t9, e9, s9⟩ := len_cons s8; obtain ⟨u10, t10, e10, s10⟩ := len_cons s9; obtain ⟨u11, t11, e11, s11⟩ := len_cons s10; obtain ⟨u12, t12, e12, s12⟩ := len_cons s11; obtain ⟨u13, t13, e13, s13⟩ := len_cons s12; obtain ⟨u14, t14, e14, s14⟩ := len_cons s13; obtain ⟨u15, t15, e15, s15⟩ := len_cons s14; obtain ⟨u16, t16, e16, s16⟩ := len_cons s15; obtain ⟨u17, t17, e17, s17⟩ := len_cons s16; obtain ⟨u18, t18, e18, s18⟩ := len_cons s17; obtain ⟨u19, t19, e19, s19⟩ := len_cons s18; obtain ⟨u20, t20, e20, s20⟩ := len_cons s19; obtain ⟨u21, t21, e21, s21⟩ := len_cons s20; obtain ⟨u22, t22, e22, s22⟩ := len_cons s21; obtain ⟨u23, t23, e23, s23⟩ := len_cons s22; obtain ⟨u24, t24, e24, s24⟩ := len_cons s23; obtain ⟨u25, t25, e25, s25⟩ := len_cons s24; obtain ⟨u26, t26, e26, s26⟩ := len_cons s25; obtain ⟨u27, t27, e27, s27⟩ := len_cons s26; obtain ⟨u28, t28, e28, s28⟩ := len_cons s27; obtain ⟨u29, t29, e29, s29⟩ := len_cons s28; obtain ⟨u30, t30, e30, s30⟩ := len_cons s29; obtain ⟨u31, t31, e31, s31⟩ := len_cons s30; obtain ⟨u32, t32, e32, s32⟩ := len_cons s31; obtain ⟨u33, t33, e33, s33⟩ := len_cons s32; obtain ⟨u34, t34, e34, s34⟩ := len_cons s33; obtain ⟨u35, t35, e35, s35⟩ := len_cons s34; obtain ⟨u36, t36, e36, s36⟩ := len_cons s35; obtain ⟨u37, t37, e37, s37⟩ := len_cons s36; obtain ⟨u38, t38, e38, s38⟩ := len_cons s37; obtain ⟨u39, t39, e39, s39⟩ := len_cons s38; obtain ⟨u40, t40, e40, s40⟩ := len_cons s39; obtain ⟨u41, t41, e41, s41⟩ := len_cons s40
            obtain rfl := len_nil s41
            clear hus s0 s1 s2 s3 s4 s5 s6 s7 s8 s9 s10 s11 s12 s13 s14 s15 s16 s17 s18 s19 s20 s21 s22 s23 s24 s25 s26 s27 s28 s29 s30 s31 s32 s33 s34 s35 s36 s37 s38 s39 s40 s41
            subst e41 e40 e39 e38 e37 e36 e35 e34 e33 e32 e31 e30 e29 e28 e27 e26 e25 e24 e23 e22 e21 e20 e19 e18 e17 e16 e15 e14 e13 e12 e11 e10 e9 e8 e7 e6 e5 e4 e3 e2 e1 e0
            have h37 : u37 = .string ⟨a0.data.toList.toArray⟩ := h 37 (by kernel_rfl)
            have h38 : u38 = .string a0 := h 38 (by kernel_rfl)
            have h32 : u32 = .bool true := h 32 (by kernel_rfl)
            clear h
            simp only [over, Act.put, List.setIfInBounds_toArray, List.set_cons_zero, List.set_cons_succ]
            subst h37
            subst h38
            subst h32
            have hw := HWQ.out
            go_wp2_with fail
            exact postK_normal ⟨_, rfl, rfl, Ext.refl _⟩
          refine AllSteps.cons (fun us hus w' x h => ?_) ?_
          · obtain ⟨u0, t0, e0, s0⟩ := len_cons hus; obtain ⟨u1, t1, e1, s1⟩ := len_cons s0; obtain ⟨u2, t2, e2, s2⟩ := len_cons s1; obtain ⟨u3, t3, e3, s3⟩ := len_cons s2; obtain ⟨u4, t4, e4, s4⟩ := len_cons s3; obtain ⟨u5, t5, e5, s5⟩ := len_cons s4; obtain ⟨u6, t6, e6, s6⟩ := len_cons s5; obtain ⟨u7, t7, e7, s7⟩ := len_cons s6; obtain ⟨u8, t8, e8, s8⟩ := len_cons s7; obtain ⟨u9, t9, e9, s9⟩ := len_cons s8; obtain ⟨u10, t10, e10, s10⟩ := len_cons s9; obtain ⟨u11, t11, e11, s11⟩ := len_cons s10; obtain ⟨u12, t12, e12, s12⟩ := len_cons s11; obtain ⟨u13, t13, e13, s13⟩ := len_cons s12; obtain ⟨u14, t14, e14, s14⟩ := len_cons s13; obtain ⟨u15, t15, e15, s15⟩ := len_cons s14; obtain ⟨u16, t16, e16, s16⟩ := len_cons s15; obtain ⟨u17, t17, e17, s17⟩ := len_cons s16; obtain ⟨u18, t18, e18, s18⟩ := len_cons s17; obtain ⟨u19, t19, e19, s19⟩ := len_cons s18; obtain ⟨u20, t20, e20, s20⟩ := len_cons s19; obtain ⟨u21, t21, e21, s21⟩ := len_cons s20; obtain ⟨u22, t22, e22, s22⟩ := len_cons s21; obtain ⟨u23, t23, e23, s23⟩ := len_cons s22; obtain ⟨u24, t24, e24, s24⟩ := len_cons s23; obtain ⟨u25, t25, e25, s25⟩ := len_cons s24; obtain ⟨u26, t26, e26, s26⟩ := len_cons s25; obtain ⟨u27, t27, e27, s27⟩ := len_cons s26; obtain ⟨u28, t28, e28, s28⟩ := len_cons s27; obtain ⟨u29, t29, e29, s29⟩ := len_cons s28; obtain ⟨u30, t30, e30, s30⟩ := len_cons s29; obtain ⟨u31, t31, e31, s31⟩ := len_cons s30; obtain ⟨u32, t32, e32, s32⟩ := len_cons s31; obtain ⟨u33, t33, e33, s33⟩ := len_cons s32; obtain ⟨u34, t34, e34, s34⟩ := len_cons s33; obtain ⟨u35, t35, e35, s35⟩ := len_cons s34; obtain ⟨u36, t36, e36, s36⟩ := len_cons s35; obtain ⟨u37, t37, e37, s37⟩ := len_cons s36; obtain ⟨u38, t38, e38, s38⟩ := len_cons s37; obtain ⟨u39, t39, e39, s39⟩ := len_cons s38; obtain ⟨u40, t40, e40, s40⟩ := len_cons s39; obtain ⟨u41, t41, e41, s41⟩ := len_cons s40
            obtain rfl := len_nil s41
            clear hus s0 s1 s2 s3 s4 s5 s6 s7 s8 s9 s10 s11 s12 s13 s14 s15 s16 s17 s18 s19 s20 s21 s22 s23 s24 s25 s26 s27 s28 s29 s30 s31 s32 s33 s34 s35 s36 s37 s38 s39 s40 s41
            subst e41 e40 e39 e38 e37 e36 e35 e34 e33 e32 e31 e30 e29 e28 e27 e26 e25 e24 e23 e22 e21 e20 e19 e18 e17 e16 e15 e14 e13 e12 e11 e10 e9 e8 e7 e6 e5 e4 e3 e2 e1 e0
            have h32 : u32 = .bool true := h 32 (by kernel_rfl)
            have h39 : u39 = .bool true := h 39 (by kernel_rfl)
            clear h
            simp only [over, Act.put, List.setIfInBounds_toArray, List.set_cons_zero, List.set_cons_succ]
            subst h32
            subst h39
            go_wp2_with fail
            exact postK_normal ⟨_, rfl, rfl, Ext.refl _⟩
          refine AllSteps.cons (fun us hus w' x h => ?_) ?_
          · obtain ⟨u0, t0, e0, s0⟩ := len_cons hus; obtain ⟨u1, t1, e1, s1⟩ := len_cons s0; obtain ⟨u2, t2, e2, s2⟩ := len_cons s1; obtain ⟨u3, t3, e3, s3⟩ := len_cons s2; obtain ⟨u4, t4, e4, s4⟩ := len_cons s3; obtain ⟨u5, t5, e5, s5⟩ := len_cons s4; obtain ⟨u6, t6, e6, s6⟩ := len_cons s5; obtain ⟨u7, t7, e7, s7⟩ := len_cons s6; obtain ⟨u8, t8, e8, s8⟩ := len_cons s7; obtain ⟨u9, t9, e9, s9⟩ := len_cons s8; obtain ⟨u10, t10, e10, s10⟩ := len_cons s9; obtain ⟨u11, t11, e11, s11⟩ := len_cons s10; obtain ⟨u12, t12, e12, s12⟩ := len_cons s11; obtain ⟨u13, t13, e13, s13⟩ := len_cons s12; obtain ⟨u14, t14, e14, s14⟩ := len_cons s13; obtain ⟨u15, t15, e15, s15⟩ := len_cons s14; obtain ⟨u16, t16, e16, s16⟩ := len_cons s15; obtain ⟨u17, t17, e17, s17⟩ := len_cons s16; obtain ⟨u18, t18, e18, s18⟩ := len_cons s17; obtain ⟨u19, t19, e19, s19⟩ := len_cons s18; obtain ⟨u20, t20, e20, s20⟩ := len_cons s19; obtain ⟨u21, t21, e21, s21⟩ := len_cons s20; obtain ⟨u22, t22, e22, s22⟩ := len_cons s21; obtain ⟨u23, t23, e23, s23⟩ := len_cons s22; obtain ⟨u24, t24, e24, s24⟩ := len_cons s23; obtain ⟨u25, t25, e25, s25⟩ := len_cons s24; obtain ⟨u26, t26, e26, s26⟩ := len_cons s25; obtain ⟨u27, t27, e27, s27⟩ := len_cons s26; obtain ⟨u28, t28, e28, s28⟩ := len_cons s27; obtain ⟨u29, t29, e29, s29⟩ := len_cons s28; obtain ⟨u30, t30, e30, s30⟩ := len_cons s29; obtain ⟨u31, t31, e31, s31⟩ := len_cons s30; obtain ⟨u32, t32, e32, s32⟩ := len_cons s31; obtain ⟨u33, t33, e33, s33⟩ := len_cons s32; obtain ⟨u34, t34, e34, s34⟩ := len_cons s33; obtain ⟨u35, t35, e35, s35⟩ := len_cons s34; obtain ⟨u36, t36, e36, s36⟩ := len_cons s35; obtain ⟨u37, t37, e37, s37⟩ := len_cons s36; obtain ⟨u38, t38, e38, s38⟩ := len_cons s37; obtain ⟨u39, t39, e39, s39⟩ := len_cons s38; obtain ⟨u40, t40, e40, s40⟩ := len_cons s39; obtain ⟨u41, t41, e41, s41⟩ := len_cons s40
            obtain rfl := len_nil s41
            clear hus s0 s1 s2 s3 s4 s5 s6 s7 s8 s9 s10 s11 s12 s13 s14 s15 s16 s17 s18 s19 s20 s21 s22 s23 s24 s25 s26 s27 s28 s29 s30 s31 s32 s33 s34 s35 s36 s37 s38 s39 s40 s41
            subst e41 e40 e39 e38 e37 e36 e35 e34 e33 e32 e31 e30 e29 e28 e27 e26 e25 e24 e23 e22 e21 e20 e19 e18 e17 e16 e15 e14 e13 e12 e11 e10 e9 e8 e7 e6 e5 e4 e3 e2 e1 e0
            have h40 : u40 = .bool true := h 40 (by kernel_rfl)
            clear h
            simp only [over, Act.put, List.setIfInBounds_toArray, List.set_cons_zero, List.set_cons_succ]
            subst h40
            go_wp2_with fail
            exact postK_normal ⟨_, rfl, rfl, Ext.refl _⟩
          exact AllSteps.nil
        case fin =>
          intro us hus w' x h
          obtain ⟨u0, t0, e0, s0⟩ := len_cons hus; obtain ⟨u1, t1, e1, s1⟩ := len_cons s0; obtain ⟨u2, t2, e2, s2⟩ := len_cons s1; obtain ⟨u3, t3, e3, s3⟩ := len_cons s2; obtain ⟨u4, t4, e4, s4⟩ := len_cons s3; obtain ⟨u5, t5, e5, s5⟩ := len_cons s4; obtain ⟨u6, t6, e6, s6⟩ := len_cons s5; obtain ⟨u7, t7, e7, s7⟩ := len_cons s6; obtain ⟨u8, t8, e8, s8⟩ := len_cons s7; obtain ⟨u9, t9, e9, s9⟩ := len_cons s8; obtain ⟨u10, t10, e10, s10⟩ := len_cons s9; obtain ⟨u11, t11, e11, s11⟩ := len_cons s10; obtain ⟨u12, t12, e12, s12⟩ := len_cons s11; obtain ⟨u13, t13, e13, s13⟩ := len_cons s12; obtain ⟨u14, t14, e14, s14⟩ := len_cons s13; obtain ⟨u15, t15, e15, s15⟩ := len_cons s14; obtain ⟨u16, t16, e16, s16⟩ := len_cons s15; obtain ⟨u17, t17, e17, s17⟩ := len_cons s16; obtain ⟨u18, t18, e18, s18⟩ := len_cons s17; obtain ⟨u19, t19, e19, s19⟩ := len_cons s18; obtain ⟨u20, t20, e20, s20⟩ := len_cons s19; obtain ⟨u21, t21, e21, s21⟩ := len_cons s20; obtain ⟨u22, t22, e22, s22⟩ := len_cons s21; obtain ⟨u23, t23, e23, s23⟩ := len_cons s22; obtain ⟨u24, t24, e24, s24⟩ := len_cons s23; obtain ⟨u25, t25, e25, s25⟩ := len_cons s24; obtain ⟨u26, t26, e26, s26⟩ := len_cons s25; obtain ⟨u27, t27, e27, s27⟩ := len_cons s26; obtain ⟨u28, t28, e28, s28⟩ := len_cons s27; obtain ⟨u29, t29, e29, s29⟩ := len_cons s28; obtain ⟨u30, t30, e30, s30⟩ := len_cons s29; obtain ⟨u31, t31, e31, s31⟩ := len_cons s30; obtain ⟨u32, t32, e32, s32⟩ := len_cons s31; obtain ⟨u33, t33, e33, s33⟩ := len_cons s32; obtain ⟨u34, t34, e34, s34⟩ := len_cons s33; obtain ⟨u35, t35, e35, s35⟩ := len_cons s34; obtain ⟨u36, t36, e36, s36⟩ := len_cons s35; obtain ⟨u37, t37, e37, s37⟩ := len_cons s36; obtain ⟨u38, t38, e38, s38⟩ := len_cons s37; obtain ⟨u39, t39, e39, s39⟩ := len_cons s38; obtain ⟨u40, t40, e40, s40⟩ := len_cons s39; obtain ⟨u41, t41, e41, s41⟩ := len_cons s40
          obtain rfl := len_nil s41
          clear hus s0 s1 s2 s3 s4 s5 s6 s7 s8 s9 s10 s11 s12 s13 s14 s15 s16 s17 s18 s19 s20 s21 s22 s23 s24 s25 s26 s27 s28 s29 s30 s31 s32 s33 s34 s35 s36 s37 s38 s39 s40 s41
          subst e41 e40 e39 e38 e37 e36 e35 e34 e33 e32 e31 e30 e29 e28 e27 e26 e25 e24 e23 e22 e21 e20 e19 e18 e17 e16 e15 e14 e13 e12 e11 e10 e9 e8 e7 e6 e5 e4 e3 e2 e1 e0
          have h41 : u41 = .bool true := h 41 (by decide)
          clear h
          subst h41
          simp only [over, Act.put, List.setIfInBounds_toArray, List.set_cons_zero, List.set_cons_succ]
          go_wp2_with fail
          go_meet
          exact ⟨rfl, x⟩
      case rest =>
        obtain ⟨rfl, x8⟩ := hcut
        go_wp2_with fail
        go_ret
        exact ⟨rfl, (HX.out.trans x8).below⟩
end Go.Proofs.YtdlobdbclgcogaaDoor
