/- The walk of the law FnEqualFoldSum: it returns true where the texts have at most 2^20 bytes. Printed by eqlaws.py. -/
import Derived.Test.YtiahholgpbjjfaaDoorEqualW
import Derived.Test.YtiahholgpbjjfaaDoorWrapA
import Derived.Test.YtiahholgpbjjfaaDoorFoldR
import Derived.Test.YtiahholgpbjjfaaDoorPointsW
import Derived.Test.YtiahholgpbjjfaaDoorMend
import Derived.Test.YtiahholgpbjjfaaDoorMonoQ
import Derived.SizedLaws
import Derived.Deep.DeepCutAuto
namespace Go.Proofs.YtiahholgpbjjfaaDoor
open Go.RowKit

set_option maxRecDepth 100000 in
set_option maxHeartbeats 8000000 in
theorem FnEqualFoldSum_walk (w : World) (hT : Tabs w) (hC : CaseW w) (a0 : ByteArray) (z0 : a0.size ≤ 1048576) (a1 : ByteArray) (z1 : a1.size ≤ 1048576) (a2 : ByteArray) (z2 : a2.size ≤ 1048576) (a3 : ByteArray) (z3 : a3.size ≤ 1048576) :
    Calls Tryd.prog 5 #[.string a0, .string a1, .string a2, .string a3] w fun e w' => e = .returned (.bool true) ∧ Below w.heap.size w w' := by
  have HT := Lib.hid hT
  have HC := Lib.hid hC
  have X : Ext w w := Ext.refl _
  clear hT hC
  have hm0 : a0.size ≤ maxLen := by have := reachBytes_lt; unfold maxLen; omega
  have hm1 : a1.size ≤ maxLen := by have := reachBytes_lt; unfold maxLen; omega
  have hm2 : a2.size ≤ maxLen := by have := reachBytes_lt; unfold maxLen; omega
  have hm3 : a3.size ≤ maxLen := by have := reachBytes_lt; unfold maxLen; omega
  have cW0 := fun W => spec_Whole a0 W (by omega)
  have cW1 := fun W => spec_Whole a1 W (by omega)
  have cW2 := fun W => spec_Whole a2 W (by omega)
  have cW3 := fun W => spec_Whole a3 W (by omega)
  cases hw0 : wholeB a0.data.toList
  · rw [hw0] at cW0
    clear hw0
    go_enter Tryd.func5, Tryd.ntmps5
    go_wp2_with (go_at_call 10; refine (cW0 _).mono ?_)
    rintro _ w1 ⟨rfl, x1⟩
    replace X := X.trans x1
    clear x1
    go_wp2_with fail
    go_ret
    exact ⟨rfl, X.below⟩
  cases hw1 : wholeB a1.data.toList
  · rw [hw0] at cW0; rw [hw1] at cW1
    clear hw0 hw1
    go_enter Tryd.func5, Tryd.ntmps5
    go_wp2_with (go_at_call 10; refine (cW0 _).mono ?_)
    rintro _ w1 ⟨rfl, x1⟩
    replace X := X.trans x1
    clear x1
    go_wp2_with (go_at_call 10; refine (cW1 _).mono ?_)
    rintro _ w2 ⟨rfl, x2⟩
    replace X := X.trans x2
    clear x2
    go_wp2_with fail
    go_ret
    exact ⟨rfl, X.below⟩
  cases hw2 : wholeB a2.data.toList
  · rw [hw0] at cW0; rw [hw1] at cW1; rw [hw2] at cW2
    clear hw0 hw1 hw2
    go_enter Tryd.func5, Tryd.ntmps5
    go_wp2_with (go_at_call 10; refine (cW0 _).mono ?_)
    rintro _ w1 ⟨rfl, x1⟩
    replace X := X.trans x1
    clear x1
    go_wp2_with (go_at_call 10; refine (cW1 _).mono ?_)
    rintro _ w2 ⟨rfl, x2⟩
    replace X := X.trans x2
    clear x2
    go_wp2_with (go_at_call 10; refine (cW2 _).mono ?_)
    rintro _ w3 ⟨rfl, x3⟩
    replace X := X.trans x3
    clear x3
    go_wp2_with fail
    go_ret
    exact ⟨rfl, X.below⟩
  cases hw3 : wholeB a3.data.toList
  · rw [hw0] at cW0; rw [hw1] at cW1; rw [hw2] at cW2; rw [hw3] at cW3
    clear hw0 hw1 hw2 hw3
    go_enter Tryd.func5, Tryd.ntmps5
    go_wp2_with (go_at_call 10; refine (cW0 _).mono ?_)
    rintro _ w1 ⟨rfl, x1⟩
    replace X := X.trans x1
    clear x1
    go_wp2_with (go_at_call 10; refine (cW1 _).mono ?_)
    rintro _ w2 ⟨rfl, x2⟩
    replace X := X.trans x2
    clear x2
    go_wp2_with (go_at_call 10; refine (cW2 _).mono ?_)
    rintro _ w3 ⟨rfl, x3⟩
    replace X := X.trans x3
    clear x3
    go_wp2_with (go_at_call 10; refine (cW3 _).mono ?_)
    rintro _ w4 ⟨rfl, x4⟩
    replace X := X.trans x4
    clear x4
    go_wp2_with fail
    go_ret
    exact ⟨rfl, X.below⟩
  rw [hw0] at cW0; rw [hw1] at cW1; rw [hw2] at cW2; rw [hw3] at cW3
  obtain ⟨m1, m2, m3, m4, m5⟩ := mid_k hw0 a2.data.toList
  have HSUM := Lib.hid (show eqfB a0.data.toList a1.data.toList = true → eqfB a2.data.toList a3.data.toList = true → eqfB (a0.data.toList ++ a2.data.toList) (a1.data.toList ++ a3.data.toList) = true from eqfB_sum hw0 hw1)
  have HLEN := Lib.hid (show eqfB a0.data.toList a1.data.toList = true → (runesOf (chunks a0.data.toList)).length = (runesOf (chunks a1.data.toList)).length from fun h => by rw [runesOf_length, runesOf_length]; exact eqC_length h)
  have HM1 := Lib.hid m1
  have HM2 := Lib.hid m2
  have HM3 := Lib.hid m3
  have HM4 := Lib.hid m4
  have HM5 := Lib.hid m5
  clear m1 m2 m3 m4 m5 hw0 hw1 hw2 hw3
  have cP0 := fun W => spec_PointsR a0 W (by omega)
  have cP1 := fun W => spec_PointsR a1 W (by omega)
  have hs := fun (m : ByteArray) (h : m.size ≤ 3) => show (a0 ++ m ++ a2).size ≤ maxLen by rw [ByteArray.size_append, ByteArray.size_append]; unfold maxLen; omega
  have hd := fun (m : ByteArray) => show (a0 ++ m ++ a2).data.toList = a0.data.toList ++ m.data.toList ++ a2.data.toList by simp
  have hsk := hs ⟨#[107]⟩ (by decide)
  have HDk := Lib.hid (hd ⟨#[107]⟩)
  have hsK := hs ⟨#[75]⟩ (by decide)
  have HDK := Lib.hid (hd ⟨#[75]⟩)
  have hsKK := hs ⟨#[226, 132, 170]⟩ (by decide)
  have HDKK := Lib.hid (hd ⟨#[226, 132, 170]⟩)
  have hsS := hs ⟨#[83]⟩ (by decide)
  have HDS := Lib.hid (hd ⟨#[83]⟩)
  have hss := hs ⟨#[197, 191]⟩ (by decide)
  have HDs := Lib.hid (hd ⟨#[197, 191]⟩)
  have hsa := hs ⟨#[195, 165]⟩ (by decide)
  have HDa := Lib.hid (hd ⟨#[195, 165]⟩)
  have hsA := hs ⟨#[226, 132, 171]⟩ (by decide)
  have HDA := Lib.hid (hd ⟨#[226, 132, 171]⟩)
  have hsx := hs ⟨#[120]⟩ (by decide)
  have HDx := Lib.hid (hd ⟨#[120]⟩)
  have hb1 : ¬ 9223372036854775807 < a0.size + 1 := by omega
  have hc1 : ¬ 9223372036854775807 < a0.size + 1 + a2.size := by omega
  have hb2 : ¬ 9223372036854775807 < a0.size + 2 := by omega
  have hc2 : ¬ 9223372036854775807 < a0.size + 2 + a2.size := by omega
  have hb3 : ¬ 9223372036854775807 < a0.size + 3 := by omega
  have hc3 : ¬ 9223372036854775807 < a0.size + 3 + a2.size := by omega
  have hac : ¬ 9223372036854775807 < a0.size + a2.size := by omega
  have hbd : ¬ 9223372036854775807 < a1.size + a3.size := by omega
  have hsac : (a0 ++ a2).size ≤ maxLen := by rw [ByteArray.size_append]; unfold maxLen; omega
  have hsbd : (a1 ++ a3).size ≤ maxLen := by rw [ByteArray.size_append]; unfold maxLen; omega
  have HDac := Lib.hid (show (a0 ++ a2).data.toList = a0.data.toList ++ a2.data.toList by simp)
  have HDbd := Lib.hid (show (a1 ++ a3).data.toList = a1.data.toList ++ a3.data.toList by simp)
  rw [← HDk.out, ← HDK.out] at HM1
  rw [← HDk.out, ← HDKK.out] at HM2
  rw [← HDS.out, ← HDs.out] at HM3
  rw [← HDa.out, ← HDA.out] at HM4
  rw [← HDk.out, ← HDx.out] at HM5
  clear hs hd HDk HDK HDKK HDS HDs HDa HDA HDx
  obtain ⟨E, hE⟩ : ∃ E, eqfB a0.data.toList a1.data.toList = E := ⟨_, rfl⟩
  obtain ⟨F, hF⟩ : ∃ F, eqfB a2.data.toList a3.data.toList = F := ⟨_, rfl⟩
  rw [hE, hF] at HSUM
  rw [hE] at HLEN
  have HE := Lib.hid hE
  have HF := Lib.hid hF
  clear hE hF
  go_enter Tryd.func5, Tryd.ntmps5
  go_wp2_with (go_at_call 10; refine (cW0 _).mono ?_)
  rintro _ w1 ⟨rfl, x1⟩
  replace X := X.trans x1
  clear x1
  go_wp2_with (go_at_call 10; refine (cW1 _).mono ?_)
  rintro _ w2 ⟨rfl, x2⟩
  replace X := X.trans x2
  clear x2
  go_wp2_with (go_at_call 10; refine (cW2 _).mono ?_)
  rintro _ w3 ⟨rfl, x3⟩
  replace X := X.trans x3
  clear x3
  go_wp2_with (go_at_call 10; refine (cW3 _).mono ?_)
  rintro _ w4 ⟨rfl, x4⟩
  replace X := X.trans x4
  clear x4
  go_upto_region 3 with fail
  obtain ⟨wb, hwb⟩ : ∃ wb, wb = w4 := ⟨_, rfl⟩
  subst hwb
  have HX := Lib.hid X
  have HTb := Lib.hid (HT.out.ext X)
  have HCb := Lib.hid (HC.out.ext X)
  clear X cW0 cW1 cW2 cW3
  go_cut [93] (fun s wx => s = .bool false ∧ Ext wb wx)
  case first =>
    refine wp_region_seq (by kernel_rfl) [27, 28, 29, 30, 31, 32, 33, 34, 35, 36, 37, 38, 39, 40, 41, 42, 43, 44, 45, 46, 47, 48, 49, 50, 51, 52, 53, 54, 55, 56, 57, 58, 59, 60, 61, 62, 63, 64, 65, 66, 67, 68, 69, 70, 71, 72, 73, 74, 75, 76, 77, 78, 79, 80, 81, 82, 83, 84, 85, 86, 87, 88, 89, 90, 91, 92, 93] (by kernel_rfl) (by decide) (by simp) (by kernel_rfl)
      (fun i => match i with | 0 => (fun v w => v = .string a0) | 1 => (fun v w => v = .string (a0 ++ (⟨#[107]⟩ : ByteArray))) | 2 => (fun v w => v = .string a2) | 3 => (fun v w => v = .string (a0 ++ (⟨#[107]⟩ : ByteArray) ++ a2)) | 4 => (fun v w => Bs w v (a0 ++ (⟨#[107]⟩ : ByteArray) ++ a2).data.toList) | 5 => (fun v w => v = .string a0) | 6 => (fun v w => v = .string (a0 ++ (⟨#[75]⟩ : ByteArray))) | 7 => (fun v w => v = .string a2) | 8 => (fun v w => v = .string (a0 ++ (⟨#[75]⟩ : ByteArray) ++ a2)) | 9 => (fun v w => Bs w v (a0 ++ (⟨#[75]⟩ : ByteArray) ++ a2).data.toList) | 10 => (fun v w => v = .bool true) | 11 => (fun v w => v = .bool false) | 12 => (fun v w => v = .bool false) | 13 => (fun v w => v = .string a0) | 14 => (fun v w => v = .string (a0 ++ (⟨#[107]⟩ : ByteArray))) | 15 => (fun v w => v = .string a2) | 16 => (fun v w => v = .string (a0 ++ (⟨#[107]⟩ : ByteArray) ++ a2)) | 17 => (fun v w => Bs w v (a0 ++ (⟨#[107]⟩ : ByteArray) ++ a2).data.toList) | 18 => (fun v w => v = .string a0) | 19 => (fun v w => v = .string (a0 ++ (⟨#[226, 132, 170]⟩ : ByteArray))) | 20 => (fun v w => v = .string a2) | 21 => (fun v w => v = .string (a0 ++ (⟨#[226, 132, 170]⟩ : ByteArray) ++ a2)) | 22 => (fun v w => Bs w v (a0 ++ (⟨#[226, 132, 170]⟩ : ByteArray) ++ a2).data.toList) | 23 => (fun v w => v = .bool true) | 24 => (fun v w => v = .bool false) | 25 => (fun v w => v = .bool false) | 26 => (fun v w => v = .bool false) | 27 => (fun v w => v = .string a0) | 28 => (fun v w => v = .string (a0 ++ (⟨#[83]⟩ : ByteArray))) | 29 => (fun v w => v = .string a2) | 30 => (fun v w => v = .string (a0 ++ (⟨#[83]⟩ : ByteArray) ++ a2)) | 31 => (fun v w => Bs w v (a0 ++ (⟨#[83]⟩ : ByteArray) ++ a2).data.toList) | 32 => (fun v w => v = .string a0) | 33 => (fun v w => v = .string (a0 ++ (⟨#[197, 191]⟩ : ByteArray))) | 34 => (fun v w => v = .string a2) | 35 => (fun v w => v = .string (a0 ++ (⟨#[197, 191]⟩ : ByteArray) ++ a2)) | 36 => (fun v w => Bs w v (a0 ++ (⟨#[197, 191]⟩ : ByteArray) ++ a2).data.toList) | 37 => (fun v w => v = .bool true) | 38 => (fun v w => v = .bool false) | 39 => (fun v w => v = .bool false) | 40 => (fun v w => v = .bool false) | 41 => (fun v w => v = .string a0) | 42 => (fun v w => v = .string (a0 ++ (⟨#[195, 165]⟩ : ByteArray))) | 43 => (fun v w => v = .string a2) | 44 => (fun v w => v = .string (a0 ++ (⟨#[195, 165]⟩ : ByteArray) ++ a2)) | 45 => (fun v w => Bs w v (a0 ++ (⟨#[195, 165]⟩ : ByteArray) ++ a2).data.toList) | 46 => (fun v w => v = .string a0) | 47 => (fun v w => v = .string (a0 ++ (⟨#[226, 132, 171]⟩ : ByteArray))) | 48 => (fun v w => v = .string a2) | 49 => (fun v w => v = .string (a0 ++ (⟨#[226, 132, 171]⟩ : ByteArray) ++ a2)) | 50 => (fun v w => Bs w v (a0 ++ (⟨#[226, 132, 171]⟩ : ByteArray) ++ a2).data.toList) | 51 => (fun v w => v = .bool true) | 52 => (fun v w => v = .bool false) | 53 => (fun v w => v = .bool false) | 54 => (fun v w => v = .bool false) | 55 => (fun v w => v = .string a0) | 56 => (fun v w => v = .string (a0 ++ (⟨#[107]⟩ : ByteArray))) | 57 => (fun v w => v = .string a2) | 58 => (fun v w => v = .string (a0 ++ (⟨#[107]⟩ : ByteArray) ++ a2)) | 59 => (fun v w => Bs w v (a0 ++ (⟨#[107]⟩ : ByteArray) ++ a2).data.toList) | 60 => (fun v w => v = .string a0) | 61 => (fun v w => v = .string (a0 ++ (⟨#[120]⟩ : ByteArray))) | 62 => (fun v w => v = .string a2) | 63 => (fun v w => v = .string (a0 ++ (⟨#[120]⟩ : ByteArray) ++ a2)) | 64 => (fun v w => Bs w v (a0 ++ (⟨#[120]⟩ : ByteArray) ++ a2).data.toList) | 65 => (fun v w => v = .bool false) | 66 => (fun v w => v = .bool false) | _ => fun _ _ => True) ?stable ?steps ?fin
    case stable =>
      intro i v w' w'' h x
      match i, h with
      | 0, h => exact h
      | 1, h => exact h
      | 2, h => exact h
      | 3, h => exact h
      | 4, h => exact (show Bs w' v (a0 ++ (⟨#[107]⟩ : ByteArray) ++ a2).data.toList from h).ext x
      | 5, h => exact h
      | 6, h => exact h
      | 7, h => exact h
      | 8, h => exact h
      | 9, h => exact (show Bs w' v (a0 ++ (⟨#[75]⟩ : ByteArray) ++ a2).data.toList from h).ext x
      | 10, h => exact h
      | 11, h => exact h
      | 12, h => exact h
      | 13, h => exact h
      | 14, h => exact h
      | 15, h => exact h
      | 16, h => exact h
      | 17, h => exact (show Bs w' v (a0 ++ (⟨#[107]⟩ : ByteArray) ++ a2).data.toList from h).ext x
      | 18, h => exact h
      | 19, h => exact h
      | 20, h => exact h
      | 21, h => exact h
      | 22, h => exact (show Bs w' v (a0 ++ (⟨#[226, 132, 170]⟩ : ByteArray) ++ a2).data.toList from h).ext x
      | 23, h => exact h
      | 24, h => exact h
      | 25, h => exact h
      | 26, h => exact h
      | 27, h => exact h
      | 28, h => exact h
      | 29, h => exact h
      | 30, h => exact h
      | 31, h => exact (show Bs w' v (a0 ++ (⟨#[83]⟩ : ByteArray) ++ a2).data.toList from h).ext x
      | 32, h => exact h
      | 33, h => exact h
      | 34, h => exact h
      | 35, h => exact h
      | 36, h => exact (show Bs w' v (a0 ++ (⟨#[197, 191]⟩ : ByteArray) ++ a2).data.toList from h).ext x
      | 37, h => exact h
      | 38, h => exact h
      | 39, h => exact h
      | 40, h => exact h
      | 41, h => exact h
      | 42, h => exact h
      | 43, h => exact h
      | 44, h => exact h
      | 45, h => exact (show Bs w' v (a0 ++ (⟨#[195, 165]⟩ : ByteArray) ++ a2).data.toList from h).ext x
      | 46, h => exact h
      | 47, h => exact h
      | 48, h => exact h
      | 49, h => exact h
      | 50, h => exact (show Bs w' v (a0 ++ (⟨#[226, 132, 171]⟩ : ByteArray) ++ a2).data.toList from h).ext x
      | 51, h => exact h
      | 52, h => exact h
      | 53, h => exact h
      | 54, h => exact h
      | 55, h => exact h
      | 56, h => exact h
      | 57, h => exact h
      | 58, h => exact h
      | 59, h => exact (show Bs w' v (a0 ++ (⟨#[107]⟩ : ByteArray) ++ a2).data.toList from h).ext x
      | 60, h => exact h
      | 61, h => exact h
      | 62, h => exact h
      | 63, h => exact h
      | 64, h => exact (show Bs w' v (a0 ++ (⟨#[120]⟩ : ByteArray) ++ a2).data.toList from h).ext x
      | 65, h => exact h
      | 66, h => exact h
      | _ + 67, _ => trivial
    case steps =>
      refine AllSteps.cons (fun us hus w' x h => ?_) ?_
      · obtain ⟨u0, u1, u2, u3, u4, u5, u6, u7, u8, u9, t0, e0, s0⟩ := lc10 hus
        obtain ⟨u10, u11, u12, u13, u14, u15, u16, u17, u18, u19, t1, e1, s1⟩ := lc10 s0
        obtain ⟨u20, u21, u22, u23, u24, u25, u26, u27, u28, u29, t2, e2, s2⟩ := lc10 s1
        obtain ⟨u30, u31, u32, u33, u34, u35, u36, u37, u38, u39, t3, e3, s3⟩ := lc10 s2
        obtain ⟨u40, u41, u42, u43, u44, u45, u46, u47, u48, u49, t4, e4, s4⟩ := lc10 s3
        obtain ⟨u50, u51, u52, u53, u54, u55, u56, u57, u58, u59, t5, e5, s5⟩ := lc10 s4
        obtain ⟨u60, t6, e6, s6⟩ := len_cons s5
        obtain ⟨u61, t7, e7, s7⟩ := len_cons s6
        obtain ⟨u62, t8, e8, s8⟩ := len_cons s7
        obtain ⟨u63, t9, e9, s9⟩ := len_cons s8
        obtain ⟨u64, t10, e10, s10⟩ := len_cons s9
        obtain ⟨u65, t11, e11, s11⟩ := len_cons s10
        obtain ⟨u66, t12, e12, s12⟩ := len_cons s11
        obtain rfl := len_nil s12
        clear hus s0 s1 s2 s3 s4 s5 s6 s7 s8 s9 s10 s11 s12
        subst e12 e11 e10 e9 e8 e7 e6 e5 e4 e3 e2 e1 e0
        clear h
        simp only [over, Act.put, List.setIfInBounds_toArray, List.set_cons_zero, List.set_cons_succ]
        go_wp2_with fail
        exact postK_normal ⟨_, rfl, rfl, Ext.refl _⟩
      refine AllSteps.cons (fun us hus w' x h => ?_) ?_
      · obtain ⟨u0, u1, u2, u3, u4, u5, u6, u7, u8, u9, t0, e0, s0⟩ := lc10 hus
        obtain ⟨u10, u11, u12, u13, u14, u15, u16, u17, u18, u19, t1, e1, s1⟩ := lc10 s0
        obtain ⟨u20, u21, u22, u23, u24, u25, u26, u27, u28, u29, t2, e2, s2⟩ := lc10 s1
        obtain ⟨u30, u31, u32, u33, u34, u35, u36, u37, u38, u39, t3, e3, s3⟩ := lc10 s2
        obtain ⟨u40, u41, u42, u43, u44, u45, u46, u47, u48, u49, t4, e4, s4⟩ := lc10 s3
        obtain ⟨u50, u51, u52, u53, u54, u55, u56, u57, u58, u59, t5, e5, s5⟩ := lc10 s4
        obtain ⟨u60, t6, e6, s6⟩ := len_cons s5
        obtain ⟨u61, t7, e7, s7⟩ := len_cons s6
        obtain ⟨u62, t8, e8, s8⟩ := len_cons s7
        obtain ⟨u63, t9, e9, s9⟩ := len_cons s8
        obtain ⟨u64, t10, e10, s10⟩ := len_cons s9
        obtain ⟨u65, t11, e11, s11⟩ := len_cons s10
        obtain ⟨u66, t12, e12, s12⟩ := len_cons s11
        obtain rfl := len_nil s12
        clear hus s0 s1 s2 s3 s4 s5 s6 s7 s8 s9 s10 s11 s12
        subst e12 e11 e10 e9 e8 e7 e6 e5 e4 e3 e2 e1 e0
        have h0 : u0 = .string a0 := h 0 (by kernel_rfl)
        clear h
        simp only [over, Act.put, List.setIfInBounds_toArray, List.set_cons_zero, List.set_cons_succ]
        subst h0
        go_wp2_with fail
        exact postK_normal ⟨_, rfl, rfl, Ext.refl _⟩
      refine AllSteps.cons (fun us hus w' x h => ?_) ?_
      · obtain ⟨u0, u1, u2, u3, u4, u5, u6, u7, u8, u9, t0, e0, s0⟩ := lc10 hus
        obtain ⟨u10, u11, u12, u13, u14, u15, u16, u17, u18, u19, t1, e1, s1⟩ := lc10 s0
        obtain ⟨u20, u21, u22, u23, u24, u25, u26, u27, u28, u29, t2, e2, s2⟩ := lc10 s1
        obtain ⟨u30, u31, u32, u33, u34, u35, u36, u37, u38, u39, t3, e3, s3⟩ := lc10 s2
        obtain ⟨u40, u41, u42, u43, u44, u45, u46, u47, u48, u49, t4, e4, s4⟩ := lc10 s3
        obtain ⟨u50, u51, u52, u53, u54, u55, u56, u57, u58, u59, t5, e5, s5⟩ := lc10 s4
        obtain ⟨u60, t6, e6, s6⟩ := len_cons s5
        obtain ⟨u61, t7, e7, s7⟩ := len_cons s6
        obtain ⟨u62, t8, e8, s8⟩ := len_cons s7
        obtain ⟨u63, t9, e9, s9⟩ := len_cons s8
        obtain ⟨u64, t10, e10, s10⟩ := len_cons s9
        obtain ⟨u65, t11, e11, s11⟩ := len_cons s10
        obtain ⟨u66, t12, e12, s12⟩ := len_cons s11
        obtain rfl := len_nil s12
        clear hus s0 s1 s2 s3 s4 s5 s6 s7 s8 s9 s10 s11 s12
        subst e12 e11 e10 e9 e8 e7 e6 e5 e4 e3 e2 e1 e0
        clear h
        simp only [over, Act.put, List.setIfInBounds_toArray, List.set_cons_zero, List.set_cons_succ]
        go_wp2_with fail
        exact postK_normal ⟨_, rfl, rfl, Ext.refl _⟩
      refine AllSteps.cons (fun us hus w' x h => ?_) ?_
      · obtain ⟨u0, u1, u2, u3, u4, u5, u6, u7, u8, u9, t0, e0, s0⟩ := lc10 hus
        obtain ⟨u10, u11, u12, u13, u14, u15, u16, u17, u18, u19, t1, e1, s1⟩ := lc10 s0
        obtain ⟨u20, u21, u22, u23, u24, u25, u26, u27, u28, u29, t2, e2, s2⟩ := lc10 s1
        obtain ⟨u30, u31, u32, u33, u34, u35, u36, u37, u38, u39, t3, e3, s3⟩ := lc10 s2
        obtain ⟨u40, u41, u42, u43, u44, u45, u46, u47, u48, u49, t4, e4, s4⟩ := lc10 s3
        obtain ⟨u50, u51, u52, u53, u54, u55, u56, u57, u58, u59, t5, e5, s5⟩ := lc10 s4
        obtain ⟨u60, t6, e6, s6⟩ := len_cons s5
        obtain ⟨u61, t7, e7, s7⟩ := len_cons s6
        obtain ⟨u62, t8, e8, s8⟩ := len_cons s7
        obtain ⟨u63, t9, e9, s9⟩ := len_cons s8
        obtain ⟨u64, t10, e10, s10⟩ := len_cons s9
        obtain ⟨u65, t11, e11, s11⟩ := len_cons s10
        obtain ⟨u66, t12, e12, s12⟩ := len_cons s11
        obtain rfl := len_nil s12
        clear hus s0 s1 s2 s3 s4 s5 s6 s7 s8 s9 s10 s11 s12
        subst e12 e11 e10 e9 e8 e7 e6 e5 e4 e3 e2 e1 e0
        have h1 : u1 = .string (a0 ++ (⟨#[107]⟩ : ByteArray)) := h 1 (by kernel_rfl)
        have h2 : u2 = .string a2 := h 2 (by kernel_rfl)
        clear h
        simp only [over, Act.put, List.setIfInBounds_toArray, List.set_cons_zero, List.set_cons_succ]
        subst h1
        subst h2
        go_wp2_with fail
        exact postK_normal ⟨_, rfl, rfl, Ext.refl _⟩
      refine AllSteps.cons (fun us hus w' x h => ?_) ?_
      · obtain ⟨u0, u1, u2, u3, u4, u5, u6, u7, u8, u9, t0, e0, s0⟩ := lc10 hus
        obtain ⟨u10, u11, u12, u13, u14, u15, u16, u17, u18, u19, t1, e1, s1⟩ := lc10 s0
        obtain ⟨u20, u21, u22, u23, u24, u25, u26, u27, u28, u29, t2, e2, s2⟩ := lc10 s1
        obtain ⟨u30, u31, u32, u33, u34, u35, u36, u37, u38, u39, t3, e3, s3⟩ := lc10 s2
        obtain ⟨u40, u41, u42, u43, u44, u45, u46, u47, u48, u49, t4, e4, s4⟩ := lc10 s3
        obtain ⟨u50, u51, u52, u53, u54, u55, u56, u57, u58, u59, t5, e5, s5⟩ := lc10 s4
        obtain ⟨u60, t6, e6, s6⟩ := len_cons s5
        obtain ⟨u61, t7, e7, s7⟩ := len_cons s6
        obtain ⟨u62, t8, e8, s8⟩ := len_cons s7
        obtain ⟨u63, t9, e9, s9⟩ := len_cons s8
        obtain ⟨u64, t10, e10, s10⟩ := len_cons s9
        obtain ⟨u65, t11, e11, s11⟩ := len_cons s10
        obtain ⟨u66, t12, e12, s12⟩ := len_cons s11
        obtain rfl := len_nil s12
        clear hus s0 s1 s2 s3 s4 s5 s6 s7 s8 s9 s10 s11 s12
        subst e12 e11 e10 e9 e8 e7 e6 e5 e4 e3 e2 e1 e0
        have h3 : u3 = .string (a0 ++ (⟨#[107]⟩ : ByteArray) ++ a2) := h 3 (by kernel_rfl)
        clear h
        simp only [over, Act.put, List.setIfInBounds_toArray, List.set_cons_zero, List.set_cons_succ]
        subst h3
        go_wp2_with (refine wpList_toBytes rfl 9 25 _ rfl 5 Tryd.underlying9 Tryd.underlying25 Tryd.underlying5 _ rfl hsk ?_)
        intro v5 w5 o5 x5
        go_wp2_with fail
        exact postK_normal ⟨_, rfl, o5.bs, x5⟩
      refine AllSteps.cons (fun us hus w' x h => ?_) ?_
      · obtain ⟨u0, u1, u2, u3, u4, u5, u6, u7, u8, u9, t0, e0, s0⟩ := lc10 hus
        obtain ⟨u10, u11, u12, u13, u14, u15, u16, u17, u18, u19, t1, e1, s1⟩ := lc10 s0
        obtain ⟨u20, u21, u22, u23, u24, u25, u26, u27, u28, u29, t2, e2, s2⟩ := lc10 s1
        obtain ⟨u30, u31, u32, u33, u34, u35, u36, u37, u38, u39, t3, e3, s3⟩ := lc10 s2
        obtain ⟨u40, u41, u42, u43, u44, u45, u46, u47, u48, u49, t4, e4, s4⟩ := lc10 s3
        obtain ⟨u50, u51, u52, u53, u54, u55, u56, u57, u58, u59, t5, e5, s5⟩ := lc10 s4
        obtain ⟨u60, t6, e6, s6⟩ := len_cons s5
        obtain ⟨u61, t7, e7, s7⟩ := len_cons s6
        obtain ⟨u62, t8, e8, s8⟩ := len_cons s7
        obtain ⟨u63, t9, e9, s9⟩ := len_cons s8
        obtain ⟨u64, t10, e10, s10⟩ := len_cons s9
        obtain ⟨u65, t11, e11, s11⟩ := len_cons s10
        obtain ⟨u66, t12, e12, s12⟩ := len_cons s11
        obtain rfl := len_nil s12
        clear hus s0 s1 s2 s3 s4 s5 s6 s7 s8 s9 s10 s11 s12
        subst e12 e11 e10 e9 e8 e7 e6 e5 e4 e3 e2 e1 e0
        clear h
        simp only [over, Act.put, List.setIfInBounds_toArray, List.set_cons_zero, List.set_cons_succ]
        go_wp2_with fail
        exact postK_normal ⟨_, rfl, rfl, Ext.refl _⟩
      refine AllSteps.cons (fun us hus w' x h => ?_) ?_
      · obtain ⟨u0, u1, u2, u3, u4, u5, u6, u7, u8, u9, t0, e0, s0⟩ := lc10 hus
        obtain ⟨u10, u11, u12, u13, u14, u15, u16, u17, u18, u19, t1, e1, s1⟩ := lc10 s0
        obtain ⟨u20, u21, u22, u23, u24, u25, u26, u27, u28, u29, t2, e2, s2⟩ := lc10 s1
        obtain ⟨u30, u31, u32, u33, u34, u35, u36, u37, u38, u39, t3, e3, s3⟩ := lc10 s2
        obtain ⟨u40, u41, u42, u43, u44, u45, u46, u47, u48, u49, t4, e4, s4⟩ := lc10 s3
        obtain ⟨u50, u51, u52, u53, u54, u55, u56, u57, u58, u59, t5, e5, s5⟩ := lc10 s4
        obtain ⟨u60, t6, e6, s6⟩ := len_cons s5
        obtain ⟨u61, t7, e7, s7⟩ := len_cons s6
        obtain ⟨u62, t8, e8, s8⟩ := len_cons s7
        obtain ⟨u63, t9, e9, s9⟩ := len_cons s8
        obtain ⟨u64, t10, e10, s10⟩ := len_cons s9
        obtain ⟨u65, t11, e11, s11⟩ := len_cons s10
        obtain ⟨u66, t12, e12, s12⟩ := len_cons s11
        obtain rfl := len_nil s12
        clear hus s0 s1 s2 s3 s4 s5 s6 s7 s8 s9 s10 s11 s12
        subst e12 e11 e10 e9 e8 e7 e6 e5 e4 e3 e2 e1 e0
        have h5 : u5 = .string a0 := h 5 (by kernel_rfl)
        clear h
        simp only [over, Act.put, List.setIfInBounds_toArray, List.set_cons_zero, List.set_cons_succ]
        subst h5
        go_wp2_with fail
        exact postK_normal ⟨_, rfl, rfl, Ext.refl _⟩
      refine AllSteps.cons (fun us hus w' x h => ?_) ?_
      · obtain ⟨u0, u1, u2, u3, u4, u5, u6, u7, u8, u9, t0, e0, s0⟩ := lc10 hus
        obtain ⟨u10, u11, u12, u13, u14, u15, u16, u17, u18, u19, t1, e1, s1⟩ := lc10 s0
        obtain ⟨u20, u21, u22, u23, u24, u25, u26, u27, u28, u29, t2, e2, s2⟩ := lc10 s1
        obtain ⟨u30, u31, u32, u33, u34, u35, u36, u37, u38, u39, t3, e3, s3⟩ := lc10 s2
        obtain ⟨u40, u41, u42, u43, u44, u45, u46, u47, u48, u49, t4, e4, s4⟩ := lc10 s3
        obtain ⟨u50, u51, u52, u53, u54, u55, u56, u57, u58, u59, t5, e5, s5⟩ := lc10 s4
        obtain ⟨u60, t6, e6, s6⟩ := len_cons s5
        obtain ⟨u61, t7, e7, s7⟩ := len_cons s6
        obtain ⟨u62, t8, e8, s8⟩ := len_cons s7
        obtain ⟨u63, t9, e9, s9⟩ := len_cons s8
        obtain ⟨u64, t10, e10, s10⟩ := len_cons s9
        obtain ⟨u65, t11, e11, s11⟩ := len_cons s10
        obtain ⟨u66, t12, e12, s12⟩ := len_cons s11
        obtain rfl := len_nil s12
        clear hus s0 s1 s2 s3 s4 s5 s6 s7 s8 s9 s10 s11 s12
        subst e12 e11 e10 e9 e8 e7 e6 e5 e4 e3 e2 e1 e0
        clear h
        simp only [over, Act.put, List.setIfInBounds_toArray, List.set_cons_zero, List.set_cons_succ]
        go_wp2_with fail
        exact postK_normal ⟨_, rfl, rfl, Ext.refl _⟩
      refine AllSteps.cons (fun us hus w' x h => ?_) ?_
      · obtain ⟨u0, u1, u2, u3, u4, u5, u6, u7, u8, u9, t0, e0, s0⟩ := lc10 hus
        obtain ⟨u10, u11, u12, u13, u14, u15, u16, u17, u18, u19, t1, e1, s1⟩ := lc10 s0
        obtain ⟨u20, u21, u22, u23, u24, u25, u26, u27, u28, u29, t2, e2, s2⟩ := lc10 s1
        obtain ⟨u30, u31, u32, u33, u34, u35, u36, u37, u38, u39, t3, e3, s3⟩ := lc10 s2
        obtain ⟨u40, u41, u42, u43, u44, u45, u46, u47, u48, u49, t4, e4, s4⟩ := lc10 s3
        obtain ⟨u50, u51, u52, u53, u54, u55, u56, u57, u58, u59, t5, e5, s5⟩ := lc10 s4
        obtain ⟨u60, t6, e6, s6⟩ := len_cons s5
        obtain ⟨u61, t7, e7, s7⟩ := len_cons s6
        obtain ⟨u62, t8, e8, s8⟩ := len_cons s7
        obtain ⟨u63, t9, e9, s9⟩ := len_cons s8
        obtain ⟨u64, t10, e10, s10⟩ := len_cons s9
        obtain ⟨u65, t11, e11, s11⟩ := len_cons s10
        obtain ⟨u66, t12, e12, s12⟩ := len_cons s11
        obtain rfl := len_nil s12
        clear hus s0 s1 s2 s3 s4 s5 s6 s7 s8 s9 s10 s11 s12
        subst e12 e11 e10 e9 e8 e7 e6 e5 e4 e3 e2 e1 e0
        have h6 : u6 = .string (a0 ++ (⟨#[75]⟩ : ByteArray)) := h 6 (by kernel_rfl)
        have h7 : u7 = .string a2 := h 7 (by kernel_rfl)
        clear h
        simp only [over, Act.put, List.setIfInBounds_toArray, List.set_cons_zero, List.set_cons_succ]
        subst h6
        subst h7
        go_wp2_with fail
        exact postK_normal ⟨_, rfl, rfl, Ext.refl _⟩
      refine AllSteps.cons (fun us hus w' x h => ?_) ?_
      · obtain ⟨u0, u1, u2, u3, u4, u5, u6, u7, u8, u9, t0, e0, s0⟩ := lc10 hus
        obtain ⟨u10, u11, u12, u13, u14, u15, u16, u17, u18, u19, t1, e1, s1⟩ := lc10 s0
        obtain ⟨u20, u21, u22, u23, u24, u25, u26, u27, u28, u29, t2, e2, s2⟩ := lc10 s1
        obtain ⟨u30, u31, u32, u33, u34, u35, u36, u37, u38, u39, t3, e3, s3⟩ := lc10 s2
        obtain ⟨u40, u41, u42, u43, u44, u45, u46, u47, u48, u49, t4, e4, s4⟩ := lc10 s3
        obtain ⟨u50, u51, u52, u53, u54, u55, u56, u57, u58, u59, t5, e5, s5⟩ := lc10 s4
        obtain ⟨u60, t6, e6, s6⟩ := len_cons s5
        obtain ⟨u61, t7, e7, s7⟩ := len_cons s6
        obtain ⟨u62, t8, e8, s8⟩ := len_cons s7
        obtain ⟨u63, t9, e9, s9⟩ := len_cons s8
        obtain ⟨u64, t10, e10, s10⟩ := len_cons s9
        obtain ⟨u65, t11, e11, s11⟩ := len_cons s10
        obtain ⟨u66, t12, e12, s12⟩ := len_cons s11
        obtain rfl := len_nil s12
        clear hus s0 s1 s2 s3 s4 s5 s6 s7 s8 s9 s10 s11 s12
        subst e12 e11 e10 e9 e8 e7 e6 e5 e4 e3 e2 e1 e0
        have h8 : u8 = .string (a0 ++ (⟨#[75]⟩ : ByteArray) ++ a2) := h 8 (by kernel_rfl)
        clear h
        simp only [over, Act.put, List.setIfInBounds_toArray, List.set_cons_zero, List.set_cons_succ]
        subst h8
        go_wp2_with (refine wpList_toBytes rfl 9 25 _ rfl 5 Tryd.underlying9 Tryd.underlying25 Tryd.underlying5 _ rfl hsK ?_)
        intro v5 w5 o5 x5
        go_wp2_with fail
        exact postK_normal ⟨_, rfl, o5.bs, x5⟩
      refine AllSteps.cons (fun us hus w' x h => ?_) ?_
      · obtain ⟨u0, u1, u2, u3, u4, u5, u6, u7, u8, u9, t0, e0, s0⟩ := lc10 hus
        obtain ⟨u10, u11, u12, u13, u14, u15, u16, u17, u18, u19, t1, e1, s1⟩ := lc10 s0
        obtain ⟨u20, u21, u22, u23, u24, u25, u26, u27, u28, u29, t2, e2, s2⟩ := lc10 s1
        obtain ⟨u30, u31, u32, u33, u34, u35, u36, u37, u38, u39, t3, e3, s3⟩ := lc10 s2
        obtain ⟨u40, u41, u42, u43, u44, u45, u46, u47, u48, u49, t4, e4, s4⟩ := lc10 s3
        obtain ⟨u50, u51, u52, u53, u54, u55, u56, u57, u58, u59, t5, e5, s5⟩ := lc10 s4
        obtain ⟨u60, t6, e6, s6⟩ := len_cons s5
        obtain ⟨u61, t7, e7, s7⟩ := len_cons s6
        obtain ⟨u62, t8, e8, s8⟩ := len_cons s7
        obtain ⟨u63, t9, e9, s9⟩ := len_cons s8
        obtain ⟨u64, t10, e10, s10⟩ := len_cons s9
        obtain ⟨u65, t11, e11, s11⟩ := len_cons s10
        obtain ⟨u66, t12, e12, s12⟩ := len_cons s11
        obtain rfl := len_nil s12
        clear hus s0 s1 s2 s3 s4 s5 s6 s7 s8 s9 s10 s11 s12
        subst e12 e11 e10 e9 e8 e7 e6 e5 e4 e3 e2 e1 e0
        have h4 : Bs w' u4 (a0 ++ (⟨#[107]⟩ : ByteArray) ++ a2).data.toList := h 4 (by kernel_rfl)
        have h9 : Bs w' u9 (a0 ++ (⟨#[75]⟩ : ByteArray) ++ a2).data.toList := h 9 (by kernel_rfl)
        clear h
        simp only [over, Act.put, List.setIfInBounds_toArray, List.set_cons_zero, List.set_cons_succ]
        have c5 := impl_EqualFold _ _ _ _ _ h4 h9 (HTb.out.ext x) (HCb.out.ext x)
        rw [HM1.out] at c5
        go_wp2_with (go_at_call 9; refine c5.mono ?_)
        rintro _ w5 ⟨rfl, x5⟩
        go_wp2_with fail
        exact postK_normal ⟨_, rfl, rfl, x5⟩
      refine AllSteps.cons (fun us hus w' x h => ?_) ?_
      · obtain ⟨u0, u1, u2, u3, u4, u5, u6, u7, u8, u9, t0, e0, s0⟩ := lc10 hus
        obtain ⟨u10, u11, u12, u13, u14, u15, u16, u17, u18, u19, t1, e1, s1⟩ := lc10 s0
        obtain ⟨u20, u21, u22, u23, u24, u25, u26, u27, u28, u29, t2, e2, s2⟩ := lc10 s1
        obtain ⟨u30, u31, u32, u33, u34, u35, u36, u37, u38, u39, t3, e3, s3⟩ := lc10 s2
        obtain ⟨u40, u41, u42, u43, u44, u45, u46, u47, u48, u49, t4, e4, s4⟩ := lc10 s3
        obtain ⟨u50, u51, u52, u53, u54, u55, u56, u57, u58, u59, t5, e5, s5⟩ := lc10 s4
        obtain ⟨u60, t6, e6, s6⟩ := len_cons s5
        obtain ⟨u61, t7, e7, s7⟩ := len_cons s6
        obtain ⟨u62, t8, e8, s8⟩ := len_cons s7
        obtain ⟨u63, t9, e9, s9⟩ := len_cons s8
        obtain ⟨u64, t10, e10, s10⟩ := len_cons s9
        obtain ⟨u65, t11, e11, s11⟩ := len_cons s10
        obtain ⟨u66, t12, e12, s12⟩ := len_cons s11
        obtain rfl := len_nil s12
        clear hus s0 s1 s2 s3 s4 s5 s6 s7 s8 s9 s10 s11 s12
        subst e12 e11 e10 e9 e8 e7 e6 e5 e4 e3 e2 e1 e0
        have h10 : u10 = .bool true := h 10 (by kernel_rfl)
        clear h
        simp only [over, Act.put, List.setIfInBounds_toArray, List.set_cons_zero, List.set_cons_succ]
        subst h10
        go_wp2_with fail
        exact postK_normal ⟨_, rfl, rfl, Ext.refl _⟩
      refine AllSteps.cons (fun us hus w' x h => ?_) ?_
      · obtain ⟨u0, u1, u2, u3, u4, u5, u6, u7, u8, u9, t0, e0, s0⟩ := lc10 hus
        obtain ⟨u10, u11, u12, u13, u14, u15, u16, u17, u18, u19, t1, e1, s1⟩ := lc10 s0
        obtain ⟨u20, u21, u22, u23, u24, u25, u26, u27, u28, u29, t2, e2, s2⟩ := lc10 s1
        obtain ⟨u30, u31, u32, u33, u34, u35, u36, u37, u38, u39, t3, e3, s3⟩ := lc10 s2
        obtain ⟨u40, u41, u42, u43, u44, u45, u46, u47, u48, u49, t4, e4, s4⟩ := lc10 s3
        obtain ⟨u50, u51, u52, u53, u54, u55, u56, u57, u58, u59, t5, e5, s5⟩ := lc10 s4
        obtain ⟨u60, t6, e6, s6⟩ := len_cons s5
        obtain ⟨u61, t7, e7, s7⟩ := len_cons s6
        obtain ⟨u62, t8, e8, s8⟩ := len_cons s7
        obtain ⟨u63, t9, e9, s9⟩ := len_cons s8
        obtain ⟨u64, t10, e10, s10⟩ := len_cons s9
        obtain ⟨u65, t11, e11, s11⟩ := len_cons s10
        obtain ⟨u66, t12, e12, s12⟩ := len_cons s11
        obtain rfl := len_nil s12
        clear hus s0 s1 s2 s3 s4 s5 s6 s7 s8 s9 s10 s11 s12
        subst e12 e11 e10 e9 e8 e7 e6 e5 e4 e3 e2 e1 e0
        have h11 : u11 = .bool false := h 11 (by kernel_rfl)
        clear h
        simp only [over, Act.put, List.setIfInBounds_toArray, List.set_cons_zero, List.set_cons_succ]
        subst h11
        go_wp2_with fail
        exact postK_normal ⟨_, rfl, rfl, Ext.refl _⟩
      refine AllSteps.cons (fun us hus w' x h => ?_) ?_
      · obtain ⟨u0, u1, u2, u3, u4, u5, u6, u7, u8, u9, t0, e0, s0⟩ := lc10 hus
        obtain ⟨u10, u11, u12, u13, u14, u15, u16, u17, u18, u19, t1, e1, s1⟩ := lc10 s0
        obtain ⟨u20, u21, u22, u23, u24, u25, u26, u27, u28, u29, t2, e2, s2⟩ := lc10 s1
        obtain ⟨u30, u31, u32, u33, u34, u35, u36, u37, u38, u39, t3, e3, s3⟩ := lc10 s2
        obtain ⟨u40, u41, u42, u43, u44, u45, u46, u47, u48, u49, t4, e4, s4⟩ := lc10 s3
        obtain ⟨u50, u51, u52, u53, u54, u55, u56, u57, u58, u59, t5, e5, s5⟩ := lc10 s4
        obtain ⟨u60, t6, e6, s6⟩ := len_cons s5
        obtain ⟨u61, t7, e7, s7⟩ := len_cons s6
        obtain ⟨u62, t8, e8, s8⟩ := len_cons s7
        obtain ⟨u63, t9, e9, s9⟩ := len_cons s8
        obtain ⟨u64, t10, e10, s10⟩ := len_cons s9
        obtain ⟨u65, t11, e11, s11⟩ := len_cons s10
        obtain ⟨u66, t12, e12, s12⟩ := len_cons s11
        obtain rfl := len_nil s12
        clear hus s0 s1 s2 s3 s4 s5 s6 s7 s8 s9 s10 s11 s12
        subst e12 e11 e10 e9 e8 e7 e6 e5 e4 e3 e2 e1 e0
        have h12 : u12 = .bool false := h 12 (by kernel_rfl)
        clear h
        simp only [over, Act.put, List.setIfInBounds_toArray, List.set_cons_zero, List.set_cons_succ]
        subst h12
        go_wp2_with fail
        exact postK_normal ⟨_, rfl, rfl, Ext.refl _⟩
      refine AllSteps.cons (fun us hus w' x h => ?_) ?_
      · obtain ⟨u0, u1, u2, u3, u4, u5, u6, u7, u8, u9, t0, e0, s0⟩ := lc10 hus
        obtain ⟨u10, u11, u12, u13, u14, u15, u16, u17, u18, u19, t1, e1, s1⟩ := lc10 s0
        obtain ⟨u20, u21, u22, u23, u24, u25, u26, u27, u28, u29, t2, e2, s2⟩ := lc10 s1
        obtain ⟨u30, u31, u32, u33, u34, u35, u36, u37, u38, u39, t3, e3, s3⟩ := lc10 s2
        obtain ⟨u40, u41, u42, u43, u44, u45, u46, u47, u48, u49, t4, e4, s4⟩ := lc10 s3
        obtain ⟨u50, u51, u52, u53, u54, u55, u56, u57, u58, u59, t5, e5, s5⟩ := lc10 s4
        obtain ⟨u60, t6, e6, s6⟩ := len_cons s5
        obtain ⟨u61, t7, e7, s7⟩ := len_cons s6
        obtain ⟨u62, t8, e8, s8⟩ := len_cons s7
        obtain ⟨u63, t9, e9, s9⟩ := len_cons s8
        obtain ⟨u64, t10, e10, s10⟩ := len_cons s9
        obtain ⟨u65, t11, e11, s11⟩ := len_cons s10
        obtain ⟨u66, t12, e12, s12⟩ := len_cons s11
        obtain rfl := len_nil s12
        clear hus s0 s1 s2 s3 s4 s5 s6 s7 s8 s9 s10 s11 s12
        subst e12 e11 e10 e9 e8 e7 e6 e5 e4 e3 e2 e1 e0
        have h13 : u13 = .string a0 := h 13 (by kernel_rfl)
        have h12 : u12 = .bool false := h 12 (by kernel_rfl)
        clear h
        simp only [over, Act.put, List.setIfInBounds_toArray, List.set_cons_zero, List.set_cons_succ]
        subst h13
        subst h12
        go_wp2_with fail
        exact postK_normal ⟨_, rfl, rfl, Ext.refl _⟩
      refine AllSteps.cons (fun us hus w' x h => ?_) ?_
      · obtain ⟨u0, u1, u2, u3, u4, u5, u6, u7, u8, u9, t0, e0, s0⟩ := lc10 hus
        obtain ⟨u10, u11, u12, u13, u14, u15, u16, u17, u18, u19, t1, e1, s1⟩ := lc10 s0
        obtain ⟨u20, u21, u22, u23, u24, u25, u26, u27, u28, u29, t2, e2, s2⟩ := lc10 s1
        obtain ⟨u30, u31, u32, u33, u34, u35, u36, u37, u38, u39, t3, e3, s3⟩ := lc10 s2
        obtain ⟨u40, u41, u42, u43, u44, u45, u46, u47, u48, u49, t4, e4, s4⟩ := lc10 s3
        obtain ⟨u50, u51, u52, u53, u54, u55, u56, u57, u58, u59, t5, e5, s5⟩ := lc10 s4
        obtain ⟨u60, t6, e6, s6⟩ := len_cons s5
        obtain ⟨u61, t7, e7, s7⟩ := len_cons s6
        obtain ⟨u62, t8, e8, s8⟩ := len_cons s7
        obtain ⟨u63, t9, e9, s9⟩ := len_cons s8
        obtain ⟨u64, t10, e10, s10⟩ := len_cons s9
        obtain ⟨u65, t11, e11, s11⟩ := len_cons s10
        obtain ⟨u66, t12, e12, s12⟩ := len_cons s11
        obtain rfl := len_nil s12
        clear hus s0 s1 s2 s3 s4 s5 s6 s7 s8 s9 s10 s11 s12
        subst e12 e11 e10 e9 e8 e7 e6 e5 e4 e3 e2 e1 e0
        have h12 : u12 = .bool false := h 12 (by kernel_rfl)
        clear h
        simp only [over, Act.put, List.setIfInBounds_toArray, List.set_cons_zero, List.set_cons_succ]
        subst h12
        go_wp2_with fail
        exact postK_normal ⟨_, rfl, rfl, Ext.refl _⟩
      refine AllSteps.cons (fun us hus w' x h => ?_) ?_
      · obtain ⟨u0, u1, u2, u3, u4, u5, u6, u7, u8, u9, t0, e0, s0⟩ := lc10 hus
        obtain ⟨u10, u11, u12, u13, u14, u15, u16, u17, u18, u19, t1, e1, s1⟩ := lc10 s0
        obtain ⟨u20, u21, u22, u23, u24, u25, u26, u27, u28, u29, t2, e2, s2⟩ := lc10 s1
        obtain ⟨u30, u31, u32, u33, u34, u35, u36, u37, u38, u39, t3, e3, s3⟩ := lc10 s2
        obtain ⟨u40, u41, u42, u43, u44, u45, u46, u47, u48, u49, t4, e4, s4⟩ := lc10 s3
        obtain ⟨u50, u51, u52, u53, u54, u55, u56, u57, u58, u59, t5, e5, s5⟩ := lc10 s4
        obtain ⟨u60, t6, e6, s6⟩ := len_cons s5
        obtain ⟨u61, t7, e7, s7⟩ := len_cons s6
        obtain ⟨u62, t8, e8, s8⟩ := len_cons s7
        obtain ⟨u63, t9, e9, s9⟩ := len_cons s8
        obtain ⟨u64, t10, e10, s10⟩ := len_cons s9
        obtain ⟨u65, t11, e11, s11⟩ := len_cons s10
        obtain ⟨u66, t12, e12, s12⟩ := len_cons s11
        obtain rfl := len_nil s12
        clear hus s0 s1 s2 s3 s4 s5 s6 s7 s8 s9 s10 s11 s12
        subst e12 e11 e10 e9 e8 e7 e6 e5 e4 e3 e2 e1 e0
        have h14 : u14 = .string (a0 ++ (⟨#[107]⟩ : ByteArray)) := h 14 (by kernel_rfl)
        have h15 : u15 = .string a2 := h 15 (by kernel_rfl)
        have h12 : u12 = .bool false := h 12 (by kernel_rfl)
        clear h
        simp only [over, Act.put, List.setIfInBounds_toArray, List.set_cons_zero, List.set_cons_succ]
        subst h14
        subst h15
        subst h12
        go_wp2_with fail
        exact postK_normal ⟨_, rfl, rfl, Ext.refl _⟩
      refine AllSteps.cons (fun us hus w' x h => ?_) ?_
      · obtain ⟨u0, u1, u2, u3, u4, u5, u6, u7, u8, u9, t0, e0, s0⟩ := lc10 hus
        obtain ⟨u10, u11, u12, u13, u14, u15, u16, u17, u18, u19, t1, e1, s1⟩ := lc10 s0
        obtain ⟨u20, u21, u22, u23, u24, u25, u26, u27, u28, u29, t2, e2, s2⟩ := lc10 s1
        obtain ⟨u30, u31, u32, u33, u34, u35, u36, u37, u38, u39, t3, e3, s3⟩ := lc10 s2
        obtain ⟨u40, u41, u42, u43, u44, u45, u46, u47, u48, u49, t4, e4, s4⟩ := lc10 s3
        obtain ⟨u50, u51, u52, u53, u54, u55, u56, u57, u58, u59, t5, e5, s5⟩ := lc10 s4
        obtain ⟨u60, t6, e6, s6⟩ := len_cons s5
        obtain ⟨u61, t7, e7, s7⟩ := len_cons s6
        obtain ⟨u62, t8, e8, s8⟩ := len_cons s7
        obtain ⟨u63, t9, e9, s9⟩ := len_cons s8
        obtain ⟨u64, t10, e10, s10⟩ := len_cons s9
        obtain ⟨u65, t11, e11, s11⟩ := len_cons s10
        obtain ⟨u66, t12, e12, s12⟩ := len_cons s11
        obtain rfl := len_nil s12
        clear hus s0 s1 s2 s3 s4 s5 s6 s7 s8 s9 s10 s11 s12
        subst e12 e11 e10 e9 e8 e7 e6 e5 e4 e3 e2 e1 e0
        have h16 : u16 = .string (a0 ++ (⟨#[107]⟩ : ByteArray) ++ a2) := h 16 (by kernel_rfl)
        have h12 : u12 = .bool false := h 12 (by kernel_rfl)
        clear h
        simp only [over, Act.put, List.setIfInBounds_toArray, List.set_cons_zero, List.set_cons_succ]
        subst h16
        subst h12
        go_wp2_with (refine wpList_toBytes rfl 9 25 _ rfl 5 Tryd.underlying9 Tryd.underlying25 Tryd.underlying5 _ rfl hsk ?_)
        intro v5 w5 o5 x5
        go_wp2_with fail
        exact postK_normal ⟨_, rfl, o5.bs, x5⟩
      refine AllSteps.cons (fun us hus w' x h => ?_) ?_
      · obtain ⟨u0, u1, u2, u3, u4, u5, u6, u7, u8, u9, t0, e0, s0⟩ := lc10 hus
        obtain ⟨u10, u11, u12, u13, u14, u15, u16, u17, u18, u19, t1, e1, s1⟩ := lc10 s0
        obtain ⟨u20, u21, u22, u23, u24, u25, u26, u27, u28, u29, t2, e2, s2⟩ := lc10 s1
        obtain ⟨u30, u31, u32, u33, u34, u35, u36, u37, u38, u39, t3, e3, s3⟩ := lc10 s2
        obtain ⟨u40, u41, u42, u43, u44, u45, u46, u47, u48, u49, t4, e4, s4⟩ := lc10 s3
        obtain ⟨u50, u51, u52, u53, u54, u55, u56, u57, u58, u59, t5, e5, s5⟩ := lc10 s4
        obtain ⟨u60, t6, e6, s6⟩ := len_cons s5
        obtain ⟨u61, t7, e7, s7⟩ := len_cons s6
        obtain ⟨u62, t8, e8, s8⟩ := len_cons s7
        obtain ⟨u63, t9, e9, s9⟩ := len_cons s8
        obtain ⟨u64, t10, e10, s10⟩ := len_cons s9
        obtain ⟨u65, t11, e11, s11⟩ := len_cons s10
        obtain ⟨u66, t12, e12, s12⟩ := len_cons s11
        obtain rfl := len_nil s12
        clear hus s0 s1 s2 s3 s4 s5 s6 s7 s8 s9 s10 s11 s12
        subst e12 e11 e10 e9 e8 e7 e6 e5 e4 e3 e2 e1 e0
        have h12 : u12 = .bool false := h 12 (by kernel_rfl)
        clear h
        simp only [over, Act.put, List.setIfInBounds_toArray, List.set_cons_zero, List.set_cons_succ]
        subst h12
        go_wp2_with fail
        exact postK_normal ⟨_, rfl, rfl, Ext.refl _⟩
      refine AllSteps.cons (fun us hus w' x h => ?_) ?_
      · obtain ⟨u0, u1, u2, u3, u4, u5, u6, u7, u8, u9, t0, e0, s0⟩ := lc10 hus
        obtain ⟨u10, u11, u12, u13, u14, u15, u16, u17, u18, u19, t1, e1, s1⟩ := lc10 s0
        obtain ⟨u20, u21, u22, u23, u24, u25, u26, u27, u28, u29, t2, e2, s2⟩ := lc10 s1
        obtain ⟨u30, u31, u32, u33, u34, u35, u36, u37, u38, u39, t3, e3, s3⟩ := lc10 s2
        obtain ⟨u40, u41, u42, u43, u44, u45, u46, u47, u48, u49, t4, e4, s4⟩ := lc10 s3
        obtain ⟨u50, u51, u52, u53, u54, u55, u56, u57, u58, u59, t5, e5, s5⟩ := lc10 s4
        obtain ⟨u60, t6, e6, s6⟩ := len_cons s5
        obtain ⟨u61, t7, e7, s7⟩ := len_cons s6
        obtain ⟨u62, t8, e8, s8⟩ := len_cons s7
        obtain ⟨u63, t9, e9, s9⟩ := len_cons s8
        obtain ⟨u64, t10, e10, s10⟩ := len_cons s9
        obtain ⟨u65, t11, e11, s11⟩ := len_cons s10
        obtain ⟨u66, t12, e12, s12⟩ := len_cons s11
        obtain rfl := len_nil s12
        clear hus s0 s1 s2 s3 s4 s5 s6 s7 s8 s9 s10 s11 s12
        subst e12 e11 e10 e9 e8 e7 e6 e5 e4 e3 e2 e1 e0
        have h18 : u18 = .string a0 := h 18 (by kernel_rfl)
        have h12 : u12 = .bool false := h 12 (by kernel_rfl)
        clear h
        simp only [over, Act.put, List.setIfInBounds_toArray, List.set_cons_zero, List.set_cons_succ]
        subst h18
        subst h12
        go_wp2_with fail
        exact postK_normal ⟨_, rfl, rfl, Ext.refl _⟩
      refine AllSteps.cons (fun us hus w' x h => ?_) ?_
      · obtain ⟨u0, u1, u2, u3, u4, u5, u6, u7, u8, u9, t0, e0, s0⟩ := lc10 hus
        obtain ⟨u10, u11, u12, u13, u14, u15, u16, u17, u18, u19, t1, e1, s1⟩ := lc10 s0
        obtain ⟨u20, u21, u22, u23, u24, u25, u26, u27, u28, u29, t2, e2, s2⟩ := lc10 s1
        obtain ⟨u30, u31, u32, u33, u34, u35, u36, u37, u38, u39, t3, e3, s3⟩ := lc10 s2
        obtain ⟨u40, u41, u42, u43, u44, u45, u46, u47, u48, u49, t4, e4, s4⟩ := lc10 s3
        obtain ⟨u50, u51, u52, u53, u54, u55, u56, u57, u58, u59, t5, e5, s5⟩ := lc10 s4
        obtain ⟨u60, t6, e6, s6⟩ := len_cons s5
        obtain ⟨u61, t7, e7, s7⟩ := len_cons s6
        obtain ⟨u62, t8, e8, s8⟩ := len_cons s7
        obtain ⟨u63, t9, e9, s9⟩ := len_cons s8
        obtain ⟨u64, t10, e10, s10⟩ := len_cons s9
        obtain ⟨u65, t11, e11, s11⟩ := len_cons s10
        obtain ⟨u66, t12, e12, s12⟩ := len_cons s11
        obtain rfl := len_nil s12
        clear hus s0 s1 s2 s3 s4 s5 s6 s7 s8 s9 s10 s11 s12
        subst e12 e11 e10 e9 e8 e7 e6 e5 e4 e3 e2 e1 e0
        have h12 : u12 = .bool false := h 12 (by kernel_rfl)
        clear h
        simp only [over, Act.put, List.setIfInBounds_toArray, List.set_cons_zero, List.set_cons_succ]
        subst h12
        go_wp2_with fail
        exact postK_normal ⟨_, rfl, rfl, Ext.refl _⟩
      refine AllSteps.cons (fun us hus w' x h => ?_) ?_
      · obtain ⟨u0, u1, u2, u3, u4, u5, u6, u7, u8, u9, t0, e0, s0⟩ := lc10 hus
        obtain ⟨u10, u11, u12, u13, u14, u15, u16, u17, u18, u19, t1, e1, s1⟩ := lc10 s0
        obtain ⟨u20, u21, u22, u23, u24, u25, u26, u27, u28, u29, t2, e2, s2⟩ := lc10 s1
        obtain ⟨u30, u31, u32, u33, u34, u35, u36, u37, u38, u39, t3, e3, s3⟩ := lc10 s2
        obtain ⟨u40, u41, u42, u43, u44, u45, u46, u47, u48, u49, t4, e4, s4⟩ := lc10 s3
        obtain ⟨u50, u51, u52, u53, u54, u55, u56, u57, u58, u59, t5, e5, s5⟩ := lc10 s4
        obtain ⟨u60, t6, e6, s6⟩ := len_cons s5
        obtain ⟨u61, t7, e7, s7⟩ := len_cons s6
        obtain ⟨u62, t8, e8, s8⟩ := len_cons s7
        obtain ⟨u63, t9, e9, s9⟩ := len_cons s8
        obtain ⟨u64, t10, e10, s10⟩ := len_cons s9
        obtain ⟨u65, t11, e11, s11⟩ := len_cons s10
        obtain ⟨u66, t12, e12, s12⟩ := len_cons s11
        obtain rfl := len_nil s12
        clear hus s0 s1 s2 s3 s4 s5 s6 s7 s8 s9 s10 s11 s12
        subst e12 e11 e10 e9 e8 e7 e6 e5 e4 e3 e2 e1 e0
        have h19 : u19 = .string (a0 ++ (⟨#[226, 132, 170]⟩ : ByteArray)) := h 19 (by kernel_rfl)
        have h20 : u20 = .string a2 := h 20 (by kernel_rfl)
        have h12 : u12 = .bool false := h 12 (by kernel_rfl)
        clear h
        simp only [over, Act.put, List.setIfInBounds_toArray, List.set_cons_zero, List.set_cons_succ]
        subst h19
        subst h20
        subst h12
        go_wp2_with fail
        exact postK_normal ⟨_, rfl, rfl, Ext.refl _⟩
      refine AllSteps.cons (fun us hus w' x h => ?_) ?_
      · obtain ⟨u0, u1, u2, u3, u4, u5, u6, u7, u8, u9, t0, e0, s0⟩ := lc10 hus
        obtain ⟨u10, u11, u12, u13, u14, u15, u16, u17, u18, u19, t1, e1, s1⟩ := lc10 s0
        obtain ⟨u20, u21, u22, u23, u24, u25, u26, u27, u28, u29, t2, e2, s2⟩ := lc10 s1
        obtain ⟨u30, u31, u32, u33, u34, u35, u36, u37, u38, u39, t3, e3, s3⟩ := lc10 s2
        obtain ⟨u40, u41, u42, u43, u44, u45, u46, u47, u48, u49, t4, e4, s4⟩ := lc10 s3
        obtain ⟨u50, u51, u52, u53, u54, u55, u56, u57, u58, u59, t5, e5, s5⟩ := lc10 s4
        obtain ⟨u60, t6, e6, s6⟩ := len_cons s5
        obtain ⟨u61, t7, e7, s7⟩ := len_cons s6
        obtain ⟨u62, t8, e8, s8⟩ := len_cons s7
        obtain ⟨u63, t9, e9, s9⟩ := len_cons s8
        obtain ⟨u64, t10, e10, s10⟩ := len_cons s9
        obtain ⟨u65, t11, e11, s11⟩ := len_cons s10
        obtain ⟨u66, t12, e12, s12⟩ := len_cons s11
        obtain rfl := len_nil s12
        clear hus s0 s1 s2 s3 s4 s5 s6 s7 s8 s9 s10 s11 s12
        subst e12 e11 e10 e9 e8 e7 e6 e5 e4 e3 e2 e1 e0
        have h21 : u21 = .string (a0 ++ (⟨#[226, 132, 170]⟩ : ByteArray) ++ a2) := h 21 (by kernel_rfl)
        have h12 : u12 = .bool false := h 12 (by kernel_rfl)
        clear h
        simp only [over, Act.put, List.setIfInBounds_toArray, List.set_cons_zero, List.set_cons_succ]
        subst h21
        subst h12
        go_wp2_with (refine wpList_toBytes rfl 9 25 _ rfl 5 Tryd.underlying9 Tryd.underlying25 Tryd.underlying5 _ rfl hsKK ?_)
        intro v5 w5 o5 x5
        go_wp2_with fail
        exact postK_normal ⟨_, rfl, o5.bs, x5⟩
      refine AllSteps.cons (fun us hus w' x h => ?_) ?_
      · obtain ⟨u0, u1, u2, u3, u4, u5, u6, u7, u8, u9, t0, e0, s0⟩ := lc10 hus
        obtain ⟨u10, u11, u12, u13, u14, u15, u16, u17, u18, u19, t1, e1, s1⟩ := lc10 s0
        obtain ⟨u20, u21, u22, u23, u24, u25, u26, u27, u28, u29, t2, e2, s2⟩ := lc10 s1
        obtain ⟨u30, u31, u32, u33, u34, u35, u36, u37, u38, u39, t3, e3, s3⟩ := lc10 s2
        obtain ⟨u40, u41, u42, u43, u44, u45, u46, u47, u48, u49, t4, e4, s4⟩ := lc10 s3
        obtain ⟨u50, u51, u52, u53, u54, u55, u56, u57, u58, u59, t5, e5, s5⟩ := lc10 s4
        obtain ⟨u60, t6, e6, s6⟩ := len_cons s5
        obtain ⟨u61, t7, e7, s7⟩ := len_cons s6
        obtain ⟨u62, t8, e8, s8⟩ := len_cons s7
        obtain ⟨u63, t9, e9, s9⟩ := len_cons s8
        obtain ⟨u64, t10, e10, s10⟩ := len_cons s9
        obtain ⟨u65, t11, e11, s11⟩ := len_cons s10
        obtain ⟨u66, t12, e12, s12⟩ := len_cons s11
        obtain rfl := len_nil s12
        clear hus s0 s1 s2 s3 s4 s5 s6 s7 s8 s9 s10 s11 s12
        subst e12 e11 e10 e9 e8 e7 e6 e5 e4 e3 e2 e1 e0
        have h17 : Bs w' u17 (a0 ++ (⟨#[107]⟩ : ByteArray) ++ a2).data.toList := h 17 (by kernel_rfl)
        have h22 : Bs w' u22 (a0 ++ (⟨#[226, 132, 170]⟩ : ByteArray) ++ a2).data.toList := h 22 (by kernel_rfl)
        have h12 : u12 = .bool false := h 12 (by kernel_rfl)
        clear h
        simp only [over, Act.put, List.setIfInBounds_toArray, List.set_cons_zero, List.set_cons_succ]
        subst h12
        have c5 := impl_EqualFold _ _ _ _ _ h17 h22 (HTb.out.ext x) (HCb.out.ext x)
        rw [HM2.out] at c5
        go_wp2_with (go_at_call 9; refine c5.mono ?_)
        rintro _ w5 ⟨rfl, x5⟩
        go_wp2_with fail
        exact postK_normal ⟨_, rfl, rfl, x5⟩
      refine AllSteps.cons (fun us hus w' x h => ?_) ?_
      · obtain ⟨u0, u1, u2, u3, u4, u5, u6, u7, u8, u9, t0, e0, s0⟩ := lc10 hus
        obtain ⟨u10, u11, u12, u13, u14, u15, u16, u17, u18, u19, t1, e1, s1⟩ := lc10 s0
        obtain ⟨u20, u21, u22, u23, u24, u25, u26, u27, u28, u29, t2, e2, s2⟩ := lc10 s1
        obtain ⟨u30, u31, u32, u33, u34, u35, u36, u37, u38, u39, t3, e3, s3⟩ := lc10 s2
        obtain ⟨u40, u41, u42, u43, u44, u45, u46, u47, u48, u49, t4, e4, s4⟩ := lc10 s3
        obtain ⟨u50, u51, u52, u53, u54, u55, u56, u57, u58, u59, t5, e5, s5⟩ := lc10 s4
        obtain ⟨u60, t6, e6, s6⟩ := len_cons s5
        obtain ⟨u61, t7, e7, s7⟩ := len_cons s6
        obtain ⟨u62, t8, e8, s8⟩ := len_cons s7
        obtain ⟨u63, t9, e9, s9⟩ := len_cons s8
        obtain ⟨u64, t10, e10, s10⟩ := len_cons s9
        obtain ⟨u65, t11, e11, s11⟩ := len_cons s10
        obtain ⟨u66, t12, e12, s12⟩ := len_cons s11
        obtain rfl := len_nil s12
        clear hus s0 s1 s2 s3 s4 s5 s6 s7 s8 s9 s10 s11 s12
        subst e12 e11 e10 e9 e8 e7 e6 e5 e4 e3 e2 e1 e0
        have h23 : u23 = .bool true := h 23 (by kernel_rfl)
        have h12 : u12 = .bool false := h 12 (by kernel_rfl)
        clear h
        simp only [over, Act.put, List.setIfInBounds_toArray, List.set_cons_zero, List.set_cons_succ]
        subst h23
        subst h12
        go_wp2_with fail
        exact postK_normal ⟨_, rfl, rfl, Ext.refl _⟩
      refine AllSteps.cons (fun us hus w' x h => ?_) ?_
      · obtain ⟨u0, u1, u2, u3, u4, u5, u6, u7, u8, u9, t0, e0, s0⟩ := lc10 hus
        obtain ⟨u10, u11, u12, u13, u14, u15, u16, u17, u18, u19, t1, e1, s1⟩ := lc10 s0
        obtain ⟨u20, u21, u22, u23, u24, u25, u26, u27, u28, u29, t2, e2, s2⟩ := lc10 s1
        obtain ⟨u30, u31, u32, u33, u34, u35, u36, u37, u38, u39, t3, e3, s3⟩ := lc10 s2
        obtain ⟨u40, u41, u42, u43, u44, u45, u46, u47, u48, u49, t4, e4, s4⟩ := lc10 s3
        obtain ⟨u50, u51, u52, u53, u54, u55, u56, u57, u58, u59, t5, e5, s5⟩ := lc10 s4
        obtain ⟨u60, t6, e6, s6⟩ := len_cons s5
        obtain ⟨u61, t7, e7, s7⟩ := len_cons s6
        obtain ⟨u62, t8, e8, s8⟩ := len_cons s7
        obtain ⟨u63, t9, e9, s9⟩ := len_cons s8
        obtain ⟨u64, t10, e10, s10⟩ := len_cons s9
        obtain ⟨u65, t11, e11, s11⟩ := len_cons s10
        obtain ⟨u66, t12, e12, s12⟩ := len_cons s11
        obtain rfl := len_nil s12
        clear hus s0 s1 s2 s3 s4 s5 s6 s7 s8 s9 s10 s11 s12
        subst e12 e11 e10 e9 e8 e7 e6 e5 e4 e3 e2 e1 e0
        have h12 : u12 = .bool false := h 12 (by kernel_rfl)
        have h24 : u24 = .bool false := h 24 (by kernel_rfl)
        clear h
        simp only [over, Act.put, List.setIfInBounds_toArray, List.set_cons_zero, List.set_cons_succ]
        subst h12
        subst h24
        go_wp2_with fail
        exact postK_normal ⟨_, rfl, rfl, Ext.refl _⟩
      refine AllSteps.cons (fun us hus w' x h => ?_) ?_
      · obtain ⟨u0, u1, u2, u3, u4, u5, u6, u7, u8, u9, t0, e0, s0⟩ := lc10 hus
        obtain ⟨u10, u11, u12, u13, u14, u15, u16, u17, u18, u19, t1, e1, s1⟩ := lc10 s0
        obtain ⟨u20, u21, u22, u23, u24, u25, u26, u27, u28, u29, t2, e2, s2⟩ := lc10 s1
        obtain ⟨u30, u31, u32, u33, u34, u35, u36, u37, u38, u39, t3, e3, s3⟩ := lc10 s2
        obtain ⟨u40, u41, u42, u43, u44, u45, u46, u47, u48, u49, t4, e4, s4⟩ := lc10 s3
        obtain ⟨u50, u51, u52, u53, u54, u55, u56, u57, u58, u59, t5, e5, s5⟩ := lc10 s4
        obtain ⟨u60, t6, e6, s6⟩ := len_cons s5
        obtain ⟨u61, t7, e7, s7⟩ := len_cons s6
        obtain ⟨u62, t8, e8, s8⟩ := len_cons s7
        obtain ⟨u63, t9, e9, s9⟩ := len_cons s8
        obtain ⟨u64, t10, e10, s10⟩ := len_cons s9
        obtain ⟨u65, t11, e11, s11⟩ := len_cons s10
        obtain ⟨u66, t12, e12, s12⟩ := len_cons s11
        obtain rfl := len_nil s12
        clear hus s0 s1 s2 s3 s4 s5 s6 s7 s8 s9 s10 s11 s12
        subst e12 e11 e10 e9 e8 e7 e6 e5 e4 e3 e2 e1 e0
        have h25 : u25 = .bool false := h 25 (by kernel_rfl)
        clear h
        simp only [over, Act.put, List.setIfInBounds_toArray, List.set_cons_zero, List.set_cons_succ]
        subst h25
        go_wp2_with fail
        exact postK_normal ⟨_, rfl, rfl, Ext.refl _⟩
      refine AllSteps.cons (fun us hus w' x h => ?_) ?_
      · obtain ⟨u0, u1, u2, u3, u4, u5, u6, u7, u8, u9, t0, e0, s0⟩ := lc10 hus
        obtain ⟨u10, u11, u12, u13, u14, u15, u16, u17, u18, u19, t1, e1, s1⟩ := lc10 s0
        obtain ⟨u20, u21, u22, u23, u24, u25, u26, u27, u28, u29, t2, e2, s2⟩ := lc10 s1
        obtain ⟨u30, u31, u32, u33, u34, u35, u36, u37, u38, u39, t3, e3, s3⟩ := lc10 s2
        obtain ⟨u40, u41, u42, u43, u44, u45, u46, u47, u48, u49, t4, e4, s4⟩ := lc10 s3
        obtain ⟨u50, u51, u52, u53, u54, u55, u56, u57, u58, u59, t5, e5, s5⟩ := lc10 s4
        obtain ⟨u60, t6, e6, s6⟩ := len_cons s5
        obtain ⟨u61, t7, e7, s7⟩ := len_cons s6
        obtain ⟨u62, t8, e8, s8⟩ := len_cons s7
        obtain ⟨u63, t9, e9, s9⟩ := len_cons s8
        obtain ⟨u64, t10, e10, s10⟩ := len_cons s9
        obtain ⟨u65, t11, e11, s11⟩ := len_cons s10
        obtain ⟨u66, t12, e12, s12⟩ := len_cons s11
        obtain rfl := len_nil s12
        clear hus s0 s1 s2 s3 s4 s5 s6 s7 s8 s9 s10 s11 s12
        subst e12 e11 e10 e9 e8 e7 e6 e5 e4 e3 e2 e1 e0
        have h26 : u26 = .bool false := h 26 (by kernel_rfl)
        clear h
        simp only [over, Act.put, List.setIfInBounds_toArray, List.set_cons_zero, List.set_cons_succ]
        subst h26
        go_wp2_with fail
        exact postK_normal ⟨_, rfl, rfl, Ext.refl _⟩
      refine AllSteps.cons (fun us hus w' x h => ?_) ?_
      · obtain ⟨u0, u1, u2, u3, u4, u5, u6, u7, u8, u9, t0, e0, s0⟩ := lc10 hus
        obtain ⟨u10, u11, u12, u13, u14, u15, u16, u17, u18, u19, t1, e1, s1⟩ := lc10 s0
        obtain ⟨u20, u21, u22, u23, u24, u25, u26, u27, u28, u29, t2, e2, s2⟩ := lc10 s1
        obtain ⟨u30, u31, u32, u33, u34, u35, u36, u37, u38, u39, t3, e3, s3⟩ := lc10 s2
        obtain ⟨u40, u41, u42, u43, u44, u45, u46, u47, u48, u49, t4, e4, s4⟩ := lc10 s3
        obtain ⟨u50, u51, u52, u53, u54, u55, u56, u57, u58, u59, t5, e5, s5⟩ := lc10 s4
        obtain ⟨u60, t6, e6, s6⟩ := len_cons s5
        obtain ⟨u61, t7, e7, s7⟩ := len_cons s6
        obtain ⟨u62, t8, e8, s8⟩ := len_cons s7
        obtain ⟨u63, t9, e9, s9⟩ := len_cons s8
        obtain ⟨u64, t10, e10, s10⟩ := len_cons s9
        obtain ⟨u65, t11, e11, s11⟩ := len_cons s10
        obtain ⟨u66, t12, e12, s12⟩ := len_cons s11
        obtain rfl := len_nil s12
        clear hus s0 s1 s2 s3 s4 s5 s6 s7 s8 s9 s10 s11 s12
        subst e12 e11 e10 e9 e8 e7 e6 e5 e4 e3 e2 e1 e0
        have h27 : u27 = .string a0 := h 27 (by kernel_rfl)
        have h26 : u26 = .bool false := h 26 (by kernel_rfl)
        clear h
        simp only [over, Act.put, List.setIfInBounds_toArray, List.set_cons_zero, List.set_cons_succ]
        subst h27
        subst h26
        go_wp2_with fail
        exact postK_normal ⟨_, rfl, rfl, Ext.refl _⟩
      refine AllSteps.cons (fun us hus w' x h => ?_) ?_
      · obtain ⟨u0, u1, u2, u3, u4, u5, u6, u7, u8, u9, t0, e0, s0⟩ := lc10 hus
        obtain ⟨u10, u11, u12, u13, u14, u15, u16, u17, u18, u19, t1, e1, s1⟩ := lc10 s0
        obtain ⟨u20, u21, u22, u23, u24, u25, u26, u27, u28, u29, t2, e2, s2⟩ := lc10 s1
        obtain ⟨u30, u31, u32, u33, u34, u35, u36, u37, u38, u39, t3, e3, s3⟩ := lc10 s2
        obtain ⟨u40, u41, u42, u43, u44, u45, u46, u47, u48, u49, t4, e4, s4⟩ := lc10 s3
        obtain ⟨u50, u51, u52, u53, u54, u55, u56, u57, u58, u59, t5, e5, s5⟩ := lc10 s4
        obtain ⟨u60, t6, e6, s6⟩ := len_cons s5
        obtain ⟨u61, t7, e7, s7⟩ := len_cons s6
        obtain ⟨u62, t8, e8, s8⟩ := len_cons s7
        obtain ⟨u63, t9, e9, s9⟩ := len_cons s8
        obtain ⟨u64, t10, e10, s10⟩ := len_cons s9
        obtain ⟨u65, t11, e11, s11⟩ := len_cons s10
        obtain ⟨u66, t12, e12, s12⟩ := len_cons s11
        obtain rfl := len_nil s12
        clear hus s0 s1 s2 s3 s4 s5 s6 s7 s8 s9 s10 s11 s12
        subst e12 e11 e10 e9 e8 e7 e6 e5 e4 e3 e2 e1 e0
        have h26 : u26 = .bool false := h 26 (by kernel_rfl)
        clear h
        simp only [over, Act.put, List.setIfInBounds_toArray, List.set_cons_zero, List.set_cons_succ]
        subst h26
        go_wp2_with fail
        exact postK_normal ⟨_, rfl, rfl, Ext.refl _⟩
      refine AllSteps.cons (fun us hus w' x h => ?_) ?_
      · obtain ⟨u0, u1, u2, u3, u4, u5, u6, u7, u8, u9, t0, e0, s0⟩ := lc10 hus
        obtain ⟨u10, u11, u12, u13, u14, u15, u16, u17, u18, u19, t1, e1, s1⟩ := lc10 s0
        obtain ⟨u20, u21, u22, u23, u24, u25, u26, u27, u28, u29, t2, e2, s2⟩ := lc10 s1
        obtain ⟨u30, u31, u32, u33, u34, u35, u36, u37, u38, u39, t3, e3, s3⟩ := lc10 s2
        obtain ⟨u40, u41, u42, u43, u44, u45, u46, u47, u48, u49, t4, e4, s4⟩ := lc10 s3
        obtain ⟨u50, u51, u52, u53, u54, u55, u56, u57, u58, u59, t5, e5, s5⟩ := lc10 s4
        obtain ⟨u60, t6, e6, s6⟩ := len_cons s5
        obtain ⟨u61, t7, e7, s7⟩ := len_cons s6
        obtain ⟨u62, t8, e8, s8⟩ := len_cons s7
        obtain ⟨u63, t9, e9, s9⟩ := len_cons s8
        obtain ⟨u64, t10, e10, s10⟩ := len_cons s9
        obtain ⟨u65, t11, e11, s11⟩ := len_cons s10
        obtain ⟨u66, t12, e12, s12⟩ := len_cons s11
        obtain rfl := len_nil s12
        clear hus s0 s1 s2 s3 s4 s5 s6 s7 s8 s9 s10 s11 s12
        subst e12 e11 e10 e9 e8 e7 e6 e5 e4 e3 e2 e1 e0
        have h28 : u28 = .string (a0 ++ (⟨#[83]⟩ : ByteArray)) := h 28 (by kernel_rfl)
        have h29 : u29 = .string a2 := h 29 (by kernel_rfl)
        have h26 : u26 = .bool false := h 26 (by kernel_rfl)
        clear h
        simp only [over, Act.put, List.setIfInBounds_toArray, List.set_cons_zero, List.set_cons_succ]
        subst h28
        subst h29
        subst h26
        go_wp2_with fail
        exact postK_normal ⟨_, rfl, rfl, Ext.refl _⟩
      refine AllSteps.cons (fun us hus w' x h => ?_) ?_
      · obtain ⟨u0, u1, u2, u3, u4, u5, u6, u7, u8, u9, t0, e0, s0⟩ := lc10 hus
        obtain ⟨u10, u11, u12, u13, u14, u15, u16, u17, u18, u19, t1, e1, s1⟩ := lc10 s0
        obtain ⟨u20, u21, u22, u23, u24, u25, u26, u27, u28, u29, t2, e2, s2⟩ := lc10 s1
        obtain ⟨u30, u31, u32, u33, u34, u35, u36, u37, u38, u39, t3, e3, s3⟩ := lc10 s2
        obtain ⟨u40, u41, u42, u43, u44, u45, u46, u47, u48, u49, t4, e4, s4⟩ := lc10 s3
        obtain ⟨u50, u51, u52, u53, u54, u55, u56, u57, u58, u59, t5, e5, s5⟩ := lc10 s4
        obtain ⟨u60, t6, e6, s6⟩ := len_cons s5
        obtain ⟨u61, t7, e7, s7⟩ := len_cons s6
        obtain ⟨u62, t8, e8, s8⟩ := len_cons s7
        obtain ⟨u63, t9, e9, s9⟩ := len_cons s8
        obtain ⟨u64, t10, e10, s10⟩ := len_cons s9
        obtain ⟨u65, t11, e11, s11⟩ := len_cons s10
        obtain ⟨u66, t12, e12, s12⟩ := len_cons s11
        obtain rfl := len_nil s12
        clear hus s0 s1 s2 s3 s4 s5 s6 s7 s8 s9 s10 s11 s12
        subst e12 e11 e10 e9 e8 e7 e6 e5 e4 e3 e2 e1 e0
        have h30 : u30 = .string (a0 ++ (⟨#[83]⟩ : ByteArray) ++ a2) := h 30 (by kernel_rfl)
        have h26 : u26 = .bool false := h 26 (by kernel_rfl)
        clear h
        simp only [over, Act.put, List.setIfInBounds_toArray, List.set_cons_zero, List.set_cons_succ]
        subst h30
        subst h26
        go_wp2_with (refine wpList_toBytes rfl 9 25 _ rfl 5 Tryd.underlying9 Tryd.underlying25 Tryd.underlying5 _ rfl hsS ?_)
        intro v5 w5 o5 x5
        go_wp2_with fail
        exact postK_normal ⟨_, rfl, o5.bs, x5⟩
      refine AllSteps.cons (fun us hus w' x h => ?_) ?_
      · obtain ⟨u0, u1, u2, u3, u4, u5, u6, u7, u8, u9, t0, e0, s0⟩ := lc10 hus
        obtain ⟨u10, u11, u12, u13, u14, u15, u16, u17, u18, u19, t1, e1, s1⟩ := lc10 s0
        obtain ⟨u20, u21, u22, u23, u24, u25, u26, u27, u28, u29, t2, e2, s2⟩ := lc10 s1
        obtain ⟨u30, u31, u32, u33, u34, u35, u36, u37, u38, u39, t3, e3, s3⟩ := lc10 s2
        obtain ⟨u40, u41, u42, u43, u44, u45, u46, u47, u48, u49, t4, e4, s4⟩ := lc10 s3
        obtain ⟨u50, u51, u52, u53, u54, u55, u56, u57, u58, u59, t5, e5, s5⟩ := lc10 s4
        obtain ⟨u60, t6, e6, s6⟩ := len_cons s5
        obtain ⟨u61, t7, e7, s7⟩ := len_cons s6
        obtain ⟨u62, t8, e8, s8⟩ := len_cons s7
        obtain ⟨u63, t9, e9, s9⟩ := len_cons s8
        obtain ⟨u64, t10, e10, s10⟩ := len_cons s9
        obtain ⟨u65, t11, e11, s11⟩ := len_cons s10
        obtain ⟨u66, t12, e12, s12⟩ := len_cons s11
        obtain rfl := len_nil s12
        clear hus s0 s1 s2 s3 s4 s5 s6 s7 s8 s9 s10 s11 s12
        subst e12 e11 e10 e9 e8 e7 e6 e5 e4 e3 e2 e1 e0
        have h26 : u26 = .bool false := h 26 (by kernel_rfl)
        clear h
        simp only [over, Act.put, List.setIfInBounds_toArray, List.set_cons_zero, List.set_cons_succ]
        subst h26
        go_wp2_with fail
        exact postK_normal ⟨_, rfl, rfl, Ext.refl _⟩
      refine AllSteps.cons (fun us hus w' x h => ?_) ?_
      · obtain ⟨u0, u1, u2, u3, u4, u5, u6, u7, u8, u9, t0, e0, s0⟩ := lc10 hus
        obtain ⟨u10, u11, u12, u13, u14, u15, u16, u17, u18, u19, t1, e1, s1⟩ := lc10 s0
        obtain ⟨u20, u21, u22, u23, u24, u25, u26, u27, u28, u29, t2, e2, s2⟩ := lc10 s1
        obtain ⟨u30, u31, u32, u33, u34, u35, u36, u37, u38, u39, t3, e3, s3⟩ := lc10 s2
        obtain ⟨u40, u41, u42, u43, u44, u45, u46, u47, u48, u49, t4, e4, s4⟩ := lc10 s3
        obtain ⟨u50, u51, u52, u53, u54, u55, u56, u57, u58, u59, t5, e5, s5⟩ := lc10 s4
        obtain ⟨u60, t6, e6, s6⟩ := len_cons s5
        obtain ⟨u61, t7, e7, s7⟩ := len_cons s6
        obtain ⟨u62, t8, e8, s8⟩ := len_cons s7
        obtain ⟨u63, t9, e9, s9⟩ := len_cons s8
        obtain ⟨u64, t10, e10, s10⟩ := len_cons s9
        obtain ⟨u65, t11, e11, s11⟩ := len_cons s10
        obtain ⟨u66, t12, e12, s12⟩ := len_cons s11
        obtain rfl := len_nil s12
        clear hus s0 s1 s2 s3 s4 s5 s6 s7 s8 s9 s10 s11 s12
        subst e12 e11 e10 e9 e8 e7 e6 e5 e4 e3 e2 e1 e0
        have h32 : u32 = .string a0 := h 32 (by kernel_rfl)
        have h26 : u26 = .bool false := h 26 (by kernel_rfl)
        clear h
        simp only [over, Act.put, List.setIfInBounds_toArray, List.set_cons_zero, List.set_cons_succ]
        subst h32
        subst h26
        go_wp2_with fail
        exact postK_normal ⟨_, rfl, rfl, Ext.refl _⟩
      refine AllSteps.cons (fun us hus w' x h => ?_) ?_
      · obtain ⟨u0, u1, u2, u3, u4, u5, u6, u7, u8, u9, t0, e0, s0⟩ := lc10 hus
        obtain ⟨u10, u11, u12, u13, u14, u15, u16, u17, u18, u19, t1, e1, s1⟩ := lc10 s0
        obtain ⟨u20, u21, u22, u23, u24, u25, u26, u27, u28, u29, t2, e2, s2⟩ := lc10 s1
        obtain ⟨u30, u31, u32, u33, u34, u35, u36, u37, u38, u39, t3, e3, s3⟩ := lc10 s2
        obtain ⟨u40, u41, u42, u43, u44, u45, u46, u47, u48, u49, t4, e4, s4⟩ := lc10 s3
        obtain ⟨u50, u51, u52, u53, u54, u55, u56, u57, u58, u59, t5, e5, s5⟩ := lc10 s4
        obtain ⟨u60, t6, e6, s6⟩ := len_cons s5
        obtain ⟨u61, t7, e7, s7⟩ := len_cons s6
        obtain ⟨u62, t8, e8, s8⟩ := len_cons s7
        obtain ⟨u63, t9, e9, s9⟩ := len_cons s8
        obtain ⟨u64, t10, e10, s10⟩ := len_cons s9
        obtain ⟨u65, t11, e11, s11⟩ := len_cons s10
        obtain ⟨u66, t12, e12, s12⟩ := len_cons s11
        obtain rfl := len_nil s12
        clear hus s0 s1 s2 s3 s4 s5 s6 s7 s8 s9 s10 s11 s12
        subst e12 e11 e10 e9 e8 e7 e6 e5 e4 e3 e2 e1 e0
        have h26 : u26 = .bool false := h 26 (by kernel_rfl)
        clear h
        simp only [over, Act.put, List.setIfInBounds_toArray, List.set_cons_zero, List.set_cons_succ]
        subst h26
        go_wp2_with fail
        exact postK_normal ⟨_, rfl, rfl, Ext.refl _⟩
      refine AllSteps.cons (fun us hus w' x h => ?_) ?_
      · obtain ⟨u0, u1, u2, u3, u4, u5, u6, u7, u8, u9, t0, e0, s0⟩ := lc10 hus
        obtain ⟨u10, u11, u12, u13, u14, u15, u16, u17, u18, u19, t1, e1, s1⟩ := lc10 s0
        obtain ⟨u20, u21, u22, u23, u24, u25, u26, u27, u28, u29, t2, e2, s2⟩ := lc10 s1
        obtain ⟨u30, u31, u32, u33, u34, u35, u36, u37, u38, u39, t3, e3, s3⟩ := lc10 s2
        obtain ⟨u40, u41, u42, u43, u44, u45, u46, u47, u48, u49, t4, e4, s4⟩ := lc10 s3
        obtain ⟨u50, u51, u52, u53, u54, u55, u56, u57, u58, u59, t5, e5, s5⟩ := lc10 s4
        obtain ⟨u60, t6, e6, s6⟩ := len_cons s5
        obtain ⟨u61, t7, e7, s7⟩ := len_cons s6
        obtain ⟨u62, t8, e8, s8⟩ := len_cons s7
        obtain ⟨u63, t9, e9, s9⟩ := len_cons s8
        obtain ⟨u64, t10, e10, s10⟩ := len_cons s9
        obtain ⟨u65, t11, e11, s11⟩ := len_cons s10
        obtain ⟨u66, t12, e12, s12⟩ := len_cons s11
        obtain rfl := len_nil s12
        clear hus s0 s1 s2 s3 s4 s5 s6 s7 s8 s9 s10 s11 s12
        subst e12 e11 e10 e9 e8 e7 e6 e5 e4 e3 e2 e1 e0
        have h33 : u33 = .string (a0 ++ (⟨#[197, 191]⟩ : ByteArray)) := h 33 (by kernel_rfl)
        have h34 : u34 = .string a2 := h 34 (by kernel_rfl)
        have h26 : u26 = .bool false := h 26 (by kernel_rfl)
        clear h
        simp only [over, Act.put, List.setIfInBounds_toArray, List.set_cons_zero, List.set_cons_succ]
        subst h33
        subst h34
        subst h26
        go_wp2_with fail
        exact postK_normal ⟨_, rfl, rfl, Ext.refl _⟩
      refine AllSteps.cons (fun us hus w' x h => ?_) ?_
      · obtain ⟨u0, u1, u2, u3, u4, u5, u6, u7, u8, u9, t0, e0, s0⟩ := lc10 hus
        obtain ⟨u10, u11, u12, u13, u14, u15, u16, u17, u18, u19, t1, e1, s1⟩ := lc10 s0
        obtain ⟨u20, u21, u22, u23, u24, u25, u26, u27, u28, u29, t2, e2, s2⟩ := lc10 s1
        obtain ⟨u30, u31, u32, u33, u34, u35, u36, u37, u38, u39, t3, e3, s3⟩ := lc10 s2
        obtain ⟨u40, u41, u42, u43, u44, u45, u46, u47, u48, u49, t4, e4, s4⟩ := lc10 s3
        obtain ⟨u50, u51, u52, u53, u54, u55, u56, u57, u58, u59, t5, e5, s5⟩ := lc10 s4
        obtain ⟨u60, t6, e6, s6⟩ := len_cons s5
        obtain ⟨u61, t7, e7, s7⟩ := len_cons s6
        obtain ⟨u62, t8, e8, s8⟩ := len_cons s7
        obtain ⟨u63, t9, e9, s9⟩ := len_cons s8
        obtain ⟨u64, t10, e10, s10⟩ := len_cons s9
        obtain ⟨u65, t11, e11, s11⟩ := len_cons s10
        obtain ⟨u66, t12, e12, s12⟩ := len_cons s11
        obtain rfl := len_nil s12
        clear hus s0 s1 s2 s3 s4 s5 s6 s7 s8 s9 s10 s11 s12
        subst e12 e11 e10 e9 e8 e7 e6 e5 e4 e3 e2 e1 e0
        have h35 : u35 = .string (a0 ++ (⟨#[197, 191]⟩ : ByteArray) ++ a2) := h 35 (by kernel_rfl)
        have h26 : u26 = .bool false := h 26 (by kernel_rfl)
        clear h
        simp only [over, Act.put, List.setIfInBounds_toArray, List.set_cons_zero, List.set_cons_succ]
        subst h35
        subst h26
        go_wp2_with (refine wpList_toBytes rfl 9 25 _ rfl 5 Tryd.underlying9 Tryd.underlying25 Tryd.underlying5 _ rfl hss ?_)
        intro v5 w5 o5 x5
        go_wp2_with fail
        exact postK_normal ⟨_, rfl, o5.bs, x5⟩
      refine AllSteps.cons (fun us hus w' x h => ?_) ?_
      · obtain ⟨u0, u1, u2, u3, u4, u5, u6, u7, u8, u9, t0, e0, s0⟩ := lc10 hus
        obtain ⟨u10, u11, u12, u13, u14, u15, u16, u17, u18, u19, t1, e1, s1⟩ := lc10 s0
        obtain ⟨u20, u21, u22, u23, u24, u25, u26, u27, u28, u29, t2, e2, s2⟩ := lc10 s1
        obtain ⟨u30, u31, u32, u33, u34, u35, u36, u37, u38, u39, t3, e3, s3⟩ := lc10 s2
        obtain ⟨u40, u41, u42, u43, u44, u45, u46, u47, u48, u49, t4, e4, s4⟩ := lc10 s3
        obtain ⟨u50, u51, u52, u53, u54, u55, u56, u57, u58, u59, t5, e5, s5⟩ := lc10 s4
        obtain ⟨u60, t6, e6, s6⟩ := len_cons s5
        obtain ⟨u61, t7, e7, s7⟩ := len_cons s6
        obtain ⟨u62, t8, e8, s8⟩ := len_cons s7
        obtain ⟨u63, t9, e9, s9⟩ := len_cons s8
        obtain ⟨u64, t10, e10, s10⟩ := len_cons s9
        obtain ⟨u65, t11, e11, s11⟩ := len_cons s10
        obtain ⟨u66, t12, e12, s12⟩ := len_cons s11
        obtain rfl := len_nil s12
        clear hus s0 s1 s2 s3 s4 s5 s6 s7 s8 s9 s10 s11 s12
        subst e12 e11 e10 e9 e8 e7 e6 e5 e4 e3 e2 e1 e0
        have h31 : Bs w' u31 (a0 ++ (⟨#[83]⟩ : ByteArray) ++ a2).data.toList := h 31 (by kernel_rfl)
        have h36 : Bs w' u36 (a0 ++ (⟨#[197, 191]⟩ : ByteArray) ++ a2).data.toList := h 36 (by kernel_rfl)
        have h26 : u26 = .bool false := h 26 (by kernel_rfl)
        clear h
        simp only [over, Act.put, List.setIfInBounds_toArray, List.set_cons_zero, List.set_cons_succ]
        subst h26
        have c5 := impl_EqualFold _ _ _ _ _ h31 h36 (HTb.out.ext x) (HCb.out.ext x)
        rw [HM3.out] at c5
        go_wp2_with (go_at_call 9; refine c5.mono ?_)
        rintro _ w5 ⟨rfl, x5⟩
        go_wp2_with fail
        exact postK_normal ⟨_, rfl, rfl, x5⟩
      refine AllSteps.cons (fun us hus w' x h => ?_) ?_
      · obtain ⟨u0, u1, u2, u3, u4, u5, u6, u7, u8, u9, t0, e0, s0⟩ := lc10 hus
        obtain ⟨u10, u11, u12, u13, u14, u15, u16, u17, u18, u19, t1, e1, s1⟩ := lc10 s0
        obtain ⟨u20, u21, u22, u23, u24, u25, u26, u27, u28, u29, t2, e2, s2⟩ := lc10 s1
        obtain ⟨u30, u31, u32, u33, u34, u35, u36, u37, u38, u39, t3, e3, s3⟩ := lc10 s2
        obtain ⟨u40, u41, u42, u43, u44, u45, u46, u47, u48, u49, t4, e4, s4⟩ := lc10 s3
        obtain ⟨u50, u51, u52, u53, u54, u55, u56, u57, u58, u59, t5, e5, s5⟩ := lc10 s4
        obtain ⟨u60, t6, e6, s6⟩ := len_cons s5
        obtain ⟨u61, t7, e7, s7⟩ := len_cons s6
        obtain ⟨u62, t8, e8, s8⟩ := len_cons s7
        obtain ⟨u63, t9, e9, s9⟩ := len_cons s8
        obtain ⟨u64, t10, e10, s10⟩ := len_cons s9
        obtain ⟨u65, t11, e11, s11⟩ := len_cons s10
        obtain ⟨u66, t12, e12, s12⟩ := len_cons s11
        obtain rfl := len_nil s12
        clear hus s0 s1 s2 s3 s4 s5 s6 s7 s8 s9 s10 s11 s12
        subst e12 e11 e10 e9 e8 e7 e6 e5 e4 e3 e2 e1 e0
        have h37 : u37 = .bool true := h 37 (by kernel_rfl)
        have h26 : u26 = .bool false := h 26 (by kernel_rfl)
        clear h
        simp only [over, Act.put, List.setIfInBounds_toArray, List.set_cons_zero, List.set_cons_succ]
        subst h37
        subst h26
        go_wp2_with fail
        exact postK_normal ⟨_, rfl, rfl, Ext.refl _⟩
      refine AllSteps.cons (fun us hus w' x h => ?_) ?_
      · obtain ⟨u0, u1, u2, u3, u4, u5, u6, u7, u8, u9, t0, e0, s0⟩ := lc10 hus
        obtain ⟨u10, u11, u12, u13, u14, u15, u16, u17, u18, u19, t1, e1, s1⟩ := lc10 s0
        obtain ⟨u20, u21, u22, u23, u24, u25, u26, u27, u28, u29, t2, e2, s2⟩ := lc10 s1
        obtain ⟨u30, u31, u32, u33, u34, u35, u36, u37, u38, u39, t3, e3, s3⟩ := lc10 s2
        obtain ⟨u40, u41, u42, u43, u44, u45, u46, u47, u48, u49, t4, e4, s4⟩ := lc10 s3
        obtain ⟨u50, u51, u52, u53, u54, u55, u56, u57, u58, u59, t5, e5, s5⟩ := lc10 s4
        obtain ⟨u60, t6, e6, s6⟩ := len_cons s5
        obtain ⟨u61, t7, e7, s7⟩ := len_cons s6
        obtain ⟨u62, t8, e8, s8⟩ := len_cons s7
        obtain ⟨u63, t9, e9, s9⟩ := len_cons s8
        obtain ⟨u64, t10, e10, s10⟩ := len_cons s9
        obtain ⟨u65, t11, e11, s11⟩ := len_cons s10
        obtain ⟨u66, t12, e12, s12⟩ := len_cons s11
        obtain rfl := len_nil s12
        clear hus s0 s1 s2 s3 s4 s5 s6 s7 s8 s9 s10 s11 s12
        subst e12 e11 e10 e9 e8 e7 e6 e5 e4 e3 e2 e1 e0
        have h26 : u26 = .bool false := h 26 (by kernel_rfl)
        have h38 : u38 = .bool false := h 38 (by kernel_rfl)
        clear h
        simp only [over, Act.put, List.setIfInBounds_toArray, List.set_cons_zero, List.set_cons_succ]
        subst h26
        subst h38
        go_wp2_with fail
        exact postK_normal ⟨_, rfl, rfl, Ext.refl _⟩
      refine AllSteps.cons (fun us hus w' x h => ?_) ?_
      · obtain ⟨u0, u1, u2, u3, u4, u5, u6, u7, u8, u9, t0, e0, s0⟩ := lc10 hus
        obtain ⟨u10, u11, u12, u13, u14, u15, u16, u17, u18, u19, t1, e1, s1⟩ := lc10 s0
        obtain ⟨u20, u21, u22, u23, u24, u25, u26, u27, u28, u29, t2, e2, s2⟩ := lc10 s1
        obtain ⟨u30, u31, u32, u33, u34, u35, u36, u37, u38, u39, t3, e3, s3⟩ := lc10 s2
        obtain ⟨u40, u41, u42, u43, u44, u45, u46, u47, u48, u49, t4, e4, s4⟩ := lc10 s3
        obtain ⟨u50, u51, u52, u53, u54, u55, u56, u57, u58, u59, t5, e5, s5⟩ := lc10 s4
        obtain ⟨u60, t6, e6, s6⟩ := len_cons s5
        obtain ⟨u61, t7, e7, s7⟩ := len_cons s6
        obtain ⟨u62, t8, e8, s8⟩ := len_cons s7
        obtain ⟨u63, t9, e9, s9⟩ := len_cons s8
        obtain ⟨u64, t10, e10, s10⟩ := len_cons s9
        obtain ⟨u65, t11, e11, s11⟩ := len_cons s10
        obtain ⟨u66, t12, e12, s12⟩ := len_cons s11
        obtain rfl := len_nil s12
        clear hus s0 s1 s2 s3 s4 s5 s6 s7 s8 s9 s10 s11 s12
        subst e12 e11 e10 e9 e8 e7 e6 e5 e4 e3 e2 e1 e0
        have h39 : u39 = .bool false := h 39 (by kernel_rfl)
        clear h
        simp only [over, Act.put, List.setIfInBounds_toArray, List.set_cons_zero, List.set_cons_succ]
        subst h39
        go_wp2_with fail
        exact postK_normal ⟨_, rfl, rfl, Ext.refl _⟩
      refine AllSteps.cons (fun us hus w' x h => ?_) ?_
      · obtain ⟨u0, u1, u2, u3, u4, u5, u6, u7, u8, u9, t0, e0, s0⟩ := lc10 hus
        obtain ⟨u10, u11, u12, u13, u14, u15, u16, u17, u18, u19, t1, e1, s1⟩ := lc10 s0
        obtain ⟨u20, u21, u22, u23, u24, u25, u26, u27, u28, u29, t2, e2, s2⟩ := lc10 s1
        obtain ⟨u30, u31, u32, u33, u34, u35, u36, u37, u38, u39, t3, e3, s3⟩ := lc10 s2
        obtain ⟨u40, u41, u42, u43, u44, u45, u46, u47, u48, u49, t4, e4, s4⟩ := lc10 s3
        obtain ⟨u50, u51, u52, u53, u54, u55, u56, u57, u58, u59, t5, e5, s5⟩ := lc10 s4
        obtain ⟨u60, t6, e6, s6⟩ := len_cons s5
        obtain ⟨u61, t7, e7, s7⟩ := len_cons s6
        obtain ⟨u62, t8, e8, s8⟩ := len_cons s7
        obtain ⟨u63, t9, e9, s9⟩ := len_cons s8
        obtain ⟨u64, t10, e10, s10⟩ := len_cons s9
        obtain ⟨u65, t11, e11, s11⟩ := len_cons s10
        obtain ⟨u66, t12, e12, s12⟩ := len_cons s11
        obtain rfl := len_nil s12
        clear hus s0 s1 s2 s3 s4 s5 s6 s7 s8 s9 s10 s11 s12
        subst e12 e11 e10 e9 e8 e7 e6 e5 e4 e3 e2 e1 e0
        have h40 : u40 = .bool false := h 40 (by kernel_rfl)
        clear h
        simp only [over, Act.put, List.setIfInBounds_toArray, List.set_cons_zero, List.set_cons_succ]
        subst h40
        go_wp2_with fail
        exact postK_normal ⟨_, rfl, rfl, Ext.refl _⟩
      refine AllSteps.cons (fun us hus w' x h => ?_) ?_
      · obtain ⟨u0, u1, u2, u3, u4, u5, u6, u7, u8, u9, t0, e0, s0⟩ := lc10 hus
        obtain ⟨u10, u11, u12, u13, u14, u15, u16, u17, u18, u19, t1, e1, s1⟩ := lc10 s0
        obtain ⟨u20, u21, u22, u23, u24, u25, u26, u27, u28, u29, t2, e2, s2⟩ := lc10 s1
        obtain ⟨u30, u31, u32, u33, u34, u35, u36, u37, u38, u39, t3, e3, s3⟩ := lc10 s2
        obtain ⟨u40, u41, u42, u43, u44, u45, u46, u47, u48, u49, t4, e4, s4⟩ := lc10 s3
        obtain ⟨u50, u51, u52, u53, u54, u55, u56, u57, u58, u59, t5, e5, s5⟩ := lc10 s4
        obtain ⟨u60, t6, e6, s6⟩ := len_cons s5
        obtain ⟨u61, t7, e7, s7⟩ := len_cons s6
        obtain ⟨u62, t8, e8, s8⟩ := len_cons s7
        obtain ⟨u63, t9, e9, s9⟩ := len_cons s8
        obtain ⟨u64, t10, e10, s10⟩ := len_cons s9
        obtain ⟨u65, t11, e11, s11⟩ := len_cons s10
        obtain ⟨u66, t12, e12, s12⟩ := len_cons s11
        obtain rfl := len_nil s12
        clear hus s0 s1 s2 s3 s4 s5 s6 s7 s8 s9 s10 s11 s12
        subst e12 e11 e10 e9 e8 e7 e6 e5 e4 e3 e2 e1 e0
        have h41 : u41 = .string a0 := h 41 (by kernel_rfl)
        have h40 : u40 = .bool false := h 40 (by kernel_rfl)
        clear h
        simp only [over, Act.put, List.setIfInBounds_toArray, List.set_cons_zero, List.set_cons_succ]
        subst h41
        subst h40
        go_wp2_with fail
        exact postK_normal ⟨_, rfl, rfl, Ext.refl _⟩
      refine AllSteps.cons (fun us hus w' x h => ?_) ?_
      · obtain ⟨u0, u1, u2, u3, u4, u5, u6, u7, u8, u9, t0, e0, s0⟩ := lc10 hus
        obtain ⟨u10, u11, u12, u13, u14, u15, u16, u17, u18, u19, t1, e1, s1⟩ := lc10 s0
        obtain ⟨u20, u21, u22, u23, u24, u25, u26, u27, u28, u29, t2, e2, s2⟩ := lc10 s1
        obtain ⟨u30, u31, u32, u33, u34, u35, u36, u37, u38, u39, t3, e3, s3⟩ := lc10 s2
        obtain ⟨u40, u41, u42, u43, u44, u45, u46, u47, u48, u49, t4, e4, s4⟩ := lc10 s3
        obtain ⟨u50, u51, u52, u53, u54, u55, u56, u57, u58, u59, t5, e5, s5⟩ := lc10 s4
        obtain ⟨u60, t6, e6, s6⟩ := len_cons s5
        obtain ⟨u61, t7, e7, s7⟩ := len_cons s6
        obtain ⟨u62, t8, e8, s8⟩ := len_cons s7
        obtain ⟨u63, t9, e9, s9⟩ := len_cons s8
        obtain ⟨u64, t10, e10, s10⟩ := len_cons s9
        obtain ⟨u65, t11, e11, s11⟩ := len_cons s10
        obtain ⟨u66, t12, e12, s12⟩ := len_cons s11
        obtain rfl := len_nil s12
        clear hus s0 s1 s2 s3 s4 s5 s6 s7 s8 s9 s10 s11 s12
        subst e12 e11 e10 e9 e8 e7 e6 e5 e4 e3 e2 e1 e0
        have h40 : u40 = .bool false := h 40 (by kernel_rfl)
        clear h
        simp only [over, Act.put, List.setIfInBounds_toArray, List.set_cons_zero, List.set_cons_succ]
        subst h40
        go_wp2_with fail
        exact postK_normal ⟨_, rfl, rfl, Ext.refl _⟩
      refine AllSteps.cons (fun us hus w' x h => ?_) ?_
      · obtain ⟨u0, u1, u2, u3, u4, u5, u6, u7, u8, u9, t0, e0, s0⟩ := lc10 hus
        obtain ⟨u10, u11, u12, u13, u14, u15, u16, u17, u18, u19, t1, e1, s1⟩ := lc10 s0
        obtain ⟨u20, u21, u22, u23, u24, u25, u26, u27, u28, u29, t2, e2, s2⟩ := lc10 s1
        obtain ⟨u30, u31, u32, u33, u34, u35, u36, u37, u38, u39, t3, e3, s3⟩ := lc10 s2
        obtain ⟨u40, u41, u42, u43, u44, u45, u46, u47, u48, u49, t4, e4, s4⟩ := lc10 s3
        obtain ⟨u50, u51, u52, u53, u54, u55, u56, u57, u58, u59, t5, e5, s5⟩ := lc10 s4
        obtain ⟨u60, t6, e6, s6⟩ := len_cons s5
        obtain ⟨u61, t7, e7, s7⟩ := len_cons s6
        obtain ⟨u62, t8, e8, s8⟩ := len_cons s7
        obtain ⟨u63, t9, e9, s9⟩ := len_cons s8
        obtain ⟨u64, t10, e10, s10⟩ := len_cons s9
        obtain ⟨u65, t11, e11, s11⟩ := len_cons s10
        obtain ⟨u66, t12, e12, s12⟩ := len_cons s11
        obtain rfl := len_nil s12
        clear hus s0 s1 s2 s3 s4 s5 s6 s7 s8 s9 s10 s11 s12
        subst e12 e11 e10 e9 e8 e7 e6 e5 e4 e3 e2 e1 e0
        have h42 : u42 = .string (a0 ++ (⟨#[195, 165]⟩ : ByteArray)) := h 42 (by kernel_rfl)
        have h43 : u43 = .string a2 := h 43 (by kernel_rfl)
        have h40 : u40 = .bool false := h 40 (by kernel_rfl)
        clear h
        simp only [over, Act.put, List.setIfInBounds_toArray, List.set_cons_zero, List.set_cons_succ]
        subst h42
        subst h43
        subst h40
        go_wp2_with fail
        exact postK_normal ⟨_, rfl, rfl, Ext.refl _⟩
      refine AllSteps.cons (fun us hus w' x h => ?_) ?_
      · obtain ⟨u0, u1, u2, u3, u4, u5, u6, u7, u8, u9, t0, e0, s0⟩ := lc10 hus
        obtain ⟨u10, u11, u12, u13, u14, u15, u16, u17, u18, u19, t1, e1, s1⟩ := lc10 s0
        obtain ⟨u20, u21, u22, u23, u24, u25, u26, u27, u28, u29, t2, e2, s2⟩ := lc10 s1
        obtain ⟨u30, u31, u32, u33, u34, u35, u36, u37, u38, u39, t3, e3, s3⟩ := lc10 s2
        obtain ⟨u40, u41, u42, u43, u44, u45, u46, u47, u48, u49, t4, e4, s4⟩ := lc10 s3
        obtain ⟨u50, u51, u52, u53, u54, u55, u56, u57, u58, u59, t5, e5, s5⟩ := lc10 s4
        obtain ⟨u60, t6, e6, s6⟩ := len_cons s5
        obtain ⟨u61, t7, e7, s7⟩ := len_cons s6
        obtain ⟨u62, t8, e8, s8⟩ := len_cons s7
        obtain ⟨u63, t9, e9, s9⟩ := len_cons s8
        obtain ⟨u64, t10, e10, s10⟩ := len_cons s9
        obtain ⟨u65, t11, e11, s11⟩ := len_cons s10
        obtain ⟨u66, t12, e12, s12⟩ := len_cons s11
        obtain rfl := len_nil s12
        clear hus s0 s1 s2 s3 s4 s5 s6 s7 s8 s9 s10 s11 s12
        subst e12 e11 e10 e9 e8 e7 e6 e5 e4 e3 e2 e1 e0
        have h44 : u44 = .string (a0 ++ (⟨#[195, 165]⟩ : ByteArray) ++ a2) := h 44 (by kernel_rfl)
        have h40 : u40 = .bool false := h 40 (by kernel_rfl)
        clear h
        simp only [over, Act.put, List.setIfInBounds_toArray, List.set_cons_zero, List.set_cons_succ]
        subst h44
        subst h40
        go_wp2_with (refine wpList_toBytes rfl 9 25 _ rfl 5 Tryd.underlying9 Tryd.underlying25 Tryd.underlying5 _ rfl hsa ?_)
        intro v5 w5 o5 x5
        go_wp2_with fail
        exact postK_normal ⟨_, rfl, o5.bs, x5⟩
      refine AllSteps.cons (fun us hus w' x h => ?_) ?_
      · obtain ⟨u0, u1, u2, u3, u4, u5, u6, u7, u8, u9, t0, e0, s0⟩ := lc10 hus
        obtain ⟨u10, u11, u12, u13, u14, u15, u16, u17, u18, u19, t1, e1, s1⟩ := lc10 s0
        obtain ⟨u20, u21, u22, u23, u24, u25, u26, u27, u28, u29, t2, e2, s2⟩ := lc10 s1
        obtain ⟨u30, u31, u32, u33, u34, u35, u36, u37, u38, u39, t3, e3, s3⟩ := lc10 s2
        obtain ⟨u40, u41, u42, u43, u44, u45, u46, u47, u48, u49, t4, e4, s4⟩ := lc10 s3
        obtain ⟨u50, u51, u52, u53, u54, u55, u56, u57, u58, u59, t5, e5, s5⟩ := lc10 s4
        obtain ⟨u60, t6, e6, s6⟩ := len_cons s5
        obtain ⟨u61, t7, e7, s7⟩ := len_cons s6
        obtain ⟨u62, t8, e8, s8⟩ := len_cons s7
        obtain ⟨u63, t9, e9, s9⟩ := len_cons s8
        obtain ⟨u64, t10, e10, s10⟩ := len_cons s9
        obtain ⟨u65, t11, e11, s11⟩ := len_cons s10
        obtain ⟨u66, t12, e12, s12⟩ := len_cons s11
        obtain rfl := len_nil s12
        clear hus s0 s1 s2 s3 s4 s5 s6 s7 s8 s9 s10 s11 s12
        subst e12 e11 e10 e9 e8 e7 e6 e5 e4 e3 e2 e1 e0
        have h40 : u40 = .bool false := h 40 (by kernel_rfl)
        clear h
        simp only [over, Act.put, List.setIfInBounds_toArray, List.set_cons_zero, List.set_cons_succ]
        subst h40
        go_wp2_with fail
        exact postK_normal ⟨_, rfl, rfl, Ext.refl _⟩
      refine AllSteps.cons (fun us hus w' x h => ?_) ?_
      · obtain ⟨u0, u1, u2, u3, u4, u5, u6, u7, u8, u9, t0, e0, s0⟩ := lc10 hus
        obtain ⟨u10, u11, u12, u13, u14, u15, u16, u17, u18, u19, t1, e1, s1⟩ := lc10 s0
        obtain ⟨u20, u21, u22, u23, u24, u25, u26, u27, u28, u29, t2, e2, s2⟩ := lc10 s1
        obtain ⟨u30, u31, u32, u33, u34, u35, u36, u37, u38, u39, t3, e3, s3⟩ := lc10 s2
        obtain ⟨u40, u41, u42, u43, u44, u45, u46, u47, u48, u49, t4, e4, s4⟩ := lc10 s3
        obtain ⟨u50, u51, u52, u53, u54, u55, u56, u57, u58, u59, t5, e5, s5⟩ := lc10 s4
        obtain ⟨u60, t6, e6, s6⟩ := len_cons s5
        obtain ⟨u61, t7, e7, s7⟩ := len_cons s6
        obtain ⟨u62, t8, e8, s8⟩ := len_cons s7
        obtain ⟨u63, t9, e9, s9⟩ := len_cons s8
        obtain ⟨u64, t10, e10, s10⟩ := len_cons s9
        obtain ⟨u65, t11, e11, s11⟩ := len_cons s10
        obtain ⟨u66, t12, e12, s12⟩ := len_cons s11
        obtain rfl := len_nil s12
        clear hus s0 s1 s2 s3 s4 s5 s6 s7 s8 s9 s10 s11 s12
        subst e12 e11 e10 e9 e8 e7 e6 e5 e4 e3 e2 e1 e0
        have h46 : u46 = .string a0 := h 46 (by kernel_rfl)
        have h40 : u40 = .bool false := h 40 (by kernel_rfl)
        clear h
        simp only [over, Act.put, List.setIfInBounds_toArray, List.set_cons_zero, List.set_cons_succ]
        subst h46
        subst h40
        go_wp2_with fail
        exact postK_normal ⟨_, rfl, rfl, Ext.refl _⟩
      refine AllSteps.cons (fun us hus w' x h => ?_) ?_
      · obtain ⟨u0, u1, u2, u3, u4, u5, u6, u7, u8, u9, t0, e0, s0⟩ := lc10 hus
        obtain ⟨u10, u11, u12, u13, u14, u15, u16, u17, u18, u19, t1, e1, s1⟩ := lc10 s0
        obtain ⟨u20, u21, u22, u23, u24, u25, u26, u27, u28, u29, t2, e2, s2⟩ := lc10 s1
        obtain ⟨u30, u31, u32, u33, u34, u35, u36, u37, u38, u39, t3, e3, s3⟩ := lc10 s2
        obtain ⟨u40, u41, u42, u43, u44, u45, u46, u47, u48, u49, t4, e4, s4⟩ := lc10 s3
        obtain ⟨u50, u51, u52, u53, u54, u55, u56, u57, u58, u59, t5, e5, s5⟩ := lc10 s4
        obtain ⟨u60, t6, e6, s6⟩ := len_cons s5
        obtain ⟨u61, t7, e7, s7⟩ := len_cons s6
        obtain ⟨u62, t8, e8, s8⟩ := len_cons s7
        obtain ⟨u63, t9, e9, s9⟩ := len_cons s8
        obtain ⟨u64, t10, e10, s10⟩ := len_cons s9
        obtain ⟨u65, t11, e11, s11⟩ := len_cons s10
        obtain ⟨u66, t12, e12, s12⟩ := len_cons s11
        obtain rfl := len_nil s12
        clear hus s0 s1 s2 s3 s4 s5 s6 s7 s8 s9 s10 s11 s12
        subst e12 e11 e10 e9 e8 e7 e6 e5 e4 e3 e2 e1 e0
        have h40 : u40 = .bool false := h 40 (by kernel_rfl)
        clear h
        simp only [over, Act.put, List.setIfInBounds_toArray, List.set_cons_zero, List.set_cons_succ]
        subst h40
        go_wp2_with fail
        exact postK_normal ⟨_, rfl, rfl, Ext.refl _⟩
      refine AllSteps.cons (fun us hus w' x h => ?_) ?_
      · obtain ⟨u0, u1, u2, u3, u4, u5, u6, u7, u8, u9, t0, e0, s0⟩ := lc10 hus
        obtain ⟨u10, u11, u12, u13, u14, u15, u16, u17, u18, u19, t1, e1, s1⟩ := lc10 s0
        obtain ⟨u20, u21, u22, u23, u24, u25, u26, u27, u28, u29, t2, e2, s2⟩ := lc10 s1
        obtain ⟨u30, u31, u32, u33, u34, u35, u36, u37, u38, u39, t3, e3, s3⟩ := lc10 s2
        obtain ⟨u40, u41, u42, u43, u44, u45, u46, u47, u48, u49, t4, e4, s4⟩ := lc10 s3
        obtain ⟨u50, u51, u52, u53, u54, u55, u56, u57, u58, u59, t5, e5, s5⟩ := lc10 s4
        obtain ⟨u60, t6, e6, s6⟩ := len_cons s5
        obtain ⟨u61, t7, e7, s7⟩ := len_cons s6
        obtain ⟨u62, t8, e8, s8⟩ := len_cons s7
        obtain ⟨u63, t9, e9, s9⟩ := len_cons s8
        obtain ⟨u64, t10, e10, s10⟩ := len_cons s9
        obtain ⟨u65, t11, e11, s11⟩ := len_cons s10
        obtain ⟨u66, t12, e12, s12⟩ := len_cons s11
        obtain rfl := len_nil s12
        clear hus s0 s1 s2 s3 s4 s5 s6 s7 s8 s9 s10 s11 s12
        subst e12 e11 e10 e9 e8 e7 e6 e5 e4 e3 e2 e1 e0
        have h47 : u47 = .string (a0 ++ (⟨#[226, 132, 171]⟩ : ByteArray)) := h 47 (by kernel_rfl)
        have h48 : u48 = .string a2 := h 48 (by kernel_rfl)
        have h40 : u40 = .bool false := h 40 (by kernel_rfl)
        clear h
        simp only [over, Act.put, List.setIfInBounds_toArray, List.set_cons_zero, List.set_cons_succ]
        subst h47
        subst h48
        subst h40
        go_wp2_with fail
        exact postK_normal ⟨_, rfl, rfl, Ext.refl _⟩
      refine AllSteps.cons (fun us hus w' x h => ?_) ?_
      · obtain ⟨u0, u1, u2, u3, u4, u5, u6, u7, u8, u9, t0, e0, s0⟩ := lc10 hus
        obtain ⟨u10, u11, u12, u13, u14, u15, u16, u17, u18, u19, t1, e1, s1⟩ := lc10 s0
        obtain ⟨u20, u21, u22, u23, u24, u25, u26, u27, u28, u29, t2, e2, s2⟩ := lc10 s1
        obtain ⟨u30, u31, u32, u33, u34, u35, u36, u37, u38, u39, t3, e3, s3⟩ := lc10 s2
        obtain ⟨u40, u41, u42, u43, u44, u45, u46, u47, u48, u49, t4, e4, s4⟩ := lc10 s3
        obtain ⟨u50, u51, u52, u53, u54, u55, u56, u57, u58, u59, t5, e5, s5⟩ := lc10 s4
        obtain ⟨u60, t6, e6, s6⟩ := len_cons s5
        obtain ⟨u61, t7, e7, s7⟩ := len_cons s6
        obtain ⟨u62, t8, e8, s8⟩ := len_cons s7
        obtain ⟨u63, t9, e9, s9⟩ := len_cons s8
        obtain ⟨u64, t10, e10, s10⟩ := len_cons s9
        obtain ⟨u65, t11, e11, s11⟩ := len_cons s10
        obtain ⟨u66, t12, e12, s12⟩ := len_cons s11
        obtain rfl := len_nil s12
        clear hus s0 s1 s2 s3 s4 s5 s6 s7 s8 s9 s10 s11 s12
        subst e12 e11 e10 e9 e8 e7 e6 e5 e4 e3 e2 e1 e0
        have h49 : u49 = .string (a0 ++ (⟨#[226, 132, 171]⟩ : ByteArray) ++ a2) := h 49 (by kernel_rfl)
        have h40 : u40 = .bool false := h 40 (by kernel_rfl)
        clear h
        simp only [over, Act.put, List.setIfInBounds_toArray, List.set_cons_zero, List.set_cons_succ]
        subst h49
        subst h40
        go_wp2_with (refine wpList_toBytes rfl 9 25 _ rfl 5 Tryd.underlying9 Tryd.underlying25 Tryd.underlying5 _ rfl hsA ?_)
        intro v5 w5 o5 x5
        go_wp2_with fail
        exact postK_normal ⟨_, rfl, o5.bs, x5⟩
      refine AllSteps.cons (fun us hus w' x h => ?_) ?_
      · obtain ⟨u0, u1, u2, u3, u4, u5, u6, u7, u8, u9, t0, e0, s0⟩ := lc10 hus
        obtain ⟨u10, u11, u12, u13, u14, u15, u16, u17, u18, u19, t1, e1, s1⟩ := lc10 s0
        obtain ⟨u20, u21, u22, u23, u24, u25, u26, u27, u28, u29, t2, e2, s2⟩ := lc10 s1
        obtain ⟨u30, u31, u32, u33, u34, u35, u36, u37, u38, u39, t3, e3, s3⟩ := lc10 s2
        obtain ⟨u40, u41, u42, u43, u44, u45, u46, u47, u48, u49, t4, e4, s4⟩ := lc10 s3
        obtain ⟨u50, u51, u52, u53, u54, u55, u56, u57, u58, u59, t5, e5, s5⟩ := lc10 s4
        obtain ⟨u60, t6, e6, s6⟩ := len_cons s5
        obtain ⟨u61, t7, e7, s7⟩ := len_cons s6
        obtain ⟨u62, t8, e8, s8⟩ := len_cons s7
        obtain ⟨u63, t9, e9, s9⟩ := len_cons s8
        obtain ⟨u64, t10, e10, s10⟩ := len_cons s9
        obtain ⟨u65, t11, e11, s11⟩ := len_cons s10
        obtain ⟨u66, t12, e12, s12⟩ := len_cons s11
        obtain rfl := len_nil s12
        clear hus s0 s1 s2 s3 s4 s5 s6 s7 s8 s9 s10 s11 s12
        subst e12 e11 e10 e9 e8 e7 e6 e5 e4 e3 e2 e1 e0
        have h45 : Bs w' u45 (a0 ++ (⟨#[195, 165]⟩ : ByteArray) ++ a2).data.toList := h 45 (by kernel_rfl)
        have h50 : Bs w' u50 (a0 ++ (⟨#[226, 132, 171]⟩ : ByteArray) ++ a2).data.toList := h 50 (by kernel_rfl)
        have h40 : u40 = .bool false := h 40 (by kernel_rfl)
        clear h
        simp only [over, Act.put, List.setIfInBounds_toArray, List.set_cons_zero, List.set_cons_succ]
        subst h40
        have c5 := impl_EqualFold _ _ _ _ _ h45 h50 (HTb.out.ext x) (HCb.out.ext x)
        rw [HM4.out] at c5
        go_wp2_with (go_at_call 9; refine c5.mono ?_)
        rintro _ w5 ⟨rfl, x5⟩
        go_wp2_with fail
        exact postK_normal ⟨_, rfl, rfl, x5⟩
      refine AllSteps.cons (fun us hus w' x h => ?_) ?_
      · obtain ⟨u0, u1, u2, u3, u4, u5, u6, u7, u8, u9, t0, e0, s0⟩ := lc10 hus
        obtain ⟨u10, u11, u12, u13, u14, u15, u16, u17, u18, u19, t1, e1, s1⟩ := lc10 s0
        obtain ⟨u20, u21, u22, u23, u24, u25, u26, u27, u28, u29, t2, e2, s2⟩ := lc10 s1
        obtain ⟨u30, u31, u32, u33, u34, u35, u36, u37, u38, u39, t3, e3, s3⟩ := lc10 s2
        obtain ⟨u40, u41, u42, u43, u44, u45, u46, u47, u48, u49, t4, e4, s4⟩ := lc10 s3
        obtain ⟨u50, u51, u52, u53, u54, u55, u56, u57, u58, u59, t5, e5, s5⟩ := lc10 s4
        obtain ⟨u60, t6, e6, s6⟩ := len_cons s5
        obtain ⟨u61, t7, e7, s7⟩ := len_cons s6
        obtain ⟨u62, t8, e8, s8⟩ := len_cons s7
        obtain ⟨u63, t9, e9, s9⟩ := len_cons s8
        obtain ⟨u64, t10, e10, s10⟩ := len_cons s9
        obtain ⟨u65, t11, e11, s11⟩ := len_cons s10
        obtain ⟨u66, t12, e12, s12⟩ := len_cons s11
        obtain rfl := len_nil s12
        clear hus s0 s1 s2 s3 s4 s5 s6 s7 s8 s9 s10 s11 s12
        subst e12 e11 e10 e9 e8 e7 e6 e5 e4 e3 e2 e1 e0
        have h51 : u51 = .bool true := h 51 (by kernel_rfl)
        have h40 : u40 = .bool false := h 40 (by kernel_rfl)
        clear h
        simp only [over, Act.put, List.setIfInBounds_toArray, List.set_cons_zero, List.set_cons_succ]
        subst h51
        subst h40
        go_wp2_with fail
        exact postK_normal ⟨_, rfl, rfl, Ext.refl _⟩
      refine AllSteps.cons (fun us hus w' x h => ?_) ?_
      · obtain ⟨u0, u1, u2, u3, u4, u5, u6, u7, u8, u9, t0, e0, s0⟩ := lc10 hus
        obtain ⟨u10, u11, u12, u13, u14, u15, u16, u17, u18, u19, t1, e1, s1⟩ := lc10 s0
        obtain ⟨u20, u21, u22, u23, u24, u25, u26, u27, u28, u29, t2, e2, s2⟩ := lc10 s1
        obtain ⟨u30, u31, u32, u33, u34, u35, u36, u37, u38, u39, t3, e3, s3⟩ := lc10 s2
        obtain ⟨u40, u41, u42, u43, u44, u45, u46, u47, u48, u49, t4, e4, s4⟩ := lc10 s3
        obtain ⟨u50, u51, u52, u53, u54, u55, u56, u57, u58, u59, t5, e5, s5⟩ := lc10 s4
        obtain ⟨u60, t6, e6, s6⟩ := len_cons s5
        obtain ⟨u61, t7, e7, s7⟩ := len_cons s6
        obtain ⟨u62, t8, e8, s8⟩ := len_cons s7
        obtain ⟨u63, t9, e9, s9⟩ := len_cons s8
        obtain ⟨u64, t10, e10, s10⟩ := len_cons s9
        obtain ⟨u65, t11, e11, s11⟩ := len_cons s10
        obtain ⟨u66, t12, e12, s12⟩ := len_cons s11
        obtain rfl := len_nil s12
        clear hus s0 s1 s2 s3 s4 s5 s6 s7 s8 s9 s10 s11 s12
        subst e12 e11 e10 e9 e8 e7 e6 e5 e4 e3 e2 e1 e0
        have h40 : u40 = .bool false := h 40 (by kernel_rfl)
        have h52 : u52 = .bool false := h 52 (by kernel_rfl)
        clear h
        simp only [over, Act.put, List.setIfInBounds_toArray, List.set_cons_zero, List.set_cons_succ]
        subst h40
        subst h52
        go_wp2_with fail
        exact postK_normal ⟨_, rfl, rfl, Ext.refl _⟩
      refine AllSteps.cons (fun us hus w' x h => ?_) ?_
      · obtain ⟨u0, u1, u2, u3, u4, u5, u6, u7, u8, u9, t0, e0, s0⟩ := lc10 hus
        obtain ⟨u10, u11, u12, u13, u14, u15, u16, u17, u18, u19, t1, e1, s1⟩ := lc10 s0
        obtain ⟨u20, u21, u22, u23, u24, u25, u26, u27, u28, u29, t2, e2, s2⟩ := lc10 s1
        obtain ⟨u30, u31, u32, u33, u34, u35, u36, u37, u38, u39, t3, e3, s3⟩ := lc10 s2
        obtain ⟨u40, u41, u42, u43, u44, u45, u46, u47, u48, u49, t4, e4, s4⟩ := lc10 s3
        obtain ⟨u50, u51, u52, u53, u54, u55, u56, u57, u58, u59, t5, e5, s5⟩ := lc10 s4
        obtain ⟨u60, t6, e6, s6⟩ := len_cons s5
        obtain ⟨u61, t7, e7, s7⟩ := len_cons s6
        obtain ⟨u62, t8, e8, s8⟩ := len_cons s7
        obtain ⟨u63, t9, e9, s9⟩ := len_cons s8
        obtain ⟨u64, t10, e10, s10⟩ := len_cons s9
        obtain ⟨u65, t11, e11, s11⟩ := len_cons s10
        obtain ⟨u66, t12, e12, s12⟩ := len_cons s11
        obtain rfl := len_nil s12
        clear hus s0 s1 s2 s3 s4 s5 s6 s7 s8 s9 s10 s11 s12
        subst e12 e11 e10 e9 e8 e7 e6 e5 e4 e3 e2 e1 e0
        have h53 : u53 = .bool false := h 53 (by kernel_rfl)
        clear h
        simp only [over, Act.put, List.setIfInBounds_toArray, List.set_cons_zero, List.set_cons_succ]
        subst h53
        go_wp2_with fail
        exact postK_normal ⟨_, rfl, rfl, Ext.refl _⟩
      refine AllSteps.cons (fun us hus w' x h => ?_) ?_
      · obtain ⟨u0, u1, u2, u3, u4, u5, u6, u7, u8, u9, t0, e0, s0⟩ := lc10 hus
        obtain ⟨u10, u11, u12, u13, u14, u15, u16, u17, u18, u19, t1, e1, s1⟩ := lc10 s0
        obtain ⟨u20, u21, u22, u23, u24, u25, u26, u27, u28, u29, t2, e2, s2⟩ := lc10 s1
        obtain ⟨u30, u31, u32, u33, u34, u35, u36, u37, u38, u39, t3, e3, s3⟩ := lc10 s2
        obtain ⟨u40, u41, u42, u43, u44, u45, u46, u47, u48, u49, t4, e4, s4⟩ := lc10 s3
        obtain ⟨u50, u51, u52, u53, u54, u55, u56, u57, u58, u59, t5, e5, s5⟩ := lc10 s4
        obtain ⟨u60, t6, e6, s6⟩ := len_cons s5
        obtain ⟨u61, t7, e7, s7⟩ := len_cons s6
        obtain ⟨u62, t8, e8, s8⟩ := len_cons s7
        obtain ⟨u63, t9, e9, s9⟩ := len_cons s8
        obtain ⟨u64, t10, e10, s10⟩ := len_cons s9
        obtain ⟨u65, t11, e11, s11⟩ := len_cons s10
        obtain ⟨u66, t12, e12, s12⟩ := len_cons s11
        obtain rfl := len_nil s12
        clear hus s0 s1 s2 s3 s4 s5 s6 s7 s8 s9 s10 s11 s12
        subst e12 e11 e10 e9 e8 e7 e6 e5 e4 e3 e2 e1 e0
        have h54 : u54 = .bool false := h 54 (by kernel_rfl)
        clear h
        simp only [over, Act.put, List.setIfInBounds_toArray, List.set_cons_zero, List.set_cons_succ]
        subst h54
        go_wp2_with fail
        exact postK_normal ⟨_, rfl, rfl, Ext.refl _⟩
      refine AllSteps.cons (fun us hus w' x h => ?_) ?_
      · obtain ⟨u0, u1, u2, u3, u4, u5, u6, u7, u8, u9, t0, e0, s0⟩ := lc10 hus
        obtain ⟨u10, u11, u12, u13, u14, u15, u16, u17, u18, u19, t1, e1, s1⟩ := lc10 s0
        obtain ⟨u20, u21, u22, u23, u24, u25, u26, u27, u28, u29, t2, e2, s2⟩ := lc10 s1
        obtain ⟨u30, u31, u32, u33, u34, u35, u36, u37, u38, u39, t3, e3, s3⟩ := lc10 s2
        obtain ⟨u40, u41, u42, u43, u44, u45, u46, u47, u48, u49, t4, e4, s4⟩ := lc10 s3
        obtain ⟨u50, u51, u52, u53, u54, u55, u56, u57, u58, u59, t5, e5, s5⟩ := lc10 s4
        obtain ⟨u60, t6, e6, s6⟩ := len_cons s5
        obtain ⟨u61, t7, e7, s7⟩ := len_cons s6
        obtain ⟨u62, t8, e8, s8⟩ := len_cons s7
        obtain ⟨u63, t9, e9, s9⟩ := len_cons s8
        obtain ⟨u64, t10, e10, s10⟩ := len_cons s9
        obtain ⟨u65, t11, e11, s11⟩ := len_cons s10
        obtain ⟨u66, t12, e12, s12⟩ := len_cons s11
        obtain rfl := len_nil s12
        clear hus s0 s1 s2 s3 s4 s5 s6 s7 s8 s9 s10 s11 s12
        subst e12 e11 e10 e9 e8 e7 e6 e5 e4 e3 e2 e1 e0
        have h55 : u55 = .string a0 := h 55 (by kernel_rfl)
        have h54 : u54 = .bool false := h 54 (by kernel_rfl)
        clear h
        simp only [over, Act.put, List.setIfInBounds_toArray, List.set_cons_zero, List.set_cons_succ]
        subst h55
        subst h54
        go_wp2_with fail
        exact postK_normal ⟨_, rfl, rfl, Ext.refl _⟩
      refine AllSteps.cons (fun us hus w' x h => ?_) ?_
      · obtain ⟨u0, u1, u2, u3, u4, u5, u6, u7, u8, u9, t0, e0, s0⟩ := lc10 hus
        obtain ⟨u10, u11, u12, u13, u14, u15, u16, u17, u18, u19, t1, e1, s1⟩ := lc10 s0
        obtain ⟨u20, u21, u22, u23, u24, u25, u26, u27, u28, u29, t2, e2, s2⟩ := lc10 s1
        obtain ⟨u30, u31, u32, u33, u34, u35, u36, u37, u38, u39, t3, e3, s3⟩ := lc10 s2
        obtain ⟨u40, u41, u42, u43, u44, u45, u46, u47, u48, u49, t4, e4, s4⟩ := lc10 s3
        obtain ⟨u50, u51, u52, u53, u54, u55, u56, u57, u58, u59, t5, e5, s5⟩ := lc10 s4
        obtain ⟨u60, t6, e6, s6⟩ := len_cons s5
        obtain ⟨u61, t7, e7, s7⟩ := len_cons s6
        obtain ⟨u62, t8, e8, s8⟩ := len_cons s7
        obtain ⟨u63, t9, e9, s9⟩ := len_cons s8
        obtain ⟨u64, t10, e10, s10⟩ := len_cons s9
        obtain ⟨u65, t11, e11, s11⟩ := len_cons s10
        obtain ⟨u66, t12, e12, s12⟩ := len_cons s11
        obtain rfl := len_nil s12
        clear hus s0 s1 s2 s3 s4 s5 s6 s7 s8 s9 s10 s11 s12
        subst e12 e11 e10 e9 e8 e7 e6 e5 e4 e3 e2 e1 e0
        have h54 : u54 = .bool false := h 54 (by kernel_rfl)
        clear h
        simp only [over, Act.put, List.setIfInBounds_toArray, List.set_cons_zero, List.set_cons_succ]
        subst h54
        go_wp2_with fail
        exact postK_normal ⟨_, rfl, rfl, Ext.refl _⟩
      refine AllSteps.cons (fun us hus w' x h => ?_) ?_
      · obtain ⟨u0, u1, u2, u3, u4, u5, u6, u7, u8, u9, t0, e0, s0⟩ := lc10 hus
        obtain ⟨u10, u11, u12, u13, u14, u15, u16, u17, u18, u19, t1, e1, s1⟩ := lc10 s0
        obtain ⟨u20, u21, u22, u23, u24, u25, u26, u27, u28, u29, t2, e2, s2⟩ := lc10 s1
        obtain ⟨u30, u31, u32, u33, u34, u35, u36, u37, u38, u39, t3, e3, s3⟩ := lc10 s2
        obtain ⟨u40, u41, u42, u43, u44, u45, u46, u47, u48, u49, t4, e4, s4⟩ := lc10 s3
        obtain ⟨u50, u51, u52, u53, u54, u55, u56, u57, u58, u59, t5, e5, s5⟩ := lc10 s4
        obtain ⟨u60, t6, e6, s6⟩ := len_cons s5
        obtain ⟨u61, t7, e7, s7⟩ := len_cons s6
        obtain ⟨u62, t8, e8, s8⟩ := len_cons s7
        obtain ⟨u63, t9, e9, s9⟩ := len_cons s8
        obtain ⟨u64, t10, e10, s10⟩ := len_cons s9
        obtain ⟨u65, t11, e11, s11⟩ := len_cons s10
        obtain ⟨u66, t12, e12, s12⟩ := len_cons s11
        obtain rfl := len_nil s12
        clear hus s0 s1 s2 s3 s4 s5 s6 s7 s8 s9 s10 s11 s12
        subst e12 e11 e10 e9 e8 e7 e6 e5 e4 e3 e2 e1 e0
        have h56 : u56 = .string (a0 ++ (⟨#[107]⟩ : ByteArray)) := h 56 (by kernel_rfl)
        have h57 : u57 = .string a2 := h 57 (by kernel_rfl)
        have h54 : u54 = .bool false := h 54 (by kernel_rfl)
        clear h
        simp only [over, Act.put, List.setIfInBounds_toArray, List.set_cons_zero, List.set_cons_succ]
        subst h56
        subst h57
        subst h54
        go_wp2_with fail
        exact postK_normal ⟨_, rfl, rfl, Ext.refl _⟩
      refine AllSteps.cons (fun us hus w' x h => ?_) ?_
      · obtain ⟨u0, u1, u2, u3, u4, u5, u6, u7, u8, u9, t0, e0, s0⟩ := lc10 hus
        obtain ⟨u10, u11, u12, u13, u14, u15, u16, u17, u18, u19, t1, e1, s1⟩ := lc10 s0
        obtain ⟨u20, u21, u22, u23, u24, u25, u26, u27, u28, u29, t2, e2, s2⟩ := lc10 s1
        obtain ⟨u30, u31, u32, u33, u34, u35, u36, u37, u38, u39, t3, e3, s3⟩ := lc10 s2
        obtain ⟨u40, u41, u42, u43, u44, u45, u46, u47, u48, u49, t4, e4, s4⟩ := lc10 s3
        obtain ⟨u50, u51, u52, u53, u54, u55, u56, u57, u58, u59, t5, e5, s5⟩ := lc10 s4
        obtain ⟨u60, t6, e6, s6⟩ := len_cons s5
        obtain ⟨u61, t7, e7, s7⟩ := len_cons s6
        obtain ⟨u62, t8, e8, s8⟩ := len_cons s7
        obtain ⟨u63, t9, e9, s9⟩ := len_cons s8
        obtain ⟨u64, t10, e10, s10⟩ := len_cons s9
        obtain ⟨u65, t11, e11, s11⟩ := len_cons s10
        obtain ⟨u66, t12, e12, s12⟩ := len_cons s11
        obtain rfl := len_nil s12
        clear hus s0 s1 s2 s3 s4 s5 s6 s7 s8 s9 s10 s11 s12
        subst e12 e11 e10 e9 e8 e7 e6 e5 e4 e3 e2 e1 e0
        have h58 : u58 = .string (a0 ++ (⟨#[107]⟩ : ByteArray) ++ a2) := h 58 (by kernel_rfl)
        have h54 : u54 = .bool false := h 54 (by kernel_rfl)
        clear h
        simp only [over, Act.put, List.setIfInBounds_toArray, List.set_cons_zero, List.set_cons_succ]
        subst h58
        subst h54
        go_wp2_with (refine wpList_toBytes rfl 9 25 _ rfl 5 Tryd.underlying9 Tryd.underlying25 Tryd.underlying5 _ rfl hsk ?_)
        intro v5 w5 o5 x5
        go_wp2_with fail
        exact postK_normal ⟨_, rfl, o5.bs, x5⟩
      refine AllSteps.cons (fun us hus w' x h => ?_) ?_
      · obtain ⟨u0, u1, u2, u3, u4, u5, u6, u7, u8, u9, t0, e0, s0⟩ := lc10 hus
        obtain ⟨u10, u11, u12, u13, u14, u15, u16, u17, u18, u19, t1, e1, s1⟩ := lc10 s0
        obtain ⟨u20, u21, u22, u23, u24, u25, u26, u27, u28, u29, t2, e2, s2⟩ := lc10 s1
        obtain ⟨u30, u31, u32, u33, u34, u35, u36, u37, u38, u39, t3, e3, s3⟩ := lc10 s2
        obtain ⟨u40, u41, u42, u43, u44, u45, u46, u47, u48, u49, t4, e4, s4⟩ := lc10 s3
        obtain ⟨u50, u51, u52, u53, u54, u55, u56, u57, u58, u59, t5, e5, s5⟩ := lc10 s4
        obtain ⟨u60, t6, e6, s6⟩ := len_cons s5
        obtain ⟨u61, t7, e7, s7⟩ := len_cons s6
        obtain ⟨u62, t8, e8, s8⟩ := len_cons s7
        obtain ⟨u63, t9, e9, s9⟩ := len_cons s8
        obtain ⟨u64, t10, e10, s10⟩ := len_cons s9
        obtain ⟨u65, t11, e11, s11⟩ := len_cons s10
        obtain ⟨u66, t12, e12, s12⟩ := len_cons s11
        obtain rfl := len_nil s12
        clear hus s0 s1 s2 s3 s4 s5 s6 s7 s8 s9 s10 s11 s12
        subst e12 e11 e10 e9 e8 e7 e6 e5 e4 e3 e2 e1 e0
        have h54 : u54 = .bool false := h 54 (by kernel_rfl)
        clear h
        simp only [over, Act.put, List.setIfInBounds_toArray, List.set_cons_zero, List.set_cons_succ]
        subst h54
        go_wp2_with fail
        exact postK_normal ⟨_, rfl, rfl, Ext.refl _⟩
      refine AllSteps.cons (fun us hus w' x h => ?_) ?_
      · obtain ⟨u0, u1, u2, u3, u4, u5, u6, u7, u8, u9, t0, e0, s0⟩ := lc10 hus
        obtain ⟨u10, u11, u12, u13, u14, u15, u16, u17, u18, u19, t1, e1, s1⟩ := lc10 s0
        obtain ⟨u20, u21, u22, u23, u24, u25, u26, u27, u28, u29, t2, e2, s2⟩ := lc10 s1
        obtain ⟨u30, u31, u32, u33, u34, u35, u36, u37, u38, u39, t3, e3, s3⟩ := lc10 s2
        obtain ⟨u40, u41, u42, u43, u44, u45, u46, u47, u48, u49, t4, e4, s4⟩ := lc10 s3
        obtain ⟨u50, u51, u52, u53, u54, u55, u56, u57, u58, u59, t5, e5, s5⟩ := lc10 s4
        obtain ⟨u60, t6, e6, s6⟩ := len_cons s5
        obtain ⟨u61, t7, e7, s7⟩ := len_cons s6
        obtain ⟨u62, t8, e8, s8⟩ := len_cons s7
        obtain ⟨u63, t9, e9, s9⟩ := len_cons s8
        obtain ⟨u64, t10, e10, s10⟩ := len_cons s9
        obtain ⟨u65, t11, e11, s11⟩ := len_cons s10
        obtain ⟨u66, t12, e12, s12⟩ := len_cons s11
        obtain rfl := len_nil s12
        clear hus s0 s1 s2 s3 s4 s5 s6 s7 s8 s9 s10 s11 s12
        subst e12 e11 e10 e9 e8 e7 e6 e5 e4 e3 e2 e1 e0
        have h60 : u60 = .string a0 := h 60 (by kernel_rfl)
        have h54 : u54 = .bool false := h 54 (by kernel_rfl)
        clear h
        simp only [over, Act.put, List.setIfInBounds_toArray, List.set_cons_zero, List.set_cons_succ]
        subst h60
        subst h54
        go_wp2_with fail
        exact postK_normal ⟨_, rfl, rfl, Ext.refl _⟩
      refine AllSteps.cons (fun us hus w' x h => ?_) ?_
      · obtain ⟨u0, u1, u2, u3, u4, u5, u6, u7, u8, u9, t0, e0, s0⟩ := lc10 hus
        obtain ⟨u10, u11, u12, u13, u14, u15, u16, u17, u18, u19, t1, e1, s1⟩ := lc10 s0
        obtain ⟨u20, u21, u22, u23, u24, u25, u26, u27, u28, u29, t2, e2, s2⟩ := lc10 s1
        obtain ⟨u30, u31, u32, u33, u34, u35, u36, u37, u38, u39, t3, e3, s3⟩ := lc10 s2
        obtain ⟨u40, u41, u42, u43, u44, u45, u46, u47, u48, u49, t4, e4, s4⟩ := lc10 s3
        obtain ⟨u50, u51, u52, u53, u54, u55, u56, u57, u58, u59, t5, e5, s5⟩ := lc10 s4
        obtain ⟨u60, t6, e6, s6⟩ := len_cons s5
        obtain ⟨u61, t7, e7, s7⟩ := len_cons s6
        obtain ⟨u62, t8, e8, s8⟩ := len_cons s7
        obtain ⟨u63, t9, e9, s9⟩ := len_cons s8
        obtain ⟨u64, t10, e10, s10⟩ := len_cons s9
        obtain ⟨u65, t11, e11, s11⟩ := len_cons s10
        obtain ⟨u66, t12, e12, s12⟩ := len_cons s11
        obtain rfl := len_nil s12
        clear hus s0 s1 s2 s3 s4 s5 s6 s7 s8 s9 s10 s11 s12
        subst e12 e11 e10 e9 e8 e7 e6 e5 e4 e3 e2 e1 e0
        have h54 : u54 = .bool false := h 54 (by kernel_rfl)
        clear h
        simp only [over, Act.put, List.setIfInBounds_toArray, List.set_cons_zero, List.set_cons_succ]
        subst h54
        go_wp2_with fail
        exact postK_normal ⟨_, rfl, rfl, Ext.refl _⟩
      refine AllSteps.cons (fun us hus w' x h => ?_) ?_
      · obtain ⟨u0, u1, u2, u3, u4, u5, u6, u7, u8, u9, t0, e0, s0⟩ := lc10 hus
        obtain ⟨u10, u11, u12, u13, u14, u15, u16, u17, u18, u19, t1, e1, s1⟩ := lc10 s0
        obtain ⟨u20, u21, u22, u23, u24, u25, u26, u27, u28, u29, t2, e2, s2⟩ := lc10 s1
        obtain ⟨u30, u31, u32, u33, u34, u35, u36, u37, u38, u39, t3, e3, s3⟩ := lc10 s2
        obtain ⟨u40, u41, u42, u43, u44, u45, u46, u47, u48, u49, t4, e4, s4⟩ := lc10 s3
        obtain ⟨u50, u51, u52, u53, u54, u55, u56, u57, u58, u59, t5, e5, s5⟩ := lc10 s4
        obtain ⟨u60, t6, e6, s6⟩ := len_cons s5
        obtain ⟨u61, t7, e7, s7⟩ := len_cons s6
        obtain ⟨u62, t8, e8, s8⟩ := len_cons s7
        obtain ⟨u63, t9, e9, s9⟩ := len_cons s8
        obtain ⟨u64, t10, e10, s10⟩ := len_cons s9
        obtain ⟨u65, t11, e11, s11⟩ := len_cons s10
        obtain ⟨u66, t12, e12, s12⟩ := len_cons s11
        obtain rfl := len_nil s12
        clear hus s0 s1 s2 s3 s4 s5 s6 s7 s8 s9 s10 s11 s12
        subst e12 e11 e10 e9 e8 e7 e6 e5 e4 e3 e2 e1 e0
        have h61 : u61 = .string (a0 ++ (⟨#[120]⟩ : ByteArray)) := h 61 (by kernel_rfl)
        have h62 : u62 = .string a2 := h 62 (by kernel_rfl)
        have h54 : u54 = .bool false := h 54 (by kernel_rfl)
        clear h
        simp only [over, Act.put, List.setIfInBounds_toArray, List.set_cons_zero, List.set_cons_succ]
        subst h61
        subst h62
        subst h54
        go_wp2_with fail
        exact postK_normal ⟨_, rfl, rfl, Ext.refl _⟩
      refine AllSteps.cons (fun us hus w' x h => ?_) ?_
      · obtain ⟨u0, u1, u2, u3, u4, u5, u6, u7, u8, u9, t0, e0, s0⟩ := lc10 hus
        obtain ⟨u10, u11, u12, u13, u14, u15, u16, u17, u18, u19, t1, e1, s1⟩ := lc10 s0
        obtain ⟨u20, u21, u22, u23, u24, u25, u26, u27, u28, u29, t2, e2, s2⟩ := lc10 s1
        obtain ⟨u30, u31, u32, u33, u34, u35, u36, u37, u38, u39, t3, e3, s3⟩ := lc10 s2
        obtain ⟨u40, u41, u42, u43, u44, u45, u46, u47, u48, u49, t4, e4, s4⟩ := lc10 s3
        obtain ⟨u50, u51, u52, u53, u54, u55, u56, u57, u58, u59, t5, e5, s5⟩ := lc10 s4
        obtain ⟨u60, t6, e6, s6⟩ := len_cons s5
        obtain ⟨u61, t7, e7, s7⟩ := len_cons s6
        obtain ⟨u62, t8, e8, s8⟩ := len_cons s7
        obtain ⟨u63, t9, e9, s9⟩ := len_cons s8
        obtain ⟨u64, t10, e10, s10⟩ := len_cons s9
        obtain ⟨u65, t11, e11, s11⟩ := len_cons s10
        obtain ⟨u66, t12, e12, s12⟩ := len_cons s11
        obtain rfl := len_nil s12
        clear hus s0 s1 s2 s3 s4 s5 s6 s7 s8 s9 s10 s11 s12
        subst e12 e11 e10 e9 e8 e7 e6 e5 e4 e3 e2 e1 e0
        have h63 : u63 = .string (a0 ++ (⟨#[120]⟩ : ByteArray) ++ a2) := h 63 (by kernel_rfl)
        have h54 : u54 = .bool false := h 54 (by kernel_rfl)
        clear h
        simp only [over, Act.put, List.setIfInBounds_toArray, List.set_cons_zero, List.set_cons_succ]
        subst h63
        subst h54
        go_wp2_with (refine wpList_toBytes rfl 9 25 _ rfl 5 Tryd.underlying9 Tryd.underlying25 Tryd.underlying5 _ rfl hsx ?_)
        intro v5 w5 o5 x5
        go_wp2_with fail
        exact postK_normal ⟨_, rfl, o5.bs, x5⟩
      refine AllSteps.cons (fun us hus w' x h => ?_) ?_
      · obtain ⟨u0, u1, u2, u3, u4, u5, u6, u7, u8, u9, t0, e0, s0⟩ := lc10 hus
        obtain ⟨u10, u11, u12, u13, u14, u15, u16, u17, u18, u19, t1, e1, s1⟩ := lc10 s0
        obtain ⟨u20, u21, u22, u23, u24, u25, u26, u27, u28, u29, t2, e2, s2⟩ := lc10 s1
        obtain ⟨u30, u31, u32, u33, u34, u35, u36, u37, u38, u39, t3, e3, s3⟩ := lc10 s2
        obtain ⟨u40, u41, u42, u43, u44, u45, u46, u47, u48, u49, t4, e4, s4⟩ := lc10 s3
        obtain ⟨u50, u51, u52, u53, u54, u55, u56, u57, u58, u59, t5, e5, s5⟩ := lc10 s4
        obtain ⟨u60, t6, e6, s6⟩ := len_cons s5
        obtain ⟨u61, t7, e7, s7⟩ := len_cons s6
        obtain ⟨u62, t8, e8, s8⟩ := len_cons s7
        obtain ⟨u63, t9, e9, s9⟩ := len_cons s8
        obtain ⟨u64, t10, e10, s10⟩ := len_cons s9
        obtain ⟨u65, t11, e11, s11⟩ := len_cons s10
        obtain ⟨u66, t12, e12, s12⟩ := len_cons s11
        obtain rfl := len_nil s12
        clear hus s0 s1 s2 s3 s4 s5 s6 s7 s8 s9 s10 s11 s12
        subst e12 e11 e10 e9 e8 e7 e6 e5 e4 e3 e2 e1 e0
        have h59 : Bs w' u59 (a0 ++ (⟨#[107]⟩ : ByteArray) ++ a2).data.toList := h 59 (by kernel_rfl)
        have h64 : Bs w' u64 (a0 ++ (⟨#[120]⟩ : ByteArray) ++ a2).data.toList := h 64 (by kernel_rfl)
        have h54 : u54 = .bool false := h 54 (by kernel_rfl)
        clear h
        simp only [over, Act.put, List.setIfInBounds_toArray, List.set_cons_zero, List.set_cons_succ]
        subst h54
        have c5 := impl_EqualFold _ _ _ _ _ h59 h64 (HTb.out.ext x) (HCb.out.ext x)
        rw [HM5.out] at c5
        go_wp2_with (go_at_call 9; refine c5.mono ?_)
        rintro _ w5 ⟨rfl, x5⟩
        go_wp2_with fail
        exact postK_normal ⟨_, rfl, rfl, x5⟩
      refine AllSteps.cons (fun us hus w' x h => ?_) ?_
      · obtain ⟨u0, u1, u2, u3, u4, u5, u6, u7, u8, u9, t0, e0, s0⟩ := lc10 hus
        obtain ⟨u10, u11, u12, u13, u14, u15, u16, u17, u18, u19, t1, e1, s1⟩ := lc10 s0
        obtain ⟨u20, u21, u22, u23, u24, u25, u26, u27, u28, u29, t2, e2, s2⟩ := lc10 s1
        obtain ⟨u30, u31, u32, u33, u34, u35, u36, u37, u38, u39, t3, e3, s3⟩ := lc10 s2
        obtain ⟨u40, u41, u42, u43, u44, u45, u46, u47, u48, u49, t4, e4, s4⟩ := lc10 s3
        obtain ⟨u50, u51, u52, u53, u54, u55, u56, u57, u58, u59, t5, e5, s5⟩ := lc10 s4
        obtain ⟨u60, t6, e6, s6⟩ := len_cons s5
        obtain ⟨u61, t7, e7, s7⟩ := len_cons s6
        obtain ⟨u62, t8, e8, s8⟩ := len_cons s7
        obtain ⟨u63, t9, e9, s9⟩ := len_cons s8
        obtain ⟨u64, t10, e10, s10⟩ := len_cons s9
        obtain ⟨u65, t11, e11, s11⟩ := len_cons s10
        obtain ⟨u66, t12, e12, s12⟩ := len_cons s11
        obtain rfl := len_nil s12
        clear hus s0 s1 s2 s3 s4 s5 s6 s7 s8 s9 s10 s11 s12
        subst e12 e11 e10 e9 e8 e7 e6 e5 e4 e3 e2 e1 e0
        have h54 : u54 = .bool false := h 54 (by kernel_rfl)
        have h65 : u65 = .bool false := h 65 (by kernel_rfl)
        clear h
        simp only [over, Act.put, List.setIfInBounds_toArray, List.set_cons_zero, List.set_cons_succ]
        subst h54
        subst h65
        go_wp2_with fail
        exact postK_normal ⟨_, rfl, rfl, Ext.refl _⟩
      exact AllSteps.nil
    case fin =>
      intro us hus w' x h
      obtain ⟨u0, u1, u2, u3, u4, u5, u6, u7, u8, u9, t0, e0, s0⟩ := lc10 hus
      obtain ⟨u10, u11, u12, u13, u14, u15, u16, u17, u18, u19, t1, e1, s1⟩ := lc10 s0
      obtain ⟨u20, u21, u22, u23, u24, u25, u26, u27, u28, u29, t2, e2, s2⟩ := lc10 s1
      obtain ⟨u30, u31, u32, u33, u34, u35, u36, u37, u38, u39, t3, e3, s3⟩ := lc10 s2
      obtain ⟨u40, u41, u42, u43, u44, u45, u46, u47, u48, u49, t4, e4, s4⟩ := lc10 s3
      obtain ⟨u50, u51, u52, u53, u54, u55, u56, u57, u58, u59, t5, e5, s5⟩ := lc10 s4
      obtain ⟨u60, t6, e6, s6⟩ := len_cons s5
      obtain ⟨u61, t7, e7, s7⟩ := len_cons s6
      obtain ⟨u62, t8, e8, s8⟩ := len_cons s7
      obtain ⟨u63, t9, e9, s9⟩ := len_cons s8
      obtain ⟨u64, t10, e10, s10⟩ := len_cons s9
      obtain ⟨u65, t11, e11, s11⟩ := len_cons s10
      obtain ⟨u66, t12, e12, s12⟩ := len_cons s11
      obtain rfl := len_nil s12
      clear hus s0 s1 s2 s3 s4 s5 s6 s7 s8 s9 s10 s11 s12
      subst e12 e11 e10 e9 e8 e7 e6 e5 e4 e3 e2 e1 e0
      have h66 : u66 = .bool false := h 66 (by decide)
      clear h
      subst h66
      simp only [over, Act.put, List.setIfInBounds_toArray, List.set_cons_zero, List.set_cons_succ]
      go_wp2_with fail
      go_meet
      exact ⟨rfl, x⟩
  case rest =>
    obtain ⟨rfl, x8⟩ := hcut
    have X := HX.out.trans x8
    clear HX x8 HM1 HM2 HM3 HM4 HM5 HTb HCb
    cases E
    · skip
      go_wp2_with (refine wpList_toBytes rfl 9 25 _ rfl 5 Tryd.underlying9 Tryd.underlying25 Tryd.underlying5 _ rfl hm0 ?_)
      intro v10 w10 o10 x10
      have p10 : Bs w10 v10 a0.data.toList := o10.bs
      replace X := X.trans x10
      clear o10 x10
      go_wp2_with (refine wpList_toBytes rfl 9 25 _ rfl 5 Tryd.underlying9 Tryd.underlying25 Tryd.underlying5 _ rfl hm1 ?_)
      intro v11 w11 o11 x11
      have p11 : Bs w11 v11 a1.data.toList := o11.bs
      replace X := X.trans x11
      replace p10 := p10.ext x11
      clear o11 x11
      have c11 := impl_EqualFold _ _ a0.data.toList a1.data.toList _ p10 p11 (HT.out.ext X) (HC.out.ext X)
      rw [HE.out] at c11
      clear p10 p11
      go_wp2_with (go_at_call 9; refine c11.mono ?_)
      rintro _ w12 ⟨rfl, x12⟩
      replace X := X.trans x12
      clear c11 x12
      go_wp2_with fail
      go_ret
      exact ⟨rfl, X.below⟩
    cases F
    · skip
      go_wp2_with (refine wpList_toBytes rfl 9 25 _ rfl 5 Tryd.underlying9 Tryd.underlying25 Tryd.underlying5 _ rfl hm0 ?_)
      intro v10 w10 o10 x10
      have p10 : Bs w10 v10 a0.data.toList := o10.bs
      replace X := X.trans x10
      clear o10 x10
      go_wp2_with (refine wpList_toBytes rfl 9 25 _ rfl 5 Tryd.underlying9 Tryd.underlying25 Tryd.underlying5 _ rfl hm1 ?_)
      intro v11 w11 o11 x11
      have p11 : Bs w11 v11 a1.data.toList := o11.bs
      replace X := X.trans x11
      replace p10 := p10.ext x11
      clear o11 x11
      have c11 := impl_EqualFold _ _ a0.data.toList a1.data.toList _ p10 p11 (HT.out.ext X) (HC.out.ext X)
      rw [HE.out] at c11
      clear p10 p11
      go_wp2_with (go_at_call 9; refine c11.mono ?_)
      rintro _ w12 ⟨rfl, x12⟩
      replace X := X.trans x12
      clear c11 x12
      go_wp2_with (refine wpList_toBytes rfl 9 25 _ rfl 5 Tryd.underlying9 Tryd.underlying25 Tryd.underlying5 _ rfl hm2 ?_)
      intro v13 w13 o13 x13
      have p13 : Bs w13 v13 a2.data.toList := o13.bs
      replace X := X.trans x13
      clear o13 x13
      go_wp2_with (refine wpList_toBytes rfl 9 25 _ rfl 5 Tryd.underlying9 Tryd.underlying25 Tryd.underlying5 _ rfl hm3 ?_)
      intro v14 w14 o14 x14
      have p14 : Bs w14 v14 a3.data.toList := o14.bs
      replace X := X.trans x14
      replace p13 := p13.ext x14
      clear o14 x14
      have c14 := impl_EqualFold _ _ a2.data.toList a3.data.toList _ p13 p14 (HT.out.ext X) (HC.out.ext X)
      rw [HF.out] at c14
      clear p13 p14
      go_wp2_with (go_at_call 9; refine c14.mono ?_)
      rintro _ w15 ⟨rfl, x15⟩
      replace X := X.trans x15
      clear c14 x15
      go_wp2_with fail
      go_ret
      exact ⟨rfl, X.below⟩
    · have HS := Lib.hid (HSUM.out rfl rfl)
      have HL := Lib.hid (HLEN.out rfl)
      obtain ⟨R0, hR0⟩ : ∃ R, runesOf (chunks a0.data.toList) = R := ⟨_, rfl⟩
      obtain ⟨R1, hR1⟩ : ∃ R, runesOf (chunks a1.data.toList) = R := ⟨_, rfl⟩
      simp only [hR0, hR1] at cP0 cP1 HL
      clear hR0 hR1 HSUM HLEN
      go_wp2_with (refine wpList_toBytes rfl 9 25 _ rfl 5 Tryd.underlying9 Tryd.underlying25 Tryd.underlying5 _ rfl hm0 ?_)
      intro v10 w10 o10 x10
      have p10 : Bs w10 v10 a0.data.toList := o10.bs
      replace X := X.trans x10
      clear o10 x10
      go_wp2_with (refine wpList_toBytes rfl 9 25 _ rfl 5 Tryd.underlying9 Tryd.underlying25 Tryd.underlying5 _ rfl hm1 ?_)
      intro v11 w11 o11 x11
      have p11 : Bs w11 v11 a1.data.toList := o11.bs
      replace X := X.trans x11
      replace p10 := p10.ext x11
      clear o11 x11
      have c11 := impl_EqualFold _ _ a0.data.toList a1.data.toList _ p10 p11 (HT.out.ext X) (HC.out.ext X)
      rw [HE.out] at c11
      clear p10 p11
      go_wp2_with (go_at_call 9; refine c11.mono ?_)
      rintro _ w12 ⟨rfl, x12⟩
      replace X := X.trans x12
      clear c11 x12
      go_wp2_with (refine wpList_toBytes rfl 9 25 _ rfl 5 Tryd.underlying9 Tryd.underlying25 Tryd.underlying5 _ rfl hm2 ?_)
      intro v13 w13 o13 x13
      have p13 : Bs w13 v13 a2.data.toList := o13.bs
      replace X := X.trans x13
      clear o13 x13
      go_wp2_with (refine wpList_toBytes rfl 9 25 _ rfl 5 Tryd.underlying9 Tryd.underlying25 Tryd.underlying5 _ rfl hm3 ?_)
      intro v14 w14 o14 x14
      have p14 : Bs w14 v14 a3.data.toList := o14.bs
      replace X := X.trans x14
      replace p13 := p13.ext x14
      clear o14 x14
      have c14 := impl_EqualFold _ _ a2.data.toList a3.data.toList _ p13 p14 (HT.out.ext X) (HC.out.ext X)
      rw [HF.out] at c14
      clear p13 p14
      go_wp2_with (go_at_call 9; refine c14.mono ?_)
      rintro _ w15 ⟨rfl, x15⟩
      replace X := X.trans x15
      clear c14 x15
      go_wp2_with (refine wpList_toBytes rfl 9 25 _ rfl 5 Tryd.underlying9 Tryd.underlying25 Tryd.underlying5 _ rfl hsac ?_)
      intro v16 w16 o16 x16
      have p16 : Bs w16 v16 (a0.data.toList ++ a2.data.toList) := (by have := o16.bs; first | exact this | (rw [HDac.out] at this; exact this) | simpa using this)
      replace X := X.trans x16
      clear o16 x16
      go_wp2_with (refine wpList_toBytes rfl 9 25 _ rfl 5 Tryd.underlying9 Tryd.underlying25 Tryd.underlying5 _ rfl hsbd ?_)
      intro v17 w17 o17 x17
      have p17 : Bs w17 v17 (a1.data.toList ++ a3.data.toList) := (by have := o17.bs; first | exact this | (rw [HDbd.out] at this; exact this) | simpa using this)
      replace X := X.trans x17
      replace p16 := p16.ext x17
      clear o17 x17
      have c17 := impl_EqualFold _ _ (a0.data.toList ++ a2.data.toList) (a1.data.toList ++ a3.data.toList) _ p16 p17 (HT.out.ext X) (HC.out.ext X)
      rw [HS.out] at c17
      clear p16 p17
      go_wp2_with (go_at_call 9; refine c17.mono ?_)
      rintro _ w18 ⟨rfl, x18⟩
      replace X := X.trans x18
      clear c17 x18
      go_wp2_with (go_at_call 11; refine (cP0 _).mono ?_)
      rintro _ w19 ⟨v19, rfl, i19, x19⟩
      replace X := X.trans x19
      obtain ⟨ra0, rc0, rfl, _⟩ := i19.raw
      clear i19 x19
      go_wp2_with (go_at_call 11; refine (cP1 _).mono ?_)
      rintro _ w20 ⟨v20, rfl, i20, x20⟩
      replace X := X.trans x20
      obtain ⟨ra1, rc1, rfl, _⟩ := i20.raw
      clear i20 x20
      have he : ((R0.length : Int) == (R1.length : Int)) = true := by rw [HL.out]; simp
      go_wp2_with fail
      go_ret
      exact ⟨rfl, X.below⟩
end Go.Proofs.YtiahholgpbjjfaaDoor
