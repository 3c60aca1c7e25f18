/- The walk of the law FnEqualRoads: it returns true for every input. Printed by eqlaws.py. -/
import Derived.Test.YtiahholgpbjjfaaDoorEqualW
import Derived.Test.YtiahholgpbjjfaaDoorWrapA
import Derived.SizedLaws
import Derived.Deep.DeepCutAuto
namespace Go.Proofs.YtiahholgpbjjfaaDoor
open Go.RowKit

set_option maxRecDepth 100000 in
set_option maxHeartbeats 8000000 in
theorem FnEqualRoads_walk (w : World) (hT : Tabs w) (hC : CaseW w) (a0 : ByteArray) (z0 : a0.size ≤ reachBytes) (a1 : ByteArray) (z1 : a1.size ≤ reachBytes) :
    Calls Tryd.prog 7 #[.string a0, .string a1] w fun e w' => e = .returned (.bool true) ∧ Below w.heap.size w w' := by
  have HT := Lib.hid hT
  have HC := Lib.hid hC
  have X : Ext w w := Ext.refl _
  clear hT hC
  have hm0 : a0.size ≤ maxLen := by have := reachBytes_lt; unfold maxLen; omega
  have hm1 : a1.size ≤ maxLen := by have := reachBytes_lt; unfold maxLen; omega
  clear z0 z1
  have HT0 := Lib.hid (show ∀ x y : ByteArray, (x.toList == y.toList) = decide (x = y) from fun x y => by
    rw [Bool.eq_iff_iff, beq_iff_eq, decide_eq_true_iff]
    rw [ByteArray.toList_eq, ByteArray.toList_eq]
    exact ⟨fun h => ByteArray.ext (Array.ext' h), fun h => by rw [h]⟩)
  by_cases he : a0 = a1
  · subst he
    have e1 : eqB a0.data.toList a0.data.toList = true := by unfold eqB; simp
    have e2 : cmpL a0.data.toList a0.data.toList = 0 := cmpL_self _
    have e3 : eqfB a0.data.toList a0.data.toList = true := eqC_refl _
    have HE1 := Lib.hid e1
    have HE2 := Lib.hid e2
    have HE3 := Lib.hid e3
    have q1 : (a0.toList == a0.toList) = true := by simp
    clear e1 e2 e3 HT0
    go_enter Tryd.func7, Tryd.ntmps7
    go_wp2_with (refine wpList_toBytes rfl 9 25 _ rfl 5 Tryd.underlying9 Tryd.underlying25 Tryd.underlying5 _ rfl hm0 ?_)
    intro v1 w1 o1 x1
    have p1 : Bs w1 v1 a0.data.toList := o1.bs
    replace X := X.trans x1
    clear o1 x1
    go_wp2_with (refine wpList_toBytes rfl 9 25 _ rfl 5 Tryd.underlying9 Tryd.underlying25 Tryd.underlying5 _ rfl hm0 ?_)
    intro v2 w2 o2 x2
    have p2 : Bs w2 v2 a0.data.toList := o2.bs
    replace X := X.trans x2
    replace p1 := p1.ext x2
    clear o2 x2
    have c2 := impl_Equal _ _ _ _ _ p1 p2
    rw [HE1.out] at c2
    clear p1 p2
    go_wp2_with (go_at_call 14; refine c2.mono ?_)
    rintro _ _ ⟨rfl, rfl⟩
    clear c2
    go_wp2_with (refine wpList_toBytes rfl 9 25 _ rfl 5 Tryd.underlying9 Tryd.underlying25 Tryd.underlying5 _ rfl hm0 ?_)
    intro v3 w3 o3 x3
    have p3 : Bs w3 v3 a0.data.toList := o3.bs
    replace X := X.trans x3
    clear o3 x3
    go_wp2_with (refine wpList_toBytes rfl 9 25 _ rfl 5 Tryd.underlying9 Tryd.underlying25 Tryd.underlying5 _ rfl hm0 ?_)
    intro v4 w4 o4 x4
    have p4 : Bs w4 v4 a0.data.toList := o4.bs
    replace X := X.trans x4
    replace p3 := p3.ext x4
    clear o4 x4
    have c4 := impl_Compare _ _ _ _ _ p3 p4
    rw [HE2.out] at c4
    clear p3 p4
    go_wp2_with (go_at_call 15; refine c4.mono ?_)
    rintro _ _ ⟨rfl, rfl⟩
    clear c4
    go_wp2_with (refine wpList_toBytes rfl 9 25 _ rfl 5 Tryd.underlying9 Tryd.underlying25 Tryd.underlying5 _ rfl hm0 ?_)
    intro v5 w5 o5 x5
    have p5 : Bs w5 v5 a0.data.toList := o5.bs
    replace X := X.trans x5
    clear o5 x5
    go_wp2_with (refine wpList_toBytes rfl 9 25 _ rfl 5 Tryd.underlying9 Tryd.underlying25 Tryd.underlying5 _ rfl hm0 ?_)
    intro v6 w6 o6 x6
    have p6 : Bs w6 v6 a0.data.toList := o6.bs
    replace X := X.trans x6
    replace p5 := p5.ext x6
    clear o6 x6
    have c6 := impl_EqualFold _ _ a0.data.toList a0.data.toList _ p5 p6 (HT.out.ext X) (HC.out.ext X)
    rw [HE3.out] at c6
    clear p5 p6
    go_wp2_with (go_at_call 9; refine c6.mono ?_)
    rintro _ w7 ⟨rfl, x7⟩
    replace X := X.trans x7
    clear c6 x7
    go_wp2_with fail
    go_ret
    exact ⟨rfl, X.below⟩
  · have HE1 := Lib.hid (show eqB a0.data.toList a1.data.toList = false by
      unfold eqB
      rw [beq_eq_false_iff_ne]
      exact fun h => he (ByteArray.ext (Array.ext' h)))
    have hne : cmpL a0.data.toList a1.data.toList ≠ 0 := fun h => he (ByteArray.ext (Array.ext' ((cmpL_zero _ _).1 h)))
    have q1 : (a0.toList == a1.toList) = false := by rw [HT0.out]; simp [he]
    obtain ⟨K, hK⟩ : ∃ K, cmpL a0.data.toList a1.data.toList = K := ⟨_, rfl⟩
    rw [hK] at hne
    have HE2 := Lib.hid hK
    have q2 : (K == 0) = false := by rw [beq_eq_false_iff_ne]; exact hne
    clear HT0 he hK hne
    go_enter Tryd.func7, Tryd.ntmps7
    go_wp2_with (refine wpList_toBytes rfl 9 25 _ rfl 5 Tryd.underlying9 Tryd.underlying25 Tryd.underlying5 _ rfl hm0 ?_)
    intro v1 w1 o1 x1
    have p1 : Bs w1 v1 a0.data.toList := o1.bs
    replace X := X.trans x1
    clear o1 x1
    go_wp2_with (refine wpList_toBytes rfl 9 25 _ rfl 5 Tryd.underlying9 Tryd.underlying25 Tryd.underlying5 _ rfl hm1 ?_)
    intro v2 w2 o2 x2
    have p2 : Bs w2 v2 a1.data.toList := o2.bs
    replace X := X.trans x2
    replace p1 := p1.ext x2
    clear o2 x2
    have c2 := impl_Equal _ _ _ _ _ p1 p2
    rw [HE1.out] at c2
    clear p1 p2
    go_wp2_with (go_at_call 14; refine c2.mono ?_)
    rintro _ _ ⟨rfl, rfl⟩
    clear c2
    go_wp2_with (refine wpList_toBytes rfl 9 25 _ rfl 5 Tryd.underlying9 Tryd.underlying25 Tryd.underlying5 _ rfl hm0 ?_)
    intro v3 w3 o3 x3
    have p3 : Bs w3 v3 a0.data.toList := o3.bs
    replace X := X.trans x3
    clear o3 x3
    go_wp2_with (refine wpList_toBytes rfl 9 25 _ rfl 5 Tryd.underlying9 Tryd.underlying25 Tryd.underlying5 _ rfl hm1 ?_)
    intro v4 w4 o4 x4
    have p4 : Bs w4 v4 a1.data.toList := o4.bs
    replace X := X.trans x4
    replace p3 := p3.ext x4
    clear o4 x4
    have c4 := impl_Compare _ _ _ _ _ p3 p4
    rw [HE2.out] at c4
    clear p3 p4
    go_wp2_with (go_at_call 15; refine c4.mono ?_)
    rintro _ _ ⟨rfl, rfl⟩
    clear c4
    go_wp2_with fail
    go_ret
    exact ⟨rfl, X.below⟩
end Go.Proofs.YtiahholgpbjjfaaDoor
