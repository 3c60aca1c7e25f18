/- The walk of the law FnEqualFoldSame: it returns true for every input. Printed by eqlaws.py. -/
import Derived.Test.YtiahholgpbjjfaaDoorEqualW
import Derived.Test.YtiahholgpbjjfaaDoorWrapA
import Derived.SizedLaws
import Derived.Deep.DeepCutAuto
namespace Go.Proofs.YtiahholgpbjjfaaDoor
open Go.RowKit

set_option maxRecDepth 100000 in
set_option maxHeartbeats 8000000 in
theorem FnEqualFoldSame_walk (w : World) (hT : Tabs w) (hC : CaseW w) (a0 : ByteArray) (z0 : a0.size ≤ reachBytes) (a1 : ByteArray) (z1 : a1.size ≤ reachBytes) (a2 : ByteArray) (z2 : a2.size ≤ reachBytes) :
    Calls Tryd.prog 4 #[.string a0, .string a1, .string a2] w fun e w' => e = .returned (.bool true) ∧ Below w.heap.size w w' := by
  have HT := Lib.hid hT
  have HC := Lib.hid hC
  have X : Ext w w := Ext.refl _
  clear hT hC
  have hm0 : a0.size ≤ maxLen := by have := reachBytes_lt; unfold maxLen; omega
  have hm1 : a1.size ≤ maxLen := by have := reachBytes_lt; unfold maxLen; omega
  have hm2 : a2.size ≤ maxLen := by have := reachBytes_lt; unfold maxLen; omega
  clear z0 z1 z2
  have HE0 := Lib.hid (show eqfB a0.data.toList a0.data.toList = true from eqC_refl _)
  have HSY := Lib.hid (show eqfB a1.data.toList a0.data.toList = eqfB a0.data.toList a1.data.toList from eqC_symm _ _)
  have HTR := Lib.hid (show eqfB a0.data.toList a1.data.toList = true → eqfB a1.data.toList a2.data.toList = true → eqfB a0.data.toList a2.data.toList = true from fun h h' => eqC_trans h h')
  obtain ⟨E, hE⟩ : ∃ E, eqfB a0.data.toList a1.data.toList = E := ⟨_, rfl⟩
  obtain ⟨F, hF⟩ : ∃ F, eqfB a1.data.toList a2.data.toList = F := ⟨_, rfl⟩
  rw [hE] at HSY HTR
  rw [hF] at HTR
  have HE := Lib.hid hE
  have HF := Lib.hid hF
  have q1 : (E != E) = false := by simp
  clear hE hF
  cases E
  · go_enter Tryd.func4, Tryd.ntmps4
    go_wp2_with (refine wpList_toBytes rfl 9 25 _ rfl 5 Tryd.underlying9 Tryd.underlying25 Tryd.underlying5 _ rfl hm0 ?_)
    intro v1 w1 o1 x1
    have p1 : Bs w1 v1 a0.data.toList := o1.bs
    replace X := X.trans x1
    clear o1 x1
    go_wp2_with (refine wpList_toBytes rfl 9 25 _ rfl 5 Tryd.underlying9 Tryd.underlying25 Tryd.underlying5 _ rfl hm0 ?_)
    intro v2 w2 o2 x2
    have p2 : Bs w2 v2 a0.data.toList := o2.bs
    replace X := X.trans x2
    replace p1 := p1.ext x2
    clear o2 x2
    have c2 := impl_EqualFold _ _ a0.data.toList a0.data.toList _ p1 p2 (HT.out.ext X) (HC.out.ext X)
    rw [HE0.out] at c2
    clear p1 p2
    go_wp2_with (go_at_call 9; refine c2.mono ?_)
    rintro _ w3 ⟨rfl, x3⟩
    replace X := X.trans x3
    clear c2 x3
    go_wp2_with (refine wpList_toBytes rfl 9 25 _ rfl 5 Tryd.underlying9 Tryd.underlying25 Tryd.underlying5 _ rfl hm0 ?_)
    intro v4 w4 o4 x4
    have p4 : Bs w4 v4 a0.data.toList := o4.bs
    replace X := X.trans x4
    clear o4 x4
    go_wp2_with (refine wpList_toBytes rfl 9 25 _ rfl 5 Tryd.underlying9 Tryd.underlying25 Tryd.underlying5 _ rfl hm1 ?_)
    intro v5 w5 o5 x5
    have p5 : Bs w5 v5 a1.data.toList := o5.bs
    replace X := X.trans x5
    replace p4 := p4.ext x5
    clear o5 x5
    have c5 := impl_EqualFold _ _ a0.data.toList a1.data.toList _ p4 p5 (HT.out.ext X) (HC.out.ext X)
    rw [HE.out] at c5
    clear p4 p5
    go_wp2_with (go_at_call 9; refine c5.mono ?_)
    rintro _ w6 ⟨rfl, x6⟩
    replace X := X.trans x6
    clear c5 x6
    go_wp2_with (refine wpList_toBytes rfl 9 25 _ rfl 5 Tryd.underlying9 Tryd.underlying25 Tryd.underlying5 _ rfl hm1 ?_)
    intro v7 w7 o7 x7
    have p7 : Bs w7 v7 a1.data.toList := o7.bs
    replace X := X.trans x7
    clear o7 x7
    go_wp2_with (refine wpList_toBytes rfl 9 25 _ rfl 5 Tryd.underlying9 Tryd.underlying25 Tryd.underlying5 _ rfl hm0 ?_)
    intro v8 w8 o8 x8
    have p8 : Bs w8 v8 a0.data.toList := o8.bs
    replace X := X.trans x8
    replace p7 := p7.ext x8
    clear o8 x8
    have c8 := impl_EqualFold _ _ a1.data.toList a0.data.toList _ p7 p8 (HT.out.ext X) (HC.out.ext X)
    rw [HSY.out] at c8
    clear p7 p8
    go_wp2_with (go_at_call 9; refine c8.mono ?_)
    rintro _ w9 ⟨rfl, x9⟩
    replace X := X.trans x9
    clear c8 x9
    go_wp2_with (refine wpList_toBytes rfl 9 25 _ rfl 5 Tryd.underlying9 Tryd.underlying25 Tryd.underlying5 _ rfl hm0 ?_)
    intro v10 w10 o10 x10
    have p10 : Bs w10 v10 a0.data.toList := o10.bs
    replace X := X.trans x10
    clear o10 x10
    go_wp2_with (refine wpList_toBytes rfl 9 25 _ rfl 5 Tryd.underlying9 Tryd.underlying25 Tryd.underlying5 _ rfl hm1 ?_)
    intro v11 w11 o11 x11
    have p11 : Bs w11 v11 a1.data.toList := o11.bs
    replace X := X.trans x11
    replace p10 := p10.ext x11
    clear o11 x11
    have c11 := impl_EqualFold _ _ a0.data.toList a1.data.toList _ p10 p11 (HT.out.ext X) (HC.out.ext X)
    rw [HE.out] at c11
    clear p10 p11
    go_wp2_with (go_at_call 9; refine c11.mono ?_)
    rintro _ w12 ⟨rfl, x12⟩
    replace X := X.trans x12
    clear c11 x12
    go_wp2_with fail
    go_ret
    exact ⟨rfl, X.below⟩
  cases F
  · go_enter Tryd.func4, Tryd.ntmps4
    go_wp2_with (refine wpList_toBytes rfl 9 25 _ rfl 5 Tryd.underlying9 Tryd.underlying25 Tryd.underlying5 _ rfl hm0 ?_)
    intro v1 w1 o1 x1
    have p1 : Bs w1 v1 a0.data.toList := o1.bs
    replace X := X.trans x1
    clear o1 x1
    go_wp2_with (refine wpList_toBytes rfl 9 25 _ rfl 5 Tryd.underlying9 Tryd.underlying25 Tryd.underlying5 _ rfl hm0 ?_)
    intro v2 w2 o2 x2
    have p2 : Bs w2 v2 a0.data.toList := o2.bs
    replace X := X.trans x2
    replace p1 := p1.ext x2
    clear o2 x2
    have c2 := impl_EqualFold _ _ a0.data.toList a0.data.toList _ p1 p2 (HT.out.ext X) (HC.out.ext X)
    rw [HE0.out] at c2
    clear p1 p2
    go_wp2_with (go_at_call 9; refine c2.mono ?_)
    rintro _ w3 ⟨rfl, x3⟩
    replace X := X.trans x3
    clear c2 x3
    go_wp2_with (refine wpList_toBytes rfl 9 25 _ rfl 5 Tryd.underlying9 Tryd.underlying25 Tryd.underlying5 _ rfl hm0 ?_)
    intro v4 w4 o4 x4
    have p4 : Bs w4 v4 a0.data.toList := o4.bs
    replace X := X.trans x4
    clear o4 x4
    go_wp2_with (refine wpList_toBytes rfl 9 25 _ rfl 5 Tryd.underlying9 Tryd.underlying25 Tryd.underlying5 _ rfl hm1 ?_)
    intro v5 w5 o5 x5
    have p5 : Bs w5 v5 a1.data.toList := o5.bs
    replace X := X.trans x5
    replace p4 := p4.ext x5
    clear o5 x5
    have c5 := impl_EqualFold _ _ a0.data.toList a1.data.toList _ p4 p5 (HT.out.ext X) (HC.out.ext X)
    rw [HE.out] at c5
    clear p4 p5
    go_wp2_with (go_at_call 9; refine c5.mono ?_)
    rintro _ w6 ⟨rfl, x6⟩
    replace X := X.trans x6
    clear c5 x6
    go_wp2_with (refine wpList_toBytes rfl 9 25 _ rfl 5 Tryd.underlying9 Tryd.underlying25 Tryd.underlying5 _ rfl hm1 ?_)
    intro v7 w7 o7 x7
    have p7 : Bs w7 v7 a1.data.toList := o7.bs
    replace X := X.trans x7
    clear o7 x7
    go_wp2_with (refine wpList_toBytes rfl 9 25 _ rfl 5 Tryd.underlying9 Tryd.underlying25 Tryd.underlying5 _ rfl hm0 ?_)
    intro v8 w8 o8 x8
    have p8 : Bs w8 v8 a0.data.toList := o8.bs
    replace X := X.trans x8
    replace p7 := p7.ext x8
    clear o8 x8
    have c8 := impl_EqualFold _ _ a1.data.toList a0.data.toList _ p7 p8 (HT.out.ext X) (HC.out.ext X)
    rw [HSY.out] at c8
    clear p7 p8
    go_wp2_with (go_at_call 9; refine c8.mono ?_)
    rintro _ w9 ⟨rfl, x9⟩
    replace X := X.trans x9
    clear c8 x9
    go_wp2_with (refine wpList_toBytes rfl 9 25 _ rfl 5 Tryd.underlying9 Tryd.underlying25 Tryd.underlying5 _ rfl hm0 ?_)
    intro v10 w10 o10 x10
    have p10 : Bs w10 v10 a0.data.toList := o10.bs
    replace X := X.trans x10
    clear o10 x10
    go_wp2_with (refine wpList_toBytes rfl 9 25 _ rfl 5 Tryd.underlying9 Tryd.underlying25 Tryd.underlying5 _ rfl hm1 ?_)
    intro v11 w11 o11 x11
    have p11 : Bs w11 v11 a1.data.toList := o11.bs
    replace X := X.trans x11
    replace p10 := p10.ext x11
    clear o11 x11
    have c11 := impl_EqualFold _ _ a0.data.toList a1.data.toList _ p10 p11 (HT.out.ext X) (HC.out.ext X)
    rw [HE.out] at c11
    clear p10 p11
    go_wp2_with (go_at_call 9; refine c11.mono ?_)
    rintro _ w12 ⟨rfl, x12⟩
    replace X := X.trans x12
    clear c11 x12
    go_wp2_with (refine wpList_toBytes rfl 9 25 _ rfl 5 Tryd.underlying9 Tryd.underlying25 Tryd.underlying5 _ rfl hm1 ?_)
    intro v13 w13 o13 x13
    have p13 : Bs w13 v13 a1.data.toList := o13.bs
    replace X := X.trans x13
    clear o13 x13
    go_wp2_with (refine wpList_toBytes rfl 9 25 _ rfl 5 Tryd.underlying9 Tryd.underlying25 Tryd.underlying5 _ rfl hm2 ?_)
    intro v14 w14 o14 x14
    have p14 : Bs w14 v14 a2.data.toList := o14.bs
    replace X := X.trans x14
    replace p13 := p13.ext x14
    clear o14 x14
    have c14 := impl_EqualFold _ _ a1.data.toList a2.data.toList _ p13 p14 (HT.out.ext X) (HC.out.ext X)
    rw [HF.out] at c14
    clear p13 p14
    go_wp2_with (go_at_call 9; refine c14.mono ?_)
    rintro _ w15 ⟨rfl, x15⟩
    replace X := X.trans x15
    clear c14 x15
    go_wp2_with fail
    go_ret
    exact ⟨rfl, X.below⟩
  · have HG := Lib.hid (HTR.out rfl rfl)
    go_enter Tryd.func4, Tryd.ntmps4
    go_wp2_with (refine wpList_toBytes rfl 9 25 _ rfl 5 Tryd.underlying9 Tryd.underlying25 Tryd.underlying5 _ rfl hm0 ?_)
    intro v1 w1 o1 x1
    have p1 : Bs w1 v1 a0.data.toList := o1.bs
    replace X := X.trans x1
    clear o1 x1
    go_wp2_with (refine wpList_toBytes rfl 9 25 _ rfl 5 Tryd.underlying9 Tryd.underlying25 Tryd.underlying5 _ rfl hm0 ?_)
    intro v2 w2 o2 x2
    have p2 : Bs w2 v2 a0.data.toList := o2.bs
    replace X := X.trans x2
    replace p1 := p1.ext x2
    clear o2 x2
    have c2 := impl_EqualFold _ _ a0.data.toList a0.data.toList _ p1 p2 (HT.out.ext X) (HC.out.ext X)
    rw [HE0.out] at c2
    clear p1 p2
    go_wp2_with (go_at_call 9; refine c2.mono ?_)
    rintro _ w3 ⟨rfl, x3⟩
    replace X := X.trans x3
    clear c2 x3
    go_wp2_with (refine wpList_toBytes rfl 9 25 _ rfl 5 Tryd.underlying9 Tryd.underlying25 Tryd.underlying5 _ rfl hm0 ?_)
    intro v4 w4 o4 x4
    have p4 : Bs w4 v4 a0.data.toList := o4.bs
    replace X := X.trans x4
    clear o4 x4
    go_wp2_with (refine wpList_toBytes rfl 9 25 _ rfl 5 Tryd.underlying9 Tryd.underlying25 Tryd.underlying5 _ rfl hm1 ?_)
    intro v5 w5 o5 x5
    have p5 : Bs w5 v5 a1.data.toList := o5.bs
    replace X := X.trans x5
    replace p4 := p4.ext x5
    clear o5 x5
    have c5 := impl_EqualFold _ _ a0.data.toList a1.data.toList _ p4 p5 (HT.out.ext X) (HC.out.ext X)
    rw [HE.out] at c5
    clear p4 p5
    go_wp2_with (go_at_call 9; refine c5.mono ?_)
    rintro _ w6 ⟨rfl, x6⟩
    replace X := X.trans x6
    clear c5 x6
    go_wp2_with (refine wpList_toBytes rfl 9 25 _ rfl 5 Tryd.underlying9 Tryd.underlying25 Tryd.underlying5 _ rfl hm1 ?_)
    intro v7 w7 o7 x7
    have p7 : Bs w7 v7 a1.data.toList := o7.bs
    replace X := X.trans x7
    clear o7 x7
    go_wp2_with (refine wpList_toBytes rfl 9 25 _ rfl 5 Tryd.underlying9 Tryd.underlying25 Tryd.underlying5 _ rfl hm0 ?_)
    intro v8 w8 o8 x8
    have p8 : Bs w8 v8 a0.data.toList := o8.bs
    replace X := X.trans x8
    replace p7 := p7.ext x8
    clear o8 x8
    have c8 := impl_EqualFold _ _ a1.data.toList a0.data.toList _ p7 p8 (HT.out.ext X) (HC.out.ext X)
    rw [HSY.out] at c8
    clear p7 p8
    go_wp2_with (go_at_call 9; refine c8.mono ?_)
    rintro _ w9 ⟨rfl, x9⟩
    replace X := X.trans x9
    clear c8 x9
    go_wp2_with (refine wpList_toBytes rfl 9 25 _ rfl 5 Tryd.underlying9 Tryd.underlying25 Tryd.underlying5 _ rfl hm0 ?_)
    intro v10 w10 o10 x10
    have p10 : Bs w10 v10 a0.data.toList := o10.bs
    replace X := X.trans x10
    clear o10 x10
    go_wp2_with (refine wpList_toBytes rfl 9 25 _ rfl 5 Tryd.underlying9 Tryd.underlying25 Tryd.underlying5 _ rfl hm1 ?_)
    intro v11 w11 o11 x11
    have p11 : Bs w11 v11 a1.data.toList := o11.bs
    replace X := X.trans x11
    replace p10 := p10.ext x11
    clear o11 x11
    have c11 := impl_EqualFold _ _ a0.data.toList a1.data.toList _ p10 p11 (HT.out.ext X) (HC.out.ext X)
    rw [HE.out] at c11
    clear p10 p11
    go_wp2_with (go_at_call 9; refine c11.mono ?_)
    rintro _ w12 ⟨rfl, x12⟩
    replace X := X.trans x12
    clear c11 x12
    go_wp2_with (refine wpList_toBytes rfl 9 25 _ rfl 5 Tryd.underlying9 Tryd.underlying25 Tryd.underlying5 _ rfl hm1 ?_)
    intro v13 w13 o13 x13
    have p13 : Bs w13 v13 a1.data.toList := o13.bs
    replace X := X.trans x13
    clear o13 x13
    go_wp2_with (refine wpList_toBytes rfl 9 25 _ rfl 5 Tryd.underlying9 Tryd.underlying25 Tryd.underlying5 _ rfl hm2 ?_)
    intro v14 w14 o14 x14
    have p14 : Bs w14 v14 a2.data.toList := o14.bs
    replace X := X.trans x14
    replace p13 := p13.ext x14
    clear o14 x14
    have c14 := impl_EqualFold _ _ a1.data.toList a2.data.toList _ p13 p14 (HT.out.ext X) (HC.out.ext X)
    rw [HF.out] at c14
    clear p13 p14
    go_wp2_with (go_at_call 9; refine c14.mono ?_)
    rintro _ w15 ⟨rfl, x15⟩
    replace X := X.trans x15
    clear c14 x15
    go_wp2_with (refine wpList_toBytes rfl 9 25 _ rfl 5 Tryd.underlying9 Tryd.underlying25 Tryd.underlying5 _ rfl hm0 ?_)
    intro v16 w16 o16 x16
    have p16 : Bs w16 v16 a0.data.toList := o16.bs
    replace X := X.trans x16
    clear o16 x16
    go_wp2_with (refine wpList_toBytes rfl 9 25 _ rfl 5 Tryd.underlying9 Tryd.underlying25 Tryd.underlying5 _ rfl hm2 ?_)
    intro v17 w17 o17 x17
    have p17 : Bs w17 v17 a2.data.toList := o17.bs
    replace X := X.trans x17
    replace p16 := p16.ext x17
    clear o17 x17
    have c17 := impl_EqualFold _ _ a0.data.toList a2.data.toList _ p16 p17 (HT.out.ext X) (HC.out.ext X)
    rw [HG.out] at c17
    clear p16 p17
    go_wp2_with (go_at_call 9; refine c17.mono ?_)
    rintro _ w18 ⟨rfl, x18⟩
    replace X := X.trans x18
    clear c17 x18
    go_wp2_with fail
    go_ret
    exact ⟨rfl, X.below⟩
end Go.Proofs.YtiahholgpbjjfaaDoor
