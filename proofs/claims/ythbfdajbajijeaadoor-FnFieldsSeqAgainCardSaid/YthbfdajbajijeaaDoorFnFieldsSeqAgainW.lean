/- The walk of the law FnFieldsSeqAgain: it returns true for every input. -/
import Derived.Test.YthbfdajbajijeaaDoorIterS
import Derived.Test.YthbfdajbajijeaaDoorZD
import Derived.Test.YthbfdajbajijeaaDoorFieldsJ
import Derived.Test.YthbfdajbajijeaaDoorZC
import Derived.Test.YthbfdajbajijeaaDoorJoin
import Derived.Test.YthbfdajbajijeaaDoorMark
import Derived.Deep.DeepCutAuto
namespace Go.Proofs.YthbfdajbajijeaaDoor
open Go.RowKit

set_option maxRecDepth 100000 in
set_option maxHeartbeats 8000000 in
theorem FnFieldsSeqAgain_walk (w : World) (hT : Tabs w) (hWh : White w) (a0 : ByteArray) (z0 : a0.size ≤ reachBytes) :
    Calls Tryd.prog 9 #[.string a0] w fun e w' => e = .returned (.bool true) ∧ Below w.heap.size w w' := by
  have hmax : a0.size ≤ maxLen := by unfold reachBytes at z0; unfold maxLen; omega
  have hmx := hmax
  unfold maxLen at hmx
  by_cases hbig : 16777216 < a0.size
  · have q1 : (16777216 : Int) < (a0.size : Int) := by omega
    clear hbig z0
    go_enter Tryd.func9, Tryd.ntmps9
    go_wp2_with fail
    go_ret
    exact ⟨rfl, Below.refl _ _⟩
  have q1 : ¬ (16777216 : Int) < (a0.size : Int) := by omega
  have es : a0.data.toList.length = a0.size := rfl
  have key3 := fieldsB_len wsP a0.data.toList
  have key5 := fieldsB_size wsP a0.data.toList
  have key1 : ∀ x ∈ fieldsB wsP a0.data.toList, x.length ≤ 16777216 := fun x hx => by
    have h3 := mem_size hx
    omega
  have key2 := fields_none_trim wsP a0.data.toList
  have key4 := fields_join wsP 32 [9] (by decide) (by intro y hy; simp at hy; rcases hy with rfl | rfl <;> exact (wsP_iff _).2 (by simp)) (fieldsB wsP a0.data.toList) (fun x hx => field_word hx)
  have key6 := lens_size (fieldsB wsP a0.data.toList)
  have key7 := join_len (fieldsB wsP a0.data.toList) [32, 9]
  have hbl := blankR_len 12289
  have cB := fun W => laws_blanks W
  have HLF := Lib.hid (show fieldsB (holdsT (blankR 12289) false) a0.data.toList = fieldsB wsP a0.data.toList by rw [holds_blank'])
  obtain ⟨rs, hrs⟩ : ∃ rs, blankR 12289 = rs := ⟨_, rfl⟩
  simp only [hrs] at hbl cB HLF
  obtain ⟨L, hL⟩ : ∃ L, fieldsB wsP a0.data.toList = L := ⟨_, rfl⟩
  obtain ⟨T, hTT⟩ : ∃ T, tB wsP a0.data.toList = T := ⟨_, rfl⟩
  rw [hL] at key1 key2 key3 key4 key5 key6 key7 HLF
  rw [hTT] at key2
  rw [es] at key3 key5
  obtain ⟨J, hJ⟩ : ∃ J, Lib.join L [32, 9] = J := ⟨_, rfl⟩
  rw [hJ] at key4 key7
  have hlj : Lib.lens L + ([32, 9] : List UInt8).length * (L.length - 1) ≤ 67108864 := by simp; omega
  have hJn : J.length ≤ 67108864 := by omega
  have HLJ := Lib.hid (show Lib.lens L + ([32, 9] : List UInt8).length * (L.length - 1) ≤ 140737488355328 by omega)
  have mj : (⟨J.toArray⟩ : ByteArray).size ≤ maxLen := by show J.length ≤ _; unfold maxLen; omega
  have HL := Lib.hid hL
  have HTT := Lib.hid hTT
  have HJ := Lib.hid hJ
  have K1 := Lib.hid key1
  have KJ := Lib.hid key4
  have hLn : L.length ≤ 16777216 := by omega
  obtain ⟨E, hE⟩ : ∃ E, ((L.length : Int) == 0) = E := ⟨_, rfl⟩
  have hE2 : T.isEmpty = E := by
    rw [← hE, Bool.eq_iff_iff, List.isEmpty_iff, beq_iff_eq]
    exact key2.symm
  have HE := Lib.hid hE
  have HE2 := Lib.hid hE2
  have HEN := Lib.hid (show (E == E) = true by simp)
  have HTa := Lib.hid hT
  have HWa := Lib.hid hWh
  have HLB := Lib.hid (show a0.data.toList.length ≤ 1099511627776 by omega)
  clear hbig hL hTT hJ key1 key2 key3 key4 key5 key6 key7 hlj hE hE2 hT hWh es z0 hrs
  go_enter Tryd.func9, Tryd.ntmps9
  go_wp2_with (refine wpList_toBytes rfl 9 27 _ rfl 5 Tryd.underlying9 Tryd.underlying27 Tryd.underlying5 _ rfl hmax ?_)
  intro v1 w1 o1 X
  have c2 := impl_FieldsSeq _ _ _ o1.bs (HWa.out.ext X) (HTa.out.ext X) HLB.out
  rw [HL.out] at c2
  clear o1
  go_wp2_with (go_at_call 28; refine c2.mono ?_)
  rintro _ w2 ⟨v2, rfl, o2, x2⟩
  replace X := X.trans x2
  clear x2 c2
  go_wp2_with (go_at_call 17; refine (laws_texts v2 L _ o2.bs (by omega)).mono ?_)
  rintro _ w3 ⟨v3, rfl, s3, x3⟩
  replace X := X.trans x3
  clear x3 o2
  obtain ⟨a3, c3, rfl, p3, q3, e3⟩ := s3.raw
  have hc3 : c3 ≤ 9223372036854775807 := by unfold maxLen at q3; omega
  have HS3 := Lib.hid s3
  have HX3 := Lib.hid X
  clear e3 q3 s3 X
  go_wp2_with (refine wpList_toBytes rfl 9 27 _ rfl 5 Tryd.underlying9 Tryd.underlying27 Tryd.underlying5 _ rfl hmax ?_)
  intro v4 w4 o4 Y
  have q4 := o4.bs
  clear o4
  go_wp2_with (go_at_call 13; refine (cB _).mono ?_)
  rintro _ w5 ⟨v5, rfl, i5, x5⟩
  replace Y := Y.trans x5
  replace q4 := q4.ext x5
  clear x5
  go_wp2_with (go_at_call 12; refine (laws_test _ rs _ _ i5 (by omega)).mono ?_)
  rintro _ w6 ⟨v6, rfl, i6, x6⟩
  replace Y := Y.trans x6
  replace q4 := q4.ext x6
  obtain ⟨a6, c6, rfl, _, _, _⟩ := i6.raw
  have c7 := impl_FieldsFuncSeq _ _ _ rs false _ q4 i6 (HTa.out.ext (HX3.out.trans Y)) HLB.out
  rw [HLF.out] at c7
  clear x6 i5 q4 cB
  go_wp2_with (go_at_call 35; refine c7.mono ?_)
  rintro _ w7 ⟨v7, rfl, o7, x7⟩
  replace Y := Y.trans x7
  clear x7 c7 i6
  go_wp2_with (go_at_call 17; refine (laws_texts v7 L _ o7.bs (by omega)).mono ?_)
  rintro _ w8 ⟨v8, rfl, s8, x8⟩
  replace Y := Y.trans x8
  clear x8 o7
  go_wp2_with (go_at_call 16; refine (laws_same _ _ L L _ (HS3.out.ext Y) s8 rfl).mono ?_)
  rintro _ w9 ⟨rfl, x9⟩
  replace Y := Y.trans x9
  clear x9 s8
  go_wp2_with (go_at_call 25; refine (laws_lists _ L _ (HS3.out.ext Y) (by omega) (fun l hl => by have := K1.out l hl; omega)).mono ?_)
  rintro _ w10 ⟨v10, rfl, o10, x10⟩
  have b10 := Bs.two w10 5 32 9
  have HO10 := Lib.hid o10.bs
  have HB10 := Lib.hid b10
  have HY := Lib.hid (Y.trans x10)
  clear x10 o10 b10 Y
  go_wp2_with (refine wpList_mark rfl 27 5 _ rfl Tryd.underlying27 Tryd.underlying5 w10.heap.size 2 2 rfl ?_)
  intro w11 hc
  have b11 := HB10.out.rc (hc _ (Nat.le_refl _))
  have x11 : Ext w10 w11 := ⟨(Ext.alloc w10 _).below.trans (hc _ (Nat.le_refl _)).below⟩
  have Y := HY.out.trans x11
  have o11 := HO10.out.ext x11
  clear hc x11 HO10 HB10 HY
  go_wp2_with (go_at_call 24; refine (impl_Join _ _ L [32, 9] _ o11 b11 (by omega) HLJ.out).mono ?_)
  rintro _ w12 ⟨v12, rfl, o12, x12⟩
  rw [HJ.out] at o12
  replace Y := Y.trans x12
  have q12 := o12.bs
  clear x12 o12 o11 b11
  go_wp2_with (first | refine wpList_toString rfl 27 9 _ rfl 5 Tryd.underlying27 Tryd.underlying5 Tryd.underlying9 _ _ rfl q12 ?_ | refine wpList_toBytes rfl 9 27 _ rfl 5 Tryd.underlying9 Tryd.underlying27 Tryd.underlying5 _ rfl mj ?_)
  intro v13 w13 o13 x13
  replace Y := Y.trans x13
  have c14 := impl_FieldsSeq _ J _ o13.bs (HWa.out.ext (HX3.out.trans Y)) (HTa.out.ext (HX3.out.trans Y)) (by omega)
  rw [KJ.out] at c14
  clear x13 o13 q12
  go_wp2_with (go_at_call 28; refine c14.mono ?_)
  rintro _ w14 ⟨v14, rfl, o14, x14⟩
  replace Y := Y.trans x14
  clear x14 c14
  go_wp2_with (go_at_call 17; refine (laws_texts v14 L _ o14.bs (by omega)).mono ?_)
  rintro _ w15 ⟨v15, rfl, s15, x15⟩
  replace Y := Y.trans x15
  clear x15 o14
  go_wp2_with (go_at_call 16; refine (laws_same _ _ L L _ s15 (HS3.out.ext Y) rfl).mono ?_)
  rintro _ w16 ⟨rfl, x16⟩
  replace Y := Y.trans x16
  clear x16 s15
  go_wp2_with (refine wpList_toBytes rfl 9 27 _ rfl 5 Tryd.underlying9 Tryd.underlying27 Tryd.underlying5 _ rfl hmax ?_)
  intro v17 w17 o17 x17
  replace Y := Y.trans x17
  have c18 := spec_TrimSpace _ _ _ HLB.out o17.bs
  rw [HTT.out] at c18
  clear x17 o17
  go_wp2_with (go_at_call 20; refine c18.mono ?_)
  rintro _ w18 ⟨v18, rfl, o18, x18⟩
  have Z := (HX3.out.trans Y).trans x18
  have q18 := o18.bs
  have he1 := HE.out
  have he2 := HE2.out
  have he3 := HEN.out
  clear x18 o18 c18 Y
  go_wp2_with (refine wpList_toString rfl 27 9 _ rfl 5 Tryd.underlying27 Tryd.underlying5 Tryd.underlying9 _ _ rfl q18 ?_)
  go_wp2_with fail
  go_ret
  exact ⟨rfl, Z.below⟩
end Go.Proofs.YthbfdajbajijeaaDoor
