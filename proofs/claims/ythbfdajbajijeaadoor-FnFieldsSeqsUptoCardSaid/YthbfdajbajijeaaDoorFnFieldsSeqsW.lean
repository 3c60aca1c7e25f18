/- The walk of the law FnFieldsSeqs: it returns true where the text and the list have at most 2^20 parts. -/
import Derived.Test.YthbfdajbajijeaaDoorIterS
import Derived.Test.YthbfdajbajijeaaDoorZC
namespace Go.Proofs.YthbfdajbajijeaaDoor
open Go.RowKit

theorem ws_none (l : List UInt8) : (fieldsB wsP l = [] ∧ tB wsP l = []) ∨ (fieldsB wsP l ≠ [] ∧ tB wsP l ≠ []) := by
  rcases (fields_trim wsP l).2 with ⟨h1, h2⟩ | ⟨x, L', y, D, e1, e2, hTn, hp, hs⟩
  · exact .inl ⟨h1, h2⟩
  · exact .inr ⟨by rw [e1]; simp, hTn⟩

set_option maxRecDepth 100000 in
set_option maxHeartbeats 8000000 in
theorem FnFieldsSeqs_walk (w : World) (hT : Tabs w) (hWh : White w) (a0 : ByteArray) (z0 : a0.size ≤ 1048576) (v1 : Value) (rs : List Int) (b1 : Is w v1 rs) (z1 : rs.length ≤ 1048576) (nt : Bool) :
    Calls Tryd.prog 11 #[.string a0, v1, .bool nt] w fun e w' => e = .returned (.bool true) ∧ Below w.heap.size w w' := by
  have hmax : a0.size ≤ maxLen := by unfold maxLen; omega
  have hz2 : rs.length ≤ 35184372088832 := by omega
  have es : a0.data.toList.length = a0.size := rfl
  have hl : a0.data.toList.length ≤ 1099511627776 := by omega
  have key := ws_none a0.data.toList
  have k1 := fieldsB_len wsP a0.data.toList
  have k2 := fieldsB_len (holdsT rs nt) a0.data.toList
  rw [es] at k1 k2
  obtain ⟨L, hL⟩ : ∃ L, fieldsB wsP a0.data.toList = L := ⟨_, rfl⟩
  obtain ⟨M, hM⟩ : ∃ M, fieldsB (holdsT rs nt) a0.data.toList = M := ⟨_, rfl⟩
  obtain ⟨T, hTT⟩ : ∃ T, tB wsP a0.data.toList = T := ⟨_, rfl⟩
  rw [hL, hTT] at key
  rw [hL] at k1
  rw [hM] at k2
  have HL := Lib.hid hL
  have HM := Lib.hid hM
  have HTT := Lib.hid hTT
  have KEY := Lib.hid key
  have HLL := Lib.hid hl
  have hT0 := Lib.hid hT
  have hW0 := Lib.hid hWh
  have B1 := Lib.hid b1
  clear hL hM hTT key es hl hT hWh b1
  go_enter Tryd.func11, Tryd.ntmps11
  go_wp2_with (refine wpList_toBytes rfl 9 27 _ rfl 5 Tryd.underlying9 Tryd.underlying27 Tryd.underlying5 _ rfl hmax ?_)
  intro v2 w2 o2 X
  have c2 := impl_FieldsSeq _ _ _ o2.bs (hW0.out.ext X) (hT0.out.ext X) HLL.out
  rw [HL.out] at c2
  clear o2
  go_wp2_with (go_at_call 28; refine c2.mono ?_)
  rintro _ w3 ⟨v3, rfl, o3, x3⟩
  replace X := X.trans x3
  clear x3 c2
  go_wp2_with (go_at_call 17; refine (laws_texts v3 L _ o3.bs (by omega)).mono ?_)
  rintro _ w4 ⟨v4, rfl, s4, x4⟩
  replace X := X.trans x4
  obtain ⟨a4, c4, e4, _, _, _⟩ := s4.raw
  subst e4
  clear x4 o3
  go_wp2_with (refine wpList_toBytes rfl 9 27 _ rfl 5 Tryd.underlying9 Tryd.underlying27 Tryd.underlying5 _ rfl hmax ?_)
  intro v5 w5 o5 x5
  replace X := X.trans x5
  replace s4 := s4.ext x5
  replace o5 := o5.bs
  clear x5
  go_wp2_with (go_at_call 12; refine (laws_test _ rs nt _ (B1.out.ext X) hz2).mono ?_)
  rintro _ w6 ⟨v6, rfl, i6, x6⟩
  obtain ⟨a6, c6, e6, _, _, _⟩ := i6.raw
  subst e6
  replace X := X.trans x6
  replace s4 := s4.ext x6
  have c7 := impl_FieldsFuncSeq _ _ _ rs nt _ (o5.ext x6) i6 (hT0.out.ext X) HLL.out
  rw [HM.out] at c7
  clear x6 o5 i6
  go_wp2_with (go_at_call 35; refine c7.mono ?_)
  rintro _ w7 ⟨v7, rfl, o7, x7⟩
  replace X := X.trans x7
  replace s4 := s4.ext x7
  clear x7 c7
  go_wp2_with (go_at_call 17; refine (laws_texts v7 M _ o7.bs (by omega)).mono ?_)
  rintro _ w8 ⟨v8, rfl, s8, x8⟩
  replace X := X.trans x8
  replace s4 := s4.ext x8
  clear x8 o7
  go_wp2_with (refine wpList_toBytes rfl 9 27 _ rfl 5 Tryd.underlying9 Tryd.underlying27 Tryd.underlying5 _ rfl hmax ?_)
  intro v9 w9 o9 x9
  replace X := X.trans x9
  replace s4 := s4.ext x9
  replace s8 := s8.ext x9
  replace o9 := o9.bs
  clear x9
  go_wp2_with (go_at_call 12; refine (laws_test _ rs nt _ (B1.out.ext X) hz2).mono ?_)
  rintro _ w10 ⟨v10, rfl, i10, x10⟩
  obtain ⟨a10, c10, e10, _, _, _⟩ := i10.raw
  subst e10
  replace X := X.trans x10
  replace s4 := s4.ext x10
  replace s8 := s8.ext x10
  have c11 := impl_FieldsFunc _ _ _ rs nt _ (o9.ext x10) i10 (hT0.out.ext X) HLL.out
  rw [HM.out] at c11
  clear x10 o9 i10
  go_wp2_with (go_at_call 19; refine c11.mono ?_)
  rintro _ w11 ⟨v11, rfl, o11, x11⟩
  replace X := X.trans x11
  replace s4 := s4.ext x11
  replace s8 := s8.ext x11
  clear x11 c11
  go_wp2_with (go_at_call 17; refine (laws_texts v11 M _ o11.bs (by omega)).mono ?_)
  rintro _ w12 ⟨v12, rfl, s12, x12⟩
  replace X := X.trans x12
  replace s4 := s4.ext x12
  replace s8 := s8.ext x12
  clear x12 o11
  go_wp2_with (go_at_call 16; refine (laws_same _ _ M M _ s8 s12 rfl).mono ?_)
  rintro _ w13 ⟨rfl, x13⟩
  replace X := X.trans x13
  replace s4 := s4.ext x13
  clear x13 s8 s12
  go_wp2_with (refine wpList_toBytes rfl 9 27 _ rfl 5 Tryd.underlying9 Tryd.underlying27 Tryd.underlying5 _ rfl hmax ?_)
  intro v14 w14 o14 x14
  replace X := X.trans x14
  replace s4 := s4.ext x14
  have c14 := impl_Fields _ _ _ o14.bs (hW0.out.ext X) (hT0.out.ext X) HLL.out
  rw [HL.out] at c14
  clear x14 o14
  go_wp2_with (go_at_call 18; refine c14.mono ?_)
  rintro _ w15 ⟨v15, rfl, o15, x15⟩
  replace X := X.trans x15
  replace s4 := s4.ext x15
  clear x15 c14
  go_wp2_with (go_at_call 17; refine (laws_texts v15 L _ o15.bs (by omega)).mono ?_)
  rintro _ w16 ⟨v16, rfl, s16, x16⟩
  replace X := X.trans x16
  replace s4 := s4.ext x16
  clear x16 o15
  go_wp2_with (go_at_call 16; refine (laws_same _ _ L L _ s4 s16 rfl).mono ?_)
  rintro _ w17 ⟨rfl, x17⟩
  replace X := X.trans x17
  clear x17 s4 s16
  go_wp2_with (refine wpList_toBytes rfl 9 27 _ rfl 5 Tryd.underlying9 Tryd.underlying27 Tryd.underlying5 _ rfl hmax ?_)
  intro v18 w18 o18 x18
  replace X := X.trans x18
  have c18 := spec_TrimSpace _ _ _ HLL.out o18.bs
  rw [HTT.out] at c18
  clear x18 o18
  go_wp2_with (go_at_call 20; refine c18.mono ?_)
  rintro _ w19 ⟨v19, rfl, o19, x19⟩
  replace X := X.trans x19
  replace o19 := o19.bs
  clear x19 c18
  rcases KEY.out with ⟨q1, q2⟩ | ⟨q1, q2⟩
  · have hq : ((L.length : Int) == 0) = true := by rw [q1]; rfl
    have hn2 : T.isEmpty = true := by rw [q2]; rfl
    clear q1 q2
    rw [hq]
    go_wp2_with (refine wpList_toString rfl 27 9 _ rfl 5 Tryd.underlying27 Tryd.underlying5 Tryd.underlying9 _ _ rfl o19 ?_)
    go_ret
    exact ⟨rfl, X.below⟩
  · have hq : ((L.length : Int) == 0) = false := by
      rw [beq_eq_false_iff_ne]
      have := List.length_pos_iff.2 q1
      omega
    have hn2 : T.isEmpty = false := by simpa using q2
    clear q1 q2
    rw [hq]
    go_wp2_with (refine wpList_toString rfl 27 9 _ rfl 5 Tryd.underlying27 Tryd.underlying5 Tryd.underlying9 _ _ rfl o19 ?_)
    go_ret
    exact ⟨rfl, X.below⟩
end Go.Proofs.YthbfdajbajijeaaDoor
