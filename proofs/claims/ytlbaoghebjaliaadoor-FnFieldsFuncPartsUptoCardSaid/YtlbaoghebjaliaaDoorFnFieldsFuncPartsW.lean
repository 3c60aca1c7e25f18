/- The walk of the law FnFieldsFuncParts: it returns true where the text has at most 2^20 bytes. -/
import Derived.Test.YtlbaoghebjaliaaDoorAppV
import Derived.Test.YtlbaoghebjaliaaDoorFuncW2
import Derived.Test.YtlbaoghebjaliaaDoorFieldsW
import Derived.Test.YtlbaoghebjaliaaDoorFieldsQ
import Derived.Test.YtlbaoghebjaliaaDoorTexts
import Derived.Deep.DeepCutAuto
namespace Go.Proofs.YtlbaoghebjaliaaDoor
open Go.RowKit

set_option maxRecDepth 100000 in
set_option maxHeartbeats 8000000 in
theorem FnFieldsFuncParts_walk (w : World) (hT : Tabs w) (a0 : ByteArray) (z0 : a0.size ≤ 1048576) (v1 : Value) (rs : List Int) (b1 : Is w v1 rs) (z1 : rs.length ≤ 1048576) (nt : Bool) :
    Calls Tryd.prog 3 #[.string a0, v1, .bool nt] w fun e w' => e = .returned (.bool true) ∧ Below w.heap.size w w' := by
  have hmax : a0.size ≤ maxLen := by unfold maxLen; omega
  have hz2 : rs.length ≤ 35184372088832 := by omega
  have es : a0.data.toList.length = a0.size := rfl
  have key1 := fun x hx => field_each (holdsT rs nt) a0.data.toList x hx
  have key2 := fields_none rs nt a0.data.toList
  have key3 := fieldsB_len (holdsT rs nt) a0.data.toList
  have key4 : ∀ x ∈ fieldsB (holdsT rs nt) a0.data.toList, x.length ≤ 1048576 := fun x hx => by
    have h1 := mem_size hx
    have h2 := fieldsB_size (holdsT rs nt) a0.data.toList
    omega
  obtain ⟨L, hL⟩ : ∃ L, fieldsB (holdsT rs nt) a0.data.toList = L := ⟨_, rfl⟩
  obtain ⟨K, hK⟩ : ∃ K, firstC (holdsT rs (!nt)) 0 (chunks a0.data.toList) = K := ⟨_, rfl⟩
  rw [hL] at key1 key2 key3 key4
  rw [hK] at key2
  rw [es] at key3
  have HL := Lib.hid hL
  have HK := Lib.hid hK
  have K1 := Lib.hid key1
  have K4 := Lib.hid key4
  have K2 := Lib.hid (show ((L.length : Int) == 0) = decide (K < 0) by rw [← key2, Bool.eq_iff_iff]; simp)
  have hLn : L.length ≤ 1048576 := by omega
  have B1 := Lib.hid b1
  clear hL hK key1 key4 key2 key3 es
  go_enter Tryd.func3, Tryd.ntmps3
  go_wp2_with (go_at_call 15; refine (laws_test _ rs _ _ b1 hz2).mono ?_)
  rintro _ w2 ⟨v2, rfl, i2, x2⟩
  obtain ⟨a2, c2, rfl, _, _, _⟩ := i2.raw
  replace hT := hT.ext x2
  clear b1
  go_upto_region 2 with fail
  obtain ⟨n, hn⟩ : ∃ n, w2.heap.size = n := ⟨_, rfl⟩
  have x4 : Ext w2 (w2.alloc (.cells #[.slice a2 rs.length c2, .bool nt] 24)) := Ext.alloc _ _
  have f0 : (w2.alloc (.cells #[.slice a2 rs.length c2, .bool nt] 24)).cell? ⟨n, 0, none⟩ = some (.slice a2 rs.length c2) := by rw [← hn, World.cell?_alloc_mark]; rfl
  have f1 : (w2.alloc (.cells #[.slice a2 rs.length c2, .bool nt] 24)).cell? ⟨n, 1, none⟩ = some (.bool nt) := by rw [← hn, World.cell?_alloc_mark]; rfl
  obtain ⟨w4, hw4⟩ : ∃ w4, w2.alloc (.cells #[.slice a2 rs.length c2, .bool nt] 24) = w4 := ⟨_, rfl⟩
  rw [hw4] at x4 f0 f1 ⊢
  rw [hn]
  replace i2 := i2.ext x4
  replace hT := hT.ext x4
  have X4 := x2.trans x4
  clear hn hw4 x4 x2
  go_wp2_with (refine wpList_toBytes rfl 9 30 _ rfl 5 Tryd.underlying9 Tryd.underlying30 Tryd.underlying5 _ rfl hmax ?_)
  intro v5 w5 o5 x5
  replace f0 := x5.cell f0
  replace f1 := x5.cell f1
  replace i2 := i2.ext x5
  replace hT := hT.ext x5
  replace X4 := X4.trans x5
  have q5 := o5.bs
  clear o5 x5
  go_wp2_with (go_at_call 17; refine (impl_FieldsFunc _ _ _ rs nt _ q5 i2 hT (by show a0.size ≤ _; omega)).mono ?_)
  rintro _ w6 ⟨v6, rfl, o6, x6⟩
  replace f0 := x6.cell f0
  replace f1 := x6.cell f1
  replace i2 := i2.ext x6
  replace hT := hT.ext x6
  replace X4 := X4.trans x6
  rw [HL.out] at o6
  clear x6 q5
  go_wp2_with (go_at_call 16; refine (laws_texts v6 L _ o6.bs (by omega)).mono ?_)
  rintro _ w7 ⟨v7, rfl, s7, x7⟩
  replace f0 := x7.cell f0
  replace f1 := x7.cell f1
  have HI := Lib.hid (i2.ext x7)
  have HT := Lib.hid (hT.ext x7)
  have HX := Lib.hid (X4.trans x7)
  clear x7 o6 i2 hT X4
  obtain ⟨a7, c7, rfl, p7, q7, e7⟩ := s7.raw
  have hc7 : c7 ≤ 9223372036854775807 := by unfold maxLen at q7; omega
  have HC := Lib.hid e7
  clear e7 q7 s7
  go_wp2_with fail
  go_loopg [10, 21] L.length (fun k _ i wr => ∃ j : Nat, j + k = L.length ∧ i = .int .i64 j ∧ Ext w7 wr)
  case atStart => exact ⟨0, by omega, rfl, Ext.refl _⟩
  case round =>
    obtain ⟨j, hj, rfl, hx⟩ := hrel
    have HJ := Lib.hid hj
    replace f0 := hx.cell f0
    replace f1 := hx.cell f1
    by_cases hlt : j < L.length
    · have hg : 0 < gk := by omega
      obtain ⟨b, o, rfl, c0⟩ := HC.out j hlt
      replace c0 := hx.cell c0
      have k1 := K1.out _ (List.getElem_mem hlt)
      have k4 := K4.out _ (List.getElem_mem hlt)
      obtain ⟨t, ht⟩ : ∃ t, L[j] = t := ⟨_, rfl⟩
      rw [ht] at c0 k1 k4
      obtain ⟨t1, t2, t3⟩ := k1
      have hmt : (⟨t.toArray⟩ : ByteArray).size ≤ maxLen := by show t.length ≤ _; unfold maxLen; omega
      have ht0 : (⟨t.toArray⟩ : ByteArray).toList.isEmpty = false := by rw [ByteArray.toList_eq]; cases t with | nil => exact absurd rfl t1 | cons x y => rfl
      have hst : (⟨t.toArray⟩ : ByteArray).data.toList = t := rfl
      obtain ⟨s, hs⟩ : ∃ s, (⟨t.toArray⟩ : ByteArray) = s := ⟨_, rfl⟩
      rw [hs] at c0 hmt ht0 hst
      have HST := Lib.hid hst
      clear hs hst
      have T2 := Lib.hid t2
      have T3 := Lib.hid t3
      have HXX := Lib.hid hx
      clear hj ht t1 t2 t3 hx
      go_wp2_with (refine wpList_toBytes rfl 9 30 _ rfl 5 Tryd.underlying9 Tryd.underlying30 Tryd.underlying5 _ rfl hmt ?_)
      intro v8 w8 o8 x8
      have o8 : Bs w8 v8 t := HST.out ▸ o8.bs
      replace f0 := x8.cell f0
      replace f1 := x8.cell f1
      have x9 := HXX.out.trans x8
      clear x8
      go_wp2_with (go_at_call 18; refine (impl_IndexFunc _ t _ rs nt _ o8 (HI.out.ext x9) (HT.out.ext x9)).mono ?_)
      rintro _ w10 ⟨rfl, x10⟩
      rw [T2.out]
      have x11 := x9.trans x10
      clear x9 x10 o8 ht0
      go_wp2_with (refine wpList_toBytes rfl 9 30 _ rfl 5 Tryd.underlying9 Tryd.underlying30 Tryd.underlying5 _ rfl hmax ?_)
      intro v12 w12 o12 x12
      go_wp2_with (refine wpList_toBytes rfl 9 30 _ rfl 5 Tryd.underlying9 Tryd.underlying30 Tryd.underlying5 _ rfl hmt ?_)
      intro v13 w13 o13 x13
      have o13 : Bs w13 v13 t := HST.out ▸ o13.bs
      have x14 := (x11.trans x12).trans x13
      go_wp2_with (go_at_call 19; refine (spec_Contains _ _ a0.data.toList t _ (o12.bs.ext x13) o13 (by show a0.size ≤ _; omega) (by omega)).mono ?_)
      rintro _ w15 ⟨rfl, x15⟩
      rw [T3.out]
      have x16 := x14.trans x15
      clear x11 x12 x13 x14 x15 o12 o13
      go_wp2_with fail
      go_roundg (gk - 1)
      case measure => omega
      case rel => exact ⟨j + 1, by have := HJ.out; omega, by go_num, x16⟩
    · clear hj
      have HXX := Lib.hid hx
      clear hx
      go_wp2_with (refine wpList_toBytes rfl 9 30 _ rfl 5 Tryd.underlying9 Tryd.underlying30 Tryd.underlying5 _ rfl hmax ?_)
      intro v8 w8 o8 x8
      have x9 := (HX.out.trans HXX.out).trans x8
      go_wp2_with (go_at_call 15; refine (laws_test _ rs _ _ (B1.out.ext x9) hz2).mono ?_)
      rintro _ w10 ⟨v10, rfl, i10, x10⟩
      go_wp2_with (go_at_call 20; refine (spec_IndexFunc _ a0.data.toList _ rs (!nt) _ (by show a0.size ≤ _; omega) (o8.bs.ext x10) i10).mono ?_)
      rintro _ w11 ⟨rfl, x11⟩
      rw [HK.out]
      have X := (x9.trans x10).trans x11
      clear x8 x9 x10 x11 o8 i10
      go_wp2_with fail
      go_ret
      exact ⟨by rw [K2.out]; simp, X.below⟩
end Go.Proofs.YtlbaoghebjaliaaDoor
