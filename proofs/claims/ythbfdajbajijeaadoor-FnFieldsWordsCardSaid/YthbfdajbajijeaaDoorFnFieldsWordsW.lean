/- The walk of the law FnFieldsWords: it returns true for every input. -/
import Derived.Test.YthbfdajbajijeaaDoorZE
import Derived.Test.YthbfdajbajijeaaDoorFieldsJ
import Derived.Test.YthbfdajbajijeaaDoorZC
import Derived.Test.YthbfdajbajijeaaDoorJoin
import Derived.Test.YthbfdajbajijeaaDoorMark
import Derived.Deep.DeepCutAuto
namespace Go.Proofs.YthbfdajbajijeaaDoor
open Go.RowKit

theorem ss_one (w : World) (e : TypeId) (s : ByteArray) (t : List UInt8) (h : (⟨t.toArray⟩ : ByteArray) = s) : Ss (w.alloc (.cells #[.string s] e)) (.slice (some ⟨w.heap.size, 0, none⟩) 1 1) [t] := by
  subst h
  refine ⟨rfl, _, 1, rfl, Nat.le_refl _, by unfold maxLen; omega, .inr ⟨w.heap.size, 0, rfl, fun i hi => ?_⟩⟩
  have h0 : i = 0 := by simp [svals] at hi; omega
  subst h0
  rw [World.cell?_alloc_mark]; rfl

set_option maxRecDepth 100000 in
set_option maxHeartbeats 8000000 in
theorem FnFieldsWords_walk (w : World) (hT : Tabs w) (hWh : White w) (a0 : ByteArray) (z0 : a0.size ≤ reachBytes) :
    Calls Tryd.prog 5 #[.string a0] w fun e w' => e = .returned (.bool true) ∧ Below w.heap.size w w' := by
  have hmax : a0.size ≤ maxLen := by unfold reachBytes at z0; unfold maxLen; omega
  have hmx := hmax
  unfold maxLen at hmx
  by_cases hbig : 16777216 < a0.size
  · have q1 : (16777216 : Int) < (a0.size : Int) := by omega
    clear hbig z0
    go_enter Tryd.func5, Tryd.ntmps5
    go_wp2_with fail
    go_ret
    exact ⟨rfl, Below.refl _ _⟩
  have q1 : ¬ (16777216 : Int) < (a0.size : Int) := by omega
  have es : a0.data.toList.length = a0.size := rfl
  have key3 := fieldsB_len wsP a0.data.toList
  have key5 := fieldsB_size wsP a0.data.toList
  have key1 : ∀ x ∈ fieldsB wsP a0.data.toList, x ≠ [] ∧ fieldsB wsP x = [x] ∧ tB wsP x = x ∧ hasIn a0.data.toList x = true ∧ x.length ≤ 16777216 := fun x hx => by
    have h1 := field_each wsP a0.data.toList x hx
    have h2 : Word wsP x := field_word hx
    have h3 := mem_size hx
    exact ⟨h1.1, h2.fields, h2.trim, h1.2.2, by omega⟩
  have key2 := fields_none_trim wsP a0.data.toList
  have key4 := fields_join wsP 32 [] (by decide) (by intro y hy; simp at hy; subst hy; exact (wsP_iff _).2 (by simp)) (fieldsB wsP a0.data.toList) (fun x hx => field_word hx)
  have key6 := lens_size (fieldsB wsP a0.data.toList)
  have key7 := join_len (fieldsB wsP a0.data.toList) [32]
  obtain ⟨L, hL⟩ : ∃ L, fieldsB wsP a0.data.toList = L := ⟨_, rfl⟩
  obtain ⟨T, hTT⟩ : ∃ T, tB wsP a0.data.toList = T := ⟨_, rfl⟩
  rw [hL] at key1 key2 key3 key4 key5 key6 key7
  rw [hTT] at key2
  rw [es] at key3 key5
  obtain ⟨J, hJ⟩ : ∃ J, Lib.join L [32] = J := ⟨_, rfl⟩
  rw [hJ] at key4 key7
  have hlj : Lib.lens L + ([32] : List UInt8).length * (L.length - 1) ≤ 33554432 := by simp; omega
  have hJn : J.length ≤ 33554432 := by omega
  have HLJ := Lib.hid (show Lib.lens L + ([32] : List UInt8).length * (L.length - 1) ≤ 140737488355328 by omega)
  have mj : (⟨J.toArray⟩ : ByteArray).size ≤ maxLen := by show J.length ≤ _; unfold maxLen; omega
  have HL := Lib.hid hL
  have HTT := Lib.hid hTT
  have HJ := Lib.hid hJ
  have K1 := Lib.hid key1
  have KJ := Lib.hid key4
  have hLn : L.length ≤ 16777216 := by omega
  obtain ⟨E, hE⟩ : ∃ E, ((L.length : Int) == 0) = E := ⟨_, rfl⟩
  have hE2 : T.isEmpty = E := by
    rw [← hE, Bool.eq_iff_iff, List.isEmpty_iff, beq_iff_eq]
    exact key2.symm
  have HE := Lib.hid hE
  have HE2 := Lib.hid hE2
  have HEN := Lib.hid (show (E != E) = false by simp)
  have HTa := Lib.hid hT
  have HWa := Lib.hid hWh
  have HLB := Lib.hid (show a0.data.toList.length ≤ 1099511627776 by omega)
  clear hbig hL hTT hJ key1 key2 key3 key4 key5 key6 key7 hlj hE hE2 hT hWh es z0
  go_enter Tryd.func5, Tryd.ntmps5
  go_wp2_with (refine wpList_toBytes rfl 9 27 _ rfl 5 Tryd.underlying9 Tryd.underlying27 Tryd.underlying5 _ rfl hmax ?_)
  intro v1 w1 o1 X
  have c2 := impl_Fields _ _ _ o1.bs (HWa.out.ext X) (HTa.out.ext X) HLB.out
  rw [HL.out] at c2
  clear o1
  go_wp2_with (go_at_call 18; refine c2.mono ?_)
  rintro _ w2 ⟨v2, rfl, o2, x2⟩
  replace X := X.trans x2
  clear x2 c2
  go_wp2_with (go_at_call 17; refine (laws_texts v2 L _ o2.bs (by omega)).mono ?_)
  rintro _ w3 ⟨v3, rfl, s3, x3⟩
  replace X := X.trans x3
  clear x3 o2
  obtain ⟨a3, c3, rfl, p3, q3, e3⟩ := s3.raw
  have hc3 : c3 ≤ 9223372036854775807 := by unfold maxLen at q3; omega
  have HC := Lib.hid e3
  have HS3 := Lib.hid s3
  have HX3 := Lib.hid X
  clear e3 q3 s3
  go_wp2_with (refine wpList_toBytes rfl 9 27 _ rfl 5 Tryd.underlying9 Tryd.underlying27 Tryd.underlying5 _ rfl hmax ?_)
  intro v4 w4 o4 x4
  have c5 := spec_TrimSpace _ _ _ HLB.out o4.bs
  rw [HTT.out] at c5
  clear o4
  go_wp2_with (go_at_call 20; refine c5.mono ?_)
  rintro _ w5 ⟨v5, rfl, o5, x5⟩
  have Y := x4.trans x5
  have q5 := o5.bs
  clear x4 x5 o5 c5 X
  have he1 := HE.out
  have he2 := HE2.out
  have he3 := HEN.out
  go_wp2_with (refine wpList_toString rfl 27 9 _ rfl 5 Tryd.underlying27 Tryd.underlying5 Tryd.underlying9 _ _ rfl q5 ?_)
  go_wp2_with fail
  clear he1 he2 he3 q5
  have HY := Lib.hid Y
  clear Y
  go_loopg [5, 24] L.length (fun k _ i wr => ∃ j : Nat, j + k = L.length ∧ i = .int .i64 j ∧ Ext w3 wr)
  case atStart => exact ⟨0, by omega, rfl, HY.out⟩
  case round =>
    obtain ⟨j, hj, rfl, hx⟩ := hrel
    have HJJ := Lib.hid hj
    have HX := Lib.hid hx
    by_cases hlt : j < L.length
    · have hg : 0 < gk := by omega
      obtain ⟨b, o, rfl, d0⟩ := HC.out j hlt
      replace d0 := hx.cell d0
      have k1 := K1.out _ (List.getElem_mem hlt)
      obtain ⟨t, ht⟩ : ∃ t, L[j] = t := ⟨_, rfl⟩
      rw [ht] at d0 k1
      obtain ⟨t1, t2, t3, t4, t5⟩ := k1
      have hmt : (⟨t.toArray⟩ : ByteArray).size ≤ maxLen := by show t.length ≤ _; unfold maxLen; omega
      have ht0 : (⟨t.toArray⟩ : ByteArray).toList.isEmpty = false := by rw [ByteArray.toList_eq]; cases t with | nil => exact absurd rfl t1 | cons x y => rfl
      have hst : (⟨t.toArray⟩ : ByteArray).data.toList = t := rfl
      obtain ⟨s, hs⟩ : ∃ s, (⟨t.toArray⟩ : ByteArray) = s := ⟨_, rfl⟩
      rw [hs] at d0 hmt ht0 hst
      have HST := Lib.hid hst
      have HSS := Lib.hid hs
      have T2 := Lib.hid t2
      have T3 := Lib.hid t3
      have T4 := Lib.hid t4
      have hself : (s.toList != s.toList) = false := by simp
      clear hj ht t1 t2 t3 t4 hs hst hx
      go_wp2_with (refine wpList_toBytes rfl 9 27 _ rfl 5 Tryd.underlying9 Tryd.underlying27 Tryd.underlying5 _ rfl hmt ?_)
      intro v8 w8 o8 x8
      have o8 : Bs w8 v8 t := HST.out ▸ o8.bs
      have X8 := HX.out.trans x8
      have c9 := impl_TrimSpace _ _ _ o8 (HWa.out.ext (HX3.out.trans X8)) (HTa.out.ext (HX3.out.trans X8)) (by omega)
      rw [T3.out] at c9
      clear x8 o8
      go_wp2_with (go_at_call 14; refine c9.mono ?_)
      rintro _ w9 ⟨v9, rfl, o9, x9⟩
      replace X8 := X8.trans x9
      have q9 := o9.bs
      clear o9 x9 c9
      go_wp2_with (first | (refine wpList_toString rfl 27 9 _ rfl 5 Tryd.underlying27 Tryd.underlying5 Tryd.underlying9 _ _ rfl q9 ?_; rw [HSS.out]) | refine wpList_toBytes rfl 9 27 _ rfl 5 Tryd.underlying9 Tryd.underlying27 Tryd.underlying5 _ rfl hmt ?_)
      intro v10 w10 o10 x10
      have o10 : Bs w10 v10 t := HST.out ▸ o10.bs
      replace X8 := X8.trans x10
      have c11 := impl_Fields _ _ _ o10 (HWa.out.ext (HX3.out.trans X8)) (HTa.out.ext (HX3.out.trans X8)) (by omega)
      rw [T2.out] at c11
      clear x10 o10 q9
      go_wp2_with (go_at_call 18; refine c11.mono ?_)
      rintro _ w11 ⟨v11, rfl, o11, x11⟩
      replace X8 := X8.trans x11
      clear x11 c11
      go_wp2_with (go_at_call 17; refine (laws_texts v11 [t] _ o11.bs (by simp)).mono ?_)
      rintro _ w12 ⟨v12, rfl, s12, x12⟩
      replace X8 := (X8.trans x12).trans (Ext.alloc w12 (.cells #[.string s] 9))
      have s13 := ss_one w12 9 s t HSS.out
      replace s12 := s12.ext (Ext.alloc w12 (.cells #[.string s] 9))
      clear x12 o11
      go_wp2_with (go_at_call 16; refine (laws_same _ _ [t] [t] _ s12 s13 rfl).mono ?_)
      rintro _ w14 ⟨rfl, x14⟩
      replace X8 := X8.trans x14
      clear x14 s12 s13
      go_wp2_with (refine wpList_toBytes rfl 9 27 _ rfl 5 Tryd.underlying9 Tryd.underlying27 Tryd.underlying5 _ rfl hmax ?_)
      intro v15 w15 o15 x15
      go_wp2_with (refine wpList_toBytes rfl 9 27 _ rfl 5 Tryd.underlying9 Tryd.underlying27 Tryd.underlying5 _ rfl hmt ?_)
      intro v16 w16 o16 x16
      have o16 : Bs w16 v16 t := HST.out ▸ o16.bs
      replace X8 := (X8.trans x15).trans x16
      go_wp2_with (go_at_call 23; refine (spec_Contains _ _ a0.data.toList t _ (o15.bs.ext x16) o16 (by show a0.size ≤ _; omega) (by omega)).mono ?_)
      rintro _ w17 ⟨rfl, x17⟩
      rw [T4.out]
      replace X8 := X8.trans x17
      clear x15 x16 x17 o15 o16
      go_wp2_with fail
      go_roundg (gk - 1)
      case measure => omega
      case rel => exact ⟨j + 1, by have := HJJ.out; omega, by go_num, X8⟩
    · clear hj
      go_wp2_with (go_at_call 25; refine (laws_lists _ L _ (HS3.out.ext hx) (by omega) (fun l hl => by have := (K1.out l hl).2.2.2.2; omega)).mono ?_)
      rintro _ w8 ⟨v8, rfl, o8, x8⟩
      have b8 := (Bs.one w8 5 32)
      have X8 := hx.trans x8
      have HO8 := Lib.hid o8.bs
      have HB8 := Lib.hid b8
      have HX8 := Lib.hid X8
      clear hx x8 o8 b8 X8 HX
      go_wp2_with (refine wpList_mark rfl 27 5 _ rfl Tryd.underlying27 Tryd.underlying5 w8.heap.size 1 1 rfl ?_)
      intro w9 hc
      have b9 := HB8.out.rc (hc _ (Nat.le_refl _))
      have x9 : Ext w8 w9 := ⟨(Ext.alloc w8 _).below.trans (hc _ (Nat.le_refl _)).below⟩
      have X9 := HX8.out.trans x9
      have o9 := HO8.out.ext x9
      clear hc x9
      go_wp2_with (go_at_call 24; refine (impl_Join _ _ L [32] _ o9 b9 (by omega) HLJ.out).mono ?_)
      rintro _ w10 ⟨v10, rfl, o10, x10⟩
      rw [HJ.out] at o10
      replace X9 := X9.trans x10
      have q10 := o10.bs
      clear x10 o10 o9 b9
      go_wp2_with (first | refine wpList_toString rfl 27 9 _ rfl 5 Tryd.underlying27 Tryd.underlying5 Tryd.underlying9 _ _ rfl q10 ?_ | refine wpList_toBytes rfl 9 27 _ rfl 5 Tryd.underlying9 Tryd.underlying27 Tryd.underlying5 _ rfl mj ?_)
      intro v11 w11 o11 x11
      replace X9 := X9.trans x11
      have c12 := impl_Fields _ J _ o11.bs (HWa.out.ext (HX3.out.trans X9)) (HTa.out.ext (HX3.out.trans X9)) (by omega)
      rw [KJ.out] at c12
      clear x11 o11 q10
      go_wp2_with (go_at_call 18; refine c12.mono ?_)
      rintro _ w12 ⟨v12, rfl, o12, x12⟩
      replace X9 := X9.trans x12
      clear x12 c12
      go_wp2_with (go_at_call 17; refine (laws_texts v12 L _ o12.bs (by omega)).mono ?_)
      rintro _ w13 ⟨v13, rfl, s13, x13⟩
      replace X9 := X9.trans x13
      clear x13 o12
      go_wp2_with (go_at_call 16; refine (laws_same _ _ L L _ s13 (HS3.out.ext X9) rfl).mono ?_)
      rintro _ w14 ⟨rfl, x14⟩
      go_wp2_with fail
      go_ret
      exact ⟨rfl, ((HX3.out.trans X9).trans x14).below⟩
end Go.Proofs.YthbfdajbajijeaaDoor
