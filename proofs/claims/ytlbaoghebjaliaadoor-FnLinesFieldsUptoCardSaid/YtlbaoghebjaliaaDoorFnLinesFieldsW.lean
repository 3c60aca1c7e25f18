/- The walk of the law FnLinesFields: it returns true where the text has at most 2^20 bytes. -/
import Derived.Test.YtlbaoghebjaliaaDoorAppV
import Derived.Test.YtlbaoghebjaliaaDoorFieldsW
import Derived.Test.YtlbaoghebjaliaaDoorLinesQ
import Derived.Test.YtlbaoghebjaliaaDoorGlued
import Derived.Deep.DeepCutAuto
import Derived.Lib.SlBytesConst
namespace Go.Proofs.YtlbaoghebjaliaaDoor
open Go.RowKit

theorem is_one (w : World) (e : TypeId) (r : Int) : Is (w.alloc (.cells #[.int .i32 r] e)) (.slice (some ⟨w.heap.size, 0, none⟩) 1 1) [r] := by
  refine ⟨rfl, _, 1, rfl, Nat.le_refl _, by unfold maxLen; decide, ?_⟩
  refine .inr ⟨_, _, rfl, fun i h => ?_⟩
  have h0 : i = 0 := by have : i < 1 := h; omega
  subst h0
  rw [World.cell?_alloc_mark]; rfl

theorem bs_lf (w : World) (e : TypeId) : Bs (w.alloc (.cells #[.int .u8 10] e (1, 2))) (.slice (some ⟨w.heap.size, 0, none⟩) 1 1) [10] := by
  refine ⟨_, 1, rfl, Nat.le_refl _, by unfold maxLen; decide, .inr ⟨_, _, rfl, fun i h => ?_⟩⟩
  have h0 : i = 0 := by have : i < 1 := h; omega
  subst h0
  rw [World.cell?_alloc_mark]; rfl

set_option maxRecDepth 100000 in
set_option maxHeartbeats 8000000 in
theorem FnLinesFields_walk (w : World) (hT : Tabs w) (a0 : ByteArray) (z0 : a0.size ≤ 1048576) :
    Calls Tryd.prog 5 #[.string a0] w fun e w' => e = .returned (.bool true) ∧ Below w.heap.size w w' := by
  have hmax : a0.size ≤ maxLen := by unfold maxLen; omega
  have es : a0.data.toList.length = a0.size := rfl
  have key1 := lines_fields _ a0.data.toList (Nat.le_refl _)
  have key2 := linesB_len a0.data.toList
  have key3 : ∀ x ∈ linesB a0.data.toList, x.length ≤ 1048576 := fun x hx => by
    have := linesB_each hx
    omega
  have key4 : (⟨(linesB a0.data.toList).flatten.toArray⟩ : ByteArray) = a0 := by rw [linesB_flat]
  have key5 := fieldsB_len (holdsT [10] false) a0.data.toList
  have key6 : (linesB a0.data.toList).flatten.length ≤ 140737488355328 := by rw [linesB_flat]; omega
  obtain ⟨L, hL⟩ : ∃ L, linesB a0.data.toList = L := ⟨_, rfl⟩
  obtain ⟨M, hM⟩ : ∃ M, fieldsB (holdsT [10] false) a0.data.toList = M := ⟨_, rfl⟩
  rw [hL] at key1 key2 key3 key4 key6
  rw [hM] at key1 key5
  rw [es] at key2 key5
  have HL := Lib.hid hL
  have HM := Lib.hid hM
  have K1 := Lib.hid key1
  have K3 := Lib.hid key3
  have K4 := Lib.hid key4
  have hLn : L.length ≤ 1048577 := by omega
  have hMn : M.length ≤ 1048576 := by omega
  have HT := Lib.hid hT
  clear hL hM key1 key2 key3 key4 key5 es hT
  go_enter Tryd.func5, Tryd.ntmps5
  go_wp2_with (refine wpList_toBytes rfl 9 30 _ rfl 5 Tryd.underlying9 Tryd.underlying30 Tryd.underlying5 _ rfl hmax ?_)
  intro v5 w5 o5 x5
  have c6 := impl_Lines _ _ _ o5.bs (by show a0.size ≤ _; omega)
  rw [HL.out] at c6
  go_wp2_with (go_at_call 26; refine c6.mono ?_)
  rintro _ w6 ⟨v6, rfl, o6, x6⟩
  clear c6
  go_wp2_with (go_at_call 16; refine (laws_texts v6 L _ o6.bs (by omega)).mono ?_)
  rintro _ w7 ⟨v7, rfl, s7, x7⟩
  have HX := Lib.hid ((x5.trans x6).trans x7)
  clear x7 x6 x5 o6 o5
  obtain ⟨a7, c7, rfl, p7, q7, e7⟩ := s7.raw
  have hc7 : c7 ≤ 9223372036854775807 := by unfold maxLen at q7; omega
  have HC := Lib.hid e7
  clear e7 q7 s7
  go_wp2_with fail
  go_loopg [3, 12] L.length (fun k o i wr => ∃ j : Nat, j + k = L.length ∧ i = .int .i64 j ∧ wr.ownsRow w7.heap.size 9 1 o (bareL (L.take j)).length (svals (bareL (L.take j))) ∧ Ext w7 wr)
  case atStart => exact ⟨0, by omega, rfl, World.ownsRow_nil _ _ _ _, Ext.refl _⟩
  case round =>
    obtain ⟨j, hj, rfl, hgr, hx⟩ := hrel
    have HJ := Lib.hid hj
    by_cases hlt : j < L.length
    · have hg : 0 < gk := by omega
      obtain ⟨b, o, rfl, c0⟩ := HC.out j hlt
      replace c0 := hx.cell c0
      have k3 := K3.out _ (List.getElem_mem hlt)
      have hstep : bareL (L.take (j + 1)) = bareL (L.take j) ++ oneOf (cutSuf L[j] [10]) := by
        rw [List.take_succ_eq_append_getElem hlt, bareL_append, bareL_one]
      have hlen : (bareL (L.take j)).length ≤ 1048577 := by
        have h1 : (bareL (L.take j)).length ≤ ((L.take j).map fun p => cutSuf p [10]).length := List.length_filter_le _ _
        rw [List.length_map, List.length_take] at h1
        omega
      obtain ⟨A, hA⟩ : ∃ A, bareL (L.take j) = A := ⟨_, rfl⟩
      obtain ⟨t, ht⟩ : ∃ t, L[j] = t := ⟨_, rfl⟩
      rw [ht] at c0 k3 hstep
      rw [hA] at hgr hlen hstep
      have hcl := cutSuf_len t [10]
      obtain ⟨T, hTT⟩ : ∃ T, cutSuf t [10] = T := ⟨_, rfl⟩
      rw [hTT] at hstep hcl
      have HTT := Lib.hid hTT
      have HS := Lib.hid hstep
      have hmt : (⟨t.toArray⟩ : ByteArray).size ≤ maxLen := by show t.length ≤ _; unfold maxLen; omega
      have hst : (⟨t.toArray⟩ : ByteArray).data.toList = t := rfl
      obtain ⟨s, hs⟩ : ∃ s, (⟨t.toArray⟩ : ByteArray) = s := ⟨_, rfl⟩
      rw [hs] at c0 hmt hst
      have HST := Lib.hid hst
      have HG := Lib.hid hgr
      have HXX := Lib.hid hx
      clear hj ht hx hs hst hA hTT hstep hgr
      go_wp2_with (refine wpList_toBytes rfl 9 30 _ rfl 5 Tryd.underlying9 Tryd.underlying30 Tryd.underlying5 _ rfl hmt ?_)
      intro v8 w8 o8 x8
      have o8 : Bs w8 v8 t := HST.out ▸ o8.bs
      have x9 : Ext w8 (w8.alloc (.cells #[.int .u8 10] 5 (1, 2))) := Ext.alloc _ _
      have b9 := bs_lf w8 5
      have hconv : (convert 30 30 (.slice (some ⟨w8.heap.size, 0, none⟩) 1 1)).run Tryd.prog (w8.alloc (.cells #[.int .u8 10] 5)) = .ok (.slice (some ⟨w8.heap.size, 0, none⟩) 1 1) (w8.alloc (.cells #[.int .u8 10] 5 (1, 2))) := Lib.run_convert_bytes_const w8 30 5 #[.int .u8 10] 1 1 Tryd.underlying30 Tryd.underlying5
      have cT := impl_TrimSuffix _ _ t [10] _ (o8.ext x9) b9 (by omega)
      rw [HTT.out] at cT
      have X9 := x8.trans x9
      clear x8 x9 b9 o8
      go_wp2_with (go_at_call 27; refine cT.mono ?_)
      rintro _ w10 ⟨v10, rfl, o10, x10⟩
      have HXT := Lib.hid (HXX.out.trans (X9.trans x10))
      have HG2 := Lib.hid (owns_keep HG.out (X9.trans x10))
      have q10 := o10.bs
      clear X9 x10 o10 cT HXX HG hconv
      by_cases hte : T = []
      · subst hte
        have HSE := Lib.hid (show bareL (L.take (j + 1)) = A by rw [HS.out]; simp [oneOf])
        go_wp2_with (refine wpList_toString rfl 30 9 _ rfl 5 Tryd.underlying30 Tryd.underlying5 Tryd.underlying9 _ _ rfl q10 ?_)
        go_roundg (gk - 1)
        case measure => omega
        case rel => exact ⟨j + 1, by have := HJ.out; omega, by go_num, by rw [HSE.out]; exact HG2.out, HXT.out⟩
      · have hT0 : T.isEmpty = false := by cases T with | nil => exact absurd rfl hte | cons x y => rfl
        have HSE := Lib.hid (show bareL (L.take (j + 1)) = A ++ [T] by rw [HS.out]; simp [oneOf, hte])
        have O3 := Lib.hid (owns_keep HG2.out (Ext.alloc w10 (.cells #[.string ⟨T.toArray⟩] 9)))
        have hsz : w7.heap.size ≤ w10.heap.size := HXT.out.size
        go_wp2_with (first | refine wpList_toString rfl 30 9 _ rfl 5 Tryd.underlying30 Tryd.underlying5 Tryd.underlying9 _ _ rfl q10 ?_ | refine wpList_appendV rfl 26 _ _ rfl 9 1 16 _ Tryd.underlying26 info_string rfl (by omega) w7.heap.size _ _ _ rfl O3.out _ 1 _ [_] rfl rfl (news_alloc _ _ _) (by simp [Value.oneCell']) (by omega) (by omega) (by simp; omega) ?_)
        intro v11 w11 h11 g11
        have B11 := owns_grown O3.out g11 (by simp; omega) (below_ext HXT.out.below (Ext.alloc w10 _) HXT.out.size) (Nat.le_refl _)
        have H11 := Lib.hid h11
        have HB11 := Lib.hid B11
        clear B11 h11 g11
        go_wp2_with fail
        go_roundg (gk - 1)
        case measure => omega
        case rel =>
          refine ⟨j + 1, by have := HJ.out; omega, by go_num, ?_, ⟨HB11.out⟩⟩
          rw [HSE.out]
          have := H11.out
          rw [List.length_append, List.length_singleton]
          simpa [svals] using this
    · have HTK := Lib.hid (show bareL (L.take j) = M by rw [List.take_of_length_le (by omega), K1.out])
      have s8 := vs_of_owns hgr
      rw [HTK.out] at s8
      replace s8 : Ss _ _ M := s8
      have X := HX.out.trans hx
      clear hj hgr hx
      obtain ⟨a8, c8, e8, _⟩ := s8.raw
      subst e8
      go_wp2_with (refine wpList_toBytes rfl 9 30 _ rfl 5 Tryd.underlying9 Tryd.underlying30 Tryd.underlying5 _ rfl hmax ?_)
      intro v9 w9 o9 x9
      have x10 : Ext w9 (w9.alloc (.cells #[.int .i32 10] 21)) := Ext.alloc _ _
      have i10 : Is (w9.alloc (.cells #[.int .i32 10] 21)) (.slice (some ⟨w9.heap.size, 0, none⟩) 1 1) [10] := is_one w9 21 10
      have cT := laws_test _ [10] false _ i10 (by simp)
      have q10 := o9.bs.ext x10
      replace s8 := s8.ext (x9.trans x10)
      replace X := X.trans (x9.trans x10)
      clear x9 x10 o9 i10
      go_wp2_with (go_at_call 15; refine cT.mono ?_)
      rintro _ w11 ⟨v11, rfl, i11, x11⟩
      replace s8 := s8.ext x11
      replace X := X.trans x11
      have c12 := impl_FieldsFunc _ _ _ [10] false _ (q10.ext x11) i11 (HT.out.ext X) (by show a0.size ≤ _; omega)
      rw [HM.out] at c12
      obtain ⟨a11, e11, f11, _⟩ := i11.raw
      subst f11
      clear x11 q10 cT
      go_wp2_with (go_at_call 17; refine c12.mono ?_)
      rintro _ w12 ⟨v12, rfl, o12, x12⟩
      replace s8 := s8.ext x12
      replace X := X.trans x12
      clear x12 c12
      go_wp2_with (go_at_call 16; refine (laws_texts _ M _ o12.bs (by omega)).mono ?_)
      rintro _ w13 ⟨v13, rfl, o13, x13⟩
      replace s8 := s8.ext x13
      replace X := X.trans x13
      clear x13 o12
      go_wp2_with (go_at_call 22; refine (laws_same _ _ M M _ s8 o13 rfl).mono ?_)
      rintro _ w14 ⟨rfl, x14⟩
      replace X := X.trans x14
      clear x14 o13 s8
      go_wp2_with (refine wpList_toBytes rfl 9 30 _ rfl 5 Tryd.underlying9 Tryd.underlying30 Tryd.underlying5 _ rfl hmax ?_)
      intro v15 w15 o15 x15
      have c16 := impl_Lines _ _ _ o15.bs (by show a0.size ≤ _; omega)
      rw [HL.out] at c16
      replace X := X.trans x15
      clear x15 o15
      go_wp2_with (go_at_call 26; refine c16.mono ?_)
      rintro _ w16 ⟨v16, rfl, o16, x16⟩
      replace X := X.trans x16
      clear x16 c16
      go_wp2_with (go_at_call 16; refine (laws_texts v16 L _ o16.bs (by omega)).mono ?_)
      rintro _ w17 ⟨v17, rfl, s17, x17⟩
      replace X := X.trans x17
      clear x17 o16
      have c18 := laws_glued _ L _ s17 key6
      rw [K4.out] at c18
      go_wp2_with (go_at_call 28; refine c18.mono ?_)
      rintro _ w18 ⟨rfl, x18⟩
      replace X := X.trans x18
      clear x18 c18 s17
      go_wp2_with fail
      go_ret
      exact ⟨by simp, X.below⟩
end Go.Proofs.YtlbaoghebjaliaaDoor
