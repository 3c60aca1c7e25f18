/- The walk of the law FnMapSelf: it returns true where the text has at most 2^20 bytes. -/
import Derived.Test.YtlbaoghebjaliaaDoorMapW
import Derived.Deep.DeepCutAuto
namespace Go.Proofs.YtlbaoghebjaliaaDoor
open Go.RowKit

theorem is_nil (w : World) : Is w (.slice none 0 0) [] := ⟨rfl, none, 0, rfl, Nat.le_refl _, Nat.zero_le _, .inl rfl⟩
theorem imageT_nil : imageT [] = id := rfl
theorem image_nil_le : ∀ r : Int, 0 ≤ r → r ≤ 1114111 → imageT [] r ≤ 2147483647 := fun r _ h => by show r ≤ _; omega

set_option maxRecDepth 100000 in
set_option maxHeartbeats 8000000 in
theorem FnMapSelf_walk (w : World) (hT : Tabs w) (a0 : ByteArray) (z0 : a0.size ≤ 1048576) :
    Calls Tryd.prog 10 #[.string a0] w fun e w' => e = .returned (.bool true) ∧ Below w.heap.size w w' := by
  have hmax : a0.size ≤ maxLen := by unfold maxLen; omega
  have key1 := wholeB_map id a0.data.toList
  have key2 := mapB_self a0.data.toList
  have key3 := (mapB_self (mapB id a0.data.toList)).2 key1
  have key4 : (runesOf (chunks (mapB id a0.data.toList))).length = (runesOf (chunks a0.data.toList)).length := by
    rw [chunks_mapB]
    unfold runesOf
    rw [List.length_map, List.length_map, imgC_self_length]
  have key5 := mapC_size id (chunks a0.data.toList)
  have key6 := chunks_length a0.data.toList
  have es : a0.data.toList.length = a0.size := rfl
  have key7 : (mapB id a0.data.toList).length ≤ 4194304 := by show (mapC _ _).length ≤ _; omega
  obtain ⟨M, hM⟩ : ∃ M, mapB id a0.data.toList = M := ⟨_, rfl⟩
  rw [hM] at key1 key2 key3 key4 key7
  obtain ⟨st, hst⟩ : ∃ st, (⟨M.toArray⟩ : ByteArray) = st := ⟨_, rfl⟩
  have HSD := Lib.hid (show st.data.toList = M by rw [← hst])
  have hsz : st.size ≤ 4194304 := by rw [← hst]; exact key7
  have hms : st.size ≤ maxLen := by unfold maxLen; omega
  have HM := Lib.hid hM
  have HST := Lib.hid hst
  have HT := Lib.hid hT
  have K2 := Lib.hid key2
  have K3 := Lib.hid key3
  have K4 := Lib.hid key4
  clear hM hst hT key2 key3 key4 key5 key6 es
  go_enter Tryd.func10, Tryd.ntmps10
  go_wp2_with (refine wpList_toBytes rfl 9 30 _ rfl 5 Tryd.underlying9 Tryd.underlying30 Tryd.underlying5 _ rfl hmax ?_)
  intro v5 w5 o5 x5
  go_wp2_with (go_at_call 42; refine (laws_table _ _ [] [] _ (is_nil _) (is_nil _) (by simp)).mono ?_)
  rintro _ w6 ⟨v6, rfl, t6, x6⟩
  have c7 := impl_Map _ _ [] _ _ t6 (o5.bs.ext x6) (HT.out.ext (x5.trans x6)) (by show a0.size ≤ _; omega) image_nil_le
  rw [imageT_nil, HM.out] at c7
  obtain ⟨ta, tc, te, _⟩ := t6.raw
  subst te
  go_wp2_with (go_at_call 36; refine c7.mono ?_)
  rintro _ w7 ⟨v7, rfl, o7, x7⟩
  have X := (x5.trans x6).trans x7
  have q7 := o7.bs
  have c8 := spec_Whole st w7 (by omega)
  rw [HSD.out, key1] at c8
  clear x5 x6 x7 o5 o7 c7 t6
  go_wp2_with (first | (refine wpList_toString rfl 30 9 _ rfl 5 Tryd.underlying30 Tryd.underlying5 Tryd.underlying9 _ _ rfl q7 ?_; rw [HST.out]) | (go_at_call 30; refine c8.mono ?_))
  rintro _ w8 ⟨rfl, x8⟩
  replace X := X.trans x8
  have c9 := spec_Whole a0 w8 (by omega)
  clear x8 c8 q7
  have hE : ∃ bb, wholeB a0.data.toList = bb ∧ (st.toList == a0.toList) = bb := by
    refine ⟨_, rfl, ?_⟩
    rw [ByteArray.toList_eq, ByteArray.toList_eq, HSD.out]
    cases hw : wholeB a0.data.toList with
    | true => rw [K2.out.2 hw]; simp
    | false =>
      have : ¬ M = a0.data.toList := fun e => by rw [K2.out.1 e] at hw; cases hw
      simpa using this
  obtain ⟨bb, hw, hE⟩ := hE
  rw [hw] at c9
  clear hw
  go_wp2_with (go_at_call 30; refine c9.mono ?_)
  rintro _ w9 ⟨rfl, x9⟩
  replace X := X.trans x9
  have hbb : (bb == bb) = true := by simp
  clear x9 c9
  go_wp2_with (refine wpList_toBytes rfl 9 30 _ rfl 5 Tryd.underlying9 Tryd.underlying30 Tryd.underlying5 _ rfl hms ?_)
  intro v10 w10 o10 x10
  have o10 : Bs w10 v10 M := HSD.out ▸ o10.bs
  go_wp2_with (go_at_call 42; refine (laws_table _ _ [] [] _ (is_nil _) (is_nil _) (by simp)).mono ?_)
  rintro _ w11 ⟨v11, rfl, t11, x11⟩
  replace X := X.trans (x10.trans x11)
  have c12 := impl_Map _ _ [] _ _ t11 (o10.ext x11) (HT.out.ext X) (by omega) image_nil_le
  rw [imageT_nil, K3.out] at c12
  obtain ⟨ta', tc', te, _⟩ := t11.raw
  subst te
  clear x10 x11 o10 t11
  go_wp2_with (go_at_call 36; refine c12.mono ?_)
  rintro _ w12 ⟨v12, rfl, o12, x12⟩
  replace X := X.trans x12
  have q12 := o12.bs
  have c13 := spec_Points st w12 (by omega)
  rw [HSD.out] at c13
  clear x12 o12 c12
  go_wp2_with (first | (refine wpList_toString rfl 30 9 _ rfl 5 Tryd.underlying30 Tryd.underlying5 Tryd.underlying9 _ _ rfl q12 ?_; rw [HST.out]) | (go_at_call 43; refine c13.mono ?_))
  rintro _ w13 ⟨v13, rfl, i13, x13⟩
  replace X := X.trans x13
  obtain ⟨a13, e13, f13, _⟩ := i13.raw
  subst f13
  have c14 := spec_Points a0 w13 (by omega)
  clear x13 c13 i13 q12
  go_wp2_with (go_at_call 43; refine c14.mono ?_)
  rintro _ w14 ⟨v14, rfl, i14, x14⟩
  replace X := X.trans x14
  obtain ⟨a14, e14, f14, _⟩ := i14.raw
  subst f14
  have k4 := K4.out
  clear x14 c14 i14
  go_wp2_with fail
  go_ret
  exact ⟨by simp, X.below⟩
end Go.Proofs.YtlbaoghebjaliaaDoor
