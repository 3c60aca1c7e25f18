/- The walk of the law FnRunesMap: it returns true where the text has at most 2^20 bytes. -/
import Derived.Test.YtlbaoghebjaliaaDoorFnMapSelfW
import Derived.Test.YtlbaoghebjaliaaDoorRunesW
import Derived.Deep.DeepCutAuto
import Derived.BigQuiet
namespace Go.Proofs.YtlbaoghebjaliaaDoor
open Go.RowKit

theorem OwnI.is {lo hi : Nat} {w : World} {v : Value} {l : List Int} (h : OwnI lo hi w v l) : Is w v l := by
  obtain ⟨a, c, rfl, h1, h2, h3⟩ := h
  refine ⟨by simp, a, c, rfl, h1, h2, ?_⟩
  rcases h3 with h3 | ⟨b, o, ha, _, _, hc⟩
  · exact .inl (by rw [h3]; rfl)
  · exact .inr ⟨b, o, ha, fun i hi => by simpa using (hc i (by simpa using hi)).1⟩

set_option maxRecDepth 100000 in
set_option maxHeartbeats 8000000 in
theorem FnRunesMap_walk (w : World) (hT : Tabs w) (a0 : ByteArray) (z0 : a0.size ≤ 1048576) :
    Calls Tryd.prog 12 #[.string a0] w fun e w' => e = .returned (.bool true) ∧ Below w.heap.size w w' := by
  have hmax : a0.size ≤ maxLen := by unfold maxLen; omega
  have es : a0.data.toList.length = a0.size := rfl
  have key4 : runesOf (chunks (mapB id a0.data.toList)) = runesOf (chunks a0.data.toList) := by
    rw [chunks_mapB]
    have := imgC_self_r (chunks a0.data.toList) (chunks_ok _)
    unfold runesOf
    have h2 : ∀ cs : List Ch, cs.map (fun c => (c.r : Int)) = (cs.map Ch.r).map (fun n : Nat => (n : Int)) := fun cs => by simp
    rw [h2, this, ← h2]
  have key5 := mapC_size id (chunks a0.data.toList)
  have key6 := chunks_length a0.data.toList
  have key7 : (mapB id a0.data.toList).length ≤ 4194304 := by show (mapC _ _).length ≤ _; omega
  have key8 : (runesOf (chunks a0.data.toList)).length = 0 → a0.toList.isEmpty = true := fun h => by
    have h1 : chunks a0.data.toList = [] := List.eq_nil_of_length_eq_zero (by simpa [runesOf] using h)
    have h2 := glue_chunks a0.data.toList
    rw [h1] at h2
    rw [ByteArray.toList_eq, ← h2]
    rfl
  have key9 : (runesOf (chunks a0.data.toList)).length ≤ 1048576 := by rw [runesOf, List.length_map]; omega
  obtain ⟨M, hM⟩ : ∃ M, mapB id a0.data.toList = M := ⟨_, rfl⟩
  obtain ⟨R, hR⟩ : ∃ R, runesOf (chunks a0.data.toList) = R := ⟨_, rfl⟩
  rw [hM] at key4 key7
  rw [hR] at key4 key8 key9
  obtain ⟨st, hst⟩ : ∃ st, (⟨M.toArray⟩ : ByteArray) = st := ⟨_, rfl⟩
  have HSD := Lib.hid (show st.data.toList = M by rw [← hst])
  have hsz : st.size ≤ 4194304 := by rw [← hst]; exact key7
  have hms : st.size ≤ maxLen := by unfold maxLen; omega
  have HM := Lib.hid hM
  have HR := Lib.hid hR
  have HST := Lib.hid hst
  have HT := Lib.hid hT
  have K4 := Lib.hid key4
  have K8 := Lib.hid key8
  clear hM hst hT key4 key5 key6 es key8 hR
  go_enter Tryd.func12, Tryd.ntmps12
  go_wp2_with (refine wpList_toBytes rfl 9 30 _ rfl 5 Tryd.underlying9 Tryd.underlying30 Tryd.underlying5 _ rfl hmax ?_)
  intro v5 w5 o5 x5
  have c6 := impl_Runes _ _ _ o5.bs (HT.out.ext x5) (by show a0.size ≤ _; omega)
  rw [HR.out] at c6
  go_wp2_with (go_at_call 46; refine c6.mono ?_)
  rintro _ w6 ⟨v6, rfl, o6, x6⟩
  have X := x5.trans x6
  have I6 := o6.is
  clear x5 x6 o5 o6 c6
  go_wp2_with (refine wpList_toBytes rfl 9 30 _ rfl 5 Tryd.underlying9 Tryd.underlying30 Tryd.underlying5 _ rfl hmax ?_)
  intro v7 w7 o7 x7
  go_wp2_with (go_at_call 42; refine (laws_table _ _ [] [] _ (is_nil _) (is_nil _) (by simp)).mono ?_)
  rintro _ w8 ⟨v8, rfl, t8, x8⟩
  replace X := X.trans (x7.trans x8)
  replace I6 := I6.ext (x7.trans x8)
  have c9 := impl_Map _ _ [] _ _ t8 (o7.bs.ext x8) (HT.out.ext X) (by show a0.size ≤ _; omega) image_nil_le
  rw [imageT_nil, HM.out] at c9
  obtain ⟨ta, tc, te, _⟩ := t8.raw
  subst te
  clear x7 x8 o7 t8
  go_wp2_with (go_at_call 36; refine c9.mono ?_)
  rintro _ w9 ⟨v9, rfl, o9, x9⟩
  replace X := X.trans x9
  replace I6 := I6.ext x9
  have q9 := o9.bs
  clear x9 o9 c9
  go_wp2_with (first | (refine wpList_toString rfl 30 9 _ rfl 5 Tryd.underlying30 Tryd.underlying5 Tryd.underlying9 _ _ rfl q9 ?_; rw [HST.out]) | refine wpList_toBytes rfl 9 30 _ rfl 5 Tryd.underlying9 Tryd.underlying30 Tryd.underlying5 _ rfl hms ?_)
  intro v10 w10 o10 x10
  have o10 : Bs w10 v10 M := HSD.out ▸ o10.bs
  replace X := X.trans x10
  replace I6 := I6.ext x10
  have c11 := impl_Runes _ _ _ o10 (HT.out.ext X) (by omega)
  rw [K4.out] at c11
  clear x10 o10 q9
  go_wp2_with (go_at_call 46; refine c11.mono ?_)
  rintro _ w11 ⟨v11, rfl, o11, x11⟩
  replace X := X.trans x11
  replace I6 := I6.ext x11
  have I11 := o11.is
  clear x11 o11 c11
  obtain ⟨a6, c6, f6, p6, q6, e6⟩ := I6.raw
  subst f6
  obtain ⟨a7, c7, f7, p7, q7, e7⟩ := I11.raw
  subst f7
  have hc6 : c6 ≤ 9223372036854775807 := by unfold maxLen at q6; omega
  have hc7 : c7 ≤ 9223372036854775807 := by unfold maxLen at q7; omega
  have HC6 := Lib.hid e6
  have HC7 := Lib.hid e7
  have HX := Lib.hid X
  clear e6 e7 q6 q7 I6 I11 X
  by_cases hr0 : R = []
  · have hemp := K8.out (by rw [hr0]; rfl)
    subst hr0
    go_wp2_with fail
    go_loopg [5, 32] 0 (fun k _ i wr => i = .int .i64 0 ∧ wr = w11)
    case atStart => exact ⟨rfl, rfl⟩
    case round =>
      obtain ⟨rfl, rfl⟩ := hrel
      go_wp2_with fail
      go_ret
      exact ⟨rfl, HX.out.below⟩
  · have hrl : 0 < R.length := List.length_pos_iff.2 hr0
    have hz : ((R.length : Int) == 0) = false := by simp; exact hr0
    go_wp2_with fail
    go_loopg [5, 32] R.length (fun k _ i wr => ∃ j : Nat, j + k = R.length ∧ i = .int .i64 j ∧ Ext w11 wr)
    case atStart => exact ⟨0, by omega, rfl, Ext.refl _⟩
    case round =>
      obtain ⟨j, hj, rfl, hx⟩ := hrel
      have HJ := Lib.hid hj
      by_cases hlt : j < R.length
      · have hg : 0 < gk := by omega
        obtain ⟨b, o, rfl, c0⟩ := HC6.out j hlt
        obtain ⟨b', o', rfl, c1⟩ := HC7.out j hlt
        replace c0 := hx.cell c0
        replace c1 := hx.cell c1
        obtain ⟨t, ht⟩ : ∃ t, R[j] = t := ⟨_, rfl⟩
        rw [ht] at c0 c1
        clear hj ht
        go_wp2_with fail
        go_quiet (fail)
        all_goals go_wp2_with fail
        all_goals go_roundg (gk - 1)
        all_goals first | omega | exact ⟨j + 1, by have := HJ.out; omega, by go_num, by first | exact hx | exact hx.trans (Ext.drewN _ _)⟩
      · clear hj
        go_wp2_with fail
        go_ret
        exact ⟨rfl, (HX.out.trans hx).below⟩
end Go.Proofs.YtlbaoghebjaliaaDoor
