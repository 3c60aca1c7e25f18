/- The walk of the law FnValidAgain. Printed by fnvalid.py. -/
import Derived.Test.YtlbaoghebjaliaaDoorMendS
import Derived.Test.YtlbaoghebjaliaaDoorMono
import Derived.Deep.DeepCutAuto
namespace Go.Proofs.YtlbaoghebjaliaaDoor
open Go.RowKit

set_option maxRecDepth 100000 in
set_option maxHeartbeats 8000000 in
theorem FnValidAgain_walk (w : World) (hT : Tabs w) (a0 : ByteArray) (z0 : a0.size ≤ 140737488351232) (a1 : ByteArray) (z1 : a1.size ≤ 140737488351232) :
    Calls Tryd.prog 6 #[.string a0, .string a1] w fun e w' => e = .returned (.bool true) ∧ Below w.heap.size w w' := by
  by_cases h0 : a0.size ≤ 16777216
  case neg =>
    have h0' : ¬ (a0.size : Int) ≤ 16777216 := by omega
    have h0'' : 16777216 < a0.size := by omega
    go_enter Tryd.func6, Tryd.ntmps6
    go_wp2_with fail
    go_ret
    exact ⟨rfl, Below.refl _ _⟩
  by_cases h1 : a1.size ≤ 16777216
  case neg =>
    have h1'' : 16777216 < a1.size := by omega
    go_enter Tryd.func6, Tryd.ntmps6
    go_wp2_with fail
    go_ret
    exact ⟨rfl, Below.refl _ _⟩
  have hb1 : (a0.size + 1) * (a1.size + 1) ≤ 16777217 * 16777217 := Nat.mul_le_mul (by omega) (by omega)
  obtain ⟨P, hP⟩ : ∃ P, (a0.size + 1) * (a1.size + 1) = P := ⟨_, rfl⟩
  have hPI : ((a0.size : Int) + 1) * ((a1.size : Int) + 1) = (P : Int) := by rw [← hP]; simp
  rw [hP] at hb1
  by_cases h2 : P ≤ 16777216
  case neg =>
    have h2'' : 16777216 < P := by omega
    clear hP
    go_enter Tryd.func6, Tryd.ntmps6
    go_wp2_with fail
    go_ret
    exact ⟨rfl, Below.refl _ _⟩
  have hsz : (mendB a1.data.toList a0.data.toList).length ≤ 16777216 := by
    have e1 := mendC_size a1.data.toList (chunks a0.data.toList) false
    rw [glue_chunks] at e1
    have e2 : a1.data.toList.length * (chunks a0.data.toList).length ≤ a1.size * a0.size := Nat.mul_le_mul (Nat.le_refl _) (chunks_length _)
    have e3 : a0.data.toList.length = a0.size := rfl
    have e4 : (a0.size + 1) * (a1.size + 1) = a1.size * a0.size + a0.size + a1.size + 1 := by
      rw [Nat.add_mul, Nat.mul_add, Nat.mul_comm]; omega
    show (mendC _ _ _).length ≤ _
    omega
  have hm0 : a0.size ≤ maxLen := by unfold maxLen; omega
  have hm1 : a1.size ≤ maxLen := by unfold maxLen; omega
  have hw1 : wholeB a1.data.toList = true → wholeB (mendB a1.data.toList a0.data.toList) = true ∧ mendB a1.data.toList (mendB a1.data.toList a0.data.toList) = mendB a1.data.toList a0.data.toList := fun h => ⟨mendB_is_whole h _, mendB_whole _ _ (mendB_is_whole h _)⟩
  have hw0 : wholeB a0.data.toList = true → (⟨(mendB a1.data.toList a0.data.toList).toArray⟩ : ByteArray) = a0 := fun h => by rw [mendB_whole _ _ h]
  obtain ⟨M, hM⟩ : ∃ M, mendB a1.data.toList a0.data.toList = M := ⟨_, rfl⟩
  rw [hM] at hw0 hw1 hsz
  obtain ⟨st, hst⟩ : ∃ st, (⟨M.toArray⟩ : ByteArray) = st := ⟨_, rfl⟩
  have HSD := Lib.hid (show st.data.toList = M by rw [← hst])
  have hst2 : st.size ≤ 16777216 := by rw [← hst]; exact hsz
  have hms : st.size ≤ maxLen := by unfold maxLen; omega
  rw [hst] at hw0
  have HM := Lib.hid hM
  have HST := Lib.hid hst
  have HT := Lib.hid hT
  have HW0 := Lib.hid hw0
  have HW1 := Lib.hid hw1
  clear hM hst hT hP hw0 hw1
  go_enter Tryd.func6, Tryd.ntmps6
  go_wp2_with (refine wpList_toBytes rfl 9 30 _ rfl 5 Tryd.underlying9 Tryd.underlying30 Tryd.underlying5 _ rfl hm0 ?_)
  intro v5 w5 o5 x5
  go_wp2_with (refine wpList_toBytes rfl 9 30 _ rfl 5 Tryd.underlying9 Tryd.underlying30 Tryd.underlying5 _ rfl hm1 ?_)
  intro v6 w6 o6 x6
  have c7 := impl_ToValidUTF8 _ _ _ _ _ (o5.bs.ext x6) o6.bs (HT.out.ext (x5.trans x6)) (by show a0.size ≤ _; omega) (by show a1.size ≤ _; omega) (by rw [HM.out]; omega)
  rw [HM.out] at c7
  go_wp2_with (go_at_call 29; refine c7.mono ?_)
  rintro _ w7 ⟨v7, rfl, o7, x7⟩
  have X := (x5.trans x6).trans x7
  have q7 := o7.bs
  clear x5 x6 x7 o5 o6 o7 c7
  cases hwa : wholeB a0.data.toList with
  | true =>
    have c8 := spec_Whole a0 w7 (by omega)
    rw [hwa] at c8
    have e8 := HW0.out hwa
    have HE8 := Lib.hid (show (⟨M.toArray⟩ : ByteArray) = a0 by rw [HST.out]; exact e8)
    clear hwa e8
    go_wp2_with (first | (refine wpList_toString rfl 30 9 _ rfl 5 Tryd.underlying30 Tryd.underlying5 Tryd.underlying9 _ _ rfl q7 ?_; rw [HE8.out]) | (go_at_call 30; refine c8.mono ?_; rintro _ w8 ⟨rfl, x8⟩))
    go_ret
    exact ⟨by simp, (X.trans x8).below⟩
  | false =>
    have c8 := spec_Whole a0 w7 (by omega)
    rw [hwa] at c8
    clear hwa
    go_wp2_with (first | (refine wpList_toString rfl 30 9 _ rfl 5 Tryd.underlying30 Tryd.underlying5 Tryd.underlying9 _ _ rfl q7 ?_; rw [HST.out]) | (go_at_call 30; refine c8.mono ?_))
    rintro _ w8 ⟨rfl, x8⟩
    replace X := X.trans x8
    have c9 := spec_Whole a1 w8 (by omega)
    clear x8 c8 q7
    cases hwb : wholeB a1.data.toList with
    | false =>
      rw [hwb] at c9
      clear hwb
      go_wp2_with (go_at_call 30; refine c9.mono ?_; rintro _ w9 ⟨rfl, x9⟩)
      go_ret
      exact ⟨rfl, (X.trans x9).below⟩
    | true =>
      rw [hwb] at c9
      obtain ⟨e1, e2⟩ := HW1.out hwb
      have HE2 := Lib.hid e2
      clear hwb e2
      go_wp2_with (go_at_call 30; refine c9.mono ?_)
      rintro _ w9 ⟨rfl, x9⟩
      replace X := X.trans x9
      have c10 := spec_Whole st w9 (by omega)
      rw [HSD.out, e1] at c10
      clear x9 c9 e1
      go_wp2_with (go_at_call 30; refine c10.mono ?_)
      rintro _ w10 ⟨rfl, x10⟩
      replace X := X.trans x10
      clear x10 c10
      go_wp2_with (refine wpList_toBytes rfl 9 30 _ rfl 5 Tryd.underlying9 Tryd.underlying30 Tryd.underlying5 _ rfl hms ?_)
      intro v11 w11 o11 x11
      have o11 : Bs w11 v11 M := HSD.out ▸ o11.bs
      go_wp2_with (refine wpList_toBytes rfl 9 30 _ rfl 5 Tryd.underlying9 Tryd.underlying30 Tryd.underlying5 _ rfl hm1 ?_)
      intro v12 w12 o12 x12
      have c13 := impl_ToValidUTF8 _ _ _ _ _ (o11.ext x12) o12.bs (HT.out.ext ((X.trans x11).trans x12)) (by omega) (by show a1.size ≤ _; omega) (by rw [HE2.out]; omega)
      rw [HE2.out] at c13
      replace X := (X.trans x11).trans x12
      clear x11 x12 o11 o12
      go_wp2_with (go_at_call 29; refine c13.mono ?_)
      rintro _ w13 ⟨v13, rfl, o13, x13⟩
      replace X := X.trans x13
      have q13 := o13.bs
      clear x13 o13 c13
      go_wp2_with (refine wpList_toString rfl 30 9 _ rfl 5 Tryd.underlying30 Tryd.underlying5 Tryd.underlying9 _ _ rfl q13 ?_; rw [HST.out])
      go_ret
      exact ⟨by simp, X.below⟩
end Go.Proofs.YtlbaoghebjaliaaDoor
