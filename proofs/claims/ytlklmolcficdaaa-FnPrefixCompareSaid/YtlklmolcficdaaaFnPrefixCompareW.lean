/- The walk of the law FnPrefixCompare: it returns true for every input within the form's reach. -/
import Derived.Test.YtlklmolcficdaaaWrapA
import Derived.Test.YtlklmolcficdaaaPlainB
import Derived.Test.YtlklmolcficdaaaLawsH
import Derived.SizedLaws
namespace Go.Proofs.Ytlklmolcficdaaa
open Go.RowKit

set_option maxRecDepth 100000 in
set_option maxHeartbeats 1000000 in
theorem FnPrefixCompare_walk (w : World) (s : ByteArray) (hs : s.size ≤ reachBytes) (p : ByteArray) (hp : p.size ≤ reachBytes) :
    Calls Try.prog 3 #[.string s, .string p] w fun e w' => e = .returned (.bool true) ∧ Below w.heap.size w w' := by
  have hr := reachBytes_lt
  have ss : s.size ≤ 140737488355328 := by omega
  have sp : p.size ≤ 140737488355328 := by omega
  clear hr hs hp
  cases hp : hasPre s.data.toList p.data.toList
  · have tok : True := trivial
    go_enter Try.func3, Try.ntmps3
    go_wp2_with (refine wpList_toBytes rfl 9 23 _ rfl 5 Try.underlying9 Try.underlying23 Try.underlying5 _ rfl ?_ ?_)
    · simp [maxLen]; omega
    intro v1 w1 o1 x1
    have X := x1
    have b1 := o1.bs
    clear o1 x1
    go_wp2_with (refine wpList_toBytes rfl 9 23 _ rfl 5 Try.underlying9 Try.underlying23 Try.underlying5 _ rfl ?_ ?_)
    · simp [maxLen]; omega
    intro v2 w2 o2 x2
    replace b1 := b1.ext x2
    replace X := X.trans x2
    have b2 := o2.bs
    clear o2 x2
    go_wp2_with (go_at_call 15; refine (impl_HasPrefix _ _ _ _ _ b1 b2).mono ?_)
    rintro e w' ⟨rfl, rfl⟩
    go_wp2_with (refine wpList_toBytes rfl 9 23 _ rfl 5 Try.underlying9 Try.underlying23 Try.underlying5 _ rfl ?_ ?_)
    · simp [maxLen]; omega
    intro v3 w3 o3 x3
    replace b1 := b1.ext x3
    replace b2 := b2.ext x3
    replace X := X.trans x3
    have b3 := o3.bs
    clear o3 x3
    go_wp2_with (refine wpList_toBytes rfl 9 23 _ rfl 5 Try.underlying9 Try.underlying23 Try.underlying5 _ rfl ?_ ?_)
    · simp [maxLen]; omega
    intro v4 w4 o4 x4
    replace b1 := b1.ext x4
    replace b2 := b2.ext x4
    replace b3 := b3.ext x4
    replace X := X.trans x4
    have b4 := o4.bs
    clear o4 x4
    go_wp2_with (go_at_call 16; refine (spec_HasPrefix _ _ _ _ _ b3 b4).mono ?_)
    rintro e w' ⟨rfl, rfl⟩
    go_wp2_with fail
    go_ret
    exact ⟨rfl, X.below⟩

  · obtain ⟨r, hr⟩ := hasPre_iff.1 hp
    have hc := cmpL_pre_iff p.data.toList r
    rw [← hr] at hc
    have hcut : cutPre s.data.toList p.data.toList = r := by rw [hr, cutPre_sum]
    have hlen : (cutPre s.data.toList p.data.toList).length ≤ 140737488355328 := Nat.le_trans (cutPre_len _ _) ss
    have e1 : decide (cmpL p.data.toList s.data.toList ≤ 0) = true := by simpa using hc.1
    have key : (cmpL p.data.toList s.data.toList == 0) = (cutPre s.data.toList p.data.toList).isEmpty := by
      rw [hcut, Bool.eq_iff_iff]
      simp [hc.2]
    have HR := Lib.hid hr
    clear hr hc hcut
    obtain ⟨z, hz1, hz2⟩ : ∃ z, (cmpL p.data.toList s.data.toList == 0) = z ∧ (cutPre s.data.toList p.data.toList).isEmpty = z := ⟨_, key, rfl⟩
    clear key
    cases z
    · have tok : True := trivial
      go_enter Try.func3, Try.ntmps3
      go_wp2_with (refine wpList_toBytes rfl 9 23 _ rfl 5 Try.underlying9 Try.underlying23 Try.underlying5 _ rfl ?_ ?_)
      · simp [maxLen]; omega
      intro v1 w1 o1 x1
      have X := x1
      have b1 := o1.bs
      clear o1 x1
      go_wp2_with (refine wpList_toBytes rfl 9 23 _ rfl 5 Try.underlying9 Try.underlying23 Try.underlying5 _ rfl ?_ ?_)
      · simp [maxLen]; omega
      intro v2 w2 o2 x2
      replace b1 := b1.ext x2
      replace X := X.trans x2
      have b2 := o2.bs
      clear o2 x2
      go_wp2_with (go_at_call 15; refine (impl_HasPrefix _ _ _ _ _ b1 b2).mono ?_)
      rintro e w' ⟨rfl, rfl⟩
      go_wp2_with (refine wpList_toBytes rfl 9 23 _ rfl 5 Try.underlying9 Try.underlying23 Try.underlying5 _ rfl ?_ ?_)
      · simp [maxLen]; omega
      intro v3 w3 o3 x3
      replace b1 := b1.ext x3
      replace b2 := b2.ext x3
      replace X := X.trans x3
      have b3 := o3.bs
      clear o3 x3
      go_wp2_with (refine wpList_toBytes rfl 9 23 _ rfl 5 Try.underlying9 Try.underlying23 Try.underlying5 _ rfl ?_ ?_)
      · simp [maxLen]; omega
      intro v4 w4 o4 x4
      replace b1 := b1.ext x4
      replace b2 := b2.ext x4
      replace b3 := b3.ext x4
      replace X := X.trans x4
      have b4 := o4.bs
      clear o4 x4
      go_wp2_with (go_at_call 17; refine (impl_Compare _ _ _ _ _ b3 b4).mono ?_)
      rintro e w' ⟨rfl, rfl⟩
      go_wp2_with (refine wpList_toBytes rfl 9 23 _ rfl 5 Try.underlying9 Try.underlying23 Try.underlying5 _ rfl ?_ ?_)
      · simp [maxLen]; omega
      intro v5 w5 o5 x5
      replace b1 := b1.ext x5
      replace b2 := b2.ext x5
      replace b3 := b3.ext x5
      replace b4 := b4.ext x5
      replace X := X.trans x5
      have b5 := o5.bs
      clear o5 x5
      go_wp2_with (refine wpList_toBytes rfl 9 23 _ rfl 5 Try.underlying9 Try.underlying23 Try.underlying5 _ rfl ?_ ?_)
      · simp [maxLen]; omega
      intro v6 w6 o6 x6
      replace b1 := b1.ext x6
      replace b2 := b2.ext x6
      replace b3 := b3.ext x6
      replace b4 := b4.ext x6
      replace b5 := b5.ext x6
      replace X := X.trans x6
      have b6 := o6.bs
      clear o6 x6
      go_wp2_with (go_at_call 18; refine (impl_TrimPrefix _ _ _ _ _ b5 b6 (by simp; omega)).mono ?_)
      rintro _ w7 ⟨v7, rfl, o7, x7⟩
      replace b1 := b1.ext x7
      replace b2 := b2.ext x7
      replace b3 := b3.ext x7
      replace b4 := b4.ext x7
      replace b5 := b5.ext x7
      replace b6 := b6.ext x7
      replace X := X.trans x7
      have b7 := o7.bs
      clear o7 x7
      go_wp2_with (refine wpList_toString rfl 23 9 _ rfl 5 Try.underlying23 Try.underlying5 Try.underlying9 _ _ rfl b7 ?_)
      go_wp2_with fail
      go_ret
      exact ⟨rfl, X.below⟩

    · have tok : True := trivial
      go_enter Try.func3, Try.ntmps3
      go_wp2_with (refine wpList_toBytes rfl 9 23 _ rfl 5 Try.underlying9 Try.underlying23 Try.underlying5 _ rfl ?_ ?_)
      · simp [maxLen]; omega
      intro v1 w1 o1 x1
      have X := x1
      have b1 := o1.bs
      clear o1 x1
      go_wp2_with (refine wpList_toBytes rfl 9 23 _ rfl 5 Try.underlying9 Try.underlying23 Try.underlying5 _ rfl ?_ ?_)
      · simp [maxLen]; omega
      intro v2 w2 o2 x2
      replace b1 := b1.ext x2
      replace X := X.trans x2
      have b2 := o2.bs
      clear o2 x2
      go_wp2_with (go_at_call 15; refine (impl_HasPrefix _ _ _ _ _ b1 b2).mono ?_)
      rintro e w' ⟨rfl, rfl⟩
      go_wp2_with (refine wpList_toBytes rfl 9 23 _ rfl 5 Try.underlying9 Try.underlying23 Try.underlying5 _ rfl ?_ ?_)
      · simp [maxLen]; omega
      intro v3 w3 o3 x3
      replace b1 := b1.ext x3
      replace b2 := b2.ext x3
      replace X := X.trans x3
      have b3 := o3.bs
      clear o3 x3
      go_wp2_with (refine wpList_toBytes rfl 9 23 _ rfl 5 Try.underlying9 Try.underlying23 Try.underlying5 _ rfl ?_ ?_)
      · simp [maxLen]; omega
      intro v4 w4 o4 x4
      replace b1 := b1.ext x4
      replace b2 := b2.ext x4
      replace b3 := b3.ext x4
      replace X := X.trans x4
      have b4 := o4.bs
      clear o4 x4
      go_wp2_with (go_at_call 17; refine (impl_Compare _ _ _ _ _ b3 b4).mono ?_)
      rintro e w' ⟨rfl, rfl⟩
      go_wp2_with (refine wpList_toBytes rfl 9 23 _ rfl 5 Try.underlying9 Try.underlying23 Try.underlying5 _ rfl ?_ ?_)
      · simp [maxLen]; omega
      intro v5 w5 o5 x5
      replace b1 := b1.ext x5
      replace b2 := b2.ext x5
      replace b3 := b3.ext x5
      replace b4 := b4.ext x5
      replace X := X.trans x5
      have b5 := o5.bs
      clear o5 x5
      go_wp2_with (refine wpList_toBytes rfl 9 23 _ rfl 5 Try.underlying9 Try.underlying23 Try.underlying5 _ rfl ?_ ?_)
      · simp [maxLen]; omega
      intro v6 w6 o6 x6
      replace b1 := b1.ext x6
      replace b2 := b2.ext x6
      replace b3 := b3.ext x6
      replace b4 := b4.ext x6
      replace b5 := b5.ext x6
      replace X := X.trans x6
      have b6 := o6.bs
      clear o6 x6
      go_wp2_with (go_at_call 18; refine (impl_TrimPrefix _ _ _ _ _ b5 b6 (by simp; omega)).mono ?_)
      rintro _ w7 ⟨v7, rfl, o7, x7⟩
      replace b1 := b1.ext x7
      replace b2 := b2.ext x7
      replace b3 := b3.ext x7
      replace b4 := b4.ext x7
      replace b5 := b5.ext x7
      replace b6 := b6.ext x7
      replace X := X.trans x7
      have b7 := o7.bs
      clear o7 x7
      go_wp2_with (refine wpList_toString rfl 23 9 _ rfl 5 Try.underlying23 Try.underlying5 Try.underlying9 _ _ rfl b7 ?_)
      go_wp2_with fail
      go_ret
      exact ⟨rfl, X.below⟩

end Go.Proofs.Ytlklmolcficdaaa
