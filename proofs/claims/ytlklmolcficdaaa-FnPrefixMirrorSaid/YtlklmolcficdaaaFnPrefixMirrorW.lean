/- The walk of the law FnPrefixMirror: it returns true for every input within the form's reach. -/
import Derived.Test.YtlklmolcficdaaaWrapA
import Derived.Test.YtlklmolcficdaaaPlainB
import Derived.Test.YtlklmolcficdaaaLawsH
import Derived.SizedLaws
namespace Go.Proofs.Ytlklmolcficdaaa
open Go.RowKit

set_option maxRecDepth 100000 in
set_option maxHeartbeats 1000000 in
theorem FnPrefixMirror_walk (w : World) (s : ByteArray) (hs : s.size ≤ reachBytes) (p : ByteArray) (hp : p.size ≤ reachBytes) :
    Calls Try.prog 6 #[.string s, .string p] w fun e w' => e = .returned (.bool true) ∧ Below w.heap.size w w' := by
  have hr := reachBytes_lt
  have ss : s.size ≤ 140737488355328 := by omega
  have sp : p.size ≤ 140737488355328 := by omega
  clear hr hs hp
  have hm := Lib.hid (suf_mirror s.data.toList p.data.toList)
  have hc := Lib.hid (cut_mirror s.data.toList p.data.toList)
  have q1 : (cutSuf s.data.toList p.data.toList == (cutPre s.data.toList.reverse p.data.toList.reverse).reverse) = true := by rw [hc.out]; simp
  have hlen : (cutSuf s.data.toList p.data.toList).length ≤ 140737488355328 := Nat.le_trans (cutSuf_len _ _) ss
  have hlen2 : (cutPre s.data.toList.reverse p.data.toList.reverse).length ≤ 140737488355328 := Nat.le_trans (cutPre_len _ _) (by rw [List.length_reverse]; exact ss)
  cases hp : hasSuf s.data.toList p.data.toList
  · have hp2 : hasPre s.data.toList.reverse p.data.toList.reverse = false := by rw [← hm.out]; exact hp
    have hw : (cutSuf s.data.toList p.data.toList == s.toList) = true := by rw [ByteArray.toList_eq, cutSuf_not hp]; simp
    have hw' : (cutSuf s.data.toList p.data.toList == s.data.toList) = true := by rw [cutSuf_not hp]; simp
    go_enter Try.func6, Try.ntmps6
    go_wp2_with (refine wpList_toBytes rfl 9 23 _ rfl 5 Try.underlying9 Try.underlying23 Try.underlying5 _ rfl ?_ ?_)
    · simp [maxLen]; omega
    intro v1 w1 o1 x1
    have X := x1
    have b1 := o1.bs
    clear o1 x1
    go_wp2_with (refine wpList_toBytes rfl 9 23 _ rfl 5 Try.underlying9 Try.underlying23 Try.underlying5 _ rfl ?_ ?_)
    · simp [maxLen]; omega
    intro v2 w2 o2 x2
    replace b1 := b1.ext x2
    replace X := X.trans x2
    have b2 := o2.bs
    clear o2 x2
    go_wp2_with (go_at_call 21; refine (impl_CutSuffix _ _ _ _ _ b1 b2 (by simp; omega)).mono ?_)
    rintro _ w3 ⟨v3, rfl, o3, x3⟩
    replace b1 := b1.ext x3
    replace b2 := b2.ext x3
    replace X := X.trans x3
    have b3 := o3.bs
    clear o3 x3
    go_wp2_with (go_at_call 19; refine (laws_text1 _ _ _ _ b3).mono ?_)
    rintro e w' ⟨rfl, rfl⟩
    go_wp2_with (go_at_call 24; refine (laws_back _ _ ss).mono ?_)
    rintro _ w4 ⟨rfl, x4⟩
    replace b1 := b1.ext x4
    replace b2 := b2.ext x4
    replace b3 := b3.ext x4
    replace X := X.trans x4
    clear x4
    go_wp2_with (refine wpList_toBytes rfl 9 23 _ rfl 5 Try.underlying9 Try.underlying23 Try.underlying5 _ rfl ?_ ?_)
    · show s.data.toList.reverse.length ≤ maxLen; rw [List.length_reverse]; exact Nat.le_trans ss (by decide)
    intro v5 w5 o5 x5
    replace b1 := b1.ext x5
    replace b2 := b2.ext x5
    replace b3 := b3.ext x5
    replace X := X.trans x5
    have b4 := o5.bs
    clear o5 x5
    go_wp2_with (go_at_call 24; refine (laws_back _ _ sp).mono ?_)
    rintro _ w6 ⟨rfl, x6⟩
    replace b1 := b1.ext x6
    replace b2 := b2.ext x6
    replace b3 := b3.ext x6
    replace b4 := b4.ext x6
    replace X := X.trans x6
    clear x6
    go_wp2_with (refine wpList_toBytes rfl 9 23 _ rfl 5 Try.underlying9 Try.underlying23 Try.underlying5 _ rfl ?_ ?_)
    · show p.data.toList.reverse.length ≤ maxLen; rw [List.length_reverse]; exact Nat.le_trans sp (by decide)
    intro v7 w7 o7 x7
    replace b1 := b1.ext x7
    replace b2 := b2.ext x7
    replace b3 := b3.ext x7
    replace b4 := b4.ext x7
    replace X := X.trans x7
    have b5 := o7.bs
    clear o7 x7
    go_wp2_with (go_at_call 20; refine (impl_CutPrefix _ _ _ _ _ b4 b5 (by simp; omega)).mono ?_)
    rintro _ w8 ⟨v8, rfl, o8, x8⟩
    replace b1 := b1.ext x8
    replace b2 := b2.ext x8
    replace b3 := b3.ext x8
    replace b4 := b4.ext x8
    replace b5 := b5.ext x8
    replace X := X.trans x8
    have b6 := o8.bs
    clear o8 x8
    go_wp2_with (go_at_call 19; refine (laws_text1 _ _ _ _ b6).mono ?_)
    rintro e w' ⟨rfl, rfl⟩
    go_wp2_with (go_at_call 24; refine (laws_back ⟨(cutPre s.data.toList.reverse p.data.toList.reverse).toArray⟩ _ hlen2).mono ?_)
    rintro _ w9 ⟨rfl, x9⟩
    replace b1 := b1.ext x9
    replace b2 := b2.ext x9
    replace b3 := b3.ext x9
    replace b4 := b4.ext x9
    replace b5 := b5.ext x9
    replace b6 := b6.ext x9
    replace X := X.trans x9
    clear x9
    go_wp2_with fail
    go_ret
    exact ⟨rfl, X.below⟩

  · have hp2 : hasPre s.data.toList.reverse p.data.toList.reverse = true := by rw [← hm.out]; exact hp
    go_enter Try.func6, Try.ntmps6
    go_wp2_with (refine wpList_toBytes rfl 9 23 _ rfl 5 Try.underlying9 Try.underlying23 Try.underlying5 _ rfl ?_ ?_)
    · simp [maxLen]; omega
    intro v1 w1 o1 x1
    have X := x1
    have b1 := o1.bs
    clear o1 x1
    go_wp2_with (refine wpList_toBytes rfl 9 23 _ rfl 5 Try.underlying9 Try.underlying23 Try.underlying5 _ rfl ?_ ?_)
    · simp [maxLen]; omega
    intro v2 w2 o2 x2
    replace b1 := b1.ext x2
    replace X := X.trans x2
    have b2 := o2.bs
    clear o2 x2
    go_wp2_with (go_at_call 21; refine (impl_CutSuffix _ _ _ _ _ b1 b2 (by simp; omega)).mono ?_)
    rintro _ w3 ⟨v3, rfl, o3, x3⟩
    replace b1 := b1.ext x3
    replace b2 := b2.ext x3
    replace X := X.trans x3
    have b3 := o3.bs
    clear o3 x3
    go_wp2_with (go_at_call 19; refine (laws_text1 _ _ _ _ b3).mono ?_)
    rintro e w' ⟨rfl, rfl⟩
    go_wp2_with (go_at_call 24; refine (laws_back _ _ ss).mono ?_)
    rintro _ w4 ⟨rfl, x4⟩
    replace b1 := b1.ext x4
    replace b2 := b2.ext x4
    replace b3 := b3.ext x4
    replace X := X.trans x4
    clear x4
    go_wp2_with (refine wpList_toBytes rfl 9 23 _ rfl 5 Try.underlying9 Try.underlying23 Try.underlying5 _ rfl ?_ ?_)
    · show s.data.toList.reverse.length ≤ maxLen; rw [List.length_reverse]; exact Nat.le_trans ss (by decide)
    intro v5 w5 o5 x5
    replace b1 := b1.ext x5
    replace b2 := b2.ext x5
    replace b3 := b3.ext x5
    replace X := X.trans x5
    have b4 := o5.bs
    clear o5 x5
    go_wp2_with (go_at_call 24; refine (laws_back _ _ sp).mono ?_)
    rintro _ w6 ⟨rfl, x6⟩
    replace b1 := b1.ext x6
    replace b2 := b2.ext x6
    replace b3 := b3.ext x6
    replace b4 := b4.ext x6
    replace X := X.trans x6
    clear x6
    go_wp2_with (refine wpList_toBytes rfl 9 23 _ rfl 5 Try.underlying9 Try.underlying23 Try.underlying5 _ rfl ?_ ?_)
    · show p.data.toList.reverse.length ≤ maxLen; rw [List.length_reverse]; exact Nat.le_trans sp (by decide)
    intro v7 w7 o7 x7
    replace b1 := b1.ext x7
    replace b2 := b2.ext x7
    replace b3 := b3.ext x7
    replace b4 := b4.ext x7
    replace X := X.trans x7
    have b5 := o7.bs
    clear o7 x7
    go_wp2_with (go_at_call 20; refine (impl_CutPrefix _ _ _ _ _ b4 b5 (by simp; omega)).mono ?_)
    rintro _ w8 ⟨v8, rfl, o8, x8⟩
    replace b1 := b1.ext x8
    replace b2 := b2.ext x8
    replace b3 := b3.ext x8
    replace b4 := b4.ext x8
    replace b5 := b5.ext x8
    replace X := X.trans x8
    have b6 := o8.bs
    clear o8 x8
    go_wp2_with (go_at_call 19; refine (laws_text1 _ _ _ _ b6).mono ?_)
    rintro e w' ⟨rfl, rfl⟩
    go_wp2_with (go_at_call 24; refine (laws_back ⟨(cutPre s.data.toList.reverse p.data.toList.reverse).toArray⟩ _ hlen2).mono ?_)
    rintro _ w9 ⟨rfl, x9⟩
    replace b1 := b1.ext x9
    replace b2 := b2.ext x9
    replace b3 := b3.ext x9
    replace b4 := b4.ext x9
    replace b5 := b5.ext x9
    replace b6 := b6.ext x9
    replace X := X.trans x9
    clear x9
    go_wp2_with fail
    go_ret
    exact ⟨rfl, X.below⟩

end Go.Proofs.Ytlklmolcficdaaa
