/- The walk of the law FnPrefixSum: it returns true for every input within the form's reach. -/
import Derived.Test.YtlklmolcficdaaaWrapA
import Derived.Test.YtlklmolcficdaaaPlainB
import Derived.Test.YtlklmolcficdaaaLawsH
import Derived.SizedLaws
namespace Go.Proofs.Ytlklmolcficdaaa
open Go.RowKit

set_option maxRecDepth 100000 in
set_option maxHeartbeats 1000000 in
theorem FnPrefixSum_walk (w : World) (a : ByteArray) (ha : a.size ≤ reachBytes) (b : ByteArray) (hb : b.size ≤ reachBytes) :
    Calls Try.prog 7 #[.string a, .string b] w fun e w' => e = .returned (.bool true) ∧ Below w.heap.size w w' := by
  have hr := reachBytes_lt
  have sa : a.size ≤ 140737488355328 := by omega
  have sb : b.size ≤ 140737488355328 := by omega
  clear hr ha hb
  have f85 : hasPre (a.data.toList ++ b.data.toList) a.data.toList = true := hasPre_iff.2 ⟨_, rfl⟩
  have f85 : hasSuf (a.data.toList ++ b.data.toList) b.data.toList = true := hasSuf_iff.2 ⟨_, rfl⟩
  have c1 := Lib.hid (cutPre_sum a.data.toList b.data.toList)
  have c2 := Lib.hid (cutSuf_sum a.data.toList b.data.toList)
  have q1 : (b.data.toList == b.toList) = true := by rw [ByteArray.toList_eq]; simp
  have q2 : (a.data.toList == a.toList) = true := by rw [ByteArray.toList_eq]; simp
  have hab : a.size + b.size ≤ 9223372036854775807 := by omega
  go_enter Try.func7, Try.ntmps7
  go_wp2_with (refine wpList_toBytes rfl 9 23 _ rfl 5 Try.underlying9 Try.underlying23 Try.underlying5 _ rfl ?_ ?_)
  · simp [maxLen]; omega
  intro v1 w1 o1 x1
  have X := x1
  have b1 := o1.bs
  clear o1 x1
  go_wp2_with (refine wpList_toBytes rfl 9 23 _ rfl 5 Try.underlying9 Try.underlying23 Try.underlying5 _ rfl ?_ ?_)
  · simp [maxLen]; omega
  intro v2 w2 o2 x2
  replace b1 := b1.ext x2
  replace X := X.trans x2
  have b2 := o2.bs
  clear o2 x2
  go_wp2_with (go_at_call 15; refine (impl_HasPrefix _ _ _ _ _ b1 b2).mono ?_)
  rintro e w' ⟨rfl, rfl⟩
  go_wp2_with (refine wpList_toBytes rfl 9 23 _ rfl 5 Try.underlying9 Try.underlying23 Try.underlying5 _ rfl ?_ ?_)
  · simp [maxLen]; omega
  intro v3 w3 o3 x3
  replace b1 := b1.ext x3
  replace b2 := b2.ext x3
  replace X := X.trans x3
  have b3 := o3.bs
  clear o3 x3
  go_wp2_with (refine wpList_toBytes rfl 9 23 _ rfl 5 Try.underlying9 Try.underlying23 Try.underlying5 _ rfl ?_ ?_)
  · simp [maxLen]; omega
  intro v4 w4 o4 x4
  replace b1 := b1.ext x4
  replace b2 := b2.ext x4
  replace b3 := b3.ext x4
  replace X := X.trans x4
  have b4 := o4.bs
  clear o4 x4
  go_wp2_with (go_at_call 22; refine (impl_HasSuffix _ _ _ _ _ b3 b4).mono ?_)
  rintro e w' ⟨rfl, rfl⟩
  go_wp2_with (refine wpList_toBytes rfl 9 23 _ rfl 5 Try.underlying9 Try.underlying23 Try.underlying5 _ rfl ?_ ?_)
  · simp [maxLen]; omega
  intro v5 w5 o5 x5
  replace b1 := b1.ext x5
  replace b2 := b2.ext x5
  replace b3 := b3.ext x5
  replace b4 := b4.ext x5
  replace X := X.trans x5
  have b5 := o5.bs
  clear o5 x5
  go_wp2_with (refine wpList_toBytes rfl 9 23 _ rfl 5 Try.underlying9 Try.underlying23 Try.underlying5 _ rfl ?_ ?_)
  · simp [maxLen]; omega
  intro v6 w6 o6 x6
  replace b1 := b1.ext x6
  replace b2 := b2.ext x6
  replace b3 := b3.ext x6
  replace b4 := b4.ext x6
  replace b5 := b5.ext x6
  replace X := X.trans x6
  have b6 := o6.bs
  clear o6 x6
  go_wp2_with (go_at_call 18; refine (impl_TrimPrefix' _ _ _ _ _ b5 b6 (by rw [c1.out]; exact sb)).mono ?_)
  rintro _ w7 ⟨v7, rfl, o7, x7⟩
  replace b1 := b1.ext x7
  replace b2 := b2.ext x7
  replace b3 := b3.ext x7
  replace b4 := b4.ext x7
  replace b5 := b5.ext x7
  replace b6 := b6.ext x7
  replace X := X.trans x7
  have b7 := o7.bs
  clear o7 x7
  rw [c1.out] at b7
  go_wp2_with (first | (refine wpList_toString rfl 23 9 _ rfl 5 Try.underlying23 Try.underlying5 Try.underlying9 _ _ rfl b7 ?_) | (refine wpList_toBytes rfl 9 23 _ rfl 5 Try.underlying9 Try.underlying23 Try.underlying5 _ rfl ?_ ?_))
  · simp [maxLen]; omega
  intro v8 w8 o8 x8
  replace b1 := b1.ext x8
  replace b2 := b2.ext x8
  replace b3 := b3.ext x8
  replace b4 := b4.ext x8
  replace b5 := b5.ext x8
  replace b6 := b6.ext x8
  replace b7 := b7.ext x8
  replace X := X.trans x8
  have b8 := o8.bs
  clear o8 x8
  go_wp2_with (refine wpList_toBytes rfl 9 23 _ rfl 5 Try.underlying9 Try.underlying23 Try.underlying5 _ rfl ?_ ?_)
  · simp [maxLen]; omega
  intro v9 w9 o9 x9
  replace b1 := b1.ext x9
  replace b2 := b2.ext x9
  replace b3 := b3.ext x9
  replace b4 := b4.ext x9
  replace b5 := b5.ext x9
  replace b6 := b6.ext x9
  replace b7 := b7.ext x9
  replace b8 := b8.ext x9
  replace X := X.trans x9
  have b9 := o9.bs
  clear o9 x9
  go_wp2_with (go_at_call 23; refine (impl_TrimSuffix' _ _ _ _ _ b8 b9 (by rw [c2.out]; exact sa)).mono ?_)
  rintro _ w10 ⟨v10, rfl, o10, x10⟩
  replace b1 := b1.ext x10
  replace b2 := b2.ext x10
  replace b3 := b3.ext x10
  replace b4 := b4.ext x10
  replace b5 := b5.ext x10
  replace b6 := b6.ext x10
  replace b7 := b7.ext x10
  replace b8 := b8.ext x10
  replace b9 := b9.ext x10
  replace X := X.trans x10
  have b10 := o10.bs
  clear o10 x10
  rw [c2.out] at b10
  go_wp2_with (first | (refine wpList_toString rfl 23 9 _ rfl 5 Try.underlying23 Try.underlying5 Try.underlying9 _ _ rfl b10 ?_))
  go_ret
  exact ⟨rfl, X.below⟩

end Go.Proofs.Ytlklmolcficdaaa
