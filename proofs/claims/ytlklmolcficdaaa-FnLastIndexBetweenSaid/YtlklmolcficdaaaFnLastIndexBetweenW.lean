/- The walk of the law FnLastIndexBetween: it returns true for every input within the form's reach. -/
import Derived.Test.YtlklmolcficdaaaLastIx
import Derived.SizedLaws
namespace Go.Proofs.Ytlklmolcficdaaa
open Go.RowKit

set_option maxRecDepth 100000 in
set_option maxHeartbeats 1000000 in
theorem FnLastIndexBetween_walk (w : World) (a : ByteArray) (ha : a.size ≤ reachBytes) (t : ByteArray) (ht : t.size ≤ reachBytes) (b : ByteArray) (hb : b.size ≤ reachBytes) :
    Calls Try.prog 9 #[.string a, .string t, .string b] w fun e w' => e = .returned (.bool true) ∧ Below w.heap.size w w' := by
  have hr := reachBytes_lt
  have sa : a.size ≤ 140737488355328 := by omega
  have st : t.size ≤ 140737488355328 := by omega
  have sb : b.size ≤ 140737488355328 := by omega
  clear hr ha ht hb
  have hb := lastIx_between a.data.toList t.data.toList b.data.toList
  have e1 : decide ((a.size : Int) ≤ lastIx (a.data.toList ++ (t.data.toList ++ b.data.toList)) t.data.toList) = true := by simpa using hb.1
  have e2 : decide (lastIx (a.data.toList ++ (t.data.toList ++ b.data.toList)) t.data.toList ≤ (a.size : Int) + (b.size : Int)) = true := by simpa using hb.2
  have hl := Lib.hid (lastIx_last a.data.toList t.data.toList)
  have h1 : a.size + t.size ≤ 9223372036854775807 := by omega
  have h2 : a.size + t.size + b.size ≤ 9223372036854775807 := by omega
  clear hb
  go_enter Try.func9, Try.ntmps9
  go_wp2_with (refine wpList_toBytes rfl 9 23 _ rfl 5 Try.underlying9 Try.underlying23 Try.underlying5 _ rfl ?_ ?_)
  · simp [maxLen]; omega
  intro v1 w1 o1 x1
  have X := x1
  have b1 := o1.bs
  clear o1 x1
  go_wp2_with (refine wpList_toBytes rfl 9 23 _ rfl 5 Try.underlying9 Try.underlying23 Try.underlying5 _ rfl ?_ ?_)
  · simp [maxLen]; omega
  intro v2 w2 o2 x2
  replace b1 := b1.ext x2
  replace X := X.trans x2
  have b2 := o2.bs
  clear o2 x2
  go_wp2_with (go_at_call 27; refine (impl_LastIndex _ _ _ _ _ b1 b2 (by simp; omega)).mono ?_)
  rintro _ w3 ⟨rfl, x3⟩
  replace b1 := b1.ext x3
  replace b2 := b2.ext x3
  replace X := X.trans x3
  clear x3
  go_wp2_with (refine wpList_toBytes rfl 9 23 _ rfl 5 Try.underlying9 Try.underlying23 Try.underlying5 _ rfl ?_ ?_)
  · simp [maxLen]; omega
  intro v4 w4 o4 x4
  replace b1 := b1.ext x4
  replace b2 := b2.ext x4
  replace X := X.trans x4
  have b3 := o4.bs
  clear o4 x4
  go_wp2_with (refine wpList_toBytes rfl 9 23 _ rfl 5 Try.underlying9 Try.underlying23 Try.underlying5 _ rfl ?_ ?_)
  · simp [maxLen]; omega
  intro v5 w5 o5 x5
  replace b1 := b1.ext x5
  replace b2 := b2.ext x5
  replace b3 := b3.ext x5
  replace X := X.trans x5
  have b4 := o5.bs
  clear o5 x5
  go_wp2_with (go_at_call 27; refine (impl_LastIndex _ _ _ _ _ b3 b4 (by simp; omega)).mono ?_)
  rintro _ w6 ⟨rfl, x6⟩
  replace b1 := b1.ext x6
  replace b2 := b2.ext x6
  replace b3 := b3.ext x6
  replace b4 := b4.ext x6
  replace X := X.trans x6
  clear x6
  rw [hl.out]
  go_wp2_with fail
  go_ret
  exact ⟨rfl, X.below⟩

end Go.Proofs.Ytlklmolcficdaaa
