/- The walk of the law FnLastIndexLast: it returns true for every input within the form's reach. -/
import Derived.Test.YtlklmolcficdaaaLastIx
import Derived.SizedLaws
namespace Go.Proofs.Ytlklmolcficdaaa
open Go.RowKit

set_option maxRecDepth 100000 in
set_option maxHeartbeats 1000000 in
theorem FnLastIndexLast_walk (w : World) (s : ByteArray) (hs : s.size ≤ reachBytes) (t : ByteArray) (ht : t.size ≤ reachBytes) :
    Calls Try.prog 10 #[.string s, .string t] w fun e w' => e = .returned (.bool true) ∧ Below w.heap.size w w' := by
  have hr := reachBytes_lt
  have ss : s.size ≤ 140737488355328 := by omega
  have st : t.size ≤ 140737488355328 := by omega
  clear hr hs ht
  have hz : s.size ≤ 4611686018427387903 := by omega
  rcases lastIx_cases s.data.toList t.data.toList with ⟨e, hn⟩ | ⟨i, e, ho, hn⟩
  · have hc : hasIn s.data.toList t.data.toList = false := by unfold hasIn; rw [firstIx_none hn]; rfl
    have E := Lib.hid e
    clear hn e
    go_enter Try.func10, Try.ntmps10
    go_wp2_with (refine wpList_toBytes rfl 9 23 _ rfl 5 Try.underlying9 Try.underlying23 Try.underlying5 _ rfl ?_ ?_)
    · simp [maxLen]; omega
    intro v1 w1 o1 x1
    have X := x1
    have b1 := o1.bs
    clear o1 x1
    go_wp2_with (refine wpList_toBytes rfl 9 23 _ rfl 5 Try.underlying9 Try.underlying23 Try.underlying5 _ rfl ?_ ?_)
    · simp [maxLen]; omega
    intro v2 w2 o2 x2
    replace b1 := b1.ext x2
    replace X := X.trans x2
    have b2 := o2.bs
    clear o2 x2
    go_wp2_with (go_at_call 27; refine (impl_LastIndex _ _ _ _ _ b1 b2 (by simp; omega)).mono ?_)
    rintro _ w3 ⟨rfl, x3⟩
    replace b1 := b1.ext x3
    replace b2 := b2.ext x3
    replace X := X.trans x3
    clear x3
    rw [E.out]
    go_wp2_with (refine wpList_toBytes rfl 9 23 _ rfl 5 Try.underlying9 Try.underlying23 Try.underlying5 _ rfl ?_ ?_)
    · simp [maxLen]; omega
    intro v4 w4 o4 x4
    replace b1 := b1.ext x4
    replace b2 := b2.ext x4
    replace X := X.trans x4
    have b3 := o4.bs
    clear o4 x4
    go_wp2_with (refine wpList_toBytes rfl 9 23 _ rfl 5 Try.underlying9 Try.underlying23 Try.underlying5 _ rfl ?_ ?_)
    · simp [maxLen]; omega
    intro v5 w5 o5 x5
    replace b1 := b1.ext x5
    replace b2 := b2.ext x5
    replace b3 := b3.ext x5
    replace X := X.trans x5
    have b4 := o5.bs
    clear o5 x5
    go_wp2_with (go_at_call 29; refine (spec_Contains _ _ _ _ _ b3 b4 (by simp; omega) (by simp; omega)).mono ?_)
    rintro _ w6 ⟨rfl, x6⟩
    replace b1 := b1.ext x6
    replace b2 := b2.ext x6
    replace b3 := b3.ext x6
    replace b4 := b4.ext x6
    replace X := X.trans x6
    clear x6
    go_wp2_with fail
    go_ret
    exact ⟨rfl, X.below⟩

  · have hl : i + t.size ≤ s.size := ho.le
    have hE := (ext_occ s t i hl).2 ho
    have E := Lib.hid e
    by_cases hi : i = s.size
    · have ht := lastIx_end e hi
      have q1 : t.toList.isEmpty = true := by rw [ByteArray.toList_eq, ht]; rfl
      have q2 : ((i : Int) == (s.size : Int)) = true := by rw [hi]; simp
      have HI := Lib.hid hi
      clear e ho hn hi ht
      go_enter Try.func10, Try.ntmps10
      go_wp2_with (refine wpList_toBytes rfl 9 23 _ rfl 5 Try.underlying9 Try.underlying23 Try.underlying5 _ rfl ?_ ?_)
      · simp [maxLen]; omega
      intro v1 w1 o1 x1
      have X := x1
      have b1 := o1.bs
      clear o1 x1
      go_wp2_with (refine wpList_toBytes rfl 9 23 _ rfl 5 Try.underlying9 Try.underlying23 Try.underlying5 _ rfl ?_ ?_)
      · simp [maxLen]; omega
      intro v2 w2 o2 x2
      replace b1 := b1.ext x2
      replace X := X.trans x2
      have b2 := o2.bs
      clear o2 x2
      go_wp2_with (go_at_call 27; refine (impl_LastIndex _ _ _ _ _ b1 b2 (by simp; omega)).mono ?_)
      rintro _ w3 ⟨rfl, x3⟩
      replace b1 := b1.ext x3
      replace b2 := b2.ext x3
      replace X := X.trans x3
      clear x3
      rw [E.out]
      go_wp2_with fail
      go_ret
      exact ⟨rfl, X.below⟩

    · have hb := lastIx_behind e hi
      have q1 : t.toList.isEmpty = false := by rw [ByteArray.toList_eq]; simpa using hb.1
      have q2 : ((i : Int) == (s.size : Int)) = false := by rw [beq_eq_false_iff_ne]; omega
      have hi2 : i + 1 ≤ s.size := by omega
      have hb2 : lastIx (List.take (s.size - (i + 1)) (List.drop (i + 1) s.data.toList)) t.data.toList = -1 := by
        rw [List.take_of_length_le (by rw [List.length_drop]; exact Nat.le_refl _)]; exact hb.2
      have HB := Lib.hid hb2
      clear hb2
      clear e ho hn hi hb
      go_enter Try.func10, Try.ntmps10
      go_wp2_with (refine wpList_toBytes rfl 9 23 _ rfl 5 Try.underlying9 Try.underlying23 Try.underlying5 _ rfl ?_ ?_)
      · simp [maxLen]; omega
      intro v1 w1 o1 x1
      have X := x1
      have b1 := o1.bs
      clear o1 x1
      go_wp2_with (refine wpList_toBytes rfl 9 23 _ rfl 5 Try.underlying9 Try.underlying23 Try.underlying5 _ rfl ?_ ?_)
      · simp [maxLen]; omega
      intro v2 w2 o2 x2
      replace b1 := b1.ext x2
      replace X := X.trans x2
      have b2 := o2.bs
      clear o2 x2
      go_wp2_with (go_at_call 27; refine (impl_LastIndex _ _ _ _ _ b1 b2 (by simp; omega)).mono ?_)
      rintro _ w3 ⟨rfl, x3⟩
      replace b1 := b1.ext x3
      replace b2 := b2.ext x3
      replace X := X.trans x3
      clear x3
      rw [E.out]
      go_wp2_with (refine wpList_toBytes rfl 9 23 _ rfl 5 Try.underlying9 Try.underlying23 Try.underlying5 _ rfl ?_ ?_)
      · simp [maxLen]; omega
      intro v4 w4 o4 x4
      replace b1 := b1.ext x4
      replace b2 := b2.ext x4
      replace X := X.trans x4
      have b3 := o4.bs
      clear o4 x4
      go_wp2_with (refine wpList_toBytes rfl 9 23 _ rfl 5 Try.underlying9 Try.underlying23 Try.underlying5 _ rfl ?_ ?_)
      · simp [maxLen]; omega
      intro v5 w5 o5 x5
      replace b1 := b1.ext x5
      replace b2 := b2.ext x5
      replace b3 := b3.ext x5
      replace X := X.trans x5
      have b4 := o5.bs
      clear o5 x5
      go_wp2_with (go_at_call 27; refine (impl_LastIndex _ _ _ _ _ b3 b4 (by simp; omega)).mono ?_)
      rintro _ w6 ⟨rfl, x6⟩
      replace b1 := b1.ext x6
      replace b2 := b2.ext x6
      replace b3 := b3.ext x6
      replace b4 := b4.ext x6
      replace X := X.trans x6
      clear x6
      rw [HB.out]
      go_wp2_with fail
      go_ret
      exact ⟨rfl, X.below⟩

end Go.Proofs.Ytlklmolcficdaaa
