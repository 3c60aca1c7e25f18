/- The walk of the law FnIndexByteEnds: it returns true for every input within the form's reach. -/
import Derived.Test.YtlklmolcficdaaaLastIx
import Derived.SizedLaws
import Derived.Lib.SlBytesConst
namespace Go.Proofs.Ytlklmolcficdaaa
open Go.RowKit

set_option maxRecDepth 100000 in
set_option maxHeartbeats 1000000 in
theorem FnIndexByteEnds_walk (w : World) (s : ByteArray) (hs : s.size ≤ reachBytes) (b : UInt8) :
    Calls Try.prog 12 #[.string s, .int .u8 (b.toNat : Int)] w fun e w' => e = .returned (.bool true) ∧ Below w.heap.size w w' := by
  have hr := reachBytes_lt
  have ss : s.size ≤ 140737488355328 := by omega
  clear hr hs
  have L1 := Lib.hid (lastIx_one s.data.toList b)
  have hz : s.size ≤ 4611686018427387903 := by omega
  rcases firstB_spec s.data.toList b with ⟨e, hn⟩ | ⟨i, e, hi, hb, hn⟩
  · have e2 := lastB_none' hn
    have hc : hasIn s.data.toList [b] = false := by
      unfold hasIn
      rw [firstIx_none fun i ho => by
        obtain ⟨h, hb⟩ := occ_one.1 ho
        exact hn _ (List.getElem_mem h) hb]
      rfl
    have E := Lib.hid e
    have E2 := Lib.hid e2
    clear hn e e2
    go_enter Try.func12, Try.ntmps12
    go_wp2_with (first | (refine wpList_toString rfl 23 9 _ rfl 5 Try.underlying23 Try.underlying5 Try.underlying9 _ _ rfl (Bs.one _ _ _) ?_) | (refine wpList_toBytes rfl 9 23 _ rfl 5 Try.underlying9 Try.underlying23 Try.underlying5 _ rfl ?_ ?_))
    · simp [maxLen]; omega
    intro v1 w1 o1 x1
    have X := (Ext.alloc _ _).trans x1
    have b1 := o1.bs
    clear o1 x1
    go_wp2_with (go_at_call 30; refine (impl_IndexByte _ _ _ _ b1).mono ?_)
    rintro e w' ⟨rfl, rfl⟩
    rw [E.out]
    go_wp2_with (refine wpList_toBytes rfl 9 23 _ rfl 5 Try.underlying9 Try.underlying23 Try.underlying5 _ rfl ?_ ?_)
    · simp [maxLen]; omega
    intro v2 w2 o2 x2
    replace b1 := b1.ext x2
    replace X := X.trans x2
    have b2 := o2.bs
    clear o2 x2
    go_wp2_with (go_at_call 31; refine (impl_LastIndexByte _ _ _ _ b2).mono ?_)
    rintro e w' ⟨rfl, rfl⟩
    rw [E2.out]
    go_wp2_with (refine wpList_toBytes rfl 9 23 _ rfl 5 Try.underlying9 Try.underlying23 Try.underlying5 _ rfl ?_ ?_)
    · simp [maxLen]; omega
    intro v3 w3 o3 x3
    replace b1 := b1.ext x3
    replace b2 := b2.ext x3
    replace X := X.trans x3
    have b3 := o3.bs
    clear o3 x3
    go_wp2_with (refine wpList_toBytes rfl 9 23 _ rfl 5 Try.underlying9 Try.underlying23 Try.underlying5 _ rfl ?_ ?_)
    · show 1 ≤ maxLen; decide
    intro v4 w4 o4 x4
    replace b1 := b1.ext x4
    replace b2 := b2.ext x4
    replace b3 := b3.ext x4
    replace X := X.trans x4
    have b4 := o4.bs
    clear o4 x4
    go_wp2_with (go_at_call 27; refine (impl_LastIndex _ _ _ _ _ b3 b4 (by simp; omega)).mono ?_)
    rintro _ w5 ⟨rfl, x5⟩
    replace b1 := b1.ext x5
    replace b2 := b2.ext x5
    replace b3 := b3.ext x5
    replace b4 := b4.ext x5
    replace X := X.trans x5
    clear x5
    rw [L1.out, E2.out]
    go_wp2_with (refine wpList_toBytes rfl 9 23 _ rfl 5 Try.underlying9 Try.underlying23 Try.underlying5 _ rfl ?_ ?_)
    · simp [maxLen]; omega
    intro v6 w6 o6 x6
    replace b1 := b1.ext x6
    replace b2 := b2.ext x6
    replace b3 := b3.ext x6
    replace b4 := b4.ext x6
    replace X := X.trans x6
    have b5 := o6.bs
    clear o6 x6
    go_wp2_with (refine wpList_toBytes rfl 9 23 _ rfl 5 Try.underlying9 Try.underlying23 Try.underlying5 _ rfl ?_ ?_)
    · show 1 ≤ maxLen; decide
    intro v7 w7 o7 x7
    replace b1 := b1.ext x7
    replace b2 := b2.ext x7
    replace b3 := b3.ext x7
    replace b4 := b4.ext x7
    replace b5 := b5.ext x7
    replace X := X.trans x7
    have b6 := o7.bs
    clear o7 x7
    go_wp2_with (go_at_call 29; refine (spec_Contains _ _ _ _ _ b5 b6 (by simp; omega) (by simp)).mono ?_)
    rintro _ w8 ⟨rfl, x8⟩
    replace b1 := b1.ext x8
    replace b2 := b2.ext x8
    replace b3 := b3.ext x8
    replace b4 := b4.ext x8
    replace b5 := b5.ext x8
    replace b6 := b6.ext x8
    replace X := X.trans x8
    clear x8
    go_wp2_with fail
    go_ret
    exact ⟨rfl, X.below⟩

  · rcases lastB_spec s.data.toList b with ⟨e2, hn2⟩ | ⟨k, e2, hk, hb2, hn2⟩
    · exact (hn2 _ (List.getElem_mem hi) hb).elim
    have hik : i ≤ k := by
      apply Nat.le_of_not_lt
      intro hlt
      refine hn2 s.data.toList[i] ?_ hb
      have : (s.data.toList.drop (k + 1))[i - (k + 1)]? = some s.data.toList[i] := by rw [List.getElem?_drop, ← List.getElem?_eq_getElem hi]; congr 1; omega
      exact List.mem_of_getElem? this
    have f1 : firstB (s.data.toList.take i) b = -1 := firstB_none' hn
    have f2 : lastB (List.take (s.size - (k + 1)) (List.drop (k + 1) s.data.toList)) b = -1 := lastB_none' (fun x hx => hn2 x (List.mem_of_mem_take hx))
    have E := Lib.hid e
    have E2 := Lib.hid e2
    have F1 := Lib.hid f1
    have F2 := Lib.hid f2
    have hi' : i < s.size := hi
    have hk' : k < s.size := hk
    have g1 : s[i]'hi' = b := hb
    have g2 : s[k]'hk' = b := hb2
    clear hn hn2 e e2 f1 f2 hb hb2
    go_enter Try.func12, Try.ntmps12
    go_wp2_with (first | (refine wpList_toString rfl 23 9 _ rfl 5 Try.underlying23 Try.underlying5 Try.underlying9 _ _ rfl (Bs.one _ _ _) ?_) | (refine wpList_toBytes rfl 9 23 _ rfl 5 Try.underlying9 Try.underlying23 Try.underlying5 _ rfl ?_ ?_))
    · simp [maxLen]; omega
    intro v1 w1 o1 x1
    have X := (Ext.alloc _ _).trans x1
    have b1 := o1.bs
    clear o1 x1
    go_wp2_with (go_at_call 30; refine (impl_IndexByte _ _ _ _ b1).mono ?_)
    rintro e w' ⟨rfl, rfl⟩
    rw [E.out]
    go_wp2_with (refine wpList_toBytes rfl 9 23 _ rfl 5 Try.underlying9 Try.underlying23 Try.underlying5 _ rfl ?_ ?_)
    · simp [maxLen]; omega
    intro v2 w2 o2 x2
    replace b1 := b1.ext x2
    replace X := X.trans x2
    have b2 := o2.bs
    clear o2 x2
    go_wp2_with (go_at_call 31; refine (impl_LastIndexByte _ _ _ _ b2).mono ?_)
    rintro e w' ⟨rfl, rfl⟩
    rw [E2.out]
    go_wp2_with (refine wpList_toBytes rfl 9 23 _ rfl 5 Try.underlying9 Try.underlying23 Try.underlying5 _ rfl ?_ ?_)
    · simp [maxLen]; omega
    intro v3 w3 o3 x3
    replace b1 := b1.ext x3
    replace b2 := b2.ext x3
    replace X := X.trans x3
    have b3 := o3.bs
    clear o3 x3
    go_wp2_with (refine wpList_toBytes rfl 9 23 _ rfl 5 Try.underlying9 Try.underlying23 Try.underlying5 _ rfl ?_ ?_)
    · show 1 ≤ maxLen; decide
    intro v4 w4 o4 x4
    replace b1 := b1.ext x4
    replace b2 := b2.ext x4
    replace b3 := b3.ext x4
    replace X := X.trans x4
    have b4 := o4.bs
    clear o4 x4
    go_wp2_with (go_at_call 27; refine (impl_LastIndex _ _ _ _ _ b3 b4 (by simp; omega)).mono ?_)
    rintro _ w5 ⟨rfl, x5⟩
    replace b1 := b1.ext x5
    replace b2 := b2.ext x5
    replace b3 := b3.ext x5
    replace b4 := b4.ext x5
    replace X := X.trans x5
    clear x5
    rw [L1.out, E2.out]
    go_wp2_with (refine wpList_toBytes rfl 9 23 _ rfl 5 Try.underlying9 Try.underlying23 Try.underlying5 _ rfl ?_ ?_)
    · simp [maxLen]; omega
    intro v6 w6 o6 x6
    replace b1 := b1.ext x6
    replace b2 := b2.ext x6
    replace b3 := b3.ext x6
    replace b4 := b4.ext x6
    replace X := X.trans x6
    have b5 := o6.bs
    clear o6 x6
    go_wp2_with (go_at_call 30; refine (impl_IndexByte _ _ _ _ b5).mono ?_)
    rintro e w' ⟨rfl, rfl⟩
    rw [F1.out]
    go_wp2_with (refine wpList_toBytes rfl 9 23 _ rfl 5 Try.underlying9 Try.underlying23 Try.underlying5 _ rfl ?_ ?_)
    · simp [maxLen]; omega
    intro v7 w7 o7 x7
    replace b1 := b1.ext x7
    replace b2 := b2.ext x7
    replace b3 := b3.ext x7
    replace b4 := b4.ext x7
    replace b5 := b5.ext x7
    replace X := X.trans x7
    have b6 := o7.bs
    clear o7 x7
    go_wp2_with (go_at_call 31; refine (impl_LastIndexByte _ _ _ _ b6).mono ?_)
    rintro e w' ⟨rfl, rfl⟩
    rw [F2.out]
    go_wp2_with fail
    go_ret
    exact ⟨rfl, X.below⟩

end Go.Proofs.Ytlklmolcficdaaa
