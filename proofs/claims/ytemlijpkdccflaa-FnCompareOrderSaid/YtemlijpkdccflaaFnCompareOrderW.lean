/- The walk of the law FnCompareOrder: it returns true for every three strings within the form's reach. -/
import Derived.Test.YtemlijpkdccflaaCmp
import Derived.SizedLaws
namespace Go.Proofs.Ytemlijpkdccflaa
open Go.RowKit

set_option maxRecDepth 100000 in
theorem FnCompareOrder_walk (w : World) (a : ByteArray) (ha : a.size ≤ reachBytes) (b : ByteArray) (hb : b.size ≤ reachBytes) (c : ByteArray) (hc : c.size ≤ reachBytes) :
    Calls Try.prog 4 #[.string a, .string b, .string c] w fun e w' => e = .returned (.bool true) ∧ Below w.heap.size w w' := by
  have hr := reachBytes_lt
  have ha' : a.size ≤ 9223372036854775807 := by omega
  have hb' : b.size ≤ 9223372036854775807 := by omega
  have hc' : c.size ≤ 9223372036854775807 := by omega
  clear ha hb hc hr
  have r1 := cmpL_range a.data.toList b.data.toList
  have l1 : -1 ≤ cmpL a.data.toList b.data.toList := by omega
  have l2 : cmpL a.data.toList b.data.toList ≤ 1 := by omega
  clear r1
  have d1 : decide (cmpL a.data.toList b.data.toList < -1) = false := by simp; omega
  have d2 : decide (1 < cmpL a.data.toList b.data.toList) = false := by simp; omega
  have nw : wrap64 (cmpL a.data.toList b.data.toList) = cmpL a.data.toList b.data.toList := IntWalk.wrap64_in _ (by omega)
  clear l1 l2
  have hn := Lib.hid (cmpL_neg a.data.toList b.data.toList)
  have he : (cmpL a.data.toList b.data.toList == 0) = (a.toList == b.toList) := by
    rw [ByteArray.toList_eq, ByteArray.toList_eq, Bool.eq_iff_iff]
    simp [cmpL_zero]
  have ht := cmpL_trans a.data.toList b.data.toList c.data.toList
  have key : (0 < cmpL a.data.toList b.data.toList ∧ (cmpL a.data.toList b.data.toList == 0) = false ∧ (a.toList == b.toList) = false) ∨
    (cmpL a.data.toList b.data.toList ≤ 0 ∧ 0 < cmpL b.data.toList c.data.toList ∧ (cmpL a.data.toList b.data.toList == 0) = (a.toList == b.toList)) ∨
    (cmpL a.data.toList b.data.toList ≤ 0 ∧ cmpL b.data.toList c.data.toList ≤ 0 ∧ cmpL a.data.toList c.data.toList ≤ 0 ∧ (cmpL a.data.toList b.data.toList == 0) = true ∧ (a.toList == b.toList) = true ∧ (cmpL a.data.toList c.data.toList == 0) = (cmpL b.data.toList c.data.toList == 0)) ∨
    (cmpL a.data.toList b.data.toList ≤ 0 ∧ cmpL b.data.toList c.data.toList ≤ 0 ∧ cmpL a.data.toList c.data.toList ≤ 0 ∧ (cmpL a.data.toList b.data.toList == 0) = false ∧ (a.toList == b.toList) = false ∧ (cmpL a.data.toList c.data.toList == 0) = false) := by
    rw [← he]
    by_cases p1 : 0 < cmpL a.data.toList b.data.toList
    · left; exact ⟨p1, by rw [beq_eq_false_iff_ne]; omega, by rw [beq_eq_false_iff_ne]; omega⟩
    right
    by_cases p2 : 0 < cmpL b.data.toList c.data.toList
    · left; exact ⟨by omega, p2, rfl⟩
    right
    obtain ⟨t1, t2⟩ := ht (by omega) (by omega)
    by_cases p3 : cmpL a.data.toList b.data.toList = 0
    · left
      refine ⟨by omega, by omega, t1, by rw [p3]; rfl, by rw [p3]; rfl, ?_⟩
      rw [Bool.eq_iff_iff]
      simp only [beq_iff_eq]
      rw [t2]; simp [p3]
    · right
      have q3 : (cmpL a.data.toList b.data.toList == 0) = false := beq_eq_false_iff_ne.2 p3
      exact ⟨by omega, by omega, t1, q3, q3, beq_eq_false_iff_ne.2 (fun h => p3 (t2.1 h).1)⟩
  clear ht he
  rcases key with ⟨k1, k2, k3⟩ | ⟨k1, k2, k3⟩ | ⟨k1, k2, k3, k4, k5, k6⟩ | ⟨k1, k2, k3, k4, k5, k6⟩
  · have e1 : decide (0 < cmpL a.data.toList b.data.toList) = true := by simpa using k1
    clear k1
    go_enter Try.func4, Try.ntmps4
    go_wp2_with (refine wpList_toBytes rfl 9 23 _ rfl 5 Try.underlying9 Try.underlying23 Try.underlying5 _ rfl ?_ ?_)
    · simp [maxLen]; omega
    intro v1 w1 o1 x1
    have X := x1
    have b1 := o1.bs
    clear o1 x1
    go_wp2_with (refine wpList_toBytes rfl 9 23 _ rfl 5 Try.underlying9 Try.underlying23 Try.underlying5 _ rfl ?_ ?_)
    · simp [maxLen]; omega
    intro v2 w2 o2 x2
    replace b1 := b1.ext x2
    replace X := X.trans x2
    have b2 := o2.bs
    clear o2 x2
    go_wp2_with (go_at_call 15; refine (impl_Compare _ _ _ _ _ b1 b2).mono ?_)
    rintro e w' ⟨rfl, rfl⟩
    go_wp2_with (refine wpList_toBytes rfl 9 23 _ rfl 5 Try.underlying9 Try.underlying23 Try.underlying5 _ rfl ?_ ?_)
    · simp [maxLen]; omega
    intro v3 w3 o3 x3
    replace b1 := b1.ext x3
    replace b2 := b2.ext x3
    replace X := X.trans x3
    have b3 := o3.bs
    clear o3 x3
    go_wp2_with (refine wpList_toBytes rfl 9 23 _ rfl 5 Try.underlying9 Try.underlying23 Try.underlying5 _ rfl ?_ ?_)
    · simp [maxLen]; omega
    intro v4 w4 o4 x4
    replace b1 := b1.ext x4
    replace b2 := b2.ext x4
    replace b3 := b3.ext x4
    replace X := X.trans x4
    have b4 := o4.bs
    clear o4 x4
    go_wp2_with (go_at_call 15; refine (impl_Compare _ _ _ _ _ b3 b4).mono ?_)
    rintro e w' ⟨rfl, rfl⟩
    go_wp2_with (refine wpList_toBytes rfl 9 23 _ rfl 5 Try.underlying9 Try.underlying23 Try.underlying5 _ rfl ?_ ?_)
    · simp [maxLen]; omega
    intro v5 w5 o5 x5
    replace b1 := b1.ext x5
    replace b2 := b2.ext x5
    replace b3 := b3.ext x5
    replace b4 := b4.ext x5
    replace X := X.trans x5
    have b5 := o5.bs
    clear o5 x5
    go_wp2_with (refine wpList_toBytes rfl 9 23 _ rfl 5 Try.underlying9 Try.underlying23 Try.underlying5 _ rfl ?_ ?_)
    · simp [maxLen]; omega
    intro v6 w6 o6 x6
    replace b1 := b1.ext x6
    replace b2 := b2.ext x6
    replace b3 := b3.ext x6
    replace b4 := b4.ext x6
    replace b5 := b5.ext x6
    replace X := X.trans x6
    have b6 := o6.bs
    clear o6 x6
    go_wp2_with (go_at_call 15; refine (impl_Compare _ _ _ _ _ b5 b6).mono ?_)
    rintro e w' ⟨rfl, rfl⟩
    go_wp2_with (refine wpList_toBytes rfl 9 23 _ rfl 5 Try.underlying9 Try.underlying23 Try.underlying5 _ rfl ?_ ?_)
    · simp [maxLen]; omega
    intro v7 w7 o7 x7
    replace b1 := b1.ext x7
    replace b2 := b2.ext x7
    replace b3 := b3.ext x7
    replace b4 := b4.ext x7
    replace b5 := b5.ext x7
    replace b6 := b6.ext x7
    replace X := X.trans x7
    have b7 := o7.bs
    clear o7 x7
    go_wp2_with (refine wpList_toBytes rfl 9 23 _ rfl 5 Try.underlying9 Try.underlying23 Try.underlying5 _ rfl ?_ ?_)
    · simp [maxLen]; omega
    intro v8 w8 o8 x8
    replace b1 := b1.ext x8
    replace b2 := b2.ext x8
    replace b3 := b3.ext x8
    replace b4 := b4.ext x8
    replace b5 := b5.ext x8
    replace b6 := b6.ext x8
    replace b7 := b7.ext x8
    replace X := X.trans x8
    have b8 := o8.bs
    clear o8 x8
    go_wp2_with (go_at_call 15; refine (impl_Compare _ _ _ _ _ b7 b8).mono ?_)
    rintro e w' ⟨rfl, rfl⟩
    rw [hn.out]
    go_wp2_with fail
    go_ret
    exact ⟨rfl, X.below⟩
  · have e1 : decide (0 < cmpL a.data.toList b.data.toList) = false := by simp; omega
    have e2 : decide (0 < cmpL b.data.toList c.data.toList) = true := by simpa using k2
    clear k1 k2
    go_enter Try.func4, Try.ntmps4
    go_wp2_with (refine wpList_toBytes rfl 9 23 _ rfl 5 Try.underlying9 Try.underlying23 Try.underlying5 _ rfl ?_ ?_)
    · simp [maxLen]; omega
    intro v1 w1 o1 x1
    have X := x1
    have b1 := o1.bs
    clear o1 x1
    go_wp2_with (refine wpList_toBytes rfl 9 23 _ rfl 5 Try.underlying9 Try.underlying23 Try.underlying5 _ rfl ?_ ?_)
    · simp [maxLen]; omega
    intro v2 w2 o2 x2
    replace b1 := b1.ext x2
    replace X := X.trans x2
    have b2 := o2.bs
    clear o2 x2
    go_wp2_with (go_at_call 15; refine (impl_Compare _ _ _ _ _ b1 b2).mono ?_)
    rintro e w' ⟨rfl, rfl⟩
    go_wp2_with (refine wpList_toBytes rfl 9 23 _ rfl 5 Try.underlying9 Try.underlying23 Try.underlying5 _ rfl ?_ ?_)
    · simp [maxLen]; omega
    intro v3 w3 o3 x3
    replace b1 := b1.ext x3
    replace b2 := b2.ext x3
    replace X := X.trans x3
    have b3 := o3.bs
    clear o3 x3
    go_wp2_with (refine wpList_toBytes rfl 9 23 _ rfl 5 Try.underlying9 Try.underlying23 Try.underlying5 _ rfl ?_ ?_)
    · simp [maxLen]; omega
    intro v4 w4 o4 x4
    replace b1 := b1.ext x4
    replace b2 := b2.ext x4
    replace b3 := b3.ext x4
    replace X := X.trans x4
    have b4 := o4.bs
    clear o4 x4
    go_wp2_with (go_at_call 15; refine (impl_Compare _ _ _ _ _ b3 b4).mono ?_)
    rintro e w' ⟨rfl, rfl⟩
    go_wp2_with (refine wpList_toBytes rfl 9 23 _ rfl 5 Try.underlying9 Try.underlying23 Try.underlying5 _ rfl ?_ ?_)
    · simp [maxLen]; omega
    intro v5 w5 o5 x5
    replace b1 := b1.ext x5
    replace b2 := b2.ext x5
    replace b3 := b3.ext x5
    replace b4 := b4.ext x5
    replace X := X.trans x5
    have b5 := o5.bs
    clear o5 x5
    go_wp2_with (refine wpList_toBytes rfl 9 23 _ rfl 5 Try.underlying9 Try.underlying23 Try.underlying5 _ rfl ?_ ?_)
    · simp [maxLen]; omega
    intro v6 w6 o6 x6
    replace b1 := b1.ext x6
    replace b2 := b2.ext x6
    replace b3 := b3.ext x6
    replace b4 := b4.ext x6
    replace b5 := b5.ext x6
    replace X := X.trans x6
    have b6 := o6.bs
    clear o6 x6
    go_wp2_with (go_at_call 15; refine (impl_Compare _ _ _ _ _ b5 b6).mono ?_)
    rintro e w' ⟨rfl, rfl⟩
    go_wp2_with (refine wpList_toBytes rfl 9 23 _ rfl 5 Try.underlying9 Try.underlying23 Try.underlying5 _ rfl ?_ ?_)
    · simp [maxLen]; omega
    intro v7 w7 o7 x7
    replace b1 := b1.ext x7
    replace b2 := b2.ext x7
    replace b3 := b3.ext x7
    replace b4 := b4.ext x7
    replace b5 := b5.ext x7
    replace b6 := b6.ext x7
    replace X := X.trans x7
    have b7 := o7.bs
    clear o7 x7
    go_wp2_with (refine wpList_toBytes rfl 9 23 _ rfl 5 Try.underlying9 Try.underlying23 Try.underlying5 _ rfl ?_ ?_)
    · simp [maxLen]; omega
    intro v8 w8 o8 x8
    replace b1 := b1.ext x8
    replace b2 := b2.ext x8
    replace b3 := b3.ext x8
    replace b4 := b4.ext x8
    replace b5 := b5.ext x8
    replace b6 := b6.ext x8
    replace b7 := b7.ext x8
    replace X := X.trans x8
    have b8 := o8.bs
    clear o8 x8
    go_wp2_with (go_at_call 15; refine (impl_Compare _ _ _ _ _ b7 b8).mono ?_)
    rintro e w' ⟨rfl, rfl⟩
    rw [hn.out]
    go_wp2_with fail
    go_ret
    exact ⟨rfl, X.below⟩
  · have e1 : decide (0 < cmpL a.data.toList b.data.toList) = false := by simp; omega
    have e2 : decide (0 < cmpL b.data.toList c.data.toList) = false := by simp; omega
    have e3 : decide (cmpL a.data.toList c.data.toList ≤ 0) = true := by simpa using k3
    clear k1 k2 k3
    go_enter Try.func4, Try.ntmps4
    go_wp2_with (refine wpList_toBytes rfl 9 23 _ rfl 5 Try.underlying9 Try.underlying23 Try.underlying5 _ rfl ?_ ?_)
    · simp [maxLen]; omega
    intro v1 w1 o1 x1
    have X := x1
    have b1 := o1.bs
    clear o1 x1
    go_wp2_with (refine wpList_toBytes rfl 9 23 _ rfl 5 Try.underlying9 Try.underlying23 Try.underlying5 _ rfl ?_ ?_)
    · simp [maxLen]; omega
    intro v2 w2 o2 x2
    replace b1 := b1.ext x2
    replace X := X.trans x2
    have b2 := o2.bs
    clear o2 x2
    go_wp2_with (go_at_call 15; refine (impl_Compare _ _ _ _ _ b1 b2).mono ?_)
    rintro e w' ⟨rfl, rfl⟩
    go_wp2_with (refine wpList_toBytes rfl 9 23 _ rfl 5 Try.underlying9 Try.underlying23 Try.underlying5 _ rfl ?_ ?_)
    · simp [maxLen]; omega
    intro v3 w3 o3 x3
    replace b1 := b1.ext x3
    replace b2 := b2.ext x3
    replace X := X.trans x3
    have b3 := o3.bs
    clear o3 x3
    go_wp2_with (refine wpList_toBytes rfl 9 23 _ rfl 5 Try.underlying9 Try.underlying23 Try.underlying5 _ rfl ?_ ?_)
    · simp [maxLen]; omega
    intro v4 w4 o4 x4
    replace b1 := b1.ext x4
    replace b2 := b2.ext x4
    replace b3 := b3.ext x4
    replace X := X.trans x4
    have b4 := o4.bs
    clear o4 x4
    go_wp2_with (go_at_call 15; refine (impl_Compare _ _ _ _ _ b3 b4).mono ?_)
    rintro e w' ⟨rfl, rfl⟩
    go_wp2_with (refine wpList_toBytes rfl 9 23 _ rfl 5 Try.underlying9 Try.underlying23 Try.underlying5 _ rfl ?_ ?_)
    · simp [maxLen]; omega
    intro v5 w5 o5 x5
    replace b1 := b1.ext x5
    replace b2 := b2.ext x5
    replace b3 := b3.ext x5
    replace b4 := b4.ext x5
    replace X := X.trans x5
    have b5 := o5.bs
    clear o5 x5
    go_wp2_with (refine wpList_toBytes rfl 9 23 _ rfl 5 Try.underlying9 Try.underlying23 Try.underlying5 _ rfl ?_ ?_)
    · simp [maxLen]; omega
    intro v6 w6 o6 x6
    replace b1 := b1.ext x6
    replace b2 := b2.ext x6
    replace b3 := b3.ext x6
    replace b4 := b4.ext x6
    replace b5 := b5.ext x6
    replace X := X.trans x6
    have b6 := o6.bs
    clear o6 x6
    go_wp2_with (go_at_call 15; refine (impl_Compare _ _ _ _ _ b5 b6).mono ?_)
    rintro e w' ⟨rfl, rfl⟩
    go_wp2_with (refine wpList_toBytes rfl 9 23 _ rfl 5 Try.underlying9 Try.underlying23 Try.underlying5 _ rfl ?_ ?_)
    · simp [maxLen]; omega
    intro v7 w7 o7 x7
    replace b1 := b1.ext x7
    replace b2 := b2.ext x7
    replace b3 := b3.ext x7
    replace b4 := b4.ext x7
    replace b5 := b5.ext x7
    replace b6 := b6.ext x7
    replace X := X.trans x7
    have b7 := o7.bs
    clear o7 x7
    go_wp2_with (refine wpList_toBytes rfl 9 23 _ rfl 5 Try.underlying9 Try.underlying23 Try.underlying5 _ rfl ?_ ?_)
    · simp [maxLen]; omega
    intro v8 w8 o8 x8
    replace b1 := b1.ext x8
    replace b2 := b2.ext x8
    replace b3 := b3.ext x8
    replace b4 := b4.ext x8
    replace b5 := b5.ext x8
    replace b6 := b6.ext x8
    replace b7 := b7.ext x8
    replace X := X.trans x8
    have b8 := o8.bs
    clear o8 x8
    go_wp2_with (go_at_call 15; refine (impl_Compare _ _ _ _ _ b7 b8).mono ?_)
    rintro e w' ⟨rfl, rfl⟩
    rw [hn.out]
    go_wp2_with fail
    go_ret
    exact ⟨rfl, X.below⟩
  · have e1 : decide (0 < cmpL a.data.toList b.data.toList) = false := by simp; omega
    have e2 : decide (0 < cmpL b.data.toList c.data.toList) = false := by simp; omega
    have e3 : decide (cmpL a.data.toList c.data.toList ≤ 0) = true := by simpa using k3
    clear k1 k2 k3
    go_enter Try.func4, Try.ntmps4
    go_wp2_with (refine wpList_toBytes rfl 9 23 _ rfl 5 Try.underlying9 Try.underlying23 Try.underlying5 _ rfl ?_ ?_)
    · simp [maxLen]; omega
    intro v1 w1 o1 x1
    have X := x1
    have b1 := o1.bs
    clear o1 x1
    go_wp2_with (refine wpList_toBytes rfl 9 23 _ rfl 5 Try.underlying9 Try.underlying23 Try.underlying5 _ rfl ?_ ?_)
    · simp [maxLen]; omega
    intro v2 w2 o2 x2
    replace b1 := b1.ext x2
    replace X := X.trans x2
    have b2 := o2.bs
    clear o2 x2
    go_wp2_with (go_at_call 15; refine (impl_Compare _ _ _ _ _ b1 b2).mono ?_)
    rintro e w' ⟨rfl, rfl⟩
    go_wp2_with (refine wpList_toBytes rfl 9 23 _ rfl 5 Try.underlying9 Try.underlying23 Try.underlying5 _ rfl ?_ ?_)
    · simp [maxLen]; omega
    intro v3 w3 o3 x3
    replace b1 := b1.ext x3
    replace b2 := b2.ext x3
    replace X := X.trans x3
    have b3 := o3.bs
    clear o3 x3
    go_wp2_with (refine wpList_toBytes rfl 9 23 _ rfl 5 Try.underlying9 Try.underlying23 Try.underlying5 _ rfl ?_ ?_)
    · simp [maxLen]; omega
    intro v4 w4 o4 x4
    replace b1 := b1.ext x4
    replace b2 := b2.ext x4
    replace b3 := b3.ext x4
    replace X := X.trans x4
    have b4 := o4.bs
    clear o4 x4
    go_wp2_with (go_at_call 15; refine (impl_Compare _ _ _ _ _ b3 b4).mono ?_)
    rintro e w' ⟨rfl, rfl⟩
    go_wp2_with (refine wpList_toBytes rfl 9 23 _ rfl 5 Try.underlying9 Try.underlying23 Try.underlying5 _ rfl ?_ ?_)
    · simp [maxLen]; omega
    intro v5 w5 o5 x5
    replace b1 := b1.ext x5
    replace b2 := b2.ext x5
    replace b3 := b3.ext x5
    replace b4 := b4.ext x5
    replace X := X.trans x5
    have b5 := o5.bs
    clear o5 x5
    go_wp2_with (refine wpList_toBytes rfl 9 23 _ rfl 5 Try.underlying9 Try.underlying23 Try.underlying5 _ rfl ?_ ?_)
    · simp [maxLen]; omega
    intro v6 w6 o6 x6
    replace b1 := b1.ext x6
    replace b2 := b2.ext x6
    replace b3 := b3.ext x6
    replace b4 := b4.ext x6
    replace b5 := b5.ext x6
    replace X := X.trans x6
    have b6 := o6.bs
    clear o6 x6
    go_wp2_with (go_at_call 15; refine (impl_Compare _ _ _ _ _ b5 b6).mono ?_)
    rintro e w' ⟨rfl, rfl⟩
    go_wp2_with (refine wpList_toBytes rfl 9 23 _ rfl 5 Try.underlying9 Try.underlying23 Try.underlying5 _ rfl ?_ ?_)
    · simp [maxLen]; omega
    intro v7 w7 o7 x7
    replace b1 := b1.ext x7
    replace b2 := b2.ext x7
    replace b3 := b3.ext x7
    replace b4 := b4.ext x7
    replace b5 := b5.ext x7
    replace b6 := b6.ext x7
    replace X := X.trans x7
    have b7 := o7.bs
    clear o7 x7
    go_wp2_with (refine wpList_toBytes rfl 9 23 _ rfl 5 Try.underlying9 Try.underlying23 Try.underlying5 _ rfl ?_ ?_)
    · simp [maxLen]; omega
    intro v8 w8 o8 x8
    replace b1 := b1.ext x8
    replace b2 := b2.ext x8
    replace b3 := b3.ext x8
    replace b4 := b4.ext x8
    replace b5 := b5.ext x8
    replace b6 := b6.ext x8
    replace b7 := b7.ext x8
    replace X := X.trans x8
    have b8 := o8.bs
    clear o8 x8
    go_wp2_with (go_at_call 15; refine (impl_Compare _ _ _ _ _ b7 b8).mono ?_)
    rintro e w' ⟨rfl, rfl⟩
    rw [hn.out]
    go_wp2_with fail
    go_ret
    exact ⟨rfl, X.below⟩
end Go.Proofs.Ytemlijpkdccflaa
