/- The walk of the law FnCompareFront: it returns true for every three strings within the form's reach. -/
import Derived.Test.YtemlijpkdccflaaCmp
import Derived.SizedLaws
namespace Go.Proofs.Ytemlijpkdccflaa
open Go.RowKit

theorem FnCompareFront_walk (w : World) (p : ByteArray) (hp : p.size ≤ reachBytes) (a : ByteArray) (ha : a.size ≤ reachBytes) (b : ByteArray) (hb : b.size ≤ reachBytes) :
    Calls Try.prog 3 #[.string p, .string a, .string b] w fun e w' => e = .returned (.bool true) ∧ Below w.heap.size w w' := by
  have hr := reachBytes_lt
  have hpa : p.size + a.size ≤ 9223372036854775807 := by omega
  have hpb : p.size + b.size ≤ 9223372036854775807 := by omega
  have hab : a.size + b.size ≤ 9223372036854775807 := by omega
  have ha' : a.size ≤ 9223372036854775807 := by omega
  have hb' : b.size ≤ 9223372036854775807 := by omega
  clear hp ha hb hr
  have hfr : (cmpL (p.data.toList ++ a.data.toList) (p.data.toList ++ b.data.toList) == cmpL a.data.toList b.data.toList) = true := by rw [cmpL_front]; simp
  by_cases h0 : b.data.toList = []
  · have h0' : b.toList.isEmpty = true := by rw [ByteArray.toList_eq]; simp [h0]
    have H0 := Lib.hid h0; clear h0
    go_enter Try.func3, Try.ntmps3
    go_wp2_with (refine wpList_toBytes rfl 9 23 _ rfl 5 Try.underlying9 Try.underlying23 Try.underlying5 _ rfl ?_ ?_)
    · simp [maxLen]; omega
    intro v1 w1 o1 x1
    go_wp2_with (refine wpList_toBytes rfl 9 23 _ rfl 5 Try.underlying9 Try.underlying23 Try.underlying5 _ rfl ?_ ?_)
    · simp [maxLen]; omega
    intro v2 w2 o2 x2
    go_wp2_with (go_at_call 15; refine (impl_Compare _ _ _ _ _ (o1.bs.ext x2) o2.bs).mono ?_)
    rintro e w' ⟨rfl, rfl⟩
    go_wp2_with (refine wpList_toBytes rfl 9 23 _ rfl 5 Try.underlying9 Try.underlying23 Try.underlying5 _ rfl ?_ ?_)
    · simp [maxLen]; omega
    intro v3 w3 o3 x3
    go_wp2_with (refine wpList_toBytes rfl 9 23 _ rfl 5 Try.underlying9 Try.underlying23 Try.underlying5 _ rfl ?_ ?_)
    · simp [maxLen]; omega
    intro v4 w4 o4 x4
    go_wp2_with (go_at_call 15; refine (impl_Compare _ _ _ _ _ (o3.bs.ext x4) o4.bs).mono ?_)
    rintro e w' ⟨rfl, rfl⟩
    go_wp2_with fail
    go_ret
    exact ⟨rfl, (((x1.trans x2).trans x3).trans x4).below⟩
  · have h0' : b.toList.isEmpty = false := by rw [ByteArray.toList_eq]; simpa using h0
    have hpre : (cmpL a.data.toList (a.data.toList ++ b.data.toList) == -1) = true := by rw [cmpL_pre _ _ h0]; rfl
    have H0 := Lib.hid h0; clear h0
    go_enter Try.func3, Try.ntmps3
    go_wp2_with (refine wpList_toBytes rfl 9 23 _ rfl 5 Try.underlying9 Try.underlying23 Try.underlying5 _ rfl ?_ ?_)
    · simp [maxLen]; omega
    intro v1 w1 o1 x1
    go_wp2_with (refine wpList_toBytes rfl 9 23 _ rfl 5 Try.underlying9 Try.underlying23 Try.underlying5 _ rfl ?_ ?_)
    · simp [maxLen]; omega
    intro v2 w2 o2 x2
    go_wp2_with (go_at_call 15; refine (impl_Compare _ _ _ _ _ (o1.bs.ext x2) o2.bs).mono ?_)
    rintro e w' ⟨rfl, rfl⟩
    go_wp2_with (refine wpList_toBytes rfl 9 23 _ rfl 5 Try.underlying9 Try.underlying23 Try.underlying5 _ rfl ?_ ?_)
    · simp [maxLen]; omega
    intro v3 w3 o3 x3
    go_wp2_with (refine wpList_toBytes rfl 9 23 _ rfl 5 Try.underlying9 Try.underlying23 Try.underlying5 _ rfl ?_ ?_)
    · simp [maxLen]; omega
    intro v4 w4 o4 x4
    go_wp2_with (go_at_call 15; refine (impl_Compare _ _ _ _ _ (o3.bs.ext x4) o4.bs).mono ?_)
    rintro e w' ⟨rfl, rfl⟩
    go_wp2_with (refine wpList_toBytes rfl 9 23 _ rfl 5 Try.underlying9 Try.underlying23 Try.underlying5 _ rfl ?_ ?_)
    · simp [maxLen]; omega
    intro v5 w5 o5 x5
    go_wp2_with (refine wpList_toBytes rfl 9 23 _ rfl 5 Try.underlying9 Try.underlying23 Try.underlying5 _ rfl ?_ ?_)
    · simp [maxLen]; omega
    intro v6 w6 o6 x6
    go_wp2_with (go_at_call 15; refine (impl_Compare _ _ _ _ _ (o5.bs.ext x6) o6.bs).mono ?_)
    rintro e w' ⟨rfl, rfl⟩
    go_wp2_with fail
    go_ret
    exact ⟨rfl, (((((x1.trans x2).trans x3).trans x4).trans x5).trans x6).below⟩
end Go.Proofs.Ytemlijpkdccflaa
