/- The walk of the law FnSuffixLast: it returns true for every input within the form's reach. -/
import Derived.Test.YtlklmolcficdaaaLastIx
import Derived.SizedLaws
import Derived.Lib.SlBytesConst
namespace Go.Proofs.Ytlklmolcficdaaa
open Go.RowKit

set_option maxRecDepth 100000 in
set_option maxHeartbeats 1000000 in
theorem FnSuffixLast_walk (w : World) (s : ByteArray) (hs : s.size ≤ reachBytes) (p : ByteArray) (hp : p.size ≤ reachBytes) :
    Calls Try.prog 11 #[.string s, .string p] w fun e w' => e = .returned (.bool true) ∧ Below w.heap.size w w' := by
  have hr := reachBytes_lt
  have ss : s.size ≤ 140737488355328 := by omega
  have sp : p.size ≤ 140737488355328 := by omega
  clear hr hs hp
  have hps : p.size + s.size ≤ 9223372036854775807 := by omega
  have k1 := suf_last s.data.toList p.data.toList
  have z1 : hasSuf s.data.toList [] = true := hasSuf_iff.2 ⟨s.data.toList, by simp⟩
  have z2 : hasSuf (p.data.toList ++ s.data.toList) s.data.toList = true := hasSuf_iff.2 ⟨_, rfl⟩
  have kc := fun (w : World) (C : Array Value) (n c : Nat) => Lib.run_convert_bytes_const (P := Try.prog) w 23 5 C n c Try.underlying23 Try.underlying5
  obtain ⟨h, hh⟩ : ∃ h, hasSuf s.data.toList p.data.toList = h := ⟨_, rfl⟩
  rw [hh] at k1
  have key : (h = true ∧ decide (0 ≤ lastIx s.data.toList p.data.toList) = true ∧ (lastIx s.data.toList p.data.toList == (s.size : Int) - (p.size : Int)) = true) ∨ (h = false ∧ decide (0 ≤ lastIx s.data.toList p.data.toList) = false) ∨ (h = false ∧ decide (0 ≤ lastIx s.data.toList p.data.toList) = true ∧ (lastIx s.data.toList p.data.toList == (s.size : Int) - (p.size : Int)) = false) := by
    cases h
    · by_cases q : 0 ≤ lastIx s.data.toList p.data.toList
      · refine .inr (.inr ⟨rfl, by simpa using q, ?_⟩)
        rw [beq_eq_false_iff_ne]
        intro e
        have := k1.2 ⟨q, e⟩
        cases this
      · exact .inr (.inl ⟨rfl, by simpa using q⟩)
    · have := k1.1 rfl
      exact .inl ⟨rfl, by simpa using this.1, by simpa using this.2⟩
  clear k1
  rcases key with ⟨rfl, e1, e2⟩ | ⟨rfl, e1⟩ | ⟨rfl, e1, e2⟩
  all_goals
    go_enter Try.func11, Try.ntmps11
    go_wp2_with (refine wpList_toBytes rfl 9 23 _ rfl 5 Try.underlying9 Try.underlying23 Try.underlying5 _ rfl ?_ ?_)
    · simp [maxLen]; omega
    intro v1 w1 o1 x1
    have X := x1
    have b1 := o1.bs
    clear o1 x1
    go_wp2_with (refine wpList_toBytes rfl 9 23 _ rfl 5 Try.underlying9 Try.underlying23 Try.underlying5 _ rfl ?_ ?_)
    · simp [maxLen]; omega
    intro v2 w2 o2 x2
    replace b1 := b1.ext x2
    replace X := X.trans x2
    have b2 := o2.bs
    clear o2 x2
    go_wp2_with (go_at_call 27; refine (impl_LastIndex _ _ _ _ _ b1 b2 (by simp; omega)).mono ?_)
    rintro _ w3 ⟨rfl, x3⟩
    replace b1 := b1.ext x3
    replace b2 := b2.ext x3
    replace X := X.trans x3
    clear x3
    go_wp2_with (refine wpList_toBytes rfl 9 23 _ rfl 5 Try.underlying9 Try.underlying23 Try.underlying5 _ rfl ?_ ?_)
    · simp [maxLen]; omega
    intro v4 w4 o4 x4
    replace b1 := b1.ext x4
    replace b2 := b2.ext x4
    replace X := X.trans x4
    have b3 := o4.bs
    clear o4 x4
    go_wp2_with (refine wpList_toBytes rfl 9 23 _ rfl 5 Try.underlying9 Try.underlying23 Try.underlying5 _ rfl ?_ ?_)
    · simp [maxLen]; omega
    intro v5 w5 o5 x5
    replace b1 := b1.ext x5
    replace b2 := b2.ext x5
    replace b3 := b3.ext x5
    replace X := X.trans x5
    have b4 := o5.bs
    clear o5 x5
    go_wp2_with (go_at_call 22; refine (impl_HasSuffix _ _ _ _ _ b3 b4).mono ?_)
    rintro e w' ⟨rfl, rfl⟩
    go_wp2_with (refine wpList_toBytes rfl 9 23 _ rfl 5 Try.underlying9 Try.underlying23 Try.underlying5 _ rfl ?_ ?_)
    · simp [maxLen]; omega
    intro v6 w6 o6 x6
    replace b1 := b1.ext x6
    replace b2 := b2.ext x6
    replace b3 := b3.ext x6
    replace b4 := b4.ext x6
    replace X := X.trans x6
    have b5 := o6.bs
    clear o6 x6
    go_wp2_with (go_at_call 22; refine (impl_HasSuffix _ _ _ [] _ (b5.ext (Ext.alloc _ _)) ⟨_, _, rfl, Nat.le_refl _, Nat.zero_le _, .inl rfl⟩).mono ?_)
    rintro e w' ⟨rfl, rfl⟩
    obtain ⟨w7, hw7⟩ : ∃ w7, w7 = w6.alloc (.cells #[] 5 (0, 1)) := ⟨_, rfl⟩
    rw [← hw7]
    have x7 : Ext w6 w7 := hw7 ▸ Ext.alloc _ _
    clear hw7
    replace b1 := b1.ext x7
    replace b2 := b2.ext x7
    replace b3 := b3.ext x7
    replace b4 := b4.ext x7
    replace b5 := b5.ext x7
    replace X := X.trans x7
    clear x7
    go_wp2_with (refine wpList_toBytes rfl 9 23 _ rfl 5 Try.underlying9 Try.underlying23 Try.underlying5 _ rfl ?_ ?_)
    · simp [maxLen]; omega
    intro v8 w8 o8 x8
    replace b1 := b1.ext x8
    replace b2 := b2.ext x8
    replace b3 := b3.ext x8
    replace b4 := b4.ext x8
    replace b5 := b5.ext x8
    replace X := X.trans x8
    have b6 := o8.bs
    clear o8 x8
    go_wp2_with (refine wpList_toBytes rfl 9 23 _ rfl 5 Try.underlying9 Try.underlying23 Try.underlying5 _ rfl ?_ ?_)
    · simp [maxLen]; omega
    intro v9 w9 o9 x9
    replace b1 := b1.ext x9
    replace b2 := b2.ext x9
    replace b3 := b3.ext x9
    replace b4 := b4.ext x9
    replace b5 := b5.ext x9
    replace b6 := b6.ext x9
    replace X := X.trans x9
    have b7 := o9.bs
    clear o9 x9
    go_wp2_with (go_at_call 22; refine (impl_HasSuffix _ _ _ _ _ b6 b7).mono ?_)
    rintro e w' ⟨rfl, rfl⟩
    go_wp2_with fail
    go_ret
    exact ⟨rfl, X.below⟩

end Go.Proofs.Ytlklmolcficdaaa
