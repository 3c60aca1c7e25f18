/- Contracts of bytes.LastIndex and what it calls, of the thin package's LastIndex, and of the reference's lastIndex and index. Conditions: lengths below 2^62. -/
import Derived.Test.YtlbaoghebjaliaaDoorWrapA
import Derived.Test.YtlbaoghebjaliaaDoorPlainB
import Derived.Lib.LastIndexLaws
namespace Go.Proofs.YtlbaoghebjaliaaDoor
open Go.RowKit Go.Lib


/-- 'string(s[a:b]) == string(sep)' in a quiet region: the two conversions and the cut, as equations. -/
theorem win_part (s : List UInt8) (i n : Nat) : part s i (i + n) = RK.win s i n := by
  unfold part RK.win
  rw [List.drop_take]
  congr 1
  omega

theorem occ_win (s t : List UInt8) (i : Nat) (h : i + t.length ≤ s.length) : Lib.occAt s t i = eqB (part s i (i + t.length)) t := by
  rw [win_part, RK.occAt_win _ _ _ h]
  rfl


theorem ext_occ (s t : ByteArray) (i : Nat) (h : i + t.size ≤ s.size) : ((s.extract i (i + t.size)).toList == t.toList) = true ↔ Occ s.data.toList t.data.toList i := by
  rw [ByteArray.toList_eq, ByteArray.toList_eq, Lib.extract_data, beq_iff_eq, occ_part (by simpa using h)]
  rw [show i + t.size - i = t.data.toList.length by rw [Nat.add_sub_cancel_left]; rfl]




theorem spec_index (s t : ByteArray) (w : World) (hs : s.size ≤ 2305843009213693952) (ht : t.size ≤ 2305843009213693952) :
    Calls Tryd.prog 80 #[.string s, .string t] w (RetV (.int .i64 (firstIx s.data.toList t.data.toList)) w) := by
  have ES := Lib.hid (show s.data.toList.length = s.size from rfl)
  have ET := Lib.hid (show t.data.toList.length = t.size from rfl)
  go_enter Tryd.func80, Tryd.ntmps80
  go_wp2_with fail
  go_loopg [5] (s.size + 1) (fun k i wr => ∃ j : Nat, j + k = s.size + 1 ∧ i = .int .i64 j ∧ (∀ i, i < j → ¬ Occ s.data.toList t.data.toList i) ∧ w = wr)
  case atStart => exact ⟨0, by omega, rfl, fun i hi => by omega, rfl⟩
  case round =>
    obtain ⟨j, hj, rfl, hn, rfl⟩ := hrel
    have HN := Lib.hid hn
    have HJ := Lib.hid hj
    clear hn
    by_cases hlt : j + t.size ≤ s.size
    · have hg : 0 < gk := by omega
      have hjs : j ≤ s.size := by omega
      have hx := ext_occ s t j hlt
      clear hj
      by_cases ho : Occ s.data.toList t.data.toList j
      · have e1 : ((s.extract j (j + t.size)).toList == t.toList) = true := hx.2 ho
        have HF := Lib.hid (firstIx_eq ho (fun i hi => HN.out i hi))
        clear hx ho
        go_wp2_with fail
        go_ret
        exact ⟨by rw [HF.out]; rfl, Ext.refl _⟩
      · have e1 : ((s.extract j (j + t.size)).toList == t.toList) = false := by rw [Bool.eq_false_iff]; exact fun h => ho (hx.1 h)
        have HO := Lib.hid ho
        clear hx ho
        go_wp2_with fail
        go_roundg (gk - 1)
        case measure => omega
        case rel =>
          refine ⟨j + 1, by have := HJ.out; omega, by go_num, fun i hi => ?_, rfl⟩
          by_cases h : i = j
          · subst h; exact HO.out
          · exact HN.out i (by omega)
    · have HF := Lib.hid (firstIx_none (s := s.data.toList) (t := t.data.toList) (fun i ho => by
        have h1 := ho.le
        by_cases h : i < j
        · exact HN.out i h ho
        · have := ES.out; have := ET.out; omega))
      have hjs : j ≤ s.size + 1 := by omega
      clear hj
      go_wp2_with fail
      go_ret
      exact ⟨by rw [HF.out]; rfl, Ext.refl _⟩

/-- t stands in s. -/
def hasIn (s t : List UInt8) : Bool := decide (0 ≤ firstIx s t)


theorem spec_TextContains (s t : ByteArray) (w : World) (hs : s.size ≤ 2305843009213693952) (ht : t.size ≤ 2305843009213693952) :
    Calls Tryd.prog 53 #[.string s, .string t] w (RetV (.bool (hasIn s.data.toList t.data.toList)) w) := by
  go_enter Tryd.func53, Tryd.ntmps53
  go_wp2_with (go_at_call 80; refine (spec_index _ _ _ hs ht).mono ?_)
  rintro _ w1 ⟨rfl, x1⟩
  go_wp2_with fail
  go_ret
  exact ⟨rfl, x1⟩
theorem spec_Contains (v1 v2 : Value) (l1 l2 : List UInt8) (w : World) (h1 : Bs w v1 l1) (h2 : Bs w v2 l2) (k1 : l1.length ≤ 2305843009213693952) (k2 : l2.length ≤ 2305843009213693952) :
    Calls Tryd.prog 19 #[v1, v2] w (RetV (.bool (hasIn l1 l2)) w) := by
  go_enter Tryd.func19, Tryd.ntmps19
  go_wp2_with (first
    | refine wpList_toString rfl 30 9 (.tmp 5) rfl 5 Tryd.underlying30 Tryd.underlying5 Tryd.underlying9 _ _ rfl h1 ?_
    | refine wpList_toString rfl 30 9 (.tmp 7) rfl 5 Tryd.underlying30 Tryd.underlying5 Tryd.underlying9 _ _ rfl h2 ?_
    | (go_at_call 53; refine (spec_TextContains ⟨l1.toArray⟩ ⟨l2.toArray⟩ _ k1 k2).mono ?_))
  rintro _ w1 ⟨rfl, x1⟩
  go_wp2_with fail
  go_ret
  exact ⟨rfl, x1⟩
end Go.Proofs.YtlbaoghebjaliaaDoor
