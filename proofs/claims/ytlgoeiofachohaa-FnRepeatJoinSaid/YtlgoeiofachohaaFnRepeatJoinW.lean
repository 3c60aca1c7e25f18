/- The walk of the law FnRepeatJoin. -/
import Derived.Test.YtlgoeiofachohaaRepeatW
import Derived.Test.YtlgoeiofachohaaJoin
import Derived.Lib.SlBytesConst
import Derived.Deep.DeepCutAuto
namespace Go.Proofs.Ytlgoeiofachohaa
open Go.RowKit

theorem join_empty (L : List (List UInt8)) : Lib.join L [] = L.flatten := by
  cases L with
  | nil => rfl
  | cons x r => rw [Lib.join_cons]; simp [Lib.joinTail]
theorem lens_rep (l : List UInt8) (c : Nat) : Lib.lens (List.replicate c l) = c * l.length := by
  simp [Lib.lens]

theorem ss_rep {w : World} {v : Value} {c : Nat} {l : List UInt8} (h : Vs w v c 1 (svals (List.replicate c l))) : Ss w v (List.replicate c l) := by
  unfold Ss
  rw [List.length_replicate]
  exact h

set_option maxRecDepth 100000 in
set_option maxHeartbeats 8000000 in
theorem FnRepeatJoin_walk (w : World) (a0 : ByteArray) (z0 : a0.size ≤ reachBytes) (n1 : UInt8) :
    Calls Try.prog 10 #[.string a0, .int .u8 (n1.toNat : Int)] w fun e w' => e = .returned (.bool true) ∧ Below w.heap.size w w' := by
  have hc1 := n1.toNat_lt
  obtain ⟨c, hc⟩ : ∃ c, n1.toNat = c := ⟨_, rfl⟩
  rw [hc] at hc1 ⊢
  clear hc
  replace z0 : a0.size ≤ 140737488351232 := z0
  by_cases h8 : 32768 < a0.size
  case pos =>
    go_enter Try.func10, Try.ntmps10
    go_wp2_with fail
    go_ret
    exact ⟨rfl, Below.refl _ _⟩
  have hmax : a0.size ≤ maxLen := by unfold maxLen; omega
  have es : a0.data.toList.length = a0.size := rfl
  have hb : c * a0.size ≤ 1099511627776 := by
    have : c * a0.size ≤ 256 * 32768 := Nat.mul_le_mul (by omega) (by omega)
    omega
  have hln : Lib.lens (List.replicate c a0.data.toList) + ([] : List UInt8).length * ((List.replicate c a0.data.toList).length - 1) ≤ 140737488355328 := by
    rw [lens_rep, es]; simp; omega
  have hrc : (List.replicate c a0.data.toList).length ≤ 140737488355328 := by simp; omega
  have hel : ∀ l ∈ List.replicate c a0.data.toList, l.length ≤ 140737488355328 := fun l hl => by
    rw [(List.mem_replicate.1 hl).2, es]; omega
  have hrc2 : (List.replicate c a0.data.toList).length ≤ 1099511627776 := by simp; omega
  have keyJ : Lib.join (List.replicate c a0.data.toList) [] = repL a0.data.toList c := join_empty _
  obtain ⟨R, hR⟩ : ∃ R, repL a0.data.toList c = R := ⟨_, rfl⟩
  rw [hR] at keyJ
  obtain ⟨sR, hsR⟩ : ∃ st, (⟨R.toArray⟩ : ByteArray) = st := ⟨_, rfl⟩
  have HR := Lib.hid hR
  have HSR := Lib.hid hsR
  have HJN := Lib.hid keyJ
  have HSV := Lib.hid (show ∀ j, svals (List.replicate (j + 1) a0.data.toList) = svals (List.replicate j a0.data.toList) ++ [.string a0] from fun j => by
    rw [← List.replicate_append_replicate]
    simp [svals])
  clear hR hsR keyJ es
  go_enter Try.func10, Try.ntmps10
  go_wp2_with fail
  go_loopg [5, 6] c (fun k o i wr => ∃ j : Nat, j + k = c ∧ i = .int .i64 j ∧ wr.ownsRow w.heap.size 9 1 o j (svals (List.replicate j a0.data.toList)) ∧ Ext w wr)
  case atStart => exact ⟨0, by omega, rfl, World.ownsRow_nil _ _ _ _, Ext.refl _⟩
  case round =>
    obtain ⟨j, hj, rfl, hgr, hx⟩ := hrel
    have HJ := Lib.hid hj
    have HX := Lib.hid hx
    have hsz : w.heap.size ≤ wr.heap.size := hx.size
    by_cases hlt : j < c
    · have hg : 0 < gk := by omega
      have O3 := Lib.hid (owns_keep hgr (Ext.alloc wr (.cells #[.string a0] 9)))
      clear hj hgr hx
      go_wp2_with (refine wpList_appendV rfl 31 _ _ rfl 9 1 16 _ Try.underlying31 info_string rfl (by omega) w.heap.size _ j _ rfl O3.out _ 1 _ [_] rfl rfl (news_alloc _ _ _) (by simp [Value.oneCell']) (by omega) (by omega) (by simp; omega) ?_)
      intro v3 w3 h3 g3
      have B3 := owns_grown O3.out g3 (by simp; omega) (below_ext HX.out.below (Ext.alloc wr _) HX.out.size) (Nat.le_refl _)
      have H3 := Lib.hid h3
      have HB3 := Lib.hid B3
      clear B3 h3 g3
      go_wp2_with fail
      go_roundg (gk - 1)
      case measure => omega
      case rel => exact ⟨j + 1, by have := HJ.out; omega, by go_num, by rw [HSV.out]; exact H3.out, ⟨HB3.out⟩⟩
    · have hje : j = c := by omega
      have s0 := vs_of_owns hgr
      rw [hje] at s0
      replace s0 := ss_rep s0
      clear hj hgr hx
      go_wp2_with (refine wpList_toBytes rfl 9 22 _ rfl 5 Try.underlying9 Try.underlying22 Try.underlying5 _ rfl hmax ?_)
      intro v1 w1 o1 x1
      have c2 := impl_Repeat _ _ c _ o1.bs (by omega) (by show a0.size ≤ _; omega) hb
      rw [HR.out] at c2
      have X := HX.out.trans x1
      replace s0 := s0.ext x1
      clear o1 x1
      go_wp2_with (go_at_call 29; refine c2.mono ?_)
      rintro _ w2 ⟨v2, rfl, q2, x2⟩
      replace X := X.trans x2
      replace s0 := s0.ext x2
      have c3 := laws_text1 _ _ true _ q2
      rw [HSR.out] at c3
      clear x2 c2
      go_wp2_with (go_at_call 28; refine c3.mono ?_)
      rintro _ w3 ⟨rfl, e3⟩
      subst w3
      clear c3 q2
      go_wp2_with (go_at_call 24; refine (laws_lists _ _ _ s0 hrc2 hel).mono ?_)
      rintro _ w4 ⟨v4, rfl, o4, x4⟩
      replace X := X.trans x4
      have hconv : (convert 22 22 (.slice (some ⟨w4.heap.size, 0, none⟩) 0 0)).run Try.prog (w4.alloc (.cells #[] 5)) = .ok (.slice (some ⟨w4.heap.size, 0, none⟩) 0 0) (w4.alloc (.cells #[] 5 (0, 1))) := Lib.run_convert_bytes_const w4 22 5 #[] 0 0 Try.underlying22 Try.underlying5
      have x5 : Ext w4 (w4.alloc (.cells #[] 5 (0, 1))) := Ext.alloc _ _
      have b5 : Bs (w4.alloc (.cells #[] 5 (0, 1))) (.slice (some ⟨w4.heap.size, 0, none⟩) 0 0) [] := ⟨_, 0, rfl, Nat.le_refl _, Nat.zero_le _, .inl rfl⟩
      have c6 := impl_Join _ _ _ [] _ (o4.bs.ext x5) b5 hrc hln
      rw [HJN.out] at c6
      replace X := X.trans x5
      clear x4 o4 s0 x5 b5
      go_wp2_with (go_at_call 23; refine c6.mono ?_)
      rintro _ w6 ⟨v6, rfl, o6, x6⟩
      replace X := X.trans x6
      have q6 := o6.bs
      clear x6 o6 c6 hconv
      go_wp2_with (refine wpList_toString rfl 22 9 _ rfl 5 Try.underlying22 Try.underlying5 Try.underlying9 _ _ rfl q6 ?_; rw [HSR.out])
      go_ret
      exact ⟨by simp, X.below⟩
end Go.Proofs.Ytlgoeiofachohaa
