/- The walk of the law FnJoinLength. -/
import Derived.Test.YtlgoeiofachohaaFnJoinTwoW
import Derived.Test.YtlgoeiofachohaaPlainB
import Derived.Deep.DeepCutAuto
namespace Go.Proofs.Ytlgoeiofachohaa
open Go.RowKit

theorem join_first {L : List (List UInt8)} (x : List UInt8) (r : List (List UInt8)) (h : L = x :: r) (sep : List UInt8) : hasPre (Lib.join L sep) x = true := by
  rw [h, Lib.join_cons]
  exact hasPre_iff.2 ⟨_, rfl⟩
theorem join_last (L : List (List UInt8)) (x sep : List UInt8) : hasSuf (Lib.join (L ++ [x]) sep) x = true := by
  by_cases hL : L = []
  · subst hL
    rw [List.nil_append, Lib.join_one]
    exact hasSuf_iff.2 ⟨[], rfl⟩
  · rw [join_snoc hL]
    exact hasSuf_iff.2 ⟨_, rfl⟩
theorem join_length (x : List UInt8) (r : List (List UInt8)) (sep : List UInt8) : (Lib.join (x :: r) sep).length = Lib.lens (x :: r) + r.length * sep.length := by
  rw [Lib.join_cons, List.length_append, Lib.joinTail_length, Lib.lens_cons, Nat.mul_comm]
  omega

set_option maxRecDepth 100000 in
set_option maxHeartbeats 8000000 in
theorem FnJoinLength_walk (w : World) (v0 : Value) (L : List (List UInt8)) (b0 : Ss w v0 L) (s0 : ∀ l ∈ L, l.length ≤ maxLen) (a1 : ByteArray) (z1 : a1.size ≤ reachBytes) :
    Calls Try.prog 7 #[v0, .string a1] w fun e w' => e = .returned (.bool true) ∧ Below w.heap.size w w' := by
  replace z1 : a1.size ≤ 140737488351232 := z1
  have hm1 : a1.size ≤ maxLen := by unfold maxLen; omega
  have cF := laws_few v0 L a1 w b0 hm1 s0
  obtain ⟨p0, c0, e0, pc, q0, hcell⟩ := b0.raw
  subst e0
  have hc0 : c0 ≤ 9223372036854775807 := by unfold maxLen at q0; omega
  have HL := Lib.hid b0
  have HC := Lib.hid hcell
  clear s0 b0 hcell q0
  obtain ⟨nL, hnL⟩ : ∃ n, L.length = n := ⟨_, rfl⟩
  have HNL := Lib.hid hnL
  rw [hnL] at cF HL pc ⊢
  clear hnL
  go_enter Try.func7, Try.ntmps7
  go_wp2_with (go_at_call 22; refine cF.mono ?_)
  rintro _ w1 ⟨b, rfl, e1, hfew⟩
  subst w1
  cases b with
  | false =>
    clear hfew
    go_wp2_with fail
    go_ret
    exact ⟨rfl, Below.refl _ _⟩
  | true =>
    have hf := hfew rfl
    have es : a1.data.toList.length = a1.size := rfl
    have hbd := hf.bound a1.data.toList es
    have hn : nL < 16777216 := by have := hf.1; rwa [HNL.out] at this
    have ha1 : a1.size < 16777216 := hf.2.1
    have hlens := hf.2.2.2
    have HEL := Lib.hid (show ∀ l ∈ L, l.length ≤ 16777216 from fun l hl => by have := lens_mem hl; omega)
    have HEL2 := Lib.hid (show ∀ l ∈ L, l.length ≤ 140737488355328 from fun l hl => by have := lens_mem hl; omega)
    have hprod : (nL + 1) * (a1.size + 1) ≤ 16777216 := by have := hf.2.2.1; rwa [HNL.out] at this
    have hjl := join_len L a1.data.toList
    have hbd2 := hbd
    clear hfew hf cF
    go_wp2_with fail
    go_loopg [5, 15] nL (fun k n i wr => ∃ j : Nat, j + k = nL ∧ i = .int .i64 j ∧ n = .int .i64 (Lib.lens (L.take j) : Int) ∧ wr = w)
    case atStart => exact ⟨0, by omega, rfl, rfl, rfl⟩
    case round =>
      obtain ⟨j, hj, rfl, rfl, rfl⟩ := hrel
      have HJ := Lib.hid hj
      by_cases hlt : j < nL
      · have hg : 0 < gk := by omega
        have hlt' : j < L.length := by rw [HNL.out]; exact hlt
        obtain ⟨b, o, rfl, d0⟩ := HC.out j hlt'
        have hlj := HEL.out _ (List.getElem_mem hlt')
        have hstep := Lib.lens_take_succ L j L[j] (List.getElem?_eq_getElem hlt')
        have htl := Lib.lens_take_le L j
        obtain ⟨t, ht⟩ : ∃ t, L[j] = t := ⟨_, rfl⟩
        rw [ht] at d0 hlj hstep
        have hsz : (⟨t.toArray⟩ : ByteArray).size = t.length := rfl
        obtain ⟨s, hs⟩ : ∃ s, (⟨t.toArray⟩ : ByteArray) = s := ⟨_, rfl⟩
        rw [hs] at d0 hsz
        rw [← hsz] at hlj hstep
        obtain ⟨m, hm⟩ : ∃ m, Lib.lens (L.take j) = m := ⟨_, rfl⟩
        rw [hm] at hstep htl ⊢
        have hmb : m ≤ 16777216 := by omega
        have HS := Lib.hid hstep
        clear hj ht hs hsz hm hstep htl hjl hbd hbd2
        go_wp2_with fail
        go_roundg (gk - 1)
        case measure => omega
        case rel => exact ⟨j + 1, by have := HJ.out; omega, by go_num, by rw [HS.out]; go_num, rfl⟩
      · have HLE := Lib.hid (show Lib.lens (L.take j) = Lib.lens L by rw [List.take_of_length_le (by rw [HNL.out]; omega)])
        rw [HLE.out]
        obtain ⟨tot, htot⟩ : ∃ t, Lib.lens L = t := ⟨_, rfl⟩
        have HTOT := Lib.hid htot
        rw [htot] at hlens ⊢
        have hS0 : Vs wr (.slice p0 nL c0) nL 1 (svals L) := by have := HL.out; unfold Ss at this; rw [HNL.out] at this; exact this
        obtain ⟨J, hJ⟩ : ∃ J, Lib.join L a1.data.toList = J := ⟨_, rfl⟩
        rw [hJ] at hjl
        obtain ⟨sj, hsj⟩ : ∃ st, (⟨J.toArray⟩ : ByteArray) = st := ⟨_, rfl⟩
        have HSD := Lib.hid (show sj.data.toList = J by rw [← hsj])
        have hmj : sj.size ≤ maxLen := by rw [← hsj]; show J.length ≤ _; unfold maxLen; omega
        have hsjl : sj.size = J.length := by rw [← hsj]; rfl
        have HSJ := Lib.hid hsj
        have HJE := Lib.hid hJ
        have HSJL := Lib.hid hsjl
        have hJb : J.length ≤ 33554432 := by omega
        have hbd3 : Lib.lens L + a1.data.toList.length * (L.length - 1) ≤ 140737488355328 := by omega
        have hnn : L.length ≤ 16777216 := by rw [HNL.out]; omega
        clear hj hsj hJ hsjl htot hjl hbd hbd2
        go_wp2_with (refine wpList_appendVs rfl 31 _ _ rfl 9 1 16 _ Try.underlying31 info_string rfl (by omega) wr.heap.size _ 0 [] rfl (World.ownsRow_nil _ _ _ _) _ nL _ rfl hS0 (svals_one L) (by omega) (by omega) (Nat.le_refl _) ?_)
        intro v3 w3 o3 g3
        have x3 : Ext wr w3 := ext_of_grown g3 (by intro k hk; simp [Value.ownBlock] at hk)
        have s3 : Ss w3 v3 L := by
          have := vs_of_owns o3
          unfold Ss
          rw [HNL.out]
          simpa using this
        clear o3 g3 hS0
        go_wp2_with (go_at_call 24; refine (laws_lists _ _ _ s3 (by omega) HEL2.out).mono ?_)
        rintro _ w4 ⟨v4, rfl, o4, x4⟩
        have X := x3.trans x4
        have l4 := o4.bs
        clear x3 x4 o4 s3
        go_wp2_with (refine wpList_toBytes rfl 9 22 _ rfl 5 Try.underlying9 Try.underlying22 Try.underlying5 _ rfl hm1 ?_)
        intro v5 w5 o5 x5
        have c6 := impl_Join _ _ L _ _ (l4.ext x5) o5.bs (by omega) hbd3
        rw [HJE.out] at c6
        replace X := X.trans x5
        clear x5 o5 l4
        go_wp2_with (go_at_call 23; refine c6.mono ?_)
        rintro _ w6 ⟨v6, rfl, o6, x6⟩
        replace X := X.trans x6
        have q6 := o6.bs
        clear x6 o6 c6
        by_cases hL0 : nL = 0
        · have hLn : L = [] := List.eq_nil_of_length_eq_zero (by rw [HNL.out]; exact hL0)
          have hse : sj.toList.isEmpty = true := by
            rw [ByteArray.toList_eq, HSD.out, ← HJE.out, hLn]; rfl
          have hzL : ((nL : Int) == 0) = true := by rw [hL0]; rfl
          clear hL0 hLn
          go_wp2_with (refine wpList_toString rfl 22 9 _ rfl 5 Try.underlying22 Try.underlying5 Try.underlying9 _ _ rfl q6 ?_; rw [HSJ.out])
          go_ret
          exact ⟨by first | rfl | simp, X.below⟩
        · have hzL : ((nL : Int) == 0) = false := by rw [beq_eq_false_iff_ne]; omega
          have hl0 : 0 < L.length := by rw [HNL.out]; omega
          have hlast : nL - 1 < L.length := by rw [HNL.out]; omega
          obtain ⟨b, o, rfl, d0⟩ := HC.out 0 hl0
          obtain ⟨b', o', eb, d1⟩ := HC.out (nL - 1) hlast
          injection eb with eb
          injection eb with e1 e2
          subst e1 e2
          have hP := HEL.out _ (List.getElem_mem hl0)
          have hQ := HEL.out _ (List.getElem_mem hlast)
          have kp : hasPre J (L[0]'hl0) = true := by
            rw [← HJE.out]
            refine join_first _ (L.drop 1) ?_ _
            have := List.drop_eq_getElem_cons hl0
            simpa using this
          have kq : hasSuf J (L[nL - 1]'hlast) = true := by
            rw [← HJE.out]
            have e := List.take_succ_eq_append_getElem hlast
            rw [List.take_of_length_le (show L.length ≤ nL - 1 + 1 by rw [HNL.out]; omega)] at e
            have := join_last (L.take (nL - 1)) (L[nL - 1]'hlast) a1.data.toList
            rwa [← e] at this
          have klen : J.length = tot + (nL - 1) * a1.size := by
            have e := List.drop_eq_getElem_cons hl0
            rw [List.drop_zero] at e
            have h1 := join_length (L[0]'hl0) (L.drop 1) a1.data.toList
            rw [show L[0]'hl0 :: L.drop 1 = L from e.symm, HJE.out, HTOT.out, List.length_drop, HNL.out] at h1
            exact h1
          obtain ⟨tp, htp⟩ : ∃ t, L[0]'hl0 = t := ⟨_, rfl⟩
          obtain ⟨tq, htq⟩ : ∃ t, L[nL - 1]'hlast = t := ⟨_, rfl⟩
          rw [htp] at d0 hP kp
          rw [htq] at d1 hQ kq
          have hmp : (⟨tp.toArray⟩ : ByteArray).size ≤ maxLen := by show tp.length ≤ _; unfold maxLen; omega
          have hmq : (⟨tq.toArray⟩ : ByteArray).size ≤ maxLen := by show tq.length ≤ _; unfold maxLen; omega
          have hdp : (⟨tp.toArray⟩ : ByteArray).data.toList = tp := rfl
          have hdq : (⟨tq.toArray⟩ : ByteArray).data.toList = tq := rfl
          obtain ⟨sp, hsp⟩ : ∃ s, (⟨tp.toArray⟩ : ByteArray) = s := ⟨_, rfl⟩
          obtain ⟨sq, hsq⟩ : ∃ s, (⟨tq.toArray⟩ : ByteArray) = s := ⟨_, rfl⟩
          rw [hsp] at d0 hmp hdp
          rw [hsq] at d1 hmq hdq
          have HDP := Lib.hid hdp
          have HDQ := Lib.hid hdq
          rw [Nat.add_zero] at d0
          obtain ⟨n1, hn1⟩ : ∃ n1, nL = n1 + 1 := ⟨nL - 1, by omega⟩
          rw [hn1, Nat.add_sub_cancel] at d1 klen
          obtain ⟨PR, hPR⟩ : ∃ P, n1 * a1.size = P := ⟨_, rfl⟩
          have hPI : (n1 : Int) * (a1.size : Int) = (PR : Int) := by rw [← hPR]; simp
          have hPRb : PR ≤ 16777216 := by
            rw [← hPR]
            have : n1 * a1.size ≤ (nL + 1) * (a1.size + 1) := Nat.mul_le_mul (by omega) (by omega)
            omega
          have hlen : sj.size = tot + PR := by rw [HSJL.out, klen, hPR]
          replace d0 := X.cell d0
          replace d1 := X.cell d1
          have hnI : (nL : Int) - 1 = (n1 : Int) := by omega
          have hn1b : n1 < nL := by omega
          have KP := Lib.hid kp
          have KQ := Lib.hid kq
          have HLEN := Lib.hid hlen
          clear htp htq hsp hsq hdp hdq klen hPR hn1 kp kq hlen hl0 hlast hP hQ hnn
          have hlen := HLEN.out
          go_wp2_with (first | (refine wpList_toString rfl 22 9 _ rfl 5 Try.underlying22 Try.underlying5 Try.underlying9 _ _ rfl q6 ?_; rw [HSJ.out]) | refine wpList_toBytes rfl 9 22 _ rfl 5 Try.underlying9 Try.underlying22 Try.underlying5 _ rfl hmj ?_)
          intro v7 w7 o7 x7
          have o7 : Bs w7 v7 J := HSD.out ▸ o7.bs
          replace d0 := x7.cell d0
          replace d1 := x7.cell d1
          replace X := X.trans x7
          clear x7 q6 hlen
          go_wp2_with (refine wpList_toBytes rfl 9 22 _ rfl 5 Try.underlying9 Try.underlying22 Try.underlying5 _ rfl hmp ?_)
          intro v8 w8 o8 x8
          have o8 : Bs w8 v8 tp := HDP.out ▸ o8.bs
          replace d1 := x8.cell d1
          replace X := X.trans x8
          have c9 := impl_HasPrefix _ _ _ _ _ (o7.ext x8) o8
          rw [KP.out] at c9
          clear x8 o7 o8 d0
          go_wp2_with (first | (go_at_call 26; refine c9.mono ?_; rintro _ w9 ⟨rfl, rfl⟩) | refine wpList_toBytes rfl 9 22 _ rfl 5 Try.underlying9 Try.underlying22 Try.underlying5 _ rfl hmj ?_)
          intro v10 w10 o10 x10
          have o10 : Bs w10 v10 J := HSD.out ▸ o10.bs
          replace d1 := x10.cell d1
          replace X := X.trans x10
          clear x10 c9
          go_wp2_with (refine wpList_toBytes rfl 9 22 _ rfl 5 Try.underlying9 Try.underlying22 Try.underlying5 _ rfl hmq ?_)
          intro v11 w11 o11 x11
          have o11 : Bs w11 v11 tq := HDQ.out ▸ o11.bs
          replace X := X.trans x11
          have c12 := impl_HasSuffix _ _ _ _ _ (o10.ext x11) o11
          rw [KQ.out] at c12
          clear x11 o10 o11 d1
          go_wp2_with (go_at_call 27; refine c12.mono ?_; rintro _ w12 ⟨rfl, rfl⟩)
          go_ret
          exact ⟨by first | rfl | simp, X.below⟩
end Go.Proofs.Ytlgoeiofachohaa
