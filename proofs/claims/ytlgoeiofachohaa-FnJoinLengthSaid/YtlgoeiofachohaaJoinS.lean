/- The reference model's Join; laws.few; a slice of strings as an argument. Printed by joins.py. -/
import Derived.Test.YtlgoeiofachohaaJoin
import Derived.Test.YtlgoeiofachohaaGlued
import Derived.Test.YtlgoeiofachohaaOpen
import Derived.Test.YtlgoeiofachohaaMono
import Derived.SliceStrings
import Derived.Deep.DeepCutAuto
namespace Go.Proofs.Ytlgoeiofachohaa
open Go.RowKit

set_option maxRecDepth 100000 in
set_option maxHeartbeats 1000000 in
theorem spec_strs (v : Value) (L : List (List UInt8)) (w : World) (h : Ls w v L) (hn : L.length ≤ 4398046511104) :
    Calls Try.prog 40 #[v] w (RetSs w L) := by
  obtain ⟨a, c, rfl, p1, q1, e1⟩ := h.raw
  have hc1 : c ≤ 9223372036854775807 := by unfold maxLen at q1; omega
  have HC := Lib.hid e1
  clear e1 h q1
  go_enter Try.func40, Try.ntmps40
  go_wp2_with fail
  have g0 := owns_empty w.heap.size 9 1 w (Nat.le_refl _)
  have x0 : Ext w (w.alloc (.cells #[] 9)) := Ext.alloc _ _
  go_loopg [3, 4] L.length (fun k o i wr => ∃ j : Nat, j + k = L.length ∧ i = .int .i64 j ∧ wr.ownsRow w.heap.size 9 1 o (L.take j).length (svals (L.take j)) ∧ Ext w wr)
  case atStart => exact ⟨0, by omega, rfl, g0, x0⟩
  case round =>
    obtain ⟨j, hj, rfl, hgr, hx⟩ := hrel
    clear g0 x0
    have HJ := Lib.hid hj
    by_cases hlt : j < L.length
    · have hg : 0 < gk := by omega
      obtain ⟨b, o, u, rfl, c0, bu⟩ := HC.out j hlt
      replace c0 := hx.cell c0
      replace bu := bu.ext hx
      obtain ⟨M, hM⟩ : ∃ M, L.take j = M := ⟨_, rfl⟩
      have HTL := Lib.hid (show M.length = j by rw [← hM]; simp; omega)
      have HMM := Lib.hid hM
      rw [hM] at hgr
      clear hM
      obtain ⟨t, ht⟩ : ∃ t, L[j] = t := ⟨_, rfl⟩
      have HTT := Lib.hid ht
      rw [ht] at bu
      have HO := Lib.hid hgr
      have HX := Lib.hid hx
      have HBU := Lib.hid bu
      obtain ⟨au, cu, eu, _, _⟩ := bu.shape
      subst eu
      have O3 := Lib.hid (owns_keep hgr (Ext.alloc wr (.cells #[.string ⟨t.toArray⟩] 9)))
      have hsz : w.heap.size ≤ wr.heap.size := hx.size
      clear hj hgr hx ht bu
      go_wp2_with (first | refine wpList_toString rfl 22 9 _ rfl 5 Try.underlying22 Try.underlying5 Try.underlying9 _ _ rfl HBU.out ?_ | refine wpList_appendV rfl 31 _ _ rfl 9 1 16 _ Try.underlying31 info_string rfl (by omega) w.heap.size _ _ _ rfl O3.out _ 1 _ [_] rfl rfl (news_alloc _ _ _) (by simp [Value.oneCell']) (by rw [HTL.out]; omega) (by rw [HTL.out]; omega) (by simp; omega) ?_)
      intro v3 w3 h3 g3
      have B3 := owns_grown O3.out g3 (by simp; omega) (below_ext HX.out.below (Ext.alloc wr _) HX.out.size) (Nat.le_refl _)
      have H3 := Lib.hid h3
      have HB3 := Lib.hid B3
      clear B3 h3 g3
      go_wp2_with fail
      go_roundg (gk - 1)
      case measure => omega
      case rel =>
        refine ⟨j + 1, by have := HJ.out; omega, by go_num, ?_, ⟨HB3.out⟩⟩
        rw [List.take_succ_eq_append_getElem hlt, HMM.out, HTT.out]
        have := H3.out
        rw [List.length_append, List.length_singleton]
        simpa [svals] using this
    · have hje : j = L.length := by omega
      have HT := Lib.hid (show L.take j = L from List.take_of_length_le (by omega))
      have HG := Lib.hid hgr
      clear hj hgr
      go_wp2_with fail
      go_ret
      have := HG.out
      rw [HT.out] at this
      exact ⟨_, rfl, vs_of_owns this, hx⟩

theorem join_snoc {L : List (List UInt8)} (hL : L ≠ []) (x sep : List UInt8) : Lib.join (L ++ [x]) sep = Lib.join L sep ++ sep ++ x := by
  cases L with
  | nil => exact absurd rfl hL
  | cons y r =>
    rw [List.cons_append, Lib.join_cons, Lib.join_cons]
    simp [Lib.joinTail, List.append_assoc]
theorem join_take_le (L : List (List UInt8)) (sep : List UInt8) (j : Nat) : (Lib.join (L.take j) sep).length ≤ (Lib.join L sep).length := by
  cases L with
  | nil => simp
  | cons x r =>
    cases j with
    | zero => simp [Lib.join_nil]
    | succ j =>
      rw [List.take_succ_cons, Lib.join_cons, Lib.join_cons, List.length_append, List.length_append]
      have := Lib.joinTail_take_le sep r j
      omega

set_option maxRecDepth 100000 in
set_option maxHeartbeats 2000000 in
theorem spec_joined (v : Value) (L : List (List UInt8)) (ss : ByteArray) (w : World) (h : Ss w v L) (hlen : (Lib.join L ss.data.toList).length ≤ 140737488355328) :
    Calls Try.prog 50 #[v, .string ss] w (RetV (.string ⟨(Lib.join L ss.data.toList).toArray⟩) w) := by
  obtain ⟨a, c, rfl, p1, q1, e1⟩ := h.raw
  have hc1 : c ≤ 9223372036854775807 := by unfold maxLen at q1; omega
  have HC := Lib.hid e1
  have HTK := Lib.hid (fun j => join_take_le L ss.data.toList j)
  clear e1 h q1
  have g0 := Buf.empty w.heap.size 5 w (Nat.le_refl _)
  have x0 : Ext w (w.alloc (.cells #[] 5)) := Ext.alloc _ _
  go_enter Try.func50, Try.ntmps50
  go_wp2_with fail
  go_loopg [5, 6] L.length (fun k o i wr => ∃ j : Nat, j + k = L.length ∧ i = .int .i64 j ∧ Buf w.heap.size 5 wr o (Lib.join (L.take j) ss.data.toList) ∧ Ext w wr)
  case atStart => exact ⟨0, by omega, rfl, g0, x0⟩
  case round =>
    obtain ⟨j, hj, rfl, hgr, hx⟩ := hrel
    clear g0 x0
    have HJ := Lib.hid hj
    have HX := Lib.hid hx
    have hsz := hx.size
    by_cases hlt : j < L.length
    · have hg : 0 < gk := by omega
      obtain ⟨b, o, rfl, c0⟩ := HC.out j hlt
      replace c0 := hx.cell c0
      have htk := HTK.out (j + 1)
      have hstep : j ≠ 0 → Lib.join (L.take (j + 1)) ss.data.toList = Lib.join (L.take j) ss.data.toList ++ ss.data.toList ++ L[j] := fun h0 => by
        rw [List.take_succ_eq_append_getElem hlt, join_snoc (by intro e; have := congrArg List.length e; rw [List.length_take, List.length_nil] at this; omega)]
      have hstep0 : j = 0 → Lib.join (L.take (j + 1)) ss.data.toList = L[j] := fun h0 => by
        rw [List.take_succ_eq_append_getElem hlt]
        have : L.take j = [] := by rw [h0]; rfl
        rw [this]; exact Lib.join_one _ _
      have h00 : j = 0 → Lib.join (L.take j) ss.data.toList = [] := fun h0 => by rw [h0]; rfl
      obtain ⟨t, ht⟩ : ∃ t, L[j] = t := ⟨_, rfl⟩
      rw [ht] at c0 hstep hstep0
      obtain ⟨M, hM⟩ : ∃ M, Lib.join (L.take j) ss.data.toList = M := ⟨_, rfl⟩
      rw [hM] at hgr hstep h00
      have HG := Lib.hid hgr
      have HST := Lib.hid hstep
      have HS0 := Lib.hid hstep0
      have H00 := Lib.hid h00
      clear hj hgr hx ht hM hstep hstep0 h00
      by_cases hj0 : j = 0
      · have hz : ¬ (0 : Int) < (j : Int) := by omega
        have e0 := H00.out hj0
        subst e0
        have e1 := HS0.out hj0
        rw [e1] at htk
        have HE1 := Lib.hid e1
        have hl2 : ([] : List UInt8).length + (⟨t.toArray⟩ : ByteArray).size ≤ 140737488355328 := by show 0 + t.length ≤ _; omega
        clear hj0 e1
        go_wp2_with (refine wpList_appendStr rfl 22 9 _ _ rfl 5 Try.underlying22 Try.underlying9 info_u8' w.heap.size _ [] rfl HG.out _ rfl hl2 hsz ?_)
        intro v3 w3 h3 g3
        have B3 := HG.out.grown g3 hsz HX.out.below (Nat.le_refl _)
        have H3 := Lib.hid h3
        have HB3 := Lib.hid B3
        clear B3 h3 g3
        go_wp2_with fail
        go_roundg (gk - 1)
        case measure => omega
        case rel => exact ⟨j + 1, by have := HJ.out; omega, by go_num, by rw [HE1.out]; exact H3.out, ⟨HB3.out⟩⟩
      · have hz : (0 : Int) < (j : Int) := by omega
        have e1 := HST.out hj0
        rw [e1, List.length_append, List.length_append] at htk
        have HE1 := Lib.hid e1
        have es : ss.data.toList.length = ss.size := rfl
        rw [es] at htk
        have hl1 : M.length + ss.size ≤ 140737488355328 := by omega
        have hl2 : (M ++ ss.data.toList).length + (⟨t.toArray⟩ : ByteArray).size ≤ 140737488355328 := by rw [List.length_append, es]; show _ + t.length ≤ _; omega
        clear hj0 e1 es
        go_wp2_with (refine wpList_appendStr rfl 22 9 _ _ rfl 5 Try.underlying22 Try.underlying9 info_u8' w.heap.size _ M rfl HG.out _ rfl hl1 hsz ?_)
        intro v2 w2 h2 g2
        have B2 := HG.out.grown g2 hsz HX.out.below (Nat.le_refl _)
        have hsz2 : w.heap.size ≤ w2.heap.size := Nat.le_trans hsz g2.size
        have X2 : Ext w w2 := ⟨B2⟩
        have cellk : w2.cell? ⟨b, o + j, none⟩ = some (.string ⟨t.toArray⟩) := by
          have hb := World.block_lt_of_cell? _ _ c0
          obtain ⟨b', o', eb, c0'⟩ := HC.out j hlt
          have := X2.cell c0'
          injection eb with eb
          injection eb with e1 e2
          subst e1 e2
          have c1 := HX.out.cell c0'
          rw [c0] at c1
          injection c1 with c1
          rw [← c1] at this
          exact this
        have H2 := Lib.hid h2
        have HX2 := Lib.hid X2
        clear h2 g2 B2 c0 X2
        go_wp2_with (refine wpList_appendStr rfl 22 9 _ _ rfl 5 Try.underlying22 Try.underlying9 info_u8' w.heap.size _ _ rfl H2.out _ rfl hl2 hsz2 ?_)
        intro v3 w3 h3 g3
        have B3 := H2.out.grown g3 hsz2 HX2.out.below (Nat.le_refl _)
        have H3 := Lib.hid h3
        have HB3 := Lib.hid B3
        clear B3 h3 g3
        go_wp2_with fail
        go_roundg (gk - 1)
        case measure => omega
        case rel => exact ⟨j + 1, by have := HJ.out; omega, by go_num, by rw [HE1.out, List.append_assoc]; exact H3.out, ⟨HB3.out⟩⟩
    · have hb := hgr.own.bs
      rw [List.take_of_length_le (by omega)] at hb
      clear hj hgr
      go_wp2_with (refine wpList_toString rfl 22 9 _ rfl 5 Try.underlying22 Try.underlying5 Try.underlying9 _ _ rfl hb ?_)
      go_ret
      exact ⟨rfl, hx⟩

set_option maxRecDepth 100000 in
theorem spec_TextJoin (v : Value) (L : List (List UInt8)) (ss : ByteArray) (w : World) (h : Ss w v L) (hlen : (Lib.join L ss.data.toList).length ≤ 140737488355328) :
    Calls Try.prog 39 #[v, .string ss] w (RetV (.string ⟨(Lib.join L ss.data.toList).toArray⟩) w) := by
  obtain ⟨a, c, rfl, p1, q1, e1⟩ := h.raw
  go_enter Try.func39, Try.ntmps39
  go_wp2_with (go_at_call 50; refine (spec_joined _ L ss w h hlen).mono ?_)
  rintro _ w1 ⟨rfl, x1⟩
  go_wp2_with fail
  go_ret
  exact ⟨rfl, x1⟩

set_option maxRecDepth 100000 in
set_option maxHeartbeats 4000000 in
theorem spec_Join (tv sv : Value) (L : List (List UInt8)) (sep : List UInt8) (w : World) (h : Ls w tv L) (hs : Bs w sv sep) (hn : L.length ≤ 4398046511104) (hlen : (Lib.join L sep).length ≤ 140737488355328) :
    Calls Try.prog 25 #[tv, sv] w (RetTx w (Lib.join L sep)) := by
  obtain ⟨ss, hss⟩ : ∃ ss, (⟨sep.toArray⟩ : ByteArray) = ss := ⟨_, rfl⟩
  have hsd : ss.data.toList = sep := by rw [← hss]
  have hlen2 : (Lib.join L ss.data.toList).length ≤ 140737488355328 := by rw [hsd]; exact hlen
  obtain ⟨J, hJ⟩ : ∃ J, Lib.join L sep = J := ⟨_, rfl⟩
  rw [hJ] at hlen ⊢
  obtain ⟨sj, hsj⟩ : ∃ sj, (⟨J.toArray⟩ : ByteArray) = sj := ⟨_, rfl⟩
  have HJJ := Lib.hid (show (⟨(Lib.join L ss.data.toList).toArray⟩ : ByteArray) = sj by rw [hsd, hJ, hsj])
  have hmj : sj.size ≤ maxLen := by rw [← hsj]; show J.length ≤ _; unfold maxLen; omega
  have HSJ := Lib.hid (show sj.data.toList = J by rw [← hsj])
  have HSS := Lib.hid hss
  have HL := Lib.hid h
  have HS := Lib.hid hs
  clear hss hsd hJ hsj h hs
  go_enter Try.func25, Try.ntmps25
  go_upto_region 1 with fail
  go_cut [4] (fun s4 wx => Bs wx s4 J ∧ Ext w wx)
  case first =>
    refine wp_region_mono (by kernel_rfl) [5, 6, 7, 8, 9, 10, 4] (by kernel_rfl) (by decide) (by simp) (by kernel_rfl)
      (fun i => match i with | 0 => (fun v w => v = tv) | 1 => (fun v w => Ss w v L) | 2 => (fun v w => v = sv) | 3 => (fun v w => v = .string ss) | 4 => (fun v w => v = .string sj) | 5 => (fun v w => Bs w v J) | 6 => (fun v w => Bs w v J) | _ => fun _ _ => True) ?stable ?steps ?fin
    case stable =>
      intro i v w' w'' h x
      match i, h with
      | 0, h => exact h
      | 1, h => exact (show Ss w' v L from h).ext x
      | 2, h => exact h
      | 3, h => exact h
      | 4, h => exact h
      | 5, h => exact (show Bs w' v J from h).ext x
      | 6, h => exact (show Bs w' v J from h).ext x
      | _ + 7, _ => trivial
    case steps =>
      refine AllSteps.cons (fun us hus w' x h => ?_) ?_
      · obtain ⟨u0, t0, e0, s0⟩ := len_cons hus; obtain ⟨u1, t1, e1, s1⟩ := len_cons s0; obtain ⟨u2, t2, e2, s2⟩ := len_cons s1; obtain ⟨u3, t3, e3, s3⟩ := len_cons s2; obtain ⟨u4, t4, e4, s4⟩ := len_cons s3; obtain ⟨u5, t5, e5, s5⟩ := len_cons s4; obtain ⟨u6, t6, e6, s6⟩ := len_cons s5
        obtain rfl := len_nil s6
        clear hus s0 s1 s2 s3 s4 s5 s6
        subst e6 e5 e4 e3 e2 e1 e0
        clear h
        simp only [over, Act.put, List.setIfInBounds_toArray, List.set_cons_zero, List.set_cons_succ]
        go_wp2_with fail
        exact postK_normal ⟨_, rfl, rfl, Ext.refl _⟩
      refine AllSteps.cons (fun us hus w' x h => ?_) ?_
      · obtain ⟨u0, t0, e0, s0⟩ := len_cons hus; obtain ⟨u1, t1, e1, s1⟩ := len_cons s0; obtain ⟨u2, t2, e2, s2⟩ := len_cons s1; obtain ⟨u3, t3, e3, s3⟩ := len_cons s2; obtain ⟨u4, t4, e4, s4⟩ := len_cons s3; obtain ⟨u5, t5, e5, s5⟩ := len_cons s4; obtain ⟨u6, t6, e6, s6⟩ := len_cons s5
        obtain rfl := len_nil s6
        clear hus s0 s1 s2 s3 s4 s5 s6
        subst e6 e5 e4 e3 e2 e1 e0
        have h0 : u0 = tv := h 0 (by kernel_rfl)
        clear h
        simp only [over, Act.put, List.setIfInBounds_toArray, List.set_cons_zero, List.set_cons_succ]
        subst h0
        go_wp2_with (go_at_call 40; refine (spec_strs _ L _ (HL.out.ext x) hn).mono ?_)
        rintro _ w5 ⟨v5, rfl, o5, x5⟩
        go_wp2_with fail
        exact postK_normal ⟨_, rfl, o5, x5⟩
      refine AllSteps.cons (fun us hus w' x h => ?_) ?_
      · obtain ⟨u0, t0, e0, s0⟩ := len_cons hus; obtain ⟨u1, t1, e1, s1⟩ := len_cons s0; obtain ⟨u2, t2, e2, s2⟩ := len_cons s1; obtain ⟨u3, t3, e3, s3⟩ := len_cons s2; obtain ⟨u4, t4, e4, s4⟩ := len_cons s3; obtain ⟨u5, t5, e5, s5⟩ := len_cons s4; obtain ⟨u6, t6, e6, s6⟩ := len_cons s5
        obtain rfl := len_nil s6
        clear hus s0 s1 s2 s3 s4 s5 s6
        subst e6 e5 e4 e3 e2 e1 e0
        clear h
        simp only [over, Act.put, List.setIfInBounds_toArray, List.set_cons_zero, List.set_cons_succ]
        go_wp2_with fail
        exact postK_normal ⟨_, rfl, rfl, Ext.refl _⟩
      refine AllSteps.cons (fun us hus w' x h => ?_) ?_
      · obtain ⟨u0, t0, e0, s0⟩ := len_cons hus; obtain ⟨u1, t1, e1, s1⟩ := len_cons s0; obtain ⟨u2, t2, e2, s2⟩ := len_cons s1; obtain ⟨u3, t3, e3, s3⟩ := len_cons s2; obtain ⟨u4, t4, e4, s4⟩ := len_cons s3; obtain ⟨u5, t5, e5, s5⟩ := len_cons s4; obtain ⟨u6, t6, e6, s6⟩ := len_cons s5
        obtain rfl := len_nil s6
        clear hus s0 s1 s2 s3 s4 s5 s6
        subst e6 e5 e4 e3 e2 e1 e0
        have h2 : u2 = sv := h 2 (by kernel_rfl)
        clear h
        simp only [over, Act.put, List.setIfInBounds_toArray, List.set_cons_zero, List.set_cons_succ]
        subst h2
        go_wp2_with (refine wpList_toString rfl 22 9 _ rfl 5 Try.underlying22 Try.underlying5 Try.underlying9 _ _ rfl (HS.out.ext x) ?_)
        rw [HSS.out]
        go_wp2_with fail
        exact postK_normal ⟨_, rfl, rfl, Ext.refl _⟩
      refine AllSteps.cons (fun us hus w' x h => ?_) ?_
      · obtain ⟨u0, t0, e0, s0⟩ := len_cons hus; obtain ⟨u1, t1, e1, s1⟩ := len_cons s0; obtain ⟨u2, t2, e2, s2⟩ := len_cons s1; obtain ⟨u3, t3, e3, s3⟩ := len_cons s2; obtain ⟨u4, t4, e4, s4⟩ := len_cons s3; obtain ⟨u5, t5, e5, s5⟩ := len_cons s4; obtain ⟨u6, t6, e6, s6⟩ := len_cons s5
        obtain rfl := len_nil s6
        clear hus s0 s1 s2 s3 s4 s5 s6
        subst e6 e5 e4 e3 e2 e1 e0
        have h1 : Ss w' u1 L := h 1 (by kernel_rfl)
        have h3 : u3 = .string ss := h 3 (by kernel_rfl)
        clear h
        simp only [over, Act.put, List.setIfInBounds_toArray, List.set_cons_zero, List.set_cons_succ]
        subst h3
        have c5 := spec_TextJoin _ L ss _ h1 hlen2
        rw [HJJ.out] at c5
        go_wp2_with (go_at_call 39; refine c5.mono ?_)
        rintro _ w5 ⟨rfl, x5⟩
        go_wp2_with fail
        exact postK_normal ⟨_, rfl, rfl, x5⟩
      refine AllSteps.cons (fun us hus w' x h => ?_) ?_
      · obtain ⟨u0, t0, e0, s0⟩ := len_cons hus; obtain ⟨u1, t1, e1, s1⟩ := len_cons s0; obtain ⟨u2, t2, e2, s2⟩ := len_cons s1; obtain ⟨u3, t3, e3, s3⟩ := len_cons s2; obtain ⟨u4, t4, e4, s4⟩ := len_cons s3; obtain ⟨u5, t5, e5, s5⟩ := len_cons s4; obtain ⟨u6, t6, e6, s6⟩ := len_cons s5
        obtain rfl := len_nil s6
        clear hus s0 s1 s2 s3 s4 s5 s6
        subst e6 e5 e4 e3 e2 e1 e0
        have h4 : u4 = .string sj := h 4 (by kernel_rfl)
        clear h
        simp only [over, Act.put, List.setIfInBounds_toArray, List.set_cons_zero, List.set_cons_succ]
        subst h4
        go_wp2_with (refine wpList_toBytes rfl 9 22 _ rfl 5 Try.underlying9 Try.underlying22 Try.underlying5 _ rfl hmj ?_)
        intro v5 w5 o5 x5
        have o5 : Bs w5 v5 J := HSJ.out ▸ o5.bs
        go_wp2_with fail
        exact postK_normal ⟨_, rfl, o5, x5⟩
      refine AllSteps.cons (fun us hus w' x h => ?_) ?_
      · obtain ⟨u0, t0, e0, s0⟩ := len_cons hus; obtain ⟨u1, t1, e1, s1⟩ := len_cons s0; obtain ⟨u2, t2, e2, s2⟩ := len_cons s1; obtain ⟨u3, t3, e3, s3⟩ := len_cons s2; obtain ⟨u4, t4, e4, s4⟩ := len_cons s3; obtain ⟨u5, t5, e5, s5⟩ := len_cons s4; obtain ⟨u6, t6, e6, s6⟩ := len_cons s5
        obtain rfl := len_nil s6
        clear hus s0 s1 s2 s3 s4 s5 s6
        subst e6 e5 e4 e3 e2 e1 e0
        have h5 : Bs w' u5 J := h 5 (by kernel_rfl)
        clear h
        simp only [over, Act.put, List.setIfInBounds_toArray, List.set_cons_zero, List.set_cons_succ]
        obtain ⟨a5, c5, e5, _⟩ := h5.shape
        subst e5
        go_wp2_with fail
        exact postK_normal ⟨_, rfl, h5, Ext.refl _⟩
      exact AllSteps.nil
    case fin =>
      intro us hus w' x h
      obtain ⟨u0, t0, e0, s0⟩ := len_cons hus; obtain ⟨u1, t1, e1, s1⟩ := len_cons s0; obtain ⟨u2, t2, e2, s2⟩ := len_cons s1; obtain ⟨u3, t3, e3, s3⟩ := len_cons s2; obtain ⟨u4, t4, e4, s4⟩ := len_cons s3; obtain ⟨u5, t5, e5, s5⟩ := len_cons s4; obtain ⟨u6, t6, e6, s6⟩ := len_cons s5
      obtain rfl := len_nil s6
      clear hus s0 s1 s2 s3 s4 s5 s6
      subst e6 e5 e4 e3 e2 e1 e0
      have h6 : Bs w' u6 J := h 6 (by decide)
      clear h
      obtain ⟨a6, c6, e6, _⟩ := id h6
      subst e6
      simp only [over, Act.put, List.setIfInBounds_toArray, List.set_cons_zero, List.set_cons_succ]
      go_wp2_with fail
      go_meet
      exact ⟨h6, x⟩
  case rest =>
    obtain ⟨h6, x5⟩ := hcut
    go_wp2_with fail
    go_ret
    exact ⟨_, rfl, h6, x5⟩

open Go.ChangeShapes Go.WideShapes Go.ChangeAt in
/-- A slice of strings that is an argument. -/
theorem open_strs {H : Type} {enc : TypeId × Value → H} {P : Program} {W : World} {r : Reach} {b0 : Nat} {t e : TypeId} {v : Value} {d : DataW H} {p : List MemPlace}
    (ht : P.underlying t = some (.slice e)) (he : P.underlying e = some .string) (hc : P.cellsOf e = 1) (hv : Value.okWide P W r b0 t v)
    (h : DataW.Trod enc P W 0 (fun _ => true) true t v d p) : ∃ L, Ss W v L ∧ ∀ l ∈ L, l.length ≤ maxLen := by
  obtain ⟨a0, len, cap, rfl⟩ := okWide_slice ht hv
  obtain ⟨fuel, hf⟩ := h
  rcases open_strings ht he hc hf with ⟨hcs, _⟩ | ⟨x, l, c, ss, hcs, _, hl, hm, hz, _, hcell, hsz⟩
  · simp [Value.cells] at hcs
    obtain ⟨rfl, rfl, rfl⟩ := hcs
    exact ⟨[], ⟨rfl, none, 0, rfl, Nat.le_refl _, Nat.zero_le _, .inl rfl⟩, fun l hl => by cases hl⟩
  · simp [Value.cells] at hcs
    obtain ⟨rfl, rfl, rfl⟩ := hcs
    have hz' : ss.length = cap := by simpa using hz
    have hlen : ((ss.take len).map (fun s => s.data.toList)).length = len := by simp; omega
    refine ⟨(ss.take len).map (fun s => s.data.toList), ⟨by simp [svals], some x, cap, by rw [hlen], by rw [hlen]; omega, hm, ?_⟩, fun l hl => ?_⟩
    · by_cases h0 : len = 0
      · subst h0; left; simp [svals]
      right
      obtain ⟨b, off, spot⟩ := x
      have hc0 := hcell 0 (by omega)
      have hspot : spot = none := by simpa [Addr.add] using World.cell?_spot hc0
      subst hspot
      refine ⟨b, off, rfl, fun i hi => ?_⟩
      have hi' : i < len := by simp [svals] at hi; omega
      have hci := hcell i (by omega)
      rw [Addr.add_lit] at hci
      rw [hci]
      simp only [svals, List.getElem_map, List.getElem_take]
      congr 2
      rw [List.getD_eq_getElem?_getD, List.getElem?_eq_getElem (by omega), Option.getD_some]
    · obtain ⟨s, hs, rfl⟩ := List.mem_map.1 hl
      exact hsz s (List.mem_of_mem_take hs)

/-- Within the bound. -/
def FewOk (L : List (List UInt8)) (n : Nat) : Prop := L.length < 16777216 ∧ n < 16777216 ∧ (L.length + 1) * (n + 1) ≤ 16777216 ∧ Lib.lens L ≤ 16777216

/-- The answer of few. -/
def RetFew (w : World) (L : List (List UInt8)) (n : Nat) (e : Ending) (w' : World) : Prop := ∃ b, e = .returned (.bool b) ∧ w' = w ∧ (b = true → FewOk L n)

set_option maxRecDepth 100000 in
set_option maxHeartbeats 4000000 in
theorem laws_few (v : Value) (L : List (List UInt8)) (ss : ByteArray) (w : World) (h : Ss w v L) (hss : ss.size ≤ maxLen) (hel : ∀ l ∈ L, l.length ≤ maxLen) :
    Calls Try.prog 22 #[v, .string ss] w (RetFew w L ss.size) := by
  obtain ⟨a, c, rfl, p1, q1, e1⟩ := h.raw
  have hc1 : c ≤ 9223372036854775807 := by unfold maxLen at q1; omega
  have hss' : ss.size ≤ 9223372036854775807 := by unfold maxLen at hss; omega
  clear hss
  have HC := Lib.hid e1
  have HEL := Lib.hid hel
  obtain ⟨N, hN⟩ : ∃ N, L.length = N := ⟨_, rfl⟩
  have HN := Lib.hid hN
  rw [hN] at p1 ⊢
  clear e1 h q1 hel hN
  by_cases h0 : N < 16777216
  case neg =>
    have h0' : (16777216 : Int) ≤ (N : Int) := by omega
    clear h0
    go_enter Try.func22, Try.ntmps22
    go_wp2_with fail
    go_ret
    exact ⟨_, rfl, rfl, fun h => by cases h⟩
  by_cases h1 : ss.size < 16777216
  case neg =>
    have h0' : ¬ (16777216 : Int) ≤ (N : Int) := by omega
    have h1' : (16777216 : Int) ≤ (ss.size : Int) := by omega
    clear h0 h1
    go_enter Try.func22, Try.ntmps22
    go_wp2_with fail
    go_ret
    exact ⟨_, rfl, rfl, fun h => by cases h⟩
  have hb1 : (N + 1) * (ss.size + 1) ≤ 16777217 * 16777217 := Nat.mul_le_mul (by omega) (by omega)
  obtain ⟨P, hP⟩ : ∃ P, (N + 1) * (ss.size + 1) = P := ⟨_, rfl⟩
  have hPI : ((N : Int) + 1) * ((ss.size : Int) + 1) = (P : Int) := by rw [← hP]; simp
  rw [hP] at hb1
  by_cases h2 : P ≤ 16777216
  case neg =>
    have h0' : ¬ (16777216 : Int) ≤ (N : Int) := by omega
    have h1' : ¬ (16777216 : Int) ≤ (ss.size : Int) := by omega
    have h2'' : (16777216 : Int) < (P : Int) := by omega
    have hNb : N ≤ 16777216 := by omega
    have hsb : ss.size ≤ 16777216 := by omega
    clear h0 h1 h2
    clear hP
    go_enter Try.func22, Try.ntmps22
    go_wp2_with fail
    go_ret
    exact ⟨_, rfl, rfl, fun h => by cases h⟩
  have HP := Lib.hid hP
  have h0' : ¬ (16777216 : Int) ≤ (N : Int) := by omega
  have h1' : ¬ (16777216 : Int) ≤ (ss.size : Int) := by omega
  have h2' : ¬ (16777216 : Int) < (P : Int) := by omega
  have hNb : N ≤ 16777216 := by omega
  have hsb : ss.size ≤ 16777216 := by omega
  have H0 := Lib.hid h0
  have H1 := Lib.hid h1
  have H2 := Lib.hid h2
  clear h0 h1 h2
  clear hP
  go_enter Try.func22, Try.ntmps22
  go_wp2_with fail
  go_loopg [5, 28] N (fun k n i wr => ∃ j : Nat, j + k = N ∧ i = .int .i64 j ∧ n = .int .i64 (Lib.lens (L.take j) : Int) ∧ Lib.lens (L.take j) ≤ 16777216 ∧ wr = w)
  case atStart => exact ⟨0, by omega, rfl, rfl, by simp [Lib.lens], rfl⟩
  case round =>
    obtain ⟨j, hj, rfl, rfl, hn, rfl⟩ := hrel
    have HJ := Lib.hid hj
    by_cases hlt : j < N
    · have hg : 0 < gk := by omega
      obtain ⟨b, o, rfl, c0⟩ := HC.out j (by rw [HN.out]; exact hlt)
      have hlj := HEL.out _ (List.getElem_mem (show j < L.length by rw [HN.out]; exact hlt))
      have hstep := Lib.lens_take_succ L j (L[j]'(by rw [HN.out]; exact hlt)) (List.getElem?_eq_getElem (by rw [HN.out]; exact hlt))
      obtain ⟨t, ht⟩ : ∃ t, L[j]'(by rw [HN.out]; exact hlt) = t := ⟨_, rfl⟩
      rw [ht] at c0 hlj hstep
      replace hlj : t.length ≤ 9223372036854775807 := by unfold maxLen at hlj; omega
      have hsz : (⟨t.toArray⟩ : ByteArray).size = t.length := rfl
      obtain ⟨s, hs⟩ : ∃ s, (⟨t.toArray⟩ : ByteArray) = s := ⟨_, rfl⟩
      rw [hs] at c0 hsz
      rw [← hsz] at hlj hstep
      obtain ⟨m, hm⟩ : ∃ m, Lib.lens (L.take j) = m := ⟨_, rfl⟩
      rw [hm] at hn hstep ⊢
      have HS := Lib.hid hstep
      clear hj ht hs hsz hm hstep
      by_cases hgt : 16777216 - m < s.size
      · have hgI : (16777216 : Int) - (m : Int) < (s.size : Int) := by omega
        go_wp2_with fail
        go_ret
        exact ⟨_, rfl, rfl, fun h => by cases h⟩
      · have hgI : ¬ (16777216 : Int) - (m : Int) < (s.size : Int) := by omega
        go_wp2_with fail
        go_roundg (gk - 1)
        case measure => omega
        case rel => exact ⟨j + 1, by have := HJ.out; omega, by go_num, by rw [HS.out]; go_num, by rw [HS.out]; omega, rfl⟩
    · have HNL := Lib.hid (show Lib.lens L ≤ 16777216 by have := hn; rwa [List.take_of_length_le (by rw [HN.out]; omega)] at this)
      clear hj
      go_wp2_with fail
      go_ret
      exact ⟨_, rfl, rfl, fun _ => ⟨by rw [HN.out]; exact H0.out, H1.out, by rw [HN.out, HP.out]; exact H2.out, HNL.out⟩⟩
end Go.Proofs.Ytlgoeiofachohaa
