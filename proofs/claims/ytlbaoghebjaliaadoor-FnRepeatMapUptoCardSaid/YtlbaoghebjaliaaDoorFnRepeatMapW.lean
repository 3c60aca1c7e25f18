/- The walk of the law FnRepeatMap: it returns true where the text and the lists have at most 2^20 elements. -/
import Derived.Test.YtlbaoghebjaliaaDoorFnMapCountW
import Derived.Test.YtlbaoghebjaliaaDoorRepeatW
import Derived.Deep.DeepCutAuto
namespace Go.Proofs.YtlbaoghebjaliaaDoor
open Go.RowKit

theorem mapB_rep (f : Int → Int) {l : List UInt8} (h : wholeB l = true) : ∀ c, mapB f (repL l c) = repL (mapB f l) c
  | 0 => rfl
  | c + 1 => by
    rw [Nat.add_comm c 1, repL_add, repL_add, repL_one, repL_one, mapB_append h, mapB_rep f h c]

set_option maxRecDepth 100000 in
set_option maxHeartbeats 8000000 in
theorem FnRepeatMap_walk (w : World) (hT : Tabs w) (a0 : ByteArray) (z0 : a0.size ≤ 1048576) (v1 : Value) (fs : List Int) (b1 : Is w v1 fs) (z1 : fs.length ≤ 1048576) (_g1 : In32 fs) (v2 : Value) (ts : List Int) (b2 : Is w v2 ts) (_z2 : ts.length ≤ 1048576) (g2 : In32 ts) (n3 : UInt8) :
    Calls Tryd.prog 14 #[.string a0, v1, v2, .int .u8 (n3.toNat : Int)] w fun e w' => e = .returned (.bool true) ∧ Below w.heap.size w w' := by
  have hmax : a0.size ≤ maxLen := by unfold maxLen; omega
  have es : a0.data.toList.length = a0.size := rfl
  have hcb := n3.toNat_lt
  obtain ⟨c, hc⟩ : ∃ c, n3.toNat = c := ⟨_, rfl⟩
  rw [hc] at hcb ⊢
  clear hc
  have cW := spec_Whole a0 w (by omega)
  cases hwa : wholeB a0.data.toList with
  | false =>
    rw [hwa] at cW
    clear hwa
    go_enter Tryd.func14, Tryd.ntmps14
    go_wp2_with (go_at_call 30; refine cW.mono ?_; rintro _ w1 ⟨rfl, x1⟩)
    go_ret
    exact ⟨rfl, x1.below⟩
  | true =>
    rw [hwa] at cW
    by_cases h8 : 8192 < a0.size
    case pos =>
      clear hwa
      go_enter Tryd.func14, Tryd.ntmps14
      go_wp2_with (go_at_call 30; refine cW.mono ?_; rintro _ w1 ⟨rfl, x1⟩)
      go_ret
      exact ⟨rfl, x1.below⟩
    have HLE := Lib.hid (imageT_le (fs := fs) g2)
    obtain ⟨rows, hrows⟩ : ∃ rows, fs.zip ts = rows := ⟨_, rfl⟩
    rw [hrows] at HLE
    have HRW := Lib.hid hrows
    obtain ⟨f, hf⟩ : ∃ f, imageT rows = f := ⟨_, rfl⟩
    have HF := Lib.hid hf
    have key := mapB_rep f hwa c
    have key5 := mapC_size f (chunks a0.data.toList)
    have key6 := chunks_length a0.data.toList
    have key7 : (mapB f a0.data.toList).length ≤ 32768 := by show (mapC _ _).length ≤ _; omega
    obtain ⟨M, hM⟩ : ∃ M, mapB f a0.data.toList = M := ⟨_, rfl⟩
    obtain ⟨R, hR⟩ : ∃ R, repL a0.data.toList c = R := ⟨_, rfl⟩
    have hRl : R.length = c * a0.size := by rw [← hR, repL_length, es]
    have hRb : c * a0.size ≤ 255 * 8192 := Nat.mul_le_mul (by omega) (by omega)
    have hMl : (repL M c).length = c * M.length := repL_length _ _
    rw [hM] at key key7
    rw [hR] at key
    have hMb : c * M.length ≤ 255 * 32768 := Nat.mul_le_mul (by omega) key7
    obtain ⟨K, hK⟩ : ∃ K, repL M c = K := ⟨_, rfl⟩
    rw [hK] at key hMl
    obtain ⟨sM, hsM⟩ : ∃ st, (⟨M.toArray⟩ : ByteArray) = st := ⟨_, rfl⟩
    obtain ⟨sK, hsK⟩ : ∃ st, (⟨K.toArray⟩ : ByteArray) = st := ⟨_, rfl⟩
    obtain ⟨sR, hsR⟩ : ∃ st, (⟨R.toArray⟩ : ByteArray) = st := ⟨_, rfl⟩
    have HSDM := Lib.hid (show sM.data.toList = M by rw [← hsM])
    have HSDR := Lib.hid (show sR.data.toList = R by rw [← hsR])
    have hmM : sM.size ≤ maxLen := by rw [← hsM]; show M.length ≤ _; unfold maxLen; omega
    have hzR : sR.size = c * a0.size := by rw [← hsR]; exact hRl
    have hmR : sR.size ≤ maxLen := by rw [hzR]; unfold maxLen; omega
    obtain ⟨P, hP⟩ : ∃ P, c * a0.size = P := ⟨_, rfl⟩
    have hPI : (a0.size : Int) * (c : Int) = (P : Int) := by rw [← hP, Nat.mul_comm]; simp
    rw [hP] at hzR hRb hRl
    have HM := Lib.hid hM
    have HR := Lib.hid hR
    have HK := Lib.hid hK
    have HKEY := Lib.hid key
    have HSM := Lib.hid hsM
    have HSK := Lib.hid hsK
    have HSR := Lib.hid hsR
    have HT := Lib.hid hT
    have HZR := Lib.hid hzR
    have HRL := Lib.hid hRl
    have HML := Lib.hid hMl
    have hca : c * a0.size ≤ 1099511627776 := by omega
    have hcm : c * M.length ≤ 1099511627776 := by omega
    clear hM hR hK key hsM hsK hsR hT hwa key5 key6 hf hrows hzR hP hRl hMl
    go_enter Tryd.func14, Tryd.ntmps14
    go_wp2_with (go_at_call 30; refine cW.mono ?_)
    rintro _ w1 ⟨rfl, x1⟩
    go_wp2_with (go_at_call 42; refine (laws_table _ _ fs ts _ (b1.ext x1) (b2.ext x1) (by omega)).mono ?_)
    rintro _ w2 ⟨v3, rfl, t2, x2⟩
    rw [HRW.out] at t2
    obtain ⟨ta, tc, te, _⟩ := t2.raw
    subst te
    have x3 : Ext w2 (w2.alloc (.cells #[.slice ta rows.length tc] 49)) := Ext.alloc _ _
    have f0 : (w2.alloc (.cells #[.slice ta rows.length tc] 49)).cell? ⟨w2.heap.size, 0, none⟩ = some (.slice ta rows.length tc) := by rw [World.cell?_alloc_mark]; rfl
    replace t2 := t2.ext x3
    have X := (x1.trans x2).trans x3
    obtain ⟨w3, hw3⟩ : ∃ w3, w2.alloc (.cells #[.slice ta rows.length tc] 49) = w3 := ⟨_, rfl⟩
    obtain ⟨n, hn⟩ : ∃ n, w2.heap.size = n := ⟨_, rfl⟩
    rw [hw3] at t2 f0 X
    rw [hn] at f0
    clear x1 x2 x3 b1 b2 cW
    go_upto_region 4 with fail
    clear hw3 hn
    go_wp2_with (refine wpList_toBytes rfl 9 30 _ rfl 5 Tryd.underlying9 Tryd.underlying30 Tryd.underlying5 _ rfl hmax ?_)
    intro v4 w4 o4 x4
    replace f0 := x4.cell f0
    replace t2 := t2.ext x4
    replace X := X.trans x4
    have c5 := impl_Map _ _ rows _ _ t2 o4.bs (HT.out.ext X) (by show a0.size ≤ _; omega) HLE.out
    rw [HF.out, HM.out] at c5
    clear x4 o4
    go_wp2_with (go_at_call 36; refine c5.mono ?_)
    rintro _ w5 ⟨v5, rfl, o5, x5⟩
    replace f0 := x5.cell f0
    replace t2 := t2.ext x5
    replace X := X.trans x5
    have q5 := o5.bs
    clear x5 o5 c5
    go_wp2_with (first | (refine wpList_toString rfl 30 9 _ rfl 5 Tryd.underlying30 Tryd.underlying5 Tryd.underlying9 _ _ rfl q5 ?_; rw [HSM.out]) | refine wpList_toBytes rfl 9 30 _ rfl 5 Tryd.underlying9 Tryd.underlying30 Tryd.underlying5 _ rfl hmM ?_)
    intro v6 w6 o6 x6
    have o6 : Bs w6 v6 M := HSDM.out ▸ o6.bs
    replace f0 := x6.cell f0
    replace t2 := t2.ext x6
    replace X := X.trans x6
    have c7 := impl_Repeat _ M c _ o6 (by omega) (by omega) hcm
    rw [HK.out] at c7
    clear x6 q5
    go_wp2_with (go_at_call 48; refine c7.mono ?_)
    rintro _ w7 ⟨v7, rfl, q7, x7⟩
    replace f0 := x7.cell f0
    replace t2 := t2.ext x7
    replace X := X.trans x7
    have c8 := laws_text1 _ _ true _ q7
    rw [HSK.out] at c8
    clear x7 c7 o6
    go_wp2_with (go_at_call 47; refine c8.mono ?_)
    rintro _ w8 ⟨rfl, e8⟩
    subst w8
    clear c8 q7
    go_wp2_with (refine wpList_toBytes rfl 9 30 _ rfl 5 Tryd.underlying9 Tryd.underlying30 Tryd.underlying5 _ rfl hmax ?_)
    intro v9 w9 o9 x9
    replace f0 := x9.cell f0
    replace t2 := t2.ext x9
    replace X := X.trans x9
    have c10 := impl_Repeat _ _ c _ o9.bs (by omega) (by show a0.size ≤ _; omega) hca
    rw [HR.out] at c10
    clear x9 o9
    go_wp2_with (go_at_call 48; refine c10.mono ?_)
    rintro _ w10 ⟨v10, rfl, q10, x10⟩
    replace f0 := x10.cell f0
    replace t2 := t2.ext x10
    replace X := X.trans x10
    have c11 := laws_text1 _ _ true _ q10
    rw [HSR.out] at c11
    clear x10 c10
    go_wp2_with (go_at_call 47; refine c11.mono ?_)
    rintro _ w11 ⟨rfl, e11⟩
    subst w11
    clear c11 q10
    go_wp2_with (refine wpList_toBytes rfl 9 30 _ rfl 5 Tryd.underlying9 Tryd.underlying30 Tryd.underlying5 _ rfl hmR ?_)
    intro v12 w12 o12 x12
    have o12 : Bs w12 v12 R := HSDR.out ▸ o12.bs
    replace f0 := x12.cell f0
    replace t2 := t2.ext x12
    replace X := X.trans x12
    have c13 := impl_Map _ _ rows _ _ t2 o12 (HT.out.ext X) (by rw [HRL.out]; omega) HLE.out
    rw [HF.out, HKEY.out] at c13
    clear x12 o12
    go_wp2_with (go_at_call 36; refine c13.mono ?_)
    rintro _ w13 ⟨v13, rfl, o13, x13⟩
    replace X := X.trans x13
    have q13 := o13.bs
    have hzR := HZR.out
    clear x13 o13 c13
    go_wp2_with (refine wpList_toString rfl 30 9 _ rfl 5 Tryd.underlying30 Tryd.underlying5 Tryd.underlying9 _ _ rfl q13 ?_; rw [HSK.out])
    go_ret
    exact ⟨by simp, X.below⟩
end Go.Proofs.YtlbaoghebjaliaaDoor
