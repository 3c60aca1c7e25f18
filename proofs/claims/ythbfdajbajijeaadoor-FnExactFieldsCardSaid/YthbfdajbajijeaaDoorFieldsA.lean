/- The walk of bytes.Fields. -/
import Derived.Test.YthbfdajbajijeaaDoorFieldsBS
import Derived.Test.YthbfdajbajijeaaDoorBlankP
import Derived.Lib.FieldsLaws
import Derived.Laws.BitsAllLaws
import Derived.Deep.DeepCutAuto
import Derived.Deep.CutBlock
namespace Go.Proofs.YthbfdajbajijeaaDoor
open Go.RowKit

theorem part_piece (l : List UInt8) (a b : Nat) : part l a b = (l.drop a).take (b - a) := by
  unfold part
  rw [List.drop_take]

theorem runs_ascii : ∀ (l : List UInt8), (∀ b ∈ l, b.toNat < 128) → ((runsA wsP none (l.map ach)).map glue = Lib.fieldsGo [] l) ∧
    ∀ r : List Ch, glue r ≠ [] → (runsA wsP (some r) (l.map ach)).map glue = Lib.fieldsGo (glue r) l
  | [], _ => ⟨rfl, fun r hr => by
      have : (glue r).isEmpty = false := by simpa using hr
      simp [runsA, Lib.fieldsGo, this]⟩
  | b :: l, h => by
    have hb := h b (List.mem_cons_self ..)
    have ih := runs_ascii l (fun x hx => h x (List.mem_cons_of_mem _ hx))
    have hw := isSp_ws b hb
    have hr' : (ach b).r = b.toNat := rfl
    refine ⟨?_, fun r hr => ?_⟩
    · rw [List.map_cons, runsA, Lib.fieldsGo, hr']
      cases hs : wsP (b.toNat : Int)
      · rw [hs] at hw
        rw [hw]
        simp only [Bool.false_eq_true, if_false]
        have := ih.2 [ach b] (by simp [glue, ach])
        simpa [glue, ach] using this
      · rw [hs] at hw
        rw [hw]
        simp only [if_true]
        simpa using ih.1
    · have he : (glue r).isEmpty = false := by simpa using hr
      rw [List.map_cons, runsA, Lib.fieldsGo, hr']
      cases hs : wsP (b.toNat : Int)
      · rw [hs] at hw
        rw [hw]
        simp only [Bool.false_eq_true, if_false]
        have := ih.2 (r ++ [ach b]) (by simp [glue_append, glue, ach])
        simpa [glue_append, glue, ach] using this
      · rw [hs] at hw
        rw [hw, he]
        simp only [if_true, Bool.false_eq_true, if_false, List.map_cons]
        rw [ih.1]
theorem fields_ascii (l : List UInt8) (h : ∀ b ∈ l, b.toNat < 128) : fieldsB wsP l = Lib.fields l := by
  unfold fieldsB runsC Lib.fields
  rw [chunks_ascii l h]
  exact (runs_ascii l h).1

theorem andNot00 : bits .and .i64 0 (bits .xor .i64 (-1) 0) = 0 := by decide
theorem andNot01 : bits .and .i64 0 (bits .xor .i64 (-1) 1) = 0 := by decide
theorem andNot10 : bits .and .i64 1 (bits .xor .i64 (-1) 0) = 1 := by decide
theorem andNot11 : bits .and .i64 1 (bits .xor .i64 (-1) 1) = 0 := by decide
theorem or_high (a b : Nat) (ha : a < 256) (hb : b < 256) (h : 128 ≤ a ∨ 128 ≤ b) : 128 ≤ a ||| b := by
  rcases h with h | h
  · exact Nat.le_trans h Nat.left_le_or
  · exact Nat.le_trans h Nat.right_le_or
theorem or_small (a b : Nat) (ha : a < 256) (hb : b < 256) : a ||| b < 256 := Nat.or_lt_two_pow (n := 8) ha hb

set_option maxRecDepth 100000 in
set_option maxHeartbeats 4000000 in
theorem bytes_Fields (sv : Value) (l : List UInt8) (w : World) (hb : Bs w sv l) (h : White w) (hT : Tabs w) (hlim : l.length ≤ 1099511627776) :
    Calls Tryd.prog 43 #[sv] w (fun e w' => RetLs w (fieldsB wsP l) e w') := by
  obtain ⟨a, c, hsv, hcap, hcm, h3⟩ := id hb
  subst hsv
  have hc1 : c ≤ 9223372036854775807 := by unfold maxLen at hcm; omega
  have HB := Lib.hid hb
  have HW := Lib.hid h
  have HT := Lib.hid hT
  have HC := Lib.hid (show ∀ i (h : i < l.length), ∃ b o, a = some ⟨b, o, none⟩ ∧ w.cell? ⟨b, o + i, none⟩ = some (.int .u8 (l[i].toNat : Int)) by
    intro i hi
    rcases h3 with h0 | ⟨b, o, ha, hc⟩
    · rw [h0] at hi; simp at hi
    · exact ⟨b, o, ha, hc i hi⟩)
  clear hb h hT hcm h3
  have b00 := andNot00
  have b01 := andNot01
  have b10 := andNot10
  have b11 := andNot11
  by_cases hasc : ∀ b ∈ l, b.toNat < 128
  case neg =>
    obtain ⟨K, hK, hK128⟩ : ∃ K, ∃ h : K < l.length, 128 ≤ l[K].toNat := by
      simp only [Classical.not_forall] at hasc
      obtain ⟨b, hb, hx⟩ := hasc
      obtain ⟨K, hK, rfl⟩ := List.getElem_of_mem hb
      exact ⟨K, hK, by omega⟩
    have HK128 := Lib.hid hK128
    clear hasc hK128
    go_enter Tryd.func43, Tryd.ntmps43
    go_wp2_with fail
    go_loopg [3, 4, 5, 6] l.length (fun g s3 s4 s5 s6 wr => w = wr ∧ ∃ (k nn sb : Nat) (ws : Bool), k + g = l.length ∧ s6 = .int .i64 (k : Int) ∧ s3 = .int .i64 (nn : Int) ∧ s4 = .int .i64 (if ws then 1 else 0) ∧ s5 = .int .u8 (sb : Int) ∧ sb < 256 ∧ nn ≤ k ∧ (K < k → 128 ≤ sb))
    case atStart => exact ⟨rfl, 0, 0, 0, true, by omega, rfl, rfl, rfl, rfl, by omega, Nat.le_refl _, by omega⟩
    case round =>
      obtain ⟨rfl, k, nn, sb, ws, hk, rfl, rfl, rfl, rfl, hsb, hnk, hKk⟩ := hrel
      have HKK := Lib.hid hk
      have HKs := Lib.hid hKk
      by_cases hlt : k < l.length
      · have hg : 0 < gk := by omega
        have i1 : (k : Int) < (l.length : Int) := by omega
        obtain ⟨b, o, ha, c0⟩ := HC.out k hlt
        subst ha
        obtain ⟨x, hx⟩ : ∃ x, l[k] = x := ⟨_, rfl⟩
        rw [hx] at c0
        have HX := Lib.hid hx
        have hxl : x.toNat < 256 := x.toNat_lt
        have hxz : (x.toNat : Int) < 256 := by omega
        have hTx := HW.out.at x
        have hor : bits .or .u8 (sb : Int) (x.toNat : Int) = ((sb ||| x.toNat : Nat) : Int) := u8_or_nat _ _ (by omega) (by omega)
        have hor2 : sb ||| x.toNat < 256 := or_small _ _ hsb hxl
        have HOR := Lib.hid (show K < k + 1 → 128 ≤ sb ||| x.toNat by
          intro hq
          refine or_high _ _ hsb hxl ?_
          by_cases he : K = k
          · subst he
            right
            rw [← HX.out]
            exact HK128.out
          · exact .inl (HKs.out (by omega)))
        obtain ⟨z, hz⟩ : ∃ z, sb ||| x.toNat = z := ⟨_, rfl⟩
        rw [hz] at hor hor2 HOR
        clear hx hk hKk hz
        cases hsx : Lib.isSp x <;> cases ws <;> rw [hsx] at hTx <;> simp only [if_true, Bool.false_eq_true, if_false] at hTx ⊢ <;>
          (go_wp2_with fail
           go_roundg (gk - 1)
           case measure => omega
           case rel =>
             first
               | exact ⟨rfl, k + 1, nn, z, false, by have := HKK.out; omega, by go_num, by first | rfl | go_num | (simp; unfold RowKit.wrap64; omega), rfl, by first | rfl | simp, hor2, by omega, HOR.out⟩
               | exact ⟨rfl, k + 1, nn + 1, z, false, by have := HKK.out; omega, by go_num, by first | rfl | go_num | (simp; unfold RowKit.wrap64; omega), rfl, by first | rfl | simp, hor2, by omega, HOR.out⟩
               | exact ⟨rfl, k + 1, nn, z, true, by have := HKK.out; omega, by go_num, by first | rfl | go_num | (simp; unfold RowKit.wrap64; omega), rfl, by first | rfl | simp, hor2, by omega, HOR.out⟩)
      · have hke : k = l.length := by omega
        subst hke
        generalize (if ws = true then (1 : Int) else 0) = v4
        have hsbz : (128 : Int) ≤ (sb : Int) := by have := HKs.out hK; omega
        clear hk hKk
        go_wp2_with (go_at_call 44; refine (bytes_FieldsFuncS _ l _ HB.out HW.out HT.out hlim).mono ?_)
        rintro _ w3 ⟨v3, rfl, b3, x3⟩
        go_wp2_with fail
        go_ret
        exact ⟨_, rfl, b3, x3⟩
  have HA := Lib.hid hasc
  have HF := Lib.hid (fields_ascii l hasc)
  obtain ⟨N, hN⟩ : ∃ N : Nat, (Lib.fields l).length = N := ⟨_, rfl⟩
  have hNc : Lib.cntF true l = N := by rw [← Lib.fields_length]; exact hN
  have hNl : N ≤ l.length := by
    have := fieldsB_len wsP l
    rw [fields_ascii l hasc, hN] at this
    exact this
  have HN := Lib.hid hN
  clear hasc hN
  go_enter Tryd.func43, Tryd.ntmps43
  go_wp2_with fail
  go_loopg [3, 4, 5, 6] l.length (fun g s3 s4 s5 s6 wr => w = wr ∧ ∃ (k nn sb : Nat) (ws : Bool), k + g = l.length ∧ s6 = .int .i64 (k : Int) ∧ s3 = .int .i64 (nn : Int) ∧ s4 = .int .i64 (if ws then 1 else 0) ∧ s5 = .int .u8 (sb : Int) ∧ sb < 128 ∧ nn ≤ k ∧ nn + Lib.cntF ws (l.drop k) = N)
  case atStart => exact ⟨rfl, 0, 0, 0, true, by omega, rfl, rfl, rfl, rfl, by omega, Nat.le_refl _, by simpa using hNc⟩
  case round =>
    obtain ⟨rfl, k, nn, sb, ws, hk, rfl, rfl, rfl, rfl, hsb, hnk, hc⟩ := hrel
    have HKK := Lib.hid hk
    by_cases hlt : k < l.length
    · have hg : 0 < gk := by omega
      have i1 : (k : Int) < (l.length : Int) := by omega
      obtain ⟨b, o, ha, c0⟩ := HC.out k hlt
      subst ha
      obtain ⟨x, hx⟩ : ∃ x, l[k] = x := ⟨_, rfl⟩
      rw [hx] at c0
      have hx128 : x.toNat < 128 := by rw [← hx]; exact HA.out _ (List.getElem_mem hlt)
      have hxz : (x.toNat : Int) < 256 := by omega
      have hTx := HW.out.at x
      have hor : bits .or .u8 (sb : Int) (x.toNat : Int) = ((sb ||| x.toNat : Nat) : Int) := u8_or_nat _ _ (by omega) (by omega)
      have hor2 : sb ||| x.toNat < 128 := Nat.or_lt_two_pow (n := 7) hsb hx128
      rw [List.drop_eq_getElem_cons hlt, hx, Lib.cntF_step] at hc
      have HCN := Lib.hid hc
      obtain ⟨z, hz⟩ : ∃ z, sb ||| x.toNat = z := ⟨_, rfl⟩
      rw [hz] at hor hor2
      clear hx hk hc hz hNc
      cases hsx : Lib.isSp x <;> cases ws <;> rw [hsx] at hTx <;> simp only [if_true, Bool.false_eq_true, if_false] at hTx ⊢ <;>
        (go_wp2_with fail
         go_roundg (gk - 1)
         case measure => omega
         case rel =>
           have hc := HCN.out
           rw [hsx] at hc
           simp at hc
           first
             | exact ⟨rfl, k + 1, nn, z, false, by have := HKK.out; omega, by go_num, by first | rfl | go_num | (simp; unfold RowKit.wrap64; omega), rfl, by first | rfl | simp, hor2, by omega, by omega⟩
             | exact ⟨rfl, k + 1, nn + 1, z, false, by have := HKK.out; omega, by go_num, by first | rfl | go_num | (simp; unfold RowKit.wrap64; omega), rfl, by first | rfl | simp, hor2, by omega, by omega⟩
             | exact ⟨rfl, k + 1, nn, z, true, by have := HKK.out; omega, by go_num, by first | rfl | go_num | (simp; unfold RowKit.wrap64; omega), rfl, by first | rfl | simp, hor2, by omega, by omega⟩)
    · have hke : k = l.length := by omega
      subst hke
      generalize (if ws = true then (1 : Int) else 0) = v4
      have hsbz : ¬ ((128 : Int) ≤ (sb : Int)) := by omega
      have hnn : nn = N := by
        rw [List.drop_length] at hc
        simpa [Lib.cntF] using hc
      subst hnn
      clear hc hk hNc b00 b01 b10 b11
      go_wp2_with (refine wpList_mkVals rfl 33 _ _ rfl 27 _ 24 Tryd.underlying33 info_bytes rfl nn _ _ rfl rfl (by omega) (by omega) ?_)
      intro w5 r5 x5
      obtain ⟨g, hg⟩ : ∃ g, w.heap.size = g := ⟨_, rfl⟩
      rw [hg] at r5 ⊢
      have HG := Lib.hid hg
      clear hg
      go_upto_block 2 with fail
      go_cut [12] from 43 to 57 (fun s12 wx => w5 = wx ∧ ∃ i : Nat, i ≤ l.length ∧ s12 = .int .i64 (i : Int) ∧ Lib.fieldsGo [] (l.drop i) = Lib.fields l ∧ ∀ y, l[i]? = some y → Lib.isSp y = false)
      case first =>
        go_wp2_with fail
        go_loopg [12] l.length (fun g s12 wx => w5 = wx ∧ ∃ i : Nat, i + g = l.length ∧ s12 = .int .i64 (i : Int) ∧ Lib.fieldsGo [] (l.drop i) = Lib.fields l)
        case atStart => exact ⟨rfl, 0, by omega, rfl, rfl⟩
        case round =>
          obtain ⟨rfl, i, hi, rfl, hf⟩ := hrel
          have HFF := Lib.hid hf
          have HI := Lib.hid hi
          clear hf
          by_cases hin : i < l.length
          · have hg : 0 < gk := by omega
            have i1 : (i : Int) < (l.length : Int) := by omega
            obtain ⟨b, o, ha, c0⟩ := HC.out i hin
            subst ha
            replace c0 := x5.cell c0
            obtain ⟨x, hx⟩ : ∃ x, l[i] = x := ⟨_, rfl⟩
            rw [hx] at c0
            have hx128 : x.toNat < 128 := by rw [← hx]; exact HA.out _ (List.getElem_mem hin)
            have hxz : (x.toNat : Int) < 256 := by omega
            have hTx := (HW.out.ext x5).at x
            have HX := Lib.hid (show l[i]? = some x by rw [List.getElem?_eq_getElem hin, hx])
            clear hx hi
            cases hsx : Lib.isSp x <;> rw [hsx] at hTx <;> simp only [if_true, Bool.false_eq_true, if_false] at hTx
            · go_wp2_with fail
              go_meet
              exact ⟨rfl, i, by omega, rfl, HFF.out, fun y hy => by rw [HX.out] at hy; cases hy; exact hsx⟩
            · go_wp2_with fail
              go_roundg (gk - 1)
              case measure => omega
              case rel => exact ⟨rfl, i + 1, by have := HI.out; omega, by go_num, by rw [← HFF.out, Lib.drop_at HX.out, Lib.fieldsGo_sp _ _ hsx]⟩
          · have hie : i = l.length := by omega
            subst hie
            clear hi
            go_wp2_with fail
            go_meet
            exact ⟨rfl, l.length, Nat.le_refl _, rfl, HFF.out, fun y hy => by rw [List.getElem?_eq_none (by omega)] at hy; cases hy⟩
      case rest =>
        obtain ⟨hwc, i0, hi0, rfl, hf0, hns0⟩ := hcut
        subst hwc
        have H0 := Lib.hid (And.intro hf0 hns0)
        clear hf0 hns0
        go_wp2_with fail
        go_loopg [10, 11, 12] (l.length - i0) (fun gg s10 s11 s12 wr => ∃ (vs : List Value) (D : List (List UInt8)) (fs i : Nat), s10 = .int .i64 (vs.length : Int) ∧ s11 = .int .i64 (fs : Int) ∧ s12 = .int .i64 (i : Int) ∧ fs ≤ i ∧ i + gg = l.length ∧ Hid (vs.length = D.length) ∧
          Hid (∀ i (h : i < vs.length) (h' : i < D.length), Bs w vs[i] D[i]) ∧ Hid (RowV wr g 27 (vs ++ List.replicate (nn - vs.length) (.slice none 0 0))) ∧ Ext w wr ∧
          D ++ Lib.fieldsGo ((l.drop fs).take (i - fs)) (l.drop i) = Lib.fields l ∧ (fs = i → ∀ y, l[i]? = some y → Lib.isSp y = false))
        case atStart => exact ⟨[], [], i0, i0, rfl, rfl, rfl, Nat.le_refl _, by omega, Lib.hid rfl, Lib.hid (by intro i h; simp at h), Lib.hid (by simpa using r5), x5, by rw [Lib.piece_nil]; exact H0.out.1, fun _ => H0.out.2⟩
        case round =>
          obtain ⟨vs, D, fs, i, rfl, rfl, rfl, hfi, hi, hvl, hvb, hrow, hx5, hinv, hside⟩ := hrel
          have HI := Lib.hid hi
          have HX5 := Lib.hid hx5
          clear H0 x5 r5 hx5
          by_cases hin : i < l.length
          · have hgg : 0 < gk := by omega
            have i1 : (i : Int) < (l.length : Int) := by omega
            obtain ⟨b, o, ha, c0⟩ := HC.out i hin
            subst ha
            replace c0 := HX5.out.cell c0
            obtain ⟨x, hx⟩ : ∃ x, l[i] = x := ⟨_, rfl⟩
            rw [hx] at c0
            have hx128 : x.toNat < 128 := by rw [← hx]; exact HA.out _ (List.getElem_mem hin)
            have hxz : (x.toNat : Int) < 256 := by omega
            have hTx := (HW.out.ext HX5.out).at x
            have HX := Lib.hid (show l[i]? = some x by rw [List.getElem?_eq_getElem hin, hx])
            clear hx hi
            cases hsx : Lib.isSp x <;> rw [hsx] at hTx <;> simp only [if_true, Bool.false_eq_true, if_false] at hTx
            · have HIV := Lib.hid hinv
              clear hinv hside
              go_wp2_with fail
              go_roundg (gk - 1)
              case measure => omega
              case rel => exact ⟨vs, D, fs, i + 1, rfl, rfl, by go_num, by omega, by have := HI.out; omega, hvl, hvb, hrow, HX5.out, by rw [Lib.piece_more hfi HX.out, ← Lib.fieldsGo_more _ _ _ hsx, ← Lib.drop_at HX.out]; exact HIV.out, fun h => by omega⟩
            · have hlt : fs < i := by
                refine Nat.lt_of_le_of_ne hfi fun h => ?_
                have := hside h x HX.out
                rw [hsx] at this
                cases this
              rw [Lib.drop_at HX.out, Lib.fieldsGo_end _ _ _ hsx (Lib.piece_ne hlt (by omega))] at hinv
              have hdN : vs.length < nn := by
                have := congrArg List.length hinv
                rw [HN.out] at this
                simp at this
                have := hvl.out
                omega
              have hdz : ((vs.length : Nat) : Int) < (nn : Int) := by omega
              have HIV := Lib.hid (show (D ++ [part l fs i]) ++ Lib.fieldsGo [] (l.drop (i + 1)) = Lib.fields l by rw [← hinv, part_piece]; simp)
              have g2 : wr.cell? ⟨g, vs.length, none⟩ = some (.slice none 0 0) := by
                have := hrow.out.cell vs.length (by simp; omega)
                rw [this]
                simp [List.getElem_append_right]
              have g3 := hrow.out.frozen vs.length
              clear hinv hside
              go_wp2_with (refine wpList_subLHMW rfl 27 _ _ _ _ rfl 5 Tryd.underlying27 info_u8' _ _ w rfl HB.out _ _ _ _ _ rfl rfl rfl fs i rfl rfl (by omega) (by omega) ?_)
              intro v6 b6
              obtain ⟨a6, c6, e6, _, _⟩ := b6.shape
              obtain ⟨m6, hm6⟩ : ∃ m6, (part l fs i).length = m6 := ⟨_, rfl⟩
              rw [hm6] at e6
              subst e6
              have HB6 := Lib.hid b6
              have HRS := Lib.hid (show RowV (wr.setCell ⟨g, vs.length, none⟩ (.slice a6 m6 c6)) g 27 ((vs ++ [.slice a6 m6 c6]) ++ List.replicate (nn - (vs ++ [Value.slice a6 m6 c6]).length) (.slice none 0 0)) by
                have := hrow.out.set vs.length (.slice a6 m6 c6)
                rw [List.set_append_right _ _ (Nat.le_refl _), Nat.sub_self, show nn - vs.length = (nn - (vs.length + 1)) + 1 by omega, List.replicate_succ, List.set_cons_zero] at this
                rw [List.append_assoc, List.length_append]
                exact this)
              have HXS := Lib.hid (show Ext w (wr.setCell ⟨g, vs.length, none⟩ (.slice a6 m6 c6)) from ⟨HX5.out.below.setCell (by rw [HG.out]; exact Nat.le_refl _) _⟩)
              have HVN := Lib.hid (show ∀ i_1 (h : i_1 < (vs ++ [Value.slice a6 m6 c6]).length) (h' : i_1 < (D ++ [part l fs i]).length), Bs w (vs ++ [Value.slice a6 m6 c6])[i_1] (D ++ [part l fs i])[i_1] by
                intro q hq hq'
                by_cases hqv : q < vs.length
                · rw [List.getElem_append_left hqv, List.getElem_append_left (by rw [← hvl.out]; exact hqv)]
                  exact hvb.out q hqv _
                · have hqe : q = vs.length := by simp at hq; omega
                  subst hqe
                  have e1 : (vs ++ [Value.slice a6 m6 c6])[vs.length] = .slice a6 m6 c6 := by simp
                  have e2 : (D ++ [part l fs i])[vs.length] = part l fs i := by
                    have : (D ++ [part l fs i])[vs.length]? = some (part l fs i) := by rw [hvl.out]; simp
                    exact (List.getElem?_eq_some_iff.1 this).2
                  rw [e1, e2]
                  exact HB6.out)
              clear b6 hm6
              go_wp2_with fail
              clear g2 g3 c0 hTx
              obtain ⟨w7, hw7⟩ : ∃ w7, wr.setCell ⟨g, vs.length, none⟩ (.slice a6 m6 c6) = w7 := ⟨_, rfl⟩
              rw [hw7] at HRS HXS ⊢
              clear hw7
              go_loopg [12] (l.length - (i + 1)) (fun gg s12 wx => w7 = wx ∧ ∃ j : Nat, i + 1 ≤ j ∧ j + gg = l.length ∧ s12 = .int .i64 (j : Int) ∧ Lib.fieldsGo [] (l.drop j) = Lib.fieldsGo [] (l.drop (i + 1)))
              case atStart => exact ⟨rfl, i + 1, Nat.le_refl _, by omega, by go_num, rfl⟩
              case round =>
                obtain ⟨rfl, j, hij, hj, rfl, hfj⟩ := hrel
                have HJ := Lib.hid hfj
                have HJJ := Lib.hid hj
                clear hfj HX hx128 hxz hsx
                by_cases hjn : j < l.length
                · have hgj : 0 < gk := by omega
                  have i2 : (j : Int) < (l.length : Int) := by omega
                  obtain ⟨b', o', ha', c0⟩ := HC.out j hjn
                  injection ha' with ha'
                  injection ha' with hb1 ho1 _
                  subst hb1 ho1
                  replace c0 := HXS.out.cell c0
                  obtain ⟨x, hx⟩ : ∃ x, l[j] = x := ⟨_, rfl⟩
                  rw [hx] at c0
                  have hx128 : x.toNat < 128 := by rw [← hx]; exact HA.out _ (List.getElem_mem hjn)
                  have hxz : (x.toNat : Int) < 256 := by omega
                  have hTx := (HW.out.ext HXS.out).at x
                  have HX := Lib.hid (show l[j]? = some x by rw [List.getElem?_eq_getElem hjn, hx])
                  clear hx hj
                  cases hsx : Lib.isSp x <;> rw [hsx] at hTx <;> simp only [if_true, Bool.false_eq_true, if_false] at hTx
                  · go_wp2_with fail
                    go_roundg gk
                    case measure => have h1 := HI.out; have h2 := HJJ.out; omega
                    case rel => exact ⟨vs ++ [.slice a6 m6 c6], D ++ [part l fs i], j, j, by simp, rfl, rfl, Nat.le_refl _, HJJ.out, Lib.hid (by simp [hvl.out]), HVN, HRS, HXS.out, by rw [Lib.piece_nil, HJ.out]; exact HIV.out, fun _ y hy => by rw [HX.out] at hy; cases hy; exact hsx⟩
                  · go_wp2_with fail
                    go_roundg (gk - 1)
                    case measure => omega
                    case rel => exact ⟨rfl, j + 1, by omega, by have := HJJ.out; omega, by go_num, by rw [← HJ.out, Lib.drop_at HX.out, Lib.fieldsGo_sp _ _ hsx]⟩
                · have hje : j = l.length := by omega
                  subst hje
                  clear hj
                  go_wp2_with fail
                  go_roundg 0
                  case measure => omega
                  case rel => exact ⟨vs ++ [.slice a6 m6 c6], D ++ [part l fs i], l.length, l.length, by simp, rfl, rfl, Nat.le_refl _, by omega, Lib.hid (by simp [hvl.out]), HVN, HRS, HXS.out, by rw [Lib.piece_nil, HJ.out]; exact HIV.out, fun _ y hy => by rw [List.getElem?_eq_none (by omega)] at hy; cases hy⟩
          · have hie : i = l.length := by omega
            subst hie
            rw [List.drop_length] at hinv
            clear hside hi
            by_cases hfl : fs < l.length
            · have i2 : (fs : Int) < (l.length : Int) := by omega
              have hne := Lib.piece_ne (l := l) hfl (Nat.le_refl _)
              have hemp : ((l.drop fs).take (l.length - fs)).isEmpty = false := by simpa using hne
              have hinv2 : D ++ [part l fs l.length] = Lib.fields l := by rw [← hinv, Lib.fieldsGo, hemp, part_piece]; simp
              have hdN : vs.length < nn := by
                have := congrArg List.length hinv2
                rw [HN.out] at this
                simp at this
                have := hvl.out
                omega
              have hdN2 : vs.length + 1 = nn := by
                have := congrArg List.length hinv2
                rw [HN.out] at this
                simp at this
                have := hvl.out
                omega
              have hdz : ((vs.length : Nat) : Int) < (nn : Int) := by omega
              have HIV := Lib.hid hinv2
              have g2 : wr.cell? ⟨g, vs.length, none⟩ = some (.slice none 0 0) := by
                have := hrow.out.cell vs.length (by simp; omega)
                rw [this]
                simp [List.getElem_append_right]
              have g3 := hrow.out.frozen vs.length
              clear hinv hne hemp hinv2
              go_wp2_with (refine wpList_subLHMW rfl 27 _ _ _ _ rfl 5 Tryd.underlying27 info_u8' _ _ w rfl HB.out _ _ _ _ _ rfl rfl rfl fs l.length rfl rfl (by omega) (by omega) ?_)
              intro v6 b6
              obtain ⟨a6, c6, e6, _, _⟩ := b6.shape
              obtain ⟨m6, hm6⟩ : ∃ m6, (part l fs l.length).length = m6 := ⟨_, rfl⟩
              rw [hm6] at e6
              subst e6
              have HB6 := Lib.hid b6
              have HRS := Lib.hid (show RowV (wr.setCell ⟨g, vs.length, none⟩ (.slice a6 m6 c6)) g 27 (vs ++ [.slice a6 m6 c6]) by
                have := hrow.out.set vs.length (.slice a6 m6 c6)
                rw [List.set_append_right _ _ (Nat.le_refl _), Nat.sub_self, show nn - vs.length = 0 + 1 by omega, List.replicate_succ, List.set_cons_zero] at this
                simpa using this)
              have HXS := Lib.hid (show Ext w (wr.setCell ⟨g, vs.length, none⟩ (.slice a6 m6 c6)) from ⟨HX5.out.below.setCell (by rw [HG.out]; exact Nat.le_refl _) _⟩)
              clear b6 hm6
              go_wp2_with fail
              go_ret
              have hL : fieldsB wsP l = D ++ [part l fs l.length] := by rw [HF.out, HIV.out]
              have hn1 : (fieldsB wsP l).length = nn := by rw [HF.out]; exact HN.out
              refine ⟨_, rfl, ⟨vs ++ [.slice a6 m6 c6], ⟨by rw [hn1]; simp; omega, some ⟨g, 0, none⟩, nn, by rw [hn1]; rfl, by rw [hn1]; exact Nat.le_refl _, by unfold maxLen; omega, .inr ⟨g, 0, rfl, fun i hi => by rw [Nat.zero_add]; exact HRS.out.cell i hi⟩⟩, fun q hq hq' => ?_⟩, HXS.out⟩
              have e0 : (fieldsB wsP l)[q] = (D ++ [part l fs l.length])[q]'(by rw [← hL]; exact hq) := by
                have : (fieldsB wsP l)[q]? = (D ++ [part l fs l.length])[q]? := by rw [hL]
                rw [List.getElem?_eq_getElem hq, List.getElem?_eq_getElem (by rw [← hL]; exact hq)] at this
                exact Option.some.inj this
              rw [e0]
              by_cases hqv : q < vs.length
              · rw [List.getElem_append_left hqv, List.getElem_append_left (by rw [← hvl.out]; exact hqv)]
                exact (hvb.out q hqv _).ext HXS.out
              · have hqe : q = vs.length := by simp at hq'; omega
                subst hqe
                have e1 : (vs ++ [Value.slice a6 m6 c6])[vs.length] = .slice a6 m6 c6 := by simp
                have e2 : ∀ h, (D ++ [part l fs l.length])[vs.length]'h = part l fs l.length := by
                  intro h
                  have : (D ++ [part l fs l.length])[vs.length]? = some (part l fs l.length) := by rw [hvl.out]; simp
                  exact (List.getElem?_eq_some_iff.1 this).2
                rw [e1, e2]
                exact HB6.out.ext HXS.out
            · have hfe : fs = l.length := by omega
              subst hfe
              have hinv2 : D = Lib.fields l := by rw [← hinv, Lib.piece_nil]; simp [Lib.fieldsGo]
              have hdN2 : vs.length = nn := by
                have := congrArg List.length hinv2
                rw [HN.out] at this
                have := hvl.out
                omega
              have HIV := Lib.hid hinv2
              clear hinv hinv2
              go_wp2_with fail
              go_ret
              have hL : fieldsB wsP l = D := by rw [HF.out, HIV.out]
              have hn1 : (fieldsB wsP l).length = nn := by rw [HF.out]; exact HN.out
              have hr := hrow.out
              rw [hdN2, Nat.sub_self, List.replicate_zero, List.append_nil] at hr
              refine ⟨_, rfl, ⟨vs, ⟨by rw [hn1, hdN2]; omega, some ⟨g, 0, none⟩, nn, by rw [hn1]; rfl, by rw [hn1]; exact Nat.le_refl _, by unfold maxLen; omega, .inr ⟨g, 0, rfl, fun i hi => by rw [Nat.zero_add]; exact hr.cell i hi⟩⟩, fun q hq hq' => ?_⟩, HX5.out⟩
              subst hL
              exact (hvb.out q hq' hq).ext HX5.out
end Go.Proofs.YthbfdajbajijeaaDoor
