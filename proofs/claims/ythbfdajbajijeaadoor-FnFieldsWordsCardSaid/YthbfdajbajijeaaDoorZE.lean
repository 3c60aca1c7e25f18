/- Several texts of this seat, put together: FieldsBS FieldsA FieldsX. -/
import Derived.Test.YthbfdajbajijeaaDoorFieldsP
import Derived.Test.YthbfdajbajijeaaDoorZB
import Derived.Deep.DeepCutAuto
import Derived.Test.YthbfdajbajijeaaDoorSpace
import Derived.Test.YthbfdajbajijeaaDoorBlankP
import Derived.Lib.FieldsLaws
import Derived.Laws.BitsAllLaws
import Derived.Deep.CutBlock
import Derived.Test.YthbfdajbajijeaaDoorZD
/- The walk of bytes.FieldsFunc. Printed by fieldsb.py. -/
namespace Go.Proofs.YthbfdajbajijeaaDoor
open Go.RowKit


set_option maxRecDepth 100000 in
set_option maxHeartbeats 4000000 in
theorem bytes_FieldsFuncS (sv : Value) (l : List UInt8)  (w : World) (hb : Bs w sv l) (h : White w) (hT : Tabs w) (hlim : l.length ≤ 1099511627776) :
    Calls Tryd.prog 44 #[sv, .func (.func 57) #[] #[]] w (fun e w' => RetLs w (fieldsB (wsP) l) e w') := by
  have hcl := chunks_length l
  obtain ⟨a, c, hsv, hcap, hcm⟩ := hb.shape
  subst hsv
  obtain ⟨cs, HCS, HPL, HDE, HPE, HPA, HLA, HPN, HRG⟩ := chunk_facts l
  have hgl : glue cs = l := by rw [← HCS.out]; exact glue_chunks l
  have HGL := Lib.hid hgl
  have HF := Lib.hid (show fieldsB (wsP) l = (runsC (wsP) cs).map glue by unfold fieldsB; rw [HCS.out])
  rw [HCS.out] at hcl
  have HI := Lib.hid h
  have HT := Lib.hid hT
  have HBS := Lib.hid hb
  obtain ⟨n, hn⟩ : ∃ n, w.heap.size = n := ⟨_, rfl⟩
  have HN := Lib.hid hn
  clear h hT hb hgl
  go_enter Tryd.func44, Tryd.ntmps44
  go_wp2_with (refine wpList_mkRow rfl 59 _ _ rfl 63 2 16 _ Tryd.underlying59 info_span _ _ 32 rfl rfl (by omega) (by omega) ?_)
  intro v1 w1 o1 x1
  have B1 : Below n w w1 := by have := x1.below; rw [hn] at this; exact this
  clear x1 hn
  go_wp2_with fail
  go_loopg [5, 6, 7] cs.length (fun k o f i wr => ∃ (j : Nat) (D : List (List Ch)) (st : Option Nat) (S : List (Nat × Nat)), j + k = cs.length ∧ i = .int .i64 (placeOf cs j : Int) ∧ f = .int .i64 (fromOf cs st) ∧ RunAt (wsP) cs j D st ∧ S.length ≤ j ∧
    spanTexts l S = D.map glue ∧ SpansOk l S ∧ wr.ownsRow n 63 2 o S.length (spcells S) ∧ Below n w wr)
  case atStart => exact ⟨0, [], none, [], by omega, rfl, rfl, RunAt.start _ _, Nat.le_refl _, rfl, (by intro q hq; cases hq), o1, B1⟩
  case round =>
    obtain ⟨j, D, st, S, hj, rfl, rfl, hrun, hSj, htx, hok, hown, hbe⟩ := hrel
    clear o1 B1
    have HJ := Lib.hid hj
    have HR := Lib.hid hrun
    have HO := Lib.hid hown
    have HB := Lib.hid hbe
    have HTX := Lib.hid htx
    have HOK := Lib.hid hok
    have hx : Ext w wr := ⟨by rw [HN.out]; exact hbe⟩
    have HX := Lib.hid hx
    have hnw : n ≤ wr.heap.size := by have := hbe.size; rw [HN.out] at this; exact this
    clear hrun hown hbe htx hok hx
    by_cases hlt : j < cs.length
    · have hg : 0 < gk := by omega
      have hpj := HPL.out j hlt
      have hb := HBS.out.ext HX.out
      obtain ⟨hne, hdec⟩ := HDE.out j hlt
      have hpe := HPE.out j hlt
      have hle := HPN.out (j + 1)
      obtain ⟨p, hp⟩ : ∃ p, placeOf cs j = p := ⟨_, rfl⟩
      rw [hp] at hpj hne hdec hpe ⊢
      have HPJ := Lib.hid hp
      have HPE2 := Lib.hid hpe
      have hsum : p + cs[j].bs.length ≤ l.length := by omega
      clear hj hp
      go_wp2_with (refine wpList_subL rfl 27 _ _ rfl 5 Tryd.underlying27 info_u8' _ _ rfl hb _ _ rfl p rfl (by omega) ?_)
      intro v2 b2 _
      go_wp2_with (go_at_call 60; refine (utf8_DecodeRune v2 _ _ b2 hne (HT.out.ext HX.out)).mono ?_)
      rintro _ w2 ⟨rfl, x2⟩
      rw [hdec]
      have HX2 := Lib.hid (HX.out.trans x2)
      have cH := unicode_IsSpace (hr := (HRG.out j hlt).2.2) cs[j].r w2 (HI.out.ext HX2.out)
      have HX22 := Lib.hid x2
      clear x2 b2 hb hdec hne hpe
      cases hh : (wsP cs[j].r)
      · rw [hh] at cH
        cases st with
        | none =>
          have HR2 := Lib.hid (HR.out.opens hlt hh)
          have hfr : fromOf cs none = -1 := rfl
          rw [hfr]
          clear hh hfr
          go_wp2_with (go_at_call 57; refine cH.mono ?_; rintro _ w3 ⟨rfl, x3⟩)
          have xx := HX22.out.trans x3
          go_roundg (gk - 1)
          case measure => omega
          case rel => exact ⟨j + 1, D, some j, S, by have := HJ.out; omega, by rw [← HPE2.out]; go_num, by show _ = Value.int .i64 ((placeOf cs j : Nat) : Int); rw [HPJ.out], HR2.out, by omega, HTX.out, HOK.out, owns_keep HO.out xx, below_ext HB.out xx hnw⟩
        | some s0 =>
          have HR2 := Lib.hid (HR.out.goes hlt hh)
          have hfr : fromOf cs (some s0) = (placeOf cs s0 : Int) := rfl
          rw [hfr]
          clear hh hfr
          go_wp2_with (go_at_call 57; refine cH.mono ?_; rintro _ w3 ⟨rfl, x3⟩)
          have xx := HX22.out.trans x3
          go_roundg (gk - 1)
          case measure => omega
          case rel => exact ⟨j + 1, D, some s0, S, by have := HJ.out; omega, by rw [← HPE2.out]; go_num, rfl, HR2.out, by omega, HTX.out, HOK.out, owns_keep HO.out xx, below_ext HB.out xx hnw⟩
      · rw [hh] at cH
        cases st with
        | none =>
          have HR2 := Lib.hid (HR.out.sep hlt hh)
          have hfr : fromOf cs none = -1 := rfl
          rw [hfr]
          clear hh hfr
          go_wp2_with (go_at_call 57; refine cH.mono ?_; rintro _ w3 ⟨rfl, x3⟩)
          have xx := HX22.out.trans x3
          go_roundg (gk - 1)
          case measure => omega
          case rel => exact ⟨j + 1, D, none, S, by have := HJ.out; omega, by rw [← HPE2.out]; go_num, rfl, HR2.out, by omega, HTX.out, HOK.out, owns_keep HO.out xx, below_ext HB.out xx hnw⟩
        | some s0 =>
          have HR2 := Lib.hid (HR.out.shut hlt hh)
          have hsj := HR.out.2 s0 rfl
          have hpm := place_mono cs (Nat.le_of_lt hsj)
          have HGP := Lib.hid (glue_part HGL.out s0 j)
          have hfr : fromOf cs (some s0) = (placeOf cs s0 : Int) := rfl
          rw [hfr]
          rw [HPJ.out] at hpm HGP
          obtain ⟨pa, hpa⟩ : ∃ pa, placeOf cs s0 = pa := ⟨_, rfl⟩
          rw [hpa] at hpm HGP ⊢
          clear hh hfr hpa hsj
          go_wp2_with (go_at_call 57; refine cH.mono ?_)
          rintro _ w3 ⟨rfl, x3⟩
          have xx := HX22.out.trans x3
          have hh3 : wr.heap.size ≤ w3.heap.size := xx.size
          have O3 := owns_keep HO.out (xx.trans (Ext.alloc w3 (.cells #[.int .i64 (pa : Int), .int .i64 (p : Int)] 63)))
          have B3 := below_ext HB.out (xx.trans (Ext.alloc w3 (.cells #[.int .i64 (pa : Int), .int .i64 (p : Int)] 63))) hnw
          have O3' := Lib.hid O3
          have B3' := Lib.hid B3
          clear O3 B3 cH x3
          go_wp2_with (refine wpList_appendV rfl 59 _ _ rfl 63 2 16 _ Tryd.underlying59 info_span rfl (by omega) n _ _ _ rfl O3'.out _ 1 _ [.int .i64 (pa : Int), .int .i64 (p : Int)] rfl rfl (news_alloc _ _ _) (by simp [Value.oneCell']) (by omega) (by omega) (by simp; omega) ?_)
          intro v4 w4 o4 g4
          have B4 := owns_grown O3'.out g4 (by simp; omega) B3'.out (by omega)
          have HO4 := Lib.hid o4
          clear g4 o4
          go_wp2_with fail
          go_roundg (gk - 1)
          case measure => omega
          case rel =>
            refine ⟨j + 1, D ++ [(cs.take j).drop s0], none, S ++ [(pa, p)], by have := HJ.out; omega, by rw [← HPE2.out]; go_num, rfl, HR2.out, by rw [List.length_append, List.length_singleton]; omega, ?_, ?_, ?_, B4⟩
            · unfold spanTexts at *
              rw [List.map_append, List.map_append, List.map_singleton, List.map_singleton, HGP.out]
              have := HTX.out
              unfold spanTexts at this
              rw [this]
            · intro q hq
              rcases List.mem_append.1 hq with hq | hq
              · exact HOK.out q hq
              · rw [List.mem_singleton.1 hq]
                exact ⟨hpm, by omega⟩
            · rw [spcells_append, List.length_append]
              exact HO4.out
    · have hje : j = cs.length := by omega
      subst hje
      have hpl : placeOf cs cs.length = l.length := HPA.out
      rw [hpl]
      clear hj
      obtain ⟨F, hF⟩ : ∃ F, fromOf cs st = F := ⟨_, rfl⟩
      rw [hF]
      have HFF := Lib.hid hF
      clear hF
      go_upto_if 43 with (fail)
      go_cut [5] (fun s5 wx => ∃ S, spanTexts l S = fieldsB (wsP) l ∧ SpansOk l S ∧ wx.ownsRow n 63 2 s5 S.length (spcells S) ∧ S.length ≤ cs.length + 1 ∧ Below n w wx)
      case first =>
        cases st with
        | none =>
          have HD := Lib.hid HR.out.done
          have hfr : -1 = F := HFF.out
          subst hfr
          go_wp2_with fail
          go_meet
          exact ⟨S, by rw [HTX.out, HF.out, HD.out], HOK.out, HO.out, by omega, HB.out⟩
        | some s0 =>
          have HD := Lib.hid HR.out.done'
          have hpl2 := HPN.out s0
          have HGP := Lib.hid (show glue (cs.drop s0) = part l (placeOf cs s0) l.length by rw [glue_drop, HGL.out]; simp [part])
          have hfr : (placeOf cs s0 : Int) = F := HFF.out
          have hsj := HR.out.2 s0 rfl
          obtain ⟨pa, hpa⟩ : ∃ pa, placeOf cs s0 = pa := ⟨_, rfl⟩
          rw [hpa] at hpl2 HGP hfr
          subst hfr
          have O3 := owns_keep HO.out (Ext.alloc wr (.cells #[.int .i64 (pa : Int), .int .i64 (l.length : Int)] 63))
          have B3 := below_ext HB.out (Ext.alloc wr (.cells #[.int .i64 (pa : Int), .int .i64 (l.length : Int)] 63)) hnw
          have O3' := Lib.hid O3
          have B3' := Lib.hid B3
          clear O3 B3 hpa
          go_wp2_with (refine wpList_appendV rfl 59 _ _ rfl 63 2 16 _ Tryd.underlying59 info_span rfl (by omega) n _ _ _ rfl O3'.out _ 1 _ [.int .i64 (pa : Int), .int .i64 (l.length : Int)] rfl rfl (news_alloc _ _ _) (by simp [Value.oneCell']) (by omega) (by omega) (by simp; omega) ?_)
          intro v4 w4 o4 g4
          have B4 := owns_grown O3'.out g4 (by simp; omega) B3'.out (by omega)
          have HO4 := Lib.hid o4
          clear g4 o4
          go_wp2_with fail
          go_meet
          refine ⟨S ++ [(pa, l.length)], ?_, ?_, ?_, ?_, B4⟩
          · rw [HF.out, HD.out, List.map_append, List.map_singleton, HGP.out]
            have := HTX.out
            unfold spanTexts at this ⊢
            rw [List.map_append, List.map_singleton, this]
          · intro q hq
            rcases List.mem_append.1 hq with hq | hq
            · exact HOK.out q hq
            · rw [List.mem_singleton.1 hq]
              exact ⟨hpl2, Nat.le_refl _⟩
          · rw [spcells_append, List.length_append]
            exact HO4.out
          · rw [List.length_append, List.length_singleton]; omega
      case rest =>
        obtain ⟨S, htx, hok, hown, hSl, hbe⟩ := hcut
        obtain ⟨w4, hw4⟩ : ∃ w4, w4 = wc := ⟨_, rfl⟩
        subst hw4
        have XW : Ext w w4 := ⟨by rw [HN.out]; exact hbe⟩
        have hvs := vs_of_owns hown
        obtain ⟨hsl, a5, c5, rfl, hc5, hm5, hcells⟩ := hvs
        have HXW := Lib.hid XW
        have HCL := Lib.hid hcells
        have HTX := Lib.hid htx
        have HOK := Lib.hid hok
        have hc6 : c5 ≤ 9223372036854775807 := by unfold maxLen at hm5; omega
        have HSL := Lib.hid hsl
        clear hown hbe htx hok hcells XW hm5 hsl HR HO HB HX HFF
        go_wp2_with (refine wpList_mkVals rfl 33 _ _ rfl 27 _ 24 Tryd.underlying33 info_bytes rfl S.length _ _ rfl rfl (by omega) (by omega) ?_)
        intro w5 r5 x5
        obtain ⟨g, hg⟩ : ∃ g, w4.heap.size = g := ⟨_, rfl⟩
        rw [hg] at r5 ⊢
        have HG := Lib.hid hg
        clear hg
        go_wp2_with fail
        go_loopg [56] S.length (fun k i wr => ∃ (j : Nat) (vs : List Value), j + k = S.length ∧ i = .int .i64 j ∧ vs.length = j ∧ (∀ i (h : i < vs.length) (h' : i < S.length), Bs w vs[i] (part l S[i].1 S[i].2)) ∧ RowV wr g 27 (vs ++ List.replicate (S.length - j) (.slice none 0 0)) ∧ Ext w4 wr)
        case atStart => exact ⟨0, [], by omega, rfl, rfl, (by intro i h; simp at h), by simpa using r5, x5⟩
        case round =>
          obtain ⟨j, vs, hj, rfl, hvl, hvb, hrow, hx⟩ := hrel
          clear r5 x5
          have HJ := Lib.hid hj
          have HVL := Lib.hid hvl
          have HVB := Lib.hid hvb
          have HX := Lib.hid hx
          have HRW := Lib.hid hrow
          clear hvb hvl
          by_cases hlt : j < S.length
          · have hgk : 0 < gk := by omega
            have hq := HOK.out S[j] (List.getElem_mem hlt)
            have hsg := spcells_get S j hlt
            obtain ⟨hl1, he1⟩ := List.getElem?_eq_some_iff.1 hsg.1
            obtain ⟨hl2, he2⟩ := List.getElem?_eq_some_iff.1 hsg.2
            have hcell : ∃ b o, a5 = some ⟨b, o, none⟩ ∧ wr.cell? ⟨b, o + j * 2, none⟩ = some (.int .i64 (S[j].1 : Int)) ∧ wr.cell? ⟨b, o + j * 2 + 1, none⟩ = some (.int .i64 (S[j].2 : Int)) := by
              rcases HCL.out with h0 | ⟨b, o, ha, hc⟩
              · rw [h0] at hl1; simp at hl1
              · refine ⟨b, o, ha, ?_, ?_⟩
                · have := hc (j * 2) hl1
                  rw [he1] at this
                  exact hx.cell this
                · have := hc (j * 2 + 1) hl2
                  rw [he2] at this
                  rw [Nat.add_assoc]
                  exact hx.cell this
            obtain ⟨b, o, rfl, d0, d1⟩ := hcell
            obtain ⟨qa, hqa⟩ : ∃ qa, S[j].1 = qa := ⟨_, rfl⟩
            obtain ⟨qb, hqb⟩ : ∃ qb, S[j].2 = qb := ⟨_, rfl⟩
            rw [hqa] at d0 hq
            rw [hqb] at d1 hq
            have HQ := Lib.hid (show part l S[j].1 S[j].2 = part l qa qb by rw [hqa, hqb])
            have hjl : j < (vs ++ List.replicate (S.length - j) (Value.slice none 0 0)).length := by rw [List.length_append, HVL.out, List.length_replicate]; omega
            have hra := HRW.out.ext (Ext.alloc wr (.cells #[.int .i64 (qa : Int), .int .i64 (qb : Int)] 63))
            obtain ⟨z, g1⟩ : ∃ z, (wr.alloc (.cells #[.int .i64 (qa : Int), .int .i64 (qb : Int)] 63)).cell? ⟨g, j, none⟩ = some z := ⟨_, hra.cell j hjl⟩
            have g2 := hra.frozen j
            have HRA := Lib.hid hra
            have gne : g ≠ wr.heap.size := by have := HRW.out.lt; omega
            have hcm2 : c ≤ 9223372036854775807 := by unfold maxLen at hcm; omega
            clear hj hsg hl1 he1 hl2 he2 hqa hqb hrow hra hx
            go_wp2_with (refine wpList_subLHMW rfl 27 _ _ _ _ rfl 5 Tryd.underlying27 info_u8' _ _ w rfl HBS.out _ _ _ _ _ rfl rfl rfl qa qb rfl rfl hq.1 hq.2 ?_)
            intro v6 b6
            obtain ⟨a6, c6, e6, _, _⟩ := b6.shape
            obtain ⟨m6, hm6⟩ : ∃ m6, (part l qa qb).length = m6 := ⟨_, rfl⟩
            rw [hm6] at e6
            subst e6
            have HB6 := Lib.hid b6
            clear b6 hm6
            go_wp2_with fail
            go_roundg (gk - 1)
            case measure => omega
            case rel =>
              refine ⟨j + 1, vs ++ [.slice a6 m6 c6], by have := HJ.out; omega, by go_num, by simp [HVL.out], ?_, ?_, ?_⟩
              · intro i hi hi'
                by_cases hij : i < vs.length
                · rw [List.getElem_append_left hij]
                  exact HVB.out i hij hi'
                · have hie : i = j := by
                    rw [List.length_append, HVL.out] at hi
                    have := HVL.out
                    simp at hi
                    omega
                  subst hie
                  rw [HQ.out]
                  have e : (vs ++ [Value.slice a6 m6 c6])[i] = .slice a6 m6 c6 := by
                    have : (vs ++ [Value.slice a6 m6 c6])[i]? = some (.slice a6 m6 c6) := by rw [List.getElem?_append_right (by have := HVL.out; omega)]; simp [HVL.out]
                    exact (List.getElem?_eq_some_iff.1 this).2
                  rw [e]
                  exact HB6.out
              · have := HRA.out.set j (.slice a6 m6 c6)
                rw [List.set_append_right _ _ (by rw [HVL.out]; exact Nat.le_refl _), HVL.out, Nat.sub_self, show S.length - j = (S.length - (j + 1)) + 1 by omega, List.replicate_succ, List.set_cons_zero] at this
                rw [List.append_assoc]
                exact this
              · exact ⟨((HX.out.trans (Ext.alloc _ _)).below).setCell (by rw [HG.out]; exact Nat.le_refl _) _⟩
          · have hje : j = S.length := by omega
            clear hj hrow hx
            go_wp2_with fail
            go_ret
            have hL : fieldsB (wsP) l = spanTexts l S := HTX.out.symm
            have hn1 : (fieldsB (wsP) l).length = S.length := by rw [hL]; simp [spanTexts]
            refine ⟨_, rfl, ?_, HXW.out.trans HX.out⟩
            have hr := HRW.out
            rw [hje, Nat.sub_self, List.replicate_zero, List.append_nil] at hr
            refine ⟨vs, ⟨by rw [hn1, HVL.out, hje]; omega, some ⟨g, 0, none⟩, S.length, by rw [hn1]; rfl, by rw [hn1]; exact Nat.le_refl _, by unfold maxLen; omega, .inr ⟨g, 0, rfl, fun i hi => by rw [Nat.zero_add]; exact hr.cell i hi⟩⟩, fun i hi hi' => ?_⟩
            have hi2 : i < S.length := by rw [← hn1]; exact hi
            have e : (fieldsB (wsP) l)[i] = part l S[i].1 S[i].2 := by
              have : (fieldsB (wsP) l)[i]? = some (part l S[i].1 S[i].2) := by
                rw [hL]
                unfold spanTexts
                rw [List.getElem?_map, List.getElem?_eq_getElem hi2]
                rfl
              exact (List.getElem?_eq_some_iff.1 this).2
            rw [e]
            exact (HVB.out i hi' hi2).ext (HXW.out.trans HX.out)
end Go.Proofs.YthbfdajbajijeaaDoor

/- The walk of bytes.Fields. -/
namespace Go.Proofs.YthbfdajbajijeaaDoor
open Go.RowKit

theorem part_piece (l : List UInt8) (a b : Nat) : part l a b = (l.drop a).take (b - a) := by
  unfold part
  rw [List.drop_take]

theorem runs_ascii : ∀ (l : List UInt8), (∀ b ∈ l, b.toNat < 128) → ((runsA wsP none (l.map ach)).map glue = Lib.fieldsGo [] l) ∧
    ∀ r : List Ch, glue r ≠ [] → (runsA wsP (some r) (l.map ach)).map glue = Lib.fieldsGo (glue r) l
  | [], _ => ⟨rfl, fun r hr => by
      have : (glue r).isEmpty = false := by simpa using hr
      simp [runsA, Lib.fieldsGo, this]⟩
  | b :: l, h => by
    have hb := h b (List.mem_cons_self ..)
    have ih := runs_ascii l (fun x hx => h x (List.mem_cons_of_mem _ hx))
    have hw := isSp_ws b hb
    have hr' : (ach b).r = b.toNat := rfl
    refine ⟨?_, fun r hr => ?_⟩
    · rw [List.map_cons, runsA, Lib.fieldsGo, hr']
      cases hs : wsP (b.toNat : Int)
      · rw [hs] at hw
        rw [hw]
        simp only [Bool.false_eq_true, if_false]
        have := ih.2 [ach b] (by simp [glue, ach])
        simpa [glue, ach] using this
      · rw [hs] at hw
        rw [hw]
        simp only [if_true]
        simpa using ih.1
    · have he : (glue r).isEmpty = false := by simpa using hr
      rw [List.map_cons, runsA, Lib.fieldsGo, hr']
      cases hs : wsP (b.toNat : Int)
      · rw [hs] at hw
        rw [hw]
        simp only [Bool.false_eq_true, if_false]
        have := ih.2 (r ++ [ach b]) (by simp [glue, ach])
        simpa [glue_append, glue, ach] using this
      · rw [hs] at hw
        rw [hw, he]
        simp only [if_true, Bool.false_eq_true, if_false, List.map_cons]
        rw [ih.1]
theorem fields_ascii (l : List UInt8) (h : ∀ b ∈ l, b.toNat < 128) : fieldsB wsP l = Lib.fields l := by
  unfold fieldsB runsC Lib.fields
  rw [chunks_ascii l h]
  exact (runs_ascii l h).1

theorem andNot00 : bits .and .i64 0 (bits .xor .i64 (-1) 0) = 0 := by decide
theorem andNot01 : bits .and .i64 0 (bits .xor .i64 (-1) 1) = 0 := by decide
theorem andNot10 : bits .and .i64 1 (bits .xor .i64 (-1) 0) = 1 := by decide
theorem andNot11 : bits .and .i64 1 (bits .xor .i64 (-1) 1) = 0 := by decide
theorem or_high (a b : Nat) (h : 128 ≤ a ∨ 128 ≤ b) : 128 ≤ a ||| b := by
  rcases h with h | h
  · exact Nat.le_trans h Nat.left_le_or
  · exact Nat.le_trans h Nat.right_le_or
theorem or_small (a b : Nat) (ha : a < 256) (hb : b < 256) : a ||| b < 256 := Nat.or_lt_two_pow (n := 8) ha hb

set_option maxRecDepth 100000 in
set_option maxHeartbeats 4000000 in
theorem bytes_Fields (sv : Value) (l : List UInt8) (w : World) (hb : Bs w sv l) (h : White w) (hT : Tabs w) (hlim : l.length ≤ 1099511627776) :
    Calls Tryd.prog 43 #[sv] w (fun e w' => RetLs w (fieldsB wsP l) e w') := by
  obtain ⟨a, c, hsv, hcap, hcm, h3⟩ := id hb
  subst hsv
  have hc1 : c ≤ 9223372036854775807 := by unfold maxLen at hcm; omega
  have HB := Lib.hid hb
  have HW := Lib.hid h
  have HT := Lib.hid hT
  have HC := Lib.hid (show ∀ i (h : i < l.length), ∃ b o, a = some ⟨b, o, none⟩ ∧ w.cell? ⟨b, o + i, none⟩ = some (.int .u8 (l[i].toNat : Int)) by
    intro i hi
    rcases h3 with h0 | ⟨b, o, ha, hc⟩
    · rw [h0] at hi; simp at hi
    · exact ⟨b, o, ha, hc i hi⟩)
  clear hb h hT hcm h3
  have b00 := andNot00
  have b01 := andNot01
  have b10 := andNot10
  have b11 := andNot11
  by_cases hasc : ∀ b ∈ l, b.toNat < 128
  case neg =>
    obtain ⟨K, hK, hK128⟩ : ∃ K, ∃ h : K < l.length, 128 ≤ l[K].toNat := by
      simp only [Classical.not_forall] at hasc
      obtain ⟨b, hb, hx⟩ := hasc
      obtain ⟨K, hK, rfl⟩ := List.getElem_of_mem hb
      exact ⟨K, hK, by omega⟩
    have HK128 := Lib.hid hK128
    clear hasc hK128
    go_enter Tryd.func43, Tryd.ntmps43
    go_wp2_with fail
    go_loopg [3, 4, 5, 6] l.length (fun g s3 s4 s5 s6 wr => w = wr ∧ ∃ (k nn sb : Nat) (ws : Bool), k + g = l.length ∧ s6 = .int .i64 (k : Int) ∧ s3 = .int .i64 (nn : Int) ∧ s4 = .int .i64 (if ws then 1 else 0) ∧ s5 = .int .u8 (sb : Int) ∧ sb < 256 ∧ nn ≤ k ∧ (K < k → 128 ≤ sb))
    case atStart => exact ⟨rfl, 0, 0, 0, true, by omega, rfl, rfl, rfl, rfl, by omega, Nat.le_refl _, by omega⟩
    case round =>
      obtain ⟨rfl, k, nn, sb, ws, hk, rfl, rfl, rfl, rfl, hsb, hnk, hKk⟩ := hrel
      have HKK := Lib.hid hk
      have HKs := Lib.hid hKk
      by_cases hlt : k < l.length
      · have hg : 0 < gk := by omega
        have i1 : (k : Int) < (l.length : Int) := by omega
        obtain ⟨b, o, ha, c0⟩ := HC.out k hlt
        subst ha
        obtain ⟨x, hx⟩ : ∃ x, l[k] = x := ⟨_, rfl⟩
        rw [hx] at c0
        have HX := Lib.hid hx
        have hxl : x.toNat < 256 := x.toNat_lt
        have hxz : (x.toNat : Int) < 256 := by omega
        have hTx := HW.out.at x
        have hor : bits .or .u8 (sb : Int) (x.toNat : Int) = ((sb ||| x.toNat : Nat) : Int) := u8_or_nat _ _ (by omega) (by omega)
        have hor2 : sb ||| x.toNat < 256 := or_small _ _ hsb hxl
        have HOR := Lib.hid (show K < k + 1 → 128 ≤ sb ||| x.toNat by
          intro hq
          refine or_high _ _ ?_
          by_cases he : K = k
          · subst he
            right
            rw [← HX.out]
            exact HK128.out
          · exact .inl (HKs.out (by omega)))
        obtain ⟨z, hz⟩ : ∃ z, sb ||| x.toNat = z := ⟨_, rfl⟩
        rw [hz] at hor hor2 HOR
        clear hx hk hKk hz
        cases hsx : Lib.isSp x <;> cases ws <;> rw [hsx] at hTx <;> simp only [if_true, Bool.false_eq_true, if_false] at hTx ⊢ <;>
          (go_wp2_with fail
           go_roundg (gk - 1)
           case measure => omega
           case rel =>
             first
               | exact ⟨rfl, k + 1, nn, z, false, by have := HKK.out; omega, by go_num, by first | rfl | go_num | (simp; unfold RowKit.wrap64; omega), rfl, by first | rfl | simp, hor2, by omega, HOR.out⟩
               | exact ⟨rfl, k + 1, nn + 1, z, false, by have := HKK.out; omega, by go_num, by first | rfl | go_num | (simp; unfold RowKit.wrap64; omega), rfl, by first | rfl | simp, hor2, by omega, HOR.out⟩
               | exact ⟨rfl, k + 1, nn, z, true, by have := HKK.out; omega, by go_num, by first | rfl | go_num | (simp; unfold RowKit.wrap64; omega), rfl, by first | rfl | simp, hor2, by omega, HOR.out⟩)
      · have hke : k = l.length := by omega
        subst hke
        generalize (if ws = true then (1 : Int) else 0) = v4
        have hsbz : (128 : Int) ≤ (sb : Int) := by have := HKs.out hK; omega
        clear hk hKk
        go_wp2_with (go_at_call 44; refine (bytes_FieldsFuncS _ l _ HB.out HW.out HT.out hlim).mono ?_)
        rintro _ w3 ⟨v3, rfl, b3, x3⟩
        go_wp2_with fail
        go_ret
        exact ⟨_, rfl, b3, x3⟩
  have HA := Lib.hid hasc
  have HF := Lib.hid (fields_ascii l hasc)
  obtain ⟨N, hN⟩ : ∃ N : Nat, (Lib.fields l).length = N := ⟨_, rfl⟩
  have hNc : Lib.cntF true l = N := by rw [← Lib.fields_length]; exact hN
  have hNl : N ≤ l.length := by
    have := fieldsB_len wsP l
    rw [fields_ascii l hasc, hN] at this
    exact this
  have HN := Lib.hid hN
  clear hasc hN
  go_enter Tryd.func43, Tryd.ntmps43
  go_wp2_with fail
  go_loopg [3, 4, 5, 6] l.length (fun g s3 s4 s5 s6 wr => w = wr ∧ ∃ (k nn sb : Nat) (ws : Bool), k + g = l.length ∧ s6 = .int .i64 (k : Int) ∧ s3 = .int .i64 (nn : Int) ∧ s4 = .int .i64 (if ws then 1 else 0) ∧ s5 = .int .u8 (sb : Int) ∧ sb < 128 ∧ nn ≤ k ∧ nn + Lib.cntF ws (l.drop k) = N)
  case atStart => exact ⟨rfl, 0, 0, 0, true, by omega, rfl, rfl, rfl, rfl, by omega, Nat.le_refl _, by simpa using hNc⟩
  case round =>
    obtain ⟨rfl, k, nn, sb, ws, hk, rfl, rfl, rfl, rfl, hsb, hnk, hc⟩ := hrel
    have HKK := Lib.hid hk
    by_cases hlt : k < l.length
    · have hg : 0 < gk := by omega
      have i1 : (k : Int) < (l.length : Int) := by omega
      obtain ⟨b, o, ha, c0⟩ := HC.out k hlt
      subst ha
      obtain ⟨x, hx⟩ : ∃ x, l[k] = x := ⟨_, rfl⟩
      rw [hx] at c0
      have hx128 : x.toNat < 128 := by rw [← hx]; exact HA.out _ (List.getElem_mem hlt)
      have hxz : (x.toNat : Int) < 256 := by omega
      have hTx := HW.out.at x
      have hor : bits .or .u8 (sb : Int) (x.toNat : Int) = ((sb ||| x.toNat : Nat) : Int) := u8_or_nat _ _ (by omega) (by omega)
      have hor2 : sb ||| x.toNat < 128 := Nat.or_lt_two_pow (n := 7) hsb hx128
      rw [List.drop_eq_getElem_cons hlt, hx, Lib.cntF_step] at hc
      have HCN := Lib.hid hc
      obtain ⟨z, hz⟩ : ∃ z, sb ||| x.toNat = z := ⟨_, rfl⟩
      rw [hz] at hor hor2
      clear hx hk hc hz hNc
      cases hsx : Lib.isSp x <;> cases ws <;> rw [hsx] at hTx <;> simp only [if_true, Bool.false_eq_true, if_false] at hTx ⊢ <;>
        (go_wp2_with fail
         go_roundg (gk - 1)
         case measure => omega
         case rel =>
           have hc := HCN.out
           rw [hsx] at hc
           simp at hc
           first
             | exact ⟨rfl, k + 1, nn, z, false, by have := HKK.out; omega, by go_num, by first | rfl | go_num | (simp; unfold RowKit.wrap64; omega), rfl, by first | rfl | simp, hor2, by omega, by omega⟩
             | exact ⟨rfl, k + 1, nn + 1, z, false, by have := HKK.out; omega, by go_num, by first | rfl | go_num | (simp; unfold RowKit.wrap64; omega), rfl, by first | rfl | simp, hor2, by omega, by omega⟩
             | exact ⟨rfl, k + 1, nn, z, true, by have := HKK.out; omega, by go_num, by first | rfl | go_num | (simp; unfold RowKit.wrap64; omega), rfl, by first | rfl | simp, hor2, by omega, by omega⟩)
    · have hke : k = l.length := by omega
      subst hke
      generalize (if ws = true then (1 : Int) else 0) = v4
      have hsbz : ¬ ((128 : Int) ≤ (sb : Int)) := by omega
      have hnn : nn = N := by
        rw [List.drop_length] at hc
        simpa [Lib.cntF] using hc
      subst hnn
      clear hc hk hNc b00 b01 b10 b11
      go_wp2_with (refine wpList_mkVals rfl 33 _ _ rfl 27 _ 24 Tryd.underlying33 info_bytes rfl nn _ _ rfl rfl (by omega) (by omega) ?_)
      intro w5 r5 x5
      obtain ⟨g, hg⟩ : ∃ g, w.heap.size = g := ⟨_, rfl⟩
      rw [hg] at r5 ⊢
      have HG := Lib.hid hg
      clear hg
      go_upto_block 2 with fail
      go_cut [12] from 43 to 57 (fun s12 wx => w5 = wx ∧ ∃ i : Nat, i ≤ l.length ∧ s12 = .int .i64 (i : Int) ∧ Lib.fieldsGo [] (l.drop i) = Lib.fields l ∧ ∀ y, l[i]? = some y → Lib.isSp y = false)
      case first =>
        go_wp2_with fail
        go_loopg [12] l.length (fun g s12 wx => w5 = wx ∧ ∃ i : Nat, i + g = l.length ∧ s12 = .int .i64 (i : Int) ∧ Lib.fieldsGo [] (l.drop i) = Lib.fields l)
        case atStart => exact ⟨rfl, 0, by omega, rfl, rfl⟩
        case round =>
          obtain ⟨rfl, i, hi, rfl, hf⟩ := hrel
          have HFF := Lib.hid hf
          have HI := Lib.hid hi
          clear hf
          by_cases hin : i < l.length
          · have hg : 0 < gk := by omega
            have i1 : (i : Int) < (l.length : Int) := by omega
            obtain ⟨b, o, ha, c0⟩ := HC.out i hin
            subst ha
            replace c0 := x5.cell c0
            obtain ⟨x, hx⟩ : ∃ x, l[i] = x := ⟨_, rfl⟩
            rw [hx] at c0
            have hx128 : x.toNat < 128 := by rw [← hx]; exact HA.out _ (List.getElem_mem hin)
            have hxz : (x.toNat : Int) < 256 := by omega
            have hTx := (HW.out.ext x5).at x
            have HX := Lib.hid (show l[i]? = some x by rw [List.getElem?_eq_getElem hin, hx])
            clear hx hi
            cases hsx : Lib.isSp x <;> rw [hsx] at hTx <;> simp only [if_true, Bool.false_eq_true, if_false] at hTx
            · go_wp2_with fail
              go_meet
              exact ⟨rfl, i, by omega, rfl, HFF.out, fun y hy => by rw [HX.out] at hy; cases hy; exact hsx⟩
            · go_wp2_with fail
              go_roundg (gk - 1)
              case measure => omega
              case rel => exact ⟨rfl, i + 1, by have := HI.out; omega, by go_num, by rw [← HFF.out, Lib.drop_at HX.out, Lib.fieldsGo_sp _ _ hsx]⟩
          · have hie : i = l.length := by omega
            subst hie
            clear hi
            go_wp2_with fail
            go_meet
            exact ⟨rfl, l.length, Nat.le_refl _, rfl, HFF.out, fun y hy => by rw [List.getElem?_eq_none (by omega)] at hy; cases hy⟩
      case rest =>
        obtain ⟨hwc, i0, hi0, rfl, hf0, hns0⟩ := hcut
        subst hwc
        have H0 := Lib.hid (And.intro hf0 hns0)
        clear hf0 hns0
        go_wp2_with fail
        go_loopg [10, 11, 12] (l.length - i0) (fun gg s10 s11 s12 wr => ∃ (vs : List Value) (D : List (List UInt8)) (fs i : Nat), s10 = .int .i64 (vs.length : Int) ∧ s11 = .int .i64 (fs : Int) ∧ s12 = .int .i64 (i : Int) ∧ fs ≤ i ∧ i + gg = l.length ∧ Hid (vs.length = D.length) ∧
          Hid (∀ i (h : i < vs.length) (h' : i < D.length), Bs w vs[i] D[i]) ∧ Hid (RowV wr g 27 (vs ++ List.replicate (nn - vs.length) (.slice none 0 0))) ∧ Ext w wr ∧
          D ++ Lib.fieldsGo ((l.drop fs).take (i - fs)) (l.drop i) = Lib.fields l ∧ (fs = i → ∀ y, l[i]? = some y → Lib.isSp y = false))
        case atStart => exact ⟨[], [], i0, i0, rfl, rfl, rfl, Nat.le_refl _, by omega, Lib.hid rfl, Lib.hid (by intro i h; simp at h), Lib.hid (by simpa using r5), x5, by rw [Lib.piece_nil]; exact H0.out.1, fun _ => H0.out.2⟩
        case round =>
          obtain ⟨vs, D, fs, i, rfl, rfl, rfl, hfi, hi, hvl, hvb, hrow, hx5, hinv, hside⟩ := hrel
          have HI := Lib.hid hi
          have HX5 := Lib.hid hx5
          clear H0 x5 r5 hx5
          by_cases hin : i < l.length
          · have hgg : 0 < gk := by omega
            have i1 : (i : Int) < (l.length : Int) := by omega
            obtain ⟨b, o, ha, c0⟩ := HC.out i hin
            subst ha
            replace c0 := HX5.out.cell c0
            obtain ⟨x, hx⟩ : ∃ x, l[i] = x := ⟨_, rfl⟩
            rw [hx] at c0
            have hx128 : x.toNat < 128 := by rw [← hx]; exact HA.out _ (List.getElem_mem hin)
            have hxz : (x.toNat : Int) < 256 := by omega
            have hTx := (HW.out.ext HX5.out).at x
            have HX := Lib.hid (show l[i]? = some x by rw [List.getElem?_eq_getElem hin, hx])
            clear hx hi
            cases hsx : Lib.isSp x <;> rw [hsx] at hTx <;> simp only [if_true, Bool.false_eq_true, if_false] at hTx
            · have HIV := Lib.hid hinv
              clear hinv hside
              go_wp2_with fail
              go_roundg (gk - 1)
              case measure => omega
              case rel => exact ⟨vs, D, fs, i + 1, rfl, rfl, by go_num, by omega, by have := HI.out; omega, hvl, hvb, hrow, HX5.out, by rw [Lib.piece_more hfi HX.out, ← Lib.fieldsGo_more _ _ _ hsx, ← Lib.drop_at HX.out]; exact HIV.out, fun h => by omega⟩
            · have hlt : fs < i := by
                refine Nat.lt_of_le_of_ne hfi fun h => ?_
                have := hside h x HX.out
                rw [hsx] at this
                cases this
              rw [Lib.drop_at HX.out, Lib.fieldsGo_end _ _ _ hsx (Lib.piece_ne hlt (by omega))] at hinv
              have hdN : vs.length < nn := by
                have := congrArg List.length hinv
                rw [HN.out] at this
                simp at this
                have := hvl.out
                omega
              have hdz : ((vs.length : Nat) : Int) < (nn : Int) := by omega
              have HIV := Lib.hid (show (D ++ [part l fs i]) ++ Lib.fieldsGo [] (l.drop (i + 1)) = Lib.fields l by rw [← hinv, part_piece]; simp)
              have g2 : wr.cell? ⟨g, vs.length, none⟩ = some (.slice none 0 0) := by
                have := hrow.out.cell vs.length (by simp; omega)
                rw [this]
                simp [List.getElem_append_right]
              have g3 := hrow.out.frozen vs.length
              clear hinv hside
              go_wp2_with (refine wpList_subLHMW rfl 27 _ _ _ _ rfl 5 Tryd.underlying27 info_u8' _ _ w rfl HB.out _ _ _ _ _ rfl rfl rfl fs i rfl rfl (by omega) (by omega) ?_)
              intro v6 b6
              obtain ⟨a6, c6, e6, _, _⟩ := b6.shape
              obtain ⟨m6, hm6⟩ : ∃ m6, (part l fs i).length = m6 := ⟨_, rfl⟩
              rw [hm6] at e6
              subst e6
              have HB6 := Lib.hid b6
              have HRS := Lib.hid (show RowV (wr.setCell ⟨g, vs.length, none⟩ (.slice a6 m6 c6)) g 27 ((vs ++ [.slice a6 m6 c6]) ++ List.replicate (nn - (vs ++ [Value.slice a6 m6 c6]).length) (.slice none 0 0)) by
                have := hrow.out.set vs.length (.slice a6 m6 c6)
                rw [List.set_append_right _ _ (Nat.le_refl _), Nat.sub_self, show nn - vs.length = (nn - (vs.length + 1)) + 1 by omega, List.replicate_succ, List.set_cons_zero] at this
                rw [List.append_assoc, List.length_append]
                exact this)
              have HXS := Lib.hid (show Ext w (wr.setCell ⟨g, vs.length, none⟩ (.slice a6 m6 c6)) from ⟨HX5.out.below.setCell (by rw [HG.out]; exact Nat.le_refl _) _⟩)
              have HVN := Lib.hid (show ∀ i_1 (h : i_1 < (vs ++ [Value.slice a6 m6 c6]).length) (h' : i_1 < (D ++ [part l fs i]).length), Bs w (vs ++ [Value.slice a6 m6 c6])[i_1] (D ++ [part l fs i])[i_1] by
                intro q hq hq'
                by_cases hqv : q < vs.length
                · rw [List.getElem_append_left hqv, List.getElem_append_left (by rw [← hvl.out]; exact hqv)]
                  exact hvb.out q hqv _
                · have hqe : q = vs.length := by simp at hq; omega
                  subst hqe
                  have e1 : (vs ++ [Value.slice a6 m6 c6])[vs.length] = .slice a6 m6 c6 := by simp
                  have e2 : (D ++ [part l fs i])[vs.length] = part l fs i := by
                    have : (D ++ [part l fs i])[vs.length]? = some (part l fs i) := by rw [hvl.out]; simp
                    exact (List.getElem?_eq_some_iff.1 this).2
                  rw [e1, e2]
                  exact HB6.out)
              clear b6 hm6
              go_wp2_with fail
              clear g2 g3 c0 hTx
              obtain ⟨w7, hw7⟩ : ∃ w7, wr.setCell ⟨g, vs.length, none⟩ (.slice a6 m6 c6) = w7 := ⟨_, rfl⟩
              rw [hw7] at HRS HXS ⊢
              clear hw7
              go_loopg [12] (l.length - (i + 1)) (fun gg s12 wx => w7 = wx ∧ ∃ j : Nat, i + 1 ≤ j ∧ j + gg = l.length ∧ s12 = .int .i64 (j : Int) ∧ Lib.fieldsGo [] (l.drop j) = Lib.fieldsGo [] (l.drop (i + 1)))
              case atStart => exact ⟨rfl, i + 1, Nat.le_refl _, by omega, by go_num, rfl⟩
              case round =>
                obtain ⟨rfl, j, hij, hj, rfl, hfj⟩ := hrel
                have HJ := Lib.hid hfj
                have HJJ := Lib.hid hj
                clear hfj HX hx128 hxz hsx
                by_cases hjn : j < l.length
                · have hgj : 0 < gk := by omega
                  have i2 : (j : Int) < (l.length : Int) := by omega
                  obtain ⟨b', o', ha', c0⟩ := HC.out j hjn
                  injection ha' with ha'
                  injection ha' with hb1 ho1 _
                  subst hb1 ho1
                  replace c0 := HXS.out.cell c0
                  obtain ⟨x, hx⟩ : ∃ x, l[j] = x := ⟨_, rfl⟩
                  rw [hx] at c0
                  have hx128 : x.toNat < 128 := by rw [← hx]; exact HA.out _ (List.getElem_mem hjn)
                  have hxz : (x.toNat : Int) < 256 := by omega
                  have hTx := (HW.out.ext HXS.out).at x
                  have HX := Lib.hid (show l[j]? = some x by rw [List.getElem?_eq_getElem hjn, hx])
                  clear hx hj
                  cases hsx : Lib.isSp x <;> rw [hsx] at hTx <;> simp only [if_true, Bool.false_eq_true, if_false] at hTx
                  · go_wp2_with fail
                    go_roundg gk
                    case measure => have h1 := HI.out; have h2 := HJJ.out; omega
                    case rel => exact ⟨vs ++ [.slice a6 m6 c6], D ++ [part l fs i], j, j, by simp, rfl, rfl, Nat.le_refl _, HJJ.out, Lib.hid (by simp [hvl.out]), HVN, HRS, HXS.out, by rw [Lib.piece_nil, HJ.out]; exact HIV.out, fun _ y hy => by rw [HX.out] at hy; cases hy; exact hsx⟩
                  · go_wp2_with fail
                    go_roundg (gk - 1)
                    case measure => omega
                    case rel => exact ⟨rfl, j + 1, by omega, by have := HJJ.out; omega, by go_num, by rw [← HJ.out, Lib.drop_at HX.out, Lib.fieldsGo_sp _ _ hsx]⟩
                · have hje : j = l.length := by omega
                  subst hje
                  clear hj
                  go_wp2_with fail
                  go_roundg 0
                  case measure => omega
                  case rel => exact ⟨vs ++ [.slice a6 m6 c6], D ++ [part l fs i], l.length, l.length, by simp, rfl, rfl, Nat.le_refl _, by omega, Lib.hid (by simp [hvl.out]), HVN, HRS, HXS.out, by rw [Lib.piece_nil, HJ.out]; exact HIV.out, fun _ y hy => by rw [List.getElem?_eq_none (by omega)] at hy; cases hy⟩
          · have hie : i = l.length := by omega
            subst hie
            rw [List.drop_length] at hinv
            clear hside hi
            by_cases hfl : fs < l.length
            · have i2 : (fs : Int) < (l.length : Int) := by omega
              have hne := Lib.piece_ne (l := l) hfl (Nat.le_refl _)
              have hemp : ((l.drop fs).take (l.length - fs)).isEmpty = false := by simpa using hne
              have hinv2 : D ++ [part l fs l.length] = Lib.fields l := by rw [← hinv, Lib.fieldsGo, hemp, part_piece]; simp
              have hdN : vs.length < nn := by
                have := congrArg List.length hinv2
                rw [HN.out] at this
                simp at this
                have := hvl.out
                omega
              have hdN2 : vs.length + 1 = nn := by
                have := congrArg List.length hinv2
                rw [HN.out] at this
                simp at this
                have := hvl.out
                omega
              have hdz : ((vs.length : Nat) : Int) < (nn : Int) := by omega
              have HIV := Lib.hid hinv2
              have g2 : wr.cell? ⟨g, vs.length, none⟩ = some (.slice none 0 0) := by
                have := hrow.out.cell vs.length (by simp; omega)
                rw [this]
                simp [List.getElem_append_right]
              have g3 := hrow.out.frozen vs.length
              clear hinv hne hemp hinv2
              go_wp2_with (refine wpList_subLHMW rfl 27 _ _ _ _ rfl 5 Tryd.underlying27 info_u8' _ _ w rfl HB.out _ _ _ _ _ rfl rfl rfl fs l.length rfl rfl (by omega) (by omega) ?_)
              intro v6 b6
              obtain ⟨a6, c6, e6, _, _⟩ := b6.shape
              obtain ⟨m6, hm6⟩ : ∃ m6, (part l fs l.length).length = m6 := ⟨_, rfl⟩
              rw [hm6] at e6
              subst e6
              have HB6 := Lib.hid b6
              have HRS := Lib.hid (show RowV (wr.setCell ⟨g, vs.length, none⟩ (.slice a6 m6 c6)) g 27 (vs ++ [.slice a6 m6 c6]) by
                have := hrow.out.set vs.length (.slice a6 m6 c6)
                rw [List.set_append_right _ _ (Nat.le_refl _), Nat.sub_self, show nn - vs.length = 0 + 1 by omega, List.replicate_succ, List.set_cons_zero] at this
                simpa using this)
              have HXS := Lib.hid (show Ext w (wr.setCell ⟨g, vs.length, none⟩ (.slice a6 m6 c6)) from ⟨HX5.out.below.setCell (by rw [HG.out]; exact Nat.le_refl _) _⟩)
              clear b6 hm6
              go_wp2_with fail
              go_ret
              have hL : fieldsB wsP l = D ++ [part l fs l.length] := by rw [HF.out, HIV.out]
              have hn1 : (fieldsB wsP l).length = nn := by rw [HF.out]; exact HN.out
              refine ⟨_, rfl, ⟨vs ++ [.slice a6 m6 c6], ⟨by rw [hn1]; simp; omega, some ⟨g, 0, none⟩, nn, by rw [hn1]; rfl, by rw [hn1]; exact Nat.le_refl _, by unfold maxLen; omega, .inr ⟨g, 0, rfl, fun i hi => by rw [Nat.zero_add]; exact HRS.out.cell i hi⟩⟩, fun q hq hq' => ?_⟩, HXS.out⟩
              have e0 : (fieldsB wsP l)[q] = (D ++ [part l fs l.length])[q]'(by rw [← hL]; exact hq) := by
                have : (fieldsB wsP l)[q]? = (D ++ [part l fs l.length])[q]? := by rw [hL]
                rw [List.getElem?_eq_getElem hq, List.getElem?_eq_getElem (by rw [← hL]; exact hq)] at this
                exact Option.some.inj this
              rw [e0]
              by_cases hqv : q < vs.length
              · rw [List.getElem_append_left hqv, List.getElem_append_left (by rw [← hvl.out]; exact hqv)]
                exact (hvb.out q hqv _).ext HXS.out
              · have hqe : q = vs.length := by simp at hq'; omega
                subst hqe
                have e1 : (vs ++ [Value.slice a6 m6 c6])[vs.length] = .slice a6 m6 c6 := by simp
                have e2 : ∀ h, (D ++ [part l fs l.length])[vs.length]'h = part l fs l.length := by
                  intro h
                  have : (D ++ [part l fs l.length])[vs.length]? = some (part l fs l.length) := by rw [hvl.out]; simp
                  exact (List.getElem?_eq_some_iff.1 this).2
                rw [e1, e2]
                exact HB6.out.ext HXS.out
            · have hfe : fs = l.length := by omega
              subst hfe
              have hinv2 : D = Lib.fields l := by rw [← hinv, Lib.piece_nil]; simp [Lib.fieldsGo]
              have hdN2 : vs.length = nn := by
                have := congrArg List.length hinv2
                rw [HN.out] at this
                have := hvl.out
                omega
              have HIV := Lib.hid hinv2
              clear hinv hinv2
              go_wp2_with fail
              go_ret
              have hL : fieldsB wsP l = D := by rw [HF.out, HIV.out]
              have hn1 : (fieldsB wsP l).length = nn := by rw [HF.out]; exact HN.out
              have hr := hrow.out
              rw [hdN2, Nat.sub_self, List.replicate_zero, List.append_nil] at hr
              refine ⟨_, rfl, ⟨vs, ⟨by rw [hn1, hdN2]; omega, some ⟨g, 0, none⟩, nn, by rw [hn1]; rfl, by rw [hn1]; exact Nat.le_refl _, by unfold maxLen; omega, .inr ⟨g, 0, rfl, fun i hi => by rw [Nat.zero_add]; exact hr.cell i hi⟩⟩, fun q hq hq' => ?_⟩, HX5.out⟩
              subst hL
              exact (hvb.out q hq' hq).ext HX5.out
end Go.Proofs.YthbfdajbajijeaaDoor

/- impl.Fields, spec.Fields, spec.FieldsSeq. -/
namespace Go.Proofs.YthbfdajbajijeaaDoor
open Go.RowKit

set_option maxRecDepth 100000 in
theorem impl_Fields (sv : Value) (l : List UInt8) (w : World) (hb : Bs w sv l) (h : White w) (hT : Tabs w) (hl : l.length ≤ 1099511627776) :
    Calls Tryd.prog 18 #[sv] w (RetOwnL w (fieldsB wsP l)) := by
  have hlen := fieldsB_len wsP l
  go_enter Tryd.func18, Tryd.ntmps18
  go_wp2_with (go_at_call 43; refine (bytes_Fields sv l _ hb h hT hl).mono ?_)
  rintro _ w1 ⟨v1, rfl, b1, x1⟩
  go_wp2_with (go_at_call 42; refine (impl_freshAll v1 _ _ b1 (by omega) (fields_each _ l hl)).mono ?_)
  rintro _ w2 ⟨v2, rfl, o2, x2⟩
  go_wp2_with fail
  go_ret
  exact ⟨_, rfl, o2.mono x1.size (Nat.le_refl _), x1.trans x2⟩
set_option maxRecDepth 100000 in
theorem spec_TextFields (s : ByteArray) (w : World) (hs : s.size ≤ 1099511627776) :
    Calls Tryd.prog 54 #[.string s] w (RetSs w (fieldsB wsP s.data.toList)) := by
  rw [← holds_blank']
  have cB := fun W => spec_blank W
  obtain ⟨rs, hrs⟩ : ∃ rs, blankR 12289 = rs := ⟨_, rfl⟩
  simp only [hrs] at cB ⊢
  clear hrs
  go_enter Tryd.func54, Tryd.ntmps54
  go_wp2_with (go_at_call 63; refine (cB _).mono ?_)
  rintro _ w1 ⟨v1, rfl, i1, x1⟩
  obtain ⟨a1, c1, rfl, _, _, _⟩ := i1.raw
  go_wp2_with (go_at_call 67; refine (spec_runs s _ rs false _ hs i1).mono ?_)
  rintro _ w2 ⟨v2, rfl, o2, x2⟩
  go_wp2_with fail
  go_ret
  exact ⟨_, rfl, vs_of_owns o2, x1.trans x2⟩
set_option maxRecDepth 100000 in
theorem spec_Fields (sv : Value) (l : List UInt8) (w : World) (hl : l.length ≤ 1099511627776) (hb : Bs w sv l) :
    Calls Tryd.prog 34 #[sv] w (RetOwnL w (fieldsB wsP l)) := by
  have hlen := fieldsB_len wsP l
  go_enter Tryd.func34, Tryd.ntmps34
  go_wp2_with (first | refine wpList_toString rfl 27 9 _ rfl 5 Tryd.underlying27 Tryd.underlying5 Tryd.underlying9 _ _ rfl hb ?_ | (go_at_call 54; refine (spec_TextFields ⟨l.toArray⟩ _ hl).mono ?_))
  rintro _ w1 ⟨v1, rfl, s1, x1⟩
  have s1 : Ss w1 v1 (fieldsB wsP l) := s1
  go_wp2_with (go_at_call 50; refine (spec_copies v1 _ _ s1 (by omega) (fields_each _ l hl)).mono ?_)
  rintro _ w2 ⟨v2, rfl, o2, x2⟩
  go_wp2_with fail
  go_ret
  exact ⟨_, rfl, o2.mono x1.size (Nat.le_refl _), x1.trans x2⟩
set_option maxRecDepth 100000 in
theorem spec_TextFieldsSeq (s : ByteArray) (w : World) (hs : s.size ≤ 1099511627776) :
    Calls Tryd.prog 51 #[.string s] w (RetSs w (fieldsB wsP s.data.toList)) := by
  rw [← holds_blank']
  have cB := fun W => spec_blank W
  obtain ⟨rs, hrs⟩ : ∃ rs, blankR 12289 = rs := ⟨_, rfl⟩
  simp only [hrs] at cB ⊢
  clear hrs
  go_enter Tryd.func51, Tryd.ntmps51
  go_wp2_with (go_at_call 63; refine (cB _).mono ?_)
  rintro _ w1 ⟨v1, rfl, i1, x1⟩
  obtain ⟨a1, c1, rfl, _, _, _⟩ := i1.raw
  go_wp2_with (go_at_call 67; refine (spec_runs s _ rs false _ hs i1).mono ?_)
  rintro _ w2 ⟨v2, rfl, o2, x2⟩
  go_wp2_with fail
  go_ret
  exact ⟨_, rfl, vs_of_owns o2, x1.trans x2⟩
set_option maxRecDepth 100000 in
theorem spec_FieldsSeq (sv : Value) (l : List UInt8) (w : World) (hl : l.length ≤ 1099511627776) (hb : Bs w sv l) :
    Calls Tryd.prog 26 #[sv] w (RetOwnL w (fieldsB wsP l)) := by
  have hlen := fieldsB_len wsP l
  go_enter Tryd.func26, Tryd.ntmps26
  go_wp2_with (first | refine wpList_toString rfl 27 9 _ rfl 5 Tryd.underlying27 Tryd.underlying5 Tryd.underlying9 _ _ rfl hb ?_ | (go_at_call 51; refine (spec_TextFieldsSeq ⟨l.toArray⟩ _ hl).mono ?_))
  rintro _ w1 ⟨v1, rfl, s1, x1⟩
  have s1 : Ss w1 v1 (fieldsB wsP l) := s1
  go_wp2_with (go_at_call 50; refine (spec_copies v1 _ _ s1 (by omega) (fields_each _ l hl)).mono ?_)
  rintro _ w2 ⟨v2, rfl, o2, x2⟩
  go_wp2_with fail
  go_ret
  exact ⟨_, rfl, o2.mono x1.size (Nat.le_refl _), x1.trans x2⟩
end Go.Proofs.YthbfdajbajijeaaDoor
