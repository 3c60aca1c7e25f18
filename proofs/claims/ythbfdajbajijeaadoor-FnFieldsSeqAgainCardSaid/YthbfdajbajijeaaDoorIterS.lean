/- The iterator of bytes.FieldsSeq; impl.FieldsSeq. -/
import Derived.Test.YthbfdajbajijeaaDoorIterF
import Derived.Test.YthbfdajbajijeaaDoorZE
import Derived.Deep.DeepCutAuto
namespace Go.Proofs.YthbfdajbajijeaaDoor
open Go.RowKit Go.Shelf

attribute [local go_sem] Oper.semAt_some

/-- The first byte of a code point: below 128 it is the code point. -/
theorem first_byte (l : List UInt8) (p : Nat) (hp : p < l.length) (c : Nat × Nat) (h : dec (l.drop p) = c) (hx : l[p].toNat < 128) : c = (l[p].toNat, 1) := by
  rw [List.drop_eq_getElem_cons hp, dec_ascii _ _ hx] at h
  exact h.symm

set_option maxRecDepth 100000 in
set_option maxHeartbeats 4000000 in
theorem iter_FieldsSeq (sv : Value) (l : List UInt8) (w : World) (m b1 : Nat) (hb : Bs w sv l) (h : White w) (hT : Tabs w) (_hlim : l.length ≤ 1099511627776)
    (c1 : w.cell? ⟨b1, 0, none⟩ = some sv) :
    IterOK Tryd.prog 68 #[.pointer (some ⟨b1, 0, none⟩)] m w.heap.size (l.length + 1) l.length w (fieldsB wsP l) := by
  intro nn ll J W x0 hE _ hY h0
  refine callsIn_wide.2 ?_
  show Calls Tryd.prog 68 #[.func (.yield ll) #[] #[], .pointer (some ⟨b1, 0, none⟩)] W _
  have hcl := chunks_length l
  obtain ⟨a, c, hsv, hcap, hcm, h3⟩ := id hb
  subst hsv
  have hcc : c ≤ 9223372036854775807 := by unfold maxLen at hcm; omega
  obtain ⟨cs, HCS, HPL, HDE, HPE, HPA, HLA, HPN, HRG⟩ := chunk_facts l
  have hgl : glue cs = l := by rw [← HCS.out]; exact glue_chunks l
  have HGL := Lib.hid hgl
  have HF := Lib.hid (show fieldsB wsP l = (runsC wsP cs).map glue by unfold fieldsB; rw [HCS.out])
  rw [HCS.out] at hcl
  have HI := Lib.hid h
  have HT := Lib.hid hT
  have HBS := Lib.hid hb
  have HY := Lib.hid hY
  have HE := Lib.hid hE
  have H0 := Lib.hid h0
  have HX0 := Lib.hid x0
  have HC := Lib.hid (show ∀ i (h : i < l.length), ∃ b o, a = some ⟨b, o, none⟩ ∧ w.cell? ⟨b, o + i, none⟩ = some (.int .u8 (l[i].toNat : Int)) by
    intro i hi
    rcases h3 with h0 | ⟨b, o, ha, hc⟩
    · rw [h0] at hi; simp at hi
    · exact ⟨b, o, ha, hc i hi⟩)
  clear h hT hb hgl hY hE h0 x0 hcm h3
  go_enter Tryd.func68, Tryd.ntmps68
  go_wp2_with fail
  go_loopg [3, 4] cs.length (fun k f i wr => ∃ (j : Nat) (D : List (List Ch)) (st : Option Nat), j + k = cs.length ∧ i = .int .i64 (placeOf cs j : Int) ∧ f = .int .i64 (fromOf cs st) ∧ RunAt wsP cs j D st ∧ D.length ≤ j ∧ Ext w wr ∧ J (D.map glue) wr)
  case atStart => exact ⟨0, [], none, by omega, rfl, rfl, RunAt.start _ _, Nat.le_refl _, HX0.out, H0.out⟩
  case round =>
    obtain ⟨j, D, st, hj, rfl, rfl, hrun, hDj, hx, hJ⟩ := hrel
    have HJ := Lib.hid hj
    have HR := Lib.hid hrun
    have HX := Lib.hid hx
    have HJJ := Lib.hid hJ
    have d1 := hx.cell c1
    clear hrun hx hJ
    by_cases hlt : j < cs.length
    · have hg : 0 < gk := by omega
      have hpj := HPL.out j hlt
      have hb := HBS.out.ext HX.out
      obtain ⟨hne, hdec⟩ := HDE.out j hlt
      have hpe := HPE.out j hlt
      have hle := HPN.out (j + 1)
      have hrg := HRG.out j hlt
      obtain ⟨p, hp⟩ : ∃ p, placeOf cs j = p := ⟨_, rfl⟩
      rw [hp] at hpj hne hdec hpe ⊢
      have HPJ := Lib.hid hp
      have HPE2 := Lib.hid hpe
      have hsum : p + cs[j].bs.length ≤ l.length := by omega
      have HFB := Lib.hid (fun hx => first_byte l p hpj _ hdec hx)
      obtain ⟨bb, oo, ha, c0⟩ := HC.out p hpj
      subst ha
      replace c0 := HX.out.cell c0
      obtain ⟨x, hx⟩ : ∃ x, l[p] = x := ⟨_, rfl⟩
      rw [hx] at c0 HFB
      have hxl : x.toNat < 256 := x.toNat_lt
      have hxz : (x.toNat : Int) < 256 := by omega
      have i1 : (p : Int) < (l.length : Int) := by omega
      have hTx := (HI.out.ext HX.out).at x
      obtain ⟨t, ht⟩ : ∃ t : Int, (if Lib.isSp x = true then (1 : Int) else 0) = t := ⟨_, rfl⟩
      rw [ht] at hTx
      have HTQ := Lib.hid (show (t != 0) = Lib.isSp x by rw [← ht]; cases Lib.isSp x <;> rfl)
      obtain ⟨r, hr⟩ : ∃ r : Nat, cs[j].r = r := ⟨_, rfl⟩
      obtain ⟨n1, hn1⟩ : ∃ n1 : Nat, cs[j].bs.length = n1 := ⟨_, rfl⟩
      rw [hr, hn1] at hdec HFB hrg
      rw [hn1] at hsum HPE2
      have HRR := Lib.hid hr
      clear hj hp hx ht hpe hr hn1
      go_upto_if 25 with fail
      go_cut [5, 6, 7] (fun s5 _ s7 wx => s5 = .int .i64 (n1 : Int) ∧ s7 = .bool (wsP (r : Int)) ∧ Ext wr wx)
      case first =>
        by_cases h128 : x.toNat < 128
        · have hn : ¬ (128 : Int) ≤ (x.toNat : Int) := by omega
          have hc := HFB.out h128
          injection hc with hc1 hc2
          subst hc2
          have HQ := Lib.hid (show (t != 0) = wsP (r : Int) by rw [HTQ.out, hc1]; exact isSp_ws x h128)
          clear hdec hne hb hc1
          go_wp2_with fail
          go_meet
          exact ⟨rfl, by rw [HQ.out], Ext.refl _⟩
        · have hn : (128 : Int) ≤ (x.toNat : Int) := by omega
          go_wp2_with (refine wpList_subL rfl 27 _ _ rfl 5 Tryd.underlying27 info_u8' _ _ rfl hb _ _ rfl p rfl (by omega) ?_)
          intro v2 b2' _
          go_wp2_with (go_at_call 60; refine (utf8_DecodeRune v2 _ _ b2' hne (HT.out.ext HX.out)).mono ?_)
          rintro _ w2 ⟨rfl, x2⟩
          rw [hdec]
          have cH := unicode_IsSpace r w2 (HI.out.ext (HX.out.trans x2)) hrg.2.2
          clear hdec hne hb b2'
          go_wp2_with (go_at_call 57; refine cH.mono ?_)
          rintro _ w3 ⟨rfl, x3⟩
          go_wp2_with fail
          go_meet
          exact ⟨rfl, rfl, x2.trans x3⟩
      case rest =>
        obtain ⟨rfl, rfl, xx⟩ := hcut
        obtain ⟨w3, hw3⟩ : ∃ w3, w3 = wc := ⟨_, rfl⟩
        subst hw3
        replace d1 := xx.cell d1
        have HXX := Lib.hid xx
        clear c0 hTx hdec hne hb
        cases hh : wsP (r : Int)
        · cases st with
          | none =>
            have HR2 := Lib.hid (HR.out.opens hlt (by rw [HRR.out]; exact hh))
            have hfr : fromOf cs none = -1 := rfl
            rw [hfr]
            clear hh hfr
            go_wp2_with fail
            go_roundg (gk - 1)
            case measure => omega
            case rel => exact ⟨j + 1, D, some j, by have := HJ.out; omega, by rw [← HPE2.out]; go_num, by show _ = Value.int .i64 ((placeOf cs j : Nat) : Int); rw [HPJ.out], HR2.out, by omega, HX.out.trans HXX.out, HE.out _ _ _ HJJ.out HXX.out⟩
          | some s0 =>
            have HR2 := Lib.hid (HR.out.goes hlt (by rw [HRR.out]; exact hh))
            have hfr : fromOf cs (some s0) = (placeOf cs s0 : Int) := rfl
            rw [hfr]
            clear hh hfr
            go_wp2_with fail
            go_roundg (gk - 1)
            case measure => omega
            case rel => exact ⟨j + 1, D, some s0, by have := HJ.out; omega, by rw [← HPE2.out]; go_num, rfl, HR2.out, by omega, HX.out.trans HXX.out, HE.out _ _ _ HJJ.out HXX.out⟩
        · cases st with
          | none =>
            have HR2 := Lib.hid (HR.out.sep hlt (by rw [HRR.out]; exact hh))
            have hfr : fromOf cs none = -1 := rfl
            rw [hfr]
            clear hh hfr
            go_wp2_with fail
            go_roundg (gk - 1)
            case measure => omega
            case rel => exact ⟨j + 1, D, none, by have := HJ.out; omega, by rw [← HPE2.out]; go_num, rfl, HR2.out, by omega, HX.out.trans HXX.out, HE.out _ _ _ HJJ.out HXX.out⟩
          | some s0 =>
            have HR2 := Lib.hid (HR.out.shut hlt (by rw [HRR.out]; exact hh))
            have hsj := HR.out.2 s0 rfl
            have hpm := place_mono cs (Nat.le_of_lt hsj)
            have HGP := Lib.hid (glue_part HGL.out s0 j)
            have hfr : fromOf cs (some s0) = (placeOf cs s0 : Int) := rfl
            rw [hfr]
            rw [HPJ.out] at hpm HGP
            obtain ⟨pa, hpa⟩ : ∃ pa, placeOf cs s0 = pa := ⟨_, rfl⟩
            rw [hpa] at hpm HGP ⊢
            have hx3 := HX.out.trans HXX.out
            clear hh hfr hpa hsj
            go_upto_region 11 with fail
            refine (wpIn_wide (n := nn)).1 ?_
            gi_wp2_with (refine wpListIn_subLHM rfl 27 _ _ _ _ rfl 5 Tryd.underlying27 info_u8' _ _ _ rfl (HBS.out.ext hx3) _ _ _ _ _ rfl rfl rfl pa p rfl rfl hpm (by omega) ?_)
            intro v4 b4
            obtain ⟨fn, tmps, assign, body, hy, hR⟩ := HY.out (D.map glue) v4 _ w3 (HE.out _ _ _ HJJ.out HXX.out) b4 (by simp [part]; omega) (by rw [List.length_map]; omega)
            clear HY HRG HPL HDE HPN HLA
            gi_wp2
            refine ⟨fun hd => Bool.noConfusion hd, hR.mono ?_⟩
            rintro e W3 ⟨rfl, hJ3, hB3⟩
            have hx4 : Ext w W3 := ⟨hx3.below.trans hB3⟩
            gi_wp2
            go_wp2_with fail
            go_roundg (gk - 1)
            case measure => omega
            case rel => exact ⟨j + 1, D ++ [(cs.take j).drop s0], none, by have := HJ.out; omega, by rw [← HPE2.out]; go_num, rfl, HR2.out, by rw [List.length_append, List.length_singleton]; omega, hx4, by rw [List.map_append, List.map_singleton, HGP.out]; exact hJ3⟩
    · have hje : j = cs.length := by omega
      subst hje
      have hpl : placeOf cs cs.length = l.length := HPA.out
      rw [hpl]
      clear hj
      cases st with
      | none =>
        have HD := Lib.hid HR.out.done
        have hfr : fromOf cs none = -1 := rfl
        rw [hfr]
        go_wp2_with fail
        go_end0
        exact ⟨⟨_, rfl⟩, by rw [HF.out, HD.out]; exact HJJ.out⟩
      | some s0 =>
        have HD := Lib.hid HR.out.done'
        have hpl2 := HPN.out s0
        have HGP := Lib.hid (show glue (cs.drop s0) = part l (placeOf cs s0) l.length by rw [glue_drop, HGL.out]; simp [part])
        have hfr : fromOf cs (some s0) = (placeOf cs s0 : Int) := rfl
        rw [hfr]
        obtain ⟨pa, hpa⟩ : ∃ pa, placeOf cs s0 = pa := ⟨_, rfl⟩
        rw [hpa] at hpl2 HGP ⊢
        clear hpa hfr
        go_upto_region 17 with fail
        refine (wpIn_wide (n := nn)).1 ?_
        gi_wp2_with (refine wpListIn_subLHM rfl 27 _ _ _ _ rfl 5 Tryd.underlying27 info_u8' _ _ _ rfl (HBS.out.ext HX.out) _ _ _ _ _ rfl rfl rfl pa l.length rfl rfl hpl2 (by omega) ?_)
        intro v4 b4
        obtain ⟨fn, tmps, assign, body, hy, hR⟩ := HY.out (D.map glue) v4 _ wr HJJ.out b4 (by simp [part]) (by rw [List.length_map]; omega)
        clear HY HRG HPL HDE HPE HPN HLA
        gi_wp2
        refine ⟨fun hd => Bool.noConfusion hd, hR.mono ?_⟩
        rintro e W3 ⟨rfl, hJ3, hB3⟩
        gi_wp2
        go_wp2_with fail
        go_end0
        exact ⟨⟨_, rfl⟩, by rw [HF.out, HD.out, List.map_append, List.map_singleton, HGP.out]; exact hJ3⟩

/-- A call's answer: the iterator over one captured variable. -/
def RetSeq1 (gf : Nat) (w : World) (u1 : Value) (e : Ending) (w' : World) : Prop := ∃ b1, e = .returned (.func (.func gf) #[] #[.pointer (some ⟨b1, 0, none⟩)]) ∧ Ext w w' ∧ w'.cell? ⟨b1, 0, none⟩ = some u1

set_option maxRecDepth 100000 in
theorem bytes_FieldsSeq (a : Option Addr) (k c : Nat) (w : World) :
    Calls Tryd.prog 53 #[.slice a k c] w (RetSeq1 68 w (.slice a k c)) := by
  go_enter Tryd.func53, Tryd.ntmps53
  go_wp2_with fail
  go_ret
  refine ⟨_, rfl, Ext.alloc _ _, ?_⟩
  rw [World.cell?_alloc_mark]; rfl

set_option maxRecDepth 100000 in
theorem impl_FieldsSeq (sv : Value) (l : List UInt8) (w : World) (hb : Bs w sv l) (h : White w) (hT : Tabs w) (hlim : l.length ≤ 1099511627776) :
    Calls Tryd.prog 28 #[sv] w (RetOwnL w (fieldsB wsP l)) := by
  obtain ⟨a', c', hsv, hcap, hcm⟩ := hb.shape
  subst hsv
  go_enter Tryd.func28, Tryd.ntmps28
  go_wp2_with (go_at_call 53; refine (bytes_FieldsSeq _ _ _ _).mono ?_)
  rintro _ w1 ⟨b1, rfl, X, c1⟩
  have HC := iter_FieldsSeq _ l w1 w1.heap.size b1 (hb.ext X) (h.ext X) (hT.ext X) hlim c1
  have HG := impl_gathered 68 _ (fun _ _ => rfl) w1 w1.heap.size _ _ (Nat.le_refl _) _ HC (by omega) (by omega)
  clear HC c1
  go_wp2_with (go_at_call 52; refine HG.mono ?_)
  rintro _ w2 ⟨v2, rfl, o2, B2⟩
  go_wp2_with fail
  go_ret
  exact ⟨_, rfl, o2.mono X.size (Nat.le_refl _), X.trans ⟨B2⟩⟩
end Go.Proofs.YthbfdajbajijeaaDoor
