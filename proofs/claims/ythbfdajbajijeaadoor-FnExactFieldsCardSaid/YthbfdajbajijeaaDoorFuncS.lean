/- The walks of bytes.indexFunc and its kin over unicode.IsSpace. Printed by funcs.py. -/
import Derived.Test.YthbfdajbajijeaaDoorSpace
import Derived.Test.YthbfdajbajijeaaDoorFuncW2
namespace Go.Proofs.YthbfdajbajijeaaDoor
open Go.RowKit

set_option maxRecDepth 100000 in
theorem bytes_indexFuncS (sv : Value) (l : List UInt8)  (truth : Bool) (w : World) (hb : Bs w sv l) (h : White w) (hT : Tabs w) :
    Calls Tryd.prog 72 #[sv, .func (.func 57) #[] #[], .bool truth] w (RetV (.int .i64 (idxC (wsP) truth (chunks l))) w) := by
  have hlen := hb.len
  obtain ⟨a, c, hsv, hcap, hcm⟩ := hb.shape
  subst hsv
  obtain ⟨cs, HCS, HPL, HDE, HPE, HPA, HLA, HPN, HRG⟩ := chunk_facts l
  have HI := Lib.hid h
  have HT := Lib.hid hT
  have HBS := Lib.hid hb
  clear h hT hb
  go_enter Tryd.func72, Tryd.ntmps72
  go_wp2_with fail
  go_loopg [7] cs.length (fun k i wr => ∃ j : Nat, j + k = cs.length ∧ i = .int .i64 (placeOf cs j : Int) ∧ (∀ c ∈ cs.take j, (wsP c.r == truth) = false) ∧ Ext w wr)
  case atStart => exact ⟨0, by omega, rfl, by simp, Ext.refl _⟩
  case round =>
    obtain ⟨j, hj, rfl, hn, hx⟩ := hrel
    have HN := Lib.hid hn
    have HJ := Lib.hid hj
    have HX := Lib.hid hx
    clear hn hx
    by_cases hlt : j < cs.length
    · have hg : 0 < gk := by omega
      have hpj := HPL.out j hlt
      have hb := HBS.out.ext HX.out
      obtain ⟨hne, hdec⟩ := HDE.out j hlt
      have hpe := HPE.out j hlt
      have hle := HPN.out (j + 1)
      obtain ⟨p, hp⟩ : ∃ p, placeOf cs j = p := ⟨_, rfl⟩
      rw [hp] at hpj hne hdec hpe ⊢
      have HPJ := Lib.hid hp
      have HPE2 := Lib.hid hpe
      have hsum : p + cs[j].bs.length ≤ l.length := by omega
      clear hj hp
      go_wp2_with (refine wpList_subL rfl 27 _ _ rfl 5 Tryd.underlying27 info_u8' _ _ rfl hb _ _ rfl p rfl (by omega) ?_)
      intro v2 b2 _
      go_wp2_with (go_at_call 60; refine (utf8_DecodeRune v2 _ _ b2 hne (HT.out.ext HX.out)).mono ?_)
      rintro _ w2 ⟨rfl, x2⟩
      rw [hdec]
      have HX2 := Lib.hid (HX.out.trans x2)
      have cH := unicode_IsSpace (hr := (HRG.out j hlt).2.2) cs[j].r w2 (HI.out.ext HX2.out)
      clear x2 b2 hb hdec hne hpe
      cases hh : (wsP cs[j].r)
      · rw [hh] at cH
        cases truth
        · go_wp2_with (go_at_call 57; refine cH.mono ?_; rintro _ w3 ⟨rfl, x3⟩)
          go_ret
          refine ⟨?_, HX2.out.trans x3⟩
          rw [HCS.out]
          unfold idxC
          rw [firstC_at _ cs 0 j hlt HN.out (by rw [hh]; rfl), Nat.zero_add, HPJ.out]
          rfl
        · go_wp2_with (go_at_call 57; refine cH.mono ?_; rintro _ w3 ⟨rfl, x3⟩)
          go_roundg (gk - 1)
          case measure => omega
          case rel =>
            refine ⟨j + 1, by have := HJ.out; omega, ?_, take_snoc_all (p := fun r => wsP r == true) hlt HN.out (by rw [hh]; rfl), HX2.out.trans x3⟩
            rw [← HPE2.out]
            go_num
      · rw [hh] at cH
        cases truth
        · go_wp2_with (go_at_call 57; refine cH.mono ?_; rintro _ w3 ⟨rfl, x3⟩)
          go_roundg (gk - 1)
          case measure => omega
          case rel =>
            refine ⟨j + 1, by have := HJ.out; omega, ?_, take_snoc_all (p := fun r => wsP r == false) hlt HN.out (by rw [hh]; rfl), HX2.out.trans x3⟩
            rw [← HPE2.out]
            go_num
        · go_wp2_with (go_at_call 57; refine cH.mono ?_; rintro _ w3 ⟨rfl, x3⟩)
          go_ret
          refine ⟨?_, HX2.out.trans x3⟩
          rw [HCS.out]
          unfold idxC
          rw [firstC_at _ cs 0 j hlt HN.out (by rw [hh]; rfl), Nat.zero_add, HPJ.out]
          rfl
    · have hje : j = cs.length := by omega
      subst hje
      have hpl : placeOf cs cs.length = l.length := HPA.out
      rw [hpl]
      clear hj
      go_wp2_with fail
      go_ret
      refine ⟨?_, HX.out⟩
      rw [HCS.out]
      unfold idxC
      rw [firstC_none _ cs 0 (by have := HN.out; rwa [List.take_length] at this)]
      rfl


set_option maxRecDepth 100000 in
set_option maxHeartbeats 2000000 in
theorem bytes_lastIndexFuncS (sv : Value) (l : List UInt8)  (truth : Bool) (w : World) (hb : Bs w sv l) (h : White w) (hT : Tabs w) :
    Calls Tryd.prog 71 #[sv, .func (.func 57) #[] #[], .bool truth] w (RetV (.int .i64 (lidxC (wsP) truth (chunks l))) w) := by
  have hlen := hb.len
  obtain ⟨a, c, hsv, hcap, hcm⟩ := hb.shape
  subst hsv
  obtain ⟨cs, HCS, HPL, HDE, HPE, HPA, HLA, HPN, HRG⟩ := chunk_facts l
  have HI := Lib.hid h
  have HT := Lib.hid hT
  have HBS := Lib.hid hb
  clear h hT hb
  go_enter Tryd.func71, Tryd.ntmps71
  go_wp2_with fail
  go_loopg [7] cs.length (fun k i wr => k ≤ cs.length ∧ i = .int .i64 (placeOf cs k : Int) ∧ (∀ c ∈ cs.drop k, (wsP c.r == truth) = false) ∧ Ext w wr)
  case atStart => exact ⟨Nat.le_refl _, by rw [HPA.out], by simp, Ext.refl _⟩
  case round =>
    obtain ⟨hk, rfl, hn, hx⟩ := hrel
    have HN := Lib.hid hn
    have HX := Lib.hid hx
    clear hn hx
    rcases Nat.eq_zero_or_pos gk with h0 | h0
    · subst h0
      have hp0 : placeOf cs 0 = 0 := rfl
      rw [hp0]
      go_wp2_with fail
      go_ret
      refine ⟨?_, HX.out⟩
      rw [HCS.out]
      unfold lidxC
      rw [lastC_none _ cs 0 (by simpa using HN.out)]
      rfl
    · obtain ⟨j, rfl⟩ : ∃ j, gk = j + 1 := ⟨gk - 1, by omega⟩
      have hlt : j < cs.length := hk
      have hb := HBS.out.ext HX.out
      have hpe := HPE.out j hlt
      have hle := HPN.out (j + 1)
      have hrg := HRG.out j hlt
      have hlast := HLA.out j hlt
      obtain ⟨p, hp⟩ : ∃ p, placeOf cs (j + 1) = p := ⟨_, rfl⟩
      rw [hp] at hpe hle hlast ⊢
      have hp1 : 1 ≤ p := by omega
      have HP0 := Lib.hid (show (p : Int) - (cs[j].bs.length : Int) = (placeOf cs j : Int) by omega)
      have HLT := Lib.hid hlast
      have hdl := decLast hlast
      have htn : l.take p ≠ [] := by
        intro e
        have := congrArg List.length e
        rw [List.length_take, List.length_nil] at this
        omega
      have htl : (l.take p).length = p := by rw [List.length_take]; omega
      obtain ⟨x, hx⟩ : ∃ x, l[p - 1]? = some x := ⟨_, List.getElem?_eq_getElem (by omega)⟩
      have hxg : (l.take p).getD ((l.take p).length - 1) 0 = x := by
        rw [htl, List.getD_eq_getElem?_getD, List.getElem?_take, if_pos (by omega), hx]; rfl
      have hcell : ∃ b o, a = some ⟨b, o, none⟩ ∧ wr.cell? ⟨b, o + (p - 1), none⟩ = some (.int .u8 (x.toNat : Int)) := by
        obtain ⟨a', c', hv, _, _, h3⟩ := hb
        injection hv with hv1 _ _
        rcases h3 with h3 | ⟨b, o, rfl, hc⟩
        · rw [h3] at htn; simp at htn
        · refine ⟨b, o, hv1, ?_⟩
          have hl1 : p - 1 < l.length := by omega
          rw [hc (p - 1) hl1]
          rw [List.getElem?_eq_getElem hl1] at hx
          injection hx with hx
          rw [hx]
      obtain ⟨b, o, rfl, hq⟩ := hcell
      have hxl := x.toNat_lt
      have hpi : ((p : Int) - 1) = ((p - 1 : Nat) : Int) := by omega
      have cH := fun W (y : Ext wr W) => unicode_IsSpace (hr := (HRG.out j hlt).2.2) cs[j].r W (HI.out.ext (HX.out.trans y))
      clear h0 hp hlast htl
      by_cases hasc : x.toNat < 128
      · have hrs : (cs[j].r = x.toNat) ∧ cs[j].bs.length = 1 := by
          unfold Lib.decodeLastL at hdl
          rw [if_neg htn, hxg, if_pos hasc] at hdl
          injection hdl with d1 d2
          exact ⟨d1.symm, d2.symm⟩
        have hr1 : (cs[j].r : Int) = (x.toNat : Int) := by rw [hrs.1]
        have HR2 := Lib.hid (show ((p - 1 : Nat) : Int) = (placeOf cs j : Int) by have := HP0.out; rw [hrs.2] at this; rw [← hpi]; exact this)
        have cH1 := cH wr (Ext.refl _)
        rw [hr1] at cH1
        clear hdl htn hxg hrs cH
        cases hh : (wsP (x.toNat : Int))
        all_goals
          rw [hh] at cH1
          cases truth
        all_goals
          go_wp2_with (go_at_call 57; refine cH1.mono ?_; rintro _ w3 ⟨rfl, x3⟩)
        · go_ret
          refine ⟨?_, HX.out.trans x3⟩
          rw [HCS.out]
          unfold lidxC
          rw [lastC_at _ cs 0 j hlt HN.out (by rw [hr1, hh]; rfl), Nat.zero_add, ← HR2.out]
          rfl
        · go_roundg j
          case measure => omega
          case rel => exact ⟨by omega, by rw [← HR2.out], drop_cons_all (p := fun r => wsP r == true) hlt HN.out (by rw [hr1, hh]; rfl), HX.out.trans x3⟩
        · go_roundg j
          case measure => omega
          case rel => exact ⟨by omega, by rw [← HR2.out], drop_cons_all (p := fun r => wsP r == false) hlt HN.out (by rw [hr1, hh]; rfl), HX.out.trans x3⟩
        · go_ret
          refine ⟨?_, HX.out.trans x3⟩
          rw [HCS.out]
          unfold lidxC
          rw [lastC_at _ cs 0 j hlt HN.out (by rw [hr1, hh]; rfl), Nat.zero_add, ← HR2.out]
          rfl
      · clear hdl htn hxg
        have hps : cs[j].bs.length ≤ p := by omega
        go_wp2_with (refine wpList_subLH rfl 27 _ _ _ rfl 5 Tryd.underlying27 info_u8' _ _ rfl hb _ _ _ _ rfl rfl 0 p rfl rfl (by omega) (by omega) ?_)
        intro v2 b2 _
        have ep : part l 0 p = l.take p := by unfold part; simp
        rw [ep] at b2
        go_wp2_with (go_at_call 80; refine (utf8_DecodeLastRune v2 _ _ b2 _ _ HLT.out (HT.out.ext HX.out)).mono ?_)
        rintro _ w2 ⟨rfl, x2⟩
        have cH1 := cH w2 x2
        have HX2 := Lib.hid (HX.out.trans x2)
        clear b2 ep cH x2 hb
        cases hh : (wsP cs[j].r)
        all_goals
          rw [hh] at cH1
          cases truth
        all_goals
          go_wp2_with (go_at_call 57; refine cH1.mono ?_; rintro _ w3 ⟨rfl, x3⟩)
        · go_ret
          refine ⟨?_, HX2.out.trans x3⟩
          rw [HCS.out]
          unfold lidxC
          rw [lastC_at _ cs 0 j hlt HN.out (by rw [hh]; rfl), Nat.zero_add, ← HP0.out]
          rfl
        · go_roundg j
          case measure => omega
          case rel => exact ⟨by omega, by rw [← HP0.out], drop_cons_all (p := fun r => wsP r == true) hlt HN.out (by rw [hh]; rfl), HX2.out.trans x3⟩
        · go_roundg j
          case measure => omega
          case rel => exact ⟨by omega, by rw [← HP0.out], drop_cons_all (p := fun r => wsP r == false) hlt HN.out (by rw [hh]; rfl), HX2.out.trans x3⟩
        · go_ret
          refine ⟨?_, HX2.out.trans x3⟩
          rw [HCS.out]
          unfold lidxC
          rw [lastC_at _ cs 0 j hlt HN.out (by rw [hh]; rfl), Nat.zero_add, ← HP0.out]
          rfl


set_option maxRecDepth 100000 in
theorem bytes_TrimLeftFuncS (sv : Value) (l : List UInt8)  (w : World) (hb : Bs w sv l) (h : White w) (hT : Tabs w) :
    Calls Tryd.prog 59 #[sv, .func (.func 57) #[] #[]] w (RetB w (glue (trimL (wsP) (chunks l)))) := by
  have cI := bytes_indexFuncS sv l  false w hb h hT
  have hr := firstC_range (fun r => wsP r == false) (chunks l) 0
  change idxC (wsP) false (chunks l) = -1 ∧ _ ∨ ∃ i, ∃ h : i < (chunks l).length, idxC (wsP) false (chunks l) = _ ∧ _ at hr
  have hgl : glue (chunks l) = l := glue_chunks l
  obtain ⟨cs, hcs⟩ : ∃ cs, chunks l = cs := ⟨_, rfl⟩
  rw [hcs] at cI hr hgl ⊢
  rcases hr with ⟨e, hn⟩ | ⟨i, hi, e, hn, hp⟩
  · have HR := Lib.hid (trimL_none (wsP) cs (fun c hc => by have := hn c hc; revert this; cases wsP c.r <;> simp))
    rw [e] at cI
    clear e hn hcs hgl
    go_enter Tryd.func59, Tryd.ntmps59
    go_wp2_with (go_at_call 72; refine cI.mono ?_)
    rintro _ w1 ⟨rfl, x1⟩
    go_wp2_with fail
    go_ret
    exact ⟨_, rfl, by rw [HR.out]; exact Bs.nil _, x1⟩
  · have HR := Lib.hid (show glue (trimL (wsP) cs) = l.drop (placeOf cs i) by
      rw [trimL_at (wsP) cs i hi (fun c hc => by have := hn c hc; revert this; cases wsP c.r <;> simp) (by revert hp; cases wsP cs[i].r <;> simp), glue_drop, hgl])
    have hle : placeOf cs i ≤ l.length := by
      have := placeOf_le cs i
      rwa [hgl] at this
    rw [e, Nat.zero_add] at cI
    have hne : ((placeOf cs i : Int) == -1) = false := by rw [beq_eq_false_iff_ne]; omega
    clear e hn hcs hgl hp
    go_enter Tryd.func59, Tryd.ntmps59
    go_wp2_with (go_at_call 72; refine cI.mono ?_)
    rintro _ w1 ⟨rfl, x1⟩
    replace hb := hb.ext x1
    go_wp2_with (refine wpList_subL rfl 27 _ _ rfl 5 Tryd.underlying27 info_u8' _ _ rfl hb _ _ rfl (placeOf cs i) rfl hle ?_)
    intro v2 b2 _
    go_wp2_with fail
    go_ret
    exact ⟨_, rfl, by rw [HR.out]; exact b2, x1⟩

set_option maxRecDepth 100000 in
theorem bytes_TrimRightFuncS (sv : Value) (l : List UInt8)  (w : World) (hb : Bs w sv l) (h : White w) (hT : Tabs w) :
    Calls Tryd.prog 58 #[sv, .func (.func 57) #[] #[]] w (RetB w (glue (trimR (wsP) (chunks l)))) := by
  have cI := bytes_lastIndexFuncS sv l  false w hb h hT
  have hr := lastC_range (fun r => wsP r == false) (chunks l) 0
  change lidxC (wsP) false (chunks l) = -1 ∧ _ ∨ ∃ i, ∃ h : i < (chunks l).length, lidxC (wsP) false (chunks l) = _ ∧ _ at hr
  have hlen := hb.len
  have hgl : glue (chunks l) = l := glue_chunks l
  obtain ⟨cs, HCS, HPL, HDE, HPE, HPA, HLA, HPN, HRG⟩ := chunk_facts l
  rw [HCS.out] at cI hr hgl ⊢
  rcases hr with ⟨e, hn⟩ | ⟨i, hi, e, hn, hp⟩
  · have HR := Lib.hid (trimR_none (wsP) cs (fun c hc => by have := hn c hc; revert this; cases wsP c.r <;> simp))
    rw [e] at cI
    clear e hn hgl
    go_enter Tryd.func58, Tryd.ntmps58
    go_wp2_with (go_at_call 71; refine cI.mono ?_)
    rintro _ w1 ⟨rfl, x1⟩
    replace hb := hb.ext x1
    go_wp2_with (refine wpList_subLH rfl 27 _ _ _ rfl 5 Tryd.underlying27 info_u8' _ _ rfl hb _ _ _ _ rfl rfl 0 0 rfl rfl (by omega) (by omega) ?_)
    intro v2 b2 _
    go_wp2_with fail
    go_ret
    exact ⟨_, rfl, by rw [HR.out, glue_nil]; simpa [part] using b2, x1⟩
  · have HR := Lib.hid (show glue (trimR (wsP) cs) = l.take (placeOf cs (i + 1)) by
      rw [trimR_at (wsP) cs i hi (fun c hc => by have := hn c hc; revert this; cases wsP c.r <;> simp) (by revert hp; cases wsP cs[i].r <;> simp), glue_take, hgl])
    have hpe := HPE.out i hi
    have hle := HPN.out (i + 1)
    have hlt := HPL.out i hi
    have hrg := HRG.out i hi
    obtain ⟨hne, hdec⟩ := HDE.out i hi
    rw [e, Nat.zero_add] at cI
    obtain ⟨p, hpp⟩ : ∃ p, placeOf cs i = p := ⟨_, rfl⟩
    obtain ⟨p2, hpp2⟩ : ∃ p2, placeOf cs (i + 1) = p2 := ⟨_, rfl⟩
    rw [hpp] at cI hpe hlt hne hdec
    rw [hpp2] at hpe hle HR
    obtain ⟨x, hx⟩ : ∃ x, l[p]? = some x := ⟨_, List.getElem?_eq_getElem hlt⟩
    have hxl := x.toNat_lt
    have hd0 : (l.drop p).getD 0 0 = x := by rw [List.getD_eq_getElem?_getD, List.getElem?_drop, Nat.add_zero, hx]; rfl
    have hasc : x.toNat < 128 → p2 = p + 1 := fun ha => by
      obtain ⟨y, t, hy⟩ : ∃ y t, l.drop p = y :: t := by
        cases hq : l.drop p with
        | nil => exact (hne hq).elim
        | cons y t => exact ⟨y, t, rfl⟩
      rw [hy] at hdec hd0
      simp only [List.getD_cons_zero] at hd0
      subst hd0
      rw [dec_ascii _ t ha] at hdec
      injection hdec with _ h2
      omega
    obtain ⟨a, c, hsv, hcap, hcm, h3⟩ := id hb
    subst hsv
    obtain ⟨b, o, ha, hcell⟩ : ∃ b o, a = some ⟨b, o, none⟩ ∧ w.cell? ⟨b, o + p, none⟩ = some (.int .u8 (x.toNat : Int)) := by
      rcases h3 with h3 | ⟨b, o, ha, hc⟩
      · rw [h3] at hlt; simp at hlt
      · refine ⟨b, o, ha, ?_⟩
        rw [hc p hlt]
        rw [List.getElem?_eq_getElem hlt] at hx
        injection hx with hx
        rw [hx]
    subst ha
    clear e hn hgl hp h3 hx hd0
    go_enter Tryd.func58, Tryd.ntmps58
    go_wp2_with (go_at_call 71; refine cI.mono ?_)
    rintro _ w1 ⟨rfl, x1⟩
    replace hb := hb.ext x1
    replace hcell := x1.cell hcell
    replace hT := hT.ext x1
    by_cases h128 : x.toNat < 128
    · have hp2 := hasc h128
      subst hp2
      clear hasc hdec hne cI hpe
      go_wp2_with (refine wpList_subLH rfl 27 _ _ _ rfl 5 Tryd.underlying27 info_u8' _ _ rfl hb _ _ _ _ rfl rfl 0 (p + 1) rfl (by go_num) (by omega) (by omega) ?_)
      intro v2 b2 _
      go_wp2_with fail
      go_ret
      exact ⟨_, rfl, by rw [HR.out]; simpa [part] using b2, x1⟩
    · clear hasc cI
      have hsum : p + cs[i].bs.length ≤ l.length := by omega
      go_wp2_with (refine wpList_subL rfl 27 _ _ rfl 5 Tryd.underlying27 info_u8' _ _ rfl hb _ _ rfl p rfl (by omega) ?_)
      intro v2 b2 _
      go_wp2_with (go_at_call 60; refine (utf8_DecodeRune v2 _ _ b2 hne hT).mono ?_)
      rintro _ w2 ⟨rfl, x2⟩
      rw [hdec]
      replace hb := hb.ext x2
      clear hdec hne b2
      go_wp2_with (refine wpList_subLH rfl 27 _ _ _ rfl 5 Tryd.underlying27 info_u8' _ _ rfl hb _ _ _ _ rfl rfl 0 p2 rfl (by rw [← hpe]; go_num) (by omega) (by omega) ?_)
      intro v3 b3 _
      go_wp2_with fail
      go_ret
      exact ⟨_, rfl, by rw [HR.out]; simpa [part] using b3, x1.trans x2⟩

set_option maxRecDepth 100000 in
theorem bytes_TrimFuncS (sv : Value) (l : List UInt8)  (w : World) (hb : Bs w sv l) (h : White w) (hT : Tabs w) :
    Calls Tryd.prog 40 #[sv, .func (.func 57) #[] #[]] w (RetB w (glue (trimR (wsP) (chunks (glue (trimL (wsP) (chunks l))))))) := by
  go_enter Tryd.func40, Tryd.ntmps40
  go_wp2_with (go_at_call 59; refine (bytes_TrimLeftFuncS sv l  w hb h hT).mono ?_)
  rintro _ w1 ⟨v1, rfl, b1, x1⟩
  go_wp2_with (go_at_call 58; refine (bytes_TrimRightFuncS v1 _  w1 b1 (h.ext x1) (hT.ext x1)).mono ?_)
  rintro _ w2 ⟨v2, rfl, b2, x2⟩
  go_wp2_with fail
  go_ret
  exact ⟨_, rfl, b2, x1.trans x2⟩

end Go.Proofs.YthbfdajbajijeaaDoor
