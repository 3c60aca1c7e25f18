/- Several texts of this seat, put together: FuncS PointsW BlankW BlankX. -/
import Derived.Test.YthbfdajbajijeaaDoorSpace
import Derived.Test.YthbfdajbajijeaaDoorFuncW2
import Derived.Test.YthbfdajbajijeaaDoorSpecR
import Derived.Test.YthbfdajbajijeaaDoorAppV
import Derived.Deep.DeepCutAuto
/- The walks of bytes.indexFunc and its kin over unicode.IsSpace. Printed by funcs.py. -/
namespace Go.Proofs.YthbfdajbajijeaaDoor
open Go.RowKit

set_option maxRecDepth 100000 in
theorem bytes_indexFuncS (sv : Value) (l : List UInt8)  (truth : Bool) (w : World) (hb : Bs w sv l) (h : White w) (hT : Tabs w) :
    Calls Tryd.prog 72 #[sv, .func (.func 57) #[] #[], .bool truth] w (RetV (.int .i64 (idxC (wsP) truth (chunks l))) w) := by
  have hlen := hb.len
  obtain ⟨a, c, hsv, hcap, hcm⟩ := hb.shape
  subst hsv
  obtain ⟨cs, HCS, HPL, HDE, HPE, HPA, HLA, HPN, HRG⟩ := chunk_facts l
  have HI := Lib.hid h
  have HT := Lib.hid hT
  have HBS := Lib.hid hb
  clear h hT hb
  go_enter Tryd.func72, Tryd.ntmps72
  go_wp2_with fail
  go_loopg [7] cs.length (fun k i wr => ∃ j : Nat, j + k = cs.length ∧ i = .int .i64 (placeOf cs j : Int) ∧ (∀ c ∈ cs.take j, (wsP c.r == truth) = false) ∧ Ext w wr)
  case atStart => exact ⟨0, by omega, rfl, by simp, Ext.refl _⟩
  case round =>
    obtain ⟨j, hj, rfl, hn, hx⟩ := hrel
    have HN := Lib.hid hn
    have HJ := Lib.hid hj
    have HX := Lib.hid hx
    clear hn hx
    by_cases hlt : j < cs.length
    · have hg : 0 < gk := by omega
      have hpj := HPL.out j hlt
      have hb := HBS.out.ext HX.out
      obtain ⟨hne, hdec⟩ := HDE.out j hlt
      have hpe := HPE.out j hlt
      have hle := HPN.out (j + 1)
      obtain ⟨p, hp⟩ : ∃ p, placeOf cs j = p := ⟨_, rfl⟩
      rw [hp] at hpj hne hdec hpe ⊢
      have HPJ := Lib.hid hp
      have HPE2 := Lib.hid hpe
      have hsum : p + cs[j].bs.length ≤ l.length := by omega
      clear hj hp
      go_wp2_with (refine wpList_subL rfl 27 _ _ rfl 5 Tryd.underlying27 info_u8' _ _ rfl hb _ _ rfl p rfl (by omega) ?_)
      intro v2 b2 _
      go_wp2_with (go_at_call 60; refine (utf8_DecodeRune v2 _ _ b2 hne (HT.out.ext HX.out)).mono ?_)
      rintro _ w2 ⟨rfl, x2⟩
      rw [hdec]
      have HX2 := Lib.hid (HX.out.trans x2)
      have cH := unicode_IsSpace (hr := (HRG.out j hlt).2.2) cs[j].r w2 (HI.out.ext HX2.out)
      clear x2 b2 hb hdec hne hpe
      cases hh : (wsP cs[j].r)
      · rw [hh] at cH
        cases truth
        · go_wp2_with (go_at_call 57; refine cH.mono ?_; rintro _ w3 ⟨rfl, x3⟩)
          go_ret
          refine ⟨?_, HX2.out.trans x3⟩
          rw [HCS.out]
          unfold idxC
          rw [firstC_at _ cs 0 j hlt HN.out (by rw [hh]; rfl), Nat.zero_add, HPJ.out]
          rfl
        · go_wp2_with (go_at_call 57; refine cH.mono ?_; rintro _ w3 ⟨rfl, x3⟩)
          go_roundg (gk - 1)
          case measure => omega
          case rel =>
            refine ⟨j + 1, by have := HJ.out; omega, ?_, take_snoc_all (p := fun r => wsP r == true) hlt HN.out (by rw [hh]; rfl), HX2.out.trans x3⟩
            rw [← HPE2.out]
            go_num
      · rw [hh] at cH
        cases truth
        · go_wp2_with (go_at_call 57; refine cH.mono ?_; rintro _ w3 ⟨rfl, x3⟩)
          go_roundg (gk - 1)
          case measure => omega
          case rel =>
            refine ⟨j + 1, by have := HJ.out; omega, ?_, take_snoc_all (p := fun r => wsP r == false) hlt HN.out (by rw [hh]; rfl), HX2.out.trans x3⟩
            rw [← HPE2.out]
            go_num
        · go_wp2_with (go_at_call 57; refine cH.mono ?_; rintro _ w3 ⟨rfl, x3⟩)
          go_ret
          refine ⟨?_, HX2.out.trans x3⟩
          rw [HCS.out]
          unfold idxC
          rw [firstC_at _ cs 0 j hlt HN.out (by rw [hh]; rfl), Nat.zero_add, HPJ.out]
          rfl
    · have hje : j = cs.length := by omega
      subst hje
      have hpl : placeOf cs cs.length = l.length := HPA.out
      rw [hpl]
      clear hj
      go_wp2_with fail
      go_ret
      refine ⟨?_, HX.out⟩
      rw [HCS.out]
      unfold idxC
      rw [firstC_none _ cs 0 (by have := HN.out; rwa [List.take_length] at this)]
      rfl


set_option maxRecDepth 100000 in
set_option maxHeartbeats 2000000 in
theorem bytes_lastIndexFuncS (sv : Value) (l : List UInt8)  (truth : Bool) (w : World) (hb : Bs w sv l) (h : White w) (hT : Tabs w) :
    Calls Tryd.prog 71 #[sv, .func (.func 57) #[] #[], .bool truth] w (RetV (.int .i64 (lidxC (wsP) truth (chunks l))) w) := by
  have hlen := hb.len
  obtain ⟨a, c, hsv, hcap, hcm⟩ := hb.shape
  subst hsv
  obtain ⟨cs, HCS, HPL, HDE, HPE, HPA, HLA, HPN, HRG⟩ := chunk_facts l
  have HI := Lib.hid h
  have HT := Lib.hid hT
  have HBS := Lib.hid hb
  clear h hT hb
  go_enter Tryd.func71, Tryd.ntmps71
  go_wp2_with fail
  go_loopg [7] cs.length (fun k i wr => k ≤ cs.length ∧ i = .int .i64 (placeOf cs k : Int) ∧ (∀ c ∈ cs.drop k, (wsP c.r == truth) = false) ∧ Ext w wr)
  case atStart => exact ⟨Nat.le_refl _, by rw [HPA.out], by simp, Ext.refl _⟩
  case round =>
    obtain ⟨hk, rfl, hn, hx⟩ := hrel
    have HN := Lib.hid hn
    have HX := Lib.hid hx
    clear hn hx
    rcases Nat.eq_zero_or_pos gk with h0 | h0
    · subst h0
      have hp0 : placeOf cs 0 = 0 := rfl
      rw [hp0]
      go_wp2_with fail
      go_ret
      refine ⟨?_, HX.out⟩
      rw [HCS.out]
      unfold lidxC
      rw [lastC_none _ cs 0 (by simpa using HN.out)]
      rfl
    · obtain ⟨j, rfl⟩ : ∃ j, gk = j + 1 := ⟨gk - 1, by omega⟩
      have hlt : j < cs.length := hk
      have hb := HBS.out.ext HX.out
      have hpe := HPE.out j hlt
      have hle := HPN.out (j + 1)
      have hrg := HRG.out j hlt
      have hlast := HLA.out j hlt
      obtain ⟨p, hp⟩ : ∃ p, placeOf cs (j + 1) = p := ⟨_, rfl⟩
      rw [hp] at hpe hle hlast ⊢
      have hp1 : 1 ≤ p := by omega
      have HP0 := Lib.hid (show (p : Int) - (cs[j].bs.length : Int) = (placeOf cs j : Int) by omega)
      have HLT := Lib.hid hlast
      have hdl := decLast hlast
      have htn : l.take p ≠ [] := by
        intro e
        have := congrArg List.length e
        rw [List.length_take, List.length_nil] at this
        omega
      have htl : (l.take p).length = p := by rw [List.length_take]; omega
      obtain ⟨x, hx⟩ : ∃ x, l[p - 1]? = some x := ⟨_, List.getElem?_eq_getElem (by omega)⟩
      have hxg : (l.take p).getD ((l.take p).length - 1) 0 = x := by
        rw [htl, List.getD_eq_getElem?_getD, List.getElem?_take, if_pos (by omega), hx]; rfl
      have hcell : ∃ b o, a = some ⟨b, o, none⟩ ∧ wr.cell? ⟨b, o + (p - 1), none⟩ = some (.int .u8 (x.toNat : Int)) := by
        obtain ⟨a', c', hv, _, _, h3⟩ := hb
        injection hv with hv1 _ _
        rcases h3 with h3 | ⟨b, o, rfl, hc⟩
        · rw [h3] at htn; simp at htn
        · refine ⟨b, o, hv1, ?_⟩
          have hl1 : p - 1 < l.length := by omega
          rw [hc (p - 1) hl1]
          rw [List.getElem?_eq_getElem hl1] at hx
          injection hx with hx
          rw [hx]
      obtain ⟨b, o, rfl, hq⟩ := hcell
      have hxl := x.toNat_lt
      have hpi : ((p : Int) - 1) = ((p - 1 : Nat) : Int) := by omega
      have cH := fun W (y : Ext wr W) => unicode_IsSpace (hr := (HRG.out j hlt).2.2) cs[j].r W (HI.out.ext (HX.out.trans y))
      clear h0 hp hlast htl
      by_cases hasc : x.toNat < 128
      · have hrs : (cs[j].r = x.toNat) ∧ cs[j].bs.length = 1 := by
          unfold Lib.decodeLastL at hdl
          rw [if_neg htn, hxg, if_pos hasc] at hdl
          injection hdl with d1 d2
          exact ⟨d1.symm, d2.symm⟩
        have hr1 : (cs[j].r : Int) = (x.toNat : Int) := by rw [hrs.1]
        have HR2 := Lib.hid (show ((p - 1 : Nat) : Int) = (placeOf cs j : Int) by have := HP0.out; rw [hrs.2] at this; rw [← hpi]; exact this)
        have cH1 := cH wr (Ext.refl _)
        rw [hr1] at cH1
        clear hdl htn hxg hrs cH
        cases hh : (wsP (x.toNat : Int))
        all_goals
          rw [hh] at cH1
          cases truth
        all_goals
          go_wp2_with (go_at_call 57; refine cH1.mono ?_; rintro _ w3 ⟨rfl, x3⟩)
        · go_ret
          refine ⟨?_, HX.out.trans x3⟩
          rw [HCS.out]
          unfold lidxC
          rw [lastC_at _ cs 0 j hlt HN.out (by rw [hr1, hh]; rfl), Nat.zero_add, ← HR2.out]
          rfl
        · go_roundg j
          case measure => omega
          case rel => exact ⟨by omega, by rw [← HR2.out], drop_cons_all (p := fun r => wsP r == true) hlt HN.out (by rw [hr1, hh]; rfl), HX.out.trans x3⟩
        · go_roundg j
          case measure => omega
          case rel => exact ⟨by omega, by rw [← HR2.out], drop_cons_all (p := fun r => wsP r == false) hlt HN.out (by rw [hr1, hh]; rfl), HX.out.trans x3⟩
        · go_ret
          refine ⟨?_, HX.out.trans x3⟩
          rw [HCS.out]
          unfold lidxC
          rw [lastC_at _ cs 0 j hlt HN.out (by rw [hr1, hh]; rfl), Nat.zero_add, ← HR2.out]
          rfl
      · clear hdl htn hxg
        have hps : cs[j].bs.length ≤ p := by omega
        go_wp2_with (refine wpList_subLH rfl 27 _ _ _ rfl 5 Tryd.underlying27 info_u8' _ _ rfl hb _ _ _ _ rfl rfl 0 p rfl rfl (by omega) (by omega) ?_)
        intro v2 b2 _
        have ep : part l 0 p = l.take p := by unfold part; simp
        rw [ep] at b2
        go_wp2_with (go_at_call 80; refine (utf8_DecodeLastRune v2 _ _ b2 _ _ HLT.out (HT.out.ext HX.out)).mono ?_)
        rintro _ w2 ⟨rfl, x2⟩
        have cH1 := cH w2 x2
        have HX2 := Lib.hid (HX.out.trans x2)
        clear b2 ep cH x2 hb
        cases hh : (wsP cs[j].r)
        all_goals
          rw [hh] at cH1
          cases truth
        all_goals
          go_wp2_with (go_at_call 57; refine cH1.mono ?_; rintro _ w3 ⟨rfl, x3⟩)
        · go_ret
          refine ⟨?_, HX2.out.trans x3⟩
          rw [HCS.out]
          unfold lidxC
          rw [lastC_at _ cs 0 j hlt HN.out (by rw [hh]; rfl), Nat.zero_add, ← HP0.out]
          rfl
        · go_roundg j
          case measure => omega
          case rel => exact ⟨by omega, by rw [← HP0.out], drop_cons_all (p := fun r => wsP r == true) hlt HN.out (by rw [hh]; rfl), HX2.out.trans x3⟩
        · go_roundg j
          case measure => omega
          case rel => exact ⟨by omega, by rw [← HP0.out], drop_cons_all (p := fun r => wsP r == false) hlt HN.out (by rw [hh]; rfl), HX2.out.trans x3⟩
        · go_ret
          refine ⟨?_, HX2.out.trans x3⟩
          rw [HCS.out]
          unfold lidxC
          rw [lastC_at _ cs 0 j hlt HN.out (by rw [hh]; rfl), Nat.zero_add, ← HP0.out]
          rfl


set_option maxRecDepth 100000 in
theorem bytes_TrimLeftFuncS (sv : Value) (l : List UInt8)  (w : World) (hb : Bs w sv l) (h : White w) (hT : Tabs w) :
    Calls Tryd.prog 59 #[sv, .func (.func 57) #[] #[]] w (RetB w (glue (trimL (wsP) (chunks l)))) := by
  have cI := bytes_indexFuncS sv l  false w hb h hT
  have hr := firstC_range (fun r => wsP r == false) (chunks l) 0
  change idxC (wsP) false (chunks l) = -1 ∧ _ ∨ ∃ i, ∃ h : i < (chunks l).length, idxC (wsP) false (chunks l) = _ ∧ _ at hr
  have hgl : glue (chunks l) = l := glue_chunks l
  obtain ⟨cs, hcs⟩ : ∃ cs, chunks l = cs := ⟨_, rfl⟩
  rw [hcs] at cI hr hgl ⊢
  rcases hr with ⟨e, hn⟩ | ⟨i, hi, e, hn, hp⟩
  · have HR := Lib.hid (trimL_none (wsP) cs (fun c hc => by have := hn c hc; revert this; cases wsP c.r <;> simp))
    rw [e] at cI
    clear e hn hcs hgl
    go_enter Tryd.func59, Tryd.ntmps59
    go_wp2_with (go_at_call 72; refine cI.mono ?_)
    rintro _ w1 ⟨rfl, x1⟩
    go_wp2_with fail
    go_ret
    exact ⟨_, rfl, by rw [HR.out]; exact Bs.nil _, x1⟩
  · have HR := Lib.hid (show glue (trimL (wsP) cs) = l.drop (placeOf cs i) by
      rw [trimL_at (wsP) cs i hi (fun c hc => by have := hn c hc; revert this; cases wsP c.r <;> simp) (by revert hp; cases wsP cs[i].r <;> simp), glue_drop, hgl])
    have hle : placeOf cs i ≤ l.length := by
      have := placeOf_le cs i
      rwa [hgl] at this
    rw [e, Nat.zero_add] at cI
    have hne : ((placeOf cs i : Int) == -1) = false := by rw [beq_eq_false_iff_ne]; omega
    clear e hn hcs hgl hp
    go_enter Tryd.func59, Tryd.ntmps59
    go_wp2_with (go_at_call 72; refine cI.mono ?_)
    rintro _ w1 ⟨rfl, x1⟩
    replace hb := hb.ext x1
    go_wp2_with (refine wpList_subL rfl 27 _ _ rfl 5 Tryd.underlying27 info_u8' _ _ rfl hb _ _ rfl (placeOf cs i) rfl hle ?_)
    intro v2 b2 _
    go_wp2_with fail
    go_ret
    exact ⟨_, rfl, by rw [HR.out]; exact b2, x1⟩

set_option maxRecDepth 100000 in
theorem bytes_TrimRightFuncS (sv : Value) (l : List UInt8)  (w : World) (hb : Bs w sv l) (h : White w) (hT : Tabs w) :
    Calls Tryd.prog 58 #[sv, .func (.func 57) #[] #[]] w (RetB w (glue (trimR (wsP) (chunks l)))) := by
  have cI := bytes_lastIndexFuncS sv l  false w hb h hT
  have hr := lastC_range (fun r => wsP r == false) (chunks l) 0
  change lidxC (wsP) false (chunks l) = -1 ∧ _ ∨ ∃ i, ∃ h : i < (chunks l).length, lidxC (wsP) false (chunks l) = _ ∧ _ at hr
  have hlen := hb.len
  have hgl : glue (chunks l) = l := glue_chunks l
  obtain ⟨cs, HCS, HPL, HDE, HPE, HPA, HLA, HPN, HRG⟩ := chunk_facts l
  rw [HCS.out] at cI hr hgl ⊢
  rcases hr with ⟨e, hn⟩ | ⟨i, hi, e, hn, hp⟩
  · have HR := Lib.hid (trimR_none (wsP) cs (fun c hc => by have := hn c hc; revert this; cases wsP c.r <;> simp))
    rw [e] at cI
    clear e hn hgl
    go_enter Tryd.func58, Tryd.ntmps58
    go_wp2_with (go_at_call 71; refine cI.mono ?_)
    rintro _ w1 ⟨rfl, x1⟩
    replace hb := hb.ext x1
    go_wp2_with (refine wpList_subLH rfl 27 _ _ _ rfl 5 Tryd.underlying27 info_u8' _ _ rfl hb _ _ _ _ rfl rfl 0 0 rfl rfl (by omega) (by omega) ?_)
    intro v2 b2 _
    go_wp2_with fail
    go_ret
    exact ⟨_, rfl, by rw [HR.out, glue_nil]; simpa [part] using b2, x1⟩
  · have HR := Lib.hid (show glue (trimR (wsP) cs) = l.take (placeOf cs (i + 1)) by
      rw [trimR_at (wsP) cs i hi (fun c hc => by have := hn c hc; revert this; cases wsP c.r <;> simp) (by revert hp; cases wsP cs[i].r <;> simp), glue_take, hgl])
    have hpe := HPE.out i hi
    have hle := HPN.out (i + 1)
    have hlt := HPL.out i hi
    have hrg := HRG.out i hi
    obtain ⟨hne, hdec⟩ := HDE.out i hi
    rw [e, Nat.zero_add] at cI
    obtain ⟨p, hpp⟩ : ∃ p, placeOf cs i = p := ⟨_, rfl⟩
    obtain ⟨p2, hpp2⟩ : ∃ p2, placeOf cs (i + 1) = p2 := ⟨_, rfl⟩
    rw [hpp] at cI hpe hlt hne hdec
    rw [hpp2] at hpe hle HR
    obtain ⟨x, hx⟩ : ∃ x, l[p]? = some x := ⟨_, List.getElem?_eq_getElem hlt⟩
    have hxl := x.toNat_lt
    have hd0 : (l.drop p).getD 0 0 = x := by rw [List.getD_eq_getElem?_getD, List.getElem?_drop, Nat.add_zero, hx]; rfl
    have hasc : x.toNat < 128 → p2 = p + 1 := fun ha => by
      obtain ⟨y, t, hy⟩ : ∃ y t, l.drop p = y :: t := by
        cases hq : l.drop p with
        | nil => exact (hne hq).elim
        | cons y t => exact ⟨y, t, rfl⟩
      rw [hy] at hdec hd0
      simp only [List.getD_cons_zero] at hd0
      subst hd0
      rw [dec_ascii _ t ha] at hdec
      injection hdec with _ h2
      omega
    obtain ⟨a, c, hsv, hcap, hcm, h3⟩ := id hb
    subst hsv
    obtain ⟨b, o, ha, hcell⟩ : ∃ b o, a = some ⟨b, o, none⟩ ∧ w.cell? ⟨b, o + p, none⟩ = some (.int .u8 (x.toNat : Int)) := by
      rcases h3 with h3 | ⟨b, o, ha, hc⟩
      · rw [h3] at hlt; simp at hlt
      · refine ⟨b, o, ha, ?_⟩
        rw [hc p hlt]
        rw [List.getElem?_eq_getElem hlt] at hx
        injection hx with hx
        rw [hx]
    subst ha
    clear e hn hgl hp h3 hx hd0
    go_enter Tryd.func58, Tryd.ntmps58
    go_wp2_with (go_at_call 71; refine cI.mono ?_)
    rintro _ w1 ⟨rfl, x1⟩
    replace hb := hb.ext x1
    replace hcell := x1.cell hcell
    replace hT := hT.ext x1
    by_cases h128 : x.toNat < 128
    · have hp2 := hasc h128
      subst hp2
      clear hasc hdec hne cI hpe
      go_wp2_with (refine wpList_subLH rfl 27 _ _ _ rfl 5 Tryd.underlying27 info_u8' _ _ rfl hb _ _ _ _ rfl rfl 0 (p + 1) rfl (by go_num) (by omega) (by omega) ?_)
      intro v2 b2 _
      go_wp2_with fail
      go_ret
      exact ⟨_, rfl, by rw [HR.out]; simpa [part] using b2, x1⟩
    · clear hasc cI
      have hsum : p + cs[i].bs.length ≤ l.length := by omega
      go_wp2_with (refine wpList_subL rfl 27 _ _ rfl 5 Tryd.underlying27 info_u8' _ _ rfl hb _ _ rfl p rfl (by omega) ?_)
      intro v2 b2 _
      go_wp2_with (go_at_call 60; refine (utf8_DecodeRune v2 _ _ b2 hne hT).mono ?_)
      rintro _ w2 ⟨rfl, x2⟩
      rw [hdec]
      replace hb := hb.ext x2
      clear hdec hne b2
      go_wp2_with (refine wpList_subLH rfl 27 _ _ _ rfl 5 Tryd.underlying27 info_u8' _ _ rfl hb _ _ _ _ rfl rfl 0 p2 rfl (by rw [← hpe]; go_num) (by omega) (by omega) ?_)
      intro v3 b3 _
      go_wp2_with fail
      go_ret
      exact ⟨_, rfl, by rw [HR.out]; simpa [part] using b3, x1.trans x2⟩

set_option maxRecDepth 100000 in
theorem bytes_TrimFuncS (sv : Value) (l : List UInt8)  (w : World) (hb : Bs w sv l) (h : White w) (hT : Tabs w) :
    Calls Tryd.prog 40 #[sv, .func (.func 57) #[] #[]] w (RetB w (glue (trimR (wsP) (chunks (glue (trimL (wsP) (chunks l))))))) := by
  go_enter Tryd.func40, Tryd.ntmps40
  go_wp2_with (go_at_call 59; refine (bytes_TrimLeftFuncS sv l  w hb h hT).mono ?_)
  rintro _ w1 ⟨v1, rfl, b1, x1⟩
  go_wp2_with (go_at_call 58; refine (bytes_TrimRightFuncS v1 _  w1 b1 (h.ext x1) (hT.ext x1)).mono ?_)
  rintro _ w2 ⟨v2, rfl, b2, x2⟩
  go_wp2_with fail
  go_ret
  exact ⟨_, rfl, b2, x1.trans x2⟩

end Go.Proofs.YthbfdajbajijeaaDoor

/- spec.Points: the code points of a text. -/
namespace Go.Proofs.YthbfdajbajijeaaDoor
open Go.RowKit

/-- A call's answer: a slice of runes. -/
def RetRs (w : World) (rs : List Int) (e : Ending) (w' : World) : Prop := ∃ v, e = .returned v ∧ Is w' v rs ∧ Ext w w'

end Go.Proofs.YthbfdajbajijeaaDoor

/- White space: spec.space, blank, laws.blanks, TrimSpace. Printed by blankw.py. -/
namespace Go.Proofs.YthbfdajbajijeaaDoor
open Go.RowKit

set_option maxRecDepth 100000 in
theorem spec_space (r : Int) (w : World) : Calls Tryd.prog 56 #[.int .i32 r] w (RetV (.bool (wsP r)) w) := by
  by_cases h9 : r = 9
  · subst h9
    have HR := Lib.hid (show wsP 9 = true from (wsP_iff _).2 (by omega))
    go_enter Tryd.func56, Tryd.ntmps56
    go_wp2_with fail
    go_ret
    exact ⟨by rw [HR.out]; rfl, Ext.refl _⟩
  by_cases h10 : r = 10
  · subst h10
    have HR := Lib.hid (show wsP 10 = true from (wsP_iff _).2 (by omega))
    go_enter Tryd.func56, Tryd.ntmps56
    go_wp2_with fail
    go_ret
    exact ⟨by rw [HR.out]; rfl, Ext.refl _⟩
  by_cases h11 : r = 11
  · subst h11
    have HR := Lib.hid (show wsP 11 = true from (wsP_iff _).2 (by omega))
    go_enter Tryd.func56, Tryd.ntmps56
    go_wp2_with fail
    go_ret
    exact ⟨by rw [HR.out]; rfl, Ext.refl _⟩
  by_cases h12 : r = 12
  · subst h12
    have HR := Lib.hid (show wsP 12 = true from (wsP_iff _).2 (by omega))
    go_enter Tryd.func56, Tryd.ntmps56
    go_wp2_with fail
    go_ret
    exact ⟨by rw [HR.out]; rfl, Ext.refl _⟩
  by_cases h13 : r = 13
  · subst h13
    have HR := Lib.hid (show wsP 13 = true from (wsP_iff _).2 (by omega))
    go_enter Tryd.func56, Tryd.ntmps56
    go_wp2_with fail
    go_ret
    exact ⟨by rw [HR.out]; rfl, Ext.refl _⟩
  by_cases h32 : r = 32
  · subst h32
    have HR := Lib.hid (show wsP 32 = true from (wsP_iff _).2 (by omega))
    go_enter Tryd.func56, Tryd.ntmps56
    go_wp2_with fail
    go_ret
    exact ⟨by rw [HR.out]; rfl, Ext.refl _⟩
  by_cases h133 : r = 133
  · subst h133
    have HR := Lib.hid (show wsP 133 = true from (wsP_iff _).2 (by omega))
    go_enter Tryd.func56, Tryd.ntmps56
    go_wp2_with fail
    go_ret
    exact ⟨by rw [HR.out]; rfl, Ext.refl _⟩
  by_cases h160 : r = 160
  · subst h160
    have HR := Lib.hid (show wsP 160 = true from (wsP_iff _).2 (by omega))
    go_enter Tryd.func56, Tryd.ntmps56
    go_wp2_with fail
    go_ret
    exact ⟨by rw [HR.out]; rfl, Ext.refl _⟩
  by_cases h5760 : r = 5760
  · subst h5760
    have HR := Lib.hid (show wsP 5760 = true from (wsP_iff _).2 (by omega))
    go_enter Tryd.func56, Tryd.ntmps56
    go_wp2_with fail
    go_ret
    exact ⟨by rw [HR.out]; rfl, Ext.refl _⟩
  by_cases h8232 : r = 8232
  · subst h8232
    have HR := Lib.hid (show wsP 8232 = true from (wsP_iff _).2 (by omega))
    go_enter Tryd.func56, Tryd.ntmps56
    go_wp2_with fail
    go_ret
    exact ⟨by rw [HR.out]; rfl, Ext.refl _⟩
  by_cases h8233 : r = 8233
  · subst h8233
    have HR := Lib.hid (show wsP 8233 = true from (wsP_iff _).2 (by omega))
    go_enter Tryd.func56, Tryd.ntmps56
    go_wp2_with fail
    go_ret
    exact ⟨by rw [HR.out]; rfl, Ext.refl _⟩
  by_cases h8239 : r = 8239
  · subst h8239
    have HR := Lib.hid (show wsP 8239 = true from (wsP_iff _).2 (by omega))
    go_enter Tryd.func56, Tryd.ntmps56
    go_wp2_with fail
    go_ret
    exact ⟨by rw [HR.out]; rfl, Ext.refl _⟩
  by_cases h8287 : r = 8287
  · subst h8287
    have HR := Lib.hid (show wsP 8287 = true from (wsP_iff _).2 (by omega))
    go_enter Tryd.func56, Tryd.ntmps56
    go_wp2_with fail
    go_ret
    exact ⟨by rw [HR.out]; rfl, Ext.refl _⟩
  by_cases h12288 : r = 12288
  · subst h12288
    have HR := Lib.hid (show wsP 12288 = true from (wsP_iff _).2 (by omega))
    go_enter Tryd.func56, Tryd.ntmps56
    go_wp2_with fail
    go_ret
    exact ⟨by rw [HR.out]; rfl, Ext.refl _⟩
  have e9 : (r == 9) = false := by rw [beq_eq_false_iff_ne]; exact h9
  have e10 : (r == 10) = false := by rw [beq_eq_false_iff_ne]; exact h10
  have e11 : (r == 11) = false := by rw [beq_eq_false_iff_ne]; exact h11
  have e12 : (r == 12) = false := by rw [beq_eq_false_iff_ne]; exact h12
  have e13 : (r == 13) = false := by rw [beq_eq_false_iff_ne]; exact h13
  have e32 : (r == 32) = false := by rw [beq_eq_false_iff_ne]; exact h32
  have e133 : (r == 133) = false := by rw [beq_eq_false_iff_ne]; exact h133
  have e160 : (r == 160) = false := by rw [beq_eq_false_iff_ne]; exact h160
  have e5760 : (r == 5760) = false := by rw [beq_eq_false_iff_ne]; exact h5760
  have e8232 : (r == 8232) = false := by rw [beq_eq_false_iff_ne]; exact h8232
  have e8233 : (r == 8233) = false := by rw [beq_eq_false_iff_ne]; exact h8233
  have e8239 : (r == 8239) = false := by rw [beq_eq_false_iff_ne]; exact h8239
  have e8287 : (r == 8287) = false := by rw [beq_eq_false_iff_ne]; exact h8287
  have e12288 : (r == 12288) = false := by rw [beq_eq_false_iff_ne]; exact h12288
  by_cases hl : 8192 ≤ r
  · by_cases hh : r ≤ 8202
    · have HR := Lib.hid (show wsP r = true from (wsP_iff _).2 (by omega))
      clear h9 h10 h11 h12 h13 h32 h133 h160 h5760 h8232 h8233 h8239 h8287 h12288
      go_enter Tryd.func56, Tryd.ntmps56
      go_wp2_with fail
      go_ret
      exact ⟨by rw [HR.out]; rfl, Ext.refl _⟩
    · have HR := Lib.hid (show wsP r = false from wsP_false (by omega))
      clear h9 h10 h11 h12 h13 h32 h133 h160 h5760 h8232 h8233 h8239 h8287 h12288
      go_enter Tryd.func56, Tryd.ntmps56
      go_wp2_with fail
      go_ret
      exact ⟨by rw [HR.out]; rfl, Ext.refl _⟩
  · have HR := Lib.hid (show wsP r = false from wsP_false (by omega))
    clear h9 h10 h11 h12 h13 h32 h133 h160 h5760 h8232 h8233 h8239 h8287 h12288
    go_enter Tryd.func56, Tryd.ntmps56
    go_wp2_with fail
    go_ret
    exact ⟨by rw [HR.out]; rfl, Ext.refl _⟩
theorem spec_Blank (r : Int) (w : World) : Calls Tryd.prog 37 #[.int .i32 r] w (RetV (.bool (wsP r)) w) := by
  go_enter Tryd.func37, Tryd.ntmps37
  go_wp2_with (go_at_call 56; refine (spec_space r w).mono ?_)
  rintro _ w1 ⟨rfl, x1⟩
  go_wp2_with fail
  go_ret
  exact ⟨rfl, x1⟩

set_option maxRecDepth 100000 in
theorem laws_blanks (w : World) : Calls Tryd.prog 13 #[] w (RetRs w (blankR 12289)) := by
  obtain ⟨n, hn⟩ : ∃ n, w.heap.size = n := ⟨_, rfl⟩
  go_enter Tryd.func13, Tryd.ntmps13
  go_wp2_with fail
  go_loopg [1, 2] 12289 (fun k v i wr => ∃ j : Nat, j + k = 12289 ∧ i = .int .i32 (j : Int) ∧ wr.ownsRow n 21 1 v (blankR j).length ((blankR j).map (Value.int .i32)) ∧ Below n w wr)
  case atStart => exact ⟨0, by omega, rfl, World.ownsRow_nil _ _ _ _, Below.refl _ _⟩
  case round =>
    obtain ⟨j, hj, rfl, hown, hbe⟩ := hrel
    have HO := Lib.hid hown
    have HB := Lib.hid hbe
    have HJ := Lib.hid hj
    have hnw : n ≤ wr.heap.size := by have := hbe.size; omega
    have hbl := blankR_len j
    clear hown hbe
    by_cases hlt : j < 12289
    · have hg : 0 < gk := by omega
      have hle : (j : Int) ≤ 12288 := by omega
      have cS := spec_Blank (j : Int) wr
      have HS := Lib.hid (blankR_succ j)
      clear hj
      cases hw : wsP (j : Int)
      · rw [hw] at cS
        have HE := Lib.hid (show blankR (j + 1) = blankR j by rw [HS.out, hw]; simp)
        clear hw
        go_wp2_with (go_at_call 37; refine cS.mono ?_)
        rintro _ w1 ⟨rfl, x1⟩
        go_wp2_with fail
        go_roundg (gk - 1)
        case measure => omega
        case rel => exact ⟨j + 1, by have := HJ.out; omega, by go_num, by rw [HE.out]; exact owns_keep HO.out x1, below_ext HB.out x1 hnw⟩
      · rw [hw] at cS
        have HE := Lib.hid (show blankR (j + 1) = blankR j ++ [(j : Int)] by rw [HS.out, hw]; simp)
        clear hw
        go_wp2_with (go_at_call 37; refine cS.mono ?_)
        rintro _ w1 ⟨rfl, x1⟩
        have O1 := owns_keep HO.out (x1.trans (Ext.alloc w1 (.cells #[.int .i32 (j : Int)] 21)))
        have B1 := below_ext HB.out (x1.trans (Ext.alloc w1 (.cells #[.int .i32 (j : Int)] 21))) hnw
        have hn1 : n ≤ (w1.alloc (.cells #[.int .i32 (j : Int)] 21)).heap.size := Nat.le_trans hnw (x1.trans (Ext.alloc _ _)).size
        clear x1 cS
        go_wp2_with (refine wpList_appendV rfl 22 _ _ rfl 21 1 4 _ Tryd.underlying22 info_i32 rfl (by omega) n _ _ _ rfl O1 _ 1 _ [.int .i32 (j : Int)] rfl rfl (news_alloc _ _ _) (by simp [Value.oneCell']) (by omega) (by omega) hn1 ?_)
        intro v2 w2 o2 g2
        have B2 := owns_grown O1 g2 hn1 B1 (Nat.le_refl _)
        clear g2 O1 B1
        go_wp2_with fail
        go_roundg (gk - 1)
        case measure => omega
        case rel => exact ⟨j + 1, by have := HJ.out; omega, by go_num, by rw [HE.out, List.map_append, List.length_append]; exact o2, B2⟩
    · have hje : j = 12289 := by omega
      subst hje
      have hle : ¬ ((12289 : Nat) : Int) ≤ 12288 := by omega
      clear hj
      go_wp2_with fail
      go_ret
      exact ⟨_, rfl, vs_of_owns HO.out, ⟨by rw [hn]; exact HB.out⟩⟩

set_option maxRecDepth 100000 in
set_option maxHeartbeats 2000000 in
theorem bytes_TrimSpace (sv : Value) (l : List UInt8) (w : World) (hb : Bs w sv l) (h : White w) (hT : Tabs w) :
    Calls Tryd.prog 39 #[sv] w (RetB w (tB wsP l)) := by
  have hlen := hb.len
  obtain ⟨a, c, hsv, hcap, hcm, h3⟩ := id hb
  subst hsv
  have hc1 : c ≤ 9223372036854775807 := by unfold maxLen at hcm; omega
  have HB := Lib.hid hb
  have HW := Lib.hid h
  have HT := Lib.hid hT
  have HC := Lib.hid h3
  clear hb h hT hcm h3
  go_enter Tryd.func39, Tryd.ntmps39
  go_wp2_with fail
  go_loopg [9, 0] l.length (fun g i s0 wr => w = wr ∧ s0 = .slice a l.length c ∧ ∃ k : Nat, k + g = l.length ∧ i = .int .i64 (k : Int) ∧ Hid (∀ b ∈ l.take k, b.toNat < 128 ∧ wsP b.toNat = true))
  case atStart => exact ⟨rfl, rfl, 0, by omega, rfl, Lib.hid (by simp)⟩
  case round =>
    obtain ⟨rfl, rfl, k, hk, rfl, hsp⟩ := hrel
    by_cases hlt : k < l.length
    · have hg : 0 < gk := by omega
      obtain ⟨x, hx⟩ : ∃ x, l[k] = x := ⟨_, rfl⟩
      obtain ⟨b, o, ha, hcell⟩ : ∃ b o, a = some ⟨b, o, none⟩ ∧ ∀ i (h : i < l.length), w.cell? ⟨b, o + i, none⟩ = some (.int .u8 (l[i].toNat : Int)) := by
        rcases HC.out with h0 | h0
        · rw [h0] at hlt; simp at hlt
        · exact h0
      subst ha
      have c0 := hcell k hlt
      rw [hx] at c0
      have HX := Lib.hid hx
      have hxl := x.toNat_lt
      have hx256 : (x.toNat : Int) < 256 := by omega
      have i1 : (k : Int) < (l.length : Int) := by omega
      have HH := Lib.hid (ts_high l k hsp.out)
      have HK := Lib.hid hk
      clear hx hcell hk
      by_cases h128 : x.toNat < 128
      · have hn : ¬ (128 : Int) ≤ (x.toNat : Int) := by omega
        have hT0 := HW.out.at x
        have HSW := Lib.hid (isSp_ws x h128)
        cases hs : Lib.isSp x
        · rw [hs] at hT0 HSW
          simp only [Bool.false_eq_true, if_false] at hT0
          have hdl : (l.drop k).length = l.length - k := List.length_drop
          have hm0 : ∃ h : 0 < (l.drop k).length, (l.drop k)[0] = x := ⟨by rw [hdl]; omega, by have := HX.out; simp [this]⟩
          clear hs
          go_upto_region 8 with (refine wpList_subL rfl 27 _ _ rfl 5 Tryd.underlying27 info_u8' _ _ rfl HB.out _ _ rfl k rfl (by omega) ?_; intro v2 b2 _)
          obtain ⟨m, hm⟩ : ∃ m, l.drop k = m := ⟨_, rfl⟩
          rw [hm] at b2 hdl hm0 HH
          obtain ⟨hmp, hmx⟩ := hm0
          have HMX := Lib.hid hmx
          obtain ⟨a2, c2, hv2, hcap2, hcm2, h32⟩ := id b2
          subst hv2
          obtain ⟨b', o', ha2, hcell2⟩ : ∃ b o, a2 = some ⟨b, o, none⟩ ∧ ∀ i (h : i < m.length), w.cell? ⟨b, o + i, none⟩ = some (.int .u8 (m[i].toNat : Int)) := by
            rcases h32 with h0 | h0
            · rw [h0] at hmp; simp at hmp
            · exact h0
          subst ha2
          have HB2 := Lib.hid b2
          have HC2 := Lib.hid hcell2
          have hc2 : c2 ≤ 9223372036854775807 := by unfold maxLen at hcm2; omega
          clear hm b2 hcell2 h32 hmx c0 hT0 hcm2 hdl HC
          go_wp2_with fail
          go_loopg [5] (m.length - 1) (fun g i wr => w = wr ∧ g < m.length ∧ i = .int .i64 (g : Int) ∧ Hid (∀ b ∈ m.drop (g + 1), b.toNat < 128 ∧ wsP b.toNat = true))
          case atStart => exact ⟨rfl, by omega, by first | go_num | (congr 1; omega), Lib.hid (by intro b hb; rw [List.drop_of_length_le (by omega)] at hb; cases hb)⟩
          case round =>
            obtain ⟨rfl, hq, rfl, hsp2⟩ := hrel
            obtain ⟨y, hy⟩ : ∃ y, m[gk] = y := ⟨_, rfl⟩
            have c1 := HC2.out gk hq
            rw [hy] at c1
            have HY := Lib.hid hy
            have hyl := y.toNat_lt
            have hy256 : (y.toNat : Int) < 256 := by omega
            have i2 : (gk : Int) < (m.length : Int) := by omega
            have HQ := Lib.hid hq
            have HLO := Lib.hid (ts_low m (gk + 1) hsp2.out)
            have hq1 : gk + 1 ≤ m.length := hq
            clear hy
            by_cases hy128 : y.toNat < 128
            · have hn2 : ¬ (128 : Int) ≤ (y.toNat : Int) := by omega
              have hT1 := HW.out.at y
              have HSY := Lib.hid (isSp_ws y hy128)
              cases hs : Lib.isSp y
              · rw [hs] at hT1 HSY
                simp only [Bool.false_eq_true, if_false] at hT1
                have HF := Lib.hid (ts_stay m gk HQ.out (by rw [HMX.out]; exact h128) (by rw [HMX.out]; exact HSW.out.symm) (by rw [HY.out]; exact hy128) (by rw [HY.out]; exact HSY.out.symm) hsp2.out)
                clear hs
                go_wp2_with (refine wpList_subH rfl 27 _ _ rfl 5 Tryd.underlying27 info_u8' _ _ rfl HB2.out _ _ rfl (gk + 1) (by go_num) (by omega) ?_)
                intro v4 b4 _
                go_wp2_with fail
                go_ret
                exact ⟨_, rfl, by rw [HH.out, HF.out]; exact b4, Ext.refl _⟩
              · rw [hs] at hT1 HSY
                simp only [if_true] at hT1
                have hpos : 0 < gk := by
                  rcases Nat.eq_zero_or_pos gk with e | e
                  · subst e
                    have h1 := HY.out
                    rw [HMX.out] at h1
                    rw [← h1, ← HSW.out] at HSY
                    exact absurd HSY.out (by simp)
                  · exact e
                clear hs
                go_wp2_with fail
                go_roundg (gk - 1)
                case measure => omega
                case rel =>
                  refine ⟨rfl, by omega, by first | go_num | (congr 1; omega), Lib.hid ?_⟩
                  intro b hb
                  have e : gk - 1 + 1 = gk := by omega
                  rw [e, List.drop_eq_getElem_cons HQ.out] at hb
                  rcases List.mem_cons.1 hb with rfl | hb
                  · rw [HY.out]; exact ⟨hy128, HSY.out.symm⟩
                  · exact hsp2.out b hb
            · have hn2 : (128 : Int) ≤ (y.toNat : Int) := by omega
              go_wp2_with (refine wpList_subH rfl 27 _ _ rfl 5 Tryd.underlying27 info_u8' _ _ rfl HB2.out _ _ rfl (gk + 1) (by go_num) (by omega) ?_)
              intro v4 b4 _
              go_wp2_with (go_at_call 40; refine (bytes_TrimFuncS v4 _ _ b4 HW.out HT.out).mono ?_)
              rintro _ w5 ⟨v5, rfl, b5, x5⟩
              go_wp2_with fail
              go_ret
              exact ⟨_, rfl, by rw [HH.out, HLO.out]; exact b5, x5⟩
        · rw [hs] at hT0 HSW
          simp only [if_true] at hT0
          clear hs
          go_wp2_with fail
          go_roundg (gk - 1)
          case measure => omega
          case rel =>
            refine ⟨rfl, rfl, k + 1, by have := HK.out; omega, by go_num, Lib.hid ?_⟩
            intro b hb
            rw [List.take_succ_eq_append_getElem hlt, List.mem_append, List.mem_singleton] at hb
            rcases hb with hb | rfl
            · exact hsp.out b hb
            · rw [HX.out]; exact ⟨h128, HSW.out.symm⟩
      · have hn : (128 : Int) ≤ (x.toNat : Int) := by omega
        go_wp2_with (refine wpList_subL rfl 27 _ _ rfl 5 Tryd.underlying27 info_u8' _ _ rfl HB.out _ _ rfl k rfl (by omega) ?_)
        intro v2 b2 _
        go_wp2_with (go_at_call 40; refine (bytes_TrimFuncS v2 _ _ b2 HW.out HT.out).mono ?_)
        rintro _ w3 ⟨v3, rfl, b3, x3⟩
        go_wp2_with fail
        go_ret
        exact ⟨_, rfl, by rw [HH.out]; exact b3, x3⟩
    · have hke : k = l.length := by omega
      subst hke
      have HF := Lib.hid (ts_none l (by have := hsp.out; rwa [List.take_length] at this))
      clear hk
      go_wp2_with fail
      go_ret
      exact ⟨_, rfl, by rw [HF.out]; exact Bs.nil _, Ext.refl _⟩
end Go.Proofs.YthbfdajbajijeaaDoor

/- spec.blank: the test of white space; impl.TrimSpace, spec.TrimSpace. -/
namespace Go.Proofs.YthbfdajbajijeaaDoor
open Go.RowKit

set_option maxRecDepth 100000 in
set_option maxHeartbeats 2000000 in
theorem spec_blank (w : World) : Calls Tryd.prog 63 #[] w (RetTest w (blankR 12289) false) := by
  obtain ⟨n, hn⟩ : ∃ n, w.heap.size = n := ⟨_, rfl⟩
  obtain ⟨Z, hZ⟩ : ∃ Z, Z = Obj.cells #[.slice none 0 0, .bool false] 24 := ⟨_, rfl⟩
  have HN := Lib.hid hn
  have x0 : Ext w ((w.alloc Z).alloc Z) := (Ext.alloc _ _).trans (Ext.alloc _ _)
  have q0 : ((w.alloc Z).alloc Z).heap[n]? = some (.cells #[.slice none 0 0, .bool false] 24 (0, 0)) := by
    rw [(Ext.alloc (w.alloc Z) Z).block (by rw [World.size_alloc, hn]; omega), ← hn, heap_alloc_new, hZ]
  have q1 : ((w.alloc Z).alloc Z).heap[n + 1]? = some (.cells #[.slice none 0 0, .bool false] 24 (0, 0)) := by
    have := heap_alloc_new (w.alloc Z) Z
    rw [World.size_alloc, hn] at this
    rw [this, hZ]
  have B0 : Below n w ((w.alloc Z).alloc Z) := by have := x0.below; rwa [hn] at this
  have hs0 : n + 2 ≤ ((w.alloc Z).alloc Z).heap.size := by rw [World.size_alloc, World.size_alloc, hn]; exact Nat.le_refl _
  subst hZ
  go_enter Tryd.func63, Tryd.ntmps63
  go_wp2_with fail
  go_loopg [2] 12289 (fun k i wr => ∃ (j : Nat) (v : Value), j + k = 12289 ∧ i = .int .i32 (j : Int) ∧ wr.heap[n]? = some (.cells #[.slice none 0 0, .bool false] 24 (0, 0)) ∧ wr.heap[n + 1]? = some (.cells #[v, .bool false] 24 (0, 0)) ∧
    wr.ownsRow (n + 2) 21 1 v (blankR j).length ((blankR j).map (Value.int .i32)) ∧ n + 2 ≤ wr.heap.size ∧ Below n w wr)
  case atStart => exact ⟨0, .slice none 0 0, by omega, rfl, q0, q1, World.ownsRow_nil _ _ _ _, hs0, B0⟩
  case round =>
    obtain ⟨j, v, hj, rfl, b0, b1, hown, hsz, hbe⟩ := hrel
    clear q0 q1 B0 hs0 x0
    have HO := Lib.hid hown
    have HB := Lib.hid hbe
    have HJ := Lib.hid hj
    have HB0 := Lib.hid b0
    have HB1 := Lib.hid b1
    have hbl := blankR_len j
    clear hown hbe b0 b1
    by_cases hlt : j < 12289
    · have hg : 0 < gk := by omega
      have hle : (j : Int) ≤ 12288 := by omega
      have cS := spec_space (j : Int) wr
      have HS := Lib.hid (blankR_succ j)
      clear hj
      cases hw : wsP (j : Int)
      · rw [hw] at cS
        have HE := Lib.hid (show blankR (j + 1) = blankR j by rw [HS.out, hw]; simp)
        clear hw
        go_wp2_with (go_at_call 56; refine cS.mono ?_)
        rintro _ w1 ⟨rfl, x1⟩
        go_wp2_with fail
        go_roundg (gk - 1)
        case measure => omega
        case rel => exact ⟨j + 1, v, by have := HJ.out; omega, by go_num, by rw [x1.block (by omega)]; exact HB0.out, by rw [x1.block (by omega)]; exact HB1.out, by rw [HE.out]; exact owns_keep HO.out x1, Nat.le_trans hsz x1.size, below_ext HB.out x1 (by omega)⟩
      · rw [hw] at cS
        have HE := Lib.hid (show blankR (j + 1) = blankR j ++ [(j : Int)] by rw [HS.out, hw]; simp)
        clear hw
        go_wp2_with (go_at_call 56; refine cS.mono ?_)
        rintro _ w1 ⟨rfl, x1⟩
        have xA : Ext wr (w1.alloc (.cells #[.int .i32 (j : Int)] 21)) := x1.trans (Ext.alloc _ _)
        have O1 := owns_keep HO.out xA
        have B1 := below_ext HB.out xA (by omega)
        have hn1 : n + 2 ≤ (w1.alloc (.cells #[.int .i32 (j : Int)] 21)).heap.size := Nat.le_trans hsz xA.size
        have p0 := (xA.block (k := n) (by omega)).trans HB0.out
        have p1 := (xA.block (k := n + 1) (by omega)).trans HB1.out
        have p1' := (x1.block (k := n + 1) (by omega)).trans HB1.out
        have f0 : w1.cell? ⟨n + 1, 0, none⟩ = some v := by simp [World.cell?, p1']
        have HO1 := Lib.hid O1
        have HBB := Lib.hid B1
        have HP0 := Lib.hid p0
        have HP1 := Lib.hid p1
        clear x1 cS xA p1' O1 B1 p0 p1
        go_wp2_with (refine wpList_appendV rfl 22 _ _ rfl 21 1 4 _ Tryd.underlying22 info_i32 rfl (by omega) (n + 2) _ _ _ rfl HO1.out _ 1 _ [.int .i32 (j : Int)] rfl rfl (news_alloc _ _ _) (by simp [Value.oneCell']) (by omega) (by omega) hn1 ?_)
        intro v2 w2 o2 g2
        have B2 := owns_grown HO1.out g2 hn1 HBB.out (by omega)
        have hfr := owns_frame HO1.out g2
        have p0 := (hfr.block n (by omega) (.inl (by omega))).trans HP0.out
        have p1 := (hfr.block (n + 1) (by omega) (.inl (by omega))).trans HP1.out
        have hs2 : n + 2 ≤ w2.heap.size := Nat.le_trans hn1 hfr.size
        have s20 : w2.cell? ⟨n + 1, 0, none⟩ = some v := by simp [World.cell?, p1]
        have z20 : w2.frozen? ⟨n + 1, 0, none⟩ = false := by simp [World.frozen?, p1]
        have HQ0 := Lib.hid p0
        have HQ1 := Lib.hid p1
        have HO2 := Lib.hid o2
        obtain ⟨_, a2, c2, hv2, _, _, _⟩ := vs_of_owns o2
        subst hv2
        clear g2 f0 hfr p0 p1 o2
        go_wp2_with fail
        go_roundg (gk - 1)
        case measure => omega
        case rel =>
          have hf2 : Fr (n + 1) (n + 2) w2 (w2.setCell ⟨n + 1, 0, none⟩ (.slice a2 ((blankR j).length + 1) c2)) := Fr.setCell (by simp) (by simp) _
          refine ⟨j + 1, .slice a2 ((blankR j).length + 1) c2, by have := HJ.out; omega, by go_num, by rw [hf2.block n (by omega) (.inl (by omega))]; exact HQ0.out, ?_, ?_, by simpa [World.setCell] using hs2, below_fr B2 hf2 (.inl (by omega)) (by omega)⟩
          · have hf := HQ1.out
            simp only [World.setCell, Array.getElem?_modify]
            simp [hf]
          · rw [HE.out, List.map_append, List.length_append]
            exact owns_keepFr HO2.out hf2 (Nat.le_refl _)
    · have hje : j = 12289 := by omega
      subst hje
      have hle : ¬ ((12289 : Nat) : Int) ≤ 12288 := by omega
      have hf0 := HB0.out
      have hf1 := HB1.out
      have hlen : (blankR 12289).length ≤ 12289 := hbl
      have i2 := vs_of_owns HO.out
      obtain ⟨rs, hrs⟩ : ∃ rs, blankR 12289 = rs := ⟨_, rfl⟩
      rw [hrs] at i2 HO hbl hlen
      have HRS := Lib.hid hrs
      obtain ⟨_, a2, c2, hv, _, _, _⟩ := i2
      subst hv
      have d0 : wr.cell? ⟨n + 1, 0, none⟩ = some (.slice a2 rs.length c2) := by simp [World.cell?, hf1]
      have d1 : wr.cell? ⟨n + 1, 1, none⟩ = some (.bool false) := by simp [World.cell?, hf1]
      have s0 : wr.cell? ⟨n, 0, none⟩ = some (.slice none 0 0) := by simp [World.cell?, hf0]
      have s1 : wr.cell? ⟨n, 1, none⟩ = some (.bool false) := by simp [World.cell?, hf0]
      have z0 : wr.frozen? ⟨n, 0, none⟩ = false := by simp [World.frozen?, hf0]
      have z1 : wr.frozen? ⟨n, 1, none⟩ = false := by simp [World.frozen?, hf0]
      clear hj hf0 hf1 hrs
      go_wp2_with fail
      (try simp only [Exit.inBlock, Exit.then])
      have hf := HB0.out
      refine bodyPost_ret (results_cell_row rfl _ _ n 24 #[.slice a2 rs.length c2, .bool false] (0, 0) _ rfl ?_ Tryd.underlying24 rfl (by kernel_rfl)) rfl ?_
      · simp only [World.setCell, Array.getElem?_modify]
        simp [hf]
      · have hfr : Fr n (n + 1) wr ((wr.setCell ⟨n, 0, none⟩ (.slice a2 rs.length c2)).setCell ⟨n, 1, none⟩ (.bool false)) :=
          (Fr.setCell (by simp) (by simp) _).trans (Fr.setCell (by simp) (by simp) _)
        rw [HRS.out]
        refine ⟨_, rfl, vs_of_owns (owns_keepFr HO.out hfr (show n + 1 ≤ n + 2 by omega)), ⟨?_⟩⟩
        rw [HN.out]
        exact below_fr HB.out hfr (.inl (Nat.le_refl _)) (by omega)

set_option maxRecDepth 100000 in
theorem impl_TrimSpace (sv : Value) (l : List UInt8) (w : World) (hb : Bs w sv l) (h : White w) (hT : Tabs w) (hl : l.length ≤ 140737488355328) :
    Calls Tryd.prog 14 #[sv] w (RetOwn w (tB wsP l)) := by
  have hr := Nat.le_trans (tB_len wsP l) hl
  go_enter Tryd.func14, Tryd.ntmps14
  go_wp2_with (go_at_call 39; refine (bytes_TrimSpace sv l _ hb h hT).mono ?_)
  rintro _ w1 ⟨v1, rfl, b1, x1⟩
  go_wp2_with (go_at_call 38; refine (impl_fresh v1 _ _ b1 hr).mono ?_)
  rintro _ w2 ⟨v2, rfl, o2, x2⟩
  go_wp2_with fail
  go_ret
  exact ⟨_, rfl, o2.mono x1.size (Nat.le_refl _), x1.trans x2⟩

set_option maxRecDepth 100000 in
theorem spec_TextTrimSpace (s : ByteArray) (w : World) (hs : s.size ≤ 1099511627776) :
    Calls Tryd.prog 45 #[.string s] w (RetV (.string ⟨(tB wsP s.data.toList).toArray⟩) w) := by
  rw [← holds_blank']
  have hl1 : (⟨(tlB (holdsT (blankR 12289) false) s.data.toList).toArray⟩ : ByteArray).size ≤ 1099511627776 := by
    have := tlB_len (holdsT (blankR 12289) false) s.data.toList
    exact Nat.le_trans this hs
  obtain ⟨rs, hrs⟩ : ∃ rs, blankR 12289 = rs := ⟨_, rfl⟩
  have cB := fun W => spec_blank W
  simp only [hrs] at cB hl1 ⊢
  clear hrs
  go_enter Tryd.func45, Tryd.ntmps45
  go_wp2_with (go_at_call 63; refine (cB _).mono ?_)
  rintro _ w1 ⟨v1, rfl, i1, x1⟩
  obtain ⟨a1, c1, rfl, _, _, _⟩ := i1.raw
  go_wp2_with (go_at_call 62; refine (spec_trimLeft s _ _ false _ hs i1).mono ?_)
  rintro _ w2 ⟨rfl, x2⟩
  go_wp2_with (go_at_call 63; refine (cB _).mono ?_)
  rintro _ w3 ⟨v3, rfl, i3, x3⟩
  obtain ⟨a3, c3, rfl, _, _, _⟩ := i3.raw
  go_wp2_with (go_at_call 61; refine (spec_trimRight _ _ _ false _ hl1 i3).mono ?_)
  rintro _ w4 ⟨rfl, x4⟩
  go_wp2_with fail
  go_ret
  exact ⟨rfl, x1.trans (x2.trans (x3.trans x4))⟩
set_option maxRecDepth 100000 in
theorem spec_TrimSpace (sv : Value) (l : List UInt8) (w : World) (hl : l.length ≤ 1099511627776) (hb : Bs w sv l) :
    Calls Tryd.prog 20 #[sv] w (RetOwn w (tB wsP l)) := by
  have hlen : (tB wsP l).length ≤ maxLen := by
    have e := tB_len wsP l
    unfold maxLen; omega
  go_enter Tryd.func20, Tryd.ntmps20
  go_wp2_with (first | refine wpList_toString rfl 27 9 _ rfl 5 Tryd.underlying27 Tryd.underlying5 Tryd.underlying9 _ _ rfl hb ?_ | (go_at_call 45; refine (spec_TextTrimSpace ⟨l.toArray⟩ _ hl).mono ?_))
  rintro _ w1 ⟨rfl, x1⟩
  go_wp2_with (refine wpList_toBytes rfl 9 27 _ rfl 5 Tryd.underlying9 Tryd.underlying27 Tryd.underlying5 _ rfl ?_ ?_)
  · exact hlen
  intro v3 w3 o3 x3
  go_wp2_with fail
  go_ret
  exact ⟨_, rfl, o3.mono x1.size (Nat.le_refl _), x1.trans x3⟩
end Go.Proofs.YthbfdajbajijeaaDoor
