/- The walks of bytes.indexFunc and its kin, over a function value on code points. Printed by funcs.py. -/
import Derived.Test.YtdlobdbclgcogaaDoorDec
import Derived.Test.YtdlobdbclgcogaaDoorWrapA
namespace Go.Proofs.YtdlobdbclgcogaaDoor
open Go.RowKit

/-- The place of the first code point of which the test says 'truth'. -/
def idxC (p : Int → Bool) (truth : Bool) (cs : List Ch) : Int := firstC (fun r => p r == truth) 0 cs
def lidxC (p : Int → Bool) (truth : Bool) (cs : List Ch) : Int := lastC (fun r => p r == truth) 0 cs

set_option maxRecDepth 100000 in
theorem bytes_indexFunc (sv : Value) (l : List UInt8) (v : Value) (rs : List Int) (nt : Bool) (truth : Bool) (w : World) (hb : Bs w sv l) (h : Is w v rs) (hT : Tabs w) :
    Calls Tryd.prog 84 #[sv, .func (.func 49) #[.agg #[v, .bool nt]] #[], .bool truth] w (RetV (.int .i64 (idxC (holdsT rs nt) truth (chunks l))) w) := by
  have hlen := hb.len
  obtain ⟨a, c, hsv, hcap, hcm⟩ := hb.shape
  subst hsv
  obtain ⟨cs, HCS, HPL, HDE, HPE, HPA, HLA, HPN, HRG⟩ := chunk_facts l
  have HI := Lib.hid h
  have HT := Lib.hid hT
  have HBS := Lib.hid hb
  clear h hT hb
  go_enter Tryd.func84, Tryd.ntmps84
  go_wp2_with fail
  go_loopg [7] cs.length (fun k i wr => ∃ j : Nat, j + k = cs.length ∧ i = .int .i64 (placeOf cs j : Int) ∧ (∀ c ∈ cs.take j, (holdsT rs nt c.r == truth) = false) ∧ Ext w wr)
  case atStart => exact ⟨0, by omega, rfl, by simp, Ext.refl _⟩
  case round =>
    obtain ⟨j, hj, rfl, hn, hx⟩ := hrel
    have HN := Lib.hid hn
    have HJ := Lib.hid hj
    have HX := Lib.hid hx
    clear hn hx
    by_cases hlt : j < cs.length
    · have hg : 0 < gk := by omega
      have hpj := HPL.out j hlt
      have hb := HBS.out.ext HX.out
      obtain ⟨hne, hdec⟩ := HDE.out j hlt
      have hpe := HPE.out j hlt
      have hle := HPN.out (j + 1)
      obtain ⟨p, hp⟩ : ∃ p, placeOf cs j = p := ⟨_, rfl⟩
      rw [hp] at hpj hne hdec hpe ⊢
      have HPJ := Lib.hid hp
      have HPE2 := Lib.hid hpe
      have hsum : p + cs[j].bs.length ≤ l.length := by omega
      clear hj hp
      go_wp2_with (refine wpList_subL rfl 24 _ _ rfl 5 Tryd.underlying24 info_u8' _ _ rfl hb _ _ rfl p rfl (by omega) ?_)
      intro v2 b2 _
      go_wp2_with (go_at_call 70; refine (utf8_DecodeRune v2 _ _ b2 hne (HT.out.ext HX.out)).mono ?_)
      rintro _ w2 ⟨rfl, x2⟩
      rw [hdec]
      have HX2 := Lib.hid (HX.out.trans x2)
      have cH := impl_holds v rs nt cs[j].r w2 (HI.out.ext HX2.out)
      clear x2 b2 hb hdec hne hpe
      cases hh : (holdsT rs nt cs[j].r)
      · rw [hh] at cH
        cases truth
        · go_wp2_with (go_at_call 49; refine cH.mono ?_; rintro _ w3 ⟨rfl, x3⟩)
          go_ret
          refine ⟨?_, HX2.out.trans x3⟩
          rw [HCS.out]
          unfold idxC
          rw [firstC_at _ cs 0 j hlt HN.out (by rw [hh]; rfl), Nat.zero_add, HPJ.out]
          rfl
        · go_wp2_with (go_at_call 49; refine cH.mono ?_; rintro _ w3 ⟨rfl, x3⟩)
          go_roundg (gk - 1)
          case measure => omega
          case rel =>
            refine ⟨j + 1, by have := HJ.out; omega, ?_, take_snoc_all (p := fun r => holdsT rs nt r == true) hlt HN.out (by rw [hh]; rfl), HX2.out.trans x3⟩
            rw [← HPE2.out]
            go_num
      · rw [hh] at cH
        cases truth
        · go_wp2_with (go_at_call 49; refine cH.mono ?_; rintro _ w3 ⟨rfl, x3⟩)
          go_roundg (gk - 1)
          case measure => omega
          case rel =>
            refine ⟨j + 1, by have := HJ.out; omega, ?_, take_snoc_all (p := fun r => holdsT rs nt r == false) hlt HN.out (by rw [hh]; rfl), HX2.out.trans x3⟩
            rw [← HPE2.out]
            go_num
        · go_wp2_with (go_at_call 49; refine cH.mono ?_; rintro _ w3 ⟨rfl, x3⟩)
          go_ret
          refine ⟨?_, HX2.out.trans x3⟩
          rw [HCS.out]
          unfold idxC
          rw [firstC_at _ cs 0 j hlt HN.out (by rw [hh]; rfl), Nat.zero_add, HPJ.out]
          rfl
    · have hje : j = cs.length := by omega
      subst hje
      have hpl : placeOf cs cs.length = l.length := HPA.out
      rw [hpl]
      clear hj
      go_wp2_with fail
      go_ret
      refine ⟨?_, HX.out⟩
      rw [HCS.out]
      unfold idxC
      rw [firstC_none _ cs 0 (by have := HN.out; rwa [List.take_length] at this)]
      rfl


set_option maxRecDepth 100000 in
set_option maxHeartbeats 2000000 in
theorem bytes_lastIndexFunc (sv : Value) (l : List UInt8) (v : Value) (rs : List Int) (nt : Bool) (truth : Bool) (w : World) (hb : Bs w sv l) (h : Is w v rs) (hT : Tabs w) :
    Calls Tryd.prog 85 #[sv, .func (.func 49) #[.agg #[v, .bool nt]] #[], .bool truth] w (RetV (.int .i64 (lidxC (holdsT rs nt) truth (chunks l))) w) := by
  have hlen := hb.len
  obtain ⟨a, c, hsv, hcap, hcm⟩ := hb.shape
  subst hsv
  obtain ⟨cs, HCS, HPL, HDE, HPE, HPA, HLA, HPN, HRG⟩ := chunk_facts l
  have HI := Lib.hid h
  have HT := Lib.hid hT
  have HBS := Lib.hid hb
  clear h hT hb
  go_enter Tryd.func85, Tryd.ntmps85
  go_wp2_with fail
  go_loopg [7] cs.length (fun k i wr => k ≤ cs.length ∧ i = .int .i64 (placeOf cs k : Int) ∧ (∀ c ∈ cs.drop k, (holdsT rs nt c.r == truth) = false) ∧ Ext w wr)
  case atStart => exact ⟨Nat.le_refl _, by rw [HPA.out], by simp, Ext.refl _⟩
  case round =>
    obtain ⟨hk, rfl, hn, hx⟩ := hrel
    have HN := Lib.hid hn
    have HX := Lib.hid hx
    clear hn hx
    rcases Nat.eq_zero_or_pos gk with h0 | h0
    · subst h0
      have hp0 : placeOf cs 0 = 0 := rfl
      rw [hp0]
      go_wp2_with fail
      go_ret
      refine ⟨?_, HX.out⟩
      rw [HCS.out]
      unfold lidxC
      rw [lastC_none _ cs 0 (by simpa using HN.out)]
      rfl
    · obtain ⟨j, rfl⟩ : ∃ j, gk = j + 1 := ⟨gk - 1, by omega⟩
      have hlt : j < cs.length := hk
      have hb := HBS.out.ext HX.out
      have hpe := HPE.out j hlt
      have hle := HPN.out (j + 1)
      have hrg := HRG.out j hlt
      have hlast := HLA.out j hlt
      obtain ⟨p, hp⟩ : ∃ p, placeOf cs (j + 1) = p := ⟨_, rfl⟩
      rw [hp] at hpe hle hlast ⊢
      have hp1 : 1 ≤ p := by omega
      have HP0 := Lib.hid (show (p : Int) - (cs[j].bs.length : Int) = (placeOf cs j : Int) by omega)
      have HLT := Lib.hid hlast
      have hdl := decLast hlast
      have htn : l.take p ≠ [] := by
        intro e
        have := congrArg List.length e
        rw [List.length_take, List.length_nil] at this
        omega
      have htl : (l.take p).length = p := by rw [List.length_take]; omega
      obtain ⟨x, hx⟩ : ∃ x, l[p - 1]? = some x := ⟨_, List.getElem?_eq_getElem (by omega)⟩
      have hxg : (l.take p).getD ((l.take p).length - 1) 0 = x := by
        rw [htl, List.getD_eq_getElem?_getD, List.getElem?_take, if_pos (by omega), hx]; rfl
      have hcell : ∃ b o, a = some ⟨b, o, none⟩ ∧ wr.cell? ⟨b, o + (p - 1), none⟩ = some (.int .u8 (x.toNat : Int)) := by
        obtain ⟨a', c', hv, _, _, h3⟩ := hb
        injection hv with hv1 _ _
        rcases h3 with h3 | ⟨b, o, rfl, hc⟩
        · rw [h3] at htn; simp at htn
        · refine ⟨b, o, hv1, ?_⟩
          have hl1 : p - 1 < l.length := by omega
          rw [hc (p - 1) hl1]
          rw [List.getElem?_eq_getElem hl1] at hx
          injection hx with hx
          rw [hx]
      obtain ⟨b, o, rfl, hq⟩ := hcell
      have hxl := x.toNat_lt
      have hpi : ((p : Int) - 1) = ((p - 1 : Nat) : Int) := by omega
      have cH := fun W (y : Ext wr W) => impl_holds v rs nt cs[j].r W (HI.out.ext (HX.out.trans y))
      clear h0 hp hlast htl
      by_cases hasc : x.toNat < 128
      · have hrs : (cs[j].r = x.toNat) ∧ cs[j].bs.length = 1 := by
          unfold Lib.decodeLastL at hdl
          rw [if_neg htn, hxg, if_pos hasc] at hdl
          injection hdl with d1 d2
          exact ⟨d1.symm, d2.symm⟩
        have hr1 : (cs[j].r : Int) = (x.toNat : Int) := by rw [hrs.1]
        have HR2 := Lib.hid (show ((p - 1 : Nat) : Int) = (placeOf cs j : Int) by have := HP0.out; rw [hrs.2] at this; rw [← hpi]; exact this)
        have cH1 := cH wr (Ext.refl _)
        rw [hr1] at cH1
        clear hdl htn hxg hrs cH
        cases hh : (holdsT rs nt (x.toNat : Int))
        all_goals
          rw [hh] at cH1
          cases truth
        all_goals
          go_wp2_with (go_at_call 49; refine cH1.mono ?_; rintro _ w3 ⟨rfl, x3⟩)
        · go_ret
          refine ⟨?_, HX.out.trans x3⟩
          rw [HCS.out]
          unfold lidxC
          rw [lastC_at _ cs 0 j hlt HN.out (by rw [hr1, hh]; rfl), Nat.zero_add, ← HR2.out]
          rfl
        · go_roundg j
          case measure => omega
          case rel => exact ⟨by omega, by rw [← HR2.out], drop_cons_all (p := fun r => holdsT rs nt r == true) hlt HN.out (by rw [hr1, hh]; rfl), HX.out.trans x3⟩
        · go_roundg j
          case measure => omega
          case rel => exact ⟨by omega, by rw [← HR2.out], drop_cons_all (p := fun r => holdsT rs nt r == false) hlt HN.out (by rw [hr1, hh]; rfl), HX.out.trans x3⟩
        · go_ret
          refine ⟨?_, HX.out.trans x3⟩
          rw [HCS.out]
          unfold lidxC
          rw [lastC_at _ cs 0 j hlt HN.out (by rw [hr1, hh]; rfl), Nat.zero_add, ← HR2.out]
          rfl
      · clear hdl htn hxg
        have hps : cs[j].bs.length ≤ p := by omega
        go_wp2_with (refine wpList_subLH rfl 24 _ _ _ rfl 5 Tryd.underlying24 info_u8' _ _ rfl hb _ _ _ _ rfl rfl 0 p rfl rfl (by omega) (by omega) ?_)
        intro v2 b2 _
        have ep : part l 0 p = l.take p := by unfold part; simp
        rw [ep] at b2
        go_wp2_with (go_at_call 98; refine (utf8_DecodeLastRune v2 _ _ b2 _ _ HLT.out (HT.out.ext HX.out)).mono ?_)
        rintro _ w2 ⟨rfl, x2⟩
        have cH1 := cH w2 x2
        have HX2 := Lib.hid (HX.out.trans x2)
        clear b2 ep cH x2 hb
        cases hh : (holdsT rs nt cs[j].r)
        all_goals
          rw [hh] at cH1
          cases truth
        all_goals
          go_wp2_with (go_at_call 49; refine cH1.mono ?_; rintro _ w3 ⟨rfl, x3⟩)
        · go_ret
          refine ⟨?_, HX2.out.trans x3⟩
          rw [HCS.out]
          unfold lidxC
          rw [lastC_at _ cs 0 j hlt HN.out (by rw [hh]; rfl), Nat.zero_add, ← HP0.out]
          rfl
        · go_roundg j
          case measure => omega
          case rel => exact ⟨by omega, by rw [← HP0.out], drop_cons_all (p := fun r => holdsT rs nt r == true) hlt HN.out (by rw [hh]; rfl), HX2.out.trans x3⟩
        · go_roundg j
          case measure => omega
          case rel => exact ⟨by omega, by rw [← HP0.out], drop_cons_all (p := fun r => holdsT rs nt r == false) hlt HN.out (by rw [hh]; rfl), HX2.out.trans x3⟩
        · go_ret
          refine ⟨?_, HX2.out.trans x3⟩
          rw [HCS.out]
          unfold lidxC
          rw [lastC_at _ cs 0 j hlt HN.out (by rw [hh]; rfl), Nat.zero_add, ← HP0.out]
          rfl

end Go.Proofs.YtdlobdbclgcogaaDoor
