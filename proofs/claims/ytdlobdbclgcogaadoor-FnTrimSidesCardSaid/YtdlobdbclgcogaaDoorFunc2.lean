/- The walks of bytes.TrimLeftFunc, TrimRightFunc, TrimFunc. Printed by funcs.py. -/
import Derived.Test.YtdlobdbclgcogaaDoorFunc
namespace Go.Proofs.YtdlobdbclgcogaaDoor
open Go.RowKit

/-- A call's answer: a slice of the bytes l. -/
def RetB (w : World) (l : List UInt8) (e : Ending) (w' : World) : Prop := ∃ v, e = .returned v ∧ Bs w' v l ∧ Ext w w'

theorem lastC_range (p : Int → Bool) : ∀ (cs : List Ch) (o : Nat), lastC p o cs = -1 ∧ (∀ c ∈ cs, p c.r = false) ∨ ∃ i, ∃ h : i < cs.length, lastC p o cs = ((o + placeOf cs i : Nat) : Int) ∧ (∀ c ∈ cs.drop (i + 1), p c.r = false) ∧ p cs[i].r = true
  | [], _ => .inl ⟨rfl, by simp⟩
  | c :: cs, o => by
    rcases lastC_range p cs (o + c.bs.length) with ⟨e, hn⟩ | ⟨i, hi, e, hn, hi2⟩
    · cases hp : p c.r
      · refine .inl ⟨by rw [lastC, e, hp]; simp, ?_⟩
        intro d hd
        rcases List.mem_cons.1 hd with rfl | hd
        · exact hp
        · exact hn d hd
      · exact .inr ⟨0, by simp, by rw [lastC, e, hp]; simp [placeOf, glue], by simpa using hn, by simpa using hp⟩
    · refine .inr ⟨i + 1, by simpa using hi, ?_, by simpa using hn, by simpa using hi2⟩
      rw [lastC, e, if_pos (by omega)]
      congr 1
      simp [placeOf, List.take_succ_cons, glue_cons]
      omega

set_option maxRecDepth 100000 in
theorem bytes_TrimLeftFunc (sv : Value) (l : List UInt8) (v : Value) (rs : List Int) (nt : Bool) (w : World) (hb : Bs w sv l) (h : Is w v rs) (hT : Tabs w) :
    Calls Tryd.prog 62 #[sv, .func (.func 49) #[.agg #[v, .bool nt]] #[]] w (RetB w (glue (trimL (holdsT rs nt) (chunks l)))) := by
  have cI := bytes_indexFunc sv l v rs nt false w hb h hT
  have hr := firstC_range (fun r => holdsT rs nt r == false) (chunks l) 0
  change idxC (holdsT rs nt) false (chunks l) = -1 ∧ _ ∨ ∃ i, ∃ h : i < (chunks l).length, idxC (holdsT rs nt) false (chunks l) = _ ∧ _ at hr
  have hgl : glue (chunks l) = l := glue_chunks l
  obtain ⟨cs, hcs⟩ : ∃ cs, chunks l = cs := ⟨_, rfl⟩
  rw [hcs] at cI hr hgl ⊢
  rcases hr with ⟨e, hn⟩ | ⟨i, hi, e, hn, hp⟩
  · have HR := Lib.hid (trimL_none (holdsT rs nt) cs (fun c hc => by have := hn c hc; revert this; cases holdsT rs nt c.r <;> simp))
    rw [e] at cI
    clear e hn hcs hgl
    go_enter Tryd.func62, Tryd.ntmps62
    go_wp2_with (go_at_call 84; refine cI.mono ?_)
    rintro _ w1 ⟨rfl, x1⟩
    go_wp2_with fail
    go_ret
    exact ⟨_, rfl, by rw [HR.out]; exact Bs.nil _, x1⟩
  · have HR := Lib.hid (show glue (trimL (holdsT rs nt) cs) = l.drop (placeOf cs i) by
      rw [trimL_at (holdsT rs nt) cs i hi (fun c hc => by have := hn c hc; revert this; cases holdsT rs nt c.r <;> simp) (by revert hp; cases holdsT rs nt cs[i].r <;> simp), glue_drop, hgl])
    have hle : placeOf cs i ≤ l.length := by
      have := placeOf_le cs i
      rwa [hgl] at this
    rw [e, Nat.zero_add] at cI
    have hne : ((placeOf cs i : Int) == -1) = false := by rw [beq_eq_false_iff_ne]; omega
    clear e hn hcs hgl hp
    go_enter Tryd.func62, Tryd.ntmps62
    go_wp2_with (go_at_call 84; refine cI.mono ?_)
    rintro _ w1 ⟨rfl, x1⟩
    replace hb := hb.ext x1
    go_wp2_with (refine wpList_subL rfl 24 _ _ rfl 5 Tryd.underlying24 info_u8' _ _ rfl hb _ _ rfl (placeOf cs i) rfl hle ?_)
    intro v2 b2 _
    go_wp2_with fail
    go_ret
    exact ⟨_, rfl, by rw [HR.out]; exact b2, x1⟩

set_option maxRecDepth 100000 in
theorem bytes_TrimRightFunc (sv : Value) (l : List UInt8) (v : Value) (rs : List Int) (nt : Bool) (w : World) (hb : Bs w sv l) (h : Is w v rs) (hT : Tabs w) :
    Calls Tryd.prog 63 #[sv, .func (.func 49) #[.agg #[v, .bool nt]] #[]] w (RetB w (glue (trimR (holdsT rs nt) (chunks l)))) := by
  have cI := bytes_lastIndexFunc sv l v rs nt false w hb h hT
  have hr := lastC_range (fun r => holdsT rs nt r == false) (chunks l) 0
  change lidxC (holdsT rs nt) false (chunks l) = -1 ∧ _ ∨ ∃ i, ∃ h : i < (chunks l).length, lidxC (holdsT rs nt) false (chunks l) = _ ∧ _ at hr
  have hlen := hb.len
  have hgl : glue (chunks l) = l := glue_chunks l
  obtain ⟨cs, HCS, HPL, HDE, HPE, HPA, HLA, HPN, HRG⟩ := chunk_facts l
  rw [HCS.out] at cI hr hgl ⊢
  rcases hr with ⟨e, hn⟩ | ⟨i, hi, e, hn, hp⟩
  · have HR := Lib.hid (trimR_none (holdsT rs nt) cs (fun c hc => by have := hn c hc; revert this; cases holdsT rs nt c.r <;> simp))
    rw [e] at cI
    clear e hn hgl
    go_enter Tryd.func63, Tryd.ntmps63
    go_wp2_with (go_at_call 85; refine cI.mono ?_)
    rintro _ w1 ⟨rfl, x1⟩
    replace hb := hb.ext x1
    go_wp2_with (refine wpList_subLH rfl 24 _ _ _ rfl 5 Tryd.underlying24 info_u8' _ _ rfl hb _ _ _ _ rfl rfl 0 0 rfl rfl (by omega) (by omega) ?_)
    intro v2 b2 _
    go_wp2_with fail
    go_ret
    exact ⟨_, rfl, by rw [HR.out, glue_nil]; simpa [part] using b2, x1⟩
  · have HR := Lib.hid (show glue (trimR (holdsT rs nt) cs) = l.take (placeOf cs (i + 1)) by
      rw [trimR_at (holdsT rs nt) cs i hi (fun c hc => by have := hn c hc; revert this; cases holdsT rs nt c.r <;> simp) (by revert hp; cases holdsT rs nt cs[i].r <;> simp), glue_take, hgl])
    have hpe := HPE.out i hi
    have hle := HPN.out (i + 1)
    have hlt := HPL.out i hi
    have hrg := HRG.out i hi
    obtain ⟨hne, hdec⟩ := HDE.out i hi
    rw [e, Nat.zero_add] at cI
    obtain ⟨p, hpp⟩ : ∃ p, placeOf cs i = p := ⟨_, rfl⟩
    obtain ⟨p2, hpp2⟩ : ∃ p2, placeOf cs (i + 1) = p2 := ⟨_, rfl⟩
    rw [hpp] at cI hpe hlt hne hdec
    rw [hpp2] at hpe hle HR
    obtain ⟨x, hx⟩ : ∃ x, l[p]? = some x := ⟨_, List.getElem?_eq_getElem hlt⟩
    have hxl := x.toNat_lt
    have hd0 : (l.drop p).getD 0 0 = x := by rw [List.getD_eq_getElem?_getD, List.getElem?_drop, Nat.add_zero, hx]; rfl
    have hasc : x.toNat < 128 → p2 = p + 1 := fun ha => by
      obtain ⟨y, t, hy⟩ : ∃ y t, l.drop p = y :: t := by
        cases hq : l.drop p with
        | nil => exact (hne hq).elim
        | cons y t => exact ⟨y, t, rfl⟩
      rw [hy] at hdec hd0
      simp only [List.getD_cons_zero] at hd0
      subst hd0
      rw [dec_ascii _ t ha] at hdec
      injection hdec with _ h2
      omega
    obtain ⟨a, c, hsv, hcap, hcm, h3⟩ := id hb
    subst hsv
    obtain ⟨b, o, ha, hcell⟩ : ∃ b o, a = some ⟨b, o, none⟩ ∧ w.cell? ⟨b, o + p, none⟩ = some (.int .u8 (x.toNat : Int)) := by
      rcases h3 with h3 | ⟨b, o, ha, hc⟩
      · rw [h3] at hlt; simp at hlt
      · refine ⟨b, o, ha, ?_⟩
        rw [hc p hlt]
        rw [List.getElem?_eq_getElem hlt] at hx
        injection hx with hx
        rw [hx]
    subst ha
    clear e hn hgl hp h3 hx hd0
    go_enter Tryd.func63, Tryd.ntmps63
    go_wp2_with (go_at_call 85; refine cI.mono ?_)
    rintro _ w1 ⟨rfl, x1⟩
    replace hb := hb.ext x1
    replace hcell := x1.cell hcell
    replace hT := hT.ext x1
    by_cases h128 : x.toNat < 128
    · have hp2 := hasc h128
      subst hp2
      clear hasc hdec hne cI hpe
      go_wp2_with (refine wpList_subLH rfl 24 _ _ _ rfl 5 Tryd.underlying24 info_u8' _ _ rfl hb _ _ _ _ rfl rfl 0 (p + 1) rfl (by go_num) (by omega) (by omega) ?_)
      intro v2 b2 _
      go_wp2_with fail
      go_ret
      exact ⟨_, rfl, by rw [HR.out]; simpa [part] using b2, x1⟩
    · clear hasc cI
      have hsum : p + cs[i].bs.length ≤ l.length := by omega
      go_wp2_with (refine wpList_subL rfl 24 _ _ rfl 5 Tryd.underlying24 info_u8' _ _ rfl hb _ _ rfl p rfl (by omega) ?_)
      intro v2 b2 _
      go_wp2_with (go_at_call 70; refine (utf8_DecodeRune v2 _ _ b2 hne hT).mono ?_)
      rintro _ w2 ⟨rfl, x2⟩
      rw [hdec]
      replace hb := hb.ext x2
      clear hdec hne b2
      go_wp2_with (refine wpList_subLH rfl 24 _ _ _ rfl 5 Tryd.underlying24 info_u8' _ _ rfl hb _ _ _ _ rfl rfl 0 p2 rfl (by rw [← hpe]; go_num) (by omega) (by omega) ?_)
      intro v3 b3 _
      go_wp2_with fail
      go_ret
      exact ⟨_, rfl, by rw [HR.out]; simpa [part] using b3, x1.trans x2⟩

set_option maxRecDepth 100000 in
theorem bytes_TrimFunc (sv : Value) (l : List UInt8) (v : Value) (rs : List Int) (nt : Bool) (w : World) (hb : Bs w sv l) (h : Is w v rs) (hT : Tabs w) :
    Calls Tryd.prog 61 #[sv, .func (.func 49) #[.agg #[v, .bool nt]] #[]] w (RetB w (glue (trimR (holdsT rs nt) (chunks (glue (trimL (holdsT rs nt) (chunks l))))))) := by
  go_enter Tryd.func61, Tryd.ntmps61
  go_wp2_with (go_at_call 62; refine (bytes_TrimLeftFunc sv l v rs nt w hb h hT).mono ?_)
  rintro _ w1 ⟨v1, rfl, b1, x1⟩
  go_wp2_with (go_at_call 63; refine (bytes_TrimRightFunc v1 _ v rs nt w1 b1 (h.ext x1) (hT.ext x1)).mono ?_)
  rintro _ w2 ⟨v2, rfl, b2, x2⟩
  go_wp2_with fail
  go_ret
  exact ⟨_, rfl, b2, x1.trans x2⟩

end Go.Proofs.YtdlobdbclgcogaaDoor
