/- The walks of ToValidUTF8: the library's, the thin package's and the reference model's; whole texts. -/
import Derived.Test.YtlbaoghebjaliaaDoorDec
import Derived.Test.YtlbaoghebjaliaaDoorMapP
import Derived.Test.YtlbaoghebjaliaaDoorGlued
import Derived.Test.YtlbaoghebjaliaaDoorWrapA
import Derived.Test.YtlbaoghebjaliaaDoorMonoIn
import Derived.Deep.DeepCutAuto
namespace Go.Proofs.YtlbaoghebjaliaaDoor
open Go.RowKit

theorem chunk_at (l : List UInt8) (j : Nat) (hj : j < (chunks l).length) : (chunks l)[j] = ⟨(l.drop (placeOf (chunks l) j)).take (dec (l.drop (placeOf (chunks l) j))).2, (dec (l.drop (placeOf (chunks l) j))).1, decOk (l.drop (placeOf (chunks l) j))⟩ := by
  have hne := (dec_at l j hj).1
  have h1 := chunks_post ((chunks l).take j) ((chunks l).drop j) l (List.take_append_drop _ _).symm
  have h2 : glue ((chunks l).drop j) = l.drop (placeOf (chunks l) j) := by
    have e1 : glue ((chunks l).take j) ++ glue ((chunks l).drop j) = l := by rw [← glue_append, List.take_append_drop, glue_chunks]
    have e2 := congrArg (List.drop (placeOf (chunks l) j)) e1
    rw [← e2, List.drop_left' (show (glue ((chunks l).take j)).length = placeOf (chunks l) j from rfl)]
  rw [h2, chunks_cons hne, List.drop_eq_getElem_cons hj] at h1
  exact (List.cons.inj h1).1.symm

/-- A code point's bytes, and whether it is a well-formed sequence. -/
theorem chunk_ok_at (l : List UInt8) (j : Nat) (hj : j < (chunks l).length) (hp : placeOf (chunks l) j < l.length) :
    (chunks l)[j].bs = part l (placeOf (chunks l) j) (placeOf (chunks l) j + (chunks l)[j].bs.length) ∧ (chunks l)[j].ok = (decide ((l[placeOf (chunks l) j]).toNat < 128) || decide (2 ≤ (chunks l)[j].bs.length)) ∧
    ((l[placeOf (chunks l) j]).toNat < 128 → (chunks l)[j].bs = [l[placeOf (chunks l) j]]) := by
  have h := chunk_at l j hj
  have hd := dec_at l j hj
  have h2 : (dec (l.drop (placeOf (chunks l) j))).2 = (chunks l)[j].bs.length := by rw [hd.2]
  have h3 : (l.drop (placeOf (chunks l) j)).getD 0 0 = l[placeOf (chunks l) j] := by simp [List.getD, hp]
  refine ⟨?_, ?_, fun hc => ?_⟩
  · have := congrArg Ch.bs h
    simp only [h2] at this
    rw [part, List.drop_take]
    simpa using this
  · have := congrArg Ch.ok h
    simp only [decOk, h2, h3] at this
    exact this
  · have e : l.drop (placeOf (chunks l) j) = l[placeOf (chunks l) j] :: l.drop (placeOf (chunks l) j + 1) := List.drop_eq_getElem_cons hp
    have := congrArg Ch.bs h
    simp only at this
    rw [this, e, dec_ascii _ _ hc]
    rfl

theorem Bs.raw {w : World} {v : Value} {l : List UInt8} (h : Bs w v l) : ∃ a c, v = .slice a l.length c ∧ l.length ≤ c ∧ c ≤ maxLen ∧ ∀ i (h : i < l.length), ∃ b o, a = some ⟨b, o, none⟩ ∧ w.cell? ⟨b, o + i, none⟩ = some (.int .u8 (l[i].toNat : Int)) := by
  obtain ⟨a, c, hv, h1, h2, h3⟩ := h
  refine ⟨a, c, hv, h1, h2, fun i hi => ?_⟩
  rcases h3 with rfl | ⟨b, o, ha, hc⟩
  · cases hi
  · exact ⟨b, o, ha, hc i hi⟩

theorem mendC_step (by_ : List UInt8) (bad : Bool) (cs : List Ch) (j : Nat) (hj : j < cs.length) : mendC by_ bad (cs.drop j) = (if cs[j].ok then cs[j].bs else if bad then [] else by_) ++ mendC by_ (!cs[j].ok) (cs.drop (j + 1)) := by
  rw [List.drop_eq_getElem_cons hj, mendC]

set_option maxRecDepth 100000 in
set_option maxHeartbeats 4000000 in
theorem bytes_ToValidUTF8 (sv rv : Value) (l r : List UInt8) (w : World) (hb : Bs w sv l) (hr : Bs w rv r) (hT : Tabs w) (hl : l.length ≤ 70368744177664) (hrl : r.length ≤ 70368744177664) (hA : (mendB r l).length ≤ 140737488355328) :
    Calls Tryd.prog 63 #[sv, rv] w (RetOwn w (mendB r l)) := by
  obtain ⟨sa, c, hsv, hcap, hcm, hcell⟩ := hb.raw
  subst hsv
  obtain ⟨ar, cr, hrv, _, _⟩ := hr.shape
  subst hrv
  have HOK := Lib.hid (chunk_ok_at l)
  obtain ⟨cs, HCS, HPL, HDE, HPE, HPA, HLA, HPN, HRG⟩ := chunk_facts l
  rw [HCS.out] at HOK
  have hA2 : (mendC r false cs).length ≤ 140737488355328 := by rw [← HCS.out]; exact hA
  have HAA := Lib.hid (show mendB r l = mendC r false cs by rw [← HCS.out]; rfl)
  obtain ⟨A, hAe⟩ : ∃ A, mendC r false cs = A := ⟨_, rfl⟩
  rw [hAe] at hA2
  have HA := Lib.hid hAe
  have HC := Lib.hid hcell
  have HB := Lib.hid hb
  have HR := Lib.hid hr
  have HT := Lib.hid hT
  clear hcell hb hr hT hA hAe
  go_enter Tryd.func63, Tryd.ntmps63
  go_wp2_with (refine wpList_mkBuf rfl 30 _ _ rfl 5 Tryd.underlying30 info_u8' _ _ _ (l.length + r.length) rfl rfl (by go_num) (by omega) ?_)
  intro v0 w0 g0 x0
  go_wp2_with fail
  go_loopg [5, 6, 7] cs.length (fun k o b i wr => ∃ (j : Nat) (out : List UInt8) (bad : Bool), j + k = cs.length ∧ i = .int .i64 (placeOf cs j : Int) ∧ b = .bool bad ∧ Buf w.heap.size 5 wr o out ∧ out ++ mendC r bad (cs.drop j) = A ∧ Ext w wr)
  case atStart => exact ⟨0, [], false, by omega, rfl, rfl, g0, by rw [List.nil_append]; exact HA.out, x0⟩
  case round =>
    obtain ⟨j, out, bad, hj, rfl, rfl, hg, hout, hx⟩ := hrel
    have HJ := Lib.hid hj
    have HX := Lib.hid hx
    have HG := Lib.hid hg
    have hsz := hx.size
    by_cases hlt : j < cs.length
    · have hgk : 0 < gk := by omega
      have hpj := HPL.out j hlt
      obtain ⟨hok1, hok2, hok3⟩ := HOK.out j hlt hpj
      obtain ⟨hne, hdec⟩ := HDE.out j hlt
      have hpe := HPE.out j hlt
      have hle := HPN.out (j + 1)
      obtain ⟨hwp, hw4, _⟩ := HRG.out j hlt
      rw [mendC_step r bad cs j hlt] at hout
      obtain ⟨b, o, rfl, c1⟩ := HC.out _ hpj
      replace c1 := hx.cell c1
      obtain ⟨x, hxx⟩ : ∃ x, l[placeOf cs j] = x := ⟨_, rfl⟩
      rw [hxx] at c1 hok2 hok3
      obtain ⟨p, hp⟩ : ∃ p, placeOf cs j = p := ⟨_, rfl⟩
      have HPJ := Lib.hid hp
      simp only [hp] at hpj hok1 hne hdec hpe c1
      rw [hp]
      obtain ⟨ch, hch⟩ : ∃ ch, cs[j] = ch := ⟨_, rfl⟩
      rw [hch] at hok1 hok2 hok3 hdec hpe hout hwp hw4
      have HPE2 := Lib.hid hpe
      have HOUT := Lib.hid hout
      have HDEC := Lib.hid hdec
      have HO1 := Lib.hid hok1
      have hAl : ∀ M : List UInt8, ∀ N, out ++ (M ++ N) = A → out.length + M.length ≤ 140737488355328 := fun M N e => by
        have := congrArg List.length e
        rw [List.length_append, List.length_append] at this
        omega
      have HAL := Lib.hid hAl
      have hsum : p + ch.bs.length ≤ l.length := by omega
      clear hj hp hx hg hout hdec hok1 hxx hpe hch hAl
      by_cases h8 : x.toNat < 128
      · have hbs := hok3 h8
        have e2 : ch.ok = true := by rw [hok2]; simp [h8]
        have HE := Lib.hid (show out ++ ([x] ++ mendC r false (cs.drop (j + 1))) = A by have := HOUT.out; rw [e2, if_pos rfl, hbs] at this; exact this)
        have HE1 := Lib.hid (show p + 1 = placeOf cs (j + 1) by have := HPE2.out; rw [hbs] at this; exact this)
        have hlen := HAL.out _ _ HE.out
        have b3 := Bs.one wr 5 x
        have g3 := HG.out.keep (Ext.alloc wr (.cells #[.int .u8 (x.toNat : Int)] 5))
        have hsz3 : w.heap.size ≤ (wr.alloc (.cells #[.int .u8 (x.toNat : Int)] 5)).heap.size := by simp; omega
        clear HOUT HPE2 HAL hbs e2 hok2 hok3
        go_wp2_with (refine wpList_appendBs rfl 30 _ _ rfl 5 Tryd.underlying30 info_u8' w.heap.size _ out rfl g3 _ [x] rfl b3 hlen hsz3 ?_)
        intro v4 w4 g4 gr4
        have B4 := g3.grown gr4 hsz3 (below_ext HX.out.below (Ext.alloc wr _) HX.out.size) (Nat.le_refl _)
        have HG4 := Lib.hid g4
        have HB4 := Lib.hid B4
        clear g4 gr4 B4 g3 b3
        go_wp2_with fail
        go_roundg (gk - 1)
        case measure => omega
        case rel => exact ⟨j + 1, out ++ [x], false, by have := HJ.out; omega, by rw [← HE1.out]; go_num, rfl, HG4.out, by rw [List.append_assoc]; exact HE.out, ⟨HB4.out⟩⟩
      · have h8' : ¬ (x.toNat : Int) < 128 := by omega
        go_wp2_with (refine wpList_subL rfl 30 _ _ rfl 5 Tryd.underlying30 info_u8' _ _ rfl (HB.out.ext HX.out) _ _ rfl p rfl (by omega) ?_)
        intro v2 b2 _
        go_wp2_with (go_at_call 78; refine (utf8_DecodeRune v2 _ _ b2 hne (HT.out.ext HX.out)).mono ?_)
        rintro _ w2 ⟨rfl, x2⟩
        rw [HDEC.out]
        have X2 := HX.out.trans x2
        have G2 := HG.out.keep x2
        have hsz2 : w.heap.size ≤ w2.heap.size := X2.size
        clear x2 b2 HDEC
        by_cases h1 : ch.bs.length = 1
        · have e2 : ch.ok = false := by rw [hok2]; simp [h8, h1]
          have HE1 := Lib.hid (show p + 1 = placeOf cs (j + 1) by have := HPE2.out; rw [h1] at this; exact this)
          have h1' : (ch.bs.length : Int) = 1 := by omega
          cases bad with
          | true =>
            have HE := Lib.hid (show out ++ mendC r true (cs.drop (j + 1)) = A by have := HOUT.out; rw [e2] at this; simpa using this)
            have HG2 := Lib.hid G2
            have HX2 := Lib.hid X2
            clear HOUT HPE2 HAL e2 hok2 hok3 G2 X2
            go_wp2_with fail
            go_roundg (gk - 1)
            case measure => omega
            case rel => exact ⟨j + 1, out, true, by have := HJ.out; omega, by rw [← HE1.out]; go_num, rfl, HG2.out, HE.out, HX2.out⟩
          | false =>
            have HE := Lib.hid (show out ++ (r ++ mendC r true (cs.drop (j + 1))) = A by have := HOUT.out; rw [e2] at this; simpa using this)
            have hlen := HAL.out _ _ HE.out
            clear HOUT HPE2 HAL e2 hok2 hok3
            go_wp2_with (refine wpList_appendBs rfl 30 _ _ rfl 5 Tryd.underlying30 info_u8' w.heap.size _ out rfl G2 _ r rfl (HR.out.ext X2) hlen hsz2 ?_)
            intro v4 w4 g4 gr4
            have B4 := G2.grown gr4 hsz2 X2.below (Nat.le_refl _)
            have HG4 := Lib.hid g4
            have HB4 := Lib.hid B4
            clear g4 gr4 B4 G2 X2
            go_wp2_with fail
            go_roundg (gk - 1)
            case measure => omega
            case rel => exact ⟨j + 1, out ++ r, true, by have := HJ.out; omega, by rw [← HE1.out]; go_num, rfl, HG4.out, by rw [List.append_assoc]; exact HE.out, ⟨HB4.out⟩⟩
        · have e2 : ch.ok = true := by rw [hok2]; simp; omega
          have h1' : ¬ (ch.bs.length : Int) = 1 := by omega
          obtain ⟨n, hn⟩ : ∃ n, ch.bs.length = n := ⟨_, rfl⟩
          have HE := Lib.hid (show out ++ (part l p (p + n) ++ mendC r false (cs.drop (j + 1))) = A by have := HOUT.out; rw [e2, if_pos rfl, HO1.out, hn] at this; exact this)
          have hlen := HAL.out _ _ HE.out
          have HPE3 := Lib.hid (show p + n = placeOf cs (j + 1) by rw [← hn]; exact HPE2.out)
          rw [hn] at hsum h1 h1' ⊢
          clear HOUT HPE2 HAL e2 hok2 hok3 HO1 hn
          go_wp2_with (first
            | refine wpList_subLH rfl 30 _ _ _ rfl 5 Tryd.underlying30 info_u8' _ _ rfl (HB.out.ext X2) _ _ _ _ rfl rfl p (p + n) rfl (by go_num) (by omega) (by omega) ?_)
          intro v3 b3 _
          go_wp2_with (refine wpList_appendBs rfl 30 _ _ rfl 5 Tryd.underlying30 info_u8' w.heap.size _ out rfl G2 _ _ rfl b3 hlen hsz2 ?_)
          intro v4 w4 g4 gr4
          have B4 := G2.grown gr4 hsz2 X2.below (Nat.le_refl _)
          have HG4 := Lib.hid g4
          have HB4 := Lib.hid B4
          clear g4 gr4 B4 G2 X2 b3
          go_wp2_with fail
          go_roundg (gk - 1)
          case measure => omega
          case rel => exact ⟨j + 1, _, false, by have := HJ.out; omega, by rw [← HPE3.out]; go_num, rfl, HG4.out, by rw [List.append_assoc]; exact HE.out, ⟨HB4.out⟩⟩
    · have hje : j = cs.length := by omega
      subst hje
      have hpl : placeOf cs cs.length = l.length := HPA.out
      rw [hpl]
      have HO := Lib.hid (show out = A by have := hout; rw [List.drop_length, mendC, List.append_nil] at this; exact this)
      have ho := hg.own
      clear hj hout hg
      go_wp2_with fail
      go_ret
      exact ⟨_, rfl, by rw [HAA.out, HA.out, ← HO.out]; exact ho, HX.out⟩

set_option maxRecDepth 100000 in
theorem impl_ToValidUTF8 (sv rv : Value) (l r : List UInt8) (w : World) (hb : Bs w sv l) (hr : Bs w rv r) (hT : Tabs w) (hl : l.length ≤ 70368744177664) (hrl : r.length ≤ 70368744177664) (hA : (mendB r l).length ≤ 140737488355328) :
    Calls Tryd.prog 29 #[sv, rv] w (RetOwn w (mendB r l)) := by
  go_enter Tryd.func29, Tryd.ntmps29
  go_wp2_with (go_at_call 63; refine (bytes_ToValidUTF8 _ _ _ _ _ hb hr hT hl hrl hA).mono ?_)
  rintro _ w1 ⟨v1, rfl, o1, x1⟩
  go_wp2_with (go_at_call 55; refine (impl_fresh _ _ _ o1.bs hA).mono ?_)
  rintro _ w2 ⟨v2, rfl, o2, x2⟩
  go_wp2_with fail
  go_ret
  exact ⟨_, rfl, o2.mono x1.size (Nat.le_refl _), x1.trans x2⟩

theorem wholeC_cons (c : Ch) (cs : List Ch) : wholeC (c :: cs) = (c.ok && wholeC cs) := by simp [wholeC]

set_option maxRecDepth 100000 in
set_option maxHeartbeats 1000000 in
theorem spec_whole (s : ByteArray) (w : World) (hs : s.size ≤ 1099511627776) :
    Calls Tryd.prog 64 #[.string s] w (RetV (.bool (wholeB s.data.toList)) w) := by
  obtain ⟨cs, hcs⟩ : ∃ cs, chunks s.data.toList = cs := ⟨_, rfl⟩
  have HW := Lib.hid (show wholeB s.data.toList = wholeC cs by rw [← hcs]; rfl)
  have cP := spec_pieces s w hs
  rw [hcs] at cP
  clear hcs
  go_enter Tryd.func64, Tryd.ntmps64
  go_wp2_with (go_at_call 89; refine cP.mono ?_)
  rintro _ w1 ⟨v1, rfl, p1, x1⟩
  obtain ⟨_, a, c, rfl, h1, h2, hc⟩ := p1.raw
  have hc1 : c ≤ 9223372036854775807 := by unfold maxLen at h2; omega
  have HC := Lib.hid hc
  clear hc h2 p1 cP
  go_wp2_with fail
  go_loopg [4] cs.length (fun k i wr => ∃ j : Nat, j + k = cs.length ∧ i = .int .i64 j ∧ wholeC cs = wholeC (cs.drop j) ∧ wr = w1)
  case atStart => exact ⟨0, by omega, rfl, rfl, rfl⟩
  case round =>
    obtain ⟨j, hj, rfl, hw, rfl⟩ := hrel
    have HJ := Lib.hid hj
    by_cases hlt : j < cs.length
    · have hg : 0 < gk := by omega
      obtain ⟨b, o, rfl, c0, c1, c2, c3⟩ := HC.out j hlt
      rw [List.drop_eq_getElem_cons hlt, wholeC_cons] at hw
      cases hok : cs[j].ok with
      | true =>
        rw [hok] at c3 hw
        rw [Bool.true_and] at hw
        have HWW := Lib.hid hw
        clear hj hw hok
        go_wp2_with fail
        go_roundg (gk - 1)
        case measure => omega
        case rel => exact ⟨j + 1, by have := HJ.out; omega, by go_num, HWW.out, rfl⟩
      | false =>
        rw [hok] at c3 hw
        rw [Bool.false_and] at hw
        have HWW := Lib.hid hw
        clear hj hw hok
        go_wp2_with fail
        go_ret
        exact ⟨by rw [HW.out, HWW.out]; rfl, x1⟩
    · have HWW := Lib.hid (show wholeC cs = true by rw [hw, List.drop_of_length_le (by omega)]; rfl)
      clear hj hw
      go_wp2_with fail
      go_ret
      exact ⟨by rw [HW.out, HWW.out]; rfl, x1⟩
set_option maxRecDepth 100000 in
theorem spec_Whole (s : ByteArray) (w : World) (hs : s.size ≤ 1099511627776) :
    Calls Tryd.prog 30 #[.string s] w (RetV (.bool (wholeB s.data.toList)) w) := by
  go_enter Tryd.func30, Tryd.ntmps30
  go_wp2_with (go_at_call 64; refine (spec_whole s w hs).mono ?_)
  rintro _ w1 ⟨rfl, x1⟩
  go_wp2_with fail
  go_ret
  exact ⟨rfl, x1⟩
end Go.Proofs.YtlbaoghebjaliaaDoor
