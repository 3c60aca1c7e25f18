/- The walks of bytes.containsRune, trimLeftUnicode, trimRightUnicode. -/
import Derived.Test.YtdlobdbclgcogaaDoorCutP
import Derived.Test.YtdlobdbclgcogaaDoorRunesW
import Derived.Laws.RangeString
import Derived.Laws.RangeAny
namespace Go.Proofs.YtdlobdbclgcogaaDoor
open Go.RowKit

theorem decode_chunk (s : ByteArray) (j : Nat) (hj : j < (chunks s.data.toList).length) : Utf8.decode s (placeOf (chunks s.data.toList) j) = ((chunks s.data.toList)[j].r, (chunks s.data.toList)[j].bs.length) := by
  have h1 := place_lt s.data.toList j hj
  have h2 := decode_dec s.data.toList _ h1
  rw [(dec_at s.data.toList j hj).2] at h2
  exact h2

theorem next_chunk {P : Program} (w : World) (s : ByteArray) (j : Nat) (hj : j < (chunks s.data.toList).length) (ty : TypeId) :
    (Instr.next (.pointer (some ⟨w.heap.size, 0, none⟩)) true ty).run P (w.iter s (placeOf (chunks s.data.toList) j)) =
      .ok (.tuple #[.bool true, .int .i64 (placeOf (chunks s.data.toList) j), .int .i32 (chunks s.data.toList)[j].r]) (w.iter s (placeOf (chunks s.data.toList) (j + 1))) := by
  rw [run_next_any w s _ ty (place_lt s.data.toList j hj), decode_chunk s j hj]
  simp only [place_end (chunks s.data.toList) j hj]

theorem inP_at {cs : List UInt8} {r : Int} {j : Nat} (hj : j < (chunks cs).length) (h : ((chunks cs)[j].r : Int) = r) : inP cs r = true := (inP_iff cs r).2 ⟨_, List.getElem_mem hj, h⟩
theorem inP_not {cs : List UInt8} {r : Int} (h : ∀ c ∈ chunks cs, ¬ ((c.r : Int) = r)) : inP cs r = false := by
  rw [Bool.eq_false_iff]
  intro ht
  obtain ⟨c, hc, e⟩ := (inP_iff cs r).1 ht
  exact h c hc e

theorem take_snoc_all' {cs : List Ch} {j : Nat} (hj : j < cs.length) {p : Int → Bool} (h1 : ∀ c ∈ cs.take j, p c.r = true) (h2 : p cs[j].r = true) : ∀ c ∈ cs.take (j + 1), p c.r = true := by
  intro c hc
  rw [List.take_succ_eq_append_getElem hj, List.mem_append, List.mem_singleton] at hc
  rcases hc with hc | rfl
  · exact h1 c hc
  · exact h2

theorem rune_facts (P : Program) (w : World) (s : ByteArray) (r : Int) : ∃ cs R, Hid (∀ j (hj : j < cs.length) (ty : TypeId), (Instr.next (.pointer (some ⟨w.heap.size, 0, none⟩)) true ty).run P (w.iter s (placeOf cs j)) =
      .ok (.tuple #[.bool true, .int .i64 (placeOf cs j), .int .i32 (cs[j]'hj).r]) (w.iter s (placeOf cs (j + 1)))) ∧ Hid (placeOf cs cs.length = s.size) ∧
    Hid (∀ j (hj : j < cs.length), ((cs[j]'hj).r : Int) = r → R = true) ∧ Hid ((∀ c ∈ cs, ¬ ((c.r : Int) = r)) → R = false) ∧ Hid (inP s.data.toList r = R) :=
  ⟨chunks s.data.toList, inP s.data.toList r, Lib.hid (fun j hj ty => next_chunk w s j hj ty), Lib.hid (place_all s.data.toList), Lib.hid (fun j hj e => inP_at hj e), Lib.hid (fun h => inP_not h), Lib.hid rfl⟩

set_option maxRecDepth 100000 in
theorem bytes_containsRune (s : ByteArray) (r : Int) (w : World) :
    Calls Tryd.prog 96 #[.string s, .int .i32 r] w (RetV (.bool (inP s.data.toList r)) w) := by
  have HEND := Lib.hid (fun ty => run_next_end (P := Tryd.prog) w s s.size ty (by omega))
  obtain ⟨cs, R, HNX, HPA, HAT, HNO, hR⟩ := rune_facts Tryd.prog w s r
  rw [hR.out]
  clear hR
  go_enter Tryd.func96, Tryd.ntmps96
  go_wp2_with fail
  go_loopg [6] cs.length (fun k _ wr => ∃ j : Nat, j + k = cs.length ∧ Hid (∀ c ∈ cs.take j, ¬ ((c.r : Int) = r)) ∧ wr = w.iter s (placeOf cs j))
  case atStart => exact ⟨0, by omega, Lib.hid (by simp), rfl⟩
  case round =>
    obtain ⟨j, hj, hn, rfl⟩ := hrel
    by_cases hlt : j < cs.length
    · have hg : 0 < gk := by omega
      have hnx := HNX.out j hlt
      obtain ⟨x, hx⟩ : ∃ x : Nat, cs[j].r = x := ⟨_, rfl⟩
      have HXX := Lib.hid hx
      rw [hx] at hnx
      clear hx
      have HJ := Lib.hid hj
      by_cases he : (x : Int) = r
      · have e1 : ((x : Int) == r) = true := by simpa using he
        have HR := Lib.hid (HAT.out j hlt (by rw [HXX.out]; exact he))
        clear he hj
        go_wp2_with fail
        go_ret
        exact ⟨by rw [HR.out]; rfl, Ext.alloc _ _⟩
      · have e1 : ((x : Int) == r) = false := by simpa using he
        have HE := Lib.hid he
        clear he hj
        go_wp2_with fail
        go_roundg (gk - 1)
        case measure => omega
        case rel =>
          refine ⟨j + 1, by have := HJ.out; omega, Lib.hid ?_, rfl⟩
          intro c hc
          rw [List.take_succ_eq_append_getElem hlt, List.mem_append, List.mem_singleton] at hc
          rcases hc with hc | rfl
          · exact hn.out c hc
          · rw [HXX.out]; exact HE.out
    · have hje : j = cs.length := by omega
      subst hje
      have hnx := HEND.out
      have hpa := HPA.out
      have HR := Lib.hid (HNO.out (by have := hn.out; rwa [List.take_length] at this))
      rw [hpa]
      clear hj hpa
      go_wp2_with fail
      go_ret
      exact ⟨by rw [HR.out]; rfl, Ext.alloc _ _⟩

theorem dropWhile_drop_at (p : Int → Bool) (l : List UInt8) (j : Nat) (hj : j < (chunks l).length) (h1 : ∀ c ∈ (chunks l).take j, p c.r = true) (h2 : p (chunks l)[j].r = false) : tlB p l = l.drop (placeOf (chunks l) j) := by
  unfold tlB
  rw [trimL_at p _ j hj h1 h2, glue_drop, glue_chunks]
theorem tlB_all (p : Int → Bool) (l : List UInt8) (h : ∀ c ∈ chunks l, p c.r = true) : tlB p l = [] := by unfold tlB; rw [trimL_none p _ h]; rfl
theorem trB_all (p : Int → Bool) (l : List UInt8) (h : ∀ c ∈ chunks l, p c.r = true) : trB p l = [] := by unfold trB; rw [trimR_none p _ h]; rfl
theorem trB_take_at (p : Int → Bool) (l : List UInt8) (j : Nat) (hj : j < (chunks l).length) (h1 : ∀ c ∈ (chunks l).drop (j + 1), p c.r = true) (h2 : p (chunks l)[j].r = false) : trB p l = l.take (placeOf (chunks l) (j + 1)) := by
  unfold trB
  rw [trimR_at p _ j hj h1 h2, glue_take, glue_chunks]

theorem tl_facts (s : ByteArray) (l : List UInt8) (cs : List Ch) (h : chunks l = cs) : ∃ p, Hid (inP s.data.toList = p) ∧ Hid (∀ j (hj : j < cs.length), (∀ c ∈ cs.take j, p c.r = true) → p (cs[j]'hj).r = false → tlB p l = l.drop (placeOf cs j)) ∧ Hid ((∀ c ∈ cs, p c.r = true) → tlB p l = []) ∧
    Hid (∀ j (hj : j < cs.length), (∀ c ∈ cs.drop (j + 1), p c.r = true) → p (cs[j]'hj).r = false → trB p l = l.take (placeOf cs (j + 1))) ∧ Hid ((∀ c ∈ cs, p c.r = true) → trB p l = []) := by
  subst h
  exact ⟨_, Lib.hid rfl, Lib.hid (fun j hj h1 h2 => dropWhile_drop_at _ l j hj h1 h2), Lib.hid (tlB_all _ l), Lib.hid (fun j hj h1 h2 => trB_take_at _ l j hj h1 h2), Lib.hid (trB_all _ l)⟩

set_option maxRecDepth 100000 in
set_option maxHeartbeats 2000000 in
theorem bytes_trimLeftUnicode (sv : Value) (l : List UInt8) (s : ByteArray) (w : World) (hb : Bs w sv l) (hT : Tabs w) :
    Calls Tryd.prog 77 #[sv, .string s] w (RetB w (tlB (inP s.data.toList) l)) := by
  have hlen := hb.len
  have hb0 := hb
  obtain ⟨a, c, hsv, hcap, hcm⟩ := hb.shape
  obtain ⟨cs, HCS, HPL, HDE, HPE, HPA, HLA, HPN, HRG⟩ := chunk_facts l
  obtain ⟨p, hp, HTL, HTN, _, _⟩ := tl_facts s l cs HCS.out
  have HC := Lib.hid (fun r W => hp.out ▸ bytes_containsRune s r W)
  rw [hp.out]
  clear hp hb HCS hsv hcap hcm HLA
  have HT := Lib.hid hT
  clear hT
  go_enter Tryd.func77, Tryd.ntmps77
  go_wp2_with fail
  go_loopg [0] cs.length (fun k v wr => ∃ j : Nat, j + k = cs.length ∧ Hid (∀ c ∈ cs.take j, p c.r = true) ∧ Hid (Bs wr v (l.drop (placeOf cs j))) ∧ Ext w wr)
  case atStart => exact ⟨0, by omega, Lib.hid (by simp), Lib.hid (by have e : placeOf cs 0 = 0 := rfl; rw [e, List.drop_zero]; exact hb0), Ext.refl _⟩
  case round =>
    obtain ⟨j, hj, hn, hv, hx⟩ := hrel
    have HX := Lib.hid hx
    have HJ := Lib.hid hj
    have hbv := hv.out
    clear hx hb0
    obtain ⟨a2, c2, rfl, hc2, hm2⟩ := hbv.shape
    by_cases hlt : j < cs.length
    · have hg : 0 < gk := by omega
      have hpl := HPL.out j hlt
      obtain ⟨hne, hdec⟩ := HDE.out j hlt
      have hpe := HPE.out j hlt
      have hle := HPN.out (j + 1)
      have hrg := HRG.out j hlt
      obtain ⟨q, hq⟩ : ∃ q, placeOf cs j = q := ⟨_, rfl⟩
      rw [hq] at hpl hne hdec hpe hbv hv hc2 ⊢
      obtain ⟨m, hm⟩ : ∃ m, l.drop q = m := ⟨_, rfl⟩
      have hml : m.length = l.length - q := by rw [← hm, List.length_drop]
      have HD := Lib.hid (show m.drop cs[j].bs.length = l.drop (placeOf cs (j + 1)) by rw [← hm, List.drop_drop, hpe])
      rw [hm] at hne hdec hbv hv hc2 ⊢
      have hm0 : 0 < m.length := by omega
      obtain ⟨n1, hn1⟩ : ∃ n1, cs[j].bs.length = n1 := ⟨_, rfl⟩
      rw [hn1] at hdec hpe hrg HD
      have hnm : n1 ≤ m.length := by omega
      have HM := Lib.hid (show ∀ u, tlB p l = l.drop q → u = m → u = tlB p l by intro u e1 e2; rw [e2, e1, hm])
      have HQ := Lib.hid hq
      have cD := utf8_DecodeRune _ m _ hbv hne (HT.out.ext HX.out)
      rw [hdec] at cD
      have HBV := Lib.hid hbv
      clear hm hq hpe hj hn1 hdec hne hbv hv hle hpl hml
      go_wp2_with (go_at_call 70; refine cD.mono ?_)
      rintro _ w2 ⟨rfl, x2⟩
      have cC := HC.out (cs[j].r : Int) w2
      have hbv := HBV.out.ext x2
      clear cD
      cases hh : p (cs[j].r : Int)
      · rw [hh] at cC
        have HR := Lib.hid (HTL.out j hlt hn.out hh)
        go_wp2_with (go_at_call 96; refine cC.mono ?_)
        rintro _ w3 ⟨rfl, x3⟩
        replace hbv := hbv.ext x3
        go_wp2_with fail
        go_ret
        exact ⟨_, rfl, by rw [← HM.out m (by rw [← HQ.out]; exact HR.out) rfl]; exact hbv, HX.out.trans (x2.trans x3)⟩
      · rw [hh] at cC
        go_wp2_with (go_at_call 96; refine cC.mono ?_)
        rintro _ w3 ⟨rfl, x3⟩
        replace hbv := hbv.ext x3
        go_wp2_with (refine wpList_subL rfl 24 _ _ rfl 5 Tryd.underlying24 info_u8' _ _ rfl hbv _ _ rfl n1 rfl hnm ?_)
        intro v4 b4 _
        go_wp2_with fail
        go_roundg (gk - 1)
        case measure => omega
        case rel => exact ⟨j + 1, by have := HJ.out; omega, Lib.hid (take_snoc_all' hlt hn.out hh), Lib.hid (by rw [← HD.out]; exact b4), HX.out.trans (x2.trans x3)⟩
    · have hje : j = cs.length := by omega
      subst hje
      have hpa := HPA.out
      have HR := Lib.hid (HTN.out (by have := hn.out; rwa [List.take_length] at this))
      have hl0 : (l.drop (placeOf cs cs.length)).length = 0 := by rw [List.length_drop, hpa]; omega
      rw [hl0]
      clear hj hpa hl0 hbv hc2 hm2
      go_wp2_with fail
      go_ret
      exact ⟨_, rfl, by rw [HR.out]; exact Bs.nil _, HX.out⟩

set_option maxRecDepth 100000 in
set_option maxHeartbeats 2000000 in
theorem bytes_trimRightUnicode (sv : Value) (l : List UInt8) (s : ByteArray) (w : World) (hb : Bs w sv l) (hT : Tabs w) :
    Calls Tryd.prog 81 #[sv, .string s] w (RetB w (trB (inP s.data.toList) l)) := by
  have hlen := hb.len
  have hb0 := hb
  obtain ⟨cs, HCS, HPL, HDE, HPE, HPA, HLA, HPN, HRG⟩ := chunk_facts l
  obtain ⟨p, hp, _, _, HTL, HTN⟩ := tl_facts s l cs HCS.out
  have HC := Lib.hid (fun r W => hp.out ▸ bytes_containsRune s r W)
  rw [hp.out]
  clear hp hb HCS
  have HT := Lib.hid hT
  clear hT
  go_enter Tryd.func81, Tryd.ntmps81
  go_wp2_with fail
  go_loopg [0] cs.length (fun k v wr => k ≤ cs.length ∧ Hid (∀ c ∈ cs.drop k, p c.r = true) ∧ Hid (Bs wr v (l.take (placeOf cs k))) ∧ Ext w wr)
  case atStart => exact ⟨Nat.le_refl _, Lib.hid (by simp), Lib.hid (by rw [HPA.out, List.take_length]; exact hb0), Ext.refl _⟩
  case round =>
    obtain ⟨hk, hn, hv, hx⟩ := hrel
    have HX := Lib.hid hx
    have hbv := hv.out
    clear hx hb0
    rcases Nat.eq_zero_or_pos gk with h0 | h0
    · subst h0
      have hp0 : placeOf cs 0 = 0 := rfl
      rw [hp0, List.take_zero] at hbv
      have HR := Lib.hid (HTN.out (by simpa using hn.out))
      have hbv2 := hbv
      obtain ⟨a2, c2, rfl, hc2, hm2⟩ := hbv.shape
      clear hp0 hv
      go_wp2_with fail
      go_ret
      exact ⟨_, rfl, by rw [HR.out]; exact hbv2, HX.out⟩
    · obtain ⟨j, rfl⟩ : ∃ j, gk = j + 1 := ⟨gk - 1, by omega⟩
      have hlt : j < cs.length := hk
      have hpe := HPE.out j hlt
      have hle := HPN.out (j + 1)
      have hrg := HRG.out j hlt
      have hlast := HLA.out j hlt
      obtain ⟨q, hq⟩ : ∃ q, placeOf cs (j + 1) = q := ⟨_, rfl⟩
      rw [hq] at hpe hle hlast hbv
      have hdl := decLast hlast
      obtain ⟨m, hm⟩ : ∃ m, l.take q = m := ⟨_, rfl⟩
      have hml : m.length = q := by rw [← hm, List.length_take]; omega
      rw [hm] at hdl hlast hbv
      have HLT := Lib.hid hlast
      have hq1 : 1 ≤ q := by omega
      obtain ⟨n1, hn1⟩ : ∃ n1, cs[j].bs.length = n1 := ⟨_, rfl⟩
      have HD := Lib.hid (show m.take (q - n1) = l.take (placeOf cs j) by rw [← hm, List.take_take, ← hn1, ← hpe]; congr 1; omega)
      have HM := Lib.hid (show trB p l = l.take (placeOf cs (j + 1)) → trB p l = m by intro e; rw [e, hq, hm])
      rw [hn1] at hpe hrg hdl
      have hnm : n1 ≤ q := by omega
      have htn : m ≠ [] := by intro e; rw [e] at hml; simp at hml; omega
      obtain ⟨x, hx⟩ : ∃ x, m[q - 1]? = some x := ⟨_, List.getElem?_eq_getElem (by omega)⟩
      have hxg : m.getD (m.length - 1) 0 = x := by rw [hml, List.getD_eq_getElem?_getD, hx]; rfl
      have hbv2 := hbv
      obtain ⟨a2, c2, hve, hc2, hm2⟩ := hbv.shape
      subst hve
      have hcell : ∃ b o, a2 = some ⟨b, o, none⟩ ∧ wr.cell? ⟨b, o + (q - 1), none⟩ = some (.int .u8 (x.toNat : Int)) := by
        obtain ⟨a', c', hv', _, _, h3⟩ := hbv2
        injection hv' with hv1 _ _
        rcases h3 with h3 | ⟨b, o, rfl, hc⟩
        · exact (htn h3).elim
        · refine ⟨b, o, hv1, ?_⟩
          have hl1 : q - 1 < m.length := by omega
          rw [hc (q - 1) hl1]
          rw [List.getElem?_eq_getElem hl1] at hx
          injection hx with hx
          rw [hx]
      obtain ⟨b, o, rfl, hqc⟩ := hcell
      have hxl := x.toNat_lt
      have hpi : ((q : Int) - 1) = ((q - 1 : Nat) : Int) := by omega
      rw [hml] at hbv2 hc2 ⊢
      have cC := HC.out (cs[j].r : Int)
      clear h0 hlast hbv hm hx hpe
      by_cases hasc : x.toNat < 128
      · have hrs : (cs[j].r = x.toNat) ∧ n1 = 1 := by
          unfold Lib.decodeLastL at hdl
          rw [if_neg htn, hxg, if_pos hasc] at hdl
          injection hdl with d1 d2
          exact ⟨d1.symm, d2.symm⟩
        have hr1 : (cs[j].r : Int) = (x.toNat : Int) := by rw [hrs.1]
        obtain ⟨_, rfl⟩ := hrs
        have hxi : ¬ (128 : Int) ≤ (x.toNat : Int) := by omega
        rw [hr1] at cC
        have HR1 := Lib.hid hr1
        clear hdl hxg hr1
        cases hh : p (x.toNat : Int)
        · rw [hh] at cC
          have HR := Lib.hid (HM.out (HTL.out j hlt hn.out (by rw [HR1.out]; exact hh)))
          go_wp2_with (go_at_call 96; refine (cC _).mono ?_)
          rintro _ w3 ⟨rfl, x3⟩
          replace hbv2 := hbv2.ext x3
          go_wp2_with fail
          go_ret
          exact ⟨_, rfl, by rw [HR.out]; exact hbv2, HX.out.trans x3⟩
        · rw [hh] at cC
          go_wp2_with (go_at_call 96; refine (cC _).mono ?_)
          rintro _ w3 ⟨rfl, x3⟩
          replace hbv2 := hbv2.ext x3
          go_wp2_with (refine wpList_subH rfl 24 _ _ rfl 5 Tryd.underlying24 info_u8' _ _ rfl hbv2 _ _ rfl (q - 1) (by go_num) (by omega) ?_)
          intro v4 b4 _
          go_wp2_with fail
          go_roundg j
          case measure => omega
          case rel => exact ⟨by omega, Lib.hid (drop_cons_all' hlt hn.out (by rw [HR1.out]; exact hh)), Lib.hid (by rw [← HD.out]; exact b4), HX.out.trans x3⟩
      · have hxi : (128 : Int) ≤ (x.toNat : Int) := by omega
        clear hdl hxg
        go_wp2_with (go_at_call 98; refine (utf8_DecodeLastRune _ m _ hbv2 _ _ HLT.out (HT.out.ext HX.out)).mono ?_)
        rintro _ w2 ⟨rfl, x2⟩
        replace hbv2 := hbv2.ext x2
        have HN1 := Lib.hid hn1
        rw [hn1]
        clear hn1
        cases hh : p (cs[j].r : Int)
        · rw [hh] at cC
          have HR := Lib.hid (HM.out (HTL.out j hlt hn.out hh))
          go_wp2_with (go_at_call 96; refine (cC _).mono ?_)
          rintro _ w3 ⟨rfl, x3⟩
          replace hbv2 := hbv2.ext x3
          go_wp2_with fail
          go_ret
          exact ⟨_, rfl, by rw [HR.out]; exact hbv2, HX.out.trans (x2.trans x3)⟩
        · rw [hh] at cC
          go_wp2_with (go_at_call 96; refine (cC _).mono ?_)
          rintro _ w3 ⟨rfl, x3⟩
          replace hbv2 := hbv2.ext x3
          go_wp2_with (refine wpList_subH rfl 24 _ _ rfl 5 Tryd.underlying24 info_u8' _ _ rfl hbv2 _ _ rfl (q - n1) (by go_num) (by omega) ?_)
          intro v4 b4 _
          go_wp2_with fail
          go_roundg j
          case measure => omega
          case rel => exact ⟨by omega, Lib.hid (drop_cons_all' hlt hn.out hh), Lib.hid (by rw [← HD.out]; exact b4), HX.out.trans (x2.trans x3)⟩
end Go.Proofs.YtdlobdbclgcogaaDoor
