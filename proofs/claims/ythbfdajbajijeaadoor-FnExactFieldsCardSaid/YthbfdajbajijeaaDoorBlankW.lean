/- White space: spec.space, blank, laws.blanks, TrimSpace. Printed by blankw.py. -/
import Derived.Test.YthbfdajbajijeaaDoorFuncS
import Derived.Test.YthbfdajbajijeaaDoorAppV
import Derived.Test.YthbfdajbajijeaaDoorPointsW
import Derived.Deep.DeepCutAuto
namespace Go.Proofs.YthbfdajbajijeaaDoor
open Go.RowKit

set_option maxRecDepth 100000 in
theorem spec_space (r : Int) (w : World) : Calls Tryd.prog 56 #[.int .i32 r] w (RetV (.bool (wsP r)) w) := by
  by_cases h9 : r = 9
  · subst h9
    have HR := Lib.hid (show wsP 9 = true from (wsP_iff _).2 (by omega))
    go_enter Tryd.func56, Tryd.ntmps56
    go_wp2_with fail
    go_ret
    exact ⟨by rw [HR.out]; rfl, Ext.refl _⟩
  by_cases h10 : r = 10
  · subst h10
    have HR := Lib.hid (show wsP 10 = true from (wsP_iff _).2 (by omega))
    go_enter Tryd.func56, Tryd.ntmps56
    go_wp2_with fail
    go_ret
    exact ⟨by rw [HR.out]; rfl, Ext.refl _⟩
  by_cases h11 : r = 11
  · subst h11
    have HR := Lib.hid (show wsP 11 = true from (wsP_iff _).2 (by omega))
    go_enter Tryd.func56, Tryd.ntmps56
    go_wp2_with fail
    go_ret
    exact ⟨by rw [HR.out]; rfl, Ext.refl _⟩
  by_cases h12 : r = 12
  · subst h12
    have HR := Lib.hid (show wsP 12 = true from (wsP_iff _).2 (by omega))
    go_enter Tryd.func56, Tryd.ntmps56
    go_wp2_with fail
    go_ret
    exact ⟨by rw [HR.out]; rfl, Ext.refl _⟩
  by_cases h13 : r = 13
  · subst h13
    have HR := Lib.hid (show wsP 13 = true from (wsP_iff _).2 (by omega))
    go_enter Tryd.func56, Tryd.ntmps56
    go_wp2_with fail
    go_ret
    exact ⟨by rw [HR.out]; rfl, Ext.refl _⟩
  by_cases h32 : r = 32
  · subst h32
    have HR := Lib.hid (show wsP 32 = true from (wsP_iff _).2 (by omega))
    go_enter Tryd.func56, Tryd.ntmps56
    go_wp2_with fail
    go_ret
    exact ⟨by rw [HR.out]; rfl, Ext.refl _⟩
  by_cases h133 : r = 133
  · subst h133
    have HR := Lib.hid (show wsP 133 = true from (wsP_iff _).2 (by omega))
    go_enter Tryd.func56, Tryd.ntmps56
    go_wp2_with fail
    go_ret
    exact ⟨by rw [HR.out]; rfl, Ext.refl _⟩
  by_cases h160 : r = 160
  · subst h160
    have HR := Lib.hid (show wsP 160 = true from (wsP_iff _).2 (by omega))
    go_enter Tryd.func56, Tryd.ntmps56
    go_wp2_with fail
    go_ret
    exact ⟨by rw [HR.out]; rfl, Ext.refl _⟩
  by_cases h5760 : r = 5760
  · subst h5760
    have HR := Lib.hid (show wsP 5760 = true from (wsP_iff _).2 (by omega))
    go_enter Tryd.func56, Tryd.ntmps56
    go_wp2_with fail
    go_ret
    exact ⟨by rw [HR.out]; rfl, Ext.refl _⟩
  by_cases h8232 : r = 8232
  · subst h8232
    have HR := Lib.hid (show wsP 8232 = true from (wsP_iff _).2 (by omega))
    go_enter Tryd.func56, Tryd.ntmps56
    go_wp2_with fail
    go_ret
    exact ⟨by rw [HR.out]; rfl, Ext.refl _⟩
  by_cases h8233 : r = 8233
  · subst h8233
    have HR := Lib.hid (show wsP 8233 = true from (wsP_iff _).2 (by omega))
    go_enter Tryd.func56, Tryd.ntmps56
    go_wp2_with fail
    go_ret
    exact ⟨by rw [HR.out]; rfl, Ext.refl _⟩
  by_cases h8239 : r = 8239
  · subst h8239
    have HR := Lib.hid (show wsP 8239 = true from (wsP_iff _).2 (by omega))
    go_enter Tryd.func56, Tryd.ntmps56
    go_wp2_with fail
    go_ret
    exact ⟨by rw [HR.out]; rfl, Ext.refl _⟩
  by_cases h8287 : r = 8287
  · subst h8287
    have HR := Lib.hid (show wsP 8287 = true from (wsP_iff _).2 (by omega))
    go_enter Tryd.func56, Tryd.ntmps56
    go_wp2_with fail
    go_ret
    exact ⟨by rw [HR.out]; rfl, Ext.refl _⟩
  by_cases h12288 : r = 12288
  · subst h12288
    have HR := Lib.hid (show wsP 12288 = true from (wsP_iff _).2 (by omega))
    go_enter Tryd.func56, Tryd.ntmps56
    go_wp2_with fail
    go_ret
    exact ⟨by rw [HR.out]; rfl, Ext.refl _⟩
  have e9 : (r == 9) = false := by rw [beq_eq_false_iff_ne]; exact h9
  have e10 : (r == 10) = false := by rw [beq_eq_false_iff_ne]; exact h10
  have e11 : (r == 11) = false := by rw [beq_eq_false_iff_ne]; exact h11
  have e12 : (r == 12) = false := by rw [beq_eq_false_iff_ne]; exact h12
  have e13 : (r == 13) = false := by rw [beq_eq_false_iff_ne]; exact h13
  have e32 : (r == 32) = false := by rw [beq_eq_false_iff_ne]; exact h32
  have e133 : (r == 133) = false := by rw [beq_eq_false_iff_ne]; exact h133
  have e160 : (r == 160) = false := by rw [beq_eq_false_iff_ne]; exact h160
  have e5760 : (r == 5760) = false := by rw [beq_eq_false_iff_ne]; exact h5760
  have e8232 : (r == 8232) = false := by rw [beq_eq_false_iff_ne]; exact h8232
  have e8233 : (r == 8233) = false := by rw [beq_eq_false_iff_ne]; exact h8233
  have e8239 : (r == 8239) = false := by rw [beq_eq_false_iff_ne]; exact h8239
  have e8287 : (r == 8287) = false := by rw [beq_eq_false_iff_ne]; exact h8287
  have e12288 : (r == 12288) = false := by rw [beq_eq_false_iff_ne]; exact h12288
  by_cases hl : 8192 ≤ r
  · by_cases hh : r ≤ 8202
    · have HR := Lib.hid (show wsP r = true from (wsP_iff _).2 (by omega))
      clear h9 h10 h11 h12 h13 h32 h133 h160 h5760 h8232 h8233 h8239 h8287 h12288
      go_enter Tryd.func56, Tryd.ntmps56
      go_wp2_with fail
      go_ret
      exact ⟨by rw [HR.out]; rfl, Ext.refl _⟩
    · have HR := Lib.hid (show wsP r = false from wsP_false (by omega))
      clear h9 h10 h11 h12 h13 h32 h133 h160 h5760 h8232 h8233 h8239 h8287 h12288
      go_enter Tryd.func56, Tryd.ntmps56
      go_wp2_with fail
      go_ret
      exact ⟨by rw [HR.out]; rfl, Ext.refl _⟩
  · have HR := Lib.hid (show wsP r = false from wsP_false (by omega))
    clear h9 h10 h11 h12 h13 h32 h133 h160 h5760 h8232 h8233 h8239 h8287 h12288
    go_enter Tryd.func56, Tryd.ntmps56
    go_wp2_with fail
    go_ret
    exact ⟨by rw [HR.out]; rfl, Ext.refl _⟩
theorem spec_Blank (r : Int) (w : World) : Calls Tryd.prog 37 #[.int .i32 r] w (RetV (.bool (wsP r)) w) := by
  go_enter Tryd.func37, Tryd.ntmps37
  go_wp2_with (go_at_call 56; refine (spec_space r w).mono ?_)
  rintro _ w1 ⟨rfl, x1⟩
  go_wp2_with fail
  go_ret
  exact ⟨rfl, x1⟩

set_option maxRecDepth 100000 in
theorem laws_blanks (w : World) : Calls Tryd.prog 13 #[] w (RetRs w (blankR 12289)) := by
  obtain ⟨n, hn⟩ : ∃ n, w.heap.size = n := ⟨_, rfl⟩
  go_enter Tryd.func13, Tryd.ntmps13
  go_wp2_with fail
  go_loopg [1, 2] 12289 (fun k v i wr => ∃ j : Nat, j + k = 12289 ∧ i = .int .i32 (j : Int) ∧ wr.ownsRow n 21 1 v (blankR j).length ((blankR j).map (Value.int .i32)) ∧ Below n w wr)
  case atStart => exact ⟨0, by omega, rfl, World.ownsRow_nil _ _ _ _, Below.refl _ _⟩
  case round =>
    obtain ⟨j, hj, rfl, hown, hbe⟩ := hrel
    have HO := Lib.hid hown
    have HB := Lib.hid hbe
    have HJ := Lib.hid hj
    have hnw : n ≤ wr.heap.size := by have := hbe.size; omega
    have hbl := blankR_len j
    clear hown hbe
    by_cases hlt : j < 12289
    · have hg : 0 < gk := by omega
      have hle : (j : Int) ≤ 12288 := by omega
      have cS := spec_Blank (j : Int) wr
      have HS := Lib.hid (blankR_succ j)
      clear hj
      cases hw : wsP (j : Int)
      · rw [hw] at cS
        have HE := Lib.hid (show blankR (j + 1) = blankR j by rw [HS.out, hw]; simp)
        clear hw
        go_wp2_with (go_at_call 37; refine cS.mono ?_)
        rintro _ w1 ⟨rfl, x1⟩
        go_wp2_with fail
        go_roundg (gk - 1)
        case measure => omega
        case rel => exact ⟨j + 1, by have := HJ.out; omega, by go_num, by rw [HE.out]; exact owns_keep HO.out x1, below_ext HB.out x1 hnw⟩
      · rw [hw] at cS
        have HE := Lib.hid (show blankR (j + 1) = blankR j ++ [(j : Int)] by rw [HS.out, hw]; simp)
        clear hw
        go_wp2_with (go_at_call 37; refine cS.mono ?_)
        rintro _ w1 ⟨rfl, x1⟩
        have O1 := owns_keep HO.out (x1.trans (Ext.alloc w1 (.cells #[.int .i32 (j : Int)] 21)))
        have B1 := below_ext HB.out (x1.trans (Ext.alloc w1 (.cells #[.int .i32 (j : Int)] 21))) hnw
        have hn1 : n ≤ (w1.alloc (.cells #[.int .i32 (j : Int)] 21)).heap.size := Nat.le_trans hnw (x1.trans (Ext.alloc _ _)).size
        clear x1 cS
        go_wp2_with (refine wpList_appendV rfl 22 _ _ rfl 21 1 4 _ Tryd.underlying22 info_i32 rfl (by omega) n _ _ _ rfl O1 _ 1 _ [.int .i32 (j : Int)] rfl rfl (news_alloc _ _ _) (by simp [Value.oneCell']) (by omega) (by omega) hn1 ?_)
        intro v2 w2 o2 g2
        have B2 := owns_grown O1 g2 hn1 B1 (Nat.le_refl _)
        clear g2 O1 B1
        go_wp2_with fail
        go_roundg (gk - 1)
        case measure => omega
        case rel => exact ⟨j + 1, by have := HJ.out; omega, by go_num, by rw [HE.out, List.map_append, List.length_append]; exact o2, B2⟩
    · have hje : j = 12289 := by omega
      subst hje
      have hle : ¬ ((12289 : Nat) : Int) ≤ 12288 := by omega
      clear hj
      go_wp2_with fail
      go_ret
      exact ⟨_, rfl, vs_of_owns HO.out, ⟨by rw [hn]; exact HB.out⟩⟩

set_option maxRecDepth 100000 in
set_option maxHeartbeats 2000000 in
theorem bytes_TrimSpace (sv : Value) (l : List UInt8) (w : World) (hb : Bs w sv l) (h : White w) (hT : Tabs w) :
    Calls Tryd.prog 39 #[sv] w (RetB w (tB wsP l)) := by
  have hlen := hb.len
  obtain ⟨a, c, hsv, hcap, hcm, h3⟩ := id hb
  subst hsv
  have hc1 : c ≤ 9223372036854775807 := by unfold maxLen at hcm; omega
  have HB := Lib.hid hb
  have HW := Lib.hid h
  have HT := Lib.hid hT
  have HC := Lib.hid h3
  clear hb h hT hcm h3
  go_enter Tryd.func39, Tryd.ntmps39
  go_wp2_with fail
  go_loopg [9, 0] l.length (fun g i s0 wr => w = wr ∧ s0 = .slice a l.length c ∧ ∃ k : Nat, k + g = l.length ∧ i = .int .i64 (k : Int) ∧ Hid (∀ b ∈ l.take k, b.toNat < 128 ∧ wsP b.toNat = true))
  case atStart => exact ⟨rfl, rfl, 0, by omega, rfl, Lib.hid (by simp)⟩
  case round =>
    obtain ⟨rfl, rfl, k, hk, rfl, hsp⟩ := hrel
    by_cases hlt : k < l.length
    · have hg : 0 < gk := by omega
      obtain ⟨x, hx⟩ : ∃ x, l[k] = x := ⟨_, rfl⟩
      obtain ⟨b, o, ha, hcell⟩ : ∃ b o, a = some ⟨b, o, none⟩ ∧ ∀ i (h : i < l.length), w.cell? ⟨b, o + i, none⟩ = some (.int .u8 (l[i].toNat : Int)) := by
        rcases HC.out with h0 | h0
        · rw [h0] at hlt; simp at hlt
        · exact h0
      subst ha
      have c0 := hcell k hlt
      rw [hx] at c0
      have HX := Lib.hid hx
      have hxl := x.toNat_lt
      have hx256 : (x.toNat : Int) < 256 := by omega
      have i1 : (k : Int) < (l.length : Int) := by omega
      have HH := Lib.hid (ts_high l k hsp.out)
      have HK := Lib.hid hk
      clear hx hcell hk
      by_cases h128 : x.toNat < 128
      · have hn : ¬ (128 : Int) ≤ (x.toNat : Int) := by omega
        have hT0 := HW.out.at x
        have HSW := Lib.hid (isSp_ws x h128)
        cases hs : Lib.isSp x
        · rw [hs] at hT0 HSW
          simp only [Bool.false_eq_true, if_false] at hT0
          have hdl : (l.drop k).length = l.length - k := List.length_drop
          have hm0 : ∃ h : 0 < (l.drop k).length, (l.drop k)[0] = x := ⟨by rw [hdl]; omega, by have := HX.out; simp [this]⟩
          clear hs
          go_upto_region 8 with (refine wpList_subL rfl 27 _ _ rfl 5 Tryd.underlying27 info_u8' _ _ rfl HB.out _ _ rfl k rfl (by omega) ?_; intro v2 b2 _)
          obtain ⟨m, hm⟩ : ∃ m, l.drop k = m := ⟨_, rfl⟩
          rw [hm] at b2 hdl hm0 HH
          obtain ⟨hmp, hmx⟩ := hm0
          have HMX := Lib.hid hmx
          obtain ⟨a2, c2, hv2, hcap2, hcm2, h32⟩ := id b2
          subst hv2
          obtain ⟨b', o', ha2, hcell2⟩ : ∃ b o, a2 = some ⟨b, o, none⟩ ∧ ∀ i (h : i < m.length), w.cell? ⟨b, o + i, none⟩ = some (.int .u8 (m[i].toNat : Int)) := by
            rcases h32 with h0 | h0
            · rw [h0] at hmp; simp at hmp
            · exact h0
          subst ha2
          have HB2 := Lib.hid b2
          have HC2 := Lib.hid hcell2
          have hc2 : c2 ≤ 9223372036854775807 := by unfold maxLen at hcm2; omega
          clear hm b2 hcell2 h32 hmx c0 hT0 hcm2 hdl HC
          go_wp2_with fail
          go_loopg [5] (m.length - 1) (fun g i wr => w = wr ∧ g < m.length ∧ i = .int .i64 (g : Int) ∧ Hid (∀ b ∈ m.drop (g + 1), b.toNat < 128 ∧ wsP b.toNat = true))
          case atStart => exact ⟨rfl, by omega, by first | go_num | (congr 1; omega), Lib.hid (by intro b hb; rw [List.drop_of_length_le (by omega)] at hb; cases hb)⟩
          case round =>
            obtain ⟨rfl, hq, rfl, hsp2⟩ := hrel
            obtain ⟨y, hy⟩ : ∃ y, m[gk] = y := ⟨_, rfl⟩
            have c1 := HC2.out gk hq
            rw [hy] at c1
            have HY := Lib.hid hy
            have hyl := y.toNat_lt
            have hy256 : (y.toNat : Int) < 256 := by omega
            have i2 : (gk : Int) < (m.length : Int) := by omega
            have HQ := Lib.hid hq
            have HLO := Lib.hid (ts_low m (gk + 1) hsp2.out)
            have hq1 : gk + 1 ≤ m.length := hq
            clear hy
            by_cases hy128 : y.toNat < 128
            · have hn2 : ¬ (128 : Int) ≤ (y.toNat : Int) := by omega
              have hT1 := HW.out.at y
              have HSY := Lib.hid (isSp_ws y hy128)
              cases hs : Lib.isSp y
              · rw [hs] at hT1 HSY
                simp only [Bool.false_eq_true, if_false] at hT1
                have HF := Lib.hid (ts_stay m gk HQ.out (by rw [HMX.out]; exact h128) (by rw [HMX.out]; exact HSW.out.symm) (by rw [HY.out]; exact hy128) (by rw [HY.out]; exact HSY.out.symm) hsp2.out)
                clear hs
                go_wp2_with (refine wpList_subH rfl 27 _ _ rfl 5 Tryd.underlying27 info_u8' _ _ rfl HB2.out _ _ rfl (gk + 1) (by go_num) (by omega) ?_)
                intro v4 b4 _
                go_wp2_with fail
                go_ret
                exact ⟨_, rfl, by rw [HH.out, HF.out]; exact b4, Ext.refl _⟩
              · rw [hs] at hT1 HSY
                simp only [if_true] at hT1
                have hpos : 0 < gk := by
                  rcases Nat.eq_zero_or_pos gk with e | e
                  · subst e
                    have h1 := HY.out
                    rw [HMX.out] at h1
                    rw [← h1, ← HSW.out] at HSY
                    exact absurd HSY.out (by simp)
                  · exact e
                clear hs
                go_wp2_with fail
                go_roundg (gk - 1)
                case measure => omega
                case rel =>
                  refine ⟨rfl, by omega, by first | go_num | (congr 1; omega), Lib.hid ?_⟩
                  intro b hb
                  have e : gk - 1 + 1 = gk := by omega
                  rw [e, List.drop_eq_getElem_cons HQ.out] at hb
                  rcases List.mem_cons.1 hb with rfl | hb
                  · rw [HY.out]; exact ⟨hy128, HSY.out.symm⟩
                  · exact hsp2.out b hb
            · have hn2 : (128 : Int) ≤ (y.toNat : Int) := by omega
              go_wp2_with (refine wpList_subH rfl 27 _ _ rfl 5 Tryd.underlying27 info_u8' _ _ rfl HB2.out _ _ rfl (gk + 1) (by go_num) (by omega) ?_)
              intro v4 b4 _
              go_wp2_with (go_at_call 40; refine (bytes_TrimFuncS v4 _ _ b4 HW.out HT.out).mono ?_)
              rintro _ w5 ⟨v5, rfl, b5, x5⟩
              go_wp2_with fail
              go_ret
              exact ⟨_, rfl, by rw [HH.out, HLO.out]; exact b5, x5⟩
        · rw [hs] at hT0 HSW
          simp only [if_true] at hT0
          clear hs
          go_wp2_with fail
          go_roundg (gk - 1)
          case measure => omega
          case rel =>
            refine ⟨rfl, rfl, k + 1, by have := HK.out; omega, by go_num, Lib.hid ?_⟩
            intro b hb
            rw [List.take_succ_eq_append_getElem hlt, List.mem_append, List.mem_singleton] at hb
            rcases hb with hb | rfl
            · exact hsp.out b hb
            · rw [HX.out]; exact ⟨h128, HSW.out.symm⟩
      · have hn : (128 : Int) ≤ (x.toNat : Int) := by omega
        go_wp2_with (refine wpList_subL rfl 27 _ _ rfl 5 Tryd.underlying27 info_u8' _ _ rfl HB.out _ _ rfl k rfl (by omega) ?_)
        intro v2 b2 _
        go_wp2_with (go_at_call 40; refine (bytes_TrimFuncS v2 _ _ b2 HW.out HT.out).mono ?_)
        rintro _ w3 ⟨v3, rfl, b3, x3⟩
        go_wp2_with fail
        go_ret
        exact ⟨_, rfl, by rw [HH.out]; exact b3, x3⟩
    · have hke : k = l.length := by omega
      subst hke
      have HF := Lib.hid (ts_none l (by have := hsp.out; rwa [List.take_length] at this))
      clear hk
      go_wp2_with fail
      go_ret
      exact ⟨_, rfl, by rw [HF.out]; exact Bs.nil _, Ext.refl _⟩
end Go.Proofs.YthbfdajbajijeaaDoor
