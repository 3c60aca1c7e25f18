/- The walk of the law FnEqualFoldMap: it returns true where the text has at most 2^20 bytes. Printed by eqlaws.py. -/
import Derived.Test.YtiahholgpbjjfaaDoorEqualW
import Derived.Test.YtiahholgpbjjfaaDoorWrapA
import Derived.Test.YtiahholgpbjjfaaDoorZG
import Derived.Test.YtiahholgpbjjfaaDoorMapW
import Derived.Test.YtiahholgpbjjfaaDoorMonoQ
import Derived.SizedLaws
import Derived.Deep.DeepCutAuto
namespace Go.Proofs.YtiahholgpbjjfaaDoor
open Go.RowKit

/-- Two rows of the call's own with unlike first elements lie in blocks of their own. -/
theorem owns_differ {B B' : Nat} {e e' : TypeId} {w : World} {v v' : Value} {n n' : Nat} {xs xs' : List Value} {x y : Value} (h : w.ownsRow B e 1 v n xs) (h' : w.ownsRow B' e' 1 v' n' xs') (hx : xs[0]? = some x) (hy : xs'[0]? = some y) (hne : x ≠ y) : v.ownBlock ≠ v'.ownBlock := by
  intro hb
  obtain ⟨k1, h2⟩ := h
  obtain ⟨k2, h2'⟩ := h'
  rcases h2 with ⟨_, h0⟩ | ⟨g, cap, cur, rfl, _, hh, _, _, _, ht⟩
  · subst h0
    have k0 : xs = [] := List.eq_nil_of_length_eq_zero (by simpa using k1)
    rw [k0] at hx; cases hx
  rcases h2' with ⟨_, h0⟩ | ⟨g', cap', cur', rfl, _, hh', _, _, _, ht'⟩
  · subst h0
    have k0 : xs' = [] := List.eq_nil_of_length_eq_zero (by simpa using k2)
    rw [k0] at hy; cases hy
  have hg : g = g' := by simpa [Value.ownBlock] using hb
  subst hg
  rw [hh] at hh'
  injection hh' with hh'
  injection hh' with hc _ _
  subst hc
  have a1 : (cur.toList.take (n * 1))[0]? = some x := by rw [ht]; exact hx
  have a2 : (cur.toList.take (n' * 1))[0]? = some y := by rw [ht']; exact hy
  rw [List.getElem?_take] at a1 a2
  split at a1
  · split at a2
    · exact hne (Option.some.inj (a1.symm.trans a2))
    · cases a2
  · cases a1
theorem owns_apartB {B B' : Nat} {e e' : TypeId} {size size' : Nat} {w w' : World} {v v' : Value} {n n' : Nat} {xs xs' : List Value} (_h : w.ownsRow B e size v n xs) (h' : w.ownsRow B' e' size' v' n' xs') (hne : v' = .slice none 0 0 ∨ v = .slice none 0 0 ∨ v.ownBlock ≠ v'.ownBlock) (hg : w.grownBy w' v.ownBlock) : w'.ownsRow B' e' size' v' n' xs' := by
  have hlt := owns_lt h'
  obtain ⟨h1, h2⟩ := h'
  refine ⟨h1, ?_⟩
  rcases h2 with h2 | ⟨g, cap, cur, hv, hgb, hh, r⟩
  · exact .inl h2
  · refine .inr ⟨g, cap, cur, hv, hgb, ?_, r⟩
    rw [hg.block g (hlt g (by rw [hv]; rfl)).2 ?_]
    · exact hh
    · intro e1
      rcases hne with h0 | h0 | h0
      · rw [hv] at h0; cases h0
      · rw [h0] at e1; cases e1
      · exact h0 (by rw [← e1, hv]; rfl)

set_option maxRecDepth 100000 in
set_option maxHeartbeats 8000000 in
theorem FnEqualFoldMap_walk (w : World) (hT : Tabs w) (hC : CaseW w) (a0 : ByteArray) (z0 : a0.size ≤ 1048576) :
    Calls Tryd.prog 6 #[.string a0] w fun e w' => e = .returned (.bool true) ∧ Below w.heap.size w w' := by
  have HT := Lib.hid hT
  have HC := Lib.hid hC
  have X : Ext w w := Ext.refl _
  clear hT hC
  have hm0 : a0.size ≤ maxLen := by have := reachBytes_lt; unfold maxLen; omega
  have cW := spec_Whole a0 w (by omega)
  have es : a0.data.toList.length = a0.size := rfl
  have HFM := Lib.hid (fold_map a0.data.toList)
  have hd0 := mapC_size (imageT rowsD) (chunks a0.data.toList)
  have hu0 := mapC_size (imageT rowsU) (chunks a0.data.toList)
  have hcl := chunks_length a0.data.toList
  rw [es] at hcl
  have hd1 : (mapB (imageT rowsD) a0.data.toList).length ≤ 4194304 := by show (mapC _ _).length ≤ _; omega
  have hu1 : (mapB (imageT rowsU) a0.data.toList).length ≤ 4194304 := by show (mapC _ _).length ≤ _; omega
  clear hd0 hu0 hcl
  cases hw : wholeB a0.data.toList
  · rw [hw] at cW
    clear hw
    go_enter Tryd.func6, Tryd.ntmps6
    go_wp2_with (go_at_call 10; refine cW.mono ?_)
    rintro _ w1 ⟨rfl, x1⟩
    go_wp2_with fail
    go_ret
    exact ⟨rfl, x1.below⟩
  rw [hw] at cW
  obtain ⟨e1, e2, e3, e4⟩ := HFM.out hw
  obtain ⟨D, hD⟩ : ∃ D, mapB (imageT rowsD) a0.data.toList = D := ⟨_, rfl⟩
  obtain ⟨U, hU⟩ : ∃ U, mapB (imageT rowsU) a0.data.toList = U := ⟨_, rfl⟩
  rw [hD] at e1 e3 hd1
  rw [hU] at e2 e3 e4 hu1
  have HD := Lib.hid hD
  have HU := Lib.hid hU
  have HE1 := Lib.hid e1
  have HE2 := Lib.hid e2
  have HE3 := Lib.hid e3
  have HE4 := Lib.hid (show ((U.length : Int) == (a0.size : Int)) = true by rw [e4, es]; simp)
  have hmd : (⟨D.toArray⟩ : ByteArray).size ≤ maxLen := by show D.length ≤ _; unfold maxLen; omega
  have hmu : (⟨U.toArray⟩ : ByteArray).size ≤ maxLen := by show U.length ≤ _; unfold maxLen; omega
  have HDD := Lib.hid (show (⟨D.toArray⟩ : ByteArray).data.toList = D from rfl)
  have HUU := Lib.hid (show (⟨U.toArray⟩ : ByteArray).data.toList = U from rfl)
  have HLD := Lib.hid (image_le rowsD (.inl rfl))
  have HLU := Lib.hid (image_le rowsU (.inr rfl))
  have HLB := Lib.hid (show a0.data.toList.length ≤ 17592186044416 by omega)
  clear hw HFM hD hU e1 e2 e3 e4 es
  go_enter Tryd.func6, Tryd.ntmps6
  go_wp2_with (go_at_call 10; refine cW.mono ?_)
  rintro _ w1 ⟨rfl, x1⟩
  replace X := X.trans x1
  have HX1 := Lib.hid X
  obtain ⟨n, hn⟩ : ∃ n, w1.heap.size = n := ⟨_, rfl⟩
  clear cW x1 X
  go_wp2_with fail
  go_loopg [3, 4, 5] 26 (fun k g s i wr => ∃ (j : Nat) (gv sv : Value), j + k = 26 ∧ i = .int .i32 ((65 + j : Nat) : Int) ∧ gv = g ∧ sv = s ∧ (j = 0 → gv = .slice none 0 0 ∧ sv = .slice none 0 0) ∧ wr.ownsRow n 21 1 gv j ((lettersG j).map (Value.int .i32)) ∧ wr.ownsRow n 21 1 sv j ((lettersS j).map (Value.int .i32)) ∧ Below n w1 wr)
  case atStart => exact ⟨0, _, _, by omega, rfl, rfl, rfl, fun _ => ⟨rfl, rfl⟩, World.ownsRow_nil _ _ _ _, World.ownsRow_nil _ _ _ _, Below.refl _ _⟩
  case round =>
    obtain ⟨j, gv, sv, hj, rfl, rfl, rfl, h0, hG, hS, hbe⟩ := hrel
    have HJ := Lib.hid hj
    have HG := Lib.hid hG
    have HS := Lib.hid hS
    have HB := Lib.hid hbe
    have HZ := Lib.hid h0
    have hnw : n ≤ wr.heap.size := by have := hbe.size; omega
    clear hG hS hbe h0
    by_cases hlt : j < 26
    · have hgk : 0 < gk := by omega
      have hle : ((65 + j : Nat) : Int) ≤ 90 := by omega
      obtain ⟨r, hr⟩ : ∃ r : Int, ((65 + j : Nat) : Int) = r := ⟨_, rfl⟩
      have HR := Lib.hid hr
      have HRS := Lib.hid (show ((97 + j : Nat) : Int) = r + 32 by omega)
      have HRN := Lib.hid (show ((65 + (j + 1) : Nat) : Int) = r + 1 by omega)
      rw [hr] at hle ⊢
      have hlo : 65 ≤ r := by omega
      clear hj hr
      -- the great letter
      have O1 := owns_keep HG.out (Ext.alloc wr (.cells #[.int .i32 r] 21))
      have S1 := owns_keep HS.out (Ext.alloc wr (.cells #[.int .i32 r] 21))
      have B1 := below_ext HB.out (Ext.alloc wr (.cells #[.int .i32 r] 21)) hnw
      have hn1 : n ≤ (wr.alloc (.cells #[.int .i32 r] 21)).heap.size := Nat.le_trans hnw (Ext.alloc wr _).size
      have N1 : sv = .slice none 0 0 ∨ gv = .slice none 0 0 ∨ gv.ownBlock ≠ sv.ownBlock := by
        cases j with
        | zero => exact .inl (HZ.out rfl).2
        | succ j =>
          exact .inr (.inr (owns_differ O1 S1 (x := .int .i32 65) (y := .int .i32 97) (by simp [lettersG, List.range_succ_eq_map]) (by simp [lettersS, List.range_succ_eq_map]) (by simp)))
      have HS1 := Lib.hid S1
      have HN1 := Lib.hid N1
      clear S1 N1
      go_wp2_with (refine wpList_appendV rfl 29 _ _ rfl 21 1 4 _ Tryd.underlying29 info_i32 rfl (by omega) n _ j _ rfl O1 _ 1 _ [.int .i32 r] rfl rfl (news_alloc _ _ _) (by simp [Value.oneCell']) (by omega) (by omega) hn1 ?_)
      intro v2 w2 o2 g2
      have B2 := owns_grown O1 g2 hn1 B1 (Nat.le_refl _)
      have S2 := owns_apartB O1 HS1.out HN1.out g2
      have hn2 : n ≤ w2.heap.size := by have := g2.size; omega
      clear g2 O1 B1 HS1 HN1
      have HO2 := Lib.hid o2
      have HS2 := Lib.hid S2
      have HB2 := Lib.hid B2
      clear o2 S2 B2
      -- the small one
      have O3 := owns_keep HS2.out (Ext.alloc w2 (.cells #[.int .i32 (r + 32)] 21))
      have G3 := owns_keep HO2.out (Ext.alloc w2 (.cells #[.int .i32 (r + 32)] 21))
      have B3 := below_ext HB2.out (Ext.alloc w2 (.cells #[.int .i32 (r + 32)] 21)) hn2
      have hn3 : n ≤ (w2.alloc (.cells #[.int .i32 (r + 32)] 21)).heap.size := Nat.le_trans hn2 (Ext.alloc w2 _).size
      have N3 : v2 = .slice none 0 0 ∨ sv = .slice none 0 0 ∨ sv.ownBlock ≠ v2.ownBlock := by
        cases j with
        | zero => exact .inr (.inl (HZ.out rfl).2)
        | succ j =>
          exact .inr (.inr (owns_differ O3 G3 (x := .int .i32 97) (y := .int .i32 65) (by simp [lettersS, List.range_succ_eq_map]) (by simp [lettersG, List.range_succ_eq_map]) (by simp)))
      have HG3 := Lib.hid G3
      have HN3 := Lib.hid N3
      clear G3 N3
      go_wp2_with (refine wpList_appendV rfl 29 _ _ rfl 21 1 4 _ Tryd.underlying29 info_i32 rfl (by omega) n _ j _ rfl O3 _ 1 _ [.int .i32 (r + 32)] rfl rfl (news_alloc _ _ _) (by simp [Value.oneCell']) (by omega) (by omega) hn3 ?_)
      intro v4 w4 o4 g4
      have B4 := owns_grown O3 g4 hn3 B3 (Nat.le_refl _)
      have G4 := owns_apartB O3 HG3.out HN3.out g4
      clear g4 O3 B3 HG3 HN3
      have HO4 := Lib.hid o4
      have HG4 := Lib.hid G4
      have HB4 := Lib.hid B4
      clear o4 G4 B4
      go_wp2_with fail
      go_roundg (gk - 1)
      case measure => omega
      case rel => exact ⟨j + 1, _, _, by have := HJ.out; omega, by rw [HRN.out], rfl, rfl, fun h => absurd h (by omega), by rw [lettersG_succ, List.map_append, HR.out]; exact HG4.out, by rw [lettersS_succ, List.map_append, HRS.out]; exact HO4.out, HB4.out⟩
    · have hje : j = 26 := by omega
      subst hje
      have hle : ¬ ((65 + 26 : Nat) : Int) ≤ 90 := by omega
      have XN : Ext w1 wr := ⟨by rw [hn]; exact HB.out⟩
      have iG : Is wr gv (lettersG 26) := vs_of_owns HG.out
      have iS : Is wr sv (lettersS 26) := vs_of_owns HS.out
      obtain ⟨wn, hwn⟩ : ∃ wn, wn = wr := ⟨_, rfl⟩
      subst hwn
      have HIG := Lib.hid iG
      have HIS := Lib.hid iS
      have HX := Lib.hid (HX1.out.trans XN)
      have HTb := Lib.hid (HT.out.ext HX.out)
      clear HG HS HB HZ HJ hj hnw iG iS XN hn HX1
      go_upto_region 9 with fail
      go_cut [6, 7] (fun s6 s7 wx => s6 = .string ⟨D.toArray⟩ ∧ s7 = .string ⟨U.toArray⟩ ∧ Ext wn wx)
      case first =>
        refine wp_region_mono (by kernel_rfl) [24, 25, 26, 27, 28, 29, 30, 31, 32, 33, 34, 35, 36, 37, 6, 7] (by kernel_rfl) (by decide) (by simp) (by kernel_rfl)
          (fun i => match i with | 0 => (fun v w => v = .string a0) | 1 => (fun v w => Bs w v a0.data.toList) | 2 => (fun v w => v = gv) | 3 => (fun v w => v = sv) | 4 => (fun v w => ∃ v7, v = .agg #[v7] ∧ Ts w v7 rowsD) | 5 => (fun v w => Bs w v D) | 6 => (fun v w => v = .string ⟨D.toArray⟩) | 7 => (fun v w => v = .string a0) | 8 => (fun v w => Bs w v a0.data.toList) | 9 => (fun v w => v = sv) | 10 => (fun v w => v = gv) | 11 => (fun v w => ∃ v7, v = .agg #[v7] ∧ Ts w v7 rowsU) | 12 => (fun v w => Bs w v U) | 13 => (fun v w => v = .string ⟨U.toArray⟩) | 14 => (fun v w => v = .string ⟨D.toArray⟩) | 15 => (fun v w => v = .string ⟨U.toArray⟩) | _ => fun _ _ => True) ?stable ?steps ?fin
        case stable =>
          intro i v w' w'' h x
          match i, h with
          | 0, h => exact h
          | 1, h => exact (show Bs w' v a0.data.toList from h).ext x
          | 2, h => exact h
          | 3, h => exact h
          | 4, ⟨v7, e7, i7⟩ => exact ⟨v7, e7, i7.ext x⟩
          | 5, h => exact (show Bs w' v D from h).ext x
          | 6, h => exact h
          | 7, h => exact h
          | 8, h => exact (show Bs w' v a0.data.toList from h).ext x
          | 9, h => exact h
          | 10, h => exact h
          | 11, ⟨v7, e7, i7⟩ => exact ⟨v7, e7, i7.ext x⟩
          | 12, h => exact (show Bs w' v U from h).ext x
          | 13, h => exact h
          | 14, h => exact h
          | 15, h => exact h
          | _ + 16, _ => trivial
        case steps =>
          refine AllSteps.cons (fun us hus w' x h => ?_) ?_
          · obtain ⟨u0, t0, e0, s0⟩ := len_cons hus; obtain ⟨u1, t1, e1, s1⟩ := len_cons s0; obtain ⟨u2, t2, e2, s2⟩ := len_cons s1; obtain ⟨u3, t3, e3, s3⟩ := len_cons s2; obtain ⟨u4, t4, e4, s4⟩ := len_cons s3; obtain ⟨u5, t5, e5, s5⟩ := len_cons s4; obtain ⟨u6, t6, e6, s6⟩ := len_cons s5; obtain ⟨u7, t7, e7, s7⟩ := len_cons s6; obtain ⟨u8, t8, e8, s8⟩ := len_cons s7; obtain ⟨u9, t9, e9, s9⟩ := len_cons s8; obtain ⟨u10, t10, e10, s10⟩ := len_cons s9; obtain ⟨u11, t11, e11, s11⟩ := len_cons s10; obtain ⟨u12, t12, e12, s12⟩ := len_cons s11; obtain ⟨u13, t13, e13, s13⟩ := len_cons s12; obtain ⟨u14, t14, e14, s14⟩ := len_cons s13; obtain ⟨u15, t15, e15, s15⟩ := len_cons s14
            obtain rfl := len_nil s15
            clear hus s0 s1 s2 s3 s4 s5 s6 s7 s8 s9 s10 s11 s12 s13 s14 s15
            subst e15 e14 e13 e12 e11 e10 e9 e8 e7 e6 e5 e4 e3 e2 e1 e0
            clear h
            simp only [over, Act.put, List.setIfInBounds_toArray, List.set_cons_zero, List.set_cons_succ]
            go_wp2_with fail
            exact postK_normal ⟨_, rfl, rfl, Ext.refl _⟩
          refine AllSteps.cons (fun us hus w' x h => ?_) ?_
          · obtain ⟨u0, t0, e0, s0⟩ := len_cons hus; obtain ⟨u1, t1, e1, s1⟩ := len_cons s0; obtain ⟨u2, t2, e2, s2⟩ := len_cons s1; obtain ⟨u3, t3, e3, s3⟩ := len_cons s2; obtain ⟨u4, t4, e4, s4⟩ := len_cons s3; obtain ⟨u5, t5, e5, s5⟩ := len_cons s4; obtain ⟨u6, t6, e6, s6⟩ := len_cons s5; obtain ⟨u7, t7, e7, s7⟩ := len_cons s6; obtain ⟨u8, t8, e8, s8⟩ := len_cons s7; obtain ⟨u9, t9, e9, s9⟩ := len_cons s8; obtain ⟨u10, t10, e10, s10⟩ := len_cons s9; obtain ⟨u11, t11, e11, s11⟩ := len_cons s10; obtain ⟨u12, t12, e12, s12⟩ := len_cons s11; obtain ⟨u13, t13, e13, s13⟩ := len_cons s12; obtain ⟨u14, t14, e14, s14⟩ := len_cons s13; obtain ⟨u15, t15, e15, s15⟩ := len_cons s14
            obtain rfl := len_nil s15
            clear hus s0 s1 s2 s3 s4 s5 s6 s7 s8 s9 s10 s11 s12 s13 s14 s15
            subst e15 e14 e13 e12 e11 e10 e9 e8 e7 e6 e5 e4 e3 e2 e1 e0
            have h0 : u0 = .string a0 := h 0 (by kernel_rfl)
            clear h
            simp only [over, Act.put, List.setIfInBounds_toArray, List.set_cons_zero, List.set_cons_succ]
            subst h0
            go_wp2_with (refine wpList_toBytes rfl 9 25 _ rfl 5 Tryd.underlying9 Tryd.underlying25 Tryd.underlying5 _ rfl hm0 ?_)
            intro v5 w5 o5 x5
            go_wp2_with fail
            exact postK_normal ⟨_, rfl, o5.bs, x5⟩
          refine AllSteps.cons (fun us hus w' x h => ?_) ?_
          · obtain ⟨u0, t0, e0, s0⟩ := len_cons hus; obtain ⟨u1, t1, e1, s1⟩ := len_cons s0; obtain ⟨u2, t2, e2, s2⟩ := len_cons s1; obtain ⟨u3, t3, e3, s3⟩ := len_cons s2; obtain ⟨u4, t4, e4, s4⟩ := len_cons s3; obtain ⟨u5, t5, e5, s5⟩ := len_cons s4; obtain ⟨u6, t6, e6, s6⟩ := len_cons s5; obtain ⟨u7, t7, e7, s7⟩ := len_cons s6; obtain ⟨u8, t8, e8, s8⟩ := len_cons s7; obtain ⟨u9, t9, e9, s9⟩ := len_cons s8; obtain ⟨u10, t10, e10, s10⟩ := len_cons s9; obtain ⟨u11, t11, e11, s11⟩ := len_cons s10; obtain ⟨u12, t12, e12, s12⟩ := len_cons s11; obtain ⟨u13, t13, e13, s13⟩ := len_cons s12; obtain ⟨u14, t14, e14, s14⟩ := len_cons s13; obtain ⟨u15, t15, e15, s15⟩ := len_cons s14
            obtain rfl := len_nil s15
            clear hus s0 s1 s2 s3 s4 s5 s6 s7 s8 s9 s10 s11 s12 s13 s14 s15
            subst e15 e14 e13 e12 e11 e10 e9 e8 e7 e6 e5 e4 e3 e2 e1 e0
            clear h
            simp only [over, Act.put, List.setIfInBounds_toArray, List.set_cons_zero, List.set_cons_succ]
            go_wp2_with fail
            exact postK_normal ⟨_, rfl, rfl, Ext.refl _⟩
          refine AllSteps.cons (fun us hus w' x h => ?_) ?_
          · obtain ⟨u0, t0, e0, s0⟩ := len_cons hus; obtain ⟨u1, t1, e1, s1⟩ := len_cons s0; obtain ⟨u2, t2, e2, s2⟩ := len_cons s1; obtain ⟨u3, t3, e3, s3⟩ := len_cons s2; obtain ⟨u4, t4, e4, s4⟩ := len_cons s3; obtain ⟨u5, t5, e5, s5⟩ := len_cons s4; obtain ⟨u6, t6, e6, s6⟩ := len_cons s5; obtain ⟨u7, t7, e7, s7⟩ := len_cons s6; obtain ⟨u8, t8, e8, s8⟩ := len_cons s7; obtain ⟨u9, t9, e9, s9⟩ := len_cons s8; obtain ⟨u10, t10, e10, s10⟩ := len_cons s9; obtain ⟨u11, t11, e11, s11⟩ := len_cons s10; obtain ⟨u12, t12, e12, s12⟩ := len_cons s11; obtain ⟨u13, t13, e13, s13⟩ := len_cons s12; obtain ⟨u14, t14, e14, s14⟩ := len_cons s13; obtain ⟨u15, t15, e15, s15⟩ := len_cons s14
            obtain rfl := len_nil s15
            clear hus s0 s1 s2 s3 s4 s5 s6 s7 s8 s9 s10 s11 s12 s13 s14 s15
            subst e15 e14 e13 e12 e11 e10 e9 e8 e7 e6 e5 e4 e3 e2 e1 e0
            clear h
            simp only [over, Act.put, List.setIfInBounds_toArray, List.set_cons_zero, List.set_cons_succ]
            go_wp2_with fail
            exact postK_normal ⟨_, rfl, rfl, Ext.refl _⟩
          refine AllSteps.cons (fun us hus w' x h => ?_) ?_
          · obtain ⟨u0, t0, e0, s0⟩ := len_cons hus; obtain ⟨u1, t1, e1, s1⟩ := len_cons s0; obtain ⟨u2, t2, e2, s2⟩ := len_cons s1; obtain ⟨u3, t3, e3, s3⟩ := len_cons s2; obtain ⟨u4, t4, e4, s4⟩ := len_cons s3; obtain ⟨u5, t5, e5, s5⟩ := len_cons s4; obtain ⟨u6, t6, e6, s6⟩ := len_cons s5; obtain ⟨u7, t7, e7, s7⟩ := len_cons s6; obtain ⟨u8, t8, e8, s8⟩ := len_cons s7; obtain ⟨u9, t9, e9, s9⟩ := len_cons s8; obtain ⟨u10, t10, e10, s10⟩ := len_cons s9; obtain ⟨u11, t11, e11, s11⟩ := len_cons s10; obtain ⟨u12, t12, e12, s12⟩ := len_cons s11; obtain ⟨u13, t13, e13, s13⟩ := len_cons s12; obtain ⟨u14, t14, e14, s14⟩ := len_cons s13; obtain ⟨u15, t15, e15, s15⟩ := len_cons s14
            obtain rfl := len_nil s15
            clear hus s0 s1 s2 s3 s4 s5 s6 s7 s8 s9 s10 s11 s12 s13 s14 s15
            subst e15 e14 e13 e12 e11 e10 e9 e8 e7 e6 e5 e4 e3 e2 e1 e0
            have h2 : u2 = gv := h 2 (by kernel_rfl)
            have h3 : u3 = sv := h 3 (by kernel_rfl)
            clear h
            simp only [over, Act.put, List.setIfInBounds_toArray, List.set_cons_zero, List.set_cons_succ]
            subst h2
            subst h3
            have c5 : Calls Tryd.prog 13 _ _ (RetTab _ rowsD) := laws_table _ _ (lettersG 26) (lettersS 26) _ (HIG.out.ext x) (HIS.out.ext x) (by rw [lettersG_length]; decide)
            go_wp2_with (go_at_call 13; refine c5.mono ?_)
            rintro _ w5 ⟨v5, rfl, o5, x5⟩
            go_wp2_with fail
            exact postK_normal ⟨_, rfl, ⟨_, rfl, o5⟩, x5⟩
          refine AllSteps.cons (fun us hus w' x h => ?_) ?_
          · obtain ⟨u0, t0, e0, s0⟩ := len_cons hus; obtain ⟨u1, t1, e1, s1⟩ := len_cons s0; obtain ⟨u2, t2, e2, s2⟩ := len_cons s1; obtain ⟨u3, t3, e3, s3⟩ := len_cons s2; obtain ⟨u4, t4, e4, s4⟩ := len_cons s3; obtain ⟨u5, t5, e5, s5⟩ := len_cons s4; obtain ⟨u6, t6, e6, s6⟩ := len_cons s5; obtain ⟨u7, t7, e7, s7⟩ := len_cons s6; obtain ⟨u8, t8, e8, s8⟩ := len_cons s7; obtain ⟨u9, t9, e9, s9⟩ := len_cons s8; obtain ⟨u10, t10, e10, s10⟩ := len_cons s9; obtain ⟨u11, t11, e11, s11⟩ := len_cons s10; obtain ⟨u12, t12, e12, s12⟩ := len_cons s11; obtain ⟨u13, t13, e13, s13⟩ := len_cons s12; obtain ⟨u14, t14, e14, s14⟩ := len_cons s13; obtain ⟨u15, t15, e15, s15⟩ := len_cons s14
            obtain rfl := len_nil s15
            clear hus s0 s1 s2 s3 s4 s5 s6 s7 s8 s9 s10 s11 s12 s13 s14 s15
            subst e15 e14 e13 e12 e11 e10 e9 e8 e7 e6 e5 e4 e3 e2 e1 e0
            have h1 : Bs w' u1 a0.data.toList := h 1 (by kernel_rfl)
            have h4 : ∃ v7, u4 = .agg #[v7] ∧ Ts w' v7 rowsD := h 4 (by kernel_rfl)
            clear h
            simp only [over, Act.put, List.setIfInBounds_toArray, List.set_cons_zero, List.set_cons_succ]
            obtain ⟨v7, e7, i7⟩ := h4
            obtain ⟨ta, tc, te, _⟩ := i7.raw
            subst te
            subst e7
            have c5 := impl_Map _ _ rowsD _ _ i7 h1 (HTb.out.ext x) HLB.out HLD.out
            rw [HD.out] at c5
            go_wp2_with (go_at_call 12; refine c5.mono ?_)
            rintro _ w5 ⟨v5, rfl, o5, x5⟩
            go_wp2_with fail
            exact postK_normal ⟨_, rfl, o5.bs, x5⟩
          refine AllSteps.cons (fun us hus w' x h => ?_) ?_
          · obtain ⟨u0, t0, e0, s0⟩ := len_cons hus; obtain ⟨u1, t1, e1, s1⟩ := len_cons s0; obtain ⟨u2, t2, e2, s2⟩ := len_cons s1; obtain ⟨u3, t3, e3, s3⟩ := len_cons s2; obtain ⟨u4, t4, e4, s4⟩ := len_cons s3; obtain ⟨u5, t5, e5, s5⟩ := len_cons s4; obtain ⟨u6, t6, e6, s6⟩ := len_cons s5; obtain ⟨u7, t7, e7, s7⟩ := len_cons s6; obtain ⟨u8, t8, e8, s8⟩ := len_cons s7; obtain ⟨u9, t9, e9, s9⟩ := len_cons s8; obtain ⟨u10, t10, e10, s10⟩ := len_cons s9; obtain ⟨u11, t11, e11, s11⟩ := len_cons s10; obtain ⟨u12, t12, e12, s12⟩ := len_cons s11; obtain ⟨u13, t13, e13, s13⟩ := len_cons s12; obtain ⟨u14, t14, e14, s14⟩ := len_cons s13; obtain ⟨u15, t15, e15, s15⟩ := len_cons s14
            obtain rfl := len_nil s15
            clear hus s0 s1 s2 s3 s4 s5 s6 s7 s8 s9 s10 s11 s12 s13 s14 s15
            subst e15 e14 e13 e12 e11 e10 e9 e8 e7 e6 e5 e4 e3 e2 e1 e0
            have h5 : Bs w' u5 D := h 5 (by kernel_rfl)
            clear h
            simp only [over, Act.put, List.setIfInBounds_toArray, List.set_cons_zero, List.set_cons_succ]
            go_wp2_with (refine wpList_toString rfl 25 9 _ rfl 5 Tryd.underlying25 Tryd.underlying5 Tryd.underlying9 _ _ rfl h5 ?_)
            exact postK_normal ⟨_, rfl, rfl, Ext.refl _⟩
          refine AllSteps.cons (fun us hus w' x h => ?_) ?_
          · obtain ⟨u0, t0, e0, s0⟩ := len_cons hus; obtain ⟨u1, t1, e1, s1⟩ := len_cons s0; obtain ⟨u2, t2, e2, s2⟩ := len_cons s1; obtain ⟨u3, t3, e3, s3⟩ := len_cons s2; obtain ⟨u4, t4, e4, s4⟩ := len_cons s3; obtain ⟨u5, t5, e5, s5⟩ := len_cons s4; obtain ⟨u6, t6, e6, s6⟩ := len_cons s5; obtain ⟨u7, t7, e7, s7⟩ := len_cons s6; obtain ⟨u8, t8, e8, s8⟩ := len_cons s7; obtain ⟨u9, t9, e9, s9⟩ := len_cons s8; obtain ⟨u10, t10, e10, s10⟩ := len_cons s9; obtain ⟨u11, t11, e11, s11⟩ := len_cons s10; obtain ⟨u12, t12, e12, s12⟩ := len_cons s11; obtain ⟨u13, t13, e13, s13⟩ := len_cons s12; obtain ⟨u14, t14, e14, s14⟩ := len_cons s13; obtain ⟨u15, t15, e15, s15⟩ := len_cons s14
            obtain rfl := len_nil s15
            clear hus s0 s1 s2 s3 s4 s5 s6 s7 s8 s9 s10 s11 s12 s13 s14 s15
            subst e15 e14 e13 e12 e11 e10 e9 e8 e7 e6 e5 e4 e3 e2 e1 e0
            clear h
            simp only [over, Act.put, List.setIfInBounds_toArray, List.set_cons_zero, List.set_cons_succ]
            go_wp2_with fail
            exact postK_normal ⟨_, rfl, rfl, Ext.refl _⟩
          refine AllSteps.cons (fun us hus w' x h => ?_) ?_
          · obtain ⟨u0, t0, e0, s0⟩ := len_cons hus; obtain ⟨u1, t1, e1, s1⟩ := len_cons s0; obtain ⟨u2, t2, e2, s2⟩ := len_cons s1; obtain ⟨u3, t3, e3, s3⟩ := len_cons s2; obtain ⟨u4, t4, e4, s4⟩ := len_cons s3; obtain ⟨u5, t5, e5, s5⟩ := len_cons s4; obtain ⟨u6, t6, e6, s6⟩ := len_cons s5; obtain ⟨u7, t7, e7, s7⟩ := len_cons s6; obtain ⟨u8, t8, e8, s8⟩ := len_cons s7; obtain ⟨u9, t9, e9, s9⟩ := len_cons s8; obtain ⟨u10, t10, e10, s10⟩ := len_cons s9; obtain ⟨u11, t11, e11, s11⟩ := len_cons s10; obtain ⟨u12, t12, e12, s12⟩ := len_cons s11; obtain ⟨u13, t13, e13, s13⟩ := len_cons s12; obtain ⟨u14, t14, e14, s14⟩ := len_cons s13; obtain ⟨u15, t15, e15, s15⟩ := len_cons s14
            obtain rfl := len_nil s15
            clear hus s0 s1 s2 s3 s4 s5 s6 s7 s8 s9 s10 s11 s12 s13 s14 s15
            subst e15 e14 e13 e12 e11 e10 e9 e8 e7 e6 e5 e4 e3 e2 e1 e0
            have h7 : u7 = .string a0 := h 7 (by kernel_rfl)
            clear h
            simp only [over, Act.put, List.setIfInBounds_toArray, List.set_cons_zero, List.set_cons_succ]
            subst h7
            go_wp2_with (refine wpList_toBytes rfl 9 25 _ rfl 5 Tryd.underlying9 Tryd.underlying25 Tryd.underlying5 _ rfl hm0 ?_)
            intro v5 w5 o5 x5
            go_wp2_with fail
            exact postK_normal ⟨_, rfl, o5.bs, x5⟩
          refine AllSteps.cons (fun us hus w' x h => ?_) ?_
          · obtain ⟨u0, t0, e0, s0⟩ := len_cons hus; obtain ⟨u1, t1, e1, s1⟩ := len_cons s0; obtain ⟨u2, t2, e2, s2⟩ := len_cons s1; obtain ⟨u3, t3, e3, s3⟩ := len_cons s2; obtain ⟨u4, t4, e4, s4⟩ := len_cons s3; obtain ⟨u5, t5, e5, s5⟩ := len_cons s4; obtain ⟨u6, t6, e6, s6⟩ := len_cons s5; obtain ⟨u7, t7, e7, s7⟩ := len_cons s6; obtain ⟨u8, t8, e8, s8⟩ := len_cons s7; obtain ⟨u9, t9, e9, s9⟩ := len_cons s8; obtain ⟨u10, t10, e10, s10⟩ := len_cons s9; obtain ⟨u11, t11, e11, s11⟩ := len_cons s10; obtain ⟨u12, t12, e12, s12⟩ := len_cons s11; obtain ⟨u13, t13, e13, s13⟩ := len_cons s12; obtain ⟨u14, t14, e14, s14⟩ := len_cons s13; obtain ⟨u15, t15, e15, s15⟩ := len_cons s14
            obtain rfl := len_nil s15
            clear hus s0 s1 s2 s3 s4 s5 s6 s7 s8 s9 s10 s11 s12 s13 s14 s15
            subst e15 e14 e13 e12 e11 e10 e9 e8 e7 e6 e5 e4 e3 e2 e1 e0
            clear h
            simp only [over, Act.put, List.setIfInBounds_toArray, List.set_cons_zero, List.set_cons_succ]
            go_wp2_with fail
            exact postK_normal ⟨_, rfl, rfl, Ext.refl _⟩
          refine AllSteps.cons (fun us hus w' x h => ?_) ?_
          · obtain ⟨u0, t0, e0, s0⟩ := len_cons hus; obtain ⟨u1, t1, e1, s1⟩ := len_cons s0; obtain ⟨u2, t2, e2, s2⟩ := len_cons s1; obtain ⟨u3, t3, e3, s3⟩ := len_cons s2; obtain ⟨u4, t4, e4, s4⟩ := len_cons s3; obtain ⟨u5, t5, e5, s5⟩ := len_cons s4; obtain ⟨u6, t6, e6, s6⟩ := len_cons s5; obtain ⟨u7, t7, e7, s7⟩ := len_cons s6; obtain ⟨u8, t8, e8, s8⟩ := len_cons s7; obtain ⟨u9, t9, e9, s9⟩ := len_cons s8; obtain ⟨u10, t10, e10, s10⟩ := len_cons s9; obtain ⟨u11, t11, e11, s11⟩ := len_cons s10; obtain ⟨u12, t12, e12, s12⟩ := len_cons s11; obtain ⟨u13, t13, e13, s13⟩ := len_cons s12; obtain ⟨u14, t14, e14, s14⟩ := len_cons s13; obtain ⟨u15, t15, e15, s15⟩ := len_cons s14
            obtain rfl := len_nil s15
            clear hus s0 s1 s2 s3 s4 s5 s6 s7 s8 s9 s10 s11 s12 s13 s14 s15
            subst e15 e14 e13 e12 e11 e10 e9 e8 e7 e6 e5 e4 e3 e2 e1 e0
            clear h
            simp only [over, Act.put, List.setIfInBounds_toArray, List.set_cons_zero, List.set_cons_succ]
            go_wp2_with fail
            exact postK_normal ⟨_, rfl, rfl, Ext.refl _⟩
          refine AllSteps.cons (fun us hus w' x h => ?_) ?_
          · obtain ⟨u0, t0, e0, s0⟩ := len_cons hus; obtain ⟨u1, t1, e1, s1⟩ := len_cons s0; obtain ⟨u2, t2, e2, s2⟩ := len_cons s1; obtain ⟨u3, t3, e3, s3⟩ := len_cons s2; obtain ⟨u4, t4, e4, s4⟩ := len_cons s3; obtain ⟨u5, t5, e5, s5⟩ := len_cons s4; obtain ⟨u6, t6, e6, s6⟩ := len_cons s5; obtain ⟨u7, t7, e7, s7⟩ := len_cons s6; obtain ⟨u8, t8, e8, s8⟩ := len_cons s7; obtain ⟨u9, t9, e9, s9⟩ := len_cons s8; obtain ⟨u10, t10, e10, s10⟩ := len_cons s9; obtain ⟨u11, t11, e11, s11⟩ := len_cons s10; obtain ⟨u12, t12, e12, s12⟩ := len_cons s11; obtain ⟨u13, t13, e13, s13⟩ := len_cons s12; obtain ⟨u14, t14, e14, s14⟩ := len_cons s13; obtain ⟨u15, t15, e15, s15⟩ := len_cons s14
            obtain rfl := len_nil s15
            clear hus s0 s1 s2 s3 s4 s5 s6 s7 s8 s9 s10 s11 s12 s13 s14 s15
            subst e15 e14 e13 e12 e11 e10 e9 e8 e7 e6 e5 e4 e3 e2 e1 e0
            have h9 : u9 = sv := h 9 (by kernel_rfl)
            have h10 : u10 = gv := h 10 (by kernel_rfl)
            clear h
            simp only [over, Act.put, List.setIfInBounds_toArray, List.set_cons_zero, List.set_cons_succ]
            subst h9
            subst h10
            have c5 : Calls Tryd.prog 13 _ _ (RetTab _ rowsU) := laws_table _ _ (lettersS 26) (lettersG 26) _ (HIS.out.ext x) (HIG.out.ext x) (by rw [lettersS_length]; decide)
            go_wp2_with (go_at_call 13; refine c5.mono ?_)
            rintro _ w5 ⟨v5, rfl, o5, x5⟩
            go_wp2_with fail
            exact postK_normal ⟨_, rfl, ⟨_, rfl, o5⟩, x5⟩
          refine AllSteps.cons (fun us hus w' x h => ?_) ?_
          · obtain ⟨u0, t0, e0, s0⟩ := len_cons hus; obtain ⟨u1, t1, e1, s1⟩ := len_cons s0; obtain ⟨u2, t2, e2, s2⟩ := len_cons s1; obtain ⟨u3, t3, e3, s3⟩ := len_cons s2; obtain ⟨u4, t4, e4, s4⟩ := len_cons s3; obtain ⟨u5, t5, e5, s5⟩ := len_cons s4; obtain ⟨u6, t6, e6, s6⟩ := len_cons s5; obtain ⟨u7, t7, e7, s7⟩ := len_cons s6; obtain ⟨u8, t8, e8, s8⟩ := len_cons s7; obtain ⟨u9, t9, e9, s9⟩ := len_cons s8; obtain ⟨u10, t10, e10, s10⟩ := len_cons s9; obtain ⟨u11, t11, e11, s11⟩ := len_cons s10; obtain ⟨u12, t12, e12, s12⟩ := len_cons s11; obtain ⟨u13, t13, e13, s13⟩ := len_cons s12; obtain ⟨u14, t14, e14, s14⟩ := len_cons s13; obtain ⟨u15, t15, e15, s15⟩ := len_cons s14
            obtain rfl := len_nil s15
            clear hus s0 s1 s2 s3 s4 s5 s6 s7 s8 s9 s10 s11 s12 s13 s14 s15
            subst e15 e14 e13 e12 e11 e10 e9 e8 e7 e6 e5 e4 e3 e2 e1 e0
            have h8 : Bs w' u8 a0.data.toList := h 8 (by kernel_rfl)
            have h11 : ∃ v7, u11 = .agg #[v7] ∧ Ts w' v7 rowsU := h 11 (by kernel_rfl)
            clear h
            simp only [over, Act.put, List.setIfInBounds_toArray, List.set_cons_zero, List.set_cons_succ]
            obtain ⟨v7, e7, i7⟩ := h11
            obtain ⟨ta, tc, te, _⟩ := i7.raw
            subst te
            subst e7
            have c5 := impl_Map _ _ rowsU _ _ i7 h8 (HTb.out.ext x) HLB.out HLU.out
            rw [HU.out] at c5
            go_wp2_with (go_at_call 12; refine c5.mono ?_)
            rintro _ w5 ⟨v5, rfl, o5, x5⟩
            go_wp2_with fail
            exact postK_normal ⟨_, rfl, o5.bs, x5⟩
          refine AllSteps.cons (fun us hus w' x h => ?_) ?_
          · obtain ⟨u0, t0, e0, s0⟩ := len_cons hus; obtain ⟨u1, t1, e1, s1⟩ := len_cons s0; obtain ⟨u2, t2, e2, s2⟩ := len_cons s1; obtain ⟨u3, t3, e3, s3⟩ := len_cons s2; obtain ⟨u4, t4, e4, s4⟩ := len_cons s3; obtain ⟨u5, t5, e5, s5⟩ := len_cons s4; obtain ⟨u6, t6, e6, s6⟩ := len_cons s5; obtain ⟨u7, t7, e7, s7⟩ := len_cons s6; obtain ⟨u8, t8, e8, s8⟩ := len_cons s7; obtain ⟨u9, t9, e9, s9⟩ := len_cons s8; obtain ⟨u10, t10, e10, s10⟩ := len_cons s9; obtain ⟨u11, t11, e11, s11⟩ := len_cons s10; obtain ⟨u12, t12, e12, s12⟩ := len_cons s11; obtain ⟨u13, t13, e13, s13⟩ := len_cons s12; obtain ⟨u14, t14, e14, s14⟩ := len_cons s13; obtain ⟨u15, t15, e15, s15⟩ := len_cons s14
            obtain rfl := len_nil s15
            clear hus s0 s1 s2 s3 s4 s5 s6 s7 s8 s9 s10 s11 s12 s13 s14 s15
            subst e15 e14 e13 e12 e11 e10 e9 e8 e7 e6 e5 e4 e3 e2 e1 e0
            have h12 : Bs w' u12 U := h 12 (by kernel_rfl)
            clear h
            simp only [over, Act.put, List.setIfInBounds_toArray, List.set_cons_zero, List.set_cons_succ]
            go_wp2_with (refine wpList_toString rfl 25 9 _ rfl 5 Tryd.underlying25 Tryd.underlying5 Tryd.underlying9 _ _ rfl h12 ?_)
            exact postK_normal ⟨_, rfl, rfl, Ext.refl _⟩
          refine AllSteps.cons (fun us hus w' x h => ?_) ?_
          · obtain ⟨u0, t0, e0, s0⟩ := len_cons hus; obtain ⟨u1, t1, e1, s1⟩ := len_cons s0; obtain ⟨u2, t2, e2, s2⟩ := len_cons s1; obtain ⟨u3, t3, e3, s3⟩ := len_cons s2; obtain ⟨u4, t4, e4, s4⟩ := len_cons s3; obtain ⟨u5, t5, e5, s5⟩ := len_cons s4; obtain ⟨u6, t6, e6, s6⟩ := len_cons s5; obtain ⟨u7, t7, e7, s7⟩ := len_cons s6; obtain ⟨u8, t8, e8, s8⟩ := len_cons s7; obtain ⟨u9, t9, e9, s9⟩ := len_cons s8; obtain ⟨u10, t10, e10, s10⟩ := len_cons s9; obtain ⟨u11, t11, e11, s11⟩ := len_cons s10; obtain ⟨u12, t12, e12, s12⟩ := len_cons s11; obtain ⟨u13, t13, e13, s13⟩ := len_cons s12; obtain ⟨u14, t14, e14, s14⟩ := len_cons s13; obtain ⟨u15, t15, e15, s15⟩ := len_cons s14
            obtain rfl := len_nil s15
            clear hus s0 s1 s2 s3 s4 s5 s6 s7 s8 s9 s10 s11 s12 s13 s14 s15
            subst e15 e14 e13 e12 e11 e10 e9 e8 e7 e6 e5 e4 e3 e2 e1 e0
            have h6 : u6 = .string ⟨D.toArray⟩ := h 6 (by kernel_rfl)
            clear h
            simp only [over, Act.put, List.setIfInBounds_toArray, List.set_cons_zero, List.set_cons_succ]
            subst h6
            go_wp2_with fail
            exact postK_normal ⟨_, rfl, rfl, Ext.refl _⟩
          refine AllSteps.cons (fun us hus w' x h => ?_) ?_
          · obtain ⟨u0, t0, e0, s0⟩ := len_cons hus; obtain ⟨u1, t1, e1, s1⟩ := len_cons s0; obtain ⟨u2, t2, e2, s2⟩ := len_cons s1; obtain ⟨u3, t3, e3, s3⟩ := len_cons s2; obtain ⟨u4, t4, e4, s4⟩ := len_cons s3; obtain ⟨u5, t5, e5, s5⟩ := len_cons s4; obtain ⟨u6, t6, e6, s6⟩ := len_cons s5; obtain ⟨u7, t7, e7, s7⟩ := len_cons s6; obtain ⟨u8, t8, e8, s8⟩ := len_cons s7; obtain ⟨u9, t9, e9, s9⟩ := len_cons s8; obtain ⟨u10, t10, e10, s10⟩ := len_cons s9; obtain ⟨u11, t11, e11, s11⟩ := len_cons s10; obtain ⟨u12, t12, e12, s12⟩ := len_cons s11; obtain ⟨u13, t13, e13, s13⟩ := len_cons s12; obtain ⟨u14, t14, e14, s14⟩ := len_cons s13; obtain ⟨u15, t15, e15, s15⟩ := len_cons s14
            obtain rfl := len_nil s15
            clear hus s0 s1 s2 s3 s4 s5 s6 s7 s8 s9 s10 s11 s12 s13 s14 s15
            subst e15 e14 e13 e12 e11 e10 e9 e8 e7 e6 e5 e4 e3 e2 e1 e0
            have h13 : u13 = .string ⟨U.toArray⟩ := h 13 (by kernel_rfl)
            clear h
            simp only [over, Act.put, List.setIfInBounds_toArray, List.set_cons_zero, List.set_cons_succ]
            subst h13
            go_wp2_with fail
            exact postK_normal ⟨_, rfl, rfl, Ext.refl _⟩
          exact AllSteps.nil
        case fin =>
          intro us hus w' x h
          obtain ⟨u0, t0, e0, s0⟩ := len_cons hus; obtain ⟨u1, t1, e1, s1⟩ := len_cons s0; obtain ⟨u2, t2, e2, s2⟩ := len_cons s1; obtain ⟨u3, t3, e3, s3⟩ := len_cons s2; obtain ⟨u4, t4, e4, s4⟩ := len_cons s3; obtain ⟨u5, t5, e5, s5⟩ := len_cons s4; obtain ⟨u6, t6, e6, s6⟩ := len_cons s5; obtain ⟨u7, t7, e7, s7⟩ := len_cons s6; obtain ⟨u8, t8, e8, s8⟩ := len_cons s7; obtain ⟨u9, t9, e9, s9⟩ := len_cons s8; obtain ⟨u10, t10, e10, s10⟩ := len_cons s9; obtain ⟨u11, t11, e11, s11⟩ := len_cons s10; obtain ⟨u12, t12, e12, s12⟩ := len_cons s11; obtain ⟨u13, t13, e13, s13⟩ := len_cons s12; obtain ⟨u14, t14, e14, s14⟩ := len_cons s13; obtain ⟨u15, t15, e15, s15⟩ := len_cons s14
          obtain rfl := len_nil s15
          clear hus s0 s1 s2 s3 s4 s5 s6 s7 s8 s9 s10 s11 s12 s13 s14 s15
          subst e15 e14 e13 e12 e11 e10 e9 e8 e7 e6 e5 e4 e3 e2 e1 e0
          have h14 : u14 = .string ⟨D.toArray⟩ := h 14 (by decide)
          have h15 : u15 = .string ⟨U.toArray⟩ := h 15 (by decide)
          clear h
          subst h14 h15
          simp only [over, Act.put, List.setIfInBounds_toArray, List.set_cons_zero, List.set_cons_succ]
          go_wp2_with fail
          go_meet
          exact ⟨rfl, rfl, x⟩
      case rest =>
        obtain ⟨rfl, rfl, x8⟩ := hcut
        have X := HX.out.trans x8
        have he4 := HE4.out
        clear HX x8 HTb HIG HIS
        go_wp2_with (refine wpList_toBytes rfl 9 25 _ rfl 5 Tryd.underlying9 Tryd.underlying25 Tryd.underlying5 _ rfl hm0 ?_)
        intro v10 w10 o10 x10
        have p10 : Bs w10 v10 a0.data.toList := o10.bs
        replace X := X.trans x10
        clear o10 x10
        go_wp2_with (refine wpList_toBytes rfl 9 25 _ rfl 5 Tryd.underlying9 Tryd.underlying25 Tryd.underlying5 _ rfl hmd ?_)
        intro v11 w11 o11 x11
        have p11 : Bs w11 v11 D := (by have := o11.bs; first | exact this | (rw [HDD.out] at this; exact this) | simpa using this)
        replace X := X.trans x11
        replace p10 := p10.ext x11
        clear o11 x11
        have c11 := impl_EqualFold _ _ a0.data.toList D _ p10 p11 (HT.out.ext X) (HC.out.ext X)
        rw [HE1.out] at c11
        clear p10 p11
        go_wp2_with (go_at_call 9; refine c11.mono ?_)
        rintro _ w12 ⟨rfl, x12⟩
        replace X := X.trans x12
        clear c11 x12
        go_wp2_with (refine wpList_toBytes rfl 9 25 _ rfl 5 Tryd.underlying9 Tryd.underlying25 Tryd.underlying5 _ rfl hmu ?_)
        intro v13 w13 o13 x13
        have p13 : Bs w13 v13 U := (by have := o13.bs; first | exact this | (rw [HUU.out] at this; exact this) | simpa using this)
        replace X := X.trans x13
        clear o13 x13
        go_wp2_with (refine wpList_toBytes rfl 9 25 _ rfl 5 Tryd.underlying9 Tryd.underlying25 Tryd.underlying5 _ rfl hm0 ?_)
        intro v14 w14 o14 x14
        have p14 : Bs w14 v14 a0.data.toList := o14.bs
        replace X := X.trans x14
        replace p13 := p13.ext x14
        clear o14 x14
        have c14 := impl_EqualFold _ _ U a0.data.toList _ p13 p14 (HT.out.ext X) (HC.out.ext X)
        rw [HE2.out] at c14
        clear p13 p14
        go_wp2_with (go_at_call 9; refine c14.mono ?_)
        rintro _ w15 ⟨rfl, x15⟩
        replace X := X.trans x15
        clear c14 x15
        go_wp2_with (refine wpList_toBytes rfl 9 25 _ rfl 5 Tryd.underlying9 Tryd.underlying25 Tryd.underlying5 _ rfl hmu ?_)
        intro v16 w16 o16 x16
        have p16 : Bs w16 v16 U := (by have := o16.bs; first | exact this | (rw [HUU.out] at this; exact this) | simpa using this)
        replace X := X.trans x16
        clear o16 x16
        go_wp2_with (refine wpList_toBytes rfl 9 25 _ rfl 5 Tryd.underlying9 Tryd.underlying25 Tryd.underlying5 _ rfl hmd ?_)
        intro v17 w17 o17 x17
        have p17 : Bs w17 v17 D := (by have := o17.bs; first | exact this | (rw [HDD.out] at this; exact this) | simpa using this)
        replace X := X.trans x17
        replace p16 := p16.ext x17
        clear o17 x17
        have c17 := impl_EqualFold _ _ U D _ p16 p17 (HT.out.ext X) (HC.out.ext X)
        rw [HE3.out] at c17
        clear p16 p17
        go_wp2_with (go_at_call 9; refine c17.mono ?_)
        rintro _ w18 ⟨rfl, x18⟩
        replace X := X.trans x18
        clear c17 x18
        go_wp2_with fail
        go_ret
        exact ⟨rfl, X.below⟩
end Go.Proofs.YtiahholgpbjjfaaDoor
