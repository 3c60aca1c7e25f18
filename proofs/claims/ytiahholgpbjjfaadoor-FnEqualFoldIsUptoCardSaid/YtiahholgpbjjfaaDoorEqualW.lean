/- The walk of bytes.EqualFold, impl.EqualFold. Printed by equalw.py. -/
import Derived.Test.YtiahholgpbjjfaaDoorFoldW
import Derived.Test.YtiahholgpbjjfaaDoorBytesA
import Derived.Test.YtiahholgpbjjfaaDoorMono
import Derived.Laws.BitsAllLaws
import Derived.WalkMore
import Derived.ScopeJumps
import Derived.Deep.DeepCutAuto
import Derived.Deep.CutBlock
namespace Go.Proofs.YtiahholgpbjjfaaDoor
open Go.RowKit

/-- Where the jump to the walk over code points comes: k bytes are done. -/
def JumpAt (w : World) (v1 v2 : Value) (l1 l2 : List UInt8) (a' : Act) (w' : World) : Prop :=
  w' = w ∧ a'.defers = [] ∧ a'.tmps.size = 134 ∧ ∃ k : Nat, a'.tmps[0]? = some v1 ∧ a'.tmps[1]? = some v2 ∧ a'.tmps[5]? = some (.int .i64 (k : Int)) ∧ k < l1.length ∧ k < l2.length ∧ eqfB l1 l2 = eqfB (l1.drop k) (l2.drop k)

theorem eqfB_step {x y : UInt8} (hx : x.toNat < 128) (hy : y.toNat < 128) (l m : List UInt8) : eqfB (x :: l) (y :: m) = (eqR x.toNat y.toNat && eqfB l m) := by
  unfold eqfB
  have h1 := chunks_at_ascii [] l x hx
  have h2 := chunks_at_ascii [] m y hy
  rw [List.nil_append] at h1 h2
  rw [h1, h2]
  rfl
theorem eqfB_cons {l m : List UInt8} (hl : l ≠ []) (hm : m ≠ []) : eqfB l m = (eqR (dec l).1 (dec m).1 && eqfB (l.drop (dec l).2) (m.drop (dec m).2)) := by
  unfold eqfB
  rw [chunks_cons hl, chunks_cons hm]
  rfl
theorem eqfB_nil_left {m : List UInt8} (hm : m ≠ []) : eqfB [] m = false := by
  unfold eqfB
  rw [chunks_cons hm, chunks_nil]; rfl
theorem eqfB_nil_right {l : List UInt8} (hl : l ≠ []) : eqfB l [] = false := by
  unfold eqfB
  rw [chunks_cons hl, chunks_nil]; rfl
theorem eqfB_ends {l m : List UInt8} (h : l = [] ∨ m = []) : eqfB l m = ((l.length : Int) == (m.length : Int)) := by
  rcases h with rfl | rfl
  · cases m with
    | nil => rfl
    | cons x m => rw [eqfB_nil_left (by simp)]; symm; rw [beq_eq_false_iff_ne]; simp; omega
  · cases l with
    | nil => rfl
    | cons x m => rw [eqfB_nil_right (by simp)]; symm; rw [beq_eq_false_iff_ne]; simp; omega

theorem lc10 {us : List Value} {n : Nat} (hus : us.length = n + 10) : ∃ u0 u1 u2 u3 u4 u5 u6 u7 u8 u9 t, us = u0 :: u1 :: u2 :: u3 :: u4 :: u5 :: u6 :: u7 :: u8 :: u9 :: t ∧ t.length = n := by
  obtain ⟨u0, t0, e0, s0⟩ := len_cons hus; obtain ⟨u1, t1, e1, s1⟩ := len_cons s0; obtain ⟨u2, t2, e2, s2⟩ := len_cons s1; obtain ⟨u3, t3, e3, s3⟩ := len_cons s2; obtain ⟨u4, t4, e4, s4⟩ := len_cons s3; obtain ⟨u5, t5, e5, s5⟩ := len_cons s4; obtain ⟨u6, t6, e6, s6⟩ := len_cons s5; obtain ⟨u7, t7, e7, s7⟩ := len_cons s6; obtain ⟨u8, t8, e8, s8⟩ := len_cons s7; obtain ⟨u9, t9, e9, s9⟩ := len_cons s8
  subst e9 e8 e7 e6 e5 e4 e3 e2 e1 e0
  exact ⟨_, _, _, _, _, _, _, _, _, _, _, rfl, s9⟩

set_option maxRecDepth 100000 in
set_option maxHeartbeats 8000000 in
theorem bytes_EqualFold (v1 v2 : Value) (l1 l2 : List UInt8) (w : World) (b1 : Bs w v1 l1) (b2 : Bs w v2 l2) (hT : Tabs w) (hC : CaseW w) :
    Calls Tryd.prog 17 #[v1, v2] w (RetV (.bool (eqfB l1 l2)) w) := by
  have HB1 := Lib.hid b1
  have HB2 := Lib.hid b2
  obtain ⟨a1, c1, rfl, p1, q1, d1⟩ := b1
  obtain ⟨a2, c2, rfl, p2, q2, d2⟩ := b2
  have HD1 := Lib.hid d1
  have HD2 := Lib.hid d2
  have HT := Lib.hid hT
  have HC := Lib.hid hC
  have hc1 : c1 ≤ 9223372036854775807 := by unfold maxLen at q1; omega
  have hc2 : c2 ≤ 9223372036854775807 := by unfold maxLen at q2; omega
  clear d1 d2 hT hC q1 q2
  go_enter Tryd.func17, Tryd.ntmps17
  go_wp2_with fail
  refine wp_scope_jumps 0 (JumpAt w (.slice a1 l1.length c1) (.slice a2 l2.length c2) l1 l2) (fun _ _ => 0) rfl ?_ ?_
  · obtain ⟨N, hN⟩ : ∃ N : Nat, min l1.length l2.length = N := ⟨_, rfl⟩
    have hmin : min (l1.length : Int) (l2.length : Int) = (N : Int) := by omega
    have hN1 : N ≤ l1.length := by omega
    have hN2 : N ≤ l2.length := by omega
    have HN0 := Lib.hid hN
    have HMIN := Lib.hid hmin
    clear hmin hN
    go_upto_region 3 with fail
    rw [HMIN.out]
    go_loopg [5] N (fun k i wr => w = wr ∧ ∃ j : Nat, j + k = N ∧ i = .int .i64 (j : Int) ∧ eqfB l1 l2 = eqfB (l1.drop j) (l2.drop j))
    case atStart => exact ⟨rfl, 0, by omega, rfl, rfl⟩
    case round =>
      obtain ⟨rfl, j, hj, rfl, heq⟩ := hrel
      have HJ := Lib.hid hj
      have HE := Lib.hid heq
      by_cases hlt : j < N
      · have h1 : j < l1.length := by omega
        have h2 : j < l2.length := by omega
        have hg : 0 < gk := by omega
        obtain ⟨b, o, rfl, d1⟩ := HD1.out.resolve_left (by rintro rfl; simp at h1)
        obtain ⟨b', o', rfl, d2⟩ := HD2.out.resolve_left (by rintro rfl; simp at h2)
        have k1 := d1 j h1
        have k2 := d2 j h2
        obtain ⟨x, hx⟩ : ∃ x, l1[j] = x := ⟨_, rfl⟩
        obtain ⟨y, hy⟩ : ∃ y, l2[j] = y := ⟨_, rfl⟩
        have hdx : l1.drop j = x :: l1.drop (j + 1) := by rw [List.drop_eq_getElem_cons h1, hx]
        have hdy : l2.drop j = y :: l2.drop (j + 1) := by rw [List.drop_eq_getElem_cons h2, hy]
        rw [hx] at k1
        rw [hy] at k2
        have hxl := x.toNat_lt
        have hyl := y.toNat_lt
        have hor := u8_or_nat x.toNat y.toNat hxl hyl
        have HDX := Lib.hid hdx
        have HDY := Lib.hid hdy
        have z1 : (j : Int) < (N : Int) := by omega
        have z2 : (j : Int) < (l1.length : Int) := by omega
        have z3 : (j : Int) < (l2.length : Int) := by omega
        clear heq hx hy hdx hdy d1 d2 hj
        by_cases hhi : 128 ≤ x.toNat ||| y.toNat
        · have hz : (128 : Int) ≤ ((x.toNat ||| y.toNat : Nat) : Int) := by omega
          clear hhi
          go_wp2_with fail
          go_step3
          exact ⟨rfl, rfl, rfl, rfl, j, rfl, rfl, rfl, h1, h2, HE.out⟩
        · have hz : ¬ (128 : Int) ≤ ((x.toNat ||| y.toNat : Nat) : Int) := by omega
          have hx8 : x.toNat < 128 := by have := Nat.left_le_or (n := x.toNat) (m := y.toNat); omega
          have hy8 : y.toNat < 128 := by have := Nat.right_le_or (n := x.toNat) (m := y.toNat); omega
          have HS := Lib.hid (show eqfB (l1.drop j) (l2.drop j) = (eqR x.toNat y.toNat && eqfB (l1.drop (j + 1)) (l2.drop (j + 1))) by rw [HDX.out, HDY.out, eqfB_step hx8 hy8])
          obtain ⟨X, hX⟩ : ∃ X, x.toNat = X := ⟨_, rfl⟩
          obtain ⟨Y, hY⟩ : ∃ Y, y.toNat = Y := ⟨_, rfl⟩
          rw [hX] at k1 hxl hor hz hx8 HS
          rw [hY] at k2 hyl hor hz hy8 HS
          clear hhi hX hY HDX HDY
          by_cases hxy : Y = X
          · have zz : ((Y : Int) == (X : Int)) = true := by rw [beq_iff_eq]; omega
            have HQ : eqR (X : Int) (Y : Int) = true := by rw [hxy]; exact eqR_refl _
            clear hxy
            have HN := Lib.hid (show eqfB l1 l2 = eqfB (l1.drop (j + 1)) (l2.drop (j + 1)) by rw [HE.out, HS.out, HQ]; rfl)
            clear HQ
            go_wp2_with fail
            go_roundg (gk - 1)
            case measure => omega
            case rel => exact ⟨rfl, j + 1, by have := HJ.out; omega, by go_num, HN.out⟩
          · have zz : ((Y : Int) == (X : Int)) = false := by rw [beq_eq_false_iff_ne]; omega
            by_cases hsw : Y < X
            · have zs : (Y : Int) < (X : Int) := by omega
              have HQ : eqR (X : Int) (Y : Int) = fastA Y X := by rw [eqR_symm]; exact fast_eq hx8 hsw
              clear hxy hsw
              by_cases hA : 65 ≤ Y
              · have zA : (65 : Int) ≤ (Y : Int) := by omega
                by_cases hB : Y ≤ 90
                · have zB : (Y : Int) ≤ 90 := by omega
                  by_cases hC : X = Y + 32
                  · have zC : ((X : Int) == (Y : Int) + 97 - 65) = true := by rw [beq_iff_eq]; omega
                    have hfa : fastA (Y : Int) (X : Int) = true := by unfold fastA; simp; omega
                    rw [hfa] at HQ
                    clear hA hB hC hfa
                    have HN := Lib.hid (show eqfB l1 l2 = eqfB (l1.drop (j + 1)) (l2.drop (j + 1)) by rw [HE.out, HS.out, HQ]; rfl)
                    clear HQ
                    go_wp2_with fail
                    go_roundg (gk - 1)
                    case measure => omega
                    case rel => exact ⟨rfl, j + 1, by have := HJ.out; omega, by go_num, HN.out⟩
                  · have zC : ((X : Int) == (Y : Int) + 97 - 65) = false := by rw [beq_eq_false_iff_ne]; omega
                    have hfa : fastA (Y : Int) (X : Int) = false := by unfold fastA; simp; omega
                    rw [hfa] at HQ
                    clear hA hB hC hfa
                    have HN := Lib.hid (show eqfB l1 l2 = false by rw [HE.out, HS.out, HQ]; rfl)
                    clear HQ
                    go_wp2_with fail
                    (try simp only [Exit.jump])
                    go_ret
                    exact ⟨by rw [HN.out]; rfl, Ext.refl _⟩
                · have zB : ¬ (Y : Int) ≤ 90 := by omega
                  have hfa : fastA (Y : Int) (X : Int) = false := by unfold fastA; simp; omega
                  rw [hfa] at HQ
                  clear hA hB hfa
                  have HN := Lib.hid (show eqfB l1 l2 = false by rw [HE.out, HS.out, HQ]; rfl)
                  clear HQ
                  go_wp2_with fail
                  (try simp only [Exit.jump])
                  go_ret
                  exact ⟨by rw [HN.out]; rfl, Ext.refl _⟩
              · have zA : ¬ (65 : Int) ≤ (Y : Int) := by omega
                have hfa : fastA (Y : Int) (X : Int) = false := by unfold fastA; simp; omega
                rw [hfa] at HQ
                clear hA hfa
                have HN := Lib.hid (show eqfB l1 l2 = false by rw [HE.out, HS.out, HQ]; rfl)
                clear HQ
                go_wp2_with fail
                (try simp only [Exit.jump])
                go_ret
                exact ⟨by rw [HN.out]; rfl, Ext.refl _⟩
            · have zs : ¬ (Y : Int) < (X : Int) := by omega
              have HQ : eqR (X : Int) (Y : Int) = fastA X Y := fast_eq hy8 (by omega)
              clear hxy hsw
              by_cases hA : 65 ≤ X
              · have zA : (65 : Int) ≤ (X : Int) := by omega
                by_cases hB : X ≤ 90
                · have zB : (X : Int) ≤ 90 := by omega
                  by_cases hC : Y = X + 32
                  · have zC : ((Y : Int) == (X : Int) + 97 - 65) = true := by rw [beq_iff_eq]; omega
                    have hfa : fastA (X : Int) (Y : Int) = true := by unfold fastA; simp; omega
                    rw [hfa] at HQ
                    clear hA hB hC hfa
                    have HN := Lib.hid (show eqfB l1 l2 = eqfB (l1.drop (j + 1)) (l2.drop (j + 1)) by rw [HE.out, HS.out, HQ]; rfl)
                    clear HQ
                    go_wp2_with fail
                    go_roundg (gk - 1)
                    case measure => omega
                    case rel => exact ⟨rfl, j + 1, by have := HJ.out; omega, by go_num, HN.out⟩
                  · have zC : ((Y : Int) == (X : Int) + 97 - 65) = false := by rw [beq_eq_false_iff_ne]; omega
                    have hfa : fastA (X : Int) (Y : Int) = false := by unfold fastA; simp; omega
                    rw [hfa] at HQ
                    clear hA hB hC hfa
                    have HN := Lib.hid (show eqfB l1 l2 = false by rw [HE.out, HS.out, HQ]; rfl)
                    clear HQ
                    go_wp2_with fail
                    (try simp only [Exit.jump])
                    go_ret
                    exact ⟨by rw [HN.out]; rfl, Ext.refl _⟩
                · have zB : ¬ (X : Int) ≤ 90 := by omega
                  have hfa : fastA (X : Int) (Y : Int) = false := by unfold fastA; simp; omega
                  rw [hfa] at HQ
                  clear hA hB hfa
                  have HN := Lib.hid (show eqfB l1 l2 = false by rw [HE.out, HS.out, HQ]; rfl)
                  clear HQ
                  go_wp2_with fail
                  (try simp only [Exit.jump])
                  go_ret
                  exact ⟨by rw [HN.out]; rfl, Ext.refl _⟩
              · have zA : ¬ (65 : Int) ≤ (X : Int) := by omega
                have hfa : fastA (X : Int) (Y : Int) = false := by unfold fastA; simp; omega
                rw [hfa] at HQ
                clear hA hfa
                have HN := Lib.hid (show eqfB l1 l2 = false by rw [HE.out, HS.out, HQ]; rfl)
                clear HQ
                go_wp2_with fail
                (try simp only [Exit.jump])
                go_ret
                exact ⟨by rw [HN.out]; rfl, Ext.refl _⟩
      · have hjn : j = N := by omega
        have HN := Lib.hid (show eqfB l1 l2 = ((l1.length : Int) == (l2.length : Int)) by
          have h0 := HN0.out
          rw [HE.out, eqfB_ends ((Nat.le_total l1.length l2.length).imp (fun h => List.drop_of_length_le (by omega)) (fun h => List.drop_of_length_le (by omega))), List.length_drop, List.length_drop]
          rw [Bool.eq_iff_iff, beq_iff_eq, beq_iff_eq]
          omega)
        have z1 : ¬ (j : Int) < (N : Int) := by omega
        clear hj heq hjn
        go_wp2_with fail
        (try simp only [Exit.jump])
        go_ret
        exact ⟨by rw [HN.out]; rfl, Ext.refl _⟩
  · rintro ⟨⟨tl⟩, df⟩ w' ⟨hw, hdf0, hsz, k, y0, y1, y5, hk1, hk2, heq⟩
    replace hw := hw.symm
    subst hw
    have hus : tl.length = 134 := hsz
    have hdf : df = [] := hdf0
    clear hdf0
    subst hdf
    obtain ⟨u0, u1, u2, u3, u4, u5, u6, u7, u8, u9, t0, e0, s0⟩ := lc10 hus
    obtain ⟨u10, u11, u12, u13, u14, u15, u16, u17, u18, u19, t1, e1, s1⟩ := lc10 s0
    obtain ⟨u20, u21, u22, u23, u24, u25, u26, u27, u28, u29, t2, e2, s2⟩ := lc10 s1
    obtain ⟨u30, u31, u32, u33, u34, u35, u36, u37, u38, u39, t3, e3, s3⟩ := lc10 s2
    obtain ⟨u40, u41, u42, u43, u44, u45, u46, u47, u48, u49, t4, e4, s4⟩ := lc10 s3
    obtain ⟨u50, u51, u52, u53, u54, u55, u56, u57, u58, u59, t5, e5, s5⟩ := lc10 s4
    obtain ⟨u60, u61, u62, u63, u64, u65, u66, u67, u68, u69, t6, e6, s6⟩ := lc10 s5
    obtain ⟨u70, u71, u72, u73, u74, u75, u76, u77, u78, u79, t7, e7, s7⟩ := lc10 s6
    obtain ⟨u80, u81, u82, u83, u84, u85, u86, u87, u88, u89, t8, e8, s8⟩ := lc10 s7
    obtain ⟨u90, u91, u92, u93, u94, u95, u96, u97, u98, u99, t9, e9, s9⟩ := lc10 s8
    obtain ⟨u100, u101, u102, u103, u104, u105, u106, u107, u108, u109, t10, e10, s10⟩ := lc10 s9
    obtain ⟨u110, u111, u112, u113, u114, u115, u116, u117, u118, u119, t11, e11, s11⟩ := lc10 s10
    obtain ⟨u120, u121, u122, u123, u124, u125, u126, u127, u128, u129, t12, e12, s12⟩ := lc10 s11
    obtain ⟨u130, t13, e13, s13⟩ := len_cons s12
    obtain ⟨u131, t14, e14, s14⟩ := len_cons s13
    obtain ⟨u132, t15, e15, s15⟩ := len_cons s14
    obtain ⟨u133, t16, e16, s16⟩ := len_cons s15
    obtain rfl := len_nil s16
    clear hus s0 s1 s2 s3 s4 s5 s6 s7 s8 s9 s10 s11 s12 s13 s14 s15 s16
    subst e16 e15 e14 e13 e12 e11 e10 e9 e8 e7 e6 e5 e4 e3 e2 e1 e0
    replace y0 : u0 = .slice a1 l1.length c1 := by simpa using y0
    replace y1 : u1 = .slice a2 l2.length c2 := by simpa using y1
    replace y5 : u5 = .int .i64 (k : Int) := by simpa using y5
    subst y0 y1 y5
    clear hsz
    have HEQ := Lib.hid heq
    have hb1 := HB1.out
    have hb2 := HB2.out
    clear heq
    go_wp2_with (refine wpList_subL rfl 25 _ _ rfl 5 Tryd.underlying25 info_u8' _ _ rfl hb1 _ _ rfl k rfl (by omega) ?_)
    intro v3 b3 _
    go_wp2_with (refine wpList_subL rfl 25 _ _ rfl 5 Tryd.underlying25 info_u8' _ _ rfl hb2 _ _ rfl k rfl (by omega) ?_)
    intro v4 b4 _
    have HB3 := Lib.hid b3
    have HB4 := Lib.hid b4
    clear b3 b4 hb1 hb2
    go_wp2_with fail
    go_loopg [0, 1] (l1.drop k).length (fun g s t wr => ∃ (sv tv : Value) (m1 m2 : List UInt8), sv = s ∧ tv = t ∧ m1.length = g ∧ Bs wr sv m1 ∧ Bs wr tv m2 ∧ eqfB l1 l2 = eqfB m1 m2 ∧ Ext w wr)
    case atStart => exact ⟨_, _, _, _, rfl, rfl, rfl, HB3.out, HB4.out, HEQ.out, Ext.refl _⟩
    case round =>
      obtain ⟨sv, tv, m1, m2, rfl, rfl, hm, f1, f2, heq, X0⟩ := hrel
      have HE := Lib.hid heq
      have HF1 := Lib.hid f1
      have HF2 := Lib.hid f2
      obtain ⟨x1, y1, rfl, g1, g2⟩ := f1.shape
      obtain ⟨x2, y2, rfl, g3, g4⟩ := f2.shape
      have g5 : y1 ≤ 9223372036854775807 := by unfold maxLen at g2; omega
      have g6 : y2 ≤ 9223372036854775807 := by unfold maxLen at g4; omega
      clear heq f1 f2 HB3 HB4 HEQ g2 g4
      have HM := Lib.hid hm
      clear hm
      by_cases h1 : m1 = []
      · subst h1
        have HN := Lib.hid (show eqfB l1 l2 = ((0 : Int) == (m2.length : Int)) by rw [HE.out, eqfB_ends (.inl rfl)]; rfl)
        go_wp2_with fail
        (try simp only [Exit.jump])
        go_ret
        exact ⟨by rw [HN.out]; rfl, X0⟩
      have z1 : ((m1.length : Int) != 0) = true := by have := List.length_pos_iff.2 h1; rw [bne_iff_ne]; omega
      by_cases h2 : m2 = []
      · subst h2
        have z3 : ((m1.length : Int) == 0) = false := by have := List.length_pos_iff.2 h1; rw [beq_eq_false_iff_ne]; omega
        have HN := Lib.hid (show eqfB l1 l2 = false by rw [HE.out, eqfB_nil_right h1])
        clear h1
        go_wp2_with fail
        (try simp only [Exit.jump])
        go_ret
        exact ⟨by rw [HN.out]; rfl, X0⟩
      have z2 : ((m2.length : Int) != 0) = true := by have := List.length_pos_iff.2 h2; rw [bne_iff_ne]; omega
      have HS0 := Lib.hid (eqfB_cons h1 h2)
      have d1 := dec_size h1
      have d2 := dec_size h2
      have s1 := dec_rune m1
      have s2 := dec_rune m2
      have i1 := HF1.out
      have i2 := HF2.out
      have cD1 := utf8_DecodeRune _ m1 _ i1 h1 (HT.out.ext X0)
      have cD2 := fun W (x : Ext wr W) => utf8_DecodeRune _ m2 W (HF2.out.ext x) h2 (HT.out.ext (X0.trans x))
      obtain ⟨⟨r1, p1⟩, hd1⟩ : ∃ d, dec m1 = d := ⟨_, rfl⟩
      obtain ⟨⟨r2, p2⟩, hd2⟩ : ∃ d, dec m2 = d := ⟨_, rfl⟩
      simp only [hd1, hd2] at HS0 d1 d2 s1 s2 cD1 cD2
      have t1 : r1 ≤ 1114111 := s1
      have t2 : r2 ≤ 1114111 := s2
      clear h1 h2 hd1 hd2 s1 s2 i2
      go_wp2_with (go_at_call 26; refine cD1.mono ?_)
      rintro _ w3 ⟨rfl, x3⟩
      replace i1 := i1.ext x3
      clear cD1
      go_wp2_with (refine wpList_subL rfl 25 _ _ rfl 5 Tryd.underlying25 info_u8' _ _ rfl i1 _ _ rfl p1 rfl d1.2.2 ?_)
      intro v5 e1 _
      have e1h := Lib.hid e1
      have X3 := X0.trans x3
      have c2 := cD2 _ x3
      have i2 := HF2.out.ext x3
      clear x3 i1 e1 cD2
      go_wp2_with (go_at_call 26; refine c2.mono ?_)
      rintro _ w4 ⟨rfl, x4⟩
      replace i2 := i2.ext x4
      have e1 := e1h.out.ext x4
      have X5 := X3.trans x4
      clear c2 x4 X3 X0 e1h HF1 HF2
      go_wp2_with (refine wpList_subL rfl 25 _ _ rfl 5 Tryd.underlying25 info_u8' _ _ rfl i2 _ _ rfl p2 rfl d2.2.2 ?_)
      intro v6 e2 _
      clear i2
      obtain ⟨n1, hn1⟩ : ∃ n, m1.drop p1 = n := ⟨_, rfl⟩
      obtain ⟨n2, hn2⟩ : ∃ n, m2.drop p2 = n := ⟨_, rfl⟩
      have HLT := Lib.hid (show n1.length < gk by rw [← HM.out, ← hn1, List.length_drop]; omega)
      rw [hn1] at e1
      rw [hn2] at e2
      have HS := Lib.hid (show eqfB m1 m2 = (eqR r1 r2 && eqfB n1 n2) by rw [← hn1, ← hn2]; exact HS0.out)
      clear hn1 hn2 HS0
      by_cases hxy : r2 = r1
      · have zz : ((r2 : Int) == (r1 : Int)) = true := by rw [beq_iff_eq]; omega
        have HQ : eqR (r1 : Int) (r2 : Int) = true := by rw [hxy]; exact eqR_refl _
        clear hxy
        have HN := Lib.hid (show eqfB l1 l2 = eqfB n1 n2 by rw [HE.out, HS.out, HQ]; rfl)
        clear HQ
        go_wp2_with fail
        go_roundg n1.length
        case measure => have := HLT.out; omega
        case rel => exact ⟨_, _, n1, n2, rfl, rfl, rfl, e1, e2, HN.out, X5⟩
      · have zz : ((r2 : Int) == (r1 : Int)) = false := by rw [beq_eq_false_iff_ne]; omega
        by_cases hsw : r2 < r1
        · have zs : (r2 : Int) < (r1 : Int) := by omega
          by_cases hlow : r1 < 128
          · have zl : (r1 : Int) < 128 := by omega
            have HQ : eqR (r1 : Int) (r2 : Int) = fastA r2 r1 := by rw [eqR_symm]; exact fast_eq hlow hsw
            clear hxy hsw hlow
            by_cases hA : 65 ≤ r2
            · have zA : (65 : Int) ≤ (r2 : Int) := by omega
              by_cases hB : r2 ≤ 90
              · have zB : (r2 : Int) ≤ 90 := by omega
                by_cases hC : r1 = r2 + 32
                · have zC : ((r1 : Int) == (r2 : Int) + 97 - 65) = true := by rw [beq_iff_eq]; omega
                  have hfa : fastA (r2 : Int) (r1 : Int) = true := by unfold fastA; simp; omega
                  rw [hfa] at HQ
                  clear hA hB hC hfa
                  have HN := Lib.hid (show eqfB l1 l2 = eqfB n1 n2 by rw [HE.out, HS.out, HQ]; rfl)
                  clear HQ
                  go_wp2_with fail
                  go_roundg n1.length
                  case measure => have := HLT.out; omega
                  case rel => exact ⟨_, _, n1, n2, rfl, rfl, rfl, e1, e2, HN.out, X5⟩
                · have zC : ((r1 : Int) == (r2 : Int) + 97 - 65) = false := by rw [beq_eq_false_iff_ne]; omega
                  have hfa : fastA (r2 : Int) (r1 : Int) = false := by unfold fastA; simp; omega
                  rw [hfa] at HQ
                  clear hA hB hC hfa
                  have HN := Lib.hid (show eqfB l1 l2 = false by rw [HE.out, HS.out, HQ]; rfl)
                  clear HQ
                  go_wp2_with fail
                  (try simp only [Exit.jump])
                  go_ret
                  exact ⟨by rw [HN.out]; rfl, X5⟩
              · have zB : ¬ (r2 : Int) ≤ 90 := by omega
                have hfa : fastA (r2 : Int) (r1 : Int) = false := by unfold fastA; simp; omega
                rw [hfa] at HQ
                clear hA hB hfa
                have HN := Lib.hid (show eqfB l1 l2 = false by rw [HE.out, HS.out, HQ]; rfl)
                clear HQ
                go_wp2_with fail
                (try simp only [Exit.jump])
                go_ret
                exact ⟨by rw [HN.out]; rfl, X5⟩
            · have zA : ¬ (65 : Int) ≤ (r2 : Int) := by omega
              have hfa : fastA (r2 : Int) (r1 : Int) = false := by unfold fastA; simp; omega
              rw [hfa] at HQ
              clear hA hfa
              have HN := Lib.hid (show eqfB l1 l2 = false by rw [HE.out, HS.out, HQ]; rfl)
              clear HQ
              go_wp2_with fail
              (try simp only [Exit.jump])
              go_ret
              exact ⟨by rw [HN.out]; rfl, X5⟩
          · have zl : ¬ (r1 : Int) < 128 := by omega
            have HQ : eqR (r1 : Int) (r2 : Int) = eqR r2 r1 := eqR_symm _ _
            clear hxy hlow
            have HNR := Lib.hid HQ
            clear HQ
            have cF := unicode_SimpleFold r2 (by omega) _ (HC.out.ext X5)
            have hA0 := Lib.hid (show r2 < r1 by omega)
            go_wp2_with (go_at_call 27; refine cF.mono ?_)
            rintro _ w6 ⟨rfl, x6⟩
            have X6 := X5.trans x6
            have HR1 := Lib.hid (fold_range r2 (by omega) (by omega))
            obtain ⟨z, hz⟩ : ∃ z, foldS (r2 : Int) = z := ⟨_, rfl⟩
            have HZ := Lib.hid hz
            rw [hz] at HR1
            have e1' := e1.ext x6
            have e2' := e2.ext x6
            rw [hz]
            clear hz cF x6 X5 e1 e2
            have HE1 := Lib.hid e1'
            have HE2 := Lib.hid e2'
            have HX6 := Lib.hid X6
            clear e1' e2' X6
            go_upto_block 4 with fail
            go_cut [12] (fun s wx => ∃ y : Int, s = .int .i32 y ∧ (y == (r1 : Int)) = eqR r2 r1 ∧ Ext w6 wx)
            case first =>
              go_wp2_with fail
              go_loopg [12] 4 (fun g s wr => ∃ (k : Nat) (y : Int), k + g = 5 ∧ s = .int .i32 y ∧ itF k r2 = y ∧ Round r2 r1 k ∧ 0 ≤ y ∧ y ≤ 1114111 ∧ Ext w6 wr)
              case atStart => exact ⟨1, z, by omega, rfl, HZ.out, Round.start _ _, HR1.out.1, HR1.out.2, Ext.refl _⟩
              case round =>
                obtain ⟨k, y, hk, rfl, hit, hro, hy0, hy1, hx⟩ := hrel
                have HIT := Lib.hid hit
                have HRO := Lib.hid hro
                have hk4 := hro.le
                obtain ⟨m, rfl⟩ := Int.eq_ofNat_of_zero_le hy0
                clear hit hro hy0
                by_cases hya : (m : Int) = (r2 : Int)
                · have zq : ((m : Int) != (r2 : Int)) = false := by rw [bne_eq_false_iff_eq]; exact hya
                  have HF := Lib.hid (show ((m : Int) == (r1 : Int)) = eqR r2 r1 by
                    have h0 := hA0.out
                    rw [HRO.out.lost (by omega) (.inl (by rw [HIT.out]; exact hya)) (by rw [HIT.out]; omega), beq_eq_false_iff_ne]
                    omega)
                  clear hya
                  go_wp2_with fail
                  go_meet
                  exact ⟨_, rfl, HF.out, hx⟩
                · have zq : ((m : Int) != (r2 : Int)) = true := by rw [bne_iff_ne]; exact hya
                  by_cases hyb : m < r1
                  · have zb : (m : Int) < (r1 : Int) := by omega
                    have cG := unicode_SimpleFold m (by omega) _ (HC.out.ext (HX6.out.trans hx))
                    have HR2 := Lib.hid (fold_range m (by omega) (by omega))
                    have HRN := Lib.hid (HRO.out.next (by rw [HIT.out]; exact hya) (by rw [HIT.out]; exact zb))
                    have HIN := Lib.hid (show itF (k + 1) r2 = foldS m by rw [itF, HIT.out])
                    have hgk : 0 < gk := by omega
                    clear hya hyb
                    go_wp2_with (go_at_call 27; refine cG.mono ?_)
                    rintro _ w7 ⟨rfl, x7⟩
                    go_wp2_with fail
                    go_roundg (gk - 1)
                    case measure => omega
                    case rel => exact ⟨k + 1, _, by omega, rfl, HIN.out, HRN.out, HR2.out.1, HR2.out.2, hx.trans x7⟩
                  · have zb : ¬ (m : Int) < (r1 : Int) := by omega
                    have HF := Lib.hid (show ((m : Int) == (r1 : Int)) = eqR r2 r1 by
                      have h0 := hA0.out
                      by_cases hmb : m = r1
                      · rw [HRO.out.found (by rw [HIT.out, hmb]), beq_iff_eq, hmb]
                      · rw [HRO.out.lost (by omega) (.inr (by rw [HIT.out]; omega)) (by rw [HIT.out]; omega), beq_eq_false_iff_ne]
                        omega)
                    clear hya hyb
                    go_wp2_with fail
                    go_meet
                    exact ⟨_, rfl, HF.out, hx⟩
            case rest =>
              obtain ⟨y, rfl, hy, x8⟩ := hcut
              have X5 := HX6.out.trans x8
              have e1 := HE1.out.ext x8
              have e2 := HE2.out.ext x8
              clear HE1 HE2 x8
              cases hq : eqR (r2 : Int) (r1 : Int)
              · have HQ := HNR.out.trans hq
                rw [hq] at hy
                clear hq HNR
                have HN := Lib.hid (show eqfB l1 l2 = false by rw [HE.out, HS.out, HQ]; rfl)
                clear HQ
                go_wp2_with fail
                (try simp only [Exit.jump])
                go_ret
                exact ⟨by rw [HN.out]; rfl, X5⟩
              · have HQ := HNR.out.trans hq
                rw [hq] at hy
                clear hq HNR
                have HN := Lib.hid (show eqfB l1 l2 = eqfB n1 n2 by rw [HE.out, HS.out, HQ]; rfl)
                clear HQ
                go_wp2_with fail
                go_roundg n1.length
                case measure => have := HLT.out; omega
                case rel => exact ⟨_, _, n1, n2, rfl, rfl, rfl, e1, e2, HN.out, X5⟩
        · have zs : ¬ (r2 : Int) < (r1 : Int) := by omega
          have hsw' : r1 < r2 := by omega
          by_cases hlow : r2 < 128
          · have zl : (r2 : Int) < 128 := by omega
            have HQ : eqR (r1 : Int) (r2 : Int) = fastA r1 r2 := fast_eq hlow hsw'
            clear hxy hsw hsw' hlow
            by_cases hA : 65 ≤ r1
            · have zA : (65 : Int) ≤ (r1 : Int) := by omega
              by_cases hB : r1 ≤ 90
              · have zB : (r1 : Int) ≤ 90 := by omega
                by_cases hC : r2 = r1 + 32
                · have zC : ((r2 : Int) == (r1 : Int) + 97 - 65) = true := by rw [beq_iff_eq]; omega
                  have hfa : fastA (r1 : Int) (r2 : Int) = true := by unfold fastA; simp; omega
                  rw [hfa] at HQ
                  clear hA hB hC hfa
                  have HN := Lib.hid (show eqfB l1 l2 = eqfB n1 n2 by rw [HE.out, HS.out, HQ]; rfl)
                  clear HQ
                  go_wp2_with fail
                  go_roundg n1.length
                  case measure => have := HLT.out; omega
                  case rel => exact ⟨_, _, n1, n2, rfl, rfl, rfl, e1, e2, HN.out, X5⟩
                · have zC : ((r2 : Int) == (r1 : Int) + 97 - 65) = false := by rw [beq_eq_false_iff_ne]; omega
                  have hfa : fastA (r1 : Int) (r2 : Int) = false := by unfold fastA; simp; omega
                  rw [hfa] at HQ
                  clear hA hB hC hfa
                  have HN := Lib.hid (show eqfB l1 l2 = false by rw [HE.out, HS.out, HQ]; rfl)
                  clear HQ
                  go_wp2_with fail
                  (try simp only [Exit.jump])
                  go_ret
                  exact ⟨by rw [HN.out]; rfl, X5⟩
              · have zB : ¬ (r1 : Int) ≤ 90 := by omega
                have hfa : fastA (r1 : Int) (r2 : Int) = false := by unfold fastA; simp; omega
                rw [hfa] at HQ
                clear hA hB hfa
                have HN := Lib.hid (show eqfB l1 l2 = false by rw [HE.out, HS.out, HQ]; rfl)
                clear HQ
                go_wp2_with fail
                (try simp only [Exit.jump])
                go_ret
                exact ⟨by rw [HN.out]; rfl, X5⟩
            · have zA : ¬ (65 : Int) ≤ (r1 : Int) := by omega
              have hfa : fastA (r1 : Int) (r2 : Int) = false := by unfold fastA; simp; omega
              rw [hfa] at HQ
              clear hA hfa
              have HN := Lib.hid (show eqfB l1 l2 = false by rw [HE.out, HS.out, HQ]; rfl)
              clear HQ
              go_wp2_with fail
              (try simp only [Exit.jump])
              go_ret
              exact ⟨by rw [HN.out]; rfl, X5⟩
          · have zl : ¬ (r2 : Int) < 128 := by omega
            have HQ : eqR (r1 : Int) (r2 : Int) = eqR r1 r2 := rfl
            clear hxy hsw hlow
            clear HQ
            have cF := unicode_SimpleFold r1 (by omega) _ (HC.out.ext X5)
            have hA0 := Lib.hid (show r1 < r2 by omega)
            go_wp2_with (go_at_call 27; refine cF.mono ?_)
            rintro _ w6 ⟨rfl, x6⟩
            have X6 := X5.trans x6
            have HR1 := Lib.hid (fold_range r1 (by omega) (by omega))
            obtain ⟨z, hz⟩ : ∃ z, foldS (r1 : Int) = z := ⟨_, rfl⟩
            have HZ := Lib.hid hz
            rw [hz] at HR1
            have e1' := e1.ext x6
            have e2' := e2.ext x6
            rw [hz]
            clear hz cF x6 X5 e1 e2
            have HE1 := Lib.hid e1'
            have HE2 := Lib.hid e2'
            have HX6 := Lib.hid X6
            clear e1' e2' X6
            go_upto_block 4 with fail
            go_cut [12] (fun s wx => ∃ y : Int, s = .int .i32 y ∧ (y == (r2 : Int)) = eqR r1 r2 ∧ Ext w6 wx)
            case first =>
              go_wp2_with fail
              go_loopg [12] 4 (fun g s wr => ∃ (k : Nat) (y : Int), k + g = 5 ∧ s = .int .i32 y ∧ itF k r1 = y ∧ Round r1 r2 k ∧ 0 ≤ y ∧ y ≤ 1114111 ∧ Ext w6 wr)
              case atStart => exact ⟨1, z, by omega, rfl, HZ.out, Round.start _ _, HR1.out.1, HR1.out.2, Ext.refl _⟩
              case round =>
                obtain ⟨k, y, hk, rfl, hit, hro, hy0, hy1, hx⟩ := hrel
                have HIT := Lib.hid hit
                have HRO := Lib.hid hro
                have hk4 := hro.le
                obtain ⟨m, rfl⟩ := Int.eq_ofNat_of_zero_le hy0
                clear hit hro hy0
                by_cases hya : (m : Int) = (r1 : Int)
                · have zq : ((m : Int) != (r1 : Int)) = false := by rw [bne_eq_false_iff_eq]; exact hya
                  have HF := Lib.hid (show ((m : Int) == (r2 : Int)) = eqR r1 r2 by
                    have h0 := hA0.out
                    rw [HRO.out.lost (by omega) (.inl (by rw [HIT.out]; exact hya)) (by rw [HIT.out]; omega), beq_eq_false_iff_ne]
                    omega)
                  clear hya
                  go_wp2_with fail
                  go_meet
                  exact ⟨_, rfl, HF.out, hx⟩
                · have zq : ((m : Int) != (r1 : Int)) = true := by rw [bne_iff_ne]; exact hya
                  by_cases hyb : m < r2
                  · have zb : (m : Int) < (r2 : Int) := by omega
                    have cG := unicode_SimpleFold m (by omega) _ (HC.out.ext (HX6.out.trans hx))
                    have HR2 := Lib.hid (fold_range m (by omega) (by omega))
                    have HRN := Lib.hid (HRO.out.next (by rw [HIT.out]; exact hya) (by rw [HIT.out]; exact zb))
                    have HIN := Lib.hid (show itF (k + 1) r1 = foldS m by rw [itF, HIT.out])
                    have hgk : 0 < gk := by omega
                    clear hya hyb
                    go_wp2_with (go_at_call 27; refine cG.mono ?_)
                    rintro _ w7 ⟨rfl, x7⟩
                    go_wp2_with fail
                    go_roundg (gk - 1)
                    case measure => omega
                    case rel => exact ⟨k + 1, _, by omega, rfl, HIN.out, HRN.out, HR2.out.1, HR2.out.2, hx.trans x7⟩
                  · have zb : ¬ (m : Int) < (r2 : Int) := by omega
                    have HF := Lib.hid (show ((m : Int) == (r2 : Int)) = eqR r1 r2 by
                      have h0 := hA0.out
                      by_cases hmb : m = r2
                      · rw [HRO.out.found (by rw [HIT.out, hmb]), beq_iff_eq, hmb]
                      · rw [HRO.out.lost (by omega) (.inr (by rw [HIT.out]; omega)) (by rw [HIT.out]; omega), beq_eq_false_iff_ne]
                        omega)
                    clear hya hyb
                    go_wp2_with fail
                    go_meet
                    exact ⟨_, rfl, HF.out, hx⟩
            case rest =>
              obtain ⟨y, rfl, hy, x8⟩ := hcut
              have X5 := HX6.out.trans x8
              have e1 := HE1.out.ext x8
              have e2 := HE2.out.ext x8
              clear HE1 HE2 x8
              cases hq : eqR (r1 : Int) (r2 : Int)
              · have HQ := hq
                rw [hq] at hy
                clear hq
                have HN := Lib.hid (show eqfB l1 l2 = false by rw [HE.out, HS.out, HQ]; rfl)
                clear HQ
                go_wp2_with fail
                (try simp only [Exit.jump])
                go_ret
                exact ⟨by rw [HN.out]; rfl, X5⟩
              · have HQ := hq
                rw [hq] at hy
                clear hq
                have HN := Lib.hid (show eqfB l1 l2 = eqfB n1 n2 by rw [HE.out, HS.out, HQ]; rfl)
                clear HQ
                go_wp2_with fail
                go_roundg n1.length
                case measure => have := HLT.out; omega
                case rel => exact ⟨_, _, n1, n2, rfl, rfl, rfl, e1, e2, HN.out, X5⟩

theorem impl_EqualFold (v1 v2 : Value) (l1 l2 : List UInt8) (w : World) (b1 : Bs w v1 l1) (b2 : Bs w v2 l2) (hT : Tabs w) (hC : CaseW w) :
    Calls Tryd.prog 9 #[v1, v2] w (RetV (.bool (eqfB l1 l2)) w) := by
  have c := bytes_EqualFold v1 v2 l1 l2 w b1 b2 hT hC
  obtain ⟨a1, c1, rfl, _, _⟩ := b1.shape
  obtain ⟨a2, c2, rfl, _, _⟩ := b2.shape
  go_enter Tryd.func9, Tryd.ntmps9
  go_wp2_with (go_at_call 17; refine c.mono ?_)
  rintro _ w1 ⟨rfl, x1⟩
  go_wp2_with fail
  go_ret
  exact ⟨rfl, x1⟩
end Go.Proofs.YtiahholgpbjjfaaDoor
