/- The exact laws' helpers on tables: rows compared with the same rows. Printed by exactu.py. -/
import Derived.Test.YtdlobdbclgcogaaDoorExactT
namespace Go.Proofs.YtdlobdbclgcogaaDoor
open Go.RowKit

set_option maxRecDepth 100000 in
set_option maxHeartbeats 2000000 in
theorem laws_eqRowS_same (v1 v2 : Value) (rows : List (Int × Int)) (w : World) (h1 : Ts w v1 rows) (h2 : Ts w v2 rows) :
    Calls Tryd.prog 67 #[v1, v2] w (RetV (.bool true) w) := by
  obtain ⟨a1, c1, rfl, p1, q1, e1⟩ := h1.raw
  obtain ⟨a2, c2, rfl, p2, q2, e2⟩ := h2.raw
  have hc1 : c1 ≤ 9223372036854775807 := by unfold maxLen at q1; omega
  have hc2 : c2 ≤ 9223372036854775807 := by unfold maxLen at q2; omega
  have HC1 := Lib.hid e1
  have HC2 := Lib.hid e2
  have hne : ((rows.length : Int) != (rows.length : Int)) = false := by simp
  obtain ⟨n, hn⟩ : ∃ n, rows.length = n := ⟨_, rfl⟩
  have HN := Lib.hid hn
  rw [hn] at hne p1 p2 ⊢
  clear h1 h2 e1 e2 q1 q2 hn
  go_enter Tryd.func67, Tryd.ntmps67
  go_wp2_with fail
  go_loopg [5] n (fun k i wr => ∃ j : Nat, j + k = n ∧ i = .int .i64 j ∧ Ext w wr)
  case atStart => exact ⟨0, by omega, rfl, Ext.refl _⟩
  case round =>
    obtain ⟨j, hj, rfl, hx⟩ := hrel
    have HJ := Lib.hid hj
    have HX := Lib.hid hx
    by_cases hlt : j < n
    · have hg : 0 < gk := by omega
      have hlr : j < rows.length := by rw [HN.out]; exact hlt
      obtain ⟨b1, o1, rfl, d10, d11⟩ := HC1.out j hlr
      obtain ⟨b2, o2, rfl, d20, d21⟩ := HC2.out j hlr
      obtain ⟨p, hp⟩ : ∃ p, rows[j].1 = p := ⟨_, rfl⟩
      obtain ⟨q, hq⟩ : ∃ q, rows[j].2 = q := ⟨_, rfl⟩
      rw [hp] at d10 d20
      rw [hq] at d11 d21
      have HD10 := Lib.hid (hx.cell d10)
      have HD11 := Lib.hid (hx.cell d11)
      have HD20 := Lib.hid (hx.cell d20)
      have HD21 := Lib.hid (hx.cell d21)
      have i1 : (j : Int) < (n : Int) := by omega
      clear hj hx hlr d10 d11 d20 d21 hp hq
      go_upto_region 6 with fail
      go_cut [26] (fun sv wx => sv = .bool false ∧ Ext wr wx)
      case first =>
        refine wp_region_mono (by kernel_rfl) [17, 18, 19, 20, 21, 22, 23, 24, 25, 26] (by kernel_rfl) (by decide) (by simp) (by kernel_rfl)
          (fun i => match i with | 0 => (fun v w => v = .slice (some ⟨b1, o1, none⟩) n c1) | 1 => (fun v w => v = .int .i64 (j : Int)) | 2 => (fun v w => v = .pointer (some ⟨b1, o1 + j * 2, none⟩)) | 3 => (fun v w => v = .agg #[.int .i32 p, .int .i32 q]) | 4 => (fun v w => v = .slice (some ⟨b2, o2, none⟩) n c2) | 5 => (fun v w => v = .int .i64 (j : Int)) | 6 => (fun v w => v = .pointer (some ⟨b2, o2 + j * 2, none⟩)) | 7 => (fun v w => v = .agg #[.int .i32 p, .int .i32 q]) | 8 => (fun v w => v = .bool true) | 9 => (fun v w => v = .bool false) | _ => fun _ _ => True) ?stable ?steps ?fin
        case stable =>
          intro i v w' w'' h x
          match i, h with
          | 0, h => exact h
          | 1, h => exact h
          | 2, h => exact h
          | 3, h => exact h
          | 4, h => exact h
          | 5, h => exact h
          | 6, h => exact h
          | 7, h => exact h
          | 8, h => exact h
          | 9, h => exact h
          | _ + 10, _ => trivial
        case steps =>
          refine AllSteps.cons (fun us hus w' x h => ?_) ?_
          · obtain ⟨u0, t0, e0, s0⟩ := len_cons hus; obtain ⟨u1, t1, e1, s1⟩ := len_cons s0; obtain ⟨u2, t2, e2, s2⟩ := len_cons s1; obtain ⟨u3, t3, e3, s3⟩ := len_cons s2; obtain ⟨u4, t4, e4, s4⟩ := len_cons s3; obtain ⟨u5, t5, e5, s5⟩ := len_cons s4; obtain ⟨u6, t6, e6, s6⟩ := len_cons s5; obtain ⟨u7, t7, e7, s7⟩ := len_cons s6; obtain ⟨u8, t8, e8, s8⟩ := len_cons s7; obtain ⟨u9, t9, e9, s9⟩ := len_cons s8
            obtain rfl := len_nil s9
            clear hus s0 s1 s2 s3 s4 s5 s6 s7 s8 s9
            subst e9 e8 e7 e6 e5 e4 e3 e2 e1 e0
            clear h
            simp only [over, Act.put, List.setIfInBounds_toArray, List.set_cons_zero, List.set_cons_succ]
            go_wp2_with fail
            exact postK_normal ⟨_, rfl, rfl, Ext.refl _⟩
          refine AllSteps.cons (fun us hus w' x h => ?_) ?_
          · obtain ⟨u0, t0, e0, s0⟩ := len_cons hus; obtain ⟨u1, t1, e1, s1⟩ := len_cons s0; obtain ⟨u2, t2, e2, s2⟩ := len_cons s1; obtain ⟨u3, t3, e3, s3⟩ := len_cons s2; obtain ⟨u4, t4, e4, s4⟩ := len_cons s3; obtain ⟨u5, t5, e5, s5⟩ := len_cons s4; obtain ⟨u6, t6, e6, s6⟩ := len_cons s5; obtain ⟨u7, t7, e7, s7⟩ := len_cons s6; obtain ⟨u8, t8, e8, s8⟩ := len_cons s7; obtain ⟨u9, t9, e9, s9⟩ := len_cons s8
            obtain rfl := len_nil s9
            clear hus s0 s1 s2 s3 s4 s5 s6 s7 s8 s9
            subst e9 e8 e7 e6 e5 e4 e3 e2 e1 e0
            clear h
            simp only [over, Act.put, List.setIfInBounds_toArray, List.set_cons_zero, List.set_cons_succ]
            go_wp2_with fail
            exact postK_normal ⟨_, rfl, rfl, Ext.refl _⟩
          refine AllSteps.cons (fun us hus w' x h => ?_) ?_
          · obtain ⟨u0, t0, e0, s0⟩ := len_cons hus; obtain ⟨u1, t1, e1, s1⟩ := len_cons s0; obtain ⟨u2, t2, e2, s2⟩ := len_cons s1; obtain ⟨u3, t3, e3, s3⟩ := len_cons s2; obtain ⟨u4, t4, e4, s4⟩ := len_cons s3; obtain ⟨u5, t5, e5, s5⟩ := len_cons s4; obtain ⟨u6, t6, e6, s6⟩ := len_cons s5; obtain ⟨u7, t7, e7, s7⟩ := len_cons s6; obtain ⟨u8, t8, e8, s8⟩ := len_cons s7; obtain ⟨u9, t9, e9, s9⟩ := len_cons s8
            obtain rfl := len_nil s9
            clear hus s0 s1 s2 s3 s4 s5 s6 s7 s8 s9
            subst e9 e8 e7 e6 e5 e4 e3 e2 e1 e0
            have h0 : u0 = .slice (some ⟨b1, o1, none⟩) n c1 := h 0 (by kernel_rfl)
            have h1 : u1 = .int .i64 (j : Int) := h 1 (by kernel_rfl)
            clear h
            simp only [over, Act.put, List.setIfInBounds_toArray, List.set_cons_zero, List.set_cons_succ]
            subst h0
            subst h1
            go_wp2_with fail
            exact postK_normal ⟨_, rfl, rfl, Ext.refl _⟩
          refine AllSteps.cons (fun us hus w' x h => ?_) ?_
          · obtain ⟨u0, t0, e0, s0⟩ := len_cons hus; obtain ⟨u1, t1, e1, s1⟩ := len_cons s0; obtain ⟨u2, t2, e2, s2⟩ := len_cons s1; obtain ⟨u3, t3, e3, s3⟩ := len_cons s2; obtain ⟨u4, t4, e4, s4⟩ := len_cons s3; obtain ⟨u5, t5, e5, s5⟩ := len_cons s4; obtain ⟨u6, t6, e6, s6⟩ := len_cons s5; obtain ⟨u7, t7, e7, s7⟩ := len_cons s6; obtain ⟨u8, t8, e8, s8⟩ := len_cons s7; obtain ⟨u9, t9, e9, s9⟩ := len_cons s8
            obtain rfl := len_nil s9
            clear hus s0 s1 s2 s3 s4 s5 s6 s7 s8 s9
            subst e9 e8 e7 e6 e5 e4 e3 e2 e1 e0
            have h2 : u2 = .pointer (some ⟨b1, o1 + j * 2, none⟩) := h 2 (by kernel_rfl)
            clear h
            simp only [over, Act.put, List.setIfInBounds_toArray, List.set_cons_zero, List.set_cons_succ]
            subst h2
            have k0 := x.cell HD10.out
            have k1 := x.cell HD11.out
            go_wp2_with fail
            exact postK_normal ⟨_, rfl, rfl, Ext.refl _⟩
          refine AllSteps.cons (fun us hus w' x h => ?_) ?_
          · obtain ⟨u0, t0, e0, s0⟩ := len_cons hus; obtain ⟨u1, t1, e1, s1⟩ := len_cons s0; obtain ⟨u2, t2, e2, s2⟩ := len_cons s1; obtain ⟨u3, t3, e3, s3⟩ := len_cons s2; obtain ⟨u4, t4, e4, s4⟩ := len_cons s3; obtain ⟨u5, t5, e5, s5⟩ := len_cons s4; obtain ⟨u6, t6, e6, s6⟩ := len_cons s5; obtain ⟨u7, t7, e7, s7⟩ := len_cons s6; obtain ⟨u8, t8, e8, s8⟩ := len_cons s7; obtain ⟨u9, t9, e9, s9⟩ := len_cons s8
            obtain rfl := len_nil s9
            clear hus s0 s1 s2 s3 s4 s5 s6 s7 s8 s9
            subst e9 e8 e7 e6 e5 e4 e3 e2 e1 e0
            clear h
            simp only [over, Act.put, List.setIfInBounds_toArray, List.set_cons_zero, List.set_cons_succ]
            go_wp2_with fail
            exact postK_normal ⟨_, rfl, rfl, Ext.refl _⟩
          refine AllSteps.cons (fun us hus w' x h => ?_) ?_
          · obtain ⟨u0, t0, e0, s0⟩ := len_cons hus; obtain ⟨u1, t1, e1, s1⟩ := len_cons s0; obtain ⟨u2, t2, e2, s2⟩ := len_cons s1; obtain ⟨u3, t3, e3, s3⟩ := len_cons s2; obtain ⟨u4, t4, e4, s4⟩ := len_cons s3; obtain ⟨u5, t5, e5, s5⟩ := len_cons s4; obtain ⟨u6, t6, e6, s6⟩ := len_cons s5; obtain ⟨u7, t7, e7, s7⟩ := len_cons s6; obtain ⟨u8, t8, e8, s8⟩ := len_cons s7; obtain ⟨u9, t9, e9, s9⟩ := len_cons s8
            obtain rfl := len_nil s9
            clear hus s0 s1 s2 s3 s4 s5 s6 s7 s8 s9
            subst e9 e8 e7 e6 e5 e4 e3 e2 e1 e0
            clear h
            simp only [over, Act.put, List.setIfInBounds_toArray, List.set_cons_zero, List.set_cons_succ]
            go_wp2_with fail
            exact postK_normal ⟨_, rfl, rfl, Ext.refl _⟩
          refine AllSteps.cons (fun us hus w' x h => ?_) ?_
          · obtain ⟨u0, t0, e0, s0⟩ := len_cons hus; obtain ⟨u1, t1, e1, s1⟩ := len_cons s0; obtain ⟨u2, t2, e2, s2⟩ := len_cons s1; obtain ⟨u3, t3, e3, s3⟩ := len_cons s2; obtain ⟨u4, t4, e4, s4⟩ := len_cons s3; obtain ⟨u5, t5, e5, s5⟩ := len_cons s4; obtain ⟨u6, t6, e6, s6⟩ := len_cons s5; obtain ⟨u7, t7, e7, s7⟩ := len_cons s6; obtain ⟨u8, t8, e8, s8⟩ := len_cons s7; obtain ⟨u9, t9, e9, s9⟩ := len_cons s8
            obtain rfl := len_nil s9
            clear hus s0 s1 s2 s3 s4 s5 s6 s7 s8 s9
            subst e9 e8 e7 e6 e5 e4 e3 e2 e1 e0
            have h4 : u4 = .slice (some ⟨b2, o2, none⟩) n c2 := h 4 (by kernel_rfl)
            have h5 : u5 = .int .i64 (j : Int) := h 5 (by kernel_rfl)
            clear h
            simp only [over, Act.put, List.setIfInBounds_toArray, List.set_cons_zero, List.set_cons_succ]
            subst h4
            subst h5
            go_wp2_with fail
            exact postK_normal ⟨_, rfl, rfl, Ext.refl _⟩
          refine AllSteps.cons (fun us hus w' x h => ?_) ?_
          · obtain ⟨u0, t0, e0, s0⟩ := len_cons hus; obtain ⟨u1, t1, e1, s1⟩ := len_cons s0; obtain ⟨u2, t2, e2, s2⟩ := len_cons s1; obtain ⟨u3, t3, e3, s3⟩ := len_cons s2; obtain ⟨u4, t4, e4, s4⟩ := len_cons s3; obtain ⟨u5, t5, e5, s5⟩ := len_cons s4; obtain ⟨u6, t6, e6, s6⟩ := len_cons s5; obtain ⟨u7, t7, e7, s7⟩ := len_cons s6; obtain ⟨u8, t8, e8, s8⟩ := len_cons s7; obtain ⟨u9, t9, e9, s9⟩ := len_cons s8
            obtain rfl := len_nil s9
            clear hus s0 s1 s2 s3 s4 s5 s6 s7 s8 s9
            subst e9 e8 e7 e6 e5 e4 e3 e2 e1 e0
            have h6 : u6 = .pointer (some ⟨b2, o2 + j * 2, none⟩) := h 6 (by kernel_rfl)
            clear h
            simp only [over, Act.put, List.setIfInBounds_toArray, List.set_cons_zero, List.set_cons_succ]
            subst h6
            have k0 := x.cell HD20.out
            have k1 := x.cell HD21.out
            go_wp2_with fail
            exact postK_normal ⟨_, rfl, rfl, Ext.refl _⟩
          refine AllSteps.cons (fun us hus w' x h => ?_) ?_
          · obtain ⟨u0, t0, e0, s0⟩ := len_cons hus; obtain ⟨u1, t1, e1, s1⟩ := len_cons s0; obtain ⟨u2, t2, e2, s2⟩ := len_cons s1; obtain ⟨u3, t3, e3, s3⟩ := len_cons s2; obtain ⟨u4, t4, e4, s4⟩ := len_cons s3; obtain ⟨u5, t5, e5, s5⟩ := len_cons s4; obtain ⟨u6, t6, e6, s6⟩ := len_cons s5; obtain ⟨u7, t7, e7, s7⟩ := len_cons s6; obtain ⟨u8, t8, e8, s8⟩ := len_cons s7; obtain ⟨u9, t9, e9, s9⟩ := len_cons s8
            obtain rfl := len_nil s9
            clear hus s0 s1 s2 s3 s4 s5 s6 s7 s8 s9
            subst e9 e8 e7 e6 e5 e4 e3 e2 e1 e0
            have h3 : u3 = .agg #[.int .i32 p, .int .i32 q] := h 3 (by kernel_rfl)
            have h7 : u7 = .agg #[.int .i32 p, .int .i32 q] := h 7 (by kernel_rfl)
            clear h
            simp only [over, Act.put, List.setIfInBounds_toArray, List.set_cons_zero, List.set_cons_succ]
            subst h3
            subst h7
            go_wp2_with (go_at_call 88; refine (laws_eqRow p q _).mono ?_)
            rintro _ w5 ⟨rfl, x5⟩
            go_wp2_with fail
            exact postK_normal ⟨_, rfl, rfl, x5⟩
          refine AllSteps.cons (fun us hus w' x h => ?_) ?_
          · obtain ⟨u0, t0, e0, s0⟩ := len_cons hus; obtain ⟨u1, t1, e1, s1⟩ := len_cons s0; obtain ⟨u2, t2, e2, s2⟩ := len_cons s1; obtain ⟨u3, t3, e3, s3⟩ := len_cons s2; obtain ⟨u4, t4, e4, s4⟩ := len_cons s3; obtain ⟨u5, t5, e5, s5⟩ := len_cons s4; obtain ⟨u6, t6, e6, s6⟩ := len_cons s5; obtain ⟨u7, t7, e7, s7⟩ := len_cons s6; obtain ⟨u8, t8, e8, s8⟩ := len_cons s7; obtain ⟨u9, t9, e9, s9⟩ := len_cons s8
            obtain rfl := len_nil s9
            clear hus s0 s1 s2 s3 s4 s5 s6 s7 s8 s9
            subst e9 e8 e7 e6 e5 e4 e3 e2 e1 e0
            have h8 : u8 = .bool true := h 8 (by kernel_rfl)
            clear h
            simp only [over, Act.put, List.setIfInBounds_toArray, List.set_cons_zero, List.set_cons_succ]
            subst h8
            go_wp2_with fail
            exact postK_normal ⟨_, rfl, rfl, Ext.refl _⟩
          exact AllSteps.nil
        case fin =>
          intro us hus w' x h
          obtain ⟨u0, t0, e0, s0⟩ := len_cons hus; obtain ⟨u1, t1, e1, s1⟩ := len_cons s0; obtain ⟨u2, t2, e2, s2⟩ := len_cons s1; obtain ⟨u3, t3, e3, s3⟩ := len_cons s2; obtain ⟨u4, t4, e4, s4⟩ := len_cons s3; obtain ⟨u5, t5, e5, s5⟩ := len_cons s4; obtain ⟨u6, t6, e6, s6⟩ := len_cons s5; obtain ⟨u7, t7, e7, s7⟩ := len_cons s6; obtain ⟨u8, t8, e8, s8⟩ := len_cons s7; obtain ⟨u9, t9, e9, s9⟩ := len_cons s8
          obtain rfl := len_nil s9
          clear hus s0 s1 s2 s3 s4 s5 s6 s7 s8 s9
          subst e9 e8 e7 e6 e5 e4 e3 e2 e1 e0
          have h9 : u9 = .bool false := h 9 (by decide)
          clear h
          subst h9
          simp only [over, Act.put, List.setIfInBounds_toArray, List.set_cons_zero, List.set_cons_succ]
          go_wp2_with fail
          go_meet
          exact ⟨rfl, x⟩
      case rest =>
        obtain ⟨rfl, x8⟩ := hcut
        go_wp2_with fail
        go_roundg (gk - 1)
        case measure => omega
        case rel => exact ⟨j + 1, by have := HJ.out; omega, by go_num, HX.out.trans x8⟩
    · have hjn : j = n := by omega
      subst hjn
      clear hj
      go_wp2_with fail
      go_ret
      exact ⟨rfl, hx⟩

set_option maxRecDepth 100000 in
theorem laws_eqTable (v1 v2 : Value) (rows : List (Int × Int)) (w : World) (h1 : Ts w v1 rows) (h2 : Ts w v2 rows) :
    Calls Tryd.prog 41 #[.agg #[v1], .agg #[v2]] w (RetV (.bool true) w) := by
  obtain ⟨a1, c1, rfl, _, _, _⟩ := h1.raw
  obtain ⟨a2, c2, rfl, _, _, _⟩ := h2.raw
  have x2 : ∀ A B, Ext w ((w.alloc A).alloc B) := fun A B => (Ext.alloc _ _).trans (Ext.alloc _ _)
  go_enter Tryd.func41, Tryd.ntmps41
  go_wp2_with (go_at_call 67; refine (laws_eqRowS_same _ _ rows _ (h1.ext (x2 _ _)) (h2.ext (x2 _ _))).mono ?_)
  rintro _ w3 ⟨rfl, x3⟩
  go_wp2_with fail
  go_ret
  exact ⟨rfl, (x2 _ _).trans x3⟩
end Go.Proofs.YtdlobdbclgcogaaDoor
