/- The walk of the law FnJoinIs. Printed by fnjoin.py. -/
import Derived.Test.YtlgoeiofachohaaJoinS
import Derived.Deep.DeepCutAuto
namespace Go.Proofs.Ytlgoeiofachohaa
open Go.RowKit

theorem lens_mem {l : List UInt8} : ∀ {L : List (List UInt8)}, l ∈ L → l.length ≤ Lib.lens L
  | x :: r, h => by
    rw [Lib.lens_cons]
    rcases List.mem_cons.1 h with rfl | h
    · omega
    · have := lens_mem h; omega
theorem FewOk.bound {L : List (List UInt8)} {n : Nat} (h : FewOk L n) (sep : List UInt8) (hs : sep.length = n) : Lib.lens L + sep.length * (L.length - 1) ≤ 33554432 := by
  obtain ⟨_, _, h3, h4⟩ := h
  have : sep.length * (L.length - 1) ≤ (L.length + 1) * (n + 1) := by
    rw [hs, Nat.mul_comm]
    exact Nat.mul_le_mul (by omega) (by omega)
  omega

set_option maxRecDepth 100000 in
set_option maxHeartbeats 8000000 in
theorem FnJoinIs_walk (w : World) (v0 : Value) (L : List (List UInt8)) (b0 : Ss w v0 L) (s0 : ∀ l ∈ L, l.length ≤ maxLen) (a1 : ByteArray) (z1 : a1.size ≤ reachBytes) :
    Calls Try.prog 5 #[v0, .string a1] w fun e w' => e = .returned (.bool true) ∧ Below w.heap.size w w' := by
  replace z1 : a1.size ≤ 140737488351232 := z1
  have hm1 : a1.size ≤ maxLen := by unfold maxLen; omega
  have cF := laws_few v0 L a1 w b0 hm1 s0
  have HL := Lib.hid b0
  have HEL := Lib.hid s0
  clear s0
  go_enter Try.func5, Try.ntmps5
  go_wp2_with (go_at_call 22; refine cF.mono ?_)
  rintro _ w1 ⟨b, rfl, e1, hfew⟩
  subst w1
  cases b with
  | false =>
    clear hfew
    go_wp2_with fail
    go_ret
    exact ⟨rfl, Below.refl _ _⟩
  | true =>
    have hf := hfew rfl
    have es : a1.data.toList.length = a1.size := rfl
    have hbd := hf.bound a1.data.toList es
    have hn : L.length < 16777216 := hf.1
    have hjl := join_len L a1.data.toList
    have HEL2 := Lib.hid (show ∀ l ∈ L, l.length ≤ 140737488355328 from fun l hl => by
      have h1 := lens_mem hl
      have := hf.2.2.2
      omega)
    obtain ⟨J, hJ⟩ : ∃ J, Lib.join L a1.data.toList = J := ⟨_, rfl⟩
    rw [hJ] at hjl
    obtain ⟨sj, hsj⟩ : ∃ st, (⟨J.toArray⟩ : ByteArray) = st := ⟨_, rfl⟩
    have HJ := Lib.hid hJ
    have HSJ := Lib.hid hsj
    clear hfew hf es hJ hsj b0 cF
    go_upto_region 3 with fail
    go_cut [4] (fun s4 wx => s4 = .bool true ∧ Ext w wx)
    case first =>
      refine wp_region_mono (by kernel_rfl) [9, 10, 11, 12, 13, 14, 15, 16, 17, 18, 19, 20, 21, 22, 4] (by kernel_rfl) (by decide) (by simp) (by kernel_rfl)
        (fun i => match i with | 0 => (fun v w => v = v0) | 1 => (fun v w => Ss w v L) | 2 => (fun v w => Ls w v L) | 3 => (fun v w => v = .string a1) | 4 => (fun v w => Bs w v a1.data.toList) | 5 => (fun v w => Bs w v J) | 6 => (fun v w => v = .string sj) | 7 => (fun v w => v = v0) | 8 => (fun v w => Ls w v L) | 9 => (fun v w => v = .string a1) | 10 => (fun v w => Bs w v a1.data.toList) | 11 => (fun v w => Bs w v J) | 12 => (fun v w => v = .string sj) | 13 => (fun v w => v = .bool true) | 14 => (fun v w => v = .bool true) | _ => fun _ _ => True) ?stable ?steps ?fin
      case stable =>
        intro i v w' w'' h x
        match i, h with
        | 0, h => exact h
        | 1, h => exact (show Ss w' v L from h).ext x
        | 2, h => exact (show Ls w' v L from h).ext x
        | 3, h => exact h
        | 4, h => exact (show Bs w' v a1.data.toList from h).ext x
        | 5, h => exact (show Bs w' v J from h).ext x
        | 6, h => exact h
        | 7, h => exact h
        | 8, h => exact (show Ls w' v L from h).ext x
        | 9, h => exact h
        | 10, h => exact (show Bs w' v a1.data.toList from h).ext x
        | 11, h => exact (show Bs w' v J from h).ext x
        | 12, h => exact h
        | 13, h => exact h
        | 14, h => exact h
        | _ + 15, _ => trivial
      case steps =>
        refine AllSteps.cons (fun us hus w' x h => ?_) ?_
        · obtain ⟨u0, t0, e0, s0⟩ := len_cons hus; obtain ⟨u1, t1, e1, s1⟩ := len_cons s0; obtain ⟨u2, t2, e2, s2⟩ := len_cons s1; obtain ⟨u3, t3, e3, s3⟩ := len_cons s2; obtain ⟨u4, t4, e4, s4⟩ := len_cons s3; obtain ⟨u5, t5, e5, s5⟩ := len_cons s4; obtain ⟨u6, t6, e6, s6⟩ := len_cons s5; obtain ⟨u7, t7, e7, s7⟩ := len_cons s6; obtain ⟨u8, t8, e8, s8⟩ := len_cons s7; obtain ⟨u9, t9, e9, s9⟩ := len_cons s8; obtain ⟨u10, t10, e10, s10⟩ := len_cons s9; obtain ⟨u11, t11, e11, s11⟩ := len_cons s10; obtain ⟨u12, t12, e12, s12⟩ := len_cons s11; obtain ⟨u13, t13, e13, s13⟩ := len_cons s12; obtain ⟨u14, t14, e14, s14⟩ := len_cons s13
          obtain rfl := len_nil s14
          clear hus s0 s1 s2 s3 s4 s5 s6 s7 s8 s9 s10 s11 s12 s13 s14
          subst e14 e13 e12 e11 e10 e9 e8 e7 e6 e5 e4 e3 e2 e1 e0
          clear h
          simp only [over, Act.put, List.setIfInBounds_toArray, List.set_cons_zero, List.set_cons_succ]
          go_wp2_with fail
          exact postK_normal ⟨_, rfl, rfl, Ext.refl _⟩
        refine AllSteps.cons (fun us hus w' x h => ?_) ?_
        · obtain ⟨u0, t0, e0, s0⟩ := len_cons hus; obtain ⟨u1, t1, e1, s1⟩ := len_cons s0; obtain ⟨u2, t2, e2, s2⟩ := len_cons s1; obtain ⟨u3, t3, e3, s3⟩ := len_cons s2; obtain ⟨u4, t4, e4, s4⟩ := len_cons s3; obtain ⟨u5, t5, e5, s5⟩ := len_cons s4; obtain ⟨u6, t6, e6, s6⟩ := len_cons s5; obtain ⟨u7, t7, e7, s7⟩ := len_cons s6; obtain ⟨u8, t8, e8, s8⟩ := len_cons s7; obtain ⟨u9, t9, e9, s9⟩ := len_cons s8; obtain ⟨u10, t10, e10, s10⟩ := len_cons s9; obtain ⟨u11, t11, e11, s11⟩ := len_cons s10; obtain ⟨u12, t12, e12, s12⟩ := len_cons s11; obtain ⟨u13, t13, e13, s13⟩ := len_cons s12; obtain ⟨u14, t14, e14, s14⟩ := len_cons s13
          obtain rfl := len_nil s14
          clear hus s0 s1 s2 s3 s4 s5 s6 s7 s8 s9 s10 s11 s12 s13 s14
          subst e14 e13 e12 e11 e10 e9 e8 e7 e6 e5 e4 e3 e2 e1 e0
          have h0 : u0 = v0 := h 0 (by kernel_rfl)
          clear h
          simp only [over, Act.put, List.setIfInBounds_toArray, List.set_cons_zero, List.set_cons_succ]
          subst h0
          have hS := HL.out.ext x
          go_wp2_with (refine wpList_appendVs rfl 31 _ _ rfl 9 1 16 _ Try.underlying31 info_string rfl (by omega) w'.heap.size _ 0 [] rfl (World.ownsRow_nil _ _ _ _) _ L.length _ rfl hS (svals_one L) (by omega) (by omega) (Nat.le_refl _) ?_)
          intro v5 w5 o5 g5
          have x5 : Ext w' w5 := ext_of_grown g5 (by intro k hk; simp [Value.ownBlock] at hk)
          have s5 : Ss w5 v5 L := by
            have := vs_of_owns o5
            simpa [Ss] using this
          go_wp2_with fail
          exact postK_normal ⟨_, rfl, s5, x5⟩
        refine AllSteps.cons (fun us hus w' x h => ?_) ?_
        · obtain ⟨u0, t0, e0, s0⟩ := len_cons hus; obtain ⟨u1, t1, e1, s1⟩ := len_cons s0; obtain ⟨u2, t2, e2, s2⟩ := len_cons s1; obtain ⟨u3, t3, e3, s3⟩ := len_cons s2; obtain ⟨u4, t4, e4, s4⟩ := len_cons s3; obtain ⟨u5, t5, e5, s5⟩ := len_cons s4; obtain ⟨u6, t6, e6, s6⟩ := len_cons s5; obtain ⟨u7, t7, e7, s7⟩ := len_cons s6; obtain ⟨u8, t8, e8, s8⟩ := len_cons s7; obtain ⟨u9, t9, e9, s9⟩ := len_cons s8; obtain ⟨u10, t10, e10, s10⟩ := len_cons s9; obtain ⟨u11, t11, e11, s11⟩ := len_cons s10; obtain ⟨u12, t12, e12, s12⟩ := len_cons s11; obtain ⟨u13, t13, e13, s13⟩ := len_cons s12; obtain ⟨u14, t14, e14, s14⟩ := len_cons s13
          obtain rfl := len_nil s14
          clear hus s0 s1 s2 s3 s4 s5 s6 s7 s8 s9 s10 s11 s12 s13 s14
          subst e14 e13 e12 e11 e10 e9 e8 e7 e6 e5 e4 e3 e2 e1 e0
          have h1 : Ss w' u1 L := h 1 (by kernel_rfl)
          clear h
          simp only [over, Act.put, List.setIfInBounds_toArray, List.set_cons_zero, List.set_cons_succ]
          go_wp2_with (go_at_call 24; refine (laws_lists _ _ _ h1 (by omega) HEL2.out).mono ?_)
          rintro _ w5 ⟨v5, rfl, o5, x5⟩
          go_wp2_with fail
          exact postK_normal ⟨_, rfl, o5.bs, x5⟩
        refine AllSteps.cons (fun us hus w' x h => ?_) ?_
        · obtain ⟨u0, t0, e0, s0⟩ := len_cons hus; obtain ⟨u1, t1, e1, s1⟩ := len_cons s0; obtain ⟨u2, t2, e2, s2⟩ := len_cons s1; obtain ⟨u3, t3, e3, s3⟩ := len_cons s2; obtain ⟨u4, t4, e4, s4⟩ := len_cons s3; obtain ⟨u5, t5, e5, s5⟩ := len_cons s4; obtain ⟨u6, t6, e6, s6⟩ := len_cons s5; obtain ⟨u7, t7, e7, s7⟩ := len_cons s6; obtain ⟨u8, t8, e8, s8⟩ := len_cons s7; obtain ⟨u9, t9, e9, s9⟩ := len_cons s8; obtain ⟨u10, t10, e10, s10⟩ := len_cons s9; obtain ⟨u11, t11, e11, s11⟩ := len_cons s10; obtain ⟨u12, t12, e12, s12⟩ := len_cons s11; obtain ⟨u13, t13, e13, s13⟩ := len_cons s12; obtain ⟨u14, t14, e14, s14⟩ := len_cons s13
          obtain rfl := len_nil s14
          clear hus s0 s1 s2 s3 s4 s5 s6 s7 s8 s9 s10 s11 s12 s13 s14
          subst e14 e13 e12 e11 e10 e9 e8 e7 e6 e5 e4 e3 e2 e1 e0
          clear h
          simp only [over, Act.put, List.setIfInBounds_toArray, List.set_cons_zero, List.set_cons_succ]
          go_wp2_with fail
          exact postK_normal ⟨_, rfl, rfl, Ext.refl _⟩
        refine AllSteps.cons (fun us hus w' x h => ?_) ?_
        · obtain ⟨u0, t0, e0, s0⟩ := len_cons hus; obtain ⟨u1, t1, e1, s1⟩ := len_cons s0; obtain ⟨u2, t2, e2, s2⟩ := len_cons s1; obtain ⟨u3, t3, e3, s3⟩ := len_cons s2; obtain ⟨u4, t4, e4, s4⟩ := len_cons s3; obtain ⟨u5, t5, e5, s5⟩ := len_cons s4; obtain ⟨u6, t6, e6, s6⟩ := len_cons s5; obtain ⟨u7, t7, e7, s7⟩ := len_cons s6; obtain ⟨u8, t8, e8, s8⟩ := len_cons s7; obtain ⟨u9, t9, e9, s9⟩ := len_cons s8; obtain ⟨u10, t10, e10, s10⟩ := len_cons s9; obtain ⟨u11, t11, e11, s11⟩ := len_cons s10; obtain ⟨u12, t12, e12, s12⟩ := len_cons s11; obtain ⟨u13, t13, e13, s13⟩ := len_cons s12; obtain ⟨u14, t14, e14, s14⟩ := len_cons s13
          obtain rfl := len_nil s14
          clear hus s0 s1 s2 s3 s4 s5 s6 s7 s8 s9 s10 s11 s12 s13 s14
          subst e14 e13 e12 e11 e10 e9 e8 e7 e6 e5 e4 e3 e2 e1 e0
          have h3 : u3 = .string a1 := h 3 (by kernel_rfl)
          clear h
          simp only [over, Act.put, List.setIfInBounds_toArray, List.set_cons_zero, List.set_cons_succ]
          subst h3
          go_wp2_with (refine wpList_toBytes rfl 9 22 _ rfl 5 Try.underlying9 Try.underlying22 Try.underlying5 _ rfl hm1 ?_)
          intro v5 w5 o5 x5
          go_wp2_with fail
          exact postK_normal ⟨_, rfl, o5.bs, x5⟩
        refine AllSteps.cons (fun us hus w' x h => ?_) ?_
        · obtain ⟨u0, t0, e0, s0⟩ := len_cons hus; obtain ⟨u1, t1, e1, s1⟩ := len_cons s0; obtain ⟨u2, t2, e2, s2⟩ := len_cons s1; obtain ⟨u3, t3, e3, s3⟩ := len_cons s2; obtain ⟨u4, t4, e4, s4⟩ := len_cons s3; obtain ⟨u5, t5, e5, s5⟩ := len_cons s4; obtain ⟨u6, t6, e6, s6⟩ := len_cons s5; obtain ⟨u7, t7, e7, s7⟩ := len_cons s6; obtain ⟨u8, t8, e8, s8⟩ := len_cons s7; obtain ⟨u9, t9, e9, s9⟩ := len_cons s8; obtain ⟨u10, t10, e10, s10⟩ := len_cons s9; obtain ⟨u11, t11, e11, s11⟩ := len_cons s10; obtain ⟨u12, t12, e12, s12⟩ := len_cons s11; obtain ⟨u13, t13, e13, s13⟩ := len_cons s12; obtain ⟨u14, t14, e14, s14⟩ := len_cons s13
          obtain rfl := len_nil s14
          clear hus s0 s1 s2 s3 s4 s5 s6 s7 s8 s9 s10 s11 s12 s13 s14
          subst e14 e13 e12 e11 e10 e9 e8 e7 e6 e5 e4 e3 e2 e1 e0
          have h2 : Ls w' u2 L := h 2 (by kernel_rfl)
          have h4 : Bs w' u4 a1.data.toList := h 4 (by kernel_rfl)
          clear h
          simp only [over, Act.put, List.setIfInBounds_toArray, List.set_cons_zero, List.set_cons_succ]
          have c5 := impl_Join _ _ _ _ _ h2 h4 (by omega) (by omega)
          rw [HJ.out] at c5
          go_wp2_with (go_at_call 23; refine c5.mono ?_)
          rintro _ w5 ⟨v5, rfl, o5, x5⟩
          go_wp2_with fail
          exact postK_normal ⟨_, rfl, o5.bs, x5⟩
        refine AllSteps.cons (fun us hus w' x h => ?_) ?_
        · obtain ⟨u0, t0, e0, s0⟩ := len_cons hus; obtain ⟨u1, t1, e1, s1⟩ := len_cons s0; obtain ⟨u2, t2, e2, s2⟩ := len_cons s1; obtain ⟨u3, t3, e3, s3⟩ := len_cons s2; obtain ⟨u4, t4, e4, s4⟩ := len_cons s3; obtain ⟨u5, t5, e5, s5⟩ := len_cons s4; obtain ⟨u6, t6, e6, s6⟩ := len_cons s5; obtain ⟨u7, t7, e7, s7⟩ := len_cons s6; obtain ⟨u8, t8, e8, s8⟩ := len_cons s7; obtain ⟨u9, t9, e9, s9⟩ := len_cons s8; obtain ⟨u10, t10, e10, s10⟩ := len_cons s9; obtain ⟨u11, t11, e11, s11⟩ := len_cons s10; obtain ⟨u12, t12, e12, s12⟩ := len_cons s11; obtain ⟨u13, t13, e13, s13⟩ := len_cons s12; obtain ⟨u14, t14, e14, s14⟩ := len_cons s13
          obtain rfl := len_nil s14
          clear hus s0 s1 s2 s3 s4 s5 s6 s7 s8 s9 s10 s11 s12 s13 s14
          subst e14 e13 e12 e11 e10 e9 e8 e7 e6 e5 e4 e3 e2 e1 e0
          have h5 : Bs w' u5 J := h 5 (by kernel_rfl)
          clear h
          simp only [over, Act.put, List.setIfInBounds_toArray, List.set_cons_zero, List.set_cons_succ]
          go_wp2_with (refine wpList_toString rfl 22 9 _ rfl 5 Try.underlying22 Try.underlying5 Try.underlying9 _ _ rfl h5 ?_)
          rw [HSJ.out]
          go_wp2_with fail
          exact postK_normal ⟨_, rfl, rfl, Ext.refl _⟩
        refine AllSteps.cons (fun us hus w' x h => ?_) ?_
        · obtain ⟨u0, t0, e0, s0⟩ := len_cons hus; obtain ⟨u1, t1, e1, s1⟩ := len_cons s0; obtain ⟨u2, t2, e2, s2⟩ := len_cons s1; obtain ⟨u3, t3, e3, s3⟩ := len_cons s2; obtain ⟨u4, t4, e4, s4⟩ := len_cons s3; obtain ⟨u5, t5, e5, s5⟩ := len_cons s4; obtain ⟨u6, t6, e6, s6⟩ := len_cons s5; obtain ⟨u7, t7, e7, s7⟩ := len_cons s6; obtain ⟨u8, t8, e8, s8⟩ := len_cons s7; obtain ⟨u9, t9, e9, s9⟩ := len_cons s8; obtain ⟨u10, t10, e10, s10⟩ := len_cons s9; obtain ⟨u11, t11, e11, s11⟩ := len_cons s10; obtain ⟨u12, t12, e12, s12⟩ := len_cons s11; obtain ⟨u13, t13, e13, s13⟩ := len_cons s12; obtain ⟨u14, t14, e14, s14⟩ := len_cons s13
          obtain rfl := len_nil s14
          clear hus s0 s1 s2 s3 s4 s5 s6 s7 s8 s9 s10 s11 s12 s13 s14
          subst e14 e13 e12 e11 e10 e9 e8 e7 e6 e5 e4 e3 e2 e1 e0
          clear h
          simp only [over, Act.put, List.setIfInBounds_toArray, List.set_cons_zero, List.set_cons_succ]
          go_wp2_with fail
          exact postK_normal ⟨_, rfl, rfl, Ext.refl _⟩
        refine AllSteps.cons (fun us hus w' x h => ?_) ?_
        · obtain ⟨u0, t0, e0, s0⟩ := len_cons hus; obtain ⟨u1, t1, e1, s1⟩ := len_cons s0; obtain ⟨u2, t2, e2, s2⟩ := len_cons s1; obtain ⟨u3, t3, e3, s3⟩ := len_cons s2; obtain ⟨u4, t4, e4, s4⟩ := len_cons s3; obtain ⟨u5, t5, e5, s5⟩ := len_cons s4; obtain ⟨u6, t6, e6, s6⟩ := len_cons s5; obtain ⟨u7, t7, e7, s7⟩ := len_cons s6; obtain ⟨u8, t8, e8, s8⟩ := len_cons s7; obtain ⟨u9, t9, e9, s9⟩ := len_cons s8; obtain ⟨u10, t10, e10, s10⟩ := len_cons s9; obtain ⟨u11, t11, e11, s11⟩ := len_cons s10; obtain ⟨u12, t12, e12, s12⟩ := len_cons s11; obtain ⟨u13, t13, e13, s13⟩ := len_cons s12; obtain ⟨u14, t14, e14, s14⟩ := len_cons s13
          obtain rfl := len_nil s14
          clear hus s0 s1 s2 s3 s4 s5 s6 s7 s8 s9 s10 s11 s12 s13 s14
          subst e14 e13 e12 e11 e10 e9 e8 e7 e6 e5 e4 e3 e2 e1 e0
          have h7 : u7 = v0 := h 7 (by kernel_rfl)
          clear h
          simp only [over, Act.put, List.setIfInBounds_toArray, List.set_cons_zero, List.set_cons_succ]
          subst h7
          go_wp2_with (go_at_call 24; refine (laws_lists _ _ _ (HL.out.ext x) (by omega) HEL2.out).mono ?_)
          rintro _ w5 ⟨v5, rfl, o5, x5⟩
          go_wp2_with fail
          exact postK_normal ⟨_, rfl, o5.bs, x5⟩
        refine AllSteps.cons (fun us hus w' x h => ?_) ?_
        · obtain ⟨u0, t0, e0, s0⟩ := len_cons hus; obtain ⟨u1, t1, e1, s1⟩ := len_cons s0; obtain ⟨u2, t2, e2, s2⟩ := len_cons s1; obtain ⟨u3, t3, e3, s3⟩ := len_cons s2; obtain ⟨u4, t4, e4, s4⟩ := len_cons s3; obtain ⟨u5, t5, e5, s5⟩ := len_cons s4; obtain ⟨u6, t6, e6, s6⟩ := len_cons s5; obtain ⟨u7, t7, e7, s7⟩ := len_cons s6; obtain ⟨u8, t8, e8, s8⟩ := len_cons s7; obtain ⟨u9, t9, e9, s9⟩ := len_cons s8; obtain ⟨u10, t10, e10, s10⟩ := len_cons s9; obtain ⟨u11, t11, e11, s11⟩ := len_cons s10; obtain ⟨u12, t12, e12, s12⟩ := len_cons s11; obtain ⟨u13, t13, e13, s13⟩ := len_cons s12; obtain ⟨u14, t14, e14, s14⟩ := len_cons s13
          obtain rfl := len_nil s14
          clear hus s0 s1 s2 s3 s4 s5 s6 s7 s8 s9 s10 s11 s12 s13 s14
          subst e14 e13 e12 e11 e10 e9 e8 e7 e6 e5 e4 e3 e2 e1 e0
          clear h
          simp only [over, Act.put, List.setIfInBounds_toArray, List.set_cons_zero, List.set_cons_succ]
          go_wp2_with fail
          exact postK_normal ⟨_, rfl, rfl, Ext.refl _⟩
        refine AllSteps.cons (fun us hus w' x h => ?_) ?_
        · obtain ⟨u0, t0, e0, s0⟩ := len_cons hus; obtain ⟨u1, t1, e1, s1⟩ := len_cons s0; obtain ⟨u2, t2, e2, s2⟩ := len_cons s1; obtain ⟨u3, t3, e3, s3⟩ := len_cons s2; obtain ⟨u4, t4, e4, s4⟩ := len_cons s3; obtain ⟨u5, t5, e5, s5⟩ := len_cons s4; obtain ⟨u6, t6, e6, s6⟩ := len_cons s5; obtain ⟨u7, t7, e7, s7⟩ := len_cons s6; obtain ⟨u8, t8, e8, s8⟩ := len_cons s7; obtain ⟨u9, t9, e9, s9⟩ := len_cons s8; obtain ⟨u10, t10, e10, s10⟩ := len_cons s9; obtain ⟨u11, t11, e11, s11⟩ := len_cons s10; obtain ⟨u12, t12, e12, s12⟩ := len_cons s11; obtain ⟨u13, t13, e13, s13⟩ := len_cons s12; obtain ⟨u14, t14, e14, s14⟩ := len_cons s13
          obtain rfl := len_nil s14
          clear hus s0 s1 s2 s3 s4 s5 s6 s7 s8 s9 s10 s11 s12 s13 s14
          subst e14 e13 e12 e11 e10 e9 e8 e7 e6 e5 e4 e3 e2 e1 e0
          have h9 : u9 = .string a1 := h 9 (by kernel_rfl)
          clear h
          simp only [over, Act.put, List.setIfInBounds_toArray, List.set_cons_zero, List.set_cons_succ]
          subst h9
          go_wp2_with (refine wpList_toBytes rfl 9 22 _ rfl 5 Try.underlying9 Try.underlying22 Try.underlying5 _ rfl hm1 ?_)
          intro v5 w5 o5 x5
          go_wp2_with fail
          exact postK_normal ⟨_, rfl, o5.bs, x5⟩
        refine AllSteps.cons (fun us hus w' x h => ?_) ?_
        · obtain ⟨u0, t0, e0, s0⟩ := len_cons hus; obtain ⟨u1, t1, e1, s1⟩ := len_cons s0; obtain ⟨u2, t2, e2, s2⟩ := len_cons s1; obtain ⟨u3, t3, e3, s3⟩ := len_cons s2; obtain ⟨u4, t4, e4, s4⟩ := len_cons s3; obtain ⟨u5, t5, e5, s5⟩ := len_cons s4; obtain ⟨u6, t6, e6, s6⟩ := len_cons s5; obtain ⟨u7, t7, e7, s7⟩ := len_cons s6; obtain ⟨u8, t8, e8, s8⟩ := len_cons s7; obtain ⟨u9, t9, e9, s9⟩ := len_cons s8; obtain ⟨u10, t10, e10, s10⟩ := len_cons s9; obtain ⟨u11, t11, e11, s11⟩ := len_cons s10; obtain ⟨u12, t12, e12, s12⟩ := len_cons s11; obtain ⟨u13, t13, e13, s13⟩ := len_cons s12; obtain ⟨u14, t14, e14, s14⟩ := len_cons s13
          obtain rfl := len_nil s14
          clear hus s0 s1 s2 s3 s4 s5 s6 s7 s8 s9 s10 s11 s12 s13 s14
          subst e14 e13 e12 e11 e10 e9 e8 e7 e6 e5 e4 e3 e2 e1 e0
          have h8 : Ls w' u8 L := h 8 (by kernel_rfl)
          have h10 : Bs w' u10 a1.data.toList := h 10 (by kernel_rfl)
          clear h
          simp only [over, Act.put, List.setIfInBounds_toArray, List.set_cons_zero, List.set_cons_succ]
          have c5 := spec_Join _ _ _ _ _ h8 h10 (by omega) (by rw [HJ.out]; omega)
          rw [HJ.out] at c5
          go_wp2_with (go_at_call 25; refine c5.mono ?_)
          rintro _ w5 ⟨v5, rfl, o5, x5⟩
          go_wp2_with fail
          exact postK_normal ⟨_, rfl, o5, x5⟩
        refine AllSteps.cons (fun us hus w' x h => ?_) ?_
        · obtain ⟨u0, t0, e0, s0⟩ := len_cons hus; obtain ⟨u1, t1, e1, s1⟩ := len_cons s0; obtain ⟨u2, t2, e2, s2⟩ := len_cons s1; obtain ⟨u3, t3, e3, s3⟩ := len_cons s2; obtain ⟨u4, t4, e4, s4⟩ := len_cons s3; obtain ⟨u5, t5, e5, s5⟩ := len_cons s4; obtain ⟨u6, t6, e6, s6⟩ := len_cons s5; obtain ⟨u7, t7, e7, s7⟩ := len_cons s6; obtain ⟨u8, t8, e8, s8⟩ := len_cons s7; obtain ⟨u9, t9, e9, s9⟩ := len_cons s8; obtain ⟨u10, t10, e10, s10⟩ := len_cons s9; obtain ⟨u11, t11, e11, s11⟩ := len_cons s10; obtain ⟨u12, t12, e12, s12⟩ := len_cons s11; obtain ⟨u13, t13, e13, s13⟩ := len_cons s12; obtain ⟨u14, t14, e14, s14⟩ := len_cons s13
          obtain rfl := len_nil s14
          clear hus s0 s1 s2 s3 s4 s5 s6 s7 s8 s9 s10 s11 s12 s13 s14
          subst e14 e13 e12 e11 e10 e9 e8 e7 e6 e5 e4 e3 e2 e1 e0
          have h11 : Bs w' u11 J := h 11 (by kernel_rfl)
          clear h
          simp only [over, Act.put, List.setIfInBounds_toArray, List.set_cons_zero, List.set_cons_succ]
          go_wp2_with (refine wpList_toString rfl 22 9 _ rfl 5 Try.underlying22 Try.underlying5 Try.underlying9 _ _ rfl h11 ?_)
          rw [HSJ.out]
          go_wp2_with fail
          exact postK_normal ⟨_, rfl, rfl, Ext.refl _⟩
        refine AllSteps.cons (fun us hus w' x h => ?_) ?_
        · obtain ⟨u0, t0, e0, s0⟩ := len_cons hus; obtain ⟨u1, t1, e1, s1⟩ := len_cons s0; obtain ⟨u2, t2, e2, s2⟩ := len_cons s1; obtain ⟨u3, t3, e3, s3⟩ := len_cons s2; obtain ⟨u4, t4, e4, s4⟩ := len_cons s3; obtain ⟨u5, t5, e5, s5⟩ := len_cons s4; obtain ⟨u6, t6, e6, s6⟩ := len_cons s5; obtain ⟨u7, t7, e7, s7⟩ := len_cons s6; obtain ⟨u8, t8, e8, s8⟩ := len_cons s7; obtain ⟨u9, t9, e9, s9⟩ := len_cons s8; obtain ⟨u10, t10, e10, s10⟩ := len_cons s9; obtain ⟨u11, t11, e11, s11⟩ := len_cons s10; obtain ⟨u12, t12, e12, s12⟩ := len_cons s11; obtain ⟨u13, t13, e13, s13⟩ := len_cons s12; obtain ⟨u14, t14, e14, s14⟩ := len_cons s13
          obtain rfl := len_nil s14
          clear hus s0 s1 s2 s3 s4 s5 s6 s7 s8 s9 s10 s11 s12 s13 s14
          subst e14 e13 e12 e11 e10 e9 e8 e7 e6 e5 e4 e3 e2 e1 e0
          have h6 : u6 = .string sj := h 6 (by kernel_rfl)
          have h12 : u12 = .string sj := h 12 (by kernel_rfl)
          clear h
          simp only [over, Act.put, List.setIfInBounds_toArray, List.set_cons_zero, List.set_cons_succ]
          subst h6 h12
          go_wp2_with fail
          exact postK_normal ⟨_, rfl, by simp, Ext.refl _⟩
        refine AllSteps.cons (fun us hus w' x h => ?_) ?_
        · obtain ⟨u0, t0, e0, s0⟩ := len_cons hus; obtain ⟨u1, t1, e1, s1⟩ := len_cons s0; obtain ⟨u2, t2, e2, s2⟩ := len_cons s1; obtain ⟨u3, t3, e3, s3⟩ := len_cons s2; obtain ⟨u4, t4, e4, s4⟩ := len_cons s3; obtain ⟨u5, t5, e5, s5⟩ := len_cons s4; obtain ⟨u6, t6, e6, s6⟩ := len_cons s5; obtain ⟨u7, t7, e7, s7⟩ := len_cons s6; obtain ⟨u8, t8, e8, s8⟩ := len_cons s7; obtain ⟨u9, t9, e9, s9⟩ := len_cons s8; obtain ⟨u10, t10, e10, s10⟩ := len_cons s9; obtain ⟨u11, t11, e11, s11⟩ := len_cons s10; obtain ⟨u12, t12, e12, s12⟩ := len_cons s11; obtain ⟨u13, t13, e13, s13⟩ := len_cons s12; obtain ⟨u14, t14, e14, s14⟩ := len_cons s13
          obtain rfl := len_nil s14
          clear hus s0 s1 s2 s3 s4 s5 s6 s7 s8 s9 s10 s11 s12 s13 s14
          subst e14 e13 e12 e11 e10 e9 e8 e7 e6 e5 e4 e3 e2 e1 e0
          have h13 : u13 = .bool true := h 13 (by kernel_rfl)
          clear h
          simp only [over, Act.put, List.setIfInBounds_toArray, List.set_cons_zero, List.set_cons_succ]
          subst h13
          go_wp2_with fail
          exact postK_normal ⟨_, rfl, rfl, Ext.refl _⟩
        exact AllSteps.nil
      case fin =>
        intro us hus w' x h
        obtain ⟨u0, t0, e0, s0⟩ := len_cons hus; obtain ⟨u1, t1, e1, s1⟩ := len_cons s0; obtain ⟨u2, t2, e2, s2⟩ := len_cons s1; obtain ⟨u3, t3, e3, s3⟩ := len_cons s2; obtain ⟨u4, t4, e4, s4⟩ := len_cons s3; obtain ⟨u5, t5, e5, s5⟩ := len_cons s4; obtain ⟨u6, t6, e6, s6⟩ := len_cons s5; obtain ⟨u7, t7, e7, s7⟩ := len_cons s6; obtain ⟨u8, t8, e8, s8⟩ := len_cons s7; obtain ⟨u9, t9, e9, s9⟩ := len_cons s8; obtain ⟨u10, t10, e10, s10⟩ := len_cons s9; obtain ⟨u11, t11, e11, s11⟩ := len_cons s10; obtain ⟨u12, t12, e12, s12⟩ := len_cons s11; obtain ⟨u13, t13, e13, s13⟩ := len_cons s12; obtain ⟨u14, t14, e14, s14⟩ := len_cons s13
        obtain rfl := len_nil s14
        clear hus s0 s1 s2 s3 s4 s5 s6 s7 s8 s9 s10 s11 s12 s13 s14
        subst e14 e13 e12 e11 e10 e9 e8 e7 e6 e5 e4 e3 e2 e1 e0
        have h14 : u14 = .bool true := h 14 (by decide)
        clear h
        subst h14
        simp only [over, Act.put, List.setIfInBounds_toArray, List.set_cons_zero, List.set_cons_succ]
        go_wp2_with fail
        go_meet
        exact ⟨rfl, x⟩
    case rest =>
      obtain ⟨rfl, x5⟩ := hcut
      go_wp2_with fail
      go_ret
      exact ⟨rfl, x5.below⟩
end Go.Proofs.Ytlgoeiofachohaa
