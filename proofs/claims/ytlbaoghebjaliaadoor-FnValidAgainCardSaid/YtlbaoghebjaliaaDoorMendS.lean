/- The reference model's ToValidUTF8. Printed by mended.py. -/
import Derived.Test.YtlbaoghebjaliaaDoorMend
import Derived.Test.YtlbaoghebjaliaaDoorGathF
namespace Go.Proofs.YtlbaoghebjaliaaDoor
open Go.RowKit

/-- 'append(v, s...)' inside a fence, s a string. -/
theorem wpListIn_appendStr {F : Fence} {nn : Nat} {P : Program} {ops : Array Oper} {rest : List Oper} {o : Oper} {a : Act} {Q : Exit → Act → World → Prop} {w : World}
    (hgu : o.guard = none) (t t' : TypeId) (x y : Operand) (hop : o.op = Op.call { callee := .builtin .append, args := #[x, y], argTypes := #[t, t'] })
    (e : TypeId) (ht : P.underlying t = some (.slice e)) (hu : P.underlying t' = some .string) (hinfo : (P.info? e).map (fun i => (i.zero, i.size, i.bytes)) = some (some (.int .u8 0), 1, 1))
    (B : Nat) (v : Value) (l : List UInt8) (hx : a.eval x = v) (hv : Buf B e w v l) (s : ByteArray) (hy : a.eval y = .string s) (hlen : l.length + s.size ≤ 140737488355328) (hB : B ≤ w.heap.size)
    (hK : ∀ v' w', Buf B e w' v' (l ++ s.data.toList) → w.grownBy w' v.ownBlock → wpListIn F nn P ops Q rest (a.put o.dst v') w') : wpListIn F nn P ops Q (o :: rest) a w := by
  refine wpListIn_plain hgu fun K hK' => ?_
  obtain ⟨i, hi, hzz⟩ := Option.map_eq_some_iff.1 hinfo
  simp only [Prod.mk.injEq] at hzz
  obtain ⟨hz, hsz, hby⟩ := hzz
  obtain ⟨v', w', hr, h2, h3, _⟩ := Lib.run_append_own_string (P := P) w B t t' o.type e i ht hu hi hz hsz hby v l.length (bcells l) hv s (by unfold maxLen; omega) hlen hB
  unfold Oper.wpIn
  refine ⟨?_, ?_⟩
  · simp [Oper.about, hop, resolve, Target.leads, Sem.run_pure]
  · rw [Oper.semAt_plain F _ _ (by rw [hop]; intro c hc'; cases hc')]
    simp [execOp, hop, resolve, invoke, builtin, hx, hy, hr, Result.andThen]
    refine hK' _ _ (hK v' w' ?_ h3)
    unfold Buf
    rw [bcells_append, List.length_append, ← strCells_eq]
    exact h2

attribute [local go_sem] Oper.semAt_some

/-- Whether a run of bad bytes is under way ahead of code point number j. -/
def badAt (cs : List Ch) (j : Nat) : Bool := match j with | 0 => false | j + 1 => !(cs.getD j ⟨[], 0, true⟩).ok

set_option maxRecDepth 100000 in
set_option maxHeartbeats 4000000 in
theorem spec_mended (s t : ByteArray) (w : World) (hs : s.size ≤ 1099511627776) (hA : (mendB t.data.toList s.data.toList).length ≤ 140737488355328) :
    Calls Tryd.prog 90 #[.string s, .string t] w (RetV (.string ⟨(mendB t.data.toList s.data.toList).toArray⟩) w) := by
  have HOK := Lib.hid (fun j hj => (chunk_ok_at s.data.toList j hj (place_lt s.data.toList j hj)).1)
  have cP := spec_pieces' s (w.alloc (.cells #[] 5)) hs
  obtain ⟨Bp, hBp⟩ : ∃ Bp, (w.alloc (.cells #[] 5)).heap.size = Bp := ⟨_, rfl⟩
  rw [hBp] at cP
  clear hBp
  obtain ⟨cs, HCS, HPL, HDE, HPE, HPA, HLA, HPN, HRG⟩ := chunk_facts s.data.toList
  rw [HCS.out] at HOK cP
  have HAA := Lib.hid (show mendB t.data.toList s.data.toList = mendC t.data.toList false cs by rw [← HCS.out]; rfl)
  rw [HAA.out] at hA
  obtain ⟨A, hAe⟩ : ∃ A, mendC t.data.toList false cs = A := ⟨_, rfl⟩
  rw [hAe] at hA
  have HA := Lib.hid hAe
  clear hAe
  have g0 := Buf.empty w.heap.size 5 w (Nat.le_refl _)
  have hss : s.data.toList.length = s.size := rfl
  go_enter Tryd.func90, Tryd.ntmps90
  go_wp2_with (go_at_call 89; refine cP.mono ?_)
  rintro _ w1 ⟨v1, rfl, p1, x1⟩
  replace g0 := g0.keep x1
  have x0 : Ext w w1 := (Ext.alloc _ _).trans x1
  have ps : Ps w1 v1 cs := vs_of_owns p1
  obtain ⟨_, a, c, rfl, h1, h2, _⟩ := ps.raw
  have hc1 : c ≤ 9223372036854775807 := by unfold maxLen at h2; omega
  clear h2 cP x1 ps
  go_wp2_with fail
  go_loopg [5, 7] cs.length (fun k b i wr => ∃ (j : Nat) (out : List UInt8), j + k = cs.length ∧ i = .int .i64 j ∧ Buf w.heap.size 5 wr b out ∧ out ++ mendC t.data.toList (badAt cs j) (cs.drop j) = A ∧ wr.ownsRow Bp 100 4 (.slice a cs.length c) cs.length (pcells 0 cs) ∧ Ext w wr)
  case atStart => exact ⟨0, [], by omega, rfl, g0, HA.out, p1, x0⟩
  case round =>
    obtain ⟨j, out, hj, rfl, hg, hout, hpo, hx⟩ := hrel
    clear p1 x0 g0
    have HP := Lib.hid hpo
    obtain ⟨bv, hbv⟩ : ∃ bv, bv = u5 := ⟨_, rfl⟩
    subst hbv
    have HJ := Lib.hid hj
    have HX := Lib.hid hx
    have HG := Lib.hid hg
    have hsz := hx.size
    by_cases hlt : j < cs.length
    · have hgk : 0 < gk := by omega
      have hok1 := HOK.out j hlt
      have hpe := HPE.out j hlt
      have hle := HPN.out (j + 1)
      rw [mendC_step _ _ cs j hlt] at hout
      have ps : Ps wr (.slice a cs.length c) cs := vs_of_owns hpo
      obtain ⟨_, a', c', hv, _, _, hcells⟩ := ps.raw
      injection hv with hv1 _ hv2
      subst hv1 hv2
      have HC := Lib.hid hcells
      obtain ⟨b, o, rfl, c0, c1, c2, c3⟩ := HC.out j hlt
      clear hcells ps hpo c2
      have hbad : badAt cs (j + 1) = !cs[j].ok := by simp [badAt, List.getD, hlt]
      obtain ⟨p, hp⟩ : ∃ p, placeOf cs j = p := ⟨_, rfl⟩
      have HPJ := Lib.hid hp
      simp only [hp] at hok1 hpe c0
      obtain ⟨n, hn⟩ : ∃ n, cs[j].bs.length = n := ⟨_, rfl⟩
      rw [hn] at hok1 hpe c1
      have hpn : p + n ≤ s.size := by rw [← hss]; omega
      have HO1 := Lib.hid hok1
      have hAl : ∀ M : List UInt8, ∀ N, out ++ (M ++ N) = A → out.length + M.length ≤ 140737488355328 := fun M N e => by
        have := congrArg List.length e
        rw [List.length_append, List.length_append] at this
        omega
      have HAL := Lib.hid hAl
      have HC0 := Lib.hid c0
      have HC1 := Lib.hid c1
      have HBAD := Lib.hid hbad
      cases hok : cs[j].ok with
      | true =>
        rw [hok] at hout c3
        have HEX := Lib.hid (show (s.extract p (p + n)).data.toList = part s.data.toList p (p + n) by
          simp [part, List.drop_take])
        have HE := Lib.hid (show out ++ (part s.data.toList p (p + n) ++ mendC t.data.toList (badAt cs (j + 1)) (cs.drop (j + 1))) = A by rw [HBAD.out, hok]; have := hout; rw [if_pos rfl, HO1.out] at this; exact this)
        have hlen : out.length + (s.extract p (p + n)).size ≤ 140737488355328 := by
          have h1 : (s.extract p (p + n)).size = (s.extract p (p + n)).data.toList.length := rfl
          rw [h1, HEX.out]
          exact HAL.out _ _ HE.out
        clear hj hx hg hout hok1 hpe hbad hok hAl HAL c0 c1 HO1 hp hn
        go_upto_region 7 with fail
        refine (wpIn_wide (n := 1)).1 ?_
        refine wpIn_region_mono (by kernel_rfl) [23, 24, 25, 26, 27, 28, 29, 30, 31, 32, 33, 34, 35, 36, 37, 38, 39, 40, 41] (by decide) (by kernel_rfl) (by decide) (by simp) (by kernel_rfl) (by kernel_rfl)
          (fun i => match i with | 0 => (fun v _ => v = bv) | 1 => (fun v _ => v = .string s) | 2 => (fun v _ => v = .slice (some ⟨b, o, none⟩) cs.length c) | 3 => (fun v _ => v = .int .i64 (j : Int)) | 4 => (fun v _ => v = .pointer (some ⟨b, o + j * 4, none⟩)) | 5 => (fun v _ => v = .pointer (some ⟨b, o + j * 4, none⟩)) | 6 => (fun v _ => v = .int .i64 (p : Int)) | 7 => (fun v _ => v = .slice (some ⟨b, o, none⟩) cs.length c) | 8 => (fun v _ => v = .int .i64 (j : Int)) | 9 => (fun v _ => v = .pointer (some ⟨b, o + j * 4, none⟩)) | 10 => (fun v _ => v = .pointer (some ⟨b, o + j * 4, none⟩)) | 11 => (fun v _ => v = .int .i64 (p : Int)) | 12 => (fun v _ => v = .slice (some ⟨b, o, none⟩) cs.length c) | 13 => (fun v _ => v = .int .i64 (j : Int)) | 14 => (fun v _ => v = .pointer (some ⟨b, o + j * 4, none⟩)) | 15 => (fun v _ => v = .pointer (some ⟨b, o + j * 4 + 1, none⟩)) | 16 => (fun v _ => v = .int .i64 (n : Int)) | 17 => (fun v _ => v = .int .i64 ((p : Int) + (n : Int))) | 18 => (fun v _ => v = .string (s.extract p (p + n))) | _ => fun _ _ => True) ?stable ?steps ?fin
        case stable =>
          intro i v w' w'' h x
          match i, h with
          | 0, h => exact h
          | 1, h => exact h
          | 2, h => exact h
          | 3, h => exact h
          | 4, h => exact h
          | 5, h => exact h
          | 6, h => exact h
          | 7, h => exact h
          | 8, h => exact h
          | 9, h => exact h
          | 10, h => exact h
          | 11, h => exact h
          | 12, h => exact h
          | 13, h => exact h
          | 14, h => exact h
          | 15, h => exact h
          | 16, h => exact h
          | 17, h => exact h
          | 18, h => exact h
          | _ + 19, _ => trivial
        case steps =>
          refine AllSteps.cons (fun us hus w' x h => ?_) ?_
          · obtain ⟨u0, t0, e0, s0⟩ := len_cons hus; obtain ⟨u1, t1, e1, s1⟩ := len_cons s0; obtain ⟨u2, t2, e2, s2⟩ := len_cons s1; obtain ⟨u3, t3, e3, s3⟩ := len_cons s2; obtain ⟨u4, t4, e4, s4⟩ := len_cons s3; obtain ⟨u5, t5, e5, s5⟩ := len_cons s4; obtain ⟨u6, t6, e6, s6⟩ := len_cons s5; obtain ⟨u7, t7, e7, s7⟩ := len_cons s6; obtain ⟨u8, t8, e8, s8⟩ := len_cons s7; obtain ⟨u9, t9, e9, s9⟩ := len_cons s8; obtain ⟨u10, t10, e10, s10⟩ := len_cons s9; obtain ⟨u11, t11, e11, s11⟩ := len_cons s10; obtain ⟨u12, t12, e12, s12⟩ := len_cons s11; obtain ⟨u13, t13, e13, s13⟩ := len_cons s12; obtain ⟨u14, t14, e14, s14⟩ := len_cons s13; obtain ⟨u15, t15, e15, s15⟩ := len_cons s14; obtain ⟨u16, t16, e16, s16⟩ := len_cons s15; obtain ⟨u17, t17, e17, s17⟩ := len_cons s16; obtain ⟨u18, t18, e18, s18⟩ := len_cons s17
            obtain rfl := len_nil s18
            clear hus s0 s1 s2 s3 s4 s5 s6 s7 s8 s9 s10 s11 s12 s13 s14 s15 s16 s17 s18
            subst e18 e17 e16 e15 e14 e13 e12 e11 e10 e9 e8 e7 e6 e5 e4 e3 e2 e1 e0
            clear h
            simp only [over, Act.put, List.setIfInBounds_toArray, List.set_cons_zero, List.set_cons_succ]
            gi_wp2
            exact postK_normal ⟨_, rfl, rfl, Ext.refl _⟩
          refine AllSteps.cons (fun us hus w' x h => ?_) ?_
          · obtain ⟨u0, t0, e0, s0⟩ := len_cons hus; obtain ⟨u1, t1, e1, s1⟩ := len_cons s0; obtain ⟨u2, t2, e2, s2⟩ := len_cons s1; obtain ⟨u3, t3, e3, s3⟩ := len_cons s2; obtain ⟨u4, t4, e4, s4⟩ := len_cons s3; obtain ⟨u5, t5, e5, s5⟩ := len_cons s4; obtain ⟨u6, t6, e6, s6⟩ := len_cons s5; obtain ⟨u7, t7, e7, s7⟩ := len_cons s6; obtain ⟨u8, t8, e8, s8⟩ := len_cons s7; obtain ⟨u9, t9, e9, s9⟩ := len_cons s8; obtain ⟨u10, t10, e10, s10⟩ := len_cons s9; obtain ⟨u11, t11, e11, s11⟩ := len_cons s10; obtain ⟨u12, t12, e12, s12⟩ := len_cons s11; obtain ⟨u13, t13, e13, s13⟩ := len_cons s12; obtain ⟨u14, t14, e14, s14⟩ := len_cons s13; obtain ⟨u15, t15, e15, s15⟩ := len_cons s14; obtain ⟨u16, t16, e16, s16⟩ := len_cons s15; obtain ⟨u17, t17, e17, s17⟩ := len_cons s16; obtain ⟨u18, t18, e18, s18⟩ := len_cons s17
            obtain rfl := len_nil s18
            clear hus s0 s1 s2 s3 s4 s5 s6 s7 s8 s9 s10 s11 s12 s13 s14 s15 s16 s17 s18
            subst e18 e17 e16 e15 e14 e13 e12 e11 e10 e9 e8 e7 e6 e5 e4 e3 e2 e1 e0
            clear h
            simp only [over, Act.put, List.setIfInBounds_toArray, List.set_cons_zero, List.set_cons_succ]
            gi_wp2
            exact postK_normal ⟨_, rfl, rfl, Ext.refl _⟩
          refine AllSteps.cons (fun us hus w' x h => ?_) ?_
          · obtain ⟨u0, t0, e0, s0⟩ := len_cons hus; obtain ⟨u1, t1, e1, s1⟩ := len_cons s0; obtain ⟨u2, t2, e2, s2⟩ := len_cons s1; obtain ⟨u3, t3, e3, s3⟩ := len_cons s2; obtain ⟨u4, t4, e4, s4⟩ := len_cons s3; obtain ⟨u5, t5, e5, s5⟩ := len_cons s4; obtain ⟨u6, t6, e6, s6⟩ := len_cons s5; obtain ⟨u7, t7, e7, s7⟩ := len_cons s6; obtain ⟨u8, t8, e8, s8⟩ := len_cons s7; obtain ⟨u9, t9, e9, s9⟩ := len_cons s8; obtain ⟨u10, t10, e10, s10⟩ := len_cons s9; obtain ⟨u11, t11, e11, s11⟩ := len_cons s10; obtain ⟨u12, t12, e12, s12⟩ := len_cons s11; obtain ⟨u13, t13, e13, s13⟩ := len_cons s12; obtain ⟨u14, t14, e14, s14⟩ := len_cons s13; obtain ⟨u15, t15, e15, s15⟩ := len_cons s14; obtain ⟨u16, t16, e16, s16⟩ := len_cons s15; obtain ⟨u17, t17, e17, s17⟩ := len_cons s16; obtain ⟨u18, t18, e18, s18⟩ := len_cons s17
            obtain rfl := len_nil s18
            clear hus s0 s1 s2 s3 s4 s5 s6 s7 s8 s9 s10 s11 s12 s13 s14 s15 s16 s17 s18
            subst e18 e17 e16 e15 e14 e13 e12 e11 e10 e9 e8 e7 e6 e5 e4 e3 e2 e1 e0
            clear h
            simp only [over, Act.put, List.setIfInBounds_toArray, List.set_cons_zero, List.set_cons_succ]
            gi_wp2
            exact postK_normal ⟨_, rfl, rfl, Ext.refl _⟩
          refine AllSteps.cons (fun us hus w' x h => ?_) ?_
          · obtain ⟨u0, t0, e0, s0⟩ := len_cons hus; obtain ⟨u1, t1, e1, s1⟩ := len_cons s0; obtain ⟨u2, t2, e2, s2⟩ := len_cons s1; obtain ⟨u3, t3, e3, s3⟩ := len_cons s2; obtain ⟨u4, t4, e4, s4⟩ := len_cons s3; obtain ⟨u5, t5, e5, s5⟩ := len_cons s4; obtain ⟨u6, t6, e6, s6⟩ := len_cons s5; obtain ⟨u7, t7, e7, s7⟩ := len_cons s6; obtain ⟨u8, t8, e8, s8⟩ := len_cons s7; obtain ⟨u9, t9, e9, s9⟩ := len_cons s8; obtain ⟨u10, t10, e10, s10⟩ := len_cons s9; obtain ⟨u11, t11, e11, s11⟩ := len_cons s10; obtain ⟨u12, t12, e12, s12⟩ := len_cons s11; obtain ⟨u13, t13, e13, s13⟩ := len_cons s12; obtain ⟨u14, t14, e14, s14⟩ := len_cons s13; obtain ⟨u15, t15, e15, s15⟩ := len_cons s14; obtain ⟨u16, t16, e16, s16⟩ := len_cons s15; obtain ⟨u17, t17, e17, s17⟩ := len_cons s16; obtain ⟨u18, t18, e18, s18⟩ := len_cons s17
            obtain rfl := len_nil s18
            clear hus s0 s1 s2 s3 s4 s5 s6 s7 s8 s9 s10 s11 s12 s13 s14 s15 s16 s17 s18
            subst e18 e17 e16 e15 e14 e13 e12 e11 e10 e9 e8 e7 e6 e5 e4 e3 e2 e1 e0
            clear h
            simp only [over, Act.put, List.setIfInBounds_toArray, List.set_cons_zero, List.set_cons_succ]
            gi_wp2
            exact postK_normal ⟨_, rfl, rfl, Ext.refl _⟩
          refine AllSteps.cons (fun us hus w' x h => ?_) ?_
          · obtain ⟨u0, t0, e0, s0⟩ := len_cons hus; obtain ⟨u1, t1, e1, s1⟩ := len_cons s0; obtain ⟨u2, t2, e2, s2⟩ := len_cons s1; obtain ⟨u3, t3, e3, s3⟩ := len_cons s2; obtain ⟨u4, t4, e4, s4⟩ := len_cons s3; obtain ⟨u5, t5, e5, s5⟩ := len_cons s4; obtain ⟨u6, t6, e6, s6⟩ := len_cons s5; obtain ⟨u7, t7, e7, s7⟩ := len_cons s6; obtain ⟨u8, t8, e8, s8⟩ := len_cons s7; obtain ⟨u9, t9, e9, s9⟩ := len_cons s8; obtain ⟨u10, t10, e10, s10⟩ := len_cons s9; obtain ⟨u11, t11, e11, s11⟩ := len_cons s10; obtain ⟨u12, t12, e12, s12⟩ := len_cons s11; obtain ⟨u13, t13, e13, s13⟩ := len_cons s12; obtain ⟨u14, t14, e14, s14⟩ := len_cons s13; obtain ⟨u15, t15, e15, s15⟩ := len_cons s14; obtain ⟨u16, t16, e16, s16⟩ := len_cons s15; obtain ⟨u17, t17, e17, s17⟩ := len_cons s16; obtain ⟨u18, t18, e18, s18⟩ := len_cons s17
            obtain rfl := len_nil s18
            clear hus s0 s1 s2 s3 s4 s5 s6 s7 s8 s9 s10 s11 s12 s13 s14 s15 s16 s17 s18
            subst e18 e17 e16 e15 e14 e13 e12 e11 e10 e9 e8 e7 e6 e5 e4 e3 e2 e1 e0
            have h2 : u2 = .slice (some ⟨b, o, none⟩) cs.length c := h 2 (by kernel_rfl)
            have h3 : u3 = .int .i64 (j : Int) := h 3 (by kernel_rfl)
            clear h
            subst h2 h3
            simp only [over, Act.put, List.setIfInBounds_toArray, List.set_cons_zero, List.set_cons_succ]
            gi_wp2
            exact postK_normal ⟨_, rfl, rfl, Ext.refl _⟩
          refine AllSteps.cons (fun us hus w' x h => ?_) ?_
          · obtain ⟨u0, t0, e0, s0⟩ := len_cons hus; obtain ⟨u1, t1, e1, s1⟩ := len_cons s0; obtain ⟨u2, t2, e2, s2⟩ := len_cons s1; obtain ⟨u3, t3, e3, s3⟩ := len_cons s2; obtain ⟨u4, t4, e4, s4⟩ := len_cons s3; obtain ⟨u5, t5, e5, s5⟩ := len_cons s4; obtain ⟨u6, t6, e6, s6⟩ := len_cons s5; obtain ⟨u7, t7, e7, s7⟩ := len_cons s6; obtain ⟨u8, t8, e8, s8⟩ := len_cons s7; obtain ⟨u9, t9, e9, s9⟩ := len_cons s8; obtain ⟨u10, t10, e10, s10⟩ := len_cons s9; obtain ⟨u11, t11, e11, s11⟩ := len_cons s10; obtain ⟨u12, t12, e12, s12⟩ := len_cons s11; obtain ⟨u13, t13, e13, s13⟩ := len_cons s12; obtain ⟨u14, t14, e14, s14⟩ := len_cons s13; obtain ⟨u15, t15, e15, s15⟩ := len_cons s14; obtain ⟨u16, t16, e16, s16⟩ := len_cons s15; obtain ⟨u17, t17, e17, s17⟩ := len_cons s16; obtain ⟨u18, t18, e18, s18⟩ := len_cons s17
            obtain rfl := len_nil s18
            clear hus s0 s1 s2 s3 s4 s5 s6 s7 s8 s9 s10 s11 s12 s13 s14 s15 s16 s17 s18
            subst e18 e17 e16 e15 e14 e13 e12 e11 e10 e9 e8 e7 e6 e5 e4 e3 e2 e1 e0
            have h4 : u4 = .pointer (some ⟨b, o + j * 4, none⟩) := h 4 (by kernel_rfl)
            clear h
            subst h4
            simp only [over, Act.put, List.setIfInBounds_toArray, List.set_cons_zero, List.set_cons_succ]
            gi_wp2
            exact postK_normal ⟨_, rfl, rfl, Ext.refl _⟩
          refine AllSteps.cons (fun us hus w' x h => ?_) ?_
          · obtain ⟨u0, t0, e0, s0⟩ := len_cons hus; obtain ⟨u1, t1, e1, s1⟩ := len_cons s0; obtain ⟨u2, t2, e2, s2⟩ := len_cons s1; obtain ⟨u3, t3, e3, s3⟩ := len_cons s2; obtain ⟨u4, t4, e4, s4⟩ := len_cons s3; obtain ⟨u5, t5, e5, s5⟩ := len_cons s4; obtain ⟨u6, t6, e6, s6⟩ := len_cons s5; obtain ⟨u7, t7, e7, s7⟩ := len_cons s6; obtain ⟨u8, t8, e8, s8⟩ := len_cons s7; obtain ⟨u9, t9, e9, s9⟩ := len_cons s8; obtain ⟨u10, t10, e10, s10⟩ := len_cons s9; obtain ⟨u11, t11, e11, s11⟩ := len_cons s10; obtain ⟨u12, t12, e12, s12⟩ := len_cons s11; obtain ⟨u13, t13, e13, s13⟩ := len_cons s12; obtain ⟨u14, t14, e14, s14⟩ := len_cons s13; obtain ⟨u15, t15, e15, s15⟩ := len_cons s14; obtain ⟨u16, t16, e16, s16⟩ := len_cons s15; obtain ⟨u17, t17, e17, s17⟩ := len_cons s16; obtain ⟨u18, t18, e18, s18⟩ := len_cons s17
            obtain rfl := len_nil s18
            clear hus s0 s1 s2 s3 s4 s5 s6 s7 s8 s9 s10 s11 s12 s13 s14 s15 s16 s17 s18
            subst e18 e17 e16 e15 e14 e13 e12 e11 e10 e9 e8 e7 e6 e5 e4 e3 e2 e1 e0
            have h5 : u5 = .pointer (some ⟨b, o + j * 4, none⟩) := h 5 (by kernel_rfl)
            clear h
            subst h5
            simp only [over, Act.put, List.setIfInBounds_toArray, List.set_cons_zero, List.set_cons_succ]
            have d0 := x.cell HC0.out
            gi_wp2
            exact postK_normal ⟨_, rfl, rfl, Ext.refl _⟩
          refine AllSteps.cons (fun us hus w' x h => ?_) ?_
          · obtain ⟨u0, t0, e0, s0⟩ := len_cons hus; obtain ⟨u1, t1, e1, s1⟩ := len_cons s0; obtain ⟨u2, t2, e2, s2⟩ := len_cons s1; obtain ⟨u3, t3, e3, s3⟩ := len_cons s2; obtain ⟨u4, t4, e4, s4⟩ := len_cons s3; obtain ⟨u5, t5, e5, s5⟩ := len_cons s4; obtain ⟨u6, t6, e6, s6⟩ := len_cons s5; obtain ⟨u7, t7, e7, s7⟩ := len_cons s6; obtain ⟨u8, t8, e8, s8⟩ := len_cons s7; obtain ⟨u9, t9, e9, s9⟩ := len_cons s8; obtain ⟨u10, t10, e10, s10⟩ := len_cons s9; obtain ⟨u11, t11, e11, s11⟩ := len_cons s10; obtain ⟨u12, t12, e12, s12⟩ := len_cons s11; obtain ⟨u13, t13, e13, s13⟩ := len_cons s12; obtain ⟨u14, t14, e14, s14⟩ := len_cons s13; obtain ⟨u15, t15, e15, s15⟩ := len_cons s14; obtain ⟨u16, t16, e16, s16⟩ := len_cons s15; obtain ⟨u17, t17, e17, s17⟩ := len_cons s16; obtain ⟨u18, t18, e18, s18⟩ := len_cons s17
            obtain rfl := len_nil s18
            clear hus s0 s1 s2 s3 s4 s5 s6 s7 s8 s9 s10 s11 s12 s13 s14 s15 s16 s17 s18
            subst e18 e17 e16 e15 e14 e13 e12 e11 e10 e9 e8 e7 e6 e5 e4 e3 e2 e1 e0
            clear h
            simp only [over, Act.put, List.setIfInBounds_toArray, List.set_cons_zero, List.set_cons_succ]
            gi_wp2
            exact postK_normal ⟨_, rfl, rfl, Ext.refl _⟩
          refine AllSteps.cons (fun us hus w' x h => ?_) ?_
          · obtain ⟨u0, t0, e0, s0⟩ := len_cons hus; obtain ⟨u1, t1, e1, s1⟩ := len_cons s0; obtain ⟨u2, t2, e2, s2⟩ := len_cons s1; obtain ⟨u3, t3, e3, s3⟩ := len_cons s2; obtain ⟨u4, t4, e4, s4⟩ := len_cons s3; obtain ⟨u5, t5, e5, s5⟩ := len_cons s4; obtain ⟨u6, t6, e6, s6⟩ := len_cons s5; obtain ⟨u7, t7, e7, s7⟩ := len_cons s6; obtain ⟨u8, t8, e8, s8⟩ := len_cons s7; obtain ⟨u9, t9, e9, s9⟩ := len_cons s8; obtain ⟨u10, t10, e10, s10⟩ := len_cons s9; obtain ⟨u11, t11, e11, s11⟩ := len_cons s10; obtain ⟨u12, t12, e12, s12⟩ := len_cons s11; obtain ⟨u13, t13, e13, s13⟩ := len_cons s12; obtain ⟨u14, t14, e14, s14⟩ := len_cons s13; obtain ⟨u15, t15, e15, s15⟩ := len_cons s14; obtain ⟨u16, t16, e16, s16⟩ := len_cons s15; obtain ⟨u17, t17, e17, s17⟩ := len_cons s16; obtain ⟨u18, t18, e18, s18⟩ := len_cons s17
            obtain rfl := len_nil s18
            clear hus s0 s1 s2 s3 s4 s5 s6 s7 s8 s9 s10 s11 s12 s13 s14 s15 s16 s17 s18
            subst e18 e17 e16 e15 e14 e13 e12 e11 e10 e9 e8 e7 e6 e5 e4 e3 e2 e1 e0
            clear h
            simp only [over, Act.put, List.setIfInBounds_toArray, List.set_cons_zero, List.set_cons_succ]
            gi_wp2
            exact postK_normal ⟨_, rfl, rfl, Ext.refl _⟩
          refine AllSteps.cons (fun us hus w' x h => ?_) ?_
          · obtain ⟨u0, t0, e0, s0⟩ := len_cons hus; obtain ⟨u1, t1, e1, s1⟩ := len_cons s0; obtain ⟨u2, t2, e2, s2⟩ := len_cons s1; obtain ⟨u3, t3, e3, s3⟩ := len_cons s2; obtain ⟨u4, t4, e4, s4⟩ := len_cons s3; obtain ⟨u5, t5, e5, s5⟩ := len_cons s4; obtain ⟨u6, t6, e6, s6⟩ := len_cons s5; obtain ⟨u7, t7, e7, s7⟩ := len_cons s6; obtain ⟨u8, t8, e8, s8⟩ := len_cons s7; obtain ⟨u9, t9, e9, s9⟩ := len_cons s8; obtain ⟨u10, t10, e10, s10⟩ := len_cons s9; obtain ⟨u11, t11, e11, s11⟩ := len_cons s10; obtain ⟨u12, t12, e12, s12⟩ := len_cons s11; obtain ⟨u13, t13, e13, s13⟩ := len_cons s12; obtain ⟨u14, t14, e14, s14⟩ := len_cons s13; obtain ⟨u15, t15, e15, s15⟩ := len_cons s14; obtain ⟨u16, t16, e16, s16⟩ := len_cons s15; obtain ⟨u17, t17, e17, s17⟩ := len_cons s16; obtain ⟨u18, t18, e18, s18⟩ := len_cons s17
            obtain rfl := len_nil s18
            clear hus s0 s1 s2 s3 s4 s5 s6 s7 s8 s9 s10 s11 s12 s13 s14 s15 s16 s17 s18
            subst e18 e17 e16 e15 e14 e13 e12 e11 e10 e9 e8 e7 e6 e5 e4 e3 e2 e1 e0
            have h7 : u7 = .slice (some ⟨b, o, none⟩) cs.length c := h 7 (by kernel_rfl)
            have h8 : u8 = .int .i64 (j : Int) := h 8 (by kernel_rfl)
            clear h
            subst h7 h8
            simp only [over, Act.put, List.setIfInBounds_toArray, List.set_cons_zero, List.set_cons_succ]
            gi_wp2
            exact postK_normal ⟨_, rfl, rfl, Ext.refl _⟩
          refine AllSteps.cons (fun us hus w' x h => ?_) ?_
          · obtain ⟨u0, t0, e0, s0⟩ := len_cons hus; obtain ⟨u1, t1, e1, s1⟩ := len_cons s0; obtain ⟨u2, t2, e2, s2⟩ := len_cons s1; obtain ⟨u3, t3, e3, s3⟩ := len_cons s2; obtain ⟨u4, t4, e4, s4⟩ := len_cons s3; obtain ⟨u5, t5, e5, s5⟩ := len_cons s4; obtain ⟨u6, t6, e6, s6⟩ := len_cons s5; obtain ⟨u7, t7, e7, s7⟩ := len_cons s6; obtain ⟨u8, t8, e8, s8⟩ := len_cons s7; obtain ⟨u9, t9, e9, s9⟩ := len_cons s8; obtain ⟨u10, t10, e10, s10⟩ := len_cons s9; obtain ⟨u11, t11, e11, s11⟩ := len_cons s10; obtain ⟨u12, t12, e12, s12⟩ := len_cons s11; obtain ⟨u13, t13, e13, s13⟩ := len_cons s12; obtain ⟨u14, t14, e14, s14⟩ := len_cons s13; obtain ⟨u15, t15, e15, s15⟩ := len_cons s14; obtain ⟨u16, t16, e16, s16⟩ := len_cons s15; obtain ⟨u17, t17, e17, s17⟩ := len_cons s16; obtain ⟨u18, t18, e18, s18⟩ := len_cons s17
            obtain rfl := len_nil s18
            clear hus s0 s1 s2 s3 s4 s5 s6 s7 s8 s9 s10 s11 s12 s13 s14 s15 s16 s17 s18
            subst e18 e17 e16 e15 e14 e13 e12 e11 e10 e9 e8 e7 e6 e5 e4 e3 e2 e1 e0
            have h9 : u9 = .pointer (some ⟨b, o + j * 4, none⟩) := h 9 (by kernel_rfl)
            clear h
            subst h9
            simp only [over, Act.put, List.setIfInBounds_toArray, List.set_cons_zero, List.set_cons_succ]
            gi_wp2
            exact postK_normal ⟨_, rfl, rfl, Ext.refl _⟩
          refine AllSteps.cons (fun us hus w' x h => ?_) ?_
          · obtain ⟨u0, t0, e0, s0⟩ := len_cons hus; obtain ⟨u1, t1, e1, s1⟩ := len_cons s0; obtain ⟨u2, t2, e2, s2⟩ := len_cons s1; obtain ⟨u3, t3, e3, s3⟩ := len_cons s2; obtain ⟨u4, t4, e4, s4⟩ := len_cons s3; obtain ⟨u5, t5, e5, s5⟩ := len_cons s4; obtain ⟨u6, t6, e6, s6⟩ := len_cons s5; obtain ⟨u7, t7, e7, s7⟩ := len_cons s6; obtain ⟨u8, t8, e8, s8⟩ := len_cons s7; obtain ⟨u9, t9, e9, s9⟩ := len_cons s8; obtain ⟨u10, t10, e10, s10⟩ := len_cons s9; obtain ⟨u11, t11, e11, s11⟩ := len_cons s10; obtain ⟨u12, t12, e12, s12⟩ := len_cons s11; obtain ⟨u13, t13, e13, s13⟩ := len_cons s12; obtain ⟨u14, t14, e14, s14⟩ := len_cons s13; obtain ⟨u15, t15, e15, s15⟩ := len_cons s14; obtain ⟨u16, t16, e16, s16⟩ := len_cons s15; obtain ⟨u17, t17, e17, s17⟩ := len_cons s16; obtain ⟨u18, t18, e18, s18⟩ := len_cons s17
            obtain rfl := len_nil s18
            clear hus s0 s1 s2 s3 s4 s5 s6 s7 s8 s9 s10 s11 s12 s13 s14 s15 s16 s17 s18
            subst e18 e17 e16 e15 e14 e13 e12 e11 e10 e9 e8 e7 e6 e5 e4 e3 e2 e1 e0
            have h10 : u10 = .pointer (some ⟨b, o + j * 4, none⟩) := h 10 (by kernel_rfl)
            clear h
            subst h10
            simp only [over, Act.put, List.setIfInBounds_toArray, List.set_cons_zero, List.set_cons_succ]
            have d0 := x.cell HC0.out
            gi_wp2
            exact postK_normal ⟨_, rfl, rfl, Ext.refl _⟩
          refine AllSteps.cons (fun us hus w' x h => ?_) ?_
          · obtain ⟨u0, t0, e0, s0⟩ := len_cons hus; obtain ⟨u1, t1, e1, s1⟩ := len_cons s0; obtain ⟨u2, t2, e2, s2⟩ := len_cons s1; obtain ⟨u3, t3, e3, s3⟩ := len_cons s2; obtain ⟨u4, t4, e4, s4⟩ := len_cons s3; obtain ⟨u5, t5, e5, s5⟩ := len_cons s4; obtain ⟨u6, t6, e6, s6⟩ := len_cons s5; obtain ⟨u7, t7, e7, s7⟩ := len_cons s6; obtain ⟨u8, t8, e8, s8⟩ := len_cons s7; obtain ⟨u9, t9, e9, s9⟩ := len_cons s8; obtain ⟨u10, t10, e10, s10⟩ := len_cons s9; obtain ⟨u11, t11, e11, s11⟩ := len_cons s10; obtain ⟨u12, t12, e12, s12⟩ := len_cons s11; obtain ⟨u13, t13, e13, s13⟩ := len_cons s12; obtain ⟨u14, t14, e14, s14⟩ := len_cons s13; obtain ⟨u15, t15, e15, s15⟩ := len_cons s14; obtain ⟨u16, t16, e16, s16⟩ := len_cons s15; obtain ⟨u17, t17, e17, s17⟩ := len_cons s16; obtain ⟨u18, t18, e18, s18⟩ := len_cons s17
            obtain rfl := len_nil s18
            clear hus s0 s1 s2 s3 s4 s5 s6 s7 s8 s9 s10 s11 s12 s13 s14 s15 s16 s17 s18
            subst e18 e17 e16 e15 e14 e13 e12 e11 e10 e9 e8 e7 e6 e5 e4 e3 e2 e1 e0
            clear h
            simp only [over, Act.put, List.setIfInBounds_toArray, List.set_cons_zero, List.set_cons_succ]
            gi_wp2
            exact postK_normal ⟨_, rfl, rfl, Ext.refl _⟩
          refine AllSteps.cons (fun us hus w' x h => ?_) ?_
          · obtain ⟨u0, t0, e0, s0⟩ := len_cons hus; obtain ⟨u1, t1, e1, s1⟩ := len_cons s0; obtain ⟨u2, t2, e2, s2⟩ := len_cons s1; obtain ⟨u3, t3, e3, s3⟩ := len_cons s2; obtain ⟨u4, t4, e4, s4⟩ := len_cons s3; obtain ⟨u5, t5, e5, s5⟩ := len_cons s4; obtain ⟨u6, t6, e6, s6⟩ := len_cons s5; obtain ⟨u7, t7, e7, s7⟩ := len_cons s6; obtain ⟨u8, t8, e8, s8⟩ := len_cons s7; obtain ⟨u9, t9, e9, s9⟩ := len_cons s8; obtain ⟨u10, t10, e10, s10⟩ := len_cons s9; obtain ⟨u11, t11, e11, s11⟩ := len_cons s10; obtain ⟨u12, t12, e12, s12⟩ := len_cons s11; obtain ⟨u13, t13, e13, s13⟩ := len_cons s12; obtain ⟨u14, t14, e14, s14⟩ := len_cons s13; obtain ⟨u15, t15, e15, s15⟩ := len_cons s14; obtain ⟨u16, t16, e16, s16⟩ := len_cons s15; obtain ⟨u17, t17, e17, s17⟩ := len_cons s16; obtain ⟨u18, t18, e18, s18⟩ := len_cons s17
            obtain rfl := len_nil s18
            clear hus s0 s1 s2 s3 s4 s5 s6 s7 s8 s9 s10 s11 s12 s13 s14 s15 s16 s17 s18
            subst e18 e17 e16 e15 e14 e13 e12 e11 e10 e9 e8 e7 e6 e5 e4 e3 e2 e1 e0
            clear h
            simp only [over, Act.put, List.setIfInBounds_toArray, List.set_cons_zero, List.set_cons_succ]
            gi_wp2
            exact postK_normal ⟨_, rfl, rfl, Ext.refl _⟩
          refine AllSteps.cons (fun us hus w' x h => ?_) ?_
          · obtain ⟨u0, t0, e0, s0⟩ := len_cons hus; obtain ⟨u1, t1, e1, s1⟩ := len_cons s0; obtain ⟨u2, t2, e2, s2⟩ := len_cons s1; obtain ⟨u3, t3, e3, s3⟩ := len_cons s2; obtain ⟨u4, t4, e4, s4⟩ := len_cons s3; obtain ⟨u5, t5, e5, s5⟩ := len_cons s4; obtain ⟨u6, t6, e6, s6⟩ := len_cons s5; obtain ⟨u7, t7, e7, s7⟩ := len_cons s6; obtain ⟨u8, t8, e8, s8⟩ := len_cons s7; obtain ⟨u9, t9, e9, s9⟩ := len_cons s8; obtain ⟨u10, t10, e10, s10⟩ := len_cons s9; obtain ⟨u11, t11, e11, s11⟩ := len_cons s10; obtain ⟨u12, t12, e12, s12⟩ := len_cons s11; obtain ⟨u13, t13, e13, s13⟩ := len_cons s12; obtain ⟨u14, t14, e14, s14⟩ := len_cons s13; obtain ⟨u15, t15, e15, s15⟩ := len_cons s14; obtain ⟨u16, t16, e16, s16⟩ := len_cons s15; obtain ⟨u17, t17, e17, s17⟩ := len_cons s16; obtain ⟨u18, t18, e18, s18⟩ := len_cons s17
            obtain rfl := len_nil s18
            clear hus s0 s1 s2 s3 s4 s5 s6 s7 s8 s9 s10 s11 s12 s13 s14 s15 s16 s17 s18
            subst e18 e17 e16 e15 e14 e13 e12 e11 e10 e9 e8 e7 e6 e5 e4 e3 e2 e1 e0
            have h12 : u12 = .slice (some ⟨b, o, none⟩) cs.length c := h 12 (by kernel_rfl)
            have h13 : u13 = .int .i64 (j : Int) := h 13 (by kernel_rfl)
            clear h
            subst h12 h13
            simp only [over, Act.put, List.setIfInBounds_toArray, List.set_cons_zero, List.set_cons_succ]
            gi_wp2
            exact postK_normal ⟨_, rfl, rfl, Ext.refl _⟩
          refine AllSteps.cons (fun us hus w' x h => ?_) ?_
          · obtain ⟨u0, t0, e0, s0⟩ := len_cons hus; obtain ⟨u1, t1, e1, s1⟩ := len_cons s0; obtain ⟨u2, t2, e2, s2⟩ := len_cons s1; obtain ⟨u3, t3, e3, s3⟩ := len_cons s2; obtain ⟨u4, t4, e4, s4⟩ := len_cons s3; obtain ⟨u5, t5, e5, s5⟩ := len_cons s4; obtain ⟨u6, t6, e6, s6⟩ := len_cons s5; obtain ⟨u7, t7, e7, s7⟩ := len_cons s6; obtain ⟨u8, t8, e8, s8⟩ := len_cons s7; obtain ⟨u9, t9, e9, s9⟩ := len_cons s8; obtain ⟨u10, t10, e10, s10⟩ := len_cons s9; obtain ⟨u11, t11, e11, s11⟩ := len_cons s10; obtain ⟨u12, t12, e12, s12⟩ := len_cons s11; obtain ⟨u13, t13, e13, s13⟩ := len_cons s12; obtain ⟨u14, t14, e14, s14⟩ := len_cons s13; obtain ⟨u15, t15, e15, s15⟩ := len_cons s14; obtain ⟨u16, t16, e16, s16⟩ := len_cons s15; obtain ⟨u17, t17, e17, s17⟩ := len_cons s16; obtain ⟨u18, t18, e18, s18⟩ := len_cons s17
            obtain rfl := len_nil s18
            clear hus s0 s1 s2 s3 s4 s5 s6 s7 s8 s9 s10 s11 s12 s13 s14 s15 s16 s17 s18
            subst e18 e17 e16 e15 e14 e13 e12 e11 e10 e9 e8 e7 e6 e5 e4 e3 e2 e1 e0
            have h14 : u14 = .pointer (some ⟨b, o + j * 4, none⟩) := h 14 (by kernel_rfl)
            clear h
            subst h14
            simp only [over, Act.put, List.setIfInBounds_toArray, List.set_cons_zero, List.set_cons_succ]
            gi_wp2
            exact postK_normal ⟨_, rfl, rfl, Ext.refl _⟩
          refine AllSteps.cons (fun us hus w' x h => ?_) ?_
          · obtain ⟨u0, t0, e0, s0⟩ := len_cons hus; obtain ⟨u1, t1, e1, s1⟩ := len_cons s0; obtain ⟨u2, t2, e2, s2⟩ := len_cons s1; obtain ⟨u3, t3, e3, s3⟩ := len_cons s2; obtain ⟨u4, t4, e4, s4⟩ := len_cons s3; obtain ⟨u5, t5, e5, s5⟩ := len_cons s4; obtain ⟨u6, t6, e6, s6⟩ := len_cons s5; obtain ⟨u7, t7, e7, s7⟩ := len_cons s6; obtain ⟨u8, t8, e8, s8⟩ := len_cons s7; obtain ⟨u9, t9, e9, s9⟩ := len_cons s8; obtain ⟨u10, t10, e10, s10⟩ := len_cons s9; obtain ⟨u11, t11, e11, s11⟩ := len_cons s10; obtain ⟨u12, t12, e12, s12⟩ := len_cons s11; obtain ⟨u13, t13, e13, s13⟩ := len_cons s12; obtain ⟨u14, t14, e14, s14⟩ := len_cons s13; obtain ⟨u15, t15, e15, s15⟩ := len_cons s14; obtain ⟨u16, t16, e16, s16⟩ := len_cons s15; obtain ⟨u17, t17, e17, s17⟩ := len_cons s16; obtain ⟨u18, t18, e18, s18⟩ := len_cons s17
            obtain rfl := len_nil s18
            clear hus s0 s1 s2 s3 s4 s5 s6 s7 s8 s9 s10 s11 s12 s13 s14 s15 s16 s17 s18
            subst e18 e17 e16 e15 e14 e13 e12 e11 e10 e9 e8 e7 e6 e5 e4 e3 e2 e1 e0
            have h15 : u15 = .pointer (some ⟨b, o + j * 4 + 1, none⟩) := h 15 (by kernel_rfl)
            clear h
            subst h15
            simp only [over, Act.put, List.setIfInBounds_toArray, List.set_cons_zero, List.set_cons_succ]
            have d1 := x.cell HC1.out
            gi_wp2
            exact postK_normal ⟨_, rfl, rfl, Ext.refl _⟩
          refine AllSteps.cons (fun us hus w' x h => ?_) ?_
          · obtain ⟨u0, t0, e0, s0⟩ := len_cons hus; obtain ⟨u1, t1, e1, s1⟩ := len_cons s0; obtain ⟨u2, t2, e2, s2⟩ := len_cons s1; obtain ⟨u3, t3, e3, s3⟩ := len_cons s2; obtain ⟨u4, t4, e4, s4⟩ := len_cons s3; obtain ⟨u5, t5, e5, s5⟩ := len_cons s4; obtain ⟨u6, t6, e6, s6⟩ := len_cons s5; obtain ⟨u7, t7, e7, s7⟩ := len_cons s6; obtain ⟨u8, t8, e8, s8⟩ := len_cons s7; obtain ⟨u9, t9, e9, s9⟩ := len_cons s8; obtain ⟨u10, t10, e10, s10⟩ := len_cons s9; obtain ⟨u11, t11, e11, s11⟩ := len_cons s10; obtain ⟨u12, t12, e12, s12⟩ := len_cons s11; obtain ⟨u13, t13, e13, s13⟩ := len_cons s12; obtain ⟨u14, t14, e14, s14⟩ := len_cons s13; obtain ⟨u15, t15, e15, s15⟩ := len_cons s14; obtain ⟨u16, t16, e16, s16⟩ := len_cons s15; obtain ⟨u17, t17, e17, s17⟩ := len_cons s16; obtain ⟨u18, t18, e18, s18⟩ := len_cons s17
            obtain rfl := len_nil s18
            clear hus s0 s1 s2 s3 s4 s5 s6 s7 s8 s9 s10 s11 s12 s13 s14 s15 s16 s17 s18
            subst e18 e17 e16 e15 e14 e13 e12 e11 e10 e9 e8 e7 e6 e5 e4 e3 e2 e1 e0
            have h11 : u11 = .int .i64 (p : Int) := h 11 (by kernel_rfl)
            have h16 : u16 = .int .i64 (n : Int) := h 16 (by kernel_rfl)
            clear h
            subst h11 h16
            simp only [over, Act.put, List.setIfInBounds_toArray, List.set_cons_zero, List.set_cons_succ]
            gi_wp2
            exact postK_normal ⟨_, rfl, rfl, Ext.refl _⟩
          refine AllSteps.cons (fun us hus w' x h => ?_) ?_
          · obtain ⟨u0, t0, e0, s0⟩ := len_cons hus; obtain ⟨u1, t1, e1, s1⟩ := len_cons s0; obtain ⟨u2, t2, e2, s2⟩ := len_cons s1; obtain ⟨u3, t3, e3, s3⟩ := len_cons s2; obtain ⟨u4, t4, e4, s4⟩ := len_cons s3; obtain ⟨u5, t5, e5, s5⟩ := len_cons s4; obtain ⟨u6, t6, e6, s6⟩ := len_cons s5; obtain ⟨u7, t7, e7, s7⟩ := len_cons s6; obtain ⟨u8, t8, e8, s8⟩ := len_cons s7; obtain ⟨u9, t9, e9, s9⟩ := len_cons s8; obtain ⟨u10, t10, e10, s10⟩ := len_cons s9; obtain ⟨u11, t11, e11, s11⟩ := len_cons s10; obtain ⟨u12, t12, e12, s12⟩ := len_cons s11; obtain ⟨u13, t13, e13, s13⟩ := len_cons s12; obtain ⟨u14, t14, e14, s14⟩ := len_cons s13; obtain ⟨u15, t15, e15, s15⟩ := len_cons s14; obtain ⟨u16, t16, e16, s16⟩ := len_cons s15; obtain ⟨u17, t17, e17, s17⟩ := len_cons s16; obtain ⟨u18, t18, e18, s18⟩ := len_cons s17
            obtain rfl := len_nil s18
            clear hus s0 s1 s2 s3 s4 s5 s6 s7 s8 s9 s10 s11 s12 s13 s14 s15 s16 s17 s18
            subst e18 e17 e16 e15 e14 e13 e12 e11 e10 e9 e8 e7 e6 e5 e4 e3 e2 e1 e0
            have h1 : u1 = .string s := h 1 (by kernel_rfl)
            have h6 : u6 = .int .i64 (p : Int) := h 6 (by kernel_rfl)
            have h17 : u17 = .int .i64 ((p : Int) + (n : Int)) := h 17 (by kernel_rfl)
            clear h
            subst h1 h6 h17
            simp only [over, Act.put, List.setIfInBounds_toArray, List.set_cons_zero, List.set_cons_succ]
            gi_wp2
            exact postK_normal ⟨_, rfl, (by go_num), Ext.refl _⟩
          exact AllSteps.nil
        case fin =>
          intro us hus w' xx h
          obtain ⟨u0, t0, e0, s0⟩ := len_cons hus; obtain ⟨u1, t1, e1, s1⟩ := len_cons s0; obtain ⟨u2, t2, e2, s2⟩ := len_cons s1; obtain ⟨u3, t3, e3, s3⟩ := len_cons s2; obtain ⟨u4, t4, e4, s4⟩ := len_cons s3; obtain ⟨u5, t5, e5, s5⟩ := len_cons s4; obtain ⟨u6, t6, e6, s6⟩ := len_cons s5; obtain ⟨u7, t7, e7, s7⟩ := len_cons s6; obtain ⟨u8, t8, e8, s8⟩ := len_cons s7; obtain ⟨u9, t9, e9, s9⟩ := len_cons s8; obtain ⟨u10, t10, e10, s10⟩ := len_cons s9; obtain ⟨u11, t11, e11, s11⟩ := len_cons s10; obtain ⟨u12, t12, e12, s12⟩ := len_cons s11; obtain ⟨u13, t13, e13, s13⟩ := len_cons s12; obtain ⟨u14, t14, e14, s14⟩ := len_cons s13; obtain ⟨u15, t15, e15, s15⟩ := len_cons s14; obtain ⟨u16, t16, e16, s16⟩ := len_cons s15; obtain ⟨u17, t17, e17, s17⟩ := len_cons s16; obtain ⟨u18, t18, e18, s18⟩ := len_cons s17
          obtain rfl := len_nil s18
          clear hus s0 s1 s2 s3 s4 s5 s6 s7 s8 s9 s10 s11 s12 s13 s14 s15 s16 s17 s18
          subst e18 e17 e16 e15 e14 e13 e12 e11 e10 e9 e8 e7 e6 e5 e4 e3 e2 e1 e0
          have h0 : u0 = bv := h 0 (by decide)
          have h18 : u18 = .string (s.extract p (p + n)) := h 18 (by decide)
          clear h
          subst h0 h18
          simp only [over, Act.put, List.setIfInBounds_toArray, List.set_cons_zero, List.set_cons_succ, List.length_cons, List.length_nil, Nat.zero_add, Nat.reduceAdd, List.drop_succ_cons, List.drop_zero]
          have X4 := HX.out.trans xx
          have G4 := HG.out.keep xx
          have P4 := owns_keep HP.out xx
          have hsz4 : w.heap.size ≤ w'.heap.size := X4.size
          gi_at_builtin
          refine wpListIn_appendStr rfl 30 9 _ _ rfl 5 Tryd.underlying30 Tryd.underlying9 info_u8' w.heap.size _ out rfl G4 _ rfl hlen hsz4 ?_
          intro v5 w5 g5 gr5
          have B5 := G4.grown gr5 hsz4 X4.below (Nat.le_refl _)
          have HP5 := Lib.hid (owns_apart G4 P4 (by decide) gr5)
          have HG5 := Lib.hid g5
          have HB5 := Lib.hid B5
          clear g5 gr5 B5 G4 X4 P4
          gi_wp2
          go_wp2_with fail
          go_roundg (gk - 1)
          case measure => omega
          case rel => exact ⟨j + 1, _, by have := HJ.out; omega, by go_num, HG5.out, by rw [List.append_assoc, HEX.out]; exact HE.out, HP5.out, ⟨HB5.out⟩⟩
      | false =>
        rw [hok] at hout c3
        have HE := Lib.hid (show out ++ ((if badAt cs j then [] else t.data.toList) ++ mendC t.data.toList (badAt cs (j + 1)) (cs.drop (j + 1))) = A by rw [HBAD.out, hok]; have := hout; rw [if_neg (by simp)] at this; exact this)
        clear hx hg hout hok1 hpe hbad hok hAl c0 c1 HO1 hp hn hj
        by_cases hj0 : j = 0
        · have HE2 := Lib.hid (show out ++ (t.data.toList ++ mendC t.data.toList (badAt cs (j + 1)) (cs.drop (j + 1))) = A by have := HE.out; rw [show badAt cs j = false by rw [hj0]; rfl] at this; exact this)
          have hlen : out.length + t.size ≤ 140737488355328 := HAL.out _ _ HE2.out
          have hz : ((j : Int) == 0) = true := by simp [hj0]
          clear hj0
          go_wp2_with (refine wpList_appendStr rfl 30 9 _ _ rfl 5 Tryd.underlying30 Tryd.underlying9 info_u8' w.heap.size _ out rfl HG.out _ rfl hlen hsz ?_)
          intro v5 w5 g5 gr5
          have B5 := HG.out.grown gr5 hsz HX.out.below (Nat.le_refl _)
          have HP5 := Lib.hid (owns_apart HG.out HP.out (by decide) gr5)
          have HG5 := Lib.hid g5
          have HB5 := Lib.hid B5
          clear g5 gr5 B5
          go_wp2_with fail
          go_roundg (gk - 1)
          case measure => omega
          case rel => exact ⟨j + 1, _, by have := HJ.out; omega, by go_num, HG5.out, by rw [List.append_assoc]; exact HE2.out, HP5.out, ⟨HB5.out⟩⟩
        · obtain ⟨i, rfl⟩ : ∃ i, j = i + 1 := ⟨j - 1, by omega⟩
          obtain ⟨b', o', eb, _, _, _, d3⟩ := HC.out i (by omega)
          injection eb with eb
          injection eb with e1 e2
          subst e1 e2
          have hz : (((i : Int) + 1) == 0) = false := by simp; omega
          have hb1 : badAt cs (i + 1) = !cs[i].ok := by simp [badAt, List.getD, show i < cs.length by omega]
          cases hok2 : cs[i].ok with
          | true =>
            rw [hok2] at d3 hb1
            have HE2 := Lib.hid (show out ++ (t.data.toList ++ mendC t.data.toList (badAt cs (i + 1 + 1)) (cs.drop (i + 1 + 1))) = A by have := HE.out; rw [hb1] at this; exact this)
            have hlen : out.length + t.size ≤ 140737488355328 := HAL.out _ _ HE2.out
            clear hb1 hok2 hj0
            go_wp2_with (refine wpList_appendStr rfl 30 9 _ _ rfl 5 Tryd.underlying30 Tryd.underlying9 info_u8' w.heap.size _ out rfl HG.out _ rfl hlen hsz ?_)
            intro v5 w5 g5 gr5
            have B5 := HG.out.grown gr5 hsz HX.out.below (Nat.le_refl _)
            have HP5 := Lib.hid (owns_apart HG.out HP.out (by decide) gr5)
            have HG5 := Lib.hid g5
            have HB5 := Lib.hid B5
            clear g5 gr5 B5
            go_wp2_with fail
            go_roundg (gk - 1)
            case measure => omega
            case rel => exact ⟨(i + 1) + 1, _, by have := HJ.out; omega, by go_num, HG5.out, by rw [List.append_assoc]; exact HE2.out, HP5.out, ⟨HB5.out⟩⟩
          | false =>
            rw [hok2] at d3 hb1
            have HE2 := Lib.hid (show out ++ mendC t.data.toList (badAt cs (i + 1 + 1)) (cs.drop (i + 1 + 1)) = A by have := HE.out; rw [hb1] at this; exact this)
            clear hb1 hok2 hj0
            go_wp2_with fail
            go_roundg (gk - 1)
            case measure => omega
            case rel => exact ⟨i + 1 + 1, _, by have := HJ.out; omega, by go_num, HG.out, HE2.out, HP.out, HX.out⟩
    · have hje : j = cs.length := by omega
      have HO := Lib.hid (show out = A by have := hout; rw [hje, List.drop_length, mendC, List.append_nil] at this; exact this)
      have hb := hg.own.bs
      rw [HO.out] at hb
      clear hj hout hg hpo
      go_wp2_with (refine wpList_toString rfl 30 9 _ rfl 5 Tryd.underlying30 Tryd.underlying5 Tryd.underlying9 _ _ rfl hb ?_)
      go_ret
      exact ⟨by rw [HAA.out, HA.out]; rfl, HX.out⟩

set_option maxRecDepth 100000 in
theorem spec_TextToValidUTF8 (s t : ByteArray) (w : World) (hs : s.size ≤ 1099511627776) (hA : (mendB t.data.toList s.data.toList).length ≤ 140737488355328) :
    Calls Tryd.prog 65 #[.string s, .string t] w (RetV (.string ⟨(mendB t.data.toList s.data.toList).toArray⟩) w) := by
  go_enter Tryd.func65, Tryd.ntmps65
  go_wp2_with (go_at_call 90; refine (spec_mended s t w hs hA).mono ?_)
  rintro _ w1 ⟨rfl, x1⟩
  go_wp2_with fail
  go_ret
  exact ⟨rfl, x1⟩

set_option maxRecDepth 100000 in
theorem spec_ToValidUTF8 (v1 v2 : Value) (l r : List UInt8) (w : World) (h1 : Bs w v1 l) (h2 : Bs w v2 r) (hl : l.length ≤ 1099511627776) (hA : (mendB r l).length ≤ 140737488355328) :
    Calls Tryd.prog 31 #[v1, v2] w (RetOwn w (mendB r l)) := by
  have hm : (⟨(mendB r l).toArray⟩ : ByteArray).size ≤ maxLen := by show (mendB r l).length ≤ _; unfold maxLen; omega
  have cT := spec_TextToValidUTF8 ⟨l.toArray⟩ ⟨r.toArray⟩ w hl hA
  go_enter Tryd.func31, Tryd.ntmps31
  go_wp2_with (first | refine wpList_toString rfl 30 9 _ rfl 5 Tryd.underlying30 Tryd.underlying5 Tryd.underlying9 _ _ rfl h1 ?_ | refine wpList_toString rfl 30 9 _ rfl 5 Tryd.underlying30 Tryd.underlying5 Tryd.underlying9 _ _ rfl h2 ?_ | (go_at_call 65; refine cT.mono ?_))
  rintro _ w1 ⟨rfl, x1⟩
  go_wp2_with (refine wpList_toBytes rfl 9 30 _ rfl 5 Tryd.underlying9 Tryd.underlying30 Tryd.underlying5 _ rfl hm ?_)
  intro v2 w2 o2 x2
  go_wp2_with fail
  go_ret
  exact ⟨_, rfl, o2.mono x1.size (Nat.le_refl _), x1.trans x2⟩
end Go.Proofs.YtlbaoghebjaliaaDoor
