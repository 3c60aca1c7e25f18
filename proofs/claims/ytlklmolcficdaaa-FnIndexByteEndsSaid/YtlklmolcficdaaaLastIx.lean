/- Contracts of bytes.LastIndex and what it calls, of the thin package's LastIndex, and of the reference's lastIndex and index. Conditions: lengths below 2^62. -/
import Derived.Test.YtlklmolcficdaaaWrapA
import Derived.Test.YtlklmolcficdaaaPlainB
import Derived.Lib.LastIndexLaws
namespace Go.Proofs.Ytlklmolcficdaaa
open Go.RowKit Go.Lib

set_option maxHeartbeats 4000000 in
theorem bytealg_hashStrRev (v : Value) (l : List UInt8) (w : World) (h : Bs w v l) (hs : l.length < 4611686018427387904) :
    Calls Try.prog 69 #[v] w fun e w' => e = .returned (.tuple #[.int .u32 (RK.H l.reverse % 4294967296), .int .u32 (16777619 ^ l.length % 4294967296)]) ∧ w = w' := by
  obtain ⟨a, c, rfl, k1, k2, k3⟩ := h
  clear k2
  go_enter Try.func69, Try.ntmps69
  go_wp2_with fail
  go_loopg [4, 5] l.length (fun k vh vi wr => ∃ h : Int, k ≤ l.length ∧ vi = .int .i64 ((k : Int) - 1) ∧ vh = .int .u32 h ∧ Hid (h = RK.H (l.drop k).reverse % 4294967296) ∧ w = wr)
  case atStart => exact ⟨0, Nat.le_refl _, rfl, rfl, by show (0 : Int) = _; rw [List.drop_of_length_le (Nat.le_refl _)]; rfl, rfl⟩
  case round =>
    obtain ⟨h, hk, rfl, rfl, hh, rfl⟩ := hrel
    by_cases hlt : 0 < gk
    · obtain ⟨j, rfl⟩ : ∃ j, gk = j + 1 := ⟨gk - 1, by omega⟩
      have ej : (((j + 1 : Nat) : Int) - 1) = (j : Int) := by omega
      rw [ej]
      clear ej
      have hj : j < l.length := by omega
      rcases k3 with k3 | ⟨b, o, rfl, hc⟩
      · subst k3; simp at hj
      have g := hc j hj
      have hst : (h * 16777619 % 4294967296 + ((l[j]'hj).toNat : Int) % 4294967296) % 4294967296 = RK.H (l.drop j).reverse % 4294967296 := LastIndex.hashrev_step ⟨l.toArray⟩ (j + 1) (by omega) hk hh.out
      have HST0 := Lib.hid hst
      have HST := Lib.hid (show (h * 16777619 + ((l[j]'hj).toNat : Int)) % 4294967296 = RK.H (l.drop j).reverse % 4294967296 by rw [← hst]; omega)
      clear hst hc
      go_wp2_with fail
      go_roundg j
      case measure => omega
      case rel => exact ⟨_, by omega, rfl, rfl, (by first | exact HST.out | exact HST0.out), rfl⟩
    · obtain rfl : gk = 0 := by omega
      go_wp2_with fail
      go_loopg [6, 7, 8] l.length (fun i vp vq vi wr => ∃ (i' : Nat) (pw sq : Int), i' ≤ i ∧ vi = .int .i64 i' ∧ vp = .int .u32 pw ∧ vq = .int .u32 sq ∧ 0 ≤ pw ∧ pw < 4294967296 ∧ i' ≤ l.length ∧ Hid (RK.PowInv l.length i' pw sq) ∧ w = wr)
      case atStart => exact ⟨l.length, 1, 16777619, Nat.le_refl _, rfl, rfl, rfl, by omega, by omega, Nat.le_refl _, RK.pow_start _, rfl⟩
      case round =>
        obtain ⟨i, pw, sq, hgk, rfl, rfl, rfl, p0, p1, hi, hinv, rfl⟩ := hrel
        have ea := and_one i (by omega)
        by_cases hi0 : 0 < i
        · by_cases hodd : i % 2 = 1
          · have t1 : ((i : Int) % 2 != 0) = true := by rw [bne_iff_ne]; omega
            go_wp2_with fail
            go_roundg (i / 2)
            case measure => omega
            case rel => exact ⟨i / 2, _, _, Nat.le_refl _, by first | go_num | (congr 1; omega), rfl, rfl, by omega, by omega, by omega, RK.pow_odd hinv.out hodd, rfl⟩
          · have t1 : ((i : Int) % 2 != 0) = false := by rw [bne_eq_false_iff_eq]; omega
            go_wp2_with fail
            go_roundg (i / 2)
            case measure => omega
            case rel => exact ⟨i / 2, _, _, Nat.le_refl _, by first | go_num | (congr 1; omega), rfl, rfl, p0, p1, by omega, RK.pow_even hinv.out (by omega), rfl⟩
        · obtain rfl : i = 0 := by omega
          have e1 : h = RK.H l.reverse % 4294967296 := by
            have := hh.out
            rwa [List.drop_zero] at this
          have e2 := RK.pow_end hinv.out p0 p1
          have E1 := Lib.hid e1
          have E2 := Lib.hid e2
          clear e1 e2
          go_wp2_with fail
          go_ret2
          rw [← E1.out, ← E2.out]
          exact ⟨rfl, rfl⟩

/-- 'string(s[a:b]) == string(sep)' in a quiet region: the two conversions and the cut, as equations. -/
theorem win_part (s : List UInt8) (i n : Nat) : part s i (i + n) = RK.win s i n := by
  unfold part RK.win
  rw [List.drop_take]
  congr 1
  omega

theorem occ_win (s t : List UInt8) (i : Nat) (h : i + t.length ≤ s.length) : Lib.occAt s t i = eqB (part s i (i + t.length)) t := by
  rw [win_part, RK.occAt_win _ _ _ h]
  rfl

set_option maxRecDepth 100000 in
set_option maxHeartbeats 16000000 in
theorem bytealg_LastIndexRabinKarp (v1 v2 : Value) (s t : List UInt8) (w : World) (b1 : Bs w v1 s) (b2 : Bs w v2 t) (h1 : 1 ≤ t.length) (h2 : t.length ≤ s.length) (hs : s.length < 4611686018427387904) :
    Calls Try.prog 64 #[v1, v2] w (RetV (.int .i64 (lastIx s t)) w) := by
  obtain ⟨hh, Hh⟩ : ∃ hh : Int, hh = RK.H t.reverse % 4294967296 := ⟨_, rfl⟩
  obtain ⟨pw, Hp⟩ : ∃ pw : Int, pw = 16777619 ^ t.length % 4294967296 := ⟨_, rfl⟩
  have hc : Calls Try.prog 69 #[v2] w fun e w' => e = .returned (.tuple #[.int .u32 hh, .int .u32 pw]) ∧ w = w' := by rw [Hh, Hp]; exact bytealg_hashStrRev v2 t w b2 (by omega)
  have HH := Lib.hid Hh
  have HP := Lib.hid Hp
  clear Hh Hp
  obtain ⟨last, hlast⟩ : ∃ last : Nat, last + t.length = s.length := ⟨s.length - t.length, by omega⟩
  have HL : Hid (lastIx s t = Lib.lastOcc s t (last + 1)) := by
    show _ = _
    unfold lastIx Lib.lastIndex
    rw [if_pos h2]
    congr 1
    omega
  have HLAST := Lib.hid hlast
  have eHL : (last : Int) = (s.length : Int) - (t.length : Int) := by omega
  have hlle : last ≤ s.length := by omega
  obtain ⟨a1, c1, rfl, k11, k12, k13⟩ := b1
  obtain ⟨bk, o, rfl, hcell⟩ := k13.resolve_left (fun e => by have := congrArg List.length e; simp only [List.length_nil] at this; omega)
  have b1 : Bs w (.slice (some ⟨bk, o, none⟩) s.length c1) s := ⟨_, _, rfl, k11, k12, .inr ⟨bk, o, rfl, hcell⟩⟩
  obtain ⟨a2, c2, rfl, k21, k22⟩ := b2.shape
  have ELAST := Lib.hid eHL
  clear k12 k13 k22 eHL hlast
  go_enter Try.func64, Try.ntmps64
  go_wp2_with (go_at_call 69; refine hc.mono ?_; rintro e w' ⟨rfl, rfl⟩)
  rw [← ELAST.out]
  go_loopg [9, 10] s.length (fun k vh vi wr => ∃ h : Int, last ≤ k ∧ k ≤ s.length ∧ vi = .int .i64 ((k : Int) - 1) ∧ vh = .int .u32 h ∧ Hid (h = RK.H (s.drop k).reverse % 4294967296) ∧ w = wr)
  case atStart => exact ⟨0, hlle, Nat.le_refl _, rfl, rfl, by show (0 : Int) = _; rw [List.drop_of_length_le (Nat.le_refl _)]; rfl, rfl⟩
  case round =>
    obtain ⟨h, hk1, hk, rfl, rfl, hk2, rfl⟩ := hrel
    by_cases hlt : last < gk
    · obtain ⟨j, rfl⟩ : ∃ j, gk = j + 1 := ⟨gk - 1, by omega⟩
      have ej : (((j + 1 : Nat) : Int) - 1) = (j : Int) := by omega
      rw [ej]
      clear ej
      have hj : j < s.length := by omega
      have d1 : decide (last ≤ j) = true := by simp; omega
      have g := hcell j hj
      have hst : (h * 16777619 % 4294967296 + ((s[j]'hj).toNat : Int) % 4294967296) % 4294967296 = RK.H (s.drop j).reverse % 4294967296 := LastIndex.hashrev_step ⟨s.toArray⟩ (j + 1) (by omega) hk hk2.out
      have HST0 := Lib.hid hst
      have HST := Lib.hid (show (h * 16777619 + ((s[j]'hj).toNat : Int)) % 4294967296 = RK.H (s.drop j).reverse % 4294967296 by rw [← hst]; omega)
      clear hst
      go_wp2_with fail
      go_roundg j
      case measure => omega
      case rel => exact ⟨_, by omega, by omega, rfl, rfl, (by first | exact HST.out | exact HST0.out), rfl⟩
    · obtain rfl : last = gk := by omega
      have d1 : decide ((last : Int) ≤ (last : Int) - 1) = false := by simp; omega
      have hwin : h = RK.H (RK.win s last t.length).reverse % 4294967296 := by
        have := hk2.out
        rwa [show s.drop last = RK.win s last t.length from (List.take_of_length_le (by have := HLAST.out; simp; omega)).symm] at this
      have hlast := HLAST.out
      have hdrop : s.drop last = part s last (last + t.length) := by rw [hlast]; simp [part]
      have hocc := occ_win s t last (by omega)
      rw [← hdrop] at hocc
      have Hwin := Lib.hid hwin
      have HOCC := Lib.hid hocc
      have HK := Lib.hid hk2.out
      clear hk2 hwin hdrop hocc hlast
      by_cases heq : h = hh
      · have q1 : (h == hh) = true := by rw [heq]; simp
        have Heq := Lib.hid heq
        clear heq
        go_wp2_with fail
        refine wp_region_quiet_lit (by kernel_rfl) (by kernel_rfl) ?_
        repeat (first | refine wpQuiet_subL rfl 23 _ _ rfl 5 Try.underlying23 info_u8' _ _ rfl b1 _ _ rfl last rfl hlle ?_ | go_big_quiet_step (fail))
        intro v3 b3
        simp only [Act.put, List.setIfInBounds_toArray, List.set_cons_succ, List.set_cons_zero]
        cases hE : (s.drop last == t)
        · have HL2 : Hid (lastIx s t = Lib.lastOcc s t last) := HL.out.trans (Lib.lastOcc_miss _ _ last (by rw [HOCC.out]; exact hE))
          repeat (first | (refine wpQuiet_toString rfl 23 9 (.tmp 45) rfl 5 Try.underlying23 Try.underlying5 Try.underlying9 _ _ rfl b3 ?_; simp only [Act.put, List.setIfInBounds_toArray, List.set_cons_succ, List.set_cons_zero]) | (refine wpQuiet_toString rfl 23 9 (.tmp 47) rfl 5 Try.underlying23 Try.underlying5 Try.underlying9 _ _ rfl b2 ?_; simp only [Act.put, List.setIfInBounds_toArray, List.set_cons_succ, List.set_cons_zero]) | go_big_quiet_step (fail))
          refine wpQuiet_nil ?_
          intro _ hw'
          obtain ⟨nq, hw''⟩ := hw'
          subst hw''
          go_wp2_with fail
          go_loopg [9, 11] last (fun j vh vi wr => ∃ (g : Int) (q : Nat), j ≤ last ∧ vi = .int .i64 ((j : Int) - 1) ∧ vh = .int .u32 g ∧ Hid (g = RK.H (RK.win s j t.length).reverse % 4294967296) ∧ Hid (lastIx s t = Lib.lastOcc s t j) ∧ wr = w.drewN q)
          case atStart => exact ⟨_, _, Nat.le_refl _, rfl, rfl, Hwin, HL2, rfl⟩
          case round =>
            obtain ⟨g, q, hj, rfl, rfl, hg, hl, rfl⟩ := hrel
            by_cases hj1 : 0 < gk
            · obtain ⟨i, rfl⟩ : ∃ i, gk = i + 1 := ⟨gk - 1, by omega⟩
              have ej : (((i + 1 : Nat) : Int) - 1) = (i : Int) := by omega
              rw [ej]
              clear ej
              have hil : i + 1 + t.length ≤ s.length := by have := HLAST.out; omega
              have g1 := hcell i (by omega)
              have g2 := hcell (i + t.length) (by omega)
              have hroll : (g * 16777619 + ((s[i]'(by omega)).toNat : Int) - pw * (((s[i + t.length]'(by omega)).toNat : Int) % 4294967296)) % 4294967296 = RK.H (RK.win s i t.length).reverse % 4294967296 := LastIndex.rollrev_step ⟨s.toArray⟩ t.length i h1 hil hg.out HP.out
              have hroll2 := Lib.hid ((Int.sub_emod _ _ _).symm.trans hroll)
              have hocc := Lib.hid (occ_win s t i (by omega))
              have c1 := b1.ext (Ext.drewN w q)
              have c2 := b2.ext (Ext.drewN w q)
              clear hroll
              go_wp2_with fail
              generalize hgg : (((g * 16777619 + ((s[i]'(by omega)).toNat : Int)) % 4294967296 - pw * (((s[i + t.length]'(by omega)).toNat : Int) % 4294967296) % 4294967296) % 4294967296) = g2
              have HG : Hid (g2 = RK.H (RK.win s i t.length).reverse % 4294967296) := hgg.symm.trans hroll2.out
              clear hgg hroll2
              by_cases hq : g2 = hh
              · have q2 : (g2 == hh) = true := by rw [hq]; simp
                clear hq
                refine wp_region_quiet_lit (by kernel_rfl) (by kernel_rfl) ?_
                repeat (first | refine wpQuiet_subLH rfl 23 _ _ _ rfl 5 Try.underlying23 info_u8' _ _ rfl c1 _ _ _ _ rfl rfl i (i + t.length) rfl (by omega) (by omega) (by omega) ?_ | go_big_quiet_step (fail))
                intro v4 b4
                simp only [Act.put, List.setIfInBounds_toArray, List.set_cons_succ, List.set_cons_zero]
                cases hE2 : (part s i (i + t.length) == t)
                · repeat (first | (refine wpQuiet_toString rfl 23 9 (.tmp 87) rfl 5 Try.underlying23 Try.underlying5 Try.underlying9 _ _ rfl b4 ?_; simp only [Act.put, List.setIfInBounds_toArray, List.set_cons_succ, List.set_cons_zero]) | (refine wpQuiet_toString rfl 23 9 (.tmp 89) rfl 5 Try.underlying23 Try.underlying5 Try.underlying9 _ _ rfl c2 ?_; simp only [Act.put, List.setIfInBounds_toArray, List.set_cons_succ, List.set_cons_zero]) | go_big_quiet_step (fail))
                  refine wpQuiet_nil ?_
                  intro _ hw'
                  obtain ⟨nq, hw''⟩ := hw'
                  subst hw''
                  have HL3 : Hid (lastIx s t = Lib.lastOcc s t i) := hl.out.trans (Lib.lastOcc_miss _ _ i (by rw [hocc.out]; exact hE2))
                  go_wp2_with fail
                  go_roundg i
                  case measure => omega
                  case rel => exact ⟨_, _, by omega, rfl, rfl, HG, HL3, (by first | rfl | exact World.drewN_drewN ..)⟩
                · repeat (first | (refine wpQuiet_toString rfl 23 9 (.tmp 87) rfl 5 Try.underlying23 Try.underlying5 Try.underlying9 _ _ rfl b4 ?_; simp only [Act.put, List.setIfInBounds_toArray, List.set_cons_succ, List.set_cons_zero]) | (refine wpQuiet_toString rfl 23 9 (.tmp 89) rfl 5 Try.underlying23 Try.underlying5 Try.underlying9 _ _ rfl c2 ?_; simp only [Act.put, List.setIfInBounds_toArray, List.set_cons_succ, List.set_cons_zero]) | go_big_quiet_step (fail))
                  refine wpQuiet_nil ?_
                  intro _ hw'
                  obtain ⟨nq, hw''⟩ := hw'
                  subst hw''
                  have HL3 := Lib.hid (hl.out.trans (Lib.lastOcc_hit _ _ i (by rw [hocc.out]; exact hE2)))
                  go_wp2_with fail
                  go_ret
                  exact ⟨by rw [HL3.out]; rfl, (by first | exact Ext.drewN _ _ | exact (Ext.drewN w q).trans (Ext.drewN _ _))⟩
              · have q2 : (g2 == hh) = false := by rw [beq_eq_false_iff_ne]; exact hq
                have HL3 : Hid (lastIx s t = Lib.lastOcc s t i) := hl.out.trans (Lib.lastOcc_miss _ _ i (LastIndex.occ_no_hashrev ⟨s.toArray⟩ ⟨t.toArray⟩ i (by show i + t.length ≤ s.length; omega) HG.out HH.out hq))
                clear hq
                go_quiet (fail)
                go_wp2_with fail
                go_roundg i
                case measure => omega
                case rel => exact ⟨_, _, by omega, rfl, rfl, HG, HL3, (by first | rfl | exact World.drewN_drewN ..)⟩
            · obtain rfl : gk = 0 := by omega
              have HF := Lib.hid hl.out
              go_wp2_with fail
              go_ret
              exact ⟨by rw [HF.out]; rfl, Ext.drewN _ _⟩
        · have hfin : lastIx s t = last := HL.out.trans (Lib.lastOcc_hit _ _ last (by rw [HOCC.out]; exact hE))
          have HF := Lib.hid hfin
          clear hfin
          repeat (first | (refine wpQuiet_toString rfl 23 9 (.tmp 45) rfl 5 Try.underlying23 Try.underlying5 Try.underlying9 _ _ rfl b3 ?_; simp only [Act.put, List.setIfInBounds_toArray, List.set_cons_succ, List.set_cons_zero]) | (refine wpQuiet_toString rfl 23 9 (.tmp 47) rfl 5 Try.underlying23 Try.underlying5 Try.underlying9 _ _ rfl b2 ?_; simp only [Act.put, List.setIfInBounds_toArray, List.set_cons_succ, List.set_cons_zero]) | go_big_quiet_step (fail))
          refine wpQuiet_nil ?_
          intro _ hw'
          obtain ⟨nq, hw''⟩ := hw'
          subst hw''
          go_wp2_with fail
          go_ret
          exact ⟨by rw [HF.out]; rfl, Ext.drewN _ _⟩
      · have q1 : (h == hh) = false := by rw [beq_eq_false_iff_ne]; exact heq
        have HL2 : Hid (lastIx s t = Lib.lastOcc s t last) := HL.out.trans (Lib.lastOcc_miss _ _ last (LastIndex.occ_no_hashrev ⟨s.toArray⟩ ⟨t.toArray⟩ last (by have := HLAST.out; show last + t.length ≤ s.length; omega) Hwin.out HH.out heq))
        clear heq
        go_wp2_with fail
        go_quiet (fail)
        go_wp2_with fail
        go_loopg [9, 11] last (fun j vh vi wr => ∃ (g : Int) (q : Nat), j ≤ last ∧ vi = .int .i64 ((j : Int) - 1) ∧ vh = .int .u32 g ∧ Hid (g = RK.H (RK.win s j t.length).reverse % 4294967296) ∧ Hid (lastIx s t = Lib.lastOcc s t j) ∧ wr = w.drewN q)
        case atStart => exact ⟨_, _, Nat.le_refl _, rfl, rfl, Hwin, HL2, rfl⟩
        case round =>
          obtain ⟨g, q, hj, rfl, rfl, hg, hl, rfl⟩ := hrel
          by_cases hj1 : 0 < gk
          · obtain ⟨i, rfl⟩ : ∃ i, gk = i + 1 := ⟨gk - 1, by omega⟩
            have ej : (((i + 1 : Nat) : Int) - 1) = (i : Int) := by omega
            rw [ej]
            clear ej
            have hil : i + 1 + t.length ≤ s.length := by have := HLAST.out; omega
            have g1 := hcell i (by omega)
            have g2 := hcell (i + t.length) (by omega)
            have hroll : (g * 16777619 + ((s[i]'(by omega)).toNat : Int) - pw * (((s[i + t.length]'(by omega)).toNat : Int) % 4294967296)) % 4294967296 = RK.H (RK.win s i t.length).reverse % 4294967296 := LastIndex.rollrev_step ⟨s.toArray⟩ t.length i h1 hil hg.out HP.out
            have hroll2 := Lib.hid ((Int.sub_emod _ _ _).symm.trans hroll)
            have hocc := Lib.hid (occ_win s t i (by omega))
            have c1 := b1.ext (Ext.drewN w q)
            have c2 := b2.ext (Ext.drewN w q)
            clear hroll
            go_wp2_with fail
            generalize hgg : (((g * 16777619 + ((s[i]'(by omega)).toNat : Int)) % 4294967296 - pw * (((s[i + t.length]'(by omega)).toNat : Int) % 4294967296) % 4294967296) % 4294967296) = g2
            have HG : Hid (g2 = RK.H (RK.win s i t.length).reverse % 4294967296) := hgg.symm.trans hroll2.out
            clear hgg hroll2
            by_cases hq : g2 = hh
            · have q2 : (g2 == hh) = true := by rw [hq]; simp
              clear hq
              refine wp_region_quiet_lit (by kernel_rfl) (by kernel_rfl) ?_
              repeat (first | refine wpQuiet_subLH rfl 23 _ _ _ rfl 5 Try.underlying23 info_u8' _ _ rfl c1 _ _ _ _ rfl rfl i (i + t.length) rfl (by omega) (by omega) (by omega) ?_ | go_big_quiet_step (fail))
              intro v4 b4
              simp only [Act.put, List.setIfInBounds_toArray, List.set_cons_succ, List.set_cons_zero]
              cases hE2 : (part s i (i + t.length) == t)
              · repeat (first | (refine wpQuiet_toString rfl 23 9 (.tmp 87) rfl 5 Try.underlying23 Try.underlying5 Try.underlying9 _ _ rfl b4 ?_; simp only [Act.put, List.setIfInBounds_toArray, List.set_cons_succ, List.set_cons_zero]) | (refine wpQuiet_toString rfl 23 9 (.tmp 89) rfl 5 Try.underlying23 Try.underlying5 Try.underlying9 _ _ rfl c2 ?_; simp only [Act.put, List.setIfInBounds_toArray, List.set_cons_succ, List.set_cons_zero]) | go_big_quiet_step (fail))
                refine wpQuiet_nil ?_
                intro _ hw'
                obtain ⟨nq, hw''⟩ := hw'
                subst hw''
                have HL3 : Hid (lastIx s t = Lib.lastOcc s t i) := hl.out.trans (Lib.lastOcc_miss _ _ i (by rw [hocc.out]; exact hE2))
                go_wp2_with fail
                go_roundg i
                case measure => omega
                case rel => exact ⟨_, _, by omega, rfl, rfl, HG, HL3, (by first | rfl | exact World.drewN_drewN ..)⟩
              · repeat (first | (refine wpQuiet_toString rfl 23 9 (.tmp 87) rfl 5 Try.underlying23 Try.underlying5 Try.underlying9 _ _ rfl b4 ?_; simp only [Act.put, List.setIfInBounds_toArray, List.set_cons_succ, List.set_cons_zero]) | (refine wpQuiet_toString rfl 23 9 (.tmp 89) rfl 5 Try.underlying23 Try.underlying5 Try.underlying9 _ _ rfl c2 ?_; simp only [Act.put, List.setIfInBounds_toArray, List.set_cons_succ, List.set_cons_zero]) | go_big_quiet_step (fail))
                refine wpQuiet_nil ?_
                intro _ hw'
                obtain ⟨nq, hw''⟩ := hw'
                subst hw''
                have HL3 := Lib.hid (hl.out.trans (Lib.lastOcc_hit _ _ i (by rw [hocc.out]; exact hE2)))
                go_wp2_with fail
                go_ret
                exact ⟨by rw [HL3.out]; rfl, (by first | exact Ext.drewN _ _ | exact (Ext.drewN w q).trans (Ext.drewN _ _))⟩
            · have q2 : (g2 == hh) = false := by rw [beq_eq_false_iff_ne]; exact hq
              have HL3 : Hid (lastIx s t = Lib.lastOcc s t i) := hl.out.trans (Lib.lastOcc_miss _ _ i (LastIndex.occ_no_hashrev ⟨s.toArray⟩ ⟨t.toArray⟩ i (by show i + t.length ≤ s.length; omega) HG.out HH.out hq))
              clear hq
              go_quiet (fail)
              go_wp2_with fail
              go_roundg i
              case measure => omega
              case rel => exact ⟨_, _, by omega, rfl, rfl, HG, HL3, (by first | rfl | exact World.drewN_drewN ..)⟩
          · obtain rfl : gk = 0 := by omega
            have HF := Lib.hid hl.out
            go_wp2_with fail
            go_ret
            exact ⟨by rw [HF.out]; rfl, Ext.drewN _ _⟩

theorem ext_occ (s t : ByteArray) (i : Nat) (h : i + t.size ≤ s.size) : ((s.extract i (i + t.size)).toList == t.toList) = true ↔ Occ s.data.toList t.data.toList i := by
  rw [ByteArray.toList_eq, ByteArray.toList_eq, Lib.extract_data, beq_iff_eq, occ_part (by simpa using h)]
  rw [show i + t.size - i = t.data.toList.length by rw [Nat.add_sub_cancel_left]; rfl]

set_option maxHeartbeats 1000000 in
theorem bytes_LastIndex (v1 v2 : Value) (s t : List UInt8) (w : World) (b1 : Bs w v1 s) (b2 : Bs w v2 t) (hs : s.length < 4611686018427387904) :
    Calls Try.prog 50 #[v1, v2] w (RetV (.int .i64 (lastIx s t)) w) := by
  have bb2 := b2
  obtain ⟨a1, c1, rfl, k11, k12⟩ := b1.shape
  obtain ⟨a2, c2, rfl, k21, k22, k23⟩ := b2
  have b2 := bb2
  clear bb2 k12 k22
  by_cases h0 : t.length = 0
  · have ht : t = [] := List.eq_nil_of_length_eq_zero h0
    subst ht
    have HF := Lib.hid (lastIx_nil s)
    clear h0
    simp only [List.length_nil] at *
    go_enter Try.func50, Try.ntmps50
    go_wp2_with fail
    go_ret
    exact ⟨by rw [HF.out]; rfl, Ext.refl _⟩
  have q0 : ((t.length : Int) == 0) = false := by rw [beq_eq_false_iff_ne]; omega
  by_cases h1 : t.length = 1
  · obtain ⟨x, rfl⟩ : ∃ x, t = [x] := List.length_eq_one_iff.1 h1
    have HF := Lib.hid (lastIx_one s x)
    obtain ⟨b, o, rfl, hc⟩ := k23.resolve_left (by simp)
    have g : w.cell? ⟨b, o, none⟩ = some (.int .u8 (x.toNat : Int)) := hc 0 (by simp)
    clear h0 h1 q0 hc
    simp only [List.length_cons, List.length_nil, Nat.zero_add] at *
    go_enter Try.func50, Try.ntmps50
    go_wp2_with (go_at_call 63; refine (bytealg_LastIndexByte _ _ _ _ b1).mono ?_; rintro e w' ⟨rfl, rfl⟩)
    go_ret
    exact ⟨by rw [HF.out]; rfl, Ext.refl _⟩
  have q1 : ((t.length : Int) == 1) = false := by rw [beq_eq_false_iff_ne]; omega
  by_cases h2 : t.length = s.length
  · have q2 : ((t.length : Int) == (s.length : Int)) = true := by rw [h2]; simp
    cases hE : eqB s t
    · have HF := Lib.hid (show lastIx s t = -1 from lastIx_none fun i ho => by
        have hl := ho.le
        obtain ⟨a, b, rfl, rfl⟩ := ho
        simp at h2
        have e1 : a = [] := List.eq_nil_of_length_eq_zero (by omega)
        have e2 : b = [] := List.eq_nil_of_length_eq_zero (by omega)
        subst e1 e2
        simp [eqB] at hE)
      clear h0 h1 h2
      go_enter Try.func50, Try.ntmps50
      go_wp2_with (go_at_call 59; refine (bytes_Equal _ _ _ _ _ b1 b2).mono ?_; rintro e w' ⟨rfl, rfl⟩)
      go_ret
      exact ⟨by rw [HF.out]; rfl, Ext.refl _⟩
    · have hst : s = t := eqB_true.1 hE
      have HF := Lib.hid (show lastIx s t = ((0 : Nat) : Int) from lastIx_eq ⟨[], [], by rw [hst]; simp, rfl⟩ (fun j hj ho => by have := ho.le; omega))
      clear h0 h1 h2 hst
      go_enter Try.func50, Try.ntmps50
      go_wp2_with (go_at_call 59; refine (bytes_Equal _ _ _ _ _ b1 b2).mono ?_; rintro e w' ⟨rfl, rfl⟩)
      go_ret
      exact ⟨by rw [HF.out]; rfl, Ext.refl _⟩
  have q2 : ((t.length : Int) == (s.length : Int)) = false := by rw [beq_eq_false_iff_ne]; omega
  by_cases h3 : s.length < t.length
  · have q3 : decide (s.length < t.length) = true := by simpa using h3
    have HF := Lib.hid (show lastIx s t = -1 from lastIx_none fun i ho => by have := ho.le; omega)
    go_enter Try.func50, Try.ntmps50
    go_wp2_with fail
    go_ret
    exact ⟨by rw [HF.out]; rfl, Ext.refl _⟩
  have q3 : decide (s.length < t.length) = false := by simpa using h3
  go_enter Try.func50, Try.ntmps50
  go_wp2_with (go_at_call 64; refine (bytealg_LastIndexRabinKarp _ _ _ _ _ b1 b2 (by omega) (by omega) hs).mono ?_)
  rintro _ w1 ⟨rfl, x1⟩
  go_wp2_with fail
  go_ret
  exact ⟨rfl, x1⟩

theorem impl_LastIndex (v1 v2 : Value) (s t : List UInt8) (w : World) (b1 : Bs w v1 s) (b2 : Bs w v2 t) (hs : s.length < 4611686018427387904) :
    Calls Try.prog 27 #[v1, v2] w (RetV (.int .i64 (lastIx s t)) w) := by
  go_enter Try.func27, Try.ntmps27
  go_wp2_with (go_at_call 50; refine (bytes_LastIndex _ _ _ _ _ b1 b2 hs).mono ?_)
  rintro _ w1 ⟨rfl, x1⟩
  go_wp2_with fail
  go_ret
  exact ⟨rfl, x1⟩

theorem spec_lastIndex (s t : ByteArray) (w : World) (hs : s.size ≤ 4611686018427387904) (ht : t.size ≤ 4611686018427387904) :
    Calls Try.prog 62 #[.string s, .string t] w (RetV (.int .i64 (lastIx s.data.toList t.data.toList)) w) := by
  have es : s.data.toList.length = s.size := rfl
  have et : t.data.toList.length = t.size := rfl
  by_cases hl : t.size ≤ s.size
  · obtain ⟨d, hd⟩ : ∃ d : Nat, d + t.size = s.size := ⟨s.size - t.size, by omega⟩
    have ed : (s.size : Int) - (t.size : Int) = (d : Int) := by omega
    have HD := Lib.hid hd
    have ED := Lib.hid ed
    have ES := Lib.hid es
    have ET := Lib.hid et
    clear hd ed es et
    go_enter Try.func62, Try.ntmps62
    go_wp2_with fail
    rw [ED.out]
    go_loopg [5] (d + 1) (fun k i wr => k ≤ d + 1 ∧ i = .int .i64 ((k : Int) - 1) ∧ (∀ j, k ≤ j → ¬ Occ s.data.toList t.data.toList j) ∧ w = wr)
    case atStart => exact ⟨Nat.le_refl _, by congr 1; omega, fun j hj ho => by have h1 := ho.le; have := HD.out; have := ES.out; have := ET.out; omega, rfl⟩
    case round =>
      obtain ⟨hk, rfl, hn, rfl⟩ := hrel
      have HN := Lib.hid hn
      clear hn
      by_cases hlt : 0 < gk
      · obtain ⟨j, rfl⟩ : ∃ j, gk = j + 1 := ⟨gk - 1, by omega⟩
        have ej : (((j + 1 : Nat) : Int) - 1) = (j : Int) := by omega
        rw [ej]
        clear ej
        have hj : j + t.size ≤ s.size := by have := HD.out; omega
        have hx := ext_occ s t j hj
        by_cases ho : Occ s.data.toList t.data.toList j
        · have e1 : ((s.extract j (j + t.size)).toList == t.toList) = true := hx.2 ho
          have HF := Lib.hid (lastIx_eq ho (fun i hi => HN.out i (by omega)))
          clear hx ho
          go_wp2_with fail
          go_ret
          exact ⟨by rw [HF.out]; rfl, Ext.refl _⟩
        · have e1 : ((s.extract j (j + t.size)).toList == t.toList) = false := by rw [Bool.eq_false_iff]; exact fun h => ho (hx.1 h)
          have HO := Lib.hid ho
          clear hx ho
          go_wp2_with fail
          go_roundg j
          case measure => omega
          case rel =>
            refine ⟨by omega, rfl, fun i hi => ?_, rfl⟩
            by_cases h : i = j
            · subst h; exact HO.out
            · exact HN.out i (by omega)
      · obtain rfl : gk = 0 := by omega
        have HF := Lib.hid (lastIx_none (fun i => HN.out i (Nat.zero_le _)))
        go_wp2_with fail
        go_ret
        exact ⟨by rw [HF.out]; rfl, Ext.refl _⟩
  · have HF := Lib.hid (show lastIx s.data.toList t.data.toList = -1 from lastIx_none fun i ho => by have := ho.le; omega)
    clear es et
    go_enter Try.func62, Try.ntmps62
    go_wp2_with fail
    go_loopg [5] 0 (fun k i wr => i = .int .i64 ((s.size : Int) - (t.size : Int)) ∧ w = wr)
    case atStart => exact ⟨rfl, rfl⟩
    case round =>
      obtain ⟨rfl, rfl⟩ := hrel
      go_wp2_with fail
      go_ret
      exact ⟨by rw [HF.out]; rfl, Ext.refl _⟩

theorem spec_index (s t : ByteArray) (w : World) (hs : s.size ≤ 2305843009213693952) (ht : t.size ≤ 2305843009213693952) :
    Calls Try.prog 65 #[.string s, .string t] w (RetV (.int .i64 (firstIx s.data.toList t.data.toList)) w) := by
  have ES := Lib.hid (show s.data.toList.length = s.size from rfl)
  have ET := Lib.hid (show t.data.toList.length = t.size from rfl)
  go_enter Try.func65, Try.ntmps65
  go_wp2_with fail
  go_loopg [5] (s.size + 1) (fun k i wr => ∃ j : Nat, j + k = s.size + 1 ∧ i = .int .i64 j ∧ (∀ i, i < j → ¬ Occ s.data.toList t.data.toList i) ∧ w = wr)
  case atStart => exact ⟨0, by omega, rfl, fun i hi => by omega, rfl⟩
  case round =>
    obtain ⟨j, hj, rfl, hn, rfl⟩ := hrel
    have HN := Lib.hid hn
    have HJ := Lib.hid hj
    clear hn
    by_cases hlt : j + t.size ≤ s.size
    · have hg : 0 < gk := by omega
      have hjs : j ≤ s.size := by omega
      have hx := ext_occ s t j hlt
      clear hj
      by_cases ho : Occ s.data.toList t.data.toList j
      · have e1 : ((s.extract j (j + t.size)).toList == t.toList) = true := hx.2 ho
        have HF := Lib.hid (firstIx_eq ho (fun i hi => HN.out i hi))
        clear hx ho
        go_wp2_with fail
        go_ret
        exact ⟨by rw [HF.out]; rfl, Ext.refl _⟩
      · have e1 : ((s.extract j (j + t.size)).toList == t.toList) = false := by rw [Bool.eq_false_iff]; exact fun h => ho (hx.1 h)
        have HO := Lib.hid ho
        clear hx ho
        go_wp2_with fail
        go_roundg (gk - 1)
        case measure => omega
        case rel =>
          refine ⟨j + 1, by have := HJ.out; omega, by go_num, fun i hi => ?_, rfl⟩
          by_cases h : i = j
          · subst h; exact HO.out
          · exact HN.out i (by omega)
    · have HF := Lib.hid (firstIx_none (s := s.data.toList) (t := t.data.toList) (fun i ho => by
        have h1 := ho.le
        by_cases h : i < j
        · exact HN.out i h ho
        · have := ES.out; have := ET.out; omega))
      have hjs : j ≤ s.size + 1 := by omega
      clear hj
      go_wp2_with fail
      go_ret
      exact ⟨by rw [HF.out]; rfl, Ext.refl _⟩

/-- t stands in s. -/
def hasIn (s t : List UInt8) : Bool := decide (0 ≤ firstIx s t)

theorem spec_TextLastIndex (s t : ByteArray) (w : World) (hs : s.size ≤ 4611686018427387904) (ht : t.size ≤ 4611686018427387904) :
    Calls Try.prog 49 #[.string s, .string t] w (RetV (.int .i64 (lastIx s.data.toList t.data.toList)) w) := by
  go_enter Try.func49, Try.ntmps49
  go_wp2_with (go_at_call 62; refine (spec_lastIndex _ _ _ hs ht).mono ?_)
  rintro _ w1 ⟨rfl, x1⟩
  go_wp2_with fail
  go_ret
  exact ⟨rfl, x1⟩
theorem spec_LastIndex (v1 v2 : Value) (l1 l2 : List UInt8) (w : World) (h1 : Bs w v1 l1) (h2 : Bs w v2 l2) (k1 : l1.length ≤ 4611686018427387904) (k2 : l2.length ≤ 4611686018427387904) :
    Calls Try.prog 25 #[v1, v2] w (RetV (.int .i64 (lastIx l1 l2)) w) := by
  go_enter Try.func25, Try.ntmps25
  go_wp2_with (first
    | refine wpList_toString rfl 23 9 (.tmp 5) rfl 5 Try.underlying23 Try.underlying5 Try.underlying9 _ _ rfl h1 ?_
    | refine wpList_toString rfl 23 9 (.tmp 7) rfl 5 Try.underlying23 Try.underlying5 Try.underlying9 _ _ rfl h2 ?_
    | (go_at_call 49; refine (spec_TextLastIndex ⟨l1.toArray⟩ ⟨l2.toArray⟩ _ k1 k2).mono ?_))
  rintro _ w1 ⟨rfl, x1⟩
  go_wp2_with fail
  go_ret
  exact ⟨rfl, x1⟩

theorem spec_TextContains (s t : ByteArray) (w : World) (hs : s.size ≤ 2305843009213693952) (ht : t.size ≤ 2305843009213693952) :
    Calls Try.prog 51 #[.string s, .string t] w (RetV (.bool (hasIn s.data.toList t.data.toList)) w) := by
  go_enter Try.func51, Try.ntmps51
  go_wp2_with (go_at_call 65; refine (spec_index _ _ _ hs ht).mono ?_)
  rintro _ w1 ⟨rfl, x1⟩
  go_wp2_with fail
  go_ret
  exact ⟨rfl, x1⟩
theorem spec_Contains (v1 v2 : Value) (l1 l2 : List UInt8) (w : World) (h1 : Bs w v1 l1) (h2 : Bs w v2 l2) (k1 : l1.length ≤ 2305843009213693952) (k2 : l2.length ≤ 2305843009213693952) :
    Calls Try.prog 29 #[v1, v2] w (RetV (.bool (hasIn l1 l2)) w) := by
  go_enter Try.func29, Try.ntmps29
  go_wp2_with (first
    | refine wpList_toString rfl 23 9 (.tmp 5) rfl 5 Try.underlying23 Try.underlying5 Try.underlying9 _ _ rfl h1 ?_
    | refine wpList_toString rfl 23 9 (.tmp 7) rfl 5 Try.underlying23 Try.underlying5 Try.underlying9 _ _ rfl h2 ?_
    | (go_at_call 51; refine (spec_TextContains ⟨l1.toArray⟩ ⟨l2.toArray⟩ _ k1 k2).mono ?_))
  rintro _ w1 ⟨rfl, x1⟩
  go_wp2_with fail
  go_ret
  exact ⟨rfl, x1⟩
end Go.Proofs.Ytlklmolcficdaaa
