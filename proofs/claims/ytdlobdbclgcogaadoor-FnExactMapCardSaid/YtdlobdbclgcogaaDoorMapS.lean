/- The reference model's Map. Printed by mapped.py. -/
import Derived.Test.YtdlobdbclgcogaaDoorEncW
import Derived.Test.YtdlobdbclgcogaaDoorMendS
namespace Go.Proofs.YtdlobdbclgcogaaDoor
open Go.RowKit
attribute [local go_sem] Oper.semAt_some

set_option maxRecDepth 100000 in
set_option maxHeartbeats 4000000 in
theorem spec_mapped (s : ByteArray) (tv : Value) (rows : List (Int × Int)) (w : World) (ht : Ts w tv rows) (hs : s.size ≤ 1099511627776) (hR : ∀ r, 0 ≤ r → r ≤ 1114111 → imageT rows r ≤ 2147483647) :
    Calls Tryd.prog 86 #[.string s, .agg #[tv]] w (RetV (.string ⟨(mapB (imageT rows) s.data.toList).toArray⟩) w) := by
  obtain ⟨ta, tc, rfl, _⟩ := ht.raw
  have hcl := chunks_length s.data.toList
  have es : s.data.toList.length = s.size := rfl
  rw [es] at hcl
  have cP := spec_pieces' s ((w.alloc (.cells #[.slice ta rows.length tc] 28)).alloc (.cells #[] 5)) hs
  have HRG := Lib.hid (chunks_rune s.data.toList)
  obtain ⟨cs, hcs⟩ : ∃ cs, chunks s.data.toList = cs := ⟨_, rfl⟩
  rw [hcs] at cP hcl HRG
  have HAA := Lib.hid (show mapB (imageT rows) s.data.toList = mapC (imageT rows) cs by rw [← hcs]; rfl)
  have hsz := mapC_size (imageT rows) cs
  obtain ⟨A, hAe⟩ : ∃ A, mapC (imageT rows) cs = A := ⟨_, rfl⟩
  rw [hAe] at hsz
  have HA := Lib.hid hAe
  have HR := Lib.hid hR
  have HTS0 := Lib.hid ht
  obtain ⟨n0, hn0⟩ : ∃ n0, w.heap.size = n0 := ⟨_, rfl⟩
  have g0 := Buf.empty (n0 + 1) 5 (w.alloc (.cells #[.slice ta rows.length tc] 28)) (by rw [World.size_alloc, hn0]; exact Nat.le_refl _)
  have f0 : ((w.alloc (.cells #[.slice ta rows.length tc] 28)).alloc (.cells #[] 5)).cell? ⟨n0, 0, none⟩ = some (.slice ta rows.length tc) := (Ext.alloc _ _).cell (by rw [← hn0, World.cell?_alloc_mark]; rfl)
  have x0 : Ext w ((w.alloc (.cells #[.slice ta rows.length tc] 28)).alloc (.cells #[] 5)) := (Ext.alloc _ _).trans (Ext.alloc _ _)
  obtain ⟨Bp, hBp⟩ : ∃ Bp, ((w.alloc (.cells #[.slice ta rows.length tc] 28)).alloc (.cells #[] 5)).heap.size = Bp := ⟨_, rfl⟩
  rw [hBp] at cP
  rw [World.size_alloc, hn0] at g0
  have HN0 := Lib.hid hn0
  clear hBp hcs hAe hR es ht
  go_enter Tryd.func86, Tryd.ntmps86
  go_wp2_with (go_at_call 69; refine cP.mono ?_)
  rintro _ w1 ⟨v1, rfl, p1, x1⟩
  replace g0 := g0.keep x1
  replace f0 := x1.cell f0
  replace x0 := x0.trans x1
  have ps : Ps w1 v1 cs := vs_of_owns p1
  obtain ⟨_, a, c, rfl, h1, h2, _⟩ := ps.raw
  have hc1 : c ≤ 9223372036854775807 := by unfold maxLen at h2; omega
  have t0 := HTS0.out.ext x0
  clear h2 cP x1 ps
  go_wp2_with fail
  go_loopg [5, 7] cs.length (fun k b i wr => ∃ (j : Nat) (out : List UInt8), j + k = cs.length ∧ i = .int .i64 j ∧ Buf (n0 + 1) 5 wr b out ∧ out ++ mapC (imageT rows) (cs.drop j) = A ∧ wr.ownsRow Bp 74 4 (.slice a cs.length c) cs.length (pcells 0 cs) ∧ wr.cell? ⟨n0, 0, none⟩ = some (.slice ta rows.length tc) ∧ Ts wr (.slice ta rows.length tc) rows ∧ Ext w wr)
  case atStart => exact ⟨0, [], by omega, rfl, g0, HA.out, p1, f0, t0, x0⟩
  case round =>
    obtain ⟨j, out, hj, rfl, hg, hout, hpo, hf0, hts, hx⟩ := hrel
    clear p1 x0 g0 f0 t0
    have HP := Lib.hid hpo
    have HJ := Lib.hid hj
    have HX := Lib.hid hx
    have HG := Lib.hid hg
    have HF0 := Lib.hid hf0
    have HTS := Lib.hid hts
    by_cases hlt : j < cs.length
    · have hgk : 0 < gk := by omega
      have ps : Ps wr (.slice a cs.length c) cs := vs_of_owns hpo
      obtain ⟨_, a', c', hv, _, _, hcells⟩ := ps.raw
      injection hv with hv1 _ hv2
      subst hv1 hv2
      obtain ⟨b, o, rfl, _, _, c2, _⟩ := hcells j hlt
      have hrb := HRG.out _ (List.getElem_mem hlt)
      rw [List.drop_eq_getElem_cons hlt, mapC] at hout
      obtain ⟨rr, hrr⟩ : ∃ rr : Int, ((cs[j].r : Nat) : Int) = rr := ⟨_, rfl⟩
      rw [hrr] at c2 hout
      have hub := HR.out rr (by omega) (by omega)
      obtain ⟨y, hy⟩ : ∃ y, imageT rows rr = y := ⟨_, rfl⟩
      rw [hy] at hub hout
      have HY := Lib.hid hy
      have HC2 := Lib.hid c2
      clear hcells ps hpo hg hx hf0 hts hj hy c2 hrb hrr
      by_cases hneg : y < 0
      · have HE := Lib.hid (show out ++ mapC (imageT rows) (cs.drop (j + 1)) = A by have := hout; rw [if_pos hneg] at this; exact this)
        have hneg' : ¬ 0 ≤ y := by omega
        clear hout
        go_upto_region 6 with fail
        refine (wpIn_wide (n := 1)).1 ?_
        refine wpIn_region_mono (by kernel_rfl) [18, 19, 20, 21, 22, 23, 24, 8] (by decide) (by kernel_rfl) (by decide) (by simp) (by kernel_rfl) (by kernel_rfl)
          (fun i => match i with | 0 => (fun v _ => v = .agg #[.slice ta rows.length tc]) | 1 => (fun v _ => v = .slice (some ⟨b, o, none⟩) cs.length c) | 2 => (fun v _ => v = .int .i64 (j : Int)) | 3 => (fun v _ => v = .pointer (some ⟨b, o + j * 4, none⟩)) | 4 => (fun v _ => v = .pointer (some ⟨b, o + j * 4 + 2, none⟩)) | 5 => (fun v _ => v = .int .i32 (rr : Int)) | 6 => (fun v _ => v = .int .i32 y) | 7 => (fun v _ => v = .int .i32 y) | _ => fun _ _ => True) ?stable ?steps ?fin
        case stable =>
          intro i v w' w'' h x
          match i, h with
          | 0, h => exact h
          | 1, h => exact h
          | 2, h => exact h
          | 3, h => exact h
          | 4, h => exact h
          | 5, h => exact h
          | 6, h => exact h
          | 7, h => exact h
          | _ + 8, _ => trivial
        case steps =>
          refine AllSteps.cons (fun us hus w' x h => ?_) ?_
          · obtain ⟨u0, t0, e0, s0⟩ := len_cons hus; obtain ⟨u1, t1, e1, s1⟩ := len_cons s0; obtain ⟨u2, t2, e2, s2⟩ := len_cons s1; obtain ⟨u3, t3, e3, s3⟩ := len_cons s2; obtain ⟨u4, t4, e4, s4⟩ := len_cons s3; obtain ⟨u5, t5, e5, s5⟩ := len_cons s4; obtain ⟨u6, t6, e6, s6⟩ := len_cons s5; obtain ⟨u7, t7, e7, s7⟩ := len_cons s6
            obtain rfl := len_nil s7
            clear hus s0 s1 s2 s3 s4 s5 s6 s7
            subst e7 e6 e5 e4 e3 e2 e1 e0
            clear h
            simp only [over, Act.put, List.setIfInBounds_toArray, List.set_cons_zero, List.set_cons_succ]
            have d0 := x.cell HF0.out
            gi_wp2
            exact postK_normal ⟨_, rfl, rfl, Ext.refl _⟩
          refine AllSteps.cons (fun us hus w' x h => ?_) ?_
          · obtain ⟨u0, t0, e0, s0⟩ := len_cons hus; obtain ⟨u1, t1, e1, s1⟩ := len_cons s0; obtain ⟨u2, t2, e2, s2⟩ := len_cons s1; obtain ⟨u3, t3, e3, s3⟩ := len_cons s2; obtain ⟨u4, t4, e4, s4⟩ := len_cons s3; obtain ⟨u5, t5, e5, s5⟩ := len_cons s4; obtain ⟨u6, t6, e6, s6⟩ := len_cons s5; obtain ⟨u7, t7, e7, s7⟩ := len_cons s6
            obtain rfl := len_nil s7
            clear hus s0 s1 s2 s3 s4 s5 s6 s7
            subst e7 e6 e5 e4 e3 e2 e1 e0
            clear h
            simp only [over, Act.put, List.setIfInBounds_toArray, List.set_cons_zero, List.set_cons_succ]
            gi_wp2
            exact postK_normal ⟨_, rfl, rfl, Ext.refl _⟩
          refine AllSteps.cons (fun us hus w' x h => ?_) ?_
          · obtain ⟨u0, t0, e0, s0⟩ := len_cons hus; obtain ⟨u1, t1, e1, s1⟩ := len_cons s0; obtain ⟨u2, t2, e2, s2⟩ := len_cons s1; obtain ⟨u3, t3, e3, s3⟩ := len_cons s2; obtain ⟨u4, t4, e4, s4⟩ := len_cons s3; obtain ⟨u5, t5, e5, s5⟩ := len_cons s4; obtain ⟨u6, t6, e6, s6⟩ := len_cons s5; obtain ⟨u7, t7, e7, s7⟩ := len_cons s6
            obtain rfl := len_nil s7
            clear hus s0 s1 s2 s3 s4 s5 s6 s7
            subst e7 e6 e5 e4 e3 e2 e1 e0
            clear h
            simp only [over, Act.put, List.setIfInBounds_toArray, List.set_cons_zero, List.set_cons_succ]
            gi_wp2
            exact postK_normal ⟨_, rfl, rfl, Ext.refl _⟩
          refine AllSteps.cons (fun us hus w' x h => ?_) ?_
          · obtain ⟨u0, t0, e0, s0⟩ := len_cons hus; obtain ⟨u1, t1, e1, s1⟩ := len_cons s0; obtain ⟨u2, t2, e2, s2⟩ := len_cons s1; obtain ⟨u3, t3, e3, s3⟩ := len_cons s2; obtain ⟨u4, t4, e4, s4⟩ := len_cons s3; obtain ⟨u5, t5, e5, s5⟩ := len_cons s4; obtain ⟨u6, t6, e6, s6⟩ := len_cons s5; obtain ⟨u7, t7, e7, s7⟩ := len_cons s6
            obtain rfl := len_nil s7
            clear hus s0 s1 s2 s3 s4 s5 s6 s7
            subst e7 e6 e5 e4 e3 e2 e1 e0
            have h1 : u1 = .slice (some ⟨b, o, none⟩) cs.length c := h 1 (by kernel_rfl)
            have h2 : u2 = .int .i64 (j : Int) := h 2 (by kernel_rfl)
            clear h
            subst h1 h2
            simp only [over, Act.put, List.setIfInBounds_toArray, List.set_cons_zero, List.set_cons_succ]
            gi_wp2
            exact postK_normal ⟨_, rfl, rfl, Ext.refl _⟩
          refine AllSteps.cons (fun us hus w' x h => ?_) ?_
          · obtain ⟨u0, t0, e0, s0⟩ := len_cons hus; obtain ⟨u1, t1, e1, s1⟩ := len_cons s0; obtain ⟨u2, t2, e2, s2⟩ := len_cons s1; obtain ⟨u3, t3, e3, s3⟩ := len_cons s2; obtain ⟨u4, t4, e4, s4⟩ := len_cons s3; obtain ⟨u5, t5, e5, s5⟩ := len_cons s4; obtain ⟨u6, t6, e6, s6⟩ := len_cons s5; obtain ⟨u7, t7, e7, s7⟩ := len_cons s6
            obtain rfl := len_nil s7
            clear hus s0 s1 s2 s3 s4 s5 s6 s7
            subst e7 e6 e5 e4 e3 e2 e1 e0
            have h3 : u3 = .pointer (some ⟨b, o + j * 4, none⟩) := h 3 (by kernel_rfl)
            clear h
            subst h3
            simp only [over, Act.put, List.setIfInBounds_toArray, List.set_cons_zero, List.set_cons_succ]
            gi_wp2
            exact postK_normal ⟨_, rfl, rfl, Ext.refl _⟩
          refine AllSteps.cons (fun us hus w' x h => ?_) ?_
          · obtain ⟨u0, t0, e0, s0⟩ := len_cons hus; obtain ⟨u1, t1, e1, s1⟩ := len_cons s0; obtain ⟨u2, t2, e2, s2⟩ := len_cons s1; obtain ⟨u3, t3, e3, s3⟩ := len_cons s2; obtain ⟨u4, t4, e4, s4⟩ := len_cons s3; obtain ⟨u5, t5, e5, s5⟩ := len_cons s4; obtain ⟨u6, t6, e6, s6⟩ := len_cons s5; obtain ⟨u7, t7, e7, s7⟩ := len_cons s6
            obtain rfl := len_nil s7
            clear hus s0 s1 s2 s3 s4 s5 s6 s7
            subst e7 e6 e5 e4 e3 e2 e1 e0
            have h4 : u4 = .pointer (some ⟨b, o + j * 4 + 2, none⟩) := h 4 (by kernel_rfl)
            clear h
            subst h4
            simp only [over, Act.put, List.setIfInBounds_toArray, List.set_cons_zero, List.set_cons_succ]
            have d0 := x.cell HC2.out
            gi_wp2
            exact postK_normal ⟨_, rfl, rfl, Ext.refl _⟩
          refine AllSteps.cons (fun us hus w' x h => ?_) ?_
          · obtain ⟨u0, t0, e0, s0⟩ := len_cons hus; obtain ⟨u1, t1, e1, s1⟩ := len_cons s0; obtain ⟨u2, t2, e2, s2⟩ := len_cons s1; obtain ⟨u3, t3, e3, s3⟩ := len_cons s2; obtain ⟨u4, t4, e4, s4⟩ := len_cons s3; obtain ⟨u5, t5, e5, s5⟩ := len_cons s4; obtain ⟨u6, t6, e6, s6⟩ := len_cons s5; obtain ⟨u7, t7, e7, s7⟩ := len_cons s6
            obtain rfl := len_nil s7
            clear hus s0 s1 s2 s3 s4 s5 s6 s7
            subst e7 e6 e5 e4 e3 e2 e1 e0
            have h0 : u0 = .agg #[.slice ta rows.length tc] := h 0 (by kernel_rfl)
            have h5 : u5 = .int .i32 (rr : Int) := h 5 (by kernel_rfl)
            clear h
            subst h0 h5
            simp only [over, Act.put, List.setIfInBounds_toArray, List.set_cons_zero, List.set_cons_succ]
            have c5 := spec_image (.slice ta rows.length tc) rows rr w' (HTS.out.ext x)
            rw [HY.out] at c5
            gi_wp2_with (refine ⟨trivial, ?_⟩; gi_at_call 99; refine (callsIn_wide.2 c5).mono ?_)
            rintro _ w5 ⟨rfl, x5⟩
            gi_wp2
            exact postK_normal ⟨_, rfl, rfl, x5⟩
          refine AllSteps.cons (fun us hus w' x h => ?_) ?_
          · obtain ⟨u0, t0, e0, s0⟩ := len_cons hus; obtain ⟨u1, t1, e1, s1⟩ := len_cons s0; obtain ⟨u2, t2, e2, s2⟩ := len_cons s1; obtain ⟨u3, t3, e3, s3⟩ := len_cons s2; obtain ⟨u4, t4, e4, s4⟩ := len_cons s3; obtain ⟨u5, t5, e5, s5⟩ := len_cons s4; obtain ⟨u6, t6, e6, s6⟩ := len_cons s5; obtain ⟨u7, t7, e7, s7⟩ := len_cons s6
            obtain rfl := len_nil s7
            clear hus s0 s1 s2 s3 s4 s5 s6 s7
            subst e7 e6 e5 e4 e3 e2 e1 e0
            have h6 : u6 = .int .i32 y := h 6 (by kernel_rfl)
            clear h
            subst h6
            simp only [over, Act.put, List.setIfInBounds_toArray, List.set_cons_zero, List.set_cons_succ]
            gi_wp2
            exact postK_normal ⟨_, rfl, rfl, Ext.refl _⟩
          exact AllSteps.nil
        case fin =>
          intro us hus w' xx h
          obtain ⟨u0, t0, e0, s0⟩ := len_cons hus; obtain ⟨u1, t1, e1, s1⟩ := len_cons s0; obtain ⟨u2, t2, e2, s2⟩ := len_cons s1; obtain ⟨u3, t3, e3, s3⟩ := len_cons s2; obtain ⟨u4, t4, e4, s4⟩ := len_cons s3; obtain ⟨u5, t5, e5, s5⟩ := len_cons s4; obtain ⟨u6, t6, e6, s6⟩ := len_cons s5; obtain ⟨u7, t7, e7, s7⟩ := len_cons s6
          obtain rfl := len_nil s7
          clear hus s0 s1 s2 s3 s4 s5 s6 s7
          subst e7 e6 e5 e4 e3 e2 e1 e0
          have h7 : u7 = .int .i32 y := h 7 (by decide)
          clear h
          subst h7
          simp only [over, Act.put, List.setIfInBounds_toArray, List.set_cons_zero, List.set_cons_succ, List.length_cons, List.length_nil, Nat.zero_add, Nat.reduceAdd, List.drop_succ_cons, List.drop_zero]
          gi_wp2
          go_wp2_with fail
          go_roundg (gk - 1)
          case measure => omega
          case rel => exact ⟨j + 1, out, by have := HJ.out; omega, by go_num, HG.out.keep xx, HE.out, owns_keep HP.out xx, xx.cell HF0.out, HTS.out.ext xx, HX.out.trans xx⟩
      · have HE := Lib.hid (show out ++ (encN y.toNat ++ mapC (imageT rows) (cs.drop (j + 1))) = A by have := hout; rw [if_neg hneg] at this; exact this)
        have hneg' : 0 ≤ y := by omega
        have hlen : out.length + (⟨(encN y.toNat).toArray⟩ : ByteArray).size ≤ 140737488355328 := by
          have := congrArg List.length HE.out
          rw [List.length_append, List.length_append] at this
          show out.length + (encN y.toNat).length ≤ _
          omega
        clear hout hneg
        go_upto_region 6 with fail
        refine (wpIn_wide (n := 1)).1 ?_
        refine wpIn_region_mono (by kernel_rfl) [18, 19, 20, 21, 22, 23, 24, 8] (by decide) (by kernel_rfl) (by decide) (by simp) (by kernel_rfl) (by kernel_rfl)
          (fun i => match i with | 0 => (fun v _ => v = .agg #[.slice ta rows.length tc]) | 1 => (fun v _ => v = .slice (some ⟨b, o, none⟩) cs.length c) | 2 => (fun v _ => v = .int .i64 (j : Int)) | 3 => (fun v _ => v = .pointer (some ⟨b, o + j * 4, none⟩)) | 4 => (fun v _ => v = .pointer (some ⟨b, o + j * 4 + 2, none⟩)) | 5 => (fun v _ => v = .int .i32 (rr : Int)) | 6 => (fun v _ => v = .int .i32 y) | 7 => (fun v _ => v = .int .i32 y) | _ => fun _ _ => True) ?stable ?steps ?fin
        case stable =>
          intro i v w' w'' h x
          match i, h with
          | 0, h => exact h
          | 1, h => exact h
          | 2, h => exact h
          | 3, h => exact h
          | 4, h => exact h
          | 5, h => exact h
          | 6, h => exact h
          | 7, h => exact h
          | _ + 8, _ => trivial
        case steps =>
          refine AllSteps.cons (fun us hus w' x h => ?_) ?_
          · obtain ⟨u0, t0, e0, s0⟩ := len_cons hus; obtain ⟨u1, t1, e1, s1⟩ := len_cons s0; obtain ⟨u2, t2, e2, s2⟩ := len_cons s1; obtain ⟨u3, t3, e3, s3⟩ := len_cons s2; obtain ⟨u4, t4, e4, s4⟩ := len_cons s3; obtain ⟨u5, t5, e5, s5⟩ := len_cons s4; obtain ⟨u6, t6, e6, s6⟩ := len_cons s5; obtain ⟨u7, t7, e7, s7⟩ := len_cons s6
            obtain rfl := len_nil s7
            clear hus s0 s1 s2 s3 s4 s5 s6 s7
            subst e7 e6 e5 e4 e3 e2 e1 e0
            clear h
            simp only [over, Act.put, List.setIfInBounds_toArray, List.set_cons_zero, List.set_cons_succ]
            have d0 := x.cell HF0.out
            gi_wp2
            exact postK_normal ⟨_, rfl, rfl, Ext.refl _⟩
          refine AllSteps.cons (fun us hus w' x h => ?_) ?_
          · obtain ⟨u0, t0, e0, s0⟩ := len_cons hus; obtain ⟨u1, t1, e1, s1⟩ := len_cons s0; obtain ⟨u2, t2, e2, s2⟩ := len_cons s1; obtain ⟨u3, t3, e3, s3⟩ := len_cons s2; obtain ⟨u4, t4, e4, s4⟩ := len_cons s3; obtain ⟨u5, t5, e5, s5⟩ := len_cons s4; obtain ⟨u6, t6, e6, s6⟩ := len_cons s5; obtain ⟨u7, t7, e7, s7⟩ := len_cons s6
            obtain rfl := len_nil s7
            clear hus s0 s1 s2 s3 s4 s5 s6 s7
            subst e7 e6 e5 e4 e3 e2 e1 e0
            clear h
            simp only [over, Act.put, List.setIfInBounds_toArray, List.set_cons_zero, List.set_cons_succ]
            gi_wp2
            exact postK_normal ⟨_, rfl, rfl, Ext.refl _⟩
          refine AllSteps.cons (fun us hus w' x h => ?_) ?_
          · obtain ⟨u0, t0, e0, s0⟩ := len_cons hus; obtain ⟨u1, t1, e1, s1⟩ := len_cons s0; obtain ⟨u2, t2, e2, s2⟩ := len_cons s1; obtain ⟨u3, t3, e3, s3⟩ := len_cons s2; obtain ⟨u4, t4, e4, s4⟩ := len_cons s3; obtain ⟨u5, t5, e5, s5⟩ := len_cons s4; obtain ⟨u6, t6, e6, s6⟩ := len_cons s5; obtain ⟨u7, t7, e7, s7⟩ := len_cons s6
            obtain rfl := len_nil s7
            clear hus s0 s1 s2 s3 s4 s5 s6 s7
            subst e7 e6 e5 e4 e3 e2 e1 e0
            clear h
            simp only [over, Act.put, List.setIfInBounds_toArray, List.set_cons_zero, List.set_cons_succ]
            gi_wp2
            exact postK_normal ⟨_, rfl, rfl, Ext.refl _⟩
          refine AllSteps.cons (fun us hus w' x h => ?_) ?_
          · obtain ⟨u0, t0, e0, s0⟩ := len_cons hus; obtain ⟨u1, t1, e1, s1⟩ := len_cons s0; obtain ⟨u2, t2, e2, s2⟩ := len_cons s1; obtain ⟨u3, t3, e3, s3⟩ := len_cons s2; obtain ⟨u4, t4, e4, s4⟩ := len_cons s3; obtain ⟨u5, t5, e5, s5⟩ := len_cons s4; obtain ⟨u6, t6, e6, s6⟩ := len_cons s5; obtain ⟨u7, t7, e7, s7⟩ := len_cons s6
            obtain rfl := len_nil s7
            clear hus s0 s1 s2 s3 s4 s5 s6 s7
            subst e7 e6 e5 e4 e3 e2 e1 e0
            have h1 : u1 = .slice (some ⟨b, o, none⟩) cs.length c := h 1 (by kernel_rfl)
            have h2 : u2 = .int .i64 (j : Int) := h 2 (by kernel_rfl)
            clear h
            subst h1 h2
            simp only [over, Act.put, List.setIfInBounds_toArray, List.set_cons_zero, List.set_cons_succ]
            gi_wp2
            exact postK_normal ⟨_, rfl, rfl, Ext.refl _⟩
          refine AllSteps.cons (fun us hus w' x h => ?_) ?_
          · obtain ⟨u0, t0, e0, s0⟩ := len_cons hus; obtain ⟨u1, t1, e1, s1⟩ := len_cons s0; obtain ⟨u2, t2, e2, s2⟩ := len_cons s1; obtain ⟨u3, t3, e3, s3⟩ := len_cons s2; obtain ⟨u4, t4, e4, s4⟩ := len_cons s3; obtain ⟨u5, t5, e5, s5⟩ := len_cons s4; obtain ⟨u6, t6, e6, s6⟩ := len_cons s5; obtain ⟨u7, t7, e7, s7⟩ := len_cons s6
            obtain rfl := len_nil s7
            clear hus s0 s1 s2 s3 s4 s5 s6 s7
            subst e7 e6 e5 e4 e3 e2 e1 e0
            have h3 : u3 = .pointer (some ⟨b, o + j * 4, none⟩) := h 3 (by kernel_rfl)
            clear h
            subst h3
            simp only [over, Act.put, List.setIfInBounds_toArray, List.set_cons_zero, List.set_cons_succ]
            gi_wp2
            exact postK_normal ⟨_, rfl, rfl, Ext.refl _⟩
          refine AllSteps.cons (fun us hus w' x h => ?_) ?_
          · obtain ⟨u0, t0, e0, s0⟩ := len_cons hus; obtain ⟨u1, t1, e1, s1⟩ := len_cons s0; obtain ⟨u2, t2, e2, s2⟩ := len_cons s1; obtain ⟨u3, t3, e3, s3⟩ := len_cons s2; obtain ⟨u4, t4, e4, s4⟩ := len_cons s3; obtain ⟨u5, t5, e5, s5⟩ := len_cons s4; obtain ⟨u6, t6, e6, s6⟩ := len_cons s5; obtain ⟨u7, t7, e7, s7⟩ := len_cons s6
            obtain rfl := len_nil s7
            clear hus s0 s1 s2 s3 s4 s5 s6 s7
            subst e7 e6 e5 e4 e3 e2 e1 e0
            have h4 : u4 = .pointer (some ⟨b, o + j * 4 + 2, none⟩) := h 4 (by kernel_rfl)
            clear h
            subst h4
            simp only [over, Act.put, List.setIfInBounds_toArray, List.set_cons_zero, List.set_cons_succ]
            have d0 := x.cell HC2.out
            gi_wp2
            exact postK_normal ⟨_, rfl, rfl, Ext.refl _⟩
          refine AllSteps.cons (fun us hus w' x h => ?_) ?_
          · obtain ⟨u0, t0, e0, s0⟩ := len_cons hus; obtain ⟨u1, t1, e1, s1⟩ := len_cons s0; obtain ⟨u2, t2, e2, s2⟩ := len_cons s1; obtain ⟨u3, t3, e3, s3⟩ := len_cons s2; obtain ⟨u4, t4, e4, s4⟩ := len_cons s3; obtain ⟨u5, t5, e5, s5⟩ := len_cons s4; obtain ⟨u6, t6, e6, s6⟩ := len_cons s5; obtain ⟨u7, t7, e7, s7⟩ := len_cons s6
            obtain rfl := len_nil s7
            clear hus s0 s1 s2 s3 s4 s5 s6 s7
            subst e7 e6 e5 e4 e3 e2 e1 e0
            have h0 : u0 = .agg #[.slice ta rows.length tc] := h 0 (by kernel_rfl)
            have h5 : u5 = .int .i32 (rr : Int) := h 5 (by kernel_rfl)
            clear h
            subst h0 h5
            simp only [over, Act.put, List.setIfInBounds_toArray, List.set_cons_zero, List.set_cons_succ]
            have c5 := spec_image (.slice ta rows.length tc) rows rr w' (HTS.out.ext x)
            rw [HY.out] at c5
            gi_wp2_with (refine ⟨trivial, ?_⟩; gi_at_call 99; refine (callsIn_wide.2 c5).mono ?_)
            rintro _ w5 ⟨rfl, x5⟩
            gi_wp2
            exact postK_normal ⟨_, rfl, rfl, x5⟩
          refine AllSteps.cons (fun us hus w' x h => ?_) ?_
          · obtain ⟨u0, t0, e0, s0⟩ := len_cons hus; obtain ⟨u1, t1, e1, s1⟩ := len_cons s0; obtain ⟨u2, t2, e2, s2⟩ := len_cons s1; obtain ⟨u3, t3, e3, s3⟩ := len_cons s2; obtain ⟨u4, t4, e4, s4⟩ := len_cons s3; obtain ⟨u5, t5, e5, s5⟩ := len_cons s4; obtain ⟨u6, t6, e6, s6⟩ := len_cons s5; obtain ⟨u7, t7, e7, s7⟩ := len_cons s6
            obtain rfl := len_nil s7
            clear hus s0 s1 s2 s3 s4 s5 s6 s7
            subst e7 e6 e5 e4 e3 e2 e1 e0
            have h6 : u6 = .int .i32 y := h 6 (by kernel_rfl)
            clear h
            subst h6
            simp only [over, Act.put, List.setIfInBounds_toArray, List.set_cons_zero, List.set_cons_succ]
            gi_wp2
            exact postK_normal ⟨_, rfl, rfl, Ext.refl _⟩
          exact AllSteps.nil
        case fin =>
          intro us hus w' xx h
          obtain ⟨u0, t0, e0, s0⟩ := len_cons hus; obtain ⟨u1, t1, e1, s1⟩ := len_cons s0; obtain ⟨u2, t2, e2, s2⟩ := len_cons s1; obtain ⟨u3, t3, e3, s3⟩ := len_cons s2; obtain ⟨u4, t4, e4, s4⟩ := len_cons s3; obtain ⟨u5, t5, e5, s5⟩ := len_cons s4; obtain ⟨u6, t6, e6, s6⟩ := len_cons s5; obtain ⟨u7, t7, e7, s7⟩ := len_cons s6
          obtain rfl := len_nil s7
          clear hus s0 s1 s2 s3 s4 s5 s6 s7
          subst e7 e6 e5 e4 e3 e2 e1 e0
          have h7 : u7 = .int .i32 y := h 7 (by decide)
          clear h
          subst h7
          simp only [over, Act.put, List.setIfInBounds_toArray, List.set_cons_zero, List.set_cons_succ, List.length_cons, List.length_nil, Nat.zero_add, Nat.reduceAdd, List.drop_succ_cons, List.drop_zero]
          have X4 := HX.out.trans xx
          have G4 := HG.out.keep xx
          have P4 := owns_keep HP.out xx
          have f4 := xx.cell HF0.out
          have t4 := HTS.out.ext xx
          have cE := spec_encode y.toNat w' (by omega)
          rw [Int.toNat_of_nonneg hneg'] at cE
          gi_wp2
          go_wp2_with (go_at_call 100; refine cE.mono ?_)
          rintro _ w5 ⟨rfl, x5⟩
          have X5 := X4.trans x5
          have G5 := G4.keep x5
          have P5 := owns_keep P4 x5
          have f5 := x5.cell f4
          have t5 := t4.ext x5
          have hsz5 : n0 + 1 ≤ w5.heap.size := by have := World.block_lt_of_cell? _ _ f5; exact this
          clear xx x5 X4 G4 P4 f4 t4 cE
          go_wp2_with (refine wpList_appendStr rfl 24 9 _ _ rfl 5 Tryd.underlying24 Tryd.underlying9 info_u8' (n0 + 1) _ out rfl G5 _ rfl hlen hsz5 ?_)
          intro v6 w6 g6 gr6
          have B6 := G5.grown gr6 hsz5 X5.below (by omega)
          have HP6 := Lib.hid (owns_apart G5 P5 (by decide) gr6)
          have F6 := G5.frame gr6
          have HF6 := Lib.hid (F6.cell (p := ⟨n0, 0, none⟩) (by dsimp only; omega) f5)
          have HT6 := Lib.hid (HTS0.out.ext (show Ext w w6 from ⟨B6⟩))
          have HG6 := Lib.hid g6
          have HB6 := Lib.hid B6
          clear g6 gr6 B6 F6 G5 P5 X5 f5 t5
          go_wp2_with fail
          go_roundg (gk - 1)
          case measure => omega
          case rel => exact ⟨j + 1, _, by have := HJ.out; omega, by go_num, HG6.out, by rw [List.append_assoc]; exact HE.out, HP6.out, HF6.out, HT6.out, ⟨HB6.out⟩⟩
    · have hje : j = cs.length := by omega
      have HO := Lib.hid (show out = A by have := hout; rw [hje, List.drop_length, mapC, List.append_nil] at this; exact this)
      have hb := hg.own.bs
      rw [HO.out] at hb
      clear hj hout hg hpo hje
      go_wp2_with (refine wpList_toString rfl 24 9 _ rfl 5 Tryd.underlying24 Tryd.underlying5 Tryd.underlying9 _ _ rfl hb ?_)
      go_ret
      exact ⟨by rw [HAA.out, HA.out]; rfl, HX.out⟩

set_option maxRecDepth 100000 in
theorem spec_TextMap (s : ByteArray) (tv : Value) (rows : List (Int × Int)) (w : World) (ht : Ts w tv rows) (hs : s.size ≤ 1099511627776) (hR : ∀ r, 0 ≤ r → r ≤ 1114111 → imageT rows r ≤ 2147483647) :
    Calls Tryd.prog 65 #[.string s, .agg #[tv]] w (RetV (.string ⟨(mapB (imageT rows) s.data.toList).toArray⟩) w) := by
  obtain ⟨ta, tc, rfl, _⟩ := ht.raw
  have x0 : Ext w (w.alloc (.cells #[.slice ta rows.length tc] 28)) := Ext.alloc _ _
  go_enter Tryd.func65, Tryd.ntmps65
  go_wp2_with (go_at_call 86; refine (spec_mapped s _ rows _ (ht.ext x0) hs hR).mono ?_)
  rintro _ w1 ⟨rfl, x1⟩
  go_wp2_with fail
  go_ret
  exact ⟨rfl, x0.trans x1⟩

set_option maxRecDepth 100000 in
theorem spec_Map (v tv : Value) (l : List UInt8) (rows : List (Int × Int)) (w : World) (h : Bs w v l) (ht : Ts w tv rows) (hl : l.length ≤ 1099511627776) (hR : ∀ r, 0 ≤ r → r ≤ 1114111 → imageT rows r ≤ 2147483647) :
    Calls Tryd.prog 39 #[v, .agg #[tv]] w (RetOwn w (mapB (imageT rows) l)) := by
  obtain ⟨ta, tc, rfl, _⟩ := ht.raw
  have x0 : Ext w (w.alloc (.cells #[.slice ta rows.length tc] 28)) := Ext.alloc _ _
  have h1 := mapC_size (imageT rows) (chunks l)
  have h2 := chunks_length l
  have hm : (⟨(mapB (imageT rows) l).toArray⟩ : ByteArray).size ≤ maxLen := by show (mapC _ _).length ≤ _; unfold maxLen; omega
  have cT := spec_TextMap ⟨l.toArray⟩ _ rows _ (ht.ext x0) hl hR
  have hb := h.ext x0
  go_enter Tryd.func39, Tryd.ntmps39
  go_wp2_with (first | refine wpList_toString rfl 24 9 _ rfl 5 Tryd.underlying24 Tryd.underlying5 Tryd.underlying9 _ _ rfl hb ?_ | (go_at_call 65; refine cT.mono ?_))
  rintro _ w1 ⟨rfl, x1⟩
  go_wp2_with (refine wpList_toBytes rfl 9 24 _ rfl 5 Tryd.underlying9 Tryd.underlying24 Tryd.underlying5 _ rfl hm ?_)
  intro v2 w2 o2 x2
  go_wp2_with fail
  go_ret
  exact ⟨_, rfl, o2.mono (x0.trans x1).size (Nat.le_refl _), (x0.trans x1).trans x2⟩
end Go.Proofs.YtdlobdbclgcogaaDoor
