/- The walk of laws.table. Printed by table.py. -/
import Derived.Test.YtiahholgpbjjfaaDoorTable
import Derived.Test.YtiahholgpbjjfaaDoorZA
namespace Go.Proofs.YtiahholgpbjjfaaDoor
open Go.RowKit

/-- A call's answer: a table. -/
def RetTab (w : World) (rows : List (Int × Int)) (e : Ending) (w' : World) : Prop := ∃ v, e = .returned (.agg #[v]) ∧ Ts w' v rows ∧ Ext w w'

theorem info_row : (Tryd.prog.info? 42).map (fun i => (i.zero, i.size, i.bytes)) = some (some (.agg #[.int .i32 0, .int .i32 0]), 2, 8) := by kernel_rfl

/-- A row lies where it lay, if a box of another type was written. -/
theorem owns_setBox {B0 B : Nat} {e t : TypeId} {size n : Nat} {W : World} {v u u0 : Value} {xs : List Value} (h : W.ownsRow B0 e size v n xs) (b : Boxed W B t u0) (ht : t ≠ e) : (W.setCell ⟨B, 0, none⟩ u).ownsRow B0 e size v n xs := by
  have hne := b.not_row ht h
  have hlt := owns_lt h
  obtain ⟨h4, h5⟩ := h
  refine ⟨h4, ?_⟩
  rcases h5 with h5 | ⟨g', cap, cur, hv, hg, hh, r⟩
  · exact .inl h5
  · refine .inr ⟨g', cap, cur, hv, hg, ?_, r⟩
    have hgb : g' ≠ B := by
      rintro rfl
      exact hne (by rw [hv]; rfl)
    rw [(Fr.setCell (p := ⟨B, 0, none⟩) (lo := B) (hi := B + 1) (w := W) (Nat.le_refl _) (Nat.lt_succ_self _) u).block g' (hlt g' (by rw [hv]; rfl)).2 (by omega)]; exact hh

attribute [local go_sem] Oper.semAt_some

set_option maxRecDepth 100000 in
set_option maxHeartbeats 4000000 in
theorem laws_table (v1 v2 : Value) (fs ts : List Int) (w : World) (h1 : Is w v1 fs) (h2 : Is w v2 ts) (hl : fs.length ≤ 4398046511104) :
    Calls Tryd.prog 13 #[v1, v2] w (RetTab w (fs.zip ts)) := by
  obtain ⟨a1, c1, rfl, p1, q1, e1⟩ := h1.raw
  obtain ⟨a2, c2, rfl, p2, q2, e2⟩ := h2.raw
  have hc1 : c1 ≤ 9223372036854775807 := by unfold maxLen at q1; omega
  have hc2 : c2 ≤ 9223372036854775807 := by unfold maxLen at q2; omega
  have HF := Lib.hid e1
  have HT := Lib.hid e2
  clear e1 e2 h1 h2 q1 q2
  obtain ⟨B, hB⟩ : ∃ B, w.heap.size = B := ⟨_, rfl⟩
  go_enter Tryd.func13, Tryd.ntmps13
  go_wp2_with fail
  have x0 : Ext w ((w.alloc (.cells #[.slice none 0 0] 35)).alloc (.cells #[.slice none 0 0] 35)) := (Ext.alloc _ _).trans (Ext.alloc _ _)
  have bR : Boxed ((w.alloc (.cells #[.slice none 0 0] 35)).alloc (.cells #[.slice none 0 0] 35)) B 35 (.slice none 0 0) := by
    have := (Boxed.new w 35 (.slice none 0 0)).alloc (.cells #[.slice none 0 0] 35)
    rwa [hB] at this
  have bT : Boxed ((w.alloc (.cells #[.slice none 0 0] 35)).alloc (.cells #[.slice none 0 0] 35)) (B + 1) 35 (.slice none 0 0) := by
    have := Boxed.new (w.alloc (.cells #[.slice none 0 0] 35)) 35 (.slice none 0 0)
    rwa [World.size_alloc, hB] at this
  obtain ⟨w0, hw0⟩ : ∃ w0, w0 = (w.alloc (.cells #[.slice none 0 0] 35)).alloc (.cells #[.slice none 0 0] 35) := ⟨_, rfl⟩
  rw [← hw0] at x0 bR bT ⊢
  clear hw0
  have hlz : (fs.zip ts).length ≤ fs.length := by simp; omega
  have hlz2 : (fs.zip ts).length ≤ ts.length := by simp; omega
  have hzz : (fs.zip ts).length = fs.length ∨ (fs.zip ts).length = ts.length := by simp; omega
  obtain ⟨Z, hZ⟩ : ∃ Z, fs.zip ts = Z := ⟨_, rfl⟩
  have HZE := Lib.hid (fun j (hj : j < (fs.zip ts).length) (g1 : j < fs.length) (g2 : j < ts.length) => show (fs.zip ts)[j] = (fs[j], ts[j]) by simp)
  rw [hZ] at hlz hlz2 hzz HZE
  have HZ := Lib.hid hZ
  have HZZ := Lib.hid hzz
  clear hZ hzz
  go_loopg [6] Z.length (fun k i wr => ∃ (j : Nat) (rv : Value), j + k = Z.length ∧ i = .int .i64 j ∧ Boxed wr (B + 1) 35 rv ∧ Boxed wr B 35 (.slice none 0 0) ∧ wr.ownsRow B 42 2 rv j (tcells (Z.take j)) ∧ Ext w wr)
  case atStart => exact ⟨0, _, by omega, rfl, bT, bR, World.ownsRow_nil _ _ _ _, x0⟩
  case round =>
    obtain ⟨j, rv, hj, rfl, hbx, hb0, hown, hx⟩ := hrel
    clear bT bR x0
    have HJ := Lib.hid hj
    have HBX := Lib.hid hbx
    have HB0 := Lib.hid hb0
    have HO := Lib.hid hown
    have HX := Lib.hid hx
    by_cases hlt : j < Z.length
    · have hg : 0 < gk := by omega
      have hf1 : j < fs.length := by omega
      have hf2 : j < ts.length := by omega
      obtain ⟨b1, o1, rfl, d1⟩ := HF.out j hf1
      obtain ⟨b2, o2, rfl, d2⟩ := HT.out j hf2
      have hz := HZE.out j hlt hf1 hf2
      obtain ⟨p, hp⟩ : ∃ p, fs[j] = p := ⟨_, rfl⟩
      obtain ⟨q, hq⟩ : ∃ q, ts[j] = q := ⟨_, rfl⟩
      rw [hp] at d1 hz
      rw [hq] at d2 hz
      obtain ⟨A, hA⟩ : ∃ A, Z.take j = A := ⟨_, rfl⟩
      have HA := Lib.hid (show Z.take (j + 1) = A ++ [(p, q)] by rw [List.take_succ_eq_append_getElem hlt, hA, hz])
      rw [hA] at HO
      have HC1 := Lib.hid d1
      have HC2 := Lib.hid d2
      have hsz := hx.size
      rw [hB] at hsz
      have HBB := Lib.hid hB
      clear hj hbx hb0 hown hx d1 d2 hz hp hq hA hB
      go_upto_region 5 with fail
      refine (wpIn_wide (n := 1)).1 ?_
      refine wpIn_region_mono (by kernel_rfl) [20, 21, 22, 23, 24, 25, 26, 27, 28, 29, 30, 31] (by decide) (by kernel_rfl) (by decide) (by simp) (by kernel_rfl) (by kernel_rfl)
        (fun i => match i with | 0 => (fun v _ => v = .pointer (some ⟨B + 1, 0, none⟩)) | 1 => (fun v _ => v = rv) | 2 => (fun v _ => v = .slice (some ⟨b1, o1, none⟩) fs.length c1) | 3 => (fun v _ => v = .int .i64 (j : Int)) | 4 => (fun v _ => v = .pointer (some ⟨b1, o1 + j, none⟩)) | 5 => (fun v _ => v = .int .i32 p) | 6 => (fun v _ => v = .slice (some ⟨b2, o2, none⟩) ts.length c2) | 7 => (fun v _ => v = .int .i64 (j : Int)) | 8 => (fun v _ => v = .pointer (some ⟨b2, o2 + j, none⟩)) | 9 => (fun v _ => v = .int .i32 q) | 10 => (fun v _ => v = .agg #[.int .i32 p, .int .i32 q]) | 11 => (fun v w => ∃ n1, v = .slice (some ⟨n1, 0, none⟩) 1 1 ∧ ∀ i u, [Value.int .i32 p, Value.int .i32 q][i]? = some u → w.cell? ((⟨n1, 0, none⟩ : Addr).add i) = some u) | _ => fun _ _ => True) ?stable ?steps ?fin
      case stable =>
        intro i v w' w'' h x
        match i, h with
        | 0, h => exact h
        | 1, h => exact h
        | 2, h => exact h
        | 3, h => exact h
        | 4, h => exact h
        | 5, h => exact h
        | 6, h => exact h
        | 7, h => exact h
        | 8, h => exact h
        | 9, h => exact h
        | 10, h => exact h
        | 11, ⟨n1, g1, g2⟩ => exact ⟨n1, g1, fun i u hu => x.cell (g2 i u hu)⟩
        | _ + 12, _ => trivial
      case steps =>
        refine AllSteps.cons (fun us hus w' x h => ?_) ?_
        · obtain ⟨u0, t0, e0, s0⟩ := len_cons hus; obtain ⟨u1, t1, e1, s1⟩ := len_cons s0; obtain ⟨u2, t2, e2, s2⟩ := len_cons s1; obtain ⟨u3, t3, e3, s3⟩ := len_cons s2; obtain ⟨u4, t4, e4, s4⟩ := len_cons s3; obtain ⟨u5, t5, e5, s5⟩ := len_cons s4; obtain ⟨u6, t6, e6, s6⟩ := len_cons s5; obtain ⟨u7, t7, e7, s7⟩ := len_cons s6; obtain ⟨u8, t8, e8, s8⟩ := len_cons s7; obtain ⟨u9, t9, e9, s9⟩ := len_cons s8; obtain ⟨u10, t10, e10, s10⟩ := len_cons s9; obtain ⟨u11, t11, e11, s11⟩ := len_cons s10
          obtain rfl := len_nil s11
          clear hus s0 s1 s2 s3 s4 s5 s6 s7 s8 s9 s10 s11
          subst e11 e10 e9 e8 e7 e6 e5 e4 e3 e2 e1 e0
          clear h
          simp only [over, Act.put, List.setIfInBounds_toArray, List.set_cons_zero, List.set_cons_succ]
          gi_wp2
          exact postK_normal ⟨_, rfl, rfl, Ext.refl _⟩
        refine AllSteps.cons (fun us hus w' x h => ?_) ?_
        · obtain ⟨u0, t0, e0, s0⟩ := len_cons hus; obtain ⟨u1, t1, e1, s1⟩ := len_cons s0; obtain ⟨u2, t2, e2, s2⟩ := len_cons s1; obtain ⟨u3, t3, e3, s3⟩ := len_cons s2; obtain ⟨u4, t4, e4, s4⟩ := len_cons s3; obtain ⟨u5, t5, e5, s5⟩ := len_cons s4; obtain ⟨u6, t6, e6, s6⟩ := len_cons s5; obtain ⟨u7, t7, e7, s7⟩ := len_cons s6; obtain ⟨u8, t8, e8, s8⟩ := len_cons s7; obtain ⟨u9, t9, e9, s9⟩ := len_cons s8; obtain ⟨u10, t10, e10, s10⟩ := len_cons s9; obtain ⟨u11, t11, e11, s11⟩ := len_cons s10
          obtain rfl := len_nil s11
          clear hus s0 s1 s2 s3 s4 s5 s6 s7 s8 s9 s10 s11
          subst e11 e10 e9 e8 e7 e6 e5 e4 e3 e2 e1 e0
          have h0 : u0 = .pointer (some ⟨B + 1, 0, none⟩) := h 0 (by kernel_rfl)
          clear h
          subst h0
          simp only [over, Act.put, List.setIfInBounds_toArray, List.set_cons_zero, List.set_cons_succ]
          have d0 := (boxed_ext HBX.out x).cell
          gi_wp2
          exact postK_normal ⟨_, rfl, rfl, Ext.refl _⟩
        refine AllSteps.cons (fun us hus w' x h => ?_) ?_
        · obtain ⟨u0, t0, e0, s0⟩ := len_cons hus; obtain ⟨u1, t1, e1, s1⟩ := len_cons s0; obtain ⟨u2, t2, e2, s2⟩ := len_cons s1; obtain ⟨u3, t3, e3, s3⟩ := len_cons s2; obtain ⟨u4, t4, e4, s4⟩ := len_cons s3; obtain ⟨u5, t5, e5, s5⟩ := len_cons s4; obtain ⟨u6, t6, e6, s6⟩ := len_cons s5; obtain ⟨u7, t7, e7, s7⟩ := len_cons s6; obtain ⟨u8, t8, e8, s8⟩ := len_cons s7; obtain ⟨u9, t9, e9, s9⟩ := len_cons s8; obtain ⟨u10, t10, e10, s10⟩ := len_cons s9; obtain ⟨u11, t11, e11, s11⟩ := len_cons s10
          obtain rfl := len_nil s11
          clear hus s0 s1 s2 s3 s4 s5 s6 s7 s8 s9 s10 s11
          subst e11 e10 e9 e8 e7 e6 e5 e4 e3 e2 e1 e0
          clear h
          simp only [over, Act.put, List.setIfInBounds_toArray, List.set_cons_zero, List.set_cons_succ]
          gi_wp2
          exact postK_normal ⟨_, rfl, rfl, Ext.refl _⟩
        refine AllSteps.cons (fun us hus w' x h => ?_) ?_
        · obtain ⟨u0, t0, e0, s0⟩ := len_cons hus; obtain ⟨u1, t1, e1, s1⟩ := len_cons s0; obtain ⟨u2, t2, e2, s2⟩ := len_cons s1; obtain ⟨u3, t3, e3, s3⟩ := len_cons s2; obtain ⟨u4, t4, e4, s4⟩ := len_cons s3; obtain ⟨u5, t5, e5, s5⟩ := len_cons s4; obtain ⟨u6, t6, e6, s6⟩ := len_cons s5; obtain ⟨u7, t7, e7, s7⟩ := len_cons s6; obtain ⟨u8, t8, e8, s8⟩ := len_cons s7; obtain ⟨u9, t9, e9, s9⟩ := len_cons s8; obtain ⟨u10, t10, e10, s10⟩ := len_cons s9; obtain ⟨u11, t11, e11, s11⟩ := len_cons s10
          obtain rfl := len_nil s11
          clear hus s0 s1 s2 s3 s4 s5 s6 s7 s8 s9 s10 s11
          subst e11 e10 e9 e8 e7 e6 e5 e4 e3 e2 e1 e0
          clear h
          simp only [over, Act.put, List.setIfInBounds_toArray, List.set_cons_zero, List.set_cons_succ]
          gi_wp2
          exact postK_normal ⟨_, rfl, rfl, Ext.refl _⟩
        refine AllSteps.cons (fun us hus w' x h => ?_) ?_
        · obtain ⟨u0, t0, e0, s0⟩ := len_cons hus; obtain ⟨u1, t1, e1, s1⟩ := len_cons s0; obtain ⟨u2, t2, e2, s2⟩ := len_cons s1; obtain ⟨u3, t3, e3, s3⟩ := len_cons s2; obtain ⟨u4, t4, e4, s4⟩ := len_cons s3; obtain ⟨u5, t5, e5, s5⟩ := len_cons s4; obtain ⟨u6, t6, e6, s6⟩ := len_cons s5; obtain ⟨u7, t7, e7, s7⟩ := len_cons s6; obtain ⟨u8, t8, e8, s8⟩ := len_cons s7; obtain ⟨u9, t9, e9, s9⟩ := len_cons s8; obtain ⟨u10, t10, e10, s10⟩ := len_cons s9; obtain ⟨u11, t11, e11, s11⟩ := len_cons s10
          obtain rfl := len_nil s11
          clear hus s0 s1 s2 s3 s4 s5 s6 s7 s8 s9 s10 s11
          subst e11 e10 e9 e8 e7 e6 e5 e4 e3 e2 e1 e0
          have h2 : u2 = .slice (some ⟨b1, o1, none⟩) fs.length c1 := h 2 (by kernel_rfl)
          have h3 : u3 = .int .i64 (j : Int) := h 3 (by kernel_rfl)
          clear h
          subst h2 h3
          simp only [over, Act.put, List.setIfInBounds_toArray, List.set_cons_zero, List.set_cons_succ]
          gi_wp2
          exact postK_normal ⟨_, rfl, rfl, Ext.refl _⟩
        refine AllSteps.cons (fun us hus w' x h => ?_) ?_
        · obtain ⟨u0, t0, e0, s0⟩ := len_cons hus; obtain ⟨u1, t1, e1, s1⟩ := len_cons s0; obtain ⟨u2, t2, e2, s2⟩ := len_cons s1; obtain ⟨u3, t3, e3, s3⟩ := len_cons s2; obtain ⟨u4, t4, e4, s4⟩ := len_cons s3; obtain ⟨u5, t5, e5, s5⟩ := len_cons s4; obtain ⟨u6, t6, e6, s6⟩ := len_cons s5; obtain ⟨u7, t7, e7, s7⟩ := len_cons s6; obtain ⟨u8, t8, e8, s8⟩ := len_cons s7; obtain ⟨u9, t9, e9, s9⟩ := len_cons s8; obtain ⟨u10, t10, e10, s10⟩ := len_cons s9; obtain ⟨u11, t11, e11, s11⟩ := len_cons s10
          obtain rfl := len_nil s11
          clear hus s0 s1 s2 s3 s4 s5 s6 s7 s8 s9 s10 s11
          subst e11 e10 e9 e8 e7 e6 e5 e4 e3 e2 e1 e0
          have h4 : u4 = .pointer (some ⟨b1, o1 + j, none⟩) := h 4 (by kernel_rfl)
          clear h
          subst h4
          simp only [over, Act.put, List.setIfInBounds_toArray, List.set_cons_zero, List.set_cons_succ]
          have d0 := (HX.out.trans x).cell HC1.out
          gi_wp2
          exact postK_normal ⟨_, rfl, rfl, Ext.refl _⟩
        refine AllSteps.cons (fun us hus w' x h => ?_) ?_
        · obtain ⟨u0, t0, e0, s0⟩ := len_cons hus; obtain ⟨u1, t1, e1, s1⟩ := len_cons s0; obtain ⟨u2, t2, e2, s2⟩ := len_cons s1; obtain ⟨u3, t3, e3, s3⟩ := len_cons s2; obtain ⟨u4, t4, e4, s4⟩ := len_cons s3; obtain ⟨u5, t5, e5, s5⟩ := len_cons s4; obtain ⟨u6, t6, e6, s6⟩ := len_cons s5; obtain ⟨u7, t7, e7, s7⟩ := len_cons s6; obtain ⟨u8, t8, e8, s8⟩ := len_cons s7; obtain ⟨u9, t9, e9, s9⟩ := len_cons s8; obtain ⟨u10, t10, e10, s10⟩ := len_cons s9; obtain ⟨u11, t11, e11, s11⟩ := len_cons s10
          obtain rfl := len_nil s11
          clear hus s0 s1 s2 s3 s4 s5 s6 s7 s8 s9 s10 s11
          subst e11 e10 e9 e8 e7 e6 e5 e4 e3 e2 e1 e0
          clear h
          simp only [over, Act.put, List.setIfInBounds_toArray, List.set_cons_zero, List.set_cons_succ]
          gi_wp2
          exact postK_normal ⟨_, rfl, rfl, Ext.refl _⟩
        refine AllSteps.cons (fun us hus w' x h => ?_) ?_
        · obtain ⟨u0, t0, e0, s0⟩ := len_cons hus; obtain ⟨u1, t1, e1, s1⟩ := len_cons s0; obtain ⟨u2, t2, e2, s2⟩ := len_cons s1; obtain ⟨u3, t3, e3, s3⟩ := len_cons s2; obtain ⟨u4, t4, e4, s4⟩ := len_cons s3; obtain ⟨u5, t5, e5, s5⟩ := len_cons s4; obtain ⟨u6, t6, e6, s6⟩ := len_cons s5; obtain ⟨u7, t7, e7, s7⟩ := len_cons s6; obtain ⟨u8, t8, e8, s8⟩ := len_cons s7; obtain ⟨u9, t9, e9, s9⟩ := len_cons s8; obtain ⟨u10, t10, e10, s10⟩ := len_cons s9; obtain ⟨u11, t11, e11, s11⟩ := len_cons s10
          obtain rfl := len_nil s11
          clear hus s0 s1 s2 s3 s4 s5 s6 s7 s8 s9 s10 s11
          subst e11 e10 e9 e8 e7 e6 e5 e4 e3 e2 e1 e0
          clear h
          simp only [over, Act.put, List.setIfInBounds_toArray, List.set_cons_zero, List.set_cons_succ]
          gi_wp2
          exact postK_normal ⟨_, rfl, rfl, Ext.refl _⟩
        refine AllSteps.cons (fun us hus w' x h => ?_) ?_
        · obtain ⟨u0, t0, e0, s0⟩ := len_cons hus; obtain ⟨u1, t1, e1, s1⟩ := len_cons s0; obtain ⟨u2, t2, e2, s2⟩ := len_cons s1; obtain ⟨u3, t3, e3, s3⟩ := len_cons s2; obtain ⟨u4, t4, e4, s4⟩ := len_cons s3; obtain ⟨u5, t5, e5, s5⟩ := len_cons s4; obtain ⟨u6, t6, e6, s6⟩ := len_cons s5; obtain ⟨u7, t7, e7, s7⟩ := len_cons s6; obtain ⟨u8, t8, e8, s8⟩ := len_cons s7; obtain ⟨u9, t9, e9, s9⟩ := len_cons s8; obtain ⟨u10, t10, e10, s10⟩ := len_cons s9; obtain ⟨u11, t11, e11, s11⟩ := len_cons s10
          obtain rfl := len_nil s11
          clear hus s0 s1 s2 s3 s4 s5 s6 s7 s8 s9 s10 s11
          subst e11 e10 e9 e8 e7 e6 e5 e4 e3 e2 e1 e0
          have h6 : u6 = .slice (some ⟨b2, o2, none⟩) ts.length c2 := h 6 (by kernel_rfl)
          have h7 : u7 = .int .i64 (j : Int) := h 7 (by kernel_rfl)
          clear h
          subst h6 h7
          simp only [over, Act.put, List.setIfInBounds_toArray, List.set_cons_zero, List.set_cons_succ]
          gi_wp2
          exact postK_normal ⟨_, rfl, rfl, Ext.refl _⟩
        refine AllSteps.cons (fun us hus w' x h => ?_) ?_
        · obtain ⟨u0, t0, e0, s0⟩ := len_cons hus; obtain ⟨u1, t1, e1, s1⟩ := len_cons s0; obtain ⟨u2, t2, e2, s2⟩ := len_cons s1; obtain ⟨u3, t3, e3, s3⟩ := len_cons s2; obtain ⟨u4, t4, e4, s4⟩ := len_cons s3; obtain ⟨u5, t5, e5, s5⟩ := len_cons s4; obtain ⟨u6, t6, e6, s6⟩ := len_cons s5; obtain ⟨u7, t7, e7, s7⟩ := len_cons s6; obtain ⟨u8, t8, e8, s8⟩ := len_cons s7; obtain ⟨u9, t9, e9, s9⟩ := len_cons s8; obtain ⟨u10, t10, e10, s10⟩ := len_cons s9; obtain ⟨u11, t11, e11, s11⟩ := len_cons s10
          obtain rfl := len_nil s11
          clear hus s0 s1 s2 s3 s4 s5 s6 s7 s8 s9 s10 s11
          subst e11 e10 e9 e8 e7 e6 e5 e4 e3 e2 e1 e0
          have h8 : u8 = .pointer (some ⟨b2, o2 + j, none⟩) := h 8 (by kernel_rfl)
          clear h
          subst h8
          simp only [over, Act.put, List.setIfInBounds_toArray, List.set_cons_zero, List.set_cons_succ]
          have d0 := (HX.out.trans x).cell HC2.out
          gi_wp2
          exact postK_normal ⟨_, rfl, rfl, Ext.refl _⟩
        refine AllSteps.cons (fun us hus w' x h => ?_) ?_
        · obtain ⟨u0, t0, e0, s0⟩ := len_cons hus; obtain ⟨u1, t1, e1, s1⟩ := len_cons s0; obtain ⟨u2, t2, e2, s2⟩ := len_cons s1; obtain ⟨u3, t3, e3, s3⟩ := len_cons s2; obtain ⟨u4, t4, e4, s4⟩ := len_cons s3; obtain ⟨u5, t5, e5, s5⟩ := len_cons s4; obtain ⟨u6, t6, e6, s6⟩ := len_cons s5; obtain ⟨u7, t7, e7, s7⟩ := len_cons s6; obtain ⟨u8, t8, e8, s8⟩ := len_cons s7; obtain ⟨u9, t9, e9, s9⟩ := len_cons s8; obtain ⟨u10, t10, e10, s10⟩ := len_cons s9; obtain ⟨u11, t11, e11, s11⟩ := len_cons s10
          obtain rfl := len_nil s11
          clear hus s0 s1 s2 s3 s4 s5 s6 s7 s8 s9 s10 s11
          subst e11 e10 e9 e8 e7 e6 e5 e4 e3 e2 e1 e0
          have h5 : u5 = .int .i32 p := h 5 (by kernel_rfl)
          have h9 : u9 = .int .i32 q := h 9 (by kernel_rfl)
          clear h
          subst h5 h9
          simp only [over, Act.put, List.setIfInBounds_toArray, List.set_cons_zero, List.set_cons_succ]
          gi_wp2
          exact postK_normal ⟨_, rfl, rfl, Ext.refl _⟩
        refine AllSteps.cons (fun us hus w' x h => ?_) ?_
        · obtain ⟨u0, t0, e0, s0⟩ := len_cons hus; obtain ⟨u1, t1, e1, s1⟩ := len_cons s0; obtain ⟨u2, t2, e2, s2⟩ := len_cons s1; obtain ⟨u3, t3, e3, s3⟩ := len_cons s2; obtain ⟨u4, t4, e4, s4⟩ := len_cons s3; obtain ⟨u5, t5, e5, s5⟩ := len_cons s4; obtain ⟨u6, t6, e6, s6⟩ := len_cons s5; obtain ⟨u7, t7, e7, s7⟩ := len_cons s6; obtain ⟨u8, t8, e8, s8⟩ := len_cons s7; obtain ⟨u9, t9, e9, s9⟩ := len_cons s8; obtain ⟨u10, t10, e10, s10⟩ := len_cons s9; obtain ⟨u11, t11, e11, s11⟩ := len_cons s10
          obtain rfl := len_nil s11
          clear hus s0 s1 s2 s3 s4 s5 s6 s7 s8 s9 s10 s11
          subst e11 e10 e9 e8 e7 e6 e5 e4 e3 e2 e1 e0
          have h10 : u10 = .agg #[.int .i32 p, .int .i32 q] := h 10 (by kernel_rfl)
          clear h
          subst h10
          simp only [over, Act.put, List.setIfInBounds_toArray, List.set_cons_zero, List.set_cons_succ]
          gi_wp2
          exact postK_normal ⟨_, rfl, ⟨w'.heap.size, rfl, news_alloc w' [.int .i32 p, .int .i32 q] 42⟩, Ext.alloc _ _⟩
        exact AllSteps.nil
      case fin =>
        intro us hus w' xx h
        obtain ⟨u0, t0, e0, s0⟩ := len_cons hus; obtain ⟨u1, t1, e1, s1⟩ := len_cons s0; obtain ⟨u2, t2, e2, s2⟩ := len_cons s1; obtain ⟨u3, t3, e3, s3⟩ := len_cons s2; obtain ⟨u4, t4, e4, s4⟩ := len_cons s3; obtain ⟨u5, t5, e5, s5⟩ := len_cons s4; obtain ⟨u6, t6, e6, s6⟩ := len_cons s5; obtain ⟨u7, t7, e7, s7⟩ := len_cons s6; obtain ⟨u8, t8, e8, s8⟩ := len_cons s7; obtain ⟨u9, t9, e9, s9⟩ := len_cons s8; obtain ⟨u10, t10, e10, s10⟩ := len_cons s9; obtain ⟨u11, t11, e11, s11⟩ := len_cons s10
        obtain rfl := len_nil s11
        clear hus s0 s1 s2 s3 s4 s5 s6 s7 s8 s9 s10 s11
        subst e11 e10 e9 e8 e7 e6 e5 e4 e3 e2 e1 e0
        have h1 : u1 = rv := h 1 (by decide)
        obtain ⟨n1, h11, hnews⟩ : ∃ n1, u11 = .slice (some ⟨n1, 0, none⟩) 1 1 ∧ ∀ i u, [Value.int .i32 p, Value.int .i32 q][i]? = some u → w'.cell? ((⟨n1, 0, none⟩ : Addr).add i) = some u := h 11 (by decide)
        clear h
        subst h1 h11
        have bX := boxed_ext HBX.out xx
        have b0 := boxed_ext HB0.out xx
        have OX := owns_keep HO.out xx
        have XX := HX.out.trans xx
        have hw' : B ≤ w'.heap.size := by have := xx.size; omega
        simp only [over, Act.put, List.setIfInBounds_toArray, List.set_cons_zero, List.set_cons_succ, List.length_cons, List.length_nil, Nat.zero_add, Nat.reduceAdd, List.drop_succ_cons, List.drop_zero]
        gi_at_builtin
        refine wpListIn_appendAt rfl 33 _ _ rfl 42 2 8 _ Tryd.underlying33 info_row rfl (by omega) B _ j (tcells A) rfl OX ⟨n1, 0, none⟩ 1 1 [.int .i32 p, .int .i32 q] rfl rfl hnews (by simp [Value.oneCell']) (by omega) (by omega) hw' ?_
        intro v3 w3 h3 g3 hat
        obtain ⟨g', cap', e3⟩ := ownsRow_succ h3
        subst e3
        have b3 := bX.kept g3 (bX.not_row (by decide) OX)
        have b03 := b0.kept g3 (b0.not_row (by decide) OX)
        have c3 := b3.cell
        have f3 := b3.frozen
        have B3 := owns_grown OX g3 hw' XX.below (by have := HBB.out; omega)
        have HB3 := Lib.hid b3
        have HB03 := Lib.hid b03
        have H3 := Lib.hid h3
        have HBE := Lib.hid B3
        clear b3 b03 B3 h3 hat hnews bX b0 OX XX g3
        gi_wp2
        go_wp2_with fail
        go_roundg (gk - 1)
        case measure => omega
        case rel => exact ⟨j + 1, _, by have := HJ.out; omega, by go_num, HB3.out.set _, HB03.out.other (by omega) _, by rw [HA.out, tcells_append]; exact owns_setBox H3.out HB3.out (by decide), ⟨HBE.out.setCell (p := ⟨B + 1, 0, none⟩) (by dsimp only; have := HBB.out; omega) _⟩⟩
    · have hje : j = Z.length := by omega
      have HO2 := Lib.hid (show wr.ownsRow B 42 2 rv Z.length (tcells Z) by
        have := HO.out
        rw [hje, List.take_length] at this
        exact this)
      have hT := vs_of_owns HO2.out
      have c0 := hbx.cell
      have f0 := hb0.frozen
      have c1 := hb0.cell
      have hnl : ¬ (j < fs.length ∧ j < ts.length) := by have := HZZ.out; omega
      obtain ⟨ra, rn, rc, er⟩ : ∃ a n c, rv = .slice a n c := by
        obtain ⟨_, a, c, e, _⟩ := hT
        exact ⟨_, _, _, e⟩
      subst er
      clear hj hbx hb0 hown
      have cR := (HB0.out.set (.slice ra rn rc)).cell
      have xR : Ext w (wr.setCell ⟨B, 0, none⟩ (.slice ra rn rc)) := ⟨HX.out.below.setCell (p := ⟨B, 0, none⟩) (by dsimp only; omega) _⟩
      have oR := vs_of_owns (owns_setBox (u := .slice ra rn rc) HO2.out HB0.out (by decide))
      by_cases hf1 : j < fs.length
      · have hf2 : ¬ j < ts.length := fun h => hnl ⟨hf1, h⟩
        go_wp2_with fail
        (try simp only [Exit.inBlock, Exit.then])
        refine bodyPost_ret (results_cell_row rfl _ _ B 35 #[.slice ra rn rc] (0, 0) _ rfl (HB0.out.set _) Tryd.underlying35 rfl (by kernel_rfl)) rfl ?_
        exact ⟨_, rfl, by rw [HZ.out]; exact oR, xR⟩
      · go_wp2_with fail
        (try simp only [Exit.inBlock, Exit.then])
        refine bodyPost_ret (results_cell_row rfl _ _ B 35 #[.slice ra rn rc] (0, 0) _ rfl (HB0.out.set _) Tryd.underlying35 rfl (by kernel_rfl)) rfl ?_
        exact ⟨_, rfl, by rw [HZ.out]; exact oR, xR⟩
end Go.Proofs.YtiahholgpbjjfaaDoor
