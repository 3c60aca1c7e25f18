/- The walk of the law FnExactMap: it returns true for every input. Printed by exactmap.py. -/
import Derived.Test.YtdlobdbclgcogaaDoorMapS
import Derived.Test.YtdlobdbclgcogaaDoorExactU
import Derived.Deep.RegionHeld3
import Derived.Deep.DeepCutAuto
namespace Go.Proofs.YtdlobdbclgcogaaDoor
open Go.RowKit

set_option maxRecDepth 100000 in
set_option maxHeartbeats 8000000 in
theorem FnExactMap_walk (w : World) (hT : Tabs w) (v0 : Value) (l0 : List UInt8) (b0 : Bs w v0 l0) (v1 : Value) (rows : List (Int × Int)) (i0 : Ts w v1 rows) (hR : ∀ r : Int, 0 ≤ r → r ≤ 1114111 → imageT rows r ≤ 2147483647) :
    Calls Tryd.prog 12 #[v0, .agg #[v1]] w fun e w' => e = .returned (.bool true) ∧ Below w.heap.size w w' := by
  have len0 := b0.len
  obtain ⟨a0, c0, rfl, _, _⟩ := b0.shape
  obtain ⟨a1, c1, rfl, _, _, _⟩ := i0.raw
  by_cases big0 : 1048576 < l0.length
  · go_enter Tryd.func12, Tryd.ntmps12
    go_wp2_with fail
    go_ret
    exact ⟨rfl, (Ext.alloc _ _).below⟩
  have sm0 : l0.length ≤ 281474976710656 := by omega
  have sm1 : l0.length ≤ 1099511627776 := by omega
  by_cases big1 : (1048576 : Int) - (rows.length : Int) < 0
  · have HS := Lib.hid (show szT rows.length 1048576 = -1 by unfold szT; rw [if_pos big1])
    clear big1
    go_enter Tryd.func12, Tryd.ntmps12
    go_wp2_with (go_at_call 38; refine (laws_szTable _ rows _ _ (i0.ext (Ext.alloc _ _)) (by omega) (by omega)).mono ?_)
    rintro _ w1 ⟨rfl, x1⟩
    rw [HS.out]
    have X := (Ext.alloc _ _).trans x1
    go_wp2_with fail
    go_ret
    exact ⟨rfl, X.below⟩
  have HS := Lib.hid (show szT rows.length 1048576 = 1048576 - (rows.length : Int) by unfold szT; rw [if_neg big1])
  have sm2 : rows.length ≤ 1048576 := by omega
  have sm3 : l0.length ≤ 1048576 := by omega
  have sm4 : rows.length ≤ 1048576 := by omega
  have rl : (mapB (imageT rows) l0).length ≤ 4194304 := by
    have h1 := mapC_size (imageT rows) (chunks l0)
    have h2 := chunks_length l0
    show (mapC _ _).length ≤ _
    omega
  have d1 : decide ((1 : Int) + (l0.length : Int) + 2 * (rows.length : Int) < 0) = false := by simp; omega
  have d2 : decide ((1 : Int) + ((mapB (imageT rows) l0).length : Int) < 0) = false := by simp; omega
  clear big0
  go_enter Tryd.func12, Tryd.ntmps12
  go_wp2_with (go_at_call 38; refine (laws_szTable _ rows _ _ (i0.ext (Ext.alloc _ _)) (by omega) (by omega)).mono ?_)
  rintro _ w1 ⟨rfl, x1⟩
  rw [HS.out]
  obtain ⟨n, hn⟩ : ∃ n, w.heap.size = n := ⟨_, rfl⟩
  have f0 := x1.cell (p := ⟨n, 0, none⟩) (v := .slice a1 rows.length c1) (by rw [← hn, World.cell?_alloc_mark]; rfl)
  have X := (Ext.alloc _ _).trans x1
  have hB : ∀ W, Ext w1 W → Bs W (.slice a0 l0.length c0) l0 := fun W x => b0.ext (X.trans x)
  have hI : ∀ W, Ext w1 W → Ts W (.slice a1 rows.length c1) rows := fun W x => i0.ext (X.trans x)
  have hTT : ∀ W, Ext w1 W → Tabs W := fun W x => hT.ext (X.trans x)
  rw [hn]
  have HN := Lib.hid hn
  have HX := Lib.hid X
  have HB := Lib.hid hB
  have HI := Lib.hid hI
  have HT := Lib.hid hTT
  have HF0 := Lib.hid f0
  have HLE := Lib.hid hR
  clear x1 hn X hB hI hTT hT b0 i0 f0 hR
  have X := Below.refl w1.heap.size w1
  have s1 : w1.heap.size ≤ w1.heap.size := Nat.le_refl _
  go_upto_region 7 with fail
  go_cut [6] (fun sv wx => Own w1.heap.size wx.heap.size wx sv (mapB (imageT rows) l0) ∧ Ext w1 wx)
  case first =>
    have Y : Ext w1 w1 := ⟨X⟩
    have f0 := Y.cell HF0.out
    have YB := fun W (z : Ext w1 W) => HB.out W (Y.trans z)
    have YI := fun W (z : Ext w1 W) => HI.out W (Y.trans z)
    have YT := fun W (z : Ext w1 W) => HT.out W (Y.trans z)
    replace YB := Lib.hid YB
    replace YI := Lib.hid YI
    replace YT := Lib.hid YT
    clear Y
    go_region_held3 (fun w' => w'.cell? ⟨n, 0, none⟩ = some (.slice a1 rows.length c1))
      (exact Ext.cell (by repeat (first | exact Ext.refl _ | assumption | exact Ext.drew _ | (refine Ext.trans ?_ (by assumption)) | (refine Ext.trans ?_ (Ext.drew _)) | (refine Ext.trans ?_ (Ext.alloc _ _)))) f0)
      (first
        | (go_at_call 21; refine (laws_toByteS _ l0 _ (YB.out _ ?_) sm0).mono ?_; (repeat (first | exact Ext.refl _ | assumption | exact Ext.drew _ | (refine Ext.trans ?_ (by assumption)) | (refine Ext.trans ?_ (Ext.drew _)) | (refine Ext.trans ?_ (Ext.alloc _ _)))); rintro _ w2' ⟨v2', rfl, o2, z2⟩)
        | (go_at_call 40; refine (laws_toTable _ rows _ (YI.out _ ?_) sm2).mono ?_; (repeat (first | exact Ext.refl _ | assumption | exact Ext.drew _ | (refine Ext.trans ?_ (by assumption)) | (refine Ext.trans ?_ (Ext.drew _)) | (refine Ext.trans ?_ (Ext.alloc _ _)))); rintro _ w3' ⟨v3', rfl, o3, z3⟩)
        | (go_at_call 39; refine (spec_Map _ _ l0 rows _ (o2.bs.ext ?_) (o3.bs.ext ?_) sm1 HLE.out).mono ?_; (repeat (first | exact Ext.refl _ | assumption | exact Ext.drew _ | (refine Ext.trans ?_ (by assumption)) | (refine Ext.trans ?_ (Ext.drew _)) | (refine Ext.trans ?_ (Ext.alloc _ _)))); (repeat (first | exact Ext.refl _ | assumption | exact Ext.drew _ | (refine Ext.trans ?_ (by assumption)) | (refine Ext.trans ?_ (Ext.drew _)) | (refine Ext.trans ?_ (Ext.alloc _ _)))); rintro _ w4' ⟨v4', rfl, o4, z4⟩))
    all_goals
      have Z : Ext w1 w4' := by repeat (first | exact Ext.refl _ | assumption | exact Ext.drew _ | (refine Ext.trans ?_ (by assumption)) | (refine Ext.trans ?_ (Ext.drew _)) | (refine Ext.trans ?_ (Ext.alloc _ _)))
      have zs : w1.heap.size ≤ w4'.heap.size := Z.size
      go_wp2_with fail
      go_meet
      exact ⟨o4.mono (by (repeat (first | exact Nat.le_refl _ | (refine Nat.le_trans ?_ (Ext.size (by assumption))) | (refine Nat.le_trans ?_ (Ext.drew _).size)))) (Nat.le_refl _), Z⟩
  case rest =>
    obtain ⟨r, x2⟩ := hcut
    obtain ⟨w2, hw2⟩ : ∃ w2, w2 = wc := ⟨_, rfl⟩
    subst hw2
    rename_i vr
    replace X := below_ext X x2 s1
    have t2 := x2.size
    have s2 : w1.heap.size ≤ w2.heap.size := Nat.le_trans s1 t2
    clear x2
    go_wp2_with (go_at_call 21; refine (laws_toByteS _ l0 _ (HB.out _ (⟨X⟩ : Ext w1 w2)) sm0).mono ?_)
    rintro _ w3 ⟨v3, rfl, q0, x3⟩
    replace r := r.ext x3
    replace X := below_ext X x3 s2
    have t3 := x3.size
    have s3 : w1.heap.size ≤ w3.heap.size := Nat.le_trans s2 t3
    clear x3
    have f0 := (⟨X⟩ : Ext w1 w3).cell HF0.out
    go_wp2_with (go_at_call 40; refine (laws_toTable _ rows _ (HI.out _ (⟨X⟩ : Ext w1 w3)) sm2).mono ?_)
    rintro _ w4 ⟨v4, rfl, q1, x4⟩
    clear f0
    replace r := r.ext x4
    replace q0 := q0.ext x4
    replace X := below_ext X x4 s3
    have t4 := x4.size
    have s4 : w1.heap.size ≤ w4.heap.size := Nat.le_trans s3 t4
    clear x4
    obtain ⟨a6, c6, e6, _, _, _⟩ := q1.bs.raw
    subst e6
    go_wp2_with (go_at_call 14; refine (impl_Map _ _ rows l0 _ (q1.bs.ext (Ext.alloc _ _)) (q0.bs.ext (Ext.alloc _ _)) (HT.out _ ((⟨X⟩ : Ext w1 w4).trans (Ext.alloc _ _))) (by omega) HLE.out).mono ?_)
    rintro _ w5 ⟨v5, rfl, g, x5⟩
    obtain ⟨m, hm⟩ : ∃ m, w4.heap.size = m := ⟨_, rfl⟩
    have g0 := x5.cell (p := ⟨m, 0, none⟩) (v := .slice a6 rows.length c6) (by rw [← hm, World.cell?_alloc_mark]; rfl)
    rw [hm]
    have hm1 : m + 1 ≤ w5.heap.size := by have := x5.size; rw [← hm]; simpa using this
    have hm2 : (w4.alloc (.cells #[.slice a6 rows.length c6] 28)).heap.size = m + 1 := by rw [← hm]; simp
    rw [hm2] at g
    have HM : w4.heap.size ≤ m := by omega
    have HM' : m ≤ w4.heap.size := by omega
    clear hm2 hm
    replace x5 := (Ext.alloc _ _).trans x5
    replace r := r.ext x5
    replace q0 := q0.ext x5
    replace q1 := q1.ext x5
    replace X := below_ext X x5 s4
    have t5 := x5.size
    have s5 : w1.heap.size ≤ w5.heap.size := Nat.le_trans s4 t5
    clear x5
    go_wp2_with (go_at_call 23; refine (laws_eqByteS_same _ _ _ _ g.bs r.bs).mono ?_)
    rintro _ w6 ⟨rfl, x6⟩
    replace r := r.ext x6
    replace q0 := q0.ext x6
    replace q1 := q1.ext x6
    replace g := g.ext x6
    replace g0 := x6.cell g0
    replace X := below_ext X x6 s5
    have t6 := x6.size
    have s6 : w1.heap.size ≤ w6.heap.size := Nat.le_trans s5 t6
    clear x6
    go_wp2_with (go_at_call 21; refine (laws_toByteS _ l0 _ (HB.out _ (⟨X⟩ : Ext w1 w6)) sm0).mono ?_)
    rintro _ w7 ⟨v7, rfl, z0, x7⟩
    replace r := r.ext x7
    replace q0 := q0.ext x7
    replace q1 := q1.ext x7
    replace g := g.ext x7
    replace g0 := x7.cell g0
    replace X := below_ext X x7 s6
    have t7 := x7.size
    have s7 : w1.heap.size ≤ w7.heap.size := Nat.le_trans s6 t7
    clear x7
    go_wp2_with (go_at_call 23; refine (laws_eqByteS_same _ _ _ _ q0.bs z0.bs).mono ?_)
    rintro _ w8 ⟨rfl, x8⟩
    replace r := r.ext x8
    replace q0 := q0.ext x8
    replace q1 := q1.ext x8
    replace g := g.ext x8
    replace z0 := z0.ext x8
    replace g0 := x8.cell g0
    replace X := below_ext X x8 s7
    have t8 := x8.size
    have s8 : w1.heap.size ≤ w8.heap.size := Nat.le_trans s7 t8
    clear x8
    clear z0
    go_upto_region 15 with fail
    go_cut [47] (fun sv wx => sv = .bool false ∧ Ext w8 wx)
    case first =>
      have Y : Ext w1 w8 := ⟨X⟩
      have f0 := Y.cell HF0.out
      have YI := fun W (z : Ext w8 W) => HI.out W (Y.trans z)
      replace YI := Lib.hid YI
      have Q1 := Lib.hid q1
      clear Y q1
      go_region_held3 (fun w' => w'.cell? ⟨n, 0, none⟩ = some (.slice a1 rows.length c1) ∧ w'.cell? ⟨m, 0, none⟩ = some (.slice a6 rows.length c6))
        (exact ⟨Ext.cell (by repeat (first | exact Ext.refl _ | assumption | exact Ext.drew _ | (refine Ext.trans ?_ (by assumption)) | (refine Ext.trans ?_ (Ext.drew _)) | (refine Ext.trans ?_ (Ext.alloc _ _)))) f0, Ext.cell (by repeat (first | exact Ext.refl _ | assumption | exact Ext.drew _ | (refine Ext.trans ?_ (by assumption)) | (refine Ext.trans ?_ (Ext.drew _)) | (refine Ext.trans ?_ (Ext.alloc _ _)))) g0⟩)
        (first
          | (go_at_call 40; refine (laws_toTable _ rows _ (YI.out _ ?_) sm2).mono ?_; (repeat (first | exact Ext.refl _ | assumption | exact Ext.drew _ | (refine Ext.trans ?_ (by assumption)) | (refine Ext.trans ?_ (Ext.drew _)) | (refine Ext.trans ?_ (Ext.alloc _ _)))); rintro _ w3' ⟨v3', rfl, o3, z3⟩)
          | (go_at_call 41; refine (laws_eqTable _ _ rows _ (Q1.out.bs.ext ?_) (o3.bs.ext ?_)).mono ?_; (repeat (first | exact Ext.refl _ | assumption | exact Ext.drew _ | (refine Ext.trans ?_ (by assumption)) | (refine Ext.trans ?_ (Ext.drew _)) | (refine Ext.trans ?_ (Ext.alloc _ _)))); (repeat (first | exact Ext.refl _ | assumption | exact Ext.drew _ | (refine Ext.trans ?_ (by assumption)) | (refine Ext.trans ?_ (Ext.drew _)) | (refine Ext.trans ?_ (Ext.alloc _ _)))); rintro _ w4' ⟨rfl, z4⟩))
      all_goals
        have Z : Ext w8 w4' := by repeat (first | exact Ext.refl _ | assumption | exact Ext.drew _ | (refine Ext.trans ?_ (by assumption)) | (refine Ext.trans ?_ (Ext.drew _)) | (refine Ext.trans ?_ (Ext.alloc _ _)))
        go_wp2_with fail
        go_meet
        exact ⟨rfl, Z⟩
    case rest =>
      obtain ⟨rfl, x9⟩ := hcut
      obtain ⟨w9, hw9⟩ : ∃ w9, w9 = wc := ⟨_, rfl⟩
      subst hw9
      replace r := r.ext x9
      replace q0 := q0.ext x9
      replace q1 := q1.ext x9
      replace g := g.ext x9
      replace g0 := x9.cell g0
      replace X := below_ext X x9 s8
      have t9 := x9.size
      have s9 : w1.heap.size ≤ w9.heap.size := Nat.le_trans s8 t9
      clear x9
      go_wp2_with (go_at_call 24; refine (laws_markByteS _ _ _ 1 _ _ _ q0 rfl (by omega)).mono ?_)
      rintro _ w10 ⟨rfl, m10, x10⟩
      replace r := r.fr x10 (by omega)
      replace q1 := q1.fr x10 (by omega)
      replace g := g.fr x10 (by omega)
      replace g0 := x10.cell (by dsimp only; omega) g0
      replace X := below_fr X x10 (.inl (by omega)) s9
      have t10 := x10.size
      have s10 : w1.heap.size ≤ w10.heap.size := Nat.le_trans s9 t10
      clear q0 x10
      go_wp2_with (go_at_call 42; refine (laws_markTable _ _ _ (1 + l0.length) _ _ _ q1 (by omega) (by omega)).mono ?_)
      rintro _ w11 ⟨rfl, x11⟩
      replace r := r.fr x11 (by omega)
      replace m10 := m10.fr x11 (by omega)
      replace g := g.fr x11 (by omega)
      replace g0 := x11.cell (by dsimp only; omega) g0
      replace X := below_fr X x11 (.inl (by omega)) s10
      have t11 := x11.size
      have s11 : w1.heap.size ≤ w11.heap.size := Nat.le_trans s10 t11
      clear q1 x11
      go_wp2_with (go_at_call 23; refine (laws_eqByteS_same _ _ _ _ g.bs r.bs).mono ?_)
      rintro _ w12 ⟨rfl, x12⟩
      replace r := r.ext x12
      replace m10 := m10.ext x12
      replace g := g.ext x12
      replace g0 := x12.cell g0
      replace X := below_ext X x12 s11
      have t12 := x12.size
      have s12 : w1.heap.size ≤ w12.heap.size := Nat.le_trans s11 t12
      clear x12
      go_wp2_with (go_at_call 24; refine (laws_markByteS _ _ _ 1 _ _ _ g rfl (by omega)).mono ?_)
      rintro _ w13 ⟨rfl, m13, x13⟩
      replace r := r.fr x13 (by omega)
      replace m10 := m10.fr x13 (by omega)
      replace g0 := x13.cell (by dsimp only; omega) g0
      replace X := below_fr X x13 (.inl (by omega)) s12
      have t13 := x13.size
      have s13 : w1.heap.size ≤ w13.heap.size := Nat.le_trans s12 t13
      clear g x13
      go_wp2_with (go_at_call 25; refine (laws_heldByteS _ _ 1 _ _ m13.bs rfl (by omega)).mono ?_)
      rintro _ w14 ⟨rfl, x14⟩
      replace r := r.ext x14
      replace m10 := m10.ext x14
      replace m13 := m13.ext x14
      replace g0 := x14.cell g0
      replace X := below_ext X x14 s13
      have t14 := x14.size
      have s14 : w1.heap.size ≤ w14.heap.size := Nat.le_trans s13 t14
      clear x14
      clear m10
      clear g0
      go_upto_region 30 with fail
      go_cut [13] (fun sv wx => Bs wx sv (mapB (imageT rows) l0) ∧ Ext w14 wx)
      case first =>
        have Y : Ext w1 w14 := ⟨X⟩
        have f0 := Y.cell HF0.out
        have YB := fun W (z : Ext w14 W) => HB.out W (Y.trans z)
        have YI := fun W (z : Ext w14 W) => HI.out W (Y.trans z)
        have YT := fun W (z : Ext w14 W) => HT.out W (Y.trans z)
        replace YB := Lib.hid YB
        replace YI := Lib.hid YI
        replace YT := Lib.hid YT
        clear Y
        go_region_held3 (fun w' => w'.cell? ⟨n, 0, none⟩ = some (.slice a1 rows.length c1))
          (exact Ext.cell (by repeat (first | exact Ext.refl _ | assumption | exact Ext.drew _ | (refine Ext.trans ?_ (by assumption)) | (refine Ext.trans ?_ (Ext.drew _)) | (refine Ext.trans ?_ (Ext.alloc _ _)))) f0)
          (first
            | (go_at_call 21; refine (laws_toByteS _ l0 _ (YB.out _ ?_) sm0).mono ?_; (repeat (first | exact Ext.refl _ | assumption | exact Ext.drew _ | (refine Ext.trans ?_ (by assumption)) | (refine Ext.trans ?_ (Ext.drew _)) | (refine Ext.trans ?_ (Ext.alloc _ _)))); rintro _ w2' ⟨v2', rfl, o2, z2⟩)
            | (go_at_call 40; refine (laws_toTable _ rows _ (YI.out _ ?_) sm2).mono ?_; (repeat (first | exact Ext.refl _ | assumption | exact Ext.drew _ | (refine Ext.trans ?_ (by assumption)) | (refine Ext.trans ?_ (Ext.drew _)) | (refine Ext.trans ?_ (Ext.alloc _ _)))); rintro _ w3' ⟨v3', rfl, o3, z3⟩)
            | (go_at_call 14; refine (impl_Map _ _ rows l0 _ (o3.bs.ext ?_) (o2.bs.ext ?_) (YT.out _ ?_) (by omega) HLE.out).mono ?_; (repeat (first | exact Ext.refl _ | assumption | exact Ext.drew _ | (refine Ext.trans ?_ (by assumption)) | (refine Ext.trans ?_ (Ext.drew _)) | (refine Ext.trans ?_ (Ext.alloc _ _)))); (repeat (first | exact Ext.refl _ | assumption | exact Ext.drew _ | (refine Ext.trans ?_ (by assumption)) | (refine Ext.trans ?_ (Ext.drew _)) | (refine Ext.trans ?_ (Ext.alloc _ _)))); (repeat (first | exact Ext.refl _ | assumption | exact Ext.drew _ | (refine Ext.trans ?_ (by assumption)) | (refine Ext.trans ?_ (Ext.drew _)) | (refine Ext.trans ?_ (Ext.alloc _ _)))); rintro _ w4' ⟨v4', rfl, o4, z4⟩))
        all_goals
          have Z : Ext w14 w4' := by repeat (first | exact Ext.refl _ | assumption | exact Ext.drew _ | (refine Ext.trans ?_ (by assumption)) | (refine Ext.trans ?_ (Ext.drew _)) | (refine Ext.trans ?_ (Ext.alloc _ _)))
          have zs : w14.heap.size ≤ w4'.heap.size := Z.size
          go_wp2_with fail
          go_meet
          exact ⟨o4.bs, Z⟩
      case rest =>
        obtain ⟨h, x15⟩ := hcut
        obtain ⟨w15, hw15⟩ : ∃ w15, w15 = wc := ⟨_, rfl⟩
        subst hw15
        replace r := r.ext x15
        replace m13 := m13.ext x15
        replace X := below_ext X x15 s14
        have t15 := x15.size
        have s15 : w1.heap.size ≤ w15.heap.size := Nat.le_trans s14 t15
        clear x15
        go_wp2_with (go_at_call 23; refine (laws_eqByteS_same _ _ _ _ h r.bs).mono ?_)
        rintro _ w16 ⟨rfl, x16⟩
        replace r := r.ext x16
        replace m13 := m13.ext x16
        replace h := h.ext x16
        replace X := below_ext X x16 s15
        have t16 := x16.size
        have s16 : w1.heap.size ≤ w16.heap.size := Nat.le_trans s15 t16
        clear x16
        go_wp2_with (go_at_call 25; refine (laws_heldByteS _ _ 1 _ _ m13.bs rfl (by omega)).mono ?_)
        rintro _ w17 ⟨rfl, x17⟩
        replace r := r.ext x17
        replace m13 := m13.ext x17
        replace h := h.ext x17
        replace X := below_ext X x17 s16
        have t17 := x17.size
        have s17 : w1.heap.size ≤ w17.heap.size := Nat.le_trans s16 t17
        clear x17
        go_wp2_with fail
        go_ret
        exact ⟨rfl, (HX.out.trans ⟨X⟩).below⟩
end Go.Proofs.YtdlobdbclgcogaaDoor
