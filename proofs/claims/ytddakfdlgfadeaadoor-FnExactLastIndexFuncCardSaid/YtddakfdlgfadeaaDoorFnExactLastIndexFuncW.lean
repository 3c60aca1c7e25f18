/- The walk of the law FnExactLastIndexFunc: it returns true for every input. Printed by exactf.py. -/
import Derived.Test.YtddakfdlgfadeaaDoorFuncW
import Derived.Deep.RegionWith
namespace Go.Proofs.YtddakfdlgfadeaaDoor
open Go.RowKit

set_option maxRecDepth 100000 in
set_option maxHeartbeats 4000000 in
theorem FnExactLastIndexFunc_walk (w : World) (hT : Tabs w) (v0 : Value) (l0 : List UInt8) (b0 : Bs w v0 l0) (v1 : Value) (rs : List Int) (nt : Bool) (i0 : Is w v1 rs) :
    Calls Tryd.prog 8 #[v0, .agg #[v1, .bool nt]] w fun e w' => e = .returned (.bool true) ∧ Below w.heap.size w w' := by
  have len0 := b0.len
  obtain ⟨a0, c0, rfl, _, _⟩ := b0.shape
  obtain ⟨a1, c1, rfl, _, _, _⟩ := i0.raw
  by_cases big0 : 1048576 < l0.length
  · go_enter Tryd.func8, Tryd.ntmps8
    go_wp2_with fail
    go_ret
    exact ⟨rfl, (Ext.alloc _ _).below⟩
  have sm0 : l0.length ≤ 281474976710656 := by omega
  have sm1 : l0.length ≤ 1099511627776 := by omega
  by_cases big1 : (1048576 : Int) - (rs.length : Int) < 0
  · have HS := Lib.hid (show szT rs.length 1048576 = -1 by unfold szT; rw [if_pos big1])
    clear big1
    go_enter Tryd.func8, Tryd.ntmps8
    go_wp2_with (go_at_call 15; refine (laws_szTest _ rs nt _ _ (i0.ext (Ext.alloc _ _)) (by omega) (by omega)).mono ?_)
    rintro _ w1 ⟨rfl, x1⟩
    rw [HS.out]
    have X := (Ext.alloc _ _).trans x1
    go_wp2_with fail
    go_ret
    exact ⟨rfl, X.below⟩
  have HS := Lib.hid (show szT rs.length 1048576 = 1048576 - (rs.length : Int) by unfold szT; rw [if_neg big1])
  have sm2 : rs.length ≤ 70368744177664 := by omega
  go_enter Tryd.func8, Tryd.ntmps8
  go_wp2_with (go_at_call 15; refine (laws_szTest _ rs nt _ _ (i0.ext (Ext.alloc _ _)) (by omega) (by omega)).mono ?_)
  rintro _ w1 ⟨rfl, x1⟩
  rw [HS.out]
  obtain ⟨n, hn⟩ : ∃ n, w.heap.size = n := ⟨_, rfl⟩
  have f0 := x1.cell (p := ⟨n, 0, none⟩) (v := .slice a1 rs.length c1) (by rw [← hn, World.cell?_alloc_mark]; rfl)
  have f1 := x1.cell (p := ⟨n, 1, none⟩) (v := .bool nt) (by rw [← hn, World.cell?_alloc_mark]; rfl)
  have X := (Ext.alloc _ _).trans x1
  have hB : ∀ W, Ext w1 W → Bs W (.slice a0 l0.length c0) l0 := fun W x => b0.ext (X.trans x)
  have hI : ∀ W, Ext w1 W → Is W (.slice a1 rs.length c1) rs := fun W x => i0.ext (X.trans x)
  have hTT : ∀ W, Ext w1 W → Tabs W := fun W x => hT.ext (X.trans x)
  rw [hn]
  have HN := Lib.hid hn
  have HX := Lib.hid X
  have HB := Lib.hid hB
  have HI := Lib.hid hI
  have HT := Lib.hid hTT
  clear x1 hn X hB hI hTT hT b0 i0
  go_wp2_with fail
  go_region_with (first
    | (go_at_call 17; refine (laws_toByteS _ l0 _ (HB.out _ ?_) sm0).mono ?_; (repeat (first | exact Ext.refl _ | assumption | exact Ext.drew _ | (refine Ext.trans ?_ (by assumption)) | (refine Ext.trans ?_ (Ext.drew _)) | (refine Ext.trans ?_ (Ext.alloc _ _)))); rintro _ w2 ⟨v2, rfl, o2, x2⟩; replace f0 := x2.cell f0; replace f1 := x2.cell f1)
    | (go_at_call 18; refine (laws_toTest _ rs nt _ (HI.out _ ?_) sm2).mono ?_; (repeat (first | exact Ext.refl _ | assumption | exact Ext.drew _ | (refine Ext.trans ?_ (by assumption)) | (refine Ext.trans ?_ (Ext.drew _)) | (refine Ext.trans ?_ (Ext.alloc _ _)))); rintro _ w3 ⟨v3, rfl, o3, x3⟩; replace f0 := x3.cell f0; replace f1 := x3.cell f1)
    | (go_at_call 35; refine (spec_LastIndexFunc _ l0 _ rs nt _ sm1 (o2.bs.ext ?_) (o3.bs.is.ext ?_)).mono ?_; (repeat (first | exact Ext.refl _ | assumption | exact Ext.drew _ | (refine Ext.trans ?_ (by assumption)) | (refine Ext.trans ?_ (Ext.drew _)) | (refine Ext.trans ?_ (Ext.alloc _ _)))); (repeat (first | exact Ext.refl _ | assumption | exact Ext.drew _ | (refine Ext.trans ?_ (by assumption)) | (refine Ext.trans ?_ (Ext.drew _)) | (refine Ext.trans ?_ (Ext.alloc _ _)))); rintro _ w4 ⟨rfl, x4⟩; replace f0 := x4.cell f0; replace f1 := x4.cell f1))
  all_goals
    have X4 : Ext w1 w4 := by (repeat (first | exact Ext.refl _ | assumption | exact Ext.drew _ | (refine Ext.trans ?_ (by assumption)) | (refine Ext.trans ?_ (Ext.drew _)) | (refine Ext.trans ?_ (Ext.alloc _ _))))
    clear x2 x3 x4 o2 o3
    go_wp2_with (go_at_call 17; refine (laws_toByteS _ l0 _ (HB.out _ X4) sm0).mono ?_)
    rintro _ w5 ⟨v5, rfl, o5, x5⟩
    replace f0 := x5.cell f0
    replace f1 := x5.cell f1
    have X5 := X4.trans x5
    clear X4 x5
    go_wp2_with (go_at_call 18; refine (laws_toTest _ rs nt _ (HI.out _ X5) sm2).mono ?_)
    rintro _ w6 ⟨v6, rfl, o6, x6⟩
    have i6 := o6.bs.is
    obtain ⟨a6, c6, rfl, _, _, _⟩ := i6.raw
    replace f0 := x6.cell f0
    replace f1 := x6.cell f1
    have q5 := o5.bs.ext x6
    have X6 := X5.trans x6
    clear X5 x6 o5 o6
    go_wp2_with (go_at_call 36; refine (impl_LastIndexFunc _ l0 _ rs nt _ (q5.ext (Ext.alloc _ _)) (i6.ext (Ext.alloc _ _)) (HT.out _ (X6.trans (Ext.alloc _ _)))).mono ?_)
    rintro _ w7 ⟨rfl, x7⟩
    obtain ⟨m, hm⟩ : ∃ m, w6.heap.size = m := ⟨_, rfl⟩
    have g0 := x7.cell (p := ⟨m, 0, none⟩) (v := .slice a6 rs.length c6) (by rw [← hm, World.cell?_alloc_mark]; rfl)
    have g1 := x7.cell (p := ⟨m, 1, none⟩) (v := .bool nt) (by rw [← hm, World.cell?_alloc_mark]; rfl)
    rw [hm]
    replace x7 := (Ext.alloc _ _).trans x7
    replace f0 := x7.cell f0
    replace f1 := x7.cell f1
    replace q5 := q5.ext x7
    replace i6 := i6.ext x7
    have X7 := X6.trans x7
    clear X6 x7 hm
    go_wp2_with (go_at_call 17; refine (laws_toByteS _ l0 _ (HB.out _ X7) sm0).mono ?_)
    rintro _ w8 ⟨v8, rfl, o8, x8⟩
    replace f0 := x8.cell f0
    replace f1 := x8.cell f1
    replace g0 := x8.cell g0
    replace g1 := x8.cell g1
    replace q5 := q5.ext x8
    replace i6 := i6.ext x8
    have X8 := X7.trans x8
    clear X7 x8
    go_wp2_with (go_at_call 20; refine (laws_eqByteS_same _ _ _ _ q5 o8.bs).mono ?_)
    rintro _ w9 ⟨rfl, x9⟩
    replace f0 := x9.cell f0
    replace f1 := x9.cell f1
    replace g0 := x9.cell g0
    replace g1 := x9.cell g1
    replace i6 := i6.ext x9
    have X9 := X8.trans x9
    clear X8 x9 q5 o8
    go_wp2_with fail
    go_region_with (first
      | (go_at_call 18; refine (laws_toTest _ rs nt _ (HI.out _ ?_) sm2).mono ?_; (repeat (first | exact Ext.refl _ | assumption | exact Ext.drew _ | (refine Ext.trans ?_ (by assumption)) | (refine Ext.trans ?_ (Ext.drew _)) | (refine Ext.trans ?_ (Ext.alloc _ _)))); rintro _ w10 ⟨v10, rfl, o10, x10⟩; replace f0 := x10.cell f0; replace f1 := x10.cell f1; replace g0 := x10.cell g0; replace g1 := x10.cell g1)
      | (go_at_call 21; refine (laws_eqTest _ _ rs nt _ (i6.ext ?_) (o10.bs.is.ext ?_)).mono ?_; (repeat (first | exact Ext.refl _ | assumption | exact Ext.drew _ | (refine Ext.trans ?_ (by assumption)) | (refine Ext.trans ?_ (Ext.drew _)) | (refine Ext.trans ?_ (Ext.alloc _ _)))); (repeat (first | exact Ext.refl _ | assumption | exact Ext.drew _ | (refine Ext.trans ?_ (by assumption)) | (refine Ext.trans ?_ (Ext.drew _)) | (refine Ext.trans ?_ (Ext.alloc _ _)))); rintro _ w11 ⟨rfl, x11⟩))
    all_goals
      have X11 : Ext w w11 := HX.out.trans (X9.trans (by (repeat (first | exact Ext.refl _ | assumption | exact Ext.drew _ | (refine Ext.trans ?_ (by assumption)) | (refine Ext.trans ?_ (Ext.drew _)) | (refine Ext.trans ?_ (Ext.alloc _ _))))))
      clear x10 x11 o10 i6
      go_wp2_with fail
      go_ret
      exact ⟨rfl, X11.below⟩
end Go.Proofs.YtddakfdlgfadeaaDoor
