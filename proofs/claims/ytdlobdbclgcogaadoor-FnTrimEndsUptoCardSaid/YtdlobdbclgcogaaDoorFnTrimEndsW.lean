/- The walk of the law FnTrimEnds: it returns true where the texts have at most 2^20 bytes. -/
import Derived.Test.YtdlobdbclgcogaaDoorCutW
import Derived.Test.YtdlobdbclgcogaaDoorFuncW
import Derived.Test.YtdlobdbclgcogaaDoorPointsW
import Derived.Test.YtdlobdbclgcogaaDoorRunesW
import Derived.Deep.DeepCutAuto
namespace Go.Proofs.YtdlobdbclgcogaaDoor
open Go.RowKit

theorem lastC_end (q : Int → Bool) (M : List Ch) (c : Ch) (h : q c.r = true) : lastC q 0 (M ++ [c]) = ((placeOf (M ++ [c]) M.length : Nat) : Int) := by
  have hlt : M.length < (M ++ [c]).length := by simp
  have := lastC_at q (M ++ [c]) 0 M.length hlt (by simp) (by simpa using h)
  simpa using this

theorem trim_ends (cs : List UInt8) (l : List UInt8) : (tB (inP cs) l = [] ∧ firstC (holdsT (runesOf (chunks cs)) true) 0 (chunks l) = -1) ∨
    (tB (inP cs) l ≠ [] ∧ firstC (holdsT (runesOf (chunks cs)) true) 0 (chunks (tB (inP cs) l)) = 0 ∧ lastC (holdsT (runesOf (chunks cs)) true) 0 (chunks (tB (inP cs) l)) = lastC (holdsT [] true) 0 (chunks (tB (inP cs) l))) := by
  have hn : holdsT (runesOf (chunks cs)) true = fun r => !inP cs r := by
    funext r
    unfold inP holdsT
    split <;> rfl
  rw [hn]
  rcases trim_cases (inP cs) l with ⟨h, _, _, h3⟩ | ⟨A, M, B, h⟩
  · exact .inl ⟨h3, first_not_none h⟩
  · right
    rw [h.t]
    refine ⟨h.ne, h.first_m, ?_⟩
    obtain ⟨M', c, e, hc⟩ := h.last
    rw [h.cm, e, lastC_end _ M' c (by simp [hc]), lastC_end (holdsT [] true) M' c rfl]

set_option maxRecDepth 100000 in
set_option maxHeartbeats 8000000 in
theorem FnTrimEnds_walk (w : World) (hT : Tabs w) (a0 : ByteArray) (z0 : a0.size ≤ 1048576) (a1 : ByteArray) (z1 : a1.size ≤ 1048576) :
    Calls Tryd.prog 9 #[.string a0, .string a1] w fun e w' => e = .returned (.bool true) ∧ Below w.heap.size w w' := by
  have hmax : a0.size ≤ maxLen := by unfold maxLen; omega
  have LTT := tB_len (inP a1.data.toList) a0.data.toList
  have ea : a0.data.toList.length = a0.size := rfl
  rw [ea] at LTT
  have key := trim_ends a1.data.toList a0.data.toList
  have hrl : (runesOf (chunks a1.data.toList)).length ≤ 1048576 := by
    rw [runesOf_length]
    have := chunks_length a1.data.toList
    have e1 : a1.data.toList.length = a1.size := rfl
    omega
  have cP := fun W => spec_PointsR a1 W (by omega)
  obtain ⟨TT, hTT⟩ : ∃ x, tB (inP a1.data.toList) a0.data.toList = x := ⟨_, rfl⟩
  obtain ⟨rs, hrs⟩ : ∃ x, runesOf (chunks a1.data.toList) = x := ⟨_, rfl⟩
  rw [hTT] at LTT
  simp only [hTT, hrs] at key cP
  rw [hrs] at hrl
  have HTT := Lib.hid hTT
  have HCP := Lib.hid cP
  have mt : (⟨TT.toArray⟩ : ByteArray).size ≤ maxLen := by show TT.length ≤ _; unfold maxLen; omega
  have KEY := Lib.hid key
  clear ea hTT hrs key cP
  have hT0 := hT
  go_enter Tryd.func9, Tryd.ntmps9
  go_wp2_with (refine wpList_toBytes rfl 9 24 _ rfl 5 Tryd.underlying9 Tryd.underlying24 Tryd.underlying5 _ rfl hmax ?_)
  intro v1 w1 o1 x1
  have q1 := o1.bs
  have c1 := impl_Trim _ _ a1 _ q1 (hT.ext x1) (by omega) (by show a0.size ≤ _; omega)
  rw [HTT.out] at c1
  clear o1 hT
  go_wp2_with (go_at_call 29; refine c1.mono ?_)
  rintro _ w2 ⟨v2, rfl, o2, x2⟩
  have X := x1.trans x2
  have q2 := o2.bs
  clear x1 x2 q1 o2 c1
  go_upto_region 2 with (refine wpList_toString rfl 24 9 _ rfl 5 Tryd.underlying24 Tryd.underlying5 Tryd.underlying9 _ _ rfl q2 ?_)
  clear q2
  go_wp2_with (go_at_call 32; refine (HCP.out _).mono ?_)
  rintro _ w3 ⟨v3, rfl, i3, x3⟩
  replace X := X.trans x3
  clear x3 HCP
  go_wp2_with (go_at_call 19; refine (laws_test _ rs _ _ i3 (by omega)).mono ?_)
  rintro _ w4 ⟨v4, rfl, i4, x4⟩
  obtain ⟨a4, c4, rfl, _, _, _⟩ := i4.raw
  replace X := X.trans x4
  clear x4 i3
  go_upto_region 3 with fail
  obtain ⟨n, hn⟩ : ∃ n, w4.heap.size = n := ⟨_, rfl⟩
  have x5 : Ext w4 (w4.alloc (.cells #[.slice a4 rs.length c4, .bool true] 36)) := Ext.alloc _ _
  have f0 : (w4.alloc (.cells #[.slice a4 rs.length c4, .bool true] 36)).cell? ⟨n, 0, none⟩ = some (.slice a4 rs.length c4) := by rw [← hn, World.cell?_alloc_mark]; rfl
  have f1 : (w4.alloc (.cells #[.slice a4 rs.length c4, .bool true] 36)).cell? ⟨n, 1, none⟩ = some (.bool true) := by rw [← hn, World.cell?_alloc_mark]; rfl
  obtain ⟨w5, hw5⟩ : ∃ w5, w4.alloc (.cells #[.slice a4 rs.length c4, .bool true] 36) = w5 := ⟨_, rfl⟩
  rw [hw5] at x5 f0 f1 ⊢
  rw [hn]
  replace i4 := i4.ext x5
  replace X := X.trans x5
  clear hn hw5 x5
  rcases KEY.out with ⟨k1, k2⟩ | ⟨k1, k2, k3⟩
  · have hz : TT.isEmpty = true := by rw [k1]; rfl
    clear KEY k1
    go_wp2_with (refine wpList_toBytes rfl 9 24 _ rfl 5 Tryd.underlying9 Tryd.underlying24 Tryd.underlying5 _ rfl hmax ?_)
    intro v6 w6 o6 x6
    replace f0 := x6.cell f0
    replace f1 := x6.cell f1
    replace i4 := i4.ext x6
    replace X := X.trans x6
    have c6 := impl_IndexFunc _ _ _ rs true _ o6.bs i4 (hT0.ext X)
    rw [k2] at c6
    clear x6 o6 k2
    go_wp2_with (go_at_call 33; refine c6.mono ?_)
    rintro _ w7 ⟨rfl, x7⟩
    replace X := X.trans x7
    clear x7
    go_wp2_with fail
    go_ret
    exact ⟨rfl, X.below⟩
  · have hz : TT.isEmpty = false := by simpa using k1
    obtain ⟨K, hK⟩ : ∃ K, lastC (holdsT [] true) 0 (chunks TT) = K := ⟨_, rfl⟩
    rw [hK] at k3
    have HK := Lib.hid hK
    clear KEY k1 hK
    go_wp2_with (refine wpList_toBytes rfl 9 24 _ rfl 5 Tryd.underlying9 Tryd.underlying24 Tryd.underlying5 _ rfl mt ?_)
    intro v6 w6 o6 x6
    replace f0 := x6.cell f0
    replace f1 := x6.cell f1
    replace i4 := i4.ext x6
    replace X := X.trans x6
    have q6 : Bs w6 v6 TT := o6.bs
    clear x6 o6
    go_wp2_with (go_at_call 19; refine (laws_test _ [] _ _ (Vs.nil _ 1) (by simp)).mono ?_)
    rintro _ w7 ⟨v7, rfl, i7, x7⟩
    obtain ⟨a7, c7, rfl, _, _, _⟩ := i7.raw
    replace f0 := x7.cell f0
    replace f1 := x7.cell f1
    replace i4 := i4.ext x7
    replace X := X.trans x7
    have c8 := impl_LastIndexFunc _ _ _ [] true _ (q6.ext x7) i7 (hT0.ext X)
    rw [HK.out] at c8
    clear x7 i7 q6
    go_wp2_with (go_at_call 34; refine c8.mono ?_)
    rintro _ w8 ⟨rfl, x8⟩
    replace f0 := x8.cell f0
    replace f1 := x8.cell f1
    replace i4 := i4.ext x8
    replace X := X.trans x8
    clear x8 c8
    go_wp2_with (refine wpList_toBytes rfl 9 24 _ rfl 5 Tryd.underlying9 Tryd.underlying24 Tryd.underlying5 _ rfl mt ?_)
    intro v9 w9 o9 x9
    replace f0 := x9.cell f0
    replace f1 := x9.cell f1
    replace i4 := i4.ext x9
    replace X := X.trans x9
    have q9 : Bs w9 v9 TT := o9.bs
    have c10 := impl_IndexFunc _ _ _ rs true _ q9 i4 (hT0.ext X)
    rw [k2] at c10
    clear x9 o9 q9
    go_wp2_with (go_at_call 33; refine c10.mono ?_)
    rintro _ w10 ⟨rfl, x10⟩
    replace f0 := x10.cell f0
    replace f1 := x10.cell f1
    replace i4 := i4.ext x10
    replace X := X.trans x10
    clear x10 c10 k2
    go_wp2_with (refine wpList_toBytes rfl 9 24 _ rfl 5 Tryd.underlying9 Tryd.underlying24 Tryd.underlying5 _ rfl mt ?_)
    intro v11 w11 o11 x11
    replace f0 := x11.cell f0
    replace f1 := x11.cell f1
    replace i4 := i4.ext x11
    replace X := X.trans x11
    have q11 : Bs w11 v11 TT := o11.bs
    have c12 := impl_LastIndexFunc _ _ _ rs true _ q11 i4 (hT0.ext X)
    rw [k3] at c12
    have e1 : (K == K) = true := by simp
    clear x11 o11 q11 k3
    go_wp2_with (go_at_call 34; refine c12.mono ?_)
    rintro _ w12 ⟨rfl, x12⟩
    replace X := X.trans x12
    clear x12
    go_wp2_with fail
    go_ret
    exact ⟨rfl, X.below⟩
end Go.Proofs.YtdlobdbclgcogaaDoor
