/- spec.blank: the test of white space; impl.TrimSpace, spec.TrimSpace. -/
import Derived.Test.YthbfdajbajijeaaDoorBlankW
import Derived.Test.YthbfdajbajijeaaDoorFuncW2
namespace Go.Proofs.YthbfdajbajijeaaDoor
open Go.RowKit

set_option maxRecDepth 100000 in
set_option maxHeartbeats 2000000 in
theorem spec_blank (w : World) : Calls Tryd.prog 63 #[] w (RetTest w (blankR 12289) false) := by
  obtain ⟨n, hn⟩ : ∃ n, w.heap.size = n := ⟨_, rfl⟩
  obtain ⟨Z, hZ⟩ : ∃ Z, Z = Obj.cells #[.slice none 0 0, .bool false] 24 := ⟨_, rfl⟩
  have HN := Lib.hid hn
  have x0 : Ext w ((w.alloc Z).alloc Z) := (Ext.alloc _ _).trans (Ext.alloc _ _)
  have q0 : ((w.alloc Z).alloc Z).heap[n]? = some (.cells #[.slice none 0 0, .bool false] 24 (0, 0)) := by
    rw [(Ext.alloc (w.alloc Z) Z).block (by rw [World.size_alloc, hn]; omega), ← hn, heap_alloc_new, hZ]
  have q1 : ((w.alloc Z).alloc Z).heap[n + 1]? = some (.cells #[.slice none 0 0, .bool false] 24 (0, 0)) := by
    have := heap_alloc_new (w.alloc Z) Z
    rw [World.size_alloc, hn] at this
    rw [this, hZ]
  have B0 : Below n w ((w.alloc Z).alloc Z) := by have := x0.below; rwa [hn] at this
  have hs0 : n + 2 ≤ ((w.alloc Z).alloc Z).heap.size := by rw [World.size_alloc, World.size_alloc, hn]; exact Nat.le_refl _
  subst hZ
  go_enter Tryd.func63, Tryd.ntmps63
  go_wp2_with fail
  go_loopg [2] 12289 (fun k i wr => ∃ (j : Nat) (v : Value), j + k = 12289 ∧ i = .int .i32 (j : Int) ∧ wr.heap[n]? = some (.cells #[.slice none 0 0, .bool false] 24 (0, 0)) ∧ wr.heap[n + 1]? = some (.cells #[v, .bool false] 24 (0, 0)) ∧
    wr.ownsRow (n + 2) 21 1 v (blankR j).length ((blankR j).map (Value.int .i32)) ∧ n + 2 ≤ wr.heap.size ∧ Below n w wr)
  case atStart => exact ⟨0, .slice none 0 0, by omega, rfl, q0, q1, World.ownsRow_nil _ _ _ _, hs0, B0⟩
  case round =>
    obtain ⟨j, v, hj, rfl, b0, b1, hown, hsz, hbe⟩ := hrel
    clear q0 q1 B0 hs0 x0
    have HO := Lib.hid hown
    have HB := Lib.hid hbe
    have HJ := Lib.hid hj
    have HB0 := Lib.hid b0
    have HB1 := Lib.hid b1
    have hbl := blankR_len j
    clear hown hbe b0 b1
    by_cases hlt : j < 12289
    · have hg : 0 < gk := by omega
      have hle : (j : Int) ≤ 12288 := by omega
      have cS := spec_space (j : Int) wr
      have HS := Lib.hid (blankR_succ j)
      clear hj
      cases hw : wsP (j : Int)
      · rw [hw] at cS
        have HE := Lib.hid (show blankR (j + 1) = blankR j by rw [HS.out, hw]; simp)
        clear hw
        go_wp2_with (go_at_call 56; refine cS.mono ?_)
        rintro _ w1 ⟨rfl, x1⟩
        go_wp2_with fail
        go_roundg (gk - 1)
        case measure => omega
        case rel => exact ⟨j + 1, v, by have := HJ.out; omega, by go_num, by rw [x1.block (by omega)]; exact HB0.out, by rw [x1.block (by omega)]; exact HB1.out, by rw [HE.out]; exact owns_keep HO.out x1, Nat.le_trans hsz x1.size, below_ext HB.out x1 (by omega)⟩
      · rw [hw] at cS
        have HE := Lib.hid (show blankR (j + 1) = blankR j ++ [(j : Int)] by rw [HS.out, hw]; simp)
        clear hw
        go_wp2_with (go_at_call 56; refine cS.mono ?_)
        rintro _ w1 ⟨rfl, x1⟩
        have xA : Ext wr (w1.alloc (.cells #[.int .i32 (j : Int)] 21)) := x1.trans (Ext.alloc _ _)
        have O1 := owns_keep HO.out xA
        have B1 := below_ext HB.out xA (by omega)
        have hn1 : n + 2 ≤ (w1.alloc (.cells #[.int .i32 (j : Int)] 21)).heap.size := Nat.le_trans hsz xA.size
        have p0 := (xA.block (k := n) (by omega)).trans HB0.out
        have p1 := (xA.block (k := n + 1) (by omega)).trans HB1.out
        have p1' := (x1.block (k := n + 1) (by omega)).trans HB1.out
        have f0 : w1.cell? ⟨n + 1, 0, none⟩ = some v := by simp [World.cell?, p1']
        have HO1 := Lib.hid O1
        have HBB := Lib.hid B1
        have HP0 := Lib.hid p0
        have HP1 := Lib.hid p1
        clear x1 cS xA p1' O1 B1 p0 p1
        go_wp2_with (refine wpList_appendV rfl 22 _ _ rfl 21 1 4 _ Tryd.underlying22 info_i32 rfl (by omega) (n + 2) _ _ _ rfl HO1.out _ 1 _ [.int .i32 (j : Int)] rfl rfl (news_alloc _ _ _) (by simp [Value.oneCell']) (by omega) (by omega) hn1 ?_)
        intro v2 w2 o2 g2
        have B2 := owns_grown HO1.out g2 hn1 HBB.out (by omega)
        have hfr := owns_frame HO1.out g2
        have p0 := (hfr.block n (by omega) (.inl (by omega))).trans HP0.out
        have p1 := (hfr.block (n + 1) (by omega) (.inl (by omega))).trans HP1.out
        have hs2 : n + 2 ≤ w2.heap.size := Nat.le_trans hn1 hfr.size
        have s20 : w2.cell? ⟨n + 1, 0, none⟩ = some v := by simp [World.cell?, p1]
        have z20 : w2.frozen? ⟨n + 1, 0, none⟩ = false := by simp [World.frozen?, p1]
        have HQ0 := Lib.hid p0
        have HQ1 := Lib.hid p1
        have HO2 := Lib.hid o2
        obtain ⟨_, a2, c2, hv2, _, _, _⟩ := vs_of_owns o2
        subst hv2
        clear g2 f0 hfr p0 p1 o2
        go_wp2_with fail
        go_roundg (gk - 1)
        case measure => omega
        case rel =>
          have hf2 : Fr (n + 1) (n + 2) w2 (w2.setCell ⟨n + 1, 0, none⟩ (.slice a2 ((blankR j).length + 1) c2)) := Fr.setCell (by simp) (by simp) _
          refine ⟨j + 1, .slice a2 ((blankR j).length + 1) c2, by have := HJ.out; omega, by go_num, by rw [hf2.block n (by omega) (.inl (by omega))]; exact HQ0.out, ?_, ?_, by simpa [World.setCell] using hs2, below_fr B2 hf2 (.inl (by omega)) (by omega)⟩
          · have hf := HQ1.out
            simp only [World.setCell, Array.getElem?_modify]
            simp [hf]
          · rw [HE.out, List.map_append, List.length_append]
            exact owns_keepFr HO2.out hf2 (Nat.le_refl _)
    · have hje : j = 12289 := by omega
      subst hje
      have hle : ¬ ((12289 : Nat) : Int) ≤ 12288 := by omega
      have hf0 := HB0.out
      have hf1 := HB1.out
      have hlen : (blankR 12289).length ≤ 12289 := hbl
      have i2 := vs_of_owns HO.out
      obtain ⟨rs, hrs⟩ : ∃ rs, blankR 12289 = rs := ⟨_, rfl⟩
      rw [hrs] at i2 HO hbl hlen
      have HRS := Lib.hid hrs
      obtain ⟨_, a2, c2, hv, _, _, _⟩ := i2
      subst hv
      have d0 : wr.cell? ⟨n + 1, 0, none⟩ = some (.slice a2 rs.length c2) := by simp [World.cell?, hf1]
      have d1 : wr.cell? ⟨n + 1, 1, none⟩ = some (.bool false) := by simp [World.cell?, hf1]
      have s0 : wr.cell? ⟨n, 0, none⟩ = some (.slice none 0 0) := by simp [World.cell?, hf0]
      have s1 : wr.cell? ⟨n, 1, none⟩ = some (.bool false) := by simp [World.cell?, hf0]
      have z0 : wr.frozen? ⟨n, 0, none⟩ = false := by simp [World.frozen?, hf0]
      have z1 : wr.frozen? ⟨n, 1, none⟩ = false := by simp [World.frozen?, hf0]
      clear hj hf0 hf1 hrs
      go_wp2_with fail
      (try simp only [Exit.inBlock, Exit.then])
      have hf := HB0.out
      refine bodyPost_ret (results_cell_row rfl _ _ n 24 #[.slice a2 rs.length c2, .bool false] (0, 0) _ rfl ?_ Tryd.underlying24 rfl (by kernel_rfl)) rfl ?_
      · simp only [World.setCell, Array.getElem?_modify]
        simp [hf]
      · have hfr : Fr n (n + 1) wr ((wr.setCell ⟨n, 0, none⟩ (.slice a2 rs.length c2)).setCell ⟨n, 1, none⟩ (.bool false)) :=
          (Fr.setCell (by simp) (by simp) _).trans (Fr.setCell (by simp) (by simp) _)
        rw [HRS.out]
        refine ⟨_, rfl, vs_of_owns (owns_keepFr HO.out hfr (show n + 1 ≤ n + 2 by omega)), ⟨?_⟩⟩
        rw [HN.out]
        exact below_fr HB.out hfr (.inl (Nat.le_refl _)) (by omega)

set_option maxRecDepth 100000 in
theorem impl_TrimSpace (sv : Value) (l : List UInt8) (w : World) (hb : Bs w sv l) (h : White w) (hT : Tabs w) (hl : l.length ≤ 140737488355328) :
    Calls Tryd.prog 14 #[sv] w (RetOwn w (tB wsP l)) := by
  have hr := Nat.le_trans (tB_len wsP l) hl
  go_enter Tryd.func14, Tryd.ntmps14
  go_wp2_with (go_at_call 39; refine (bytes_TrimSpace sv l _ hb h hT).mono ?_)
  rintro _ w1 ⟨v1, rfl, b1, x1⟩
  go_wp2_with (go_at_call 38; refine (impl_fresh v1 _ _ b1 hr).mono ?_)
  rintro _ w2 ⟨v2, rfl, o2, x2⟩
  go_wp2_with fail
  go_ret
  exact ⟨_, rfl, o2.mono x1.size (Nat.le_refl _), x1.trans x2⟩

set_option maxRecDepth 100000 in
theorem spec_TextTrimSpace (s : ByteArray) (w : World) (hs : s.size ≤ 1099511627776) :
    Calls Tryd.prog 45 #[.string s] w (RetV (.string ⟨(tB wsP s.data.toList).toArray⟩) w) := by
  rw [← holds_blank']
  have hl1 : (⟨(tlB (holdsT (blankR 12289) false) s.data.toList).toArray⟩ : ByteArray).size ≤ 1099511627776 := by
    have := tlB_len (holdsT (blankR 12289) false) s.data.toList
    exact Nat.le_trans this hs
  obtain ⟨rs, hrs⟩ : ∃ rs, blankR 12289 = rs := ⟨_, rfl⟩
  have cB := fun W => spec_blank W
  simp only [hrs] at cB hl1 ⊢
  clear hrs
  go_enter Tryd.func45, Tryd.ntmps45
  go_wp2_with (go_at_call 63; refine (cB _).mono ?_)
  rintro _ w1 ⟨v1, rfl, i1, x1⟩
  obtain ⟨a1, c1, rfl, _, _, _⟩ := i1.raw
  go_wp2_with (go_at_call 62; refine (spec_trimLeft s _ _ false _ hs i1).mono ?_)
  rintro _ w2 ⟨rfl, x2⟩
  go_wp2_with (go_at_call 63; refine (cB _).mono ?_)
  rintro _ w3 ⟨v3, rfl, i3, x3⟩
  obtain ⟨a3, c3, rfl, _, _, _⟩ := i3.raw
  go_wp2_with (go_at_call 61; refine (spec_trimRight _ _ _ false _ hl1 i3).mono ?_)
  rintro _ w4 ⟨rfl, x4⟩
  go_wp2_with fail
  go_ret
  exact ⟨rfl, x1.trans (x2.trans (x3.trans x4))⟩
set_option maxRecDepth 100000 in
theorem spec_TrimSpace (sv : Value) (l : List UInt8) (w : World) (hl : l.length ≤ 1099511627776) (hb : Bs w sv l) :
    Calls Tryd.prog 20 #[sv] w (RetOwn w (tB wsP l)) := by
  have hlen : (tB wsP l).length ≤ maxLen := by
    have e := tB_len wsP l
    unfold maxLen; omega
  go_enter Tryd.func20, Tryd.ntmps20
  go_wp2_with (first | refine wpList_toString rfl 27 9 _ rfl 5 Tryd.underlying27 Tryd.underlying5 Tryd.underlying9 _ _ rfl hb ?_ | (go_at_call 45; refine (spec_TextTrimSpace ⟨l.toArray⟩ _ hl).mono ?_))
  rintro _ w1 ⟨rfl, x1⟩
  go_wp2_with (refine wpList_toBytes rfl 9 27 _ rfl 5 Tryd.underlying9 Tryd.underlying27 Tryd.underlying5 _ rfl ?_ ?_)
  · exact hlen
  intro v3 w3 o3 x3
  go_wp2_with fail
  go_ret
  exact ⟨_, rfl, o3.mono x1.size (Nat.le_refl _), x1.trans x3⟩
end Go.Proofs.YthbfdajbajijeaaDoor
