/- The walk of the law FnMapTwice: it returns true where the text and the lists have at most 2^20 elements. Printed by fnmaptwice.py. -/
import Derived.Test.YtlbaoghebjaliaaDoorTwiceP
import Derived.Test.YtlbaoghebjaliaaDoorMono
import Derived.Deep.DeepCutAuto
namespace Go.Proofs.YtlbaoghebjaliaaDoor
open Go.RowKit

theorem cell_frBox {w W : World} {p : Addr} {k : IntKind} {i : Int} (hc : w.cell? p = some (.int k i)) {B : Nat} {t : TypeId} {a : Option Addr} {n c : Nat} (bx : Boxed w B t (.slice a n c)) (x : Fr B (B + 1) w W) : W.cell? p = some (.int k i) := by
  have hne : p.block ≠ B := by
    intro e
    unfold World.cell? at hc
    rw [e, show w.heap[B]? = _ from bx] at hc
    simp only at hc
    split at hc
    · cases hc
    · rcases hp : p.off with _ | q
      · rw [hp] at hc; simp at hc
      · rw [hp] at hc; simp at hc
  exact (World.cell?_of_block (a := p) (x.block p.block (World.block_lt_of_cell? _ _ hc) (by omega))).trans hc
theorem Fr.new {lo hi hi' : Nat} {a b c : World} (h : Fr lo hi a b) (k : Fr a.heap.size hi' b c) : Fr lo hi a c :=
  ⟨k.os.trans h.os, k.tape.trans h.tape, k.output.trans h.output, Nat.le_trans h.size k.size, fun i hi' ho => (k.block i (Nat.lt_of_lt_of_le hi' h.size) (.inl hi')).trans (h.block i hi' ho)⟩

set_option maxRecDepth 100000 in
set_option maxHeartbeats 16000000 in
theorem FnMapTwice_walk (w : World) (hT : Tabs w) (a0 : ByteArray) (z0 : a0.size ≤ 1048576) (v1 : Value) (fs : List Int) (b1 : Is w v1 fs) (z1 : fs.length ≤ 1048576) (_g1 : In32 fs) (v2 : Value) (ts : List Int) (b2 : Is w v2 ts) (_z2 : ts.length ≤ 1048576) (g2 : In32 ts)
    (v3 : Value) (fs2 : List Int) (b3 : Is w v3 fs2) (z3 : fs2.length ≤ 1048576) (_g3 : In32 fs2) (v4 : Value) (ts2 : List Int) (b4 : Is w v4 ts2) (_z4 : ts2.length ≤ 1048576) (g4 : In32 ts2) :
    Calls Tryd.prog 11 #[.string a0, v1, v2, v3, v4] w fun e w' => e = .returned (.bool true) ∧ Below w.heap.size w w' := by
  have hmax : a0.size ≤ maxLen := by unfold maxLen; omega
  have HLE := Lib.hid (imageT_le (fs := fs) g2)
  have HLE2 := Lib.hid (imageT_le (fs := fs2) g4)
  obtain ⟨rows, hrows⟩ : ∃ rows, fs.zip ts = rows := ⟨_, rfl⟩
  obtain ⟨rows2, hrows2⟩ : ∃ rows, fs2.zip ts2 = rows := ⟨_, rfl⟩
  have hrl : rows.length ≤ 1048576 := by rw [← hrows]; simp; omega
  have hrl2 : rows2.length ≤ 1048576 := by rw [← hrows2]; simp; omega
  rw [hrows] at HLE
  rw [hrows2] at HLE2
  have HRW := Lib.hid hrows
  have HRW2 := Lib.hid hrows2
  clear hrows hrows2
  go_enter Tryd.func11, Tryd.ntmps11
  go_wp2_with (go_at_call 42; refine (laws_table _ _ fs ts _ b1 b2 (by omega)).mono ?_)
  rintro _ w1 ⟨u1, rfl, t1, x1⟩
  rw [HRW.out] at t1
  go_wp2_with (go_at_call 42; refine (laws_table _ _ fs2 ts2 _ (b3.ext x1) (b4.ext x1) (by omega)).mono ?_)
  rintro _ w2 ⟨u2, rfl, t2, x2⟩
  rw [HRW2.out] at t2
  replace t1 := t1.ext x2
  have X := x1.trans x2
  replace hT := hT.ext X
  obtain ⟨ta, tc, te, _⟩ := t1.raw
  subst te
  obtain ⟨tb, td, tf, _⟩ := t2.raw
  subst tf
  clear x1 x2 b1 b2 b3 b4
  go_upto_region 2 with fail
  have x3 : Ext w2 ((w2.alloc (.cells #[.slice ta rows.length tc] 49)).alloc (.cells #[.slice tb rows2.length td] 49)) := (Ext.alloc _ _).trans (Ext.alloc _ _)
  have f0 : ((w2.alloc (.cells #[.slice ta rows.length tc] 49)).alloc (.cells #[.slice tb rows2.length td] 49)).cell? ⟨w2.heap.size, 0, none⟩ = some (.slice ta rows.length tc) := (Ext.alloc _ _).cell (by rw [World.cell?_alloc_mark]; rfl)
  have f1 : ((w2.alloc (.cells #[.slice ta rows.length tc] 49)).alloc (.cells #[.slice tb rows2.length td] 49)).cell? ⟨w2.heap.size + 1, 0, none⟩ = some (.slice tb rows2.length td) := by
    have := (Boxed.new (w2.alloc (.cells #[.slice ta rows.length tc] 49)) 49 (.slice tb rows2.length td)).cell
    rwa [World.size_alloc] at this
  obtain ⟨w3, hw3⟩ : ∃ w3, (w2.alloc (.cells #[.slice ta rows.length tc] 49)).alloc (.cells #[.slice tb rows2.length td] 49) = w3 := ⟨_, rfl⟩
  obtain ⟨n, hn⟩ : ∃ n, w2.heap.size = n := ⟨_, rfl⟩
  rw [hw3] at x3 f0 f1 ⊢
  rw [hn] at f0 f1 ⊢
  clear hw3 hn
  replace X := X.trans x3
  replace t1 := t1.ext x3
  replace t2 := t2.ext x3
  have HT := Lib.hid (hT.ext x3)
  have HX := Lib.hid X
  have HT1 := Lib.hid t1
  have HT2 := Lib.hid t2
  have HF0 := Lib.hid f0
  have HF1 := Lib.hid f1
  obtain ⟨ta', tc', te, p1, q1, e1⟩ := t1.raw
  injection te with te1 _ te2
  subst te1 te2
  have hc1 : tc ≤ 9223372036854775807 := by unfold maxLen at q1; omega
  have HC := Lib.hid e1
  clear X t1 t2 x3 hT q1 e1
  go_wp2_with fail
  clear f0 f1
  go_loopg [28] rows.length (fun k i wr => ∃ j : Nat, j + k = rows.length ∧ i = .int .i64 j ∧ RowsOk (rows.take j) ∧ Ext w3 wr)
  case atStart => exact ⟨0, by omega, rfl, fun x hx => (by cases hx), Ext.refl _⟩
  case round =>
    obtain ⟨j, hj, rfl, hok, hx⟩ := hrel
    have HJ := Lib.hid hj
    have HXX := Lib.hid hx
    have HOK := Lib.hid hok
    clear hx hok
    by_cases hlt : j < rows.length
    · have hg : 0 < gk := by omega
      obtain ⟨b, o, rfl, d0, d1⟩ := HC.out j hlt
      replace d0 := HXX.out.cell d0
      replace d1 := HXX.out.cell d1
      obtain ⟨p, hp⟩ : ∃ p, rows[j].1 = p := ⟨_, rfl⟩
      obtain ⟨q, hq⟩ : ∃ q, rows[j].2 = q := ⟨_, rfl⟩
      rw [hp] at d0
      rw [hq] at d1
      have HST := Lib.hid (show (0 ≤ q → scalarN q.toNat) → RowsOk (rows.take (j + 1)) by
        intro h x hx
        rw [List.take_succ_eq_append_getElem hlt] at hx
        rcases List.mem_append.1 hx with hx | hx
        · exact HOK.out x hx
        · rw [List.mem_singleton] at hx
          subst hx
          rw [hq]
          exact h)
      clear hj hp hq
      by_cases h0 : 0 ≤ q
      · have cS := laws_scalar q (wr.alloc (.cells #[.int .i32 p, .int .i32 q] 60))
        by_cases hs : scalarN q.toNat
        · rw [show decide (0 ≤ q ∧ scalarN q.toNat) = true by simp [h0, hs]] at cS
          have HS2 := Lib.hid (HST.out (fun _ => hs))
          clear hs
          go_wp2_with (go_at_call 45; refine cS.mono ?_; rintro _ _ ⟨rfl, rfl⟩)
          go_roundg (gk - 1)
          case measure => omega
          case rel => exact ⟨j + 1, by have := HJ.out; omega, by go_num, HS2.out, HXX.out.trans (Ext.alloc _ _)⟩
        · rw [show decide (0 ≤ q ∧ scalarN q.toNat) = false by simp [hs]] at cS
          clear hs
          go_wp2_with (go_at_call 45; refine cS.mono ?_; rintro _ _ ⟨rfl, rfl⟩)
          go_ret
          exact ⟨rfl, ((HX.out.trans HXX.out).trans (Ext.alloc _ _)).below⟩
      · have HS2 := Lib.hid (HST.out (fun h => absurd h h0))
        go_wp2_with fail
        go_roundg (gk - 1)
        case measure => omega
        case rel => exact ⟨j + 1, by have := HJ.out; omega, by go_num, HS2.out, HXX.out.trans (Ext.alloc _ _)⟩
    · have HRO := Lib.hid (show RowsOk rows by have := HOK.out; rwa [List.take_of_length_le (by omega)] at this)
      have hw3s := HXX.out.size
      obtain ⟨w4, hw4⟩ : ∃ w4, w4 = wr := ⟨_, rfl⟩
      subst hw4
      have X4 := HX.out.trans HXX.out
      have T1 := HT1.out.ext HXX.out
      have T2 := HT2.out.ext HXX.out
      have TT := HT.out.ext HXX.out
      have f0 := HXX.out.cell HF0.out
      have f1 := HXX.out.cell HF1.out
      clear HXX HX HT1 HT2 HT HF0 HF1 HOK hj HC
      go_upto_region 9 with fail
      obtain ⟨B, hB⟩ : ∃ B, w4.heap.size = B := ⟨_, rfl⟩
      have bx4 : Boxed (w4.alloc (.cells #[.slice none 0 0] 49)) B 49 (.slice none 0 0) := by rw [← hB]; exact Boxed.new _ _ _
      have x4 : Ext w4 (w4.alloc (.cells #[.slice none 0 0] 49)) := Ext.alloc _ _
      have c5 := spec_Points a0 (w4.alloc (.cells #[.slice none 0 0] 49)) (by omega)
      have hcl := chunks_length a0.data.toList
      have es : a0.data.toList.length = a0.size := rfl
      rw [es] at hcl
      have HMT := Lib.hid (map_twice HRO.out (imageT rows2) a0.data.toList)
      have HBL := Lib.hid (both_le HRO.out HLE2.out a0.data.toList)
      have hsT := mapC_size (imageT rows) (chunks a0.data.toList)
      have hsT' : (mapB (imageT rows) a0.data.toList).length ≤ 4194304 := by show (mapC _ _).length ≤ _; omega
      have hcl2 := chunks_length (mapB (imageT rows) a0.data.toList)
      have hsT2 := mapC_size (imageT rows2) (chunks (mapB (imageT rows) a0.data.toList))
      have HST2 := Lib.hid (show (mapB (imageT rows2) (mapB (imageT rows) a0.data.toList)).length ≤ 16777216 by show (mapC _ _).length ≤ _; omega)
      have HST1 := Lib.hid hsT'
      clear hsT hsT' hcl2 hsT2 es
      obtain ⟨cs, hcs⟩ : ∃ cs, chunks a0.data.toList = cs := ⟨_, rfl⟩
      rw [hcs] at c5 hcl HMT HBL
      have HCS := Lib.hid hcs
      have HRL := Lib.hid (show (runesOf cs).length = cs.length by simp [runesOf])
      clear hcs
      rw [hB]
      go_wp2_with (go_at_call 43; refine c5.mono ?_)
      rintro _ w5 ⟨v5, rfl, i5, x5⟩
      have bx5 := boxed_ext bx4 x5
      obtain ⟨a5, c5', e5, p5, q5, r5⟩ := i5.raw
      subst e5
      have hc5 : c5' ≤ 9223372036854775807 := by unfold maxLen at q5; omega
      have HC := Lib.hid r5
      have HX5 := Lib.hid (x4.trans x5)
      have HB5 := Lib.hid bx5
      have HBB := Lib.hid hB
      have hB5 : B + 1 ≤ w5.heap.size := by have := x5.size; rw [World.size_alloc, hB] at this; exact this
      have HF0 := Lib.hid f0
      have HF1 := Lib.hid f1
      have HT1 := Lib.hid T1
      have HT2 := Lib.hid T2
      have HTT := Lib.hid TT
      have HX4 := Lib.hid X4
      rw [HRL.out] at p5 ⊢
      clear c5 i5 q5 r5 x4 x5 bx4 bx5 hB f0 f1 T1 T2 TT X4
      obtain ⟨BR, hBR⟩ : ∃ BR, bothR (imageT rows) (imageT rows2) cs = BR := ⟨_, rfl⟩
      have hbl : BR.length = cs.length := by rw [← hBR]; simp [bothR]
      have HBR := Lib.hid hBR
      have HBRL := Lib.hid hbl
      clear hBR hbl
      go_wp2_with fail
      go_loopg [46] cs.length (fun k i wr => ∃ (j : Nat) (rv : Value), j + k = cs.length ∧ i = .int .i64 j ∧ Boxed wr B 49 rv ∧ wr.ownsRow w5.heap.size 60 2 rv j (tcells (BR.take j)) ∧ Fr B (B + 1) w5 wr)
      case atStart => exact ⟨0, _, by omega, rfl, HB5.out, World.ownsRow_nil _ _ _ _, Fr.refl _ _ _⟩
      case round =>
        obtain ⟨j, rv, hj, rfl, hbx, hown, hfr⟩ := hrel
        have HJ := Lib.hid hj
        have HBX := Lib.hid hbx
        have HO := Lib.hid hown
        have HFR := Lib.hid hfr
        have E4 : Ext w4 wr := ⟨below_fr HX5.out.below hfr (.inl (by have := HBB.out; omega)) (by have := HX5.out.size; omega)⟩
        have f0 := E4.cell HF0.out
        have f1 := E4.cell HF1.out
        by_cases hlt : j < cs.length
        · have hg : 0 < gk := by omega
          obtain ⟨b, o, rfl, c0⟩ := HC.out j (by rw [HRL.out]; exact hlt)
          replace c0 := cell_frBox c0 HB5.out hfr
          have he : (runesOf cs)[j]'(by rw [HRL.out]; exact hlt) = (cs[j].r : Int) := by simp [runesOf]
          rw [he] at c0
          have hbr : BR[j]'(by rw [HBRL.out]; exact hlt) = ((cs[j].r : Int), bothF (imageT rows) (imageT rows2) cs[j].r) := by
            have := HBR.out
            subst this
            simp [bothR]
          obtain ⟨rr, hrr⟩ : ∃ rr : Int, ((cs[j].r : Nat) : Int) = rr := ⟨_, rfl⟩
          rw [hrr] at c0 hbr
          obtain ⟨A, hA⟩ : ∃ A, BR.take j = A := ⟨_, rfl⟩
          have HA0 := Lib.hid (show BR.take (j + 1) = A ++ [(rr, bothF (imageT rows) (imageT rows2) rr)] by rw [List.take_succ_eq_append_getElem (by rw [HBRL.out]; exact hlt), hA, hbr])
          rw [hA] at HO
          have cI := spec_Image (.slice ta rows.length tc) rows rr wr (HT1.out.ext E4)
          obtain ⟨y, hy⟩ : ∃ y, imageT rows rr = y := ⟨_, rfl⟩
          rw [hy] at cI
          clear hj hbx hown hfr he hbr hrr hA
          by_cases hneg : 0 ≤ y
          · obtain ⟨Y, hY⟩ : ∃ Y, imageT rows2 y = Y := ⟨_, rfl⟩
            have HA := Lib.hid (show BR.take (j + 1) = A ++ [(rr, Y)] by rw [HA0.out]; unfold bothF; rw [hy, if_pos hneg, hY])
            have cI2 := fun W (x : Ext wr W) => spec_Image (.slice tb rows2.length td) rows2 y W (HT2.out.ext (E4.trans x))
            rw [hY] at cI2
            clear hy hY
            go_wp2_with (go_at_call 44; refine cI.mono ?_)
            rintro _ w6 ⟨rfl, x6⟩
            replace f0 := x6.cell f0
            replace f1 := x6.cell f1
            go_wp2_with (go_at_call 44; refine (cI2 _ x6).mono ?_)
            rintro _ w7 ⟨rfl, x7⟩
            have X7 := x6.trans x7
            clear x6 x7 cI2
            have hsz7 : w5.heap.size ≤ w7.heap.size := by have := X7.size; have := HFR.out.size; omega
            have O3 := Lib.hid (owns_keep HO.out (X7.trans (Ext.alloc w7 (.cells #[.int .i32 rr, .int .i32 Y] 60))))
            have B3 := Lib.hid (boxed_ext HBX.out (X7.trans (Ext.alloc w7 (.cells #[.int .i32 rr, .int .i32 Y] 60))))
            have F3 := Lib.hid (HFR.out.trans ((X7.trans (Ext.alloc w7 (.cells #[.int .i32 rr, .int .i32 Y] 60))).fr B (B + 1)))
            have cB := (boxed_ext HBX.out X7).cell
            clear X7 cI
            go_wp2_with (refine wpList_appendV rfl 47 _ _ rfl 60 2 8 _ Tryd.underlying47 info_row rfl (by omega) w5.heap.size _ j (tcells A) rfl O3.out _ 1 _ [.int .i32 rr, .int .i32 Y] rfl rfl (news_alloc _ _ _) (by simp [Value.oneCell']) (by omega) (by omega) (by simp; omega) ?_)
            intro v8 w8 h8 g8
            obtain ⟨g', cap', e8⟩ := ownsRow_succ h8
            subst e8
            have b8 := B3.out.kept g8 (B3.out.not_row (by decide) O3.out)
            have c8 := b8.cell
            have z8 := b8.frozen
            have F8 := Lib.hid (F3.out.new (owns_frame O3.out g8))
            have HB8 := Lib.hid b8
            have HO8 := Lib.hid h8
            clear b8 h8 g8 cB
            go_wp2_with fail
            go_roundg (gk - 1)
            case measure => omega
            case rel => exact ⟨j + 1, _, by have := HJ.out; omega, by go_num, HB8.out.set _, by rw [HA.out, tcells_append]; exact owns_setBox HO8.out HB8.out (by decide), F8.out.trans (Fr.setCell (p := ⟨B, 0, none⟩) (Nat.le_refl _) (Nat.lt_succ_self _) _)⟩
          · have HA := Lib.hid (show BR.take (j + 1) = A ++ [(rr, y)] by rw [HA0.out]; unfold bothF; rw [hy, if_neg hneg])
            clear hy
            obtain ⟨Y, hY⟩ : ∃ Y, y = Y := ⟨_, rfl⟩
            subst hY
            go_wp2_with (go_at_call 44; refine cI.mono ?_)
            rintro _ w7 ⟨rfl, X7⟩
            replace f0 := X7.cell f0
            replace f1 := X7.cell f1
            have hsz7 : w5.heap.size ≤ w7.heap.size := by have := X7.size; have := HFR.out.size; omega
            have O3 := Lib.hid (owns_keep HO.out (X7.trans (Ext.alloc w7 (.cells #[.int .i32 rr, .int .i32 y] 60))))
            have B3 := Lib.hid (boxed_ext HBX.out (X7.trans (Ext.alloc w7 (.cells #[.int .i32 rr, .int .i32 y] 60))))
            have F3 := Lib.hid (HFR.out.trans ((X7.trans (Ext.alloc w7 (.cells #[.int .i32 rr, .int .i32 y] 60))).fr B (B + 1)))
            have cB := (boxed_ext HBX.out X7).cell
            clear X7 cI
            go_wp2_with (refine wpList_appendV rfl 47 _ _ rfl 60 2 8 _ Tryd.underlying47 info_row rfl (by omega) w5.heap.size _ j (tcells A) rfl O3.out _ 1 _ [.int .i32 rr, .int .i32 y] rfl rfl (news_alloc _ _ _) (by simp [Value.oneCell']) (by omega) (by omega) (by simp; omega) ?_)
            intro v8 w8 h8 g8
            obtain ⟨g', cap', e8⟩ := ownsRow_succ h8
            subst e8
            have b8 := B3.out.kept g8 (B3.out.not_row (by decide) O3.out)
            have c8 := b8.cell
            have z8 := b8.frozen
            have F8 := Lib.hid (F3.out.new (owns_frame O3.out g8))
            have HB8 := Lib.hid b8
            have HO8 := Lib.hid h8
            clear b8 h8 g8 cB
            go_wp2_with fail
            go_roundg (gk - 1)
            case measure => omega
            case rel => exact ⟨j + 1, _, by have := HJ.out; omega, by go_num, HB8.out.set _, by rw [HA.out, tcells_append]; exact owns_setBox HO8.out HB8.out (by decide), F8.out.trans (Fr.setCell (p := ⟨B, 0, none⟩) (Nat.le_refl _) (Nat.lt_succ_self _) _)⟩
        · have hje : j = cs.length := by omega
          have hO := HO.out
          rw [List.take_of_length_le (by rw [HBRL.out]; omega), hje, ← HBRL.out] at hO
          have T3 : Ts wr rv BR := vs_of_owns hO
          have f2 := hbx.cell
          obtain ⟨w8, hw8⟩ : ∃ w8, w8 = wr := ⟨_, rfl⟩
          subst hw8
          have HX8 := Lib.hid (HX4.out.trans E4)
          have HU1 := Lib.hid (HT1.out.ext E4)
          have HU2 := Lib.hid (HT2.out.ext E4)
          have HU3 := Lib.hid T3
          have HTT8 := Lib.hid (HTT.out.ext E4)
          have HG0 := Lib.hid f0
          have HG1 := Lib.hid f1
          have HG2 := Lib.hid f2
          rw [HBR.out] at HBL HMT
          obtain ⟨M1, hM1⟩ : ∃ M, mapB (imageT rows) a0.data.toList = M := ⟨_, rfl⟩
          rw [hM1] at HMT HST1 HST2
          obtain ⟨M2, hM2⟩ : ∃ M, mapB (imageT rows2) M1 = M := ⟨_, rfl⟩
          rw [hM2] at HMT HST2
          have HM1 := Lib.hid hM1
          have HM2 := Lib.hid hM2
          have HM3 := Lib.hid HMT.out.symm
          have h1l := HST1.out
          obtain ⟨s1, hs1⟩ : ∃ st, (⟨M1.toArray⟩ : ByteArray) = st := ⟨_, rfl⟩
          obtain ⟨s2, hs2⟩ : ∃ st, (⟨M2.toArray⟩ : ByteArray) = st := ⟨_, rfl⟩
          have HS1 := Lib.hid hs1
          have HS2 := Lib.hid hs2
          have HSD1 := Lib.hid (show s1.data.toList = M1 by rw [← hs1])
          have hm1 : s1.size ≤ maxLen := by rw [← hs1]; show M1.length ≤ _; unfold maxLen; omega
          have keyn := mapB_id_nil a0.data.toList
          obtain ⟨M, hMM⟩ : ∃ M, mapB id a0.data.toList = M := ⟨_, rfl⟩
          rw [hMM] at keyn
          have HMM := Lib.hid hMM
          obtain ⟨sM, hsM⟩ : ∃ st, (⟨M.toArray⟩ : ByteArray) = st := ⟨_, rfl⟩
          have HSM := Lib.hid hsM
          obtain ⟨bb, hbb⟩ : ∃ bb, a0.data.toList.isEmpty = bb := ⟨_, rfl⟩
          have HZ0 := Lib.hid (show a0.toList.isEmpty = bb by rw [ByteArray.toList_eq]; exact hbb)
          have HZM := Lib.hid (show sM.toList.isEmpty = bb by
            rw [ByteArray.toList_eq, ← hsM, ← hbb, Bool.eq_iff_iff, List.isEmpty_iff, List.isEmpty_iff]
            exact keyn)
          clear hje T3 f0 f1 f2 hO E4 hM1 hM2 hs1 hs2 hMM hsM hbb keyn hbx hown hfr hj HBX HO HFR HT1 HT2 HTT HF0 HF1 HX4
          go_upto_region 17 with fail
          go_cut [10] (fun s10 wx => s10 = .bool true ∧ Ext w8 wx)
          case first =>
            refine wp_region_mono (by kernel_rfl) [67, 68, 69, 70, 71, 72, 73, 74, 75, 76, 77, 78, 79, 80, 81, 82, 83, 84, 85, 86, 87, 88, 89, 90, 91, 92, 10] (by kernel_rfl) (by decide) (by simp) (by kernel_rfl)
              (fun i => match i with | 0 => (fun v w => v = .string a0) | 1 => (fun v w => Bs w v a0.data.toList) | 2 => (fun v w => v = .agg #[.slice ta rows.length tc]) | 3 => (fun v w => Bs w v M1) | 4 => (fun v w => v = .string s1) | 5 => (fun v w => Bs w v M1) | 6 => (fun v w => v = .agg #[.slice tb rows2.length td]) | 7 => (fun v w => Bs w v M2) | 8 => (fun v w => v = .string s2) | 9 => (fun v w => v = .string a0) | 10 => (fun v w => Bs w v a0.data.toList) | 11 => (fun v w => v = .agg #[rv]) | 12 => (fun v w => Bs w v M2) | 13 => (fun v w => v = .string s2) | 14 => (fun v w => v = .bool true) | 15 => (fun v w => v = .bool true) | 16 => (fun v w => v = .string a0) | 17 => (fun v w => Bs w v a0.data.toList) | 18 => (fun v w => ∃ tv, v = .agg #[tv] ∧ Ts w tv []) | 19 => (fun v w => Bs w v M) | 20 => (fun v w => v = .string sM) | 21 => (fun v w => v = .bool bb) | 22 => (fun v w => v = .string a0) | 23 => (fun v w => v = .bool bb) | 24 => (fun v w => v = .bool true) | 25 => (fun v w => v = .bool true) | 26 => (fun v w => v = .bool true) | _ => fun _ _ => True) ?stable ?steps ?fin
            case stable =>
              intro i v w' w'' h x
              match i, h with
              | 0, h => exact h
              | 1, h => exact (show Bs w' v a0.data.toList from h).ext x
              | 2, h => exact h
              | 3, h => exact (show Bs w' v M1 from h).ext x
              | 4, h => exact h
              | 5, h => exact (show Bs w' v M1 from h).ext x
              | 6, h => exact h
              | 7, h => exact (show Bs w' v M2 from h).ext x
              | 8, h => exact h
              | 9, h => exact h
              | 10, h => exact (show Bs w' v a0.data.toList from h).ext x
              | 11, h => exact h
              | 12, h => exact (show Bs w' v M2 from h).ext x
              | 13, h => exact h
              | 14, h => exact h
              | 15, h => exact h
              | 16, h => exact h
              | 17, h => exact (show Bs w' v a0.data.toList from h).ext x
              | 18, ⟨tv, h1, h2⟩ => exact ⟨tv, h1, h2.ext x⟩
              | 19, h => exact (show Bs w' v M from h).ext x
              | 20, h => exact h
              | 21, h => exact h
              | 22, h => exact h
              | 23, h => exact h
              | 24, h => exact h
              | 25, h => exact h
              | 26, h => exact h
              | _ + 27, _ => trivial
            case steps =>
              refine AllSteps.cons (fun us hus w' x h => ?_) ?_
              · obtain ⟨u0, t0, e0, s0⟩ := len_cons hus; obtain ⟨u1, t1, e1, s1⟩ := len_cons s0; obtain ⟨u2, t2, e2, s2⟩ := len_cons s1; obtain ⟨u3, t3, e3, s3⟩ := len_cons s2; obtain ⟨u4, t4, e4, s4⟩ := len_cons s3; obtain ⟨u5, t5, e5, s5⟩ := len_cons s4; obtain ⟨u6, t6, e6, s6⟩ := len_cons s5; obtain ⟨u7, t7, e7, s7⟩ := len_cons s6; obtain ⟨u8, t8, e8, s8⟩ := len_cons s7; obtain ⟨u9, t9, e9, s9⟩ := len_cons s8; obtain ⟨u10, t10, e10, s10⟩ := len_cons s9; obtain ⟨u11, t11, e11, s11⟩ := len_cons s10; obtain ⟨u12, t12, e12, s12⟩ := len_cons s11; obtain ⟨u13, t13, e13, s13⟩ := len_cons s12; obtain ⟨u14, t14, e14, s14⟩ := len_cons s13; obtain ⟨u15, t15, e15, s15⟩ := len_cons s14; obtain ⟨u16, t16, e16, s16⟩ := len_cons s15; obtain ⟨u17, t17, e17, s17⟩ := len_cons s16; obtain ⟨u18, t18, e18, s18⟩ := len_cons s17; obtain ⟨u19, t19, e19, s19⟩ := len_cons s18; obtain ⟨u20, t20, e20, s20⟩ := len_cons s19; obtain ⟨u21, t21, e21, s21⟩ := len_cons s20; obtain ⟨u22, t22, e22, s22⟩ := len_cons s21; obtain ⟨u23, t23, e23, s23⟩ := len_cons s22; obtain ⟨u24, t24, e24, s24⟩ := len_cons s23; obtain ⟨u25, t25, e25, s25⟩ := len_cons s24; obtain ⟨u26, t26, e26, s26⟩ := len_cons s25
                obtain rfl := len_nil s26
                clear hus s0 s1 s2 s3 s4 s5 s6 s7 s8 s9 s10 s11 s12 s13 s14 s15 s16 s17 s18 s19 s20 s21 s22 s23 s24 s25 s26
                subst e26 e25 e24 e23 e22 e21 e20 e19 e18 e17 e16 e15 e14 e13 e12 e11 e10 e9 e8 e7 e6 e5 e4 e3 e2 e1 e0
                clear h
                simp only [over, Act.put, List.setIfInBounds_toArray, List.set_cons_zero, List.set_cons_succ]
                go_wp2_with fail
                exact postK_normal ⟨_, rfl, rfl, Ext.refl _⟩
              refine AllSteps.cons (fun us hus w' x h => ?_) ?_
              · obtain ⟨u0, t0, e0, s0⟩ := len_cons hus; obtain ⟨u1, t1, e1, s1⟩ := len_cons s0; obtain ⟨u2, t2, e2, s2⟩ := len_cons s1; obtain ⟨u3, t3, e3, s3⟩ := len_cons s2; obtain ⟨u4, t4, e4, s4⟩ := len_cons s3; obtain ⟨u5, t5, e5, s5⟩ := len_cons s4; obtain ⟨u6, t6, e6, s6⟩ := len_cons s5; obtain ⟨u7, t7, e7, s7⟩ := len_cons s6; obtain ⟨u8, t8, e8, s8⟩ := len_cons s7; obtain ⟨u9, t9, e9, s9⟩ := len_cons s8; obtain ⟨u10, t10, e10, s10⟩ := len_cons s9; obtain ⟨u11, t11, e11, s11⟩ := len_cons s10; obtain ⟨u12, t12, e12, s12⟩ := len_cons s11; obtain ⟨u13, t13, e13, s13⟩ := len_cons s12; obtain ⟨u14, t14, e14, s14⟩ := len_cons s13; obtain ⟨u15, t15, e15, s15⟩ := len_cons s14; obtain ⟨u16, t16, e16, s16⟩ := len_cons s15; obtain ⟨u17, t17, e17, s17⟩ := len_cons s16; obtain ⟨u18, t18, e18, s18⟩ := len_cons s17; obtain ⟨u19, t19, e19, s19⟩ := len_cons s18; obtain ⟨u20, t20, e20, s20⟩ := len_cons s19; obtain ⟨u21, t21, e21, s21⟩ := len_cons s20; obtain ⟨u22, t22, e22, s22⟩ := len_cons s21; obtain ⟨u23, t23, e23, s23⟩ := len_cons s22; obtain ⟨u24, t24, e24, s24⟩ := len_cons s23; obtain ⟨u25, t25, e25, s25⟩ := len_cons s24; obtain ⟨u26, t26, e26, s26⟩ := len_cons s25
                obtain rfl := len_nil s26
                clear hus s0 s1 s2 s3 s4 s5 s6 s7 s8 s9 s10 s11 s12 s13 s14 s15 s16 s17 s18 s19 s20 s21 s22 s23 s24 s25 s26
                subst e26 e25 e24 e23 e22 e21 e20 e19 e18 e17 e16 e15 e14 e13 e12 e11 e10 e9 e8 e7 e6 e5 e4 e3 e2 e1 e0
                have h0 : u0 = .string a0 := h 0 (by kernel_rfl)
                clear h
                simp only [over, Act.put, List.setIfInBounds_toArray, List.set_cons_zero, List.set_cons_succ]
                subst h0
                go_wp2_with (refine wpList_toBytes rfl 9 30 _ rfl 5 Tryd.underlying9 Tryd.underlying30 Tryd.underlying5 _ rfl hmax ?_)
                intro v5 w5 o5 x5
                have o5 : Bs w5 v5 a0.data.toList := o5.bs
                go_wp2_with fail
                exact postK_normal ⟨_, rfl, o5, x5⟩
              refine AllSteps.cons (fun us hus w' x h => ?_) ?_
              · obtain ⟨u0, t0, e0, s0⟩ := len_cons hus; obtain ⟨u1, t1, e1, s1⟩ := len_cons s0; obtain ⟨u2, t2, e2, s2⟩ := len_cons s1; obtain ⟨u3, t3, e3, s3⟩ := len_cons s2; obtain ⟨u4, t4, e4, s4⟩ := len_cons s3; obtain ⟨u5, t5, e5, s5⟩ := len_cons s4; obtain ⟨u6, t6, e6, s6⟩ := len_cons s5; obtain ⟨u7, t7, e7, s7⟩ := len_cons s6; obtain ⟨u8, t8, e8, s8⟩ := len_cons s7; obtain ⟨u9, t9, e9, s9⟩ := len_cons s8; obtain ⟨u10, t10, e10, s10⟩ := len_cons s9; obtain ⟨u11, t11, e11, s11⟩ := len_cons s10; obtain ⟨u12, t12, e12, s12⟩ := len_cons s11; obtain ⟨u13, t13, e13, s13⟩ := len_cons s12; obtain ⟨u14, t14, e14, s14⟩ := len_cons s13; obtain ⟨u15, t15, e15, s15⟩ := len_cons s14; obtain ⟨u16, t16, e16, s16⟩ := len_cons s15; obtain ⟨u17, t17, e17, s17⟩ := len_cons s16; obtain ⟨u18, t18, e18, s18⟩ := len_cons s17; obtain ⟨u19, t19, e19, s19⟩ := len_cons s18; obtain ⟨u20, t20, e20, s20⟩ := len_cons s19; obtain ⟨u21, t21, e21, s21⟩ := len_cons s20; obtain ⟨u22, t22, e22, s22⟩ := len_cons s21; obtain ⟨u23, t23, e23, s23⟩ := len_cons s22; obtain ⟨u24, t24, e24, s24⟩ := len_cons s23; obtain ⟨u25, t25, e25, s25⟩ := len_cons s24; obtain ⟨u26, t26, e26, s26⟩ := len_cons s25
                obtain rfl := len_nil s26
                clear hus s0 s1 s2 s3 s4 s5 s6 s7 s8 s9 s10 s11 s12 s13 s14 s15 s16 s17 s18 s19 s20 s21 s22 s23 s24 s25 s26
                subst e26 e25 e24 e23 e22 e21 e20 e19 e18 e17 e16 e15 e14 e13 e12 e11 e10 e9 e8 e7 e6 e5 e4 e3 e2 e1 e0
                clear h
                simp only [over, Act.put, List.setIfInBounds_toArray, List.set_cons_zero, List.set_cons_succ]
                have f5 := x.cell HG0.out
                go_wp2_with fail
                exact postK_normal ⟨_, rfl, rfl, Ext.refl _⟩
              refine AllSteps.cons (fun us hus w' x h => ?_) ?_
              · obtain ⟨u0, t0, e0, s0⟩ := len_cons hus; obtain ⟨u1, t1, e1, s1⟩ := len_cons s0; obtain ⟨u2, t2, e2, s2⟩ := len_cons s1; obtain ⟨u3, t3, e3, s3⟩ := len_cons s2; obtain ⟨u4, t4, e4, s4⟩ := len_cons s3; obtain ⟨u5, t5, e5, s5⟩ := len_cons s4; obtain ⟨u6, t6, e6, s6⟩ := len_cons s5; obtain ⟨u7, t7, e7, s7⟩ := len_cons s6; obtain ⟨u8, t8, e8, s8⟩ := len_cons s7; obtain ⟨u9, t9, e9, s9⟩ := len_cons s8; obtain ⟨u10, t10, e10, s10⟩ := len_cons s9; obtain ⟨u11, t11, e11, s11⟩ := len_cons s10; obtain ⟨u12, t12, e12, s12⟩ := len_cons s11; obtain ⟨u13, t13, e13, s13⟩ := len_cons s12; obtain ⟨u14, t14, e14, s14⟩ := len_cons s13; obtain ⟨u15, t15, e15, s15⟩ := len_cons s14; obtain ⟨u16, t16, e16, s16⟩ := len_cons s15; obtain ⟨u17, t17, e17, s17⟩ := len_cons s16; obtain ⟨u18, t18, e18, s18⟩ := len_cons s17; obtain ⟨u19, t19, e19, s19⟩ := len_cons s18; obtain ⟨u20, t20, e20, s20⟩ := len_cons s19; obtain ⟨u21, t21, e21, s21⟩ := len_cons s20; obtain ⟨u22, t22, e22, s22⟩ := len_cons s21; obtain ⟨u23, t23, e23, s23⟩ := len_cons s22; obtain ⟨u24, t24, e24, s24⟩ := len_cons s23; obtain ⟨u25, t25, e25, s25⟩ := len_cons s24; obtain ⟨u26, t26, e26, s26⟩ := len_cons s25
                obtain rfl := len_nil s26
                clear hus s0 s1 s2 s3 s4 s5 s6 s7 s8 s9 s10 s11 s12 s13 s14 s15 s16 s17 s18 s19 s20 s21 s22 s23 s24 s25 s26
                subst e26 e25 e24 e23 e22 e21 e20 e19 e18 e17 e16 e15 e14 e13 e12 e11 e10 e9 e8 e7 e6 e5 e4 e3 e2 e1 e0
                have h1 : Bs w' u1 a0.data.toList := h 1 (by kernel_rfl)
                have h2 : u2 = .agg #[.slice ta rows.length tc] := h 2 (by kernel_rfl)
                clear h
                simp only [over, Act.put, List.setIfInBounds_toArray, List.set_cons_zero, List.set_cons_succ]
                subst h2
                have c5 := impl_Map _ _ _ _ _ (HU1.out.ext x) h1 (HTT8.out.ext x) (by show a0.size ≤ _; omega) HLE.out
                rw [HM1.out] at c5
                go_wp2_with (go_at_call 36; refine c5.mono ?_)
                rintro _ w5 ⟨v5, rfl, o5, x5⟩
                go_wp2_with fail
                exact postK_normal ⟨_, rfl, o5.bs, x5⟩
              refine AllSteps.cons (fun us hus w' x h => ?_) ?_
              · obtain ⟨u0, t0, e0, s0⟩ := len_cons hus; obtain ⟨u1, t1, e1, s1⟩ := len_cons s0; obtain ⟨u2, t2, e2, s2⟩ := len_cons s1; obtain ⟨u3, t3, e3, s3⟩ := len_cons s2; obtain ⟨u4, t4, e4, s4⟩ := len_cons s3; obtain ⟨u5, t5, e5, s5⟩ := len_cons s4; obtain ⟨u6, t6, e6, s6⟩ := len_cons s5; obtain ⟨u7, t7, e7, s7⟩ := len_cons s6; obtain ⟨u8, t8, e8, s8⟩ := len_cons s7; obtain ⟨u9, t9, e9, s9⟩ := len_cons s8; obtain ⟨u10, t10, e10, s10⟩ := len_cons s9; obtain ⟨u11, t11, e11, s11⟩ := len_cons s10; obtain ⟨u12, t12, e12, s12⟩ := len_cons s11; obtain ⟨u13, t13, e13, s13⟩ := len_cons s12; obtain ⟨u14, t14, e14, s14⟩ := len_cons s13; obtain ⟨u15, t15, e15, s15⟩ := len_cons s14; obtain ⟨u16, t16, e16, s16⟩ := len_cons s15; obtain ⟨u17, t17, e17, s17⟩ := len_cons s16; obtain ⟨u18, t18, e18, s18⟩ := len_cons s17; obtain ⟨u19, t19, e19, s19⟩ := len_cons s18; obtain ⟨u20, t20, e20, s20⟩ := len_cons s19; obtain ⟨u21, t21, e21, s21⟩ := len_cons s20; obtain ⟨u22, t22, e22, s22⟩ := len_cons s21; obtain ⟨u23, t23, e23, s23⟩ := len_cons s22; obtain ⟨u24, t24, e24, s24⟩ := len_cons s23; obtain ⟨u25, t25, e25, s25⟩ := len_cons s24; obtain ⟨u26, t26, e26, s26⟩ := len_cons s25
                obtain rfl := len_nil s26
                clear hus s0 s1 s2 s3 s4 s5 s6 s7 s8 s9 s10 s11 s12 s13 s14 s15 s16 s17 s18 s19 s20 s21 s22 s23 s24 s25 s26
                subst e26 e25 e24 e23 e22 e21 e20 e19 e18 e17 e16 e15 e14 e13 e12 e11 e10 e9 e8 e7 e6 e5 e4 e3 e2 e1 e0
                have h3 : Bs w' u3 M1 := h 3 (by kernel_rfl)
                clear h
                simp only [over, Act.put, List.setIfInBounds_toArray, List.set_cons_zero, List.set_cons_succ]
                go_wp2_with (refine wpList_toString rfl 30 9 _ rfl 5 Tryd.underlying30 Tryd.underlying5 Tryd.underlying9 _ _ rfl h3 ?_)
                rw [HS1.out]
                go_wp2_with fail
                exact postK_normal ⟨_, rfl, rfl, Ext.refl _⟩
              refine AllSteps.cons (fun us hus w' x h => ?_) ?_
              · obtain ⟨u0, t0, e0, s0⟩ := len_cons hus; obtain ⟨u1, t1, e1, s1⟩ := len_cons s0; obtain ⟨u2, t2, e2, s2⟩ := len_cons s1; obtain ⟨u3, t3, e3, s3⟩ := len_cons s2; obtain ⟨u4, t4, e4, s4⟩ := len_cons s3; obtain ⟨u5, t5, e5, s5⟩ := len_cons s4; obtain ⟨u6, t6, e6, s6⟩ := len_cons s5; obtain ⟨u7, t7, e7, s7⟩ := len_cons s6; obtain ⟨u8, t8, e8, s8⟩ := len_cons s7; obtain ⟨u9, t9, e9, s9⟩ := len_cons s8; obtain ⟨u10, t10, e10, s10⟩ := len_cons s9; obtain ⟨u11, t11, e11, s11⟩ := len_cons s10; obtain ⟨u12, t12, e12, s12⟩ := len_cons s11; obtain ⟨u13, t13, e13, s13⟩ := len_cons s12; obtain ⟨u14, t14, e14, s14⟩ := len_cons s13; obtain ⟨u15, t15, e15, s15⟩ := len_cons s14; obtain ⟨u16, t16, e16, s16⟩ := len_cons s15; obtain ⟨u17, t17, e17, s17⟩ := len_cons s16; obtain ⟨u18, t18, e18, s18⟩ := len_cons s17; obtain ⟨u19, t19, e19, s19⟩ := len_cons s18; obtain ⟨u20, t20, e20, s20⟩ := len_cons s19; obtain ⟨u21, t21, e21, s21⟩ := len_cons s20; obtain ⟨u22, t22, e22, s22⟩ := len_cons s21; obtain ⟨u23, t23, e23, s23⟩ := len_cons s22; obtain ⟨u24, t24, e24, s24⟩ := len_cons s23; obtain ⟨u25, t25, e25, s25⟩ := len_cons s24; obtain ⟨u26, t26, e26, s26⟩ := len_cons s25
                obtain rfl := len_nil s26
                clear hus s0 s1 s2 s3 s4 s5 s6 s7 s8 s9 s10 s11 s12 s13 s14 s15 s16 s17 s18 s19 s20 s21 s22 s23 s24 s25 s26
                subst e26 e25 e24 e23 e22 e21 e20 e19 e18 e17 e16 e15 e14 e13 e12 e11 e10 e9 e8 e7 e6 e5 e4 e3 e2 e1 e0
                have h4 : u4 = .string s1 := h 4 (by kernel_rfl)
                clear h
                simp only [over, Act.put, List.setIfInBounds_toArray, List.set_cons_zero, List.set_cons_succ]
                subst h4
                go_wp2_with (refine wpList_toBytes rfl 9 30 _ rfl 5 Tryd.underlying9 Tryd.underlying30 Tryd.underlying5 _ rfl hm1 ?_)
                intro v5 w5 o5 x5
                have o5 : Bs w5 v5 M1 := HSD1.out ▸ o5.bs
                go_wp2_with fail
                exact postK_normal ⟨_, rfl, o5, x5⟩
              refine AllSteps.cons (fun us hus w' x h => ?_) ?_
              · obtain ⟨u0, t0, e0, s0⟩ := len_cons hus; obtain ⟨u1, t1, e1, s1⟩ := len_cons s0; obtain ⟨u2, t2, e2, s2⟩ := len_cons s1; obtain ⟨u3, t3, e3, s3⟩ := len_cons s2; obtain ⟨u4, t4, e4, s4⟩ := len_cons s3; obtain ⟨u5, t5, e5, s5⟩ := len_cons s4; obtain ⟨u6, t6, e6, s6⟩ := len_cons s5; obtain ⟨u7, t7, e7, s7⟩ := len_cons s6; obtain ⟨u8, t8, e8, s8⟩ := len_cons s7; obtain ⟨u9, t9, e9, s9⟩ := len_cons s8; obtain ⟨u10, t10, e10, s10⟩ := len_cons s9; obtain ⟨u11, t11, e11, s11⟩ := len_cons s10; obtain ⟨u12, t12, e12, s12⟩ := len_cons s11; obtain ⟨u13, t13, e13, s13⟩ := len_cons s12; obtain ⟨u14, t14, e14, s14⟩ := len_cons s13; obtain ⟨u15, t15, e15, s15⟩ := len_cons s14; obtain ⟨u16, t16, e16, s16⟩ := len_cons s15; obtain ⟨u17, t17, e17, s17⟩ := len_cons s16; obtain ⟨u18, t18, e18, s18⟩ := len_cons s17; obtain ⟨u19, t19, e19, s19⟩ := len_cons s18; obtain ⟨u20, t20, e20, s20⟩ := len_cons s19; obtain ⟨u21, t21, e21, s21⟩ := len_cons s20; obtain ⟨u22, t22, e22, s22⟩ := len_cons s21; obtain ⟨u23, t23, e23, s23⟩ := len_cons s22; obtain ⟨u24, t24, e24, s24⟩ := len_cons s23; obtain ⟨u25, t25, e25, s25⟩ := len_cons s24; obtain ⟨u26, t26, e26, s26⟩ := len_cons s25
                obtain rfl := len_nil s26
                clear hus s0 s1 s2 s3 s4 s5 s6 s7 s8 s9 s10 s11 s12 s13 s14 s15 s16 s17 s18 s19 s20 s21 s22 s23 s24 s25 s26
                subst e26 e25 e24 e23 e22 e21 e20 e19 e18 e17 e16 e15 e14 e13 e12 e11 e10 e9 e8 e7 e6 e5 e4 e3 e2 e1 e0
                clear h
                simp only [over, Act.put, List.setIfInBounds_toArray, List.set_cons_zero, List.set_cons_succ]
                have f5 := x.cell HG1.out
                go_wp2_with fail
                exact postK_normal ⟨_, rfl, rfl, Ext.refl _⟩
              refine AllSteps.cons (fun us hus w' x h => ?_) ?_
              · obtain ⟨u0, t0, e0, s0⟩ := len_cons hus; obtain ⟨u1, t1, e1, s1⟩ := len_cons s0; obtain ⟨u2, t2, e2, s2⟩ := len_cons s1; obtain ⟨u3, t3, e3, s3⟩ := len_cons s2; obtain ⟨u4, t4, e4, s4⟩ := len_cons s3; obtain ⟨u5, t5, e5, s5⟩ := len_cons s4; obtain ⟨u6, t6, e6, s6⟩ := len_cons s5; obtain ⟨u7, t7, e7, s7⟩ := len_cons s6; obtain ⟨u8, t8, e8, s8⟩ := len_cons s7; obtain ⟨u9, t9, e9, s9⟩ := len_cons s8; obtain ⟨u10, t10, e10, s10⟩ := len_cons s9; obtain ⟨u11, t11, e11, s11⟩ := len_cons s10; obtain ⟨u12, t12, e12, s12⟩ := len_cons s11; obtain ⟨u13, t13, e13, s13⟩ := len_cons s12; obtain ⟨u14, t14, e14, s14⟩ := len_cons s13; obtain ⟨u15, t15, e15, s15⟩ := len_cons s14; obtain ⟨u16, t16, e16, s16⟩ := len_cons s15; obtain ⟨u17, t17, e17, s17⟩ := len_cons s16; obtain ⟨u18, t18, e18, s18⟩ := len_cons s17; obtain ⟨u19, t19, e19, s19⟩ := len_cons s18; obtain ⟨u20, t20, e20, s20⟩ := len_cons s19; obtain ⟨u21, t21, e21, s21⟩ := len_cons s20; obtain ⟨u22, t22, e22, s22⟩ := len_cons s21; obtain ⟨u23, t23, e23, s23⟩ := len_cons s22; obtain ⟨u24, t24, e24, s24⟩ := len_cons s23; obtain ⟨u25, t25, e25, s25⟩ := len_cons s24; obtain ⟨u26, t26, e26, s26⟩ := len_cons s25
                obtain rfl := len_nil s26
                clear hus s0 s1 s2 s3 s4 s5 s6 s7 s8 s9 s10 s11 s12 s13 s14 s15 s16 s17 s18 s19 s20 s21 s22 s23 s24 s25 s26
                subst e26 e25 e24 e23 e22 e21 e20 e19 e18 e17 e16 e15 e14 e13 e12 e11 e10 e9 e8 e7 e6 e5 e4 e3 e2 e1 e0
                have h5 : Bs w' u5 M1 := h 5 (by kernel_rfl)
                have h6 : u6 = .agg #[.slice tb rows2.length td] := h 6 (by kernel_rfl)
                clear h
                simp only [over, Act.put, List.setIfInBounds_toArray, List.set_cons_zero, List.set_cons_succ]
                subst h6
                have c5 := impl_Map _ _ _ _ _ (HU2.out.ext x) h5 (HTT8.out.ext x) (by omega) HLE2.out
                rw [HM2.out] at c5
                go_wp2_with (go_at_call 36; refine c5.mono ?_)
                rintro _ w5 ⟨v5, rfl, o5, x5⟩
                go_wp2_with fail
                exact postK_normal ⟨_, rfl, o5.bs, x5⟩
              refine AllSteps.cons (fun us hus w' x h => ?_) ?_
              · obtain ⟨u0, t0, e0, s0⟩ := len_cons hus; obtain ⟨u1, t1, e1, s1⟩ := len_cons s0; obtain ⟨u2, t2, e2, s2⟩ := len_cons s1; obtain ⟨u3, t3, e3, s3⟩ := len_cons s2; obtain ⟨u4, t4, e4, s4⟩ := len_cons s3; obtain ⟨u5, t5, e5, s5⟩ := len_cons s4; obtain ⟨u6, t6, e6, s6⟩ := len_cons s5; obtain ⟨u7, t7, e7, s7⟩ := len_cons s6; obtain ⟨u8, t8, e8, s8⟩ := len_cons s7; obtain ⟨u9, t9, e9, s9⟩ := len_cons s8; obtain ⟨u10, t10, e10, s10⟩ := len_cons s9; obtain ⟨u11, t11, e11, s11⟩ := len_cons s10; obtain ⟨u12, t12, e12, s12⟩ := len_cons s11; obtain ⟨u13, t13, e13, s13⟩ := len_cons s12; obtain ⟨u14, t14, e14, s14⟩ := len_cons s13; obtain ⟨u15, t15, e15, s15⟩ := len_cons s14; obtain ⟨u16, t16, e16, s16⟩ := len_cons s15; obtain ⟨u17, t17, e17, s17⟩ := len_cons s16; obtain ⟨u18, t18, e18, s18⟩ := len_cons s17; obtain ⟨u19, t19, e19, s19⟩ := len_cons s18; obtain ⟨u20, t20, e20, s20⟩ := len_cons s19; obtain ⟨u21, t21, e21, s21⟩ := len_cons s20; obtain ⟨u22, t22, e22, s22⟩ := len_cons s21; obtain ⟨u23, t23, e23, s23⟩ := len_cons s22; obtain ⟨u24, t24, e24, s24⟩ := len_cons s23; obtain ⟨u25, t25, e25, s25⟩ := len_cons s24; obtain ⟨u26, t26, e26, s26⟩ := len_cons s25
                obtain rfl := len_nil s26
                clear hus s0 s1 s2 s3 s4 s5 s6 s7 s8 s9 s10 s11 s12 s13 s14 s15 s16 s17 s18 s19 s20 s21 s22 s23 s24 s25 s26
                subst e26 e25 e24 e23 e22 e21 e20 e19 e18 e17 e16 e15 e14 e13 e12 e11 e10 e9 e8 e7 e6 e5 e4 e3 e2 e1 e0
                have h7 : Bs w' u7 M2 := h 7 (by kernel_rfl)
                clear h
                simp only [over, Act.put, List.setIfInBounds_toArray, List.set_cons_zero, List.set_cons_succ]
                go_wp2_with (refine wpList_toString rfl 30 9 _ rfl 5 Tryd.underlying30 Tryd.underlying5 Tryd.underlying9 _ _ rfl h7 ?_)
                rw [HS2.out]
                go_wp2_with fail
                exact postK_normal ⟨_, rfl, rfl, Ext.refl _⟩
              refine AllSteps.cons (fun us hus w' x h => ?_) ?_
              · obtain ⟨u0, t0, e0, s0⟩ := len_cons hus; obtain ⟨u1, t1, e1, s1⟩ := len_cons s0; obtain ⟨u2, t2, e2, s2⟩ := len_cons s1; obtain ⟨u3, t3, e3, s3⟩ := len_cons s2; obtain ⟨u4, t4, e4, s4⟩ := len_cons s3; obtain ⟨u5, t5, e5, s5⟩ := len_cons s4; obtain ⟨u6, t6, e6, s6⟩ := len_cons s5; obtain ⟨u7, t7, e7, s7⟩ := len_cons s6; obtain ⟨u8, t8, e8, s8⟩ := len_cons s7; obtain ⟨u9, t9, e9, s9⟩ := len_cons s8; obtain ⟨u10, t10, e10, s10⟩ := len_cons s9; obtain ⟨u11, t11, e11, s11⟩ := len_cons s10; obtain ⟨u12, t12, e12, s12⟩ := len_cons s11; obtain ⟨u13, t13, e13, s13⟩ := len_cons s12; obtain ⟨u14, t14, e14, s14⟩ := len_cons s13; obtain ⟨u15, t15, e15, s15⟩ := len_cons s14; obtain ⟨u16, t16, e16, s16⟩ := len_cons s15; obtain ⟨u17, t17, e17, s17⟩ := len_cons s16; obtain ⟨u18, t18, e18, s18⟩ := len_cons s17; obtain ⟨u19, t19, e19, s19⟩ := len_cons s18; obtain ⟨u20, t20, e20, s20⟩ := len_cons s19; obtain ⟨u21, t21, e21, s21⟩ := len_cons s20; obtain ⟨u22, t22, e22, s22⟩ := len_cons s21; obtain ⟨u23, t23, e23, s23⟩ := len_cons s22; obtain ⟨u24, t24, e24, s24⟩ := len_cons s23; obtain ⟨u25, t25, e25, s25⟩ := len_cons s24; obtain ⟨u26, t26, e26, s26⟩ := len_cons s25
                obtain rfl := len_nil s26
                clear hus s0 s1 s2 s3 s4 s5 s6 s7 s8 s9 s10 s11 s12 s13 s14 s15 s16 s17 s18 s19 s20 s21 s22 s23 s24 s25 s26
                subst e26 e25 e24 e23 e22 e21 e20 e19 e18 e17 e16 e15 e14 e13 e12 e11 e10 e9 e8 e7 e6 e5 e4 e3 e2 e1 e0
                clear h
                simp only [over, Act.put, List.setIfInBounds_toArray, List.set_cons_zero, List.set_cons_succ]
                go_wp2_with fail
                exact postK_normal ⟨_, rfl, rfl, Ext.refl _⟩
              refine AllSteps.cons (fun us hus w' x h => ?_) ?_
              · obtain ⟨u0, t0, e0, s0⟩ := len_cons hus; obtain ⟨u1, t1, e1, s1⟩ := len_cons s0; obtain ⟨u2, t2, e2, s2⟩ := len_cons s1; obtain ⟨u3, t3, e3, s3⟩ := len_cons s2; obtain ⟨u4, t4, e4, s4⟩ := len_cons s3; obtain ⟨u5, t5, e5, s5⟩ := len_cons s4; obtain ⟨u6, t6, e6, s6⟩ := len_cons s5; obtain ⟨u7, t7, e7, s7⟩ := len_cons s6; obtain ⟨u8, t8, e8, s8⟩ := len_cons s7; obtain ⟨u9, t9, e9, s9⟩ := len_cons s8; obtain ⟨u10, t10, e10, s10⟩ := len_cons s9; obtain ⟨u11, t11, e11, s11⟩ := len_cons s10; obtain ⟨u12, t12, e12, s12⟩ := len_cons s11; obtain ⟨u13, t13, e13, s13⟩ := len_cons s12; obtain ⟨u14, t14, e14, s14⟩ := len_cons s13; obtain ⟨u15, t15, e15, s15⟩ := len_cons s14; obtain ⟨u16, t16, e16, s16⟩ := len_cons s15; obtain ⟨u17, t17, e17, s17⟩ := len_cons s16; obtain ⟨u18, t18, e18, s18⟩ := len_cons s17; obtain ⟨u19, t19, e19, s19⟩ := len_cons s18; obtain ⟨u20, t20, e20, s20⟩ := len_cons s19; obtain ⟨u21, t21, e21, s21⟩ := len_cons s20; obtain ⟨u22, t22, e22, s22⟩ := len_cons s21; obtain ⟨u23, t23, e23, s23⟩ := len_cons s22; obtain ⟨u24, t24, e24, s24⟩ := len_cons s23; obtain ⟨u25, t25, e25, s25⟩ := len_cons s24; obtain ⟨u26, t26, e26, s26⟩ := len_cons s25
                obtain rfl := len_nil s26
                clear hus s0 s1 s2 s3 s4 s5 s6 s7 s8 s9 s10 s11 s12 s13 s14 s15 s16 s17 s18 s19 s20 s21 s22 s23 s24 s25 s26
                subst e26 e25 e24 e23 e22 e21 e20 e19 e18 e17 e16 e15 e14 e13 e12 e11 e10 e9 e8 e7 e6 e5 e4 e3 e2 e1 e0
                have h9 : u9 = .string a0 := h 9 (by kernel_rfl)
                clear h
                simp only [over, Act.put, List.setIfInBounds_toArray, List.set_cons_zero, List.set_cons_succ]
                subst h9
                go_wp2_with (refine wpList_toBytes rfl 9 30 _ rfl 5 Tryd.underlying9 Tryd.underlying30 Tryd.underlying5 _ rfl hmax ?_)
                intro v5 w5 o5 x5
                have o5 : Bs w5 v5 a0.data.toList := o5.bs
                go_wp2_with fail
                exact postK_normal ⟨_, rfl, o5, x5⟩
              refine AllSteps.cons (fun us hus w' x h => ?_) ?_
              · obtain ⟨u0, t0, e0, s0⟩ := len_cons hus; obtain ⟨u1, t1, e1, s1⟩ := len_cons s0; obtain ⟨u2, t2, e2, s2⟩ := len_cons s1; obtain ⟨u3, t3, e3, s3⟩ := len_cons s2; obtain ⟨u4, t4, e4, s4⟩ := len_cons s3; obtain ⟨u5, t5, e5, s5⟩ := len_cons s4; obtain ⟨u6, t6, e6, s6⟩ := len_cons s5; obtain ⟨u7, t7, e7, s7⟩ := len_cons s6; obtain ⟨u8, t8, e8, s8⟩ := len_cons s7; obtain ⟨u9, t9, e9, s9⟩ := len_cons s8; obtain ⟨u10, t10, e10, s10⟩ := len_cons s9; obtain ⟨u11, t11, e11, s11⟩ := len_cons s10; obtain ⟨u12, t12, e12, s12⟩ := len_cons s11; obtain ⟨u13, t13, e13, s13⟩ := len_cons s12; obtain ⟨u14, t14, e14, s14⟩ := len_cons s13; obtain ⟨u15, t15, e15, s15⟩ := len_cons s14; obtain ⟨u16, t16, e16, s16⟩ := len_cons s15; obtain ⟨u17, t17, e17, s17⟩ := len_cons s16; obtain ⟨u18, t18, e18, s18⟩ := len_cons s17; obtain ⟨u19, t19, e19, s19⟩ := len_cons s18; obtain ⟨u20, t20, e20, s20⟩ := len_cons s19; obtain ⟨u21, t21, e21, s21⟩ := len_cons s20; obtain ⟨u22, t22, e22, s22⟩ := len_cons s21; obtain ⟨u23, t23, e23, s23⟩ := len_cons s22; obtain ⟨u24, t24, e24, s24⟩ := len_cons s23; obtain ⟨u25, t25, e25, s25⟩ := len_cons s24; obtain ⟨u26, t26, e26, s26⟩ := len_cons s25
                obtain rfl := len_nil s26
                clear hus s0 s1 s2 s3 s4 s5 s6 s7 s8 s9 s10 s11 s12 s13 s14 s15 s16 s17 s18 s19 s20 s21 s22 s23 s24 s25 s26
                subst e26 e25 e24 e23 e22 e21 e20 e19 e18 e17 e16 e15 e14 e13 e12 e11 e10 e9 e8 e7 e6 e5 e4 e3 e2 e1 e0
                clear h
                simp only [over, Act.put, List.setIfInBounds_toArray, List.set_cons_zero, List.set_cons_succ]
                have f5 := x.cell HG2.out
                go_wp2_with fail
                exact postK_normal ⟨_, rfl, rfl, Ext.refl _⟩
              refine AllSteps.cons (fun us hus w' x h => ?_) ?_
              · obtain ⟨u0, t0, e0, s0⟩ := len_cons hus; obtain ⟨u1, t1, e1, s1⟩ := len_cons s0; obtain ⟨u2, t2, e2, s2⟩ := len_cons s1; obtain ⟨u3, t3, e3, s3⟩ := len_cons s2; obtain ⟨u4, t4, e4, s4⟩ := len_cons s3; obtain ⟨u5, t5, e5, s5⟩ := len_cons s4; obtain ⟨u6, t6, e6, s6⟩ := len_cons s5; obtain ⟨u7, t7, e7, s7⟩ := len_cons s6; obtain ⟨u8, t8, e8, s8⟩ := len_cons s7; obtain ⟨u9, t9, e9, s9⟩ := len_cons s8; obtain ⟨u10, t10, e10, s10⟩ := len_cons s9; obtain ⟨u11, t11, e11, s11⟩ := len_cons s10; obtain ⟨u12, t12, e12, s12⟩ := len_cons s11; obtain ⟨u13, t13, e13, s13⟩ := len_cons s12; obtain ⟨u14, t14, e14, s14⟩ := len_cons s13; obtain ⟨u15, t15, e15, s15⟩ := len_cons s14; obtain ⟨u16, t16, e16, s16⟩ := len_cons s15; obtain ⟨u17, t17, e17, s17⟩ := len_cons s16; obtain ⟨u18, t18, e18, s18⟩ := len_cons s17; obtain ⟨u19, t19, e19, s19⟩ := len_cons s18; obtain ⟨u20, t20, e20, s20⟩ := len_cons s19; obtain ⟨u21, t21, e21, s21⟩ := len_cons s20; obtain ⟨u22, t22, e22, s22⟩ := len_cons s21; obtain ⟨u23, t23, e23, s23⟩ := len_cons s22; obtain ⟨u24, t24, e24, s24⟩ := len_cons s23; obtain ⟨u25, t25, e25, s25⟩ := len_cons s24; obtain ⟨u26, t26, e26, s26⟩ := len_cons s25
                obtain rfl := len_nil s26
                clear hus s0 s1 s2 s3 s4 s5 s6 s7 s8 s9 s10 s11 s12 s13 s14 s15 s16 s17 s18 s19 s20 s21 s22 s23 s24 s25 s26
                subst e26 e25 e24 e23 e22 e21 e20 e19 e18 e17 e16 e15 e14 e13 e12 e11 e10 e9 e8 e7 e6 e5 e4 e3 e2 e1 e0
                have h10 : Bs w' u10 a0.data.toList := h 10 (by kernel_rfl)
                have h11 : u11 = .agg #[rv] := h 11 (by kernel_rfl)
                clear h
                simp only [over, Act.put, List.setIfInBounds_toArray, List.set_cons_zero, List.set_cons_succ]
                subst h11
                have c5 := impl_Map _ _ _ _ _ (HU3.out.ext x) h10 (HTT8.out.ext x) (by show a0.size ≤ _; omega) HBL.out
                rw [HM3.out] at c5
                go_wp2_with (go_at_call 36; refine c5.mono ?_)
                rintro _ w5 ⟨v5, rfl, o5, x5⟩
                go_wp2_with fail
                exact postK_normal ⟨_, rfl, o5.bs, x5⟩
              refine AllSteps.cons (fun us hus w' x h => ?_) ?_
              · obtain ⟨u0, t0, e0, s0⟩ := len_cons hus; obtain ⟨u1, t1, e1, s1⟩ := len_cons s0; obtain ⟨u2, t2, e2, s2⟩ := len_cons s1; obtain ⟨u3, t3, e3, s3⟩ := len_cons s2; obtain ⟨u4, t4, e4, s4⟩ := len_cons s3; obtain ⟨u5, t5, e5, s5⟩ := len_cons s4; obtain ⟨u6, t6, e6, s6⟩ := len_cons s5; obtain ⟨u7, t7, e7, s7⟩ := len_cons s6; obtain ⟨u8, t8, e8, s8⟩ := len_cons s7; obtain ⟨u9, t9, e9, s9⟩ := len_cons s8; obtain ⟨u10, t10, e10, s10⟩ := len_cons s9; obtain ⟨u11, t11, e11, s11⟩ := len_cons s10; obtain ⟨u12, t12, e12, s12⟩ := len_cons s11; obtain ⟨u13, t13, e13, s13⟩ := len_cons s12; obtain ⟨u14, t14, e14, s14⟩ := len_cons s13; obtain ⟨u15, t15, e15, s15⟩ := len_cons s14; obtain ⟨u16, t16, e16, s16⟩ := len_cons s15; obtain ⟨u17, t17, e17, s17⟩ := len_cons s16; obtain ⟨u18, t18, e18, s18⟩ := len_cons s17; obtain ⟨u19, t19, e19, s19⟩ := len_cons s18; obtain ⟨u20, t20, e20, s20⟩ := len_cons s19; obtain ⟨u21, t21, e21, s21⟩ := len_cons s20; obtain ⟨u22, t22, e22, s22⟩ := len_cons s21; obtain ⟨u23, t23, e23, s23⟩ := len_cons s22; obtain ⟨u24, t24, e24, s24⟩ := len_cons s23; obtain ⟨u25, t25, e25, s25⟩ := len_cons s24; obtain ⟨u26, t26, e26, s26⟩ := len_cons s25
                obtain rfl := len_nil s26
                clear hus s0 s1 s2 s3 s4 s5 s6 s7 s8 s9 s10 s11 s12 s13 s14 s15 s16 s17 s18 s19 s20 s21 s22 s23 s24 s25 s26
                subst e26 e25 e24 e23 e22 e21 e20 e19 e18 e17 e16 e15 e14 e13 e12 e11 e10 e9 e8 e7 e6 e5 e4 e3 e2 e1 e0
                have h12 : Bs w' u12 M2 := h 12 (by kernel_rfl)
                clear h
                simp only [over, Act.put, List.setIfInBounds_toArray, List.set_cons_zero, List.set_cons_succ]
                go_wp2_with (refine wpList_toString rfl 30 9 _ rfl 5 Tryd.underlying30 Tryd.underlying5 Tryd.underlying9 _ _ rfl h12 ?_)
                rw [HS2.out]
                go_wp2_with fail
                exact postK_normal ⟨_, rfl, rfl, Ext.refl _⟩
              refine AllSteps.cons (fun us hus w' x h => ?_) ?_
              · obtain ⟨u0, t0, e0, s0⟩ := len_cons hus; obtain ⟨u1, t1, e1, s1⟩ := len_cons s0; obtain ⟨u2, t2, e2, s2⟩ := len_cons s1; obtain ⟨u3, t3, e3, s3⟩ := len_cons s2; obtain ⟨u4, t4, e4, s4⟩ := len_cons s3; obtain ⟨u5, t5, e5, s5⟩ := len_cons s4; obtain ⟨u6, t6, e6, s6⟩ := len_cons s5; obtain ⟨u7, t7, e7, s7⟩ := len_cons s6; obtain ⟨u8, t8, e8, s8⟩ := len_cons s7; obtain ⟨u9, t9, e9, s9⟩ := len_cons s8; obtain ⟨u10, t10, e10, s10⟩ := len_cons s9; obtain ⟨u11, t11, e11, s11⟩ := len_cons s10; obtain ⟨u12, t12, e12, s12⟩ := len_cons s11; obtain ⟨u13, t13, e13, s13⟩ := len_cons s12; obtain ⟨u14, t14, e14, s14⟩ := len_cons s13; obtain ⟨u15, t15, e15, s15⟩ := len_cons s14; obtain ⟨u16, t16, e16, s16⟩ := len_cons s15; obtain ⟨u17, t17, e17, s17⟩ := len_cons s16; obtain ⟨u18, t18, e18, s18⟩ := len_cons s17; obtain ⟨u19, t19, e19, s19⟩ := len_cons s18; obtain ⟨u20, t20, e20, s20⟩ := len_cons s19; obtain ⟨u21, t21, e21, s21⟩ := len_cons s20; obtain ⟨u22, t22, e22, s22⟩ := len_cons s21; obtain ⟨u23, t23, e23, s23⟩ := len_cons s22; obtain ⟨u24, t24, e24, s24⟩ := len_cons s23; obtain ⟨u25, t25, e25, s25⟩ := len_cons s24; obtain ⟨u26, t26, e26, s26⟩ := len_cons s25
                obtain rfl := len_nil s26
                clear hus s0 s1 s2 s3 s4 s5 s6 s7 s8 s9 s10 s11 s12 s13 s14 s15 s16 s17 s18 s19 s20 s21 s22 s23 s24 s25 s26
                subst e26 e25 e24 e23 e22 e21 e20 e19 e18 e17 e16 e15 e14 e13 e12 e11 e10 e9 e8 e7 e6 e5 e4 e3 e2 e1 e0
                have h8 : u8 = .string s2 := h 8 (by kernel_rfl)
                have h13 : u13 = .string s2 := h 13 (by kernel_rfl)
                clear h
                simp only [over, Act.put, List.setIfInBounds_toArray, List.set_cons_zero, List.set_cons_succ]
                subst h8 h13
                go_wp2_with fail
                exact postK_normal ⟨_, rfl, by simp, Ext.refl _⟩
              refine AllSteps.cons (fun us hus w' x h => ?_) ?_
              · obtain ⟨u0, t0, e0, s0⟩ := len_cons hus; obtain ⟨u1, t1, e1, s1⟩ := len_cons s0; obtain ⟨u2, t2, e2, s2⟩ := len_cons s1; obtain ⟨u3, t3, e3, s3⟩ := len_cons s2; obtain ⟨u4, t4, e4, s4⟩ := len_cons s3; obtain ⟨u5, t5, e5, s5⟩ := len_cons s4; obtain ⟨u6, t6, e6, s6⟩ := len_cons s5; obtain ⟨u7, t7, e7, s7⟩ := len_cons s6; obtain ⟨u8, t8, e8, s8⟩ := len_cons s7; obtain ⟨u9, t9, e9, s9⟩ := len_cons s8; obtain ⟨u10, t10, e10, s10⟩ := len_cons s9; obtain ⟨u11, t11, e11, s11⟩ := len_cons s10; obtain ⟨u12, t12, e12, s12⟩ := len_cons s11; obtain ⟨u13, t13, e13, s13⟩ := len_cons s12; obtain ⟨u14, t14, e14, s14⟩ := len_cons s13; obtain ⟨u15, t15, e15, s15⟩ := len_cons s14; obtain ⟨u16, t16, e16, s16⟩ := len_cons s15; obtain ⟨u17, t17, e17, s17⟩ := len_cons s16; obtain ⟨u18, t18, e18, s18⟩ := len_cons s17; obtain ⟨u19, t19, e19, s19⟩ := len_cons s18; obtain ⟨u20, t20, e20, s20⟩ := len_cons s19; obtain ⟨u21, t21, e21, s21⟩ := len_cons s20; obtain ⟨u22, t22, e22, s22⟩ := len_cons s21; obtain ⟨u23, t23, e23, s23⟩ := len_cons s22; obtain ⟨u24, t24, e24, s24⟩ := len_cons s23; obtain ⟨u25, t25, e25, s25⟩ := len_cons s24; obtain ⟨u26, t26, e26, s26⟩ := len_cons s25
                obtain rfl := len_nil s26
                clear hus s0 s1 s2 s3 s4 s5 s6 s7 s8 s9 s10 s11 s12 s13 s14 s15 s16 s17 s18 s19 s20 s21 s22 s23 s24 s25 s26
                subst e26 e25 e24 e23 e22 e21 e20 e19 e18 e17 e16 e15 e14 e13 e12 e11 e10 e9 e8 e7 e6 e5 e4 e3 e2 e1 e0
                have h14 : u14 = .bool true := h 14 (by kernel_rfl)
                clear h
                simp only [over, Act.put, List.setIfInBounds_toArray, List.set_cons_zero, List.set_cons_succ]
                subst h14
                go_wp2_with fail
                exact postK_normal ⟨_, rfl, rfl, Ext.refl _⟩
              refine AllSteps.cons (fun us hus w' x h => ?_) ?_
              · obtain ⟨u0, t0, e0, s0⟩ := len_cons hus; obtain ⟨u1, t1, e1, s1⟩ := len_cons s0; obtain ⟨u2, t2, e2, s2⟩ := len_cons s1; obtain ⟨u3, t3, e3, s3⟩ := len_cons s2; obtain ⟨u4, t4, e4, s4⟩ := len_cons s3; obtain ⟨u5, t5, e5, s5⟩ := len_cons s4; obtain ⟨u6, t6, e6, s6⟩ := len_cons s5; obtain ⟨u7, t7, e7, s7⟩ := len_cons s6; obtain ⟨u8, t8, e8, s8⟩ := len_cons s7; obtain ⟨u9, t9, e9, s9⟩ := len_cons s8; obtain ⟨u10, t10, e10, s10⟩ := len_cons s9; obtain ⟨u11, t11, e11, s11⟩ := len_cons s10; obtain ⟨u12, t12, e12, s12⟩ := len_cons s11; obtain ⟨u13, t13, e13, s13⟩ := len_cons s12; obtain ⟨u14, t14, e14, s14⟩ := len_cons s13; obtain ⟨u15, t15, e15, s15⟩ := len_cons s14; obtain ⟨u16, t16, e16, s16⟩ := len_cons s15; obtain ⟨u17, t17, e17, s17⟩ := len_cons s16; obtain ⟨u18, t18, e18, s18⟩ := len_cons s17; obtain ⟨u19, t19, e19, s19⟩ := len_cons s18; obtain ⟨u20, t20, e20, s20⟩ := len_cons s19; obtain ⟨u21, t21, e21, s21⟩ := len_cons s20; obtain ⟨u22, t22, e22, s22⟩ := len_cons s21; obtain ⟨u23, t23, e23, s23⟩ := len_cons s22; obtain ⟨u24, t24, e24, s24⟩ := len_cons s23; obtain ⟨u25, t25, e25, s25⟩ := len_cons s24; obtain ⟨u26, t26, e26, s26⟩ := len_cons s25
                obtain rfl := len_nil s26
                clear hus s0 s1 s2 s3 s4 s5 s6 s7 s8 s9 s10 s11 s12 s13 s14 s15 s16 s17 s18 s19 s20 s21 s22 s23 s24 s25 s26
                subst e26 e25 e24 e23 e22 e21 e20 e19 e18 e17 e16 e15 e14 e13 e12 e11 e10 e9 e8 e7 e6 e5 e4 e3 e2 e1 e0
                have h15 : u15 = .bool true := h 15 (by kernel_rfl)
                clear h
                simp only [over, Act.put, List.setIfInBounds_toArray, List.set_cons_zero, List.set_cons_succ]
                subst h15
                go_wp2_with fail
                exact postK_normal ⟨_, rfl, rfl, Ext.refl _⟩
              refine AllSteps.cons (fun us hus w' x h => ?_) ?_
              · obtain ⟨u0, t0, e0, s0⟩ := len_cons hus; obtain ⟨u1, t1, e1, s1⟩ := len_cons s0; obtain ⟨u2, t2, e2, s2⟩ := len_cons s1; obtain ⟨u3, t3, e3, s3⟩ := len_cons s2; obtain ⟨u4, t4, e4, s4⟩ := len_cons s3; obtain ⟨u5, t5, e5, s5⟩ := len_cons s4; obtain ⟨u6, t6, e6, s6⟩ := len_cons s5; obtain ⟨u7, t7, e7, s7⟩ := len_cons s6; obtain ⟨u8, t8, e8, s8⟩ := len_cons s7; obtain ⟨u9, t9, e9, s9⟩ := len_cons s8; obtain ⟨u10, t10, e10, s10⟩ := len_cons s9; obtain ⟨u11, t11, e11, s11⟩ := len_cons s10; obtain ⟨u12, t12, e12, s12⟩ := len_cons s11; obtain ⟨u13, t13, e13, s13⟩ := len_cons s12; obtain ⟨u14, t14, e14, s14⟩ := len_cons s13; obtain ⟨u15, t15, e15, s15⟩ := len_cons s14; obtain ⟨u16, t16, e16, s16⟩ := len_cons s15; obtain ⟨u17, t17, e17, s17⟩ := len_cons s16; obtain ⟨u18, t18, e18, s18⟩ := len_cons s17; obtain ⟨u19, t19, e19, s19⟩ := len_cons s18; obtain ⟨u20, t20, e20, s20⟩ := len_cons s19; obtain ⟨u21, t21, e21, s21⟩ := len_cons s20; obtain ⟨u22, t22, e22, s22⟩ := len_cons s21; obtain ⟨u23, t23, e23, s23⟩ := len_cons s22; obtain ⟨u24, t24, e24, s24⟩ := len_cons s23; obtain ⟨u25, t25, e25, s25⟩ := len_cons s24; obtain ⟨u26, t26, e26, s26⟩ := len_cons s25
                obtain rfl := len_nil s26
                clear hus s0 s1 s2 s3 s4 s5 s6 s7 s8 s9 s10 s11 s12 s13 s14 s15 s16 s17 s18 s19 s20 s21 s22 s23 s24 s25 s26
                subst e26 e25 e24 e23 e22 e21 e20 e19 e18 e17 e16 e15 e14 e13 e12 e11 e10 e9 e8 e7 e6 e5 e4 e3 e2 e1 e0
                have h16 : u16 = .string a0 := h 16 (by kernel_rfl)
                have h15 : u15 = .bool true := h 15 (by kernel_rfl)
                clear h
                simp only [over, Act.put, List.setIfInBounds_toArray, List.set_cons_zero, List.set_cons_succ]
                subst h16
                subst h15
                go_wp2_with (refine wpList_toBytes rfl 9 30 _ rfl 5 Tryd.underlying9 Tryd.underlying30 Tryd.underlying5 _ rfl hmax ?_)
                intro v5 w5 o5 x5
                have o5 : Bs w5 v5 a0.data.toList := o5.bs
                go_wp2_with fail
                exact postK_normal ⟨_, rfl, o5, x5⟩
              refine AllSteps.cons (fun us hus w' x h => ?_) ?_
              · obtain ⟨u0, t0, e0, s0⟩ := len_cons hus; obtain ⟨u1, t1, e1, s1⟩ := len_cons s0; obtain ⟨u2, t2, e2, s2⟩ := len_cons s1; obtain ⟨u3, t3, e3, s3⟩ := len_cons s2; obtain ⟨u4, t4, e4, s4⟩ := len_cons s3; obtain ⟨u5, t5, e5, s5⟩ := len_cons s4; obtain ⟨u6, t6, e6, s6⟩ := len_cons s5; obtain ⟨u7, t7, e7, s7⟩ := len_cons s6; obtain ⟨u8, t8, e8, s8⟩ := len_cons s7; obtain ⟨u9, t9, e9, s9⟩ := len_cons s8; obtain ⟨u10, t10, e10, s10⟩ := len_cons s9; obtain ⟨u11, t11, e11, s11⟩ := len_cons s10; obtain ⟨u12, t12, e12, s12⟩ := len_cons s11; obtain ⟨u13, t13, e13, s13⟩ := len_cons s12; obtain ⟨u14, t14, e14, s14⟩ := len_cons s13; obtain ⟨u15, t15, e15, s15⟩ := len_cons s14; obtain ⟨u16, t16, e16, s16⟩ := len_cons s15; obtain ⟨u17, t17, e17, s17⟩ := len_cons s16; obtain ⟨u18, t18, e18, s18⟩ := len_cons s17; obtain ⟨u19, t19, e19, s19⟩ := len_cons s18; obtain ⟨u20, t20, e20, s20⟩ := len_cons s19; obtain ⟨u21, t21, e21, s21⟩ := len_cons s20; obtain ⟨u22, t22, e22, s22⟩ := len_cons s21; obtain ⟨u23, t23, e23, s23⟩ := len_cons s22; obtain ⟨u24, t24, e24, s24⟩ := len_cons s23; obtain ⟨u25, t25, e25, s25⟩ := len_cons s24; obtain ⟨u26, t26, e26, s26⟩ := len_cons s25
                obtain rfl := len_nil s26
                clear hus s0 s1 s2 s3 s4 s5 s6 s7 s8 s9 s10 s11 s12 s13 s14 s15 s16 s17 s18 s19 s20 s21 s22 s23 s24 s25 s26
                subst e26 e25 e24 e23 e22 e21 e20 e19 e18 e17 e16 e15 e14 e13 e12 e11 e10 e9 e8 e7 e6 e5 e4 e3 e2 e1 e0
                have h15 : u15 = .bool true := h 15 (by kernel_rfl)
                clear h
                simp only [over, Act.put, List.setIfInBounds_toArray, List.set_cons_zero, List.set_cons_succ]
                subst h15
                go_wp2_with (go_at_call 42; refine (laws_table _ _ [] [] _ (is_nil _) (is_nil _) (by simp)).mono ?_)
                rintro _ w5 ⟨v5, rfl, t5, x5⟩
                go_wp2_with fail
                exact postK_normal ⟨_, rfl, ⟨_, rfl, t5⟩, x5⟩
              refine AllSteps.cons (fun us hus w' x h => ?_) ?_
              · obtain ⟨u0, t0, e0, s0⟩ := len_cons hus; obtain ⟨u1, t1, e1, s1⟩ := len_cons s0; obtain ⟨u2, t2, e2, s2⟩ := len_cons s1; obtain ⟨u3, t3, e3, s3⟩ := len_cons s2; obtain ⟨u4, t4, e4, s4⟩ := len_cons s3; obtain ⟨u5, t5, e5, s5⟩ := len_cons s4; obtain ⟨u6, t6, e6, s6⟩ := len_cons s5; obtain ⟨u7, t7, e7, s7⟩ := len_cons s6; obtain ⟨u8, t8, e8, s8⟩ := len_cons s7; obtain ⟨u9, t9, e9, s9⟩ := len_cons s8; obtain ⟨u10, t10, e10, s10⟩ := len_cons s9; obtain ⟨u11, t11, e11, s11⟩ := len_cons s10; obtain ⟨u12, t12, e12, s12⟩ := len_cons s11; obtain ⟨u13, t13, e13, s13⟩ := len_cons s12; obtain ⟨u14, t14, e14, s14⟩ := len_cons s13; obtain ⟨u15, t15, e15, s15⟩ := len_cons s14; obtain ⟨u16, t16, e16, s16⟩ := len_cons s15; obtain ⟨u17, t17, e17, s17⟩ := len_cons s16; obtain ⟨u18, t18, e18, s18⟩ := len_cons s17; obtain ⟨u19, t19, e19, s19⟩ := len_cons s18; obtain ⟨u20, t20, e20, s20⟩ := len_cons s19; obtain ⟨u21, t21, e21, s21⟩ := len_cons s20; obtain ⟨u22, t22, e22, s22⟩ := len_cons s21; obtain ⟨u23, t23, e23, s23⟩ := len_cons s22; obtain ⟨u24, t24, e24, s24⟩ := len_cons s23; obtain ⟨u25, t25, e25, s25⟩ := len_cons s24; obtain ⟨u26, t26, e26, s26⟩ := len_cons s25
                obtain rfl := len_nil s26
                clear hus s0 s1 s2 s3 s4 s5 s6 s7 s8 s9 s10 s11 s12 s13 s14 s15 s16 s17 s18 s19 s20 s21 s22 s23 s24 s25 s26
                subst e26 e25 e24 e23 e22 e21 e20 e19 e18 e17 e16 e15 e14 e13 e12 e11 e10 e9 e8 e7 e6 e5 e4 e3 e2 e1 e0
                have h17 : Bs w' u17 a0.data.toList := h 17 (by kernel_rfl)
                have h18 : ∃ tv, u18 = .agg #[tv] ∧ Ts w' tv [] := h 18 (by kernel_rfl)
                have h15 : u15 = .bool true := h 15 (by kernel_rfl)
                clear h
                simp only [over, Act.put, List.setIfInBounds_toArray, List.set_cons_zero, List.set_cons_succ]
                obtain ⟨tv, e18, t18⟩ := h18
                subst e18 h15
                have c5 := impl_Map _ _ [] _ _ t18 h17 (HTT8.out.ext x) (by show a0.size ≤ _; omega) image_nil_le
                rw [imageT_nil, HMM.out] at c5
                obtain ⟨ta5, tc5, te5, _⟩ := t18.raw
                subst te5
                go_wp2_with (go_at_call 36; refine c5.mono ?_)
                rintro _ w5 ⟨v5, rfl, o5, x5⟩
                go_wp2_with fail
                exact postK_normal ⟨_, rfl, o5.bs, x5⟩
              refine AllSteps.cons (fun us hus w' x h => ?_) ?_
              · obtain ⟨u0, t0, e0, s0⟩ := len_cons hus; obtain ⟨u1, t1, e1, s1⟩ := len_cons s0; obtain ⟨u2, t2, e2, s2⟩ := len_cons s1; obtain ⟨u3, t3, e3, s3⟩ := len_cons s2; obtain ⟨u4, t4, e4, s4⟩ := len_cons s3; obtain ⟨u5, t5, e5, s5⟩ := len_cons s4; obtain ⟨u6, t6, e6, s6⟩ := len_cons s5; obtain ⟨u7, t7, e7, s7⟩ := len_cons s6; obtain ⟨u8, t8, e8, s8⟩ := len_cons s7; obtain ⟨u9, t9, e9, s9⟩ := len_cons s8; obtain ⟨u10, t10, e10, s10⟩ := len_cons s9; obtain ⟨u11, t11, e11, s11⟩ := len_cons s10; obtain ⟨u12, t12, e12, s12⟩ := len_cons s11; obtain ⟨u13, t13, e13, s13⟩ := len_cons s12; obtain ⟨u14, t14, e14, s14⟩ := len_cons s13; obtain ⟨u15, t15, e15, s15⟩ := len_cons s14; obtain ⟨u16, t16, e16, s16⟩ := len_cons s15; obtain ⟨u17, t17, e17, s17⟩ := len_cons s16; obtain ⟨u18, t18, e18, s18⟩ := len_cons s17; obtain ⟨u19, t19, e19, s19⟩ := len_cons s18; obtain ⟨u20, t20, e20, s20⟩ := len_cons s19; obtain ⟨u21, t21, e21, s21⟩ := len_cons s20; obtain ⟨u22, t22, e22, s22⟩ := len_cons s21; obtain ⟨u23, t23, e23, s23⟩ := len_cons s22; obtain ⟨u24, t24, e24, s24⟩ := len_cons s23; obtain ⟨u25, t25, e25, s25⟩ := len_cons s24; obtain ⟨u26, t26, e26, s26⟩ := len_cons s25
                obtain rfl := len_nil s26
                clear hus s0 s1 s2 s3 s4 s5 s6 s7 s8 s9 s10 s11 s12 s13 s14 s15 s16 s17 s18 s19 s20 s21 s22 s23 s24 s25 s26
                subst e26 e25 e24 e23 e22 e21 e20 e19 e18 e17 e16 e15 e14 e13 e12 e11 e10 e9 e8 e7 e6 e5 e4 e3 e2 e1 e0
                have h19 : Bs w' u19 M := h 19 (by kernel_rfl)
                have h15 : u15 = .bool true := h 15 (by kernel_rfl)
                clear h
                simp only [over, Act.put, List.setIfInBounds_toArray, List.set_cons_zero, List.set_cons_succ]
                subst h15
                go_wp2_with (refine wpList_toString rfl 30 9 _ rfl 5 Tryd.underlying30 Tryd.underlying5 Tryd.underlying9 _ _ rfl h19 ?_)
                rw [HSM.out]
                go_wp2_with fail
                exact postK_normal ⟨_, rfl, rfl, Ext.refl _⟩
              refine AllSteps.cons (fun us hus w' x h => ?_) ?_
              · obtain ⟨u0, t0, e0, s0⟩ := len_cons hus; obtain ⟨u1, t1, e1, s1⟩ := len_cons s0; obtain ⟨u2, t2, e2, s2⟩ := len_cons s1; obtain ⟨u3, t3, e3, s3⟩ := len_cons s2; obtain ⟨u4, t4, e4, s4⟩ := len_cons s3; obtain ⟨u5, t5, e5, s5⟩ := len_cons s4; obtain ⟨u6, t6, e6, s6⟩ := len_cons s5; obtain ⟨u7, t7, e7, s7⟩ := len_cons s6; obtain ⟨u8, t8, e8, s8⟩ := len_cons s7; obtain ⟨u9, t9, e9, s9⟩ := len_cons s8; obtain ⟨u10, t10, e10, s10⟩ := len_cons s9; obtain ⟨u11, t11, e11, s11⟩ := len_cons s10; obtain ⟨u12, t12, e12, s12⟩ := len_cons s11; obtain ⟨u13, t13, e13, s13⟩ := len_cons s12; obtain ⟨u14, t14, e14, s14⟩ := len_cons s13; obtain ⟨u15, t15, e15, s15⟩ := len_cons s14; obtain ⟨u16, t16, e16, s16⟩ := len_cons s15; obtain ⟨u17, t17, e17, s17⟩ := len_cons s16; obtain ⟨u18, t18, e18, s18⟩ := len_cons s17; obtain ⟨u19, t19, e19, s19⟩ := len_cons s18; obtain ⟨u20, t20, e20, s20⟩ := len_cons s19; obtain ⟨u21, t21, e21, s21⟩ := len_cons s20; obtain ⟨u22, t22, e22, s22⟩ := len_cons s21; obtain ⟨u23, t23, e23, s23⟩ := len_cons s22; obtain ⟨u24, t24, e24, s24⟩ := len_cons s23; obtain ⟨u25, t25, e25, s25⟩ := len_cons s24; obtain ⟨u26, t26, e26, s26⟩ := len_cons s25
                obtain rfl := len_nil s26
                clear hus s0 s1 s2 s3 s4 s5 s6 s7 s8 s9 s10 s11 s12 s13 s14 s15 s16 s17 s18 s19 s20 s21 s22 s23 s24 s25 s26
                subst e26 e25 e24 e23 e22 e21 e20 e19 e18 e17 e16 e15 e14 e13 e12 e11 e10 e9 e8 e7 e6 e5 e4 e3 e2 e1 e0
                have h20 : u20 = .string sM := h 20 (by kernel_rfl)
                have h15 : u15 = .bool true := h 15 (by kernel_rfl)
                clear h
                simp only [over, Act.put, List.setIfInBounds_toArray, List.set_cons_zero, List.set_cons_succ]
                subst h20 h15
                have hz := HZM.out
                go_wp2_with fail
                exact postK_normal ⟨_, rfl, rfl, Ext.refl _⟩
              refine AllSteps.cons (fun us hus w' x h => ?_) ?_
              · obtain ⟨u0, t0, e0, s0⟩ := len_cons hus; obtain ⟨u1, t1, e1, s1⟩ := len_cons s0; obtain ⟨u2, t2, e2, s2⟩ := len_cons s1; obtain ⟨u3, t3, e3, s3⟩ := len_cons s2; obtain ⟨u4, t4, e4, s4⟩ := len_cons s3; obtain ⟨u5, t5, e5, s5⟩ := len_cons s4; obtain ⟨u6, t6, e6, s6⟩ := len_cons s5; obtain ⟨u7, t7, e7, s7⟩ := len_cons s6; obtain ⟨u8, t8, e8, s8⟩ := len_cons s7; obtain ⟨u9, t9, e9, s9⟩ := len_cons s8; obtain ⟨u10, t10, e10, s10⟩ := len_cons s9; obtain ⟨u11, t11, e11, s11⟩ := len_cons s10; obtain ⟨u12, t12, e12, s12⟩ := len_cons s11; obtain ⟨u13, t13, e13, s13⟩ := len_cons s12; obtain ⟨u14, t14, e14, s14⟩ := len_cons s13; obtain ⟨u15, t15, e15, s15⟩ := len_cons s14; obtain ⟨u16, t16, e16, s16⟩ := len_cons s15; obtain ⟨u17, t17, e17, s17⟩ := len_cons s16; obtain ⟨u18, t18, e18, s18⟩ := len_cons s17; obtain ⟨u19, t19, e19, s19⟩ := len_cons s18; obtain ⟨u20, t20, e20, s20⟩ := len_cons s19; obtain ⟨u21, t21, e21, s21⟩ := len_cons s20; obtain ⟨u22, t22, e22, s22⟩ := len_cons s21; obtain ⟨u23, t23, e23, s23⟩ := len_cons s22; obtain ⟨u24, t24, e24, s24⟩ := len_cons s23; obtain ⟨u25, t25, e25, s25⟩ := len_cons s24; obtain ⟨u26, t26, e26, s26⟩ := len_cons s25
                obtain rfl := len_nil s26
                clear hus s0 s1 s2 s3 s4 s5 s6 s7 s8 s9 s10 s11 s12 s13 s14 s15 s16 s17 s18 s19 s20 s21 s22 s23 s24 s25 s26
                subst e26 e25 e24 e23 e22 e21 e20 e19 e18 e17 e16 e15 e14 e13 e12 e11 e10 e9 e8 e7 e6 e5 e4 e3 e2 e1 e0
                have h15 : u15 = .bool true := h 15 (by kernel_rfl)
                clear h
                simp only [over, Act.put, List.setIfInBounds_toArray, List.set_cons_zero, List.set_cons_succ]
                subst h15
                go_wp2_with fail
                exact postK_normal ⟨_, rfl, rfl, Ext.refl _⟩
              refine AllSteps.cons (fun us hus w' x h => ?_) ?_
              · obtain ⟨u0, t0, e0, s0⟩ := len_cons hus; obtain ⟨u1, t1, e1, s1⟩ := len_cons s0; obtain ⟨u2, t2, e2, s2⟩ := len_cons s1; obtain ⟨u3, t3, e3, s3⟩ := len_cons s2; obtain ⟨u4, t4, e4, s4⟩ := len_cons s3; obtain ⟨u5, t5, e5, s5⟩ := len_cons s4; obtain ⟨u6, t6, e6, s6⟩ := len_cons s5; obtain ⟨u7, t7, e7, s7⟩ := len_cons s6; obtain ⟨u8, t8, e8, s8⟩ := len_cons s7; obtain ⟨u9, t9, e9, s9⟩ := len_cons s8; obtain ⟨u10, t10, e10, s10⟩ := len_cons s9; obtain ⟨u11, t11, e11, s11⟩ := len_cons s10; obtain ⟨u12, t12, e12, s12⟩ := len_cons s11; obtain ⟨u13, t13, e13, s13⟩ := len_cons s12; obtain ⟨u14, t14, e14, s14⟩ := len_cons s13; obtain ⟨u15, t15, e15, s15⟩ := len_cons s14; obtain ⟨u16, t16, e16, s16⟩ := len_cons s15; obtain ⟨u17, t17, e17, s17⟩ := len_cons s16; obtain ⟨u18, t18, e18, s18⟩ := len_cons s17; obtain ⟨u19, t19, e19, s19⟩ := len_cons s18; obtain ⟨u20, t20, e20, s20⟩ := len_cons s19; obtain ⟨u21, t21, e21, s21⟩ := len_cons s20; obtain ⟨u22, t22, e22, s22⟩ := len_cons s21; obtain ⟨u23, t23, e23, s23⟩ := len_cons s22; obtain ⟨u24, t24, e24, s24⟩ := len_cons s23; obtain ⟨u25, t25, e25, s25⟩ := len_cons s24; obtain ⟨u26, t26, e26, s26⟩ := len_cons s25
                obtain rfl := len_nil s26
                clear hus s0 s1 s2 s3 s4 s5 s6 s7 s8 s9 s10 s11 s12 s13 s14 s15 s16 s17 s18 s19 s20 s21 s22 s23 s24 s25 s26
                subst e26 e25 e24 e23 e22 e21 e20 e19 e18 e17 e16 e15 e14 e13 e12 e11 e10 e9 e8 e7 e6 e5 e4 e3 e2 e1 e0
                have h22 : u22 = .string a0 := h 22 (by kernel_rfl)
                have h15 : u15 = .bool true := h 15 (by kernel_rfl)
                clear h
                simp only [over, Act.put, List.setIfInBounds_toArray, List.set_cons_zero, List.set_cons_succ]
                subst h22 h15
                have hz := HZ0.out
                go_wp2_with fail
                exact postK_normal ⟨_, rfl, rfl, Ext.refl _⟩
              refine AllSteps.cons (fun us hus w' x h => ?_) ?_
              · obtain ⟨u0, t0, e0, s0⟩ := len_cons hus; obtain ⟨u1, t1, e1, s1⟩ := len_cons s0; obtain ⟨u2, t2, e2, s2⟩ := len_cons s1; obtain ⟨u3, t3, e3, s3⟩ := len_cons s2; obtain ⟨u4, t4, e4, s4⟩ := len_cons s3; obtain ⟨u5, t5, e5, s5⟩ := len_cons s4; obtain ⟨u6, t6, e6, s6⟩ := len_cons s5; obtain ⟨u7, t7, e7, s7⟩ := len_cons s6; obtain ⟨u8, t8, e8, s8⟩ := len_cons s7; obtain ⟨u9, t9, e9, s9⟩ := len_cons s8; obtain ⟨u10, t10, e10, s10⟩ := len_cons s9; obtain ⟨u11, t11, e11, s11⟩ := len_cons s10; obtain ⟨u12, t12, e12, s12⟩ := len_cons s11; obtain ⟨u13, t13, e13, s13⟩ := len_cons s12; obtain ⟨u14, t14, e14, s14⟩ := len_cons s13; obtain ⟨u15, t15, e15, s15⟩ := len_cons s14; obtain ⟨u16, t16, e16, s16⟩ := len_cons s15; obtain ⟨u17, t17, e17, s17⟩ := len_cons s16; obtain ⟨u18, t18, e18, s18⟩ := len_cons s17; obtain ⟨u19, t19, e19, s19⟩ := len_cons s18; obtain ⟨u20, t20, e20, s20⟩ := len_cons s19; obtain ⟨u21, t21, e21, s21⟩ := len_cons s20; obtain ⟨u22, t22, e22, s22⟩ := len_cons s21; obtain ⟨u23, t23, e23, s23⟩ := len_cons s22; obtain ⟨u24, t24, e24, s24⟩ := len_cons s23; obtain ⟨u25, t25, e25, s25⟩ := len_cons s24; obtain ⟨u26, t26, e26, s26⟩ := len_cons s25
                obtain rfl := len_nil s26
                clear hus s0 s1 s2 s3 s4 s5 s6 s7 s8 s9 s10 s11 s12 s13 s14 s15 s16 s17 s18 s19 s20 s21 s22 s23 s24 s25 s26
                subst e26 e25 e24 e23 e22 e21 e20 e19 e18 e17 e16 e15 e14 e13 e12 e11 e10 e9 e8 e7 e6 e5 e4 e3 e2 e1 e0
                have h21 : u21 = .bool bb := h 21 (by kernel_rfl)
                have h23 : u23 = .bool bb := h 23 (by kernel_rfl)
                have h15 : u15 = .bool true := h 15 (by kernel_rfl)
                clear h
                simp only [over, Act.put, List.setIfInBounds_toArray, List.set_cons_zero, List.set_cons_succ]
                subst h21 h23 h15
                go_wp2_with fail
                exact postK_normal ⟨_, rfl, by simp, Ext.refl _⟩
              refine AllSteps.cons (fun us hus w' x h => ?_) ?_
              · obtain ⟨u0, t0, e0, s0⟩ := len_cons hus; obtain ⟨u1, t1, e1, s1⟩ := len_cons s0; obtain ⟨u2, t2, e2, s2⟩ := len_cons s1; obtain ⟨u3, t3, e3, s3⟩ := len_cons s2; obtain ⟨u4, t4, e4, s4⟩ := len_cons s3; obtain ⟨u5, t5, e5, s5⟩ := len_cons s4; obtain ⟨u6, t6, e6, s6⟩ := len_cons s5; obtain ⟨u7, t7, e7, s7⟩ := len_cons s6; obtain ⟨u8, t8, e8, s8⟩ := len_cons s7; obtain ⟨u9, t9, e9, s9⟩ := len_cons s8; obtain ⟨u10, t10, e10, s10⟩ := len_cons s9; obtain ⟨u11, t11, e11, s11⟩ := len_cons s10; obtain ⟨u12, t12, e12, s12⟩ := len_cons s11; obtain ⟨u13, t13, e13, s13⟩ := len_cons s12; obtain ⟨u14, t14, e14, s14⟩ := len_cons s13; obtain ⟨u15, t15, e15, s15⟩ := len_cons s14; obtain ⟨u16, t16, e16, s16⟩ := len_cons s15; obtain ⟨u17, t17, e17, s17⟩ := len_cons s16; obtain ⟨u18, t18, e18, s18⟩ := len_cons s17; obtain ⟨u19, t19, e19, s19⟩ := len_cons s18; obtain ⟨u20, t20, e20, s20⟩ := len_cons s19; obtain ⟨u21, t21, e21, s21⟩ := len_cons s20; obtain ⟨u22, t22, e22, s22⟩ := len_cons s21; obtain ⟨u23, t23, e23, s23⟩ := len_cons s22; obtain ⟨u24, t24, e24, s24⟩ := len_cons s23; obtain ⟨u25, t25, e25, s25⟩ := len_cons s24; obtain ⟨u26, t26, e26, s26⟩ := len_cons s25
                obtain rfl := len_nil s26
                clear hus s0 s1 s2 s3 s4 s5 s6 s7 s8 s9 s10 s11 s12 s13 s14 s15 s16 s17 s18 s19 s20 s21 s22 s23 s24 s25 s26
                subst e26 e25 e24 e23 e22 e21 e20 e19 e18 e17 e16 e15 e14 e13 e12 e11 e10 e9 e8 e7 e6 e5 e4 e3 e2 e1 e0
                have h15 : u15 = .bool true := h 15 (by kernel_rfl)
                have h24 : u24 = .bool true := h 24 (by kernel_rfl)
                clear h
                simp only [over, Act.put, List.setIfInBounds_toArray, List.set_cons_zero, List.set_cons_succ]
                subst h15 h24
                go_wp2_with fail
                exact postK_normal ⟨_, rfl, rfl, Ext.refl _⟩
              refine AllSteps.cons (fun us hus w' x h => ?_) ?_
              · obtain ⟨u0, t0, e0, s0⟩ := len_cons hus; obtain ⟨u1, t1, e1, s1⟩ := len_cons s0; obtain ⟨u2, t2, e2, s2⟩ := len_cons s1; obtain ⟨u3, t3, e3, s3⟩ := len_cons s2; obtain ⟨u4, t4, e4, s4⟩ := len_cons s3; obtain ⟨u5, t5, e5, s5⟩ := len_cons s4; obtain ⟨u6, t6, e6, s6⟩ := len_cons s5; obtain ⟨u7, t7, e7, s7⟩ := len_cons s6; obtain ⟨u8, t8, e8, s8⟩ := len_cons s7; obtain ⟨u9, t9, e9, s9⟩ := len_cons s8; obtain ⟨u10, t10, e10, s10⟩ := len_cons s9; obtain ⟨u11, t11, e11, s11⟩ := len_cons s10; obtain ⟨u12, t12, e12, s12⟩ := len_cons s11; obtain ⟨u13, t13, e13, s13⟩ := len_cons s12; obtain ⟨u14, t14, e14, s14⟩ := len_cons s13; obtain ⟨u15, t15, e15, s15⟩ := len_cons s14; obtain ⟨u16, t16, e16, s16⟩ := len_cons s15; obtain ⟨u17, t17, e17, s17⟩ := len_cons s16; obtain ⟨u18, t18, e18, s18⟩ := len_cons s17; obtain ⟨u19, t19, e19, s19⟩ := len_cons s18; obtain ⟨u20, t20, e20, s20⟩ := len_cons s19; obtain ⟨u21, t21, e21, s21⟩ := len_cons s20; obtain ⟨u22, t22, e22, s22⟩ := len_cons s21; obtain ⟨u23, t23, e23, s23⟩ := len_cons s22; obtain ⟨u24, t24, e24, s24⟩ := len_cons s23; obtain ⟨u25, t25, e25, s25⟩ := len_cons s24; obtain ⟨u26, t26, e26, s26⟩ := len_cons s25
                obtain rfl := len_nil s26
                clear hus s0 s1 s2 s3 s4 s5 s6 s7 s8 s9 s10 s11 s12 s13 s14 s15 s16 s17 s18 s19 s20 s21 s22 s23 s24 s25 s26
                subst e26 e25 e24 e23 e22 e21 e20 e19 e18 e17 e16 e15 e14 e13 e12 e11 e10 e9 e8 e7 e6 e5 e4 e3 e2 e1 e0
                have h25 : u25 = .bool true := h 25 (by kernel_rfl)
                clear h
                simp only [over, Act.put, List.setIfInBounds_toArray, List.set_cons_zero, List.set_cons_succ]
                subst h25
                go_wp2_with fail
                exact postK_normal ⟨_, rfl, rfl, Ext.refl _⟩
              exact AllSteps.nil
            case fin =>
              intro us hus w' x h
              obtain ⟨u0, t0, e0, s0⟩ := len_cons hus; obtain ⟨u1, t1, e1, s1⟩ := len_cons s0; obtain ⟨u2, t2, e2, s2⟩ := len_cons s1; obtain ⟨u3, t3, e3, s3⟩ := len_cons s2; obtain ⟨u4, t4, e4, s4⟩ := len_cons s3; obtain ⟨u5, t5, e5, s5⟩ := len_cons s4; obtain ⟨u6, t6, e6, s6⟩ := len_cons s5; obtain ⟨u7, t7, e7, s7⟩ := len_cons s6; obtain ⟨u8, t8, e8, s8⟩ := len_cons s7; obtain ⟨u9, t9, e9, s9⟩ := len_cons s8; obtain ⟨u10, t10, e10, s10⟩ := len_cons s9; obtain ⟨u11, t11, e11, s11⟩ := len_cons s10; obtain ⟨u12, t12, e12, s12⟩ := len_cons s11; obtain ⟨u13, t13, e13, s13⟩ := len_cons s12; obtain ⟨u14, t14, e14, s14⟩ := len_cons s13; obtain ⟨u15, t15, e15, s15⟩ := len_cons s14; obtain ⟨u16, t16, e16, s16⟩ := len_cons s15; obtain ⟨u17, t17, e17, s17⟩ := len_cons s16; obtain ⟨u18, t18, e18, s18⟩ := len_cons s17; obtain ⟨u19, t19, e19, s19⟩ := len_cons s18; obtain ⟨u20, t20, e20, s20⟩ := len_cons s19; obtain ⟨u21, t21, e21, s21⟩ := len_cons s20; obtain ⟨u22, t22, e22, s22⟩ := len_cons s21; obtain ⟨u23, t23, e23, s23⟩ := len_cons s22; obtain ⟨u24, t24, e24, s24⟩ := len_cons s23; obtain ⟨u25, t25, e25, s25⟩ := len_cons s24; obtain ⟨u26, t26, e26, s26⟩ := len_cons s25
              obtain rfl := len_nil s26
              clear hus s0 s1 s2 s3 s4 s5 s6 s7 s8 s9 s10 s11 s12 s13 s14 s15 s16 s17 s18 s19 s20 s21 s22 s23 s24 s25 s26
              subst e26 e25 e24 e23 e22 e21 e20 e19 e18 e17 e16 e15 e14 e13 e12 e11 e10 e9 e8 e7 e6 e5 e4 e3 e2 e1 e0
              have h26 : u26 = .bool true := h 26 (by decide)
              clear h
              subst h26
              simp only [over, Act.put, List.setIfInBounds_toArray, List.set_cons_zero, List.set_cons_succ]
              go_wp2_with fail
              go_meet
              exact ⟨rfl, x⟩
          case rest =>
            obtain ⟨rfl, x9⟩ := hcut
            go_wp2_with fail
            go_ret
            exact ⟨rfl, (HX8.out.trans x9).below⟩
end Go.Proofs.YtlbaoghebjaliaaDoor
