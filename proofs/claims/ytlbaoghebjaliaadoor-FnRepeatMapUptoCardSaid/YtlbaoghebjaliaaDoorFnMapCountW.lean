/- The walk of the law FnMapCount: it returns true where the text and the lists have at most 2^20 elements. -/
import Derived.Test.YtlbaoghebjaliaaDoorFnMapSelfW
import Derived.Test.YtlbaoghebjaliaaDoorOpenR3
import Derived.Deep.DeepCutAuto
namespace Go.Proofs.YtlbaoghebjaliaaDoor
open Go.RowKit

theorem imageT_le {fs ts : List Int} (h : In32 ts) : ∀ r : Int, 0 ≤ r → r ≤ 1114111 → imageT (fs.zip ts) r ≤ 2147483647 := by
  induction fs generalizing ts with
  | nil => intro r _ h2; show r ≤ _; omega
  | cons x fs ih =>
    intro r h1 h2
    cases ts with
    | nil => show r ≤ _; omega
    | cons y ts =>
      rw [List.zip_cons_cons, imageT]
      split
      · exact (h y (List.mem_cons_self ..)).2
      · exact ih (fun z hz => h z (List.mem_cons_of_mem _ hz)) r h1 h2

theorem keptC_step (f : Int → Int) (cs : List Ch) (j : Nat) (h : j < cs.length) : keptC f (cs.take (j + 1)) = keptC f (cs.take j) + if 0 ≤ f cs[j].r then 1 else 0 := by
  rw [List.take_succ_eq_append_getElem h]
  unfold keptC
  rw [List.filter_append, List.length_append]
  by_cases h2 : 0 ≤ f cs[j].r
  · simp [h2]
  · simp [h2]

set_option maxRecDepth 100000 in
set_option maxHeartbeats 8000000 in
theorem FnMapCount_walk (w : World) (hT : Tabs w) (a0 : ByteArray) (z0 : a0.size ≤ 1048576) (v1 : Value) (fs : List Int) (b1 : Is w v1 fs) (z1 : fs.length ≤ 1048576) (_g1 : In32 fs) (v2 : Value) (ts : List Int) (b2 : Is w v2 ts) (z2 : ts.length ≤ 1048576) (g2 : In32 ts) :
    Calls Tryd.prog 9 #[.string a0, v1, v2] w fun e w' => e = .returned (.bool true) ∧ Below w.heap.size w w' := by
  have hmax : a0.size ≤ maxLen := by unfold maxLen; omega
  have es : a0.data.toList.length = a0.size := rfl
  have HLE := Lib.hid (imageT_le (fs := fs) g2)
  obtain ⟨rows, hrows⟩ : ∃ rows, fs.zip ts = rows := ⟨_, rfl⟩
  rw [hrows] at HLE
  have HRW := Lib.hid hrows
  obtain ⟨f, hf⟩ : ∃ f, imageT rows = f := ⟨_, rfl⟩
  have HF := Lib.hid hf
  have key1 := wholeB_map f a0.data.toList
  have key2 : (runesOf (chunks (mapB f a0.data.toList))).length = keptC f (chunks a0.data.toList) := by
    rw [chunks_mapB]
    unfold runesOf
    rw [List.length_map, imgC_length]
  have key5 := mapC_size f (chunks a0.data.toList)
  have key6 := chunks_length a0.data.toList
  have key7 : (mapB f a0.data.toList).length ≤ 4194304 := by show (mapC _ _).length ≤ _; omega
  obtain ⟨M, hM⟩ : ∃ M, mapB f a0.data.toList = M := ⟨_, rfl⟩
  obtain ⟨cs, hcs⟩ : ∃ cs, chunks a0.data.toList = cs := ⟨_, rfl⟩
  rw [hM] at key1 key2 key7
  rw [hcs] at key2 key6
  rw [es] at key6
  obtain ⟨st, hst⟩ : ∃ st, (⟨M.toArray⟩ : ByteArray) = st := ⟨_, rfl⟩
  have HSD := Lib.hid (show st.data.toList = M by rw [← hst])
  have hsz : st.size ≤ 4194304 := by rw [← hst]; exact key7
  have HM := Lib.hid hM
  have HCS := Lib.hid hcs
  have HST := Lib.hid hst
  have HT := Lib.hid hT
  have K2 := Lib.hid key2
  have HRL := Lib.hid (show (runesOf cs).length = cs.length by simp [runesOf])
  clear hM hst hT key2 key5 es hcs hf hrows
  go_enter Tryd.func9, Tryd.ntmps9
  go_wp2_with (go_at_call 42; refine (laws_table _ _ fs ts _ b1 b2 (by omega)).mono ?_)
  rintro _ w1 ⟨v3, rfl, t1, x1⟩
  rw [HRW.out] at t1
  obtain ⟨ta, tc, te, _⟩ := t1.raw
  subst te
  have x2 : Ext w1 (w1.alloc (.cells #[.slice ta rows.length tc] 49)) := Ext.alloc _ _
  have f0 : (w1.alloc (.cells #[.slice ta rows.length tc] 49)).cell? ⟨w1.heap.size, 0, none⟩ = some (.slice ta rows.length tc) := by rw [World.cell?_alloc_mark]; rfl
  replace t1 := t1.ext x2
  have X := x1.trans x2
  obtain ⟨w2, hw2⟩ : ∃ w2, w1.alloc (.cells #[.slice ta rows.length tc] 49) = w2 := ⟨_, rfl⟩
  obtain ⟨n, hn⟩ : ∃ n, w1.heap.size = n := ⟨_, rfl⟩
  rw [hw2] at t1 f0 X
  rw [hn] at f0
  have c3 := spec_Points a0 w2 (by omega)
  rw [HCS.out] at c3
  clear x1 x2 b1 b2
  go_upto_region 2 with fail
  clear hw2 hn
  go_wp2_with (go_at_call 43; refine c3.mono ?_)
  rintro _ w3 ⟨v4, rfl, i3, x3⟩
  replace t1 := t1.ext x3
  replace f0 := x3.cell f0
  replace X := X.trans x3
  obtain ⟨a4, c4, e4, p4, q4, r4⟩ := i3.raw
  subst e4
  have hc4 : c4 ≤ 9223372036854775807 := by unfold maxLen at q4; omega
  have HC := Lib.hid r4
  have HTS := Lib.hid t1
  have HX := Lib.hid X
  have HF0 := Lib.hid f0
  rw [HRL.out] at p4 ⊢
  clear r4 q4 i3 x3 c3 t1 X f0
  go_wp2_with fail
  go_loopg [8, 18] cs.length (fun k m i wr => ∃ j : Nat, j + k = cs.length ∧ i = .int .i64 j ∧ m = .int .i64 (keptC f (cs.take j) : Int) ∧ Ext w3 wr)
  case atStart => exact ⟨0, by omega, rfl, rfl, Ext.refl _⟩
  case round =>
    obtain ⟨j, hj, rfl, rfl, hx⟩ := hrel
    have HJ := Lib.hid hj
    have HXX := Lib.hid hx
    have f0 := hx.cell HF0.out
    clear hx
    by_cases hlt : j < cs.length
    · have hg : 0 < gk := by omega
      obtain ⟨b, o, rfl, c0⟩ := HC.out j (by rw [HRL.out]; exact hlt)
      replace c0 := HXX.out.cell c0
      have he : (runesOf cs)[j]'(by rw [HRL.out]; exact hlt) = (cs[j].r : Int) := by simp [runesOf]
      rw [he] at c0
      have cI := spec_Image (.slice ta rows.length tc) rows cs[j].r _ (HTS.out.ext HXX.out)
      rw [HF.out] at cI
      have hst := keptC_step f cs j hlt
      have hkl : keptC f (cs.take j) ≤ j := by
        unfold keptC
        have := List.length_filter_le (fun c : Ch => decide (0 ≤ f c.r)) (cs.take j)
        rw [List.length_take] at this
        omega
      obtain ⟨rr, hrr⟩ : ∃ rr : Int, ((cs[j].r : Nat) : Int) = rr := ⟨_, rfl⟩
      rw [hrr] at c0 cI hst
      obtain ⟨y, hy⟩ : ∃ y, f rr = y := ⟨_, rfl⟩
      rw [hy] at cI hst
      obtain ⟨m, hm⟩ : ∃ m, keptC f (cs.take j) = m := ⟨_, rfl⟩
      rw [hm] at hst hkl ⊢
      clear hj he hrr hy hm
      by_cases hneg : 0 ≤ y
      · have HS := Lib.hid (show keptC f (cs.take (j + 1)) = m + 1 by rw [hst, if_pos hneg])
        clear hst
        go_wp2_with (go_at_call 44; refine cI.mono ?_; rintro _ w5 ⟨rfl, x5⟩)
        have HX5 := Lib.hid (HXX.out.trans x5)
        clear x5
        go_roundg (gk - 1)
        case measure => omega
        case rel => exact ⟨j + 1, by have := HJ.out; omega, by go_num, by rw [HS.out]; go_num, HX5.out⟩
      · have HS := Lib.hid (show keptC f (cs.take (j + 1)) = m by rw [hst, if_neg hneg]; rfl)
        clear hst
        go_wp2_with (go_at_call 44; refine cI.mono ?_; rintro _ w5 ⟨rfl, x5⟩)
        have HX5 := Lib.hid (HXX.out.trans x5)
        clear x5
        go_roundg (gk - 1)
        case measure => omega
        case rel => exact ⟨j + 1, by have := HJ.out; omega, by go_num, by rw [HS.out], HX5.out⟩
    · have HK := Lib.hid (show keptC f (cs.take j) = (runesOf (chunks M)).length by rw [List.take_of_length_le (by omega), K2.out])
      rw [HK.out]
      have X := HX.out.trans HXX.out
      clear hj
      go_wp2_with (refine wpList_toBytes rfl 9 30 _ rfl 5 Tryd.underlying9 Tryd.underlying30 Tryd.underlying5 _ rfl hmax ?_)
      intro v5 w5 o5 x5
      replace f0 := x5.cell f0
      replace X := X.trans x5
      have c6 := impl_Map _ _ rows _ _ (HTS.out.ext (HXX.out.trans x5)) o5.bs (HT.out.ext X) (by show a0.size ≤ _; omega) HLE.out
      rw [HF.out, HM.out] at c6
      clear x5 o5
      go_wp2_with (go_at_call 36; refine c6.mono ?_)
      rintro _ w6 ⟨v6, rfl, o6, x6⟩
      replace X := X.trans x6
      have q6 := o6.bs
      have c7 := spec_Points st w6 (by omega)
      rw [HSD.out] at c7
      clear x6 o6 c6
      go_wp2_with (first | (refine wpList_toString rfl 30 9 _ rfl 5 Tryd.underlying30 Tryd.underlying5 Tryd.underlying9 _ _ rfl q6 ?_; rw [HST.out]) | (go_at_call 43; refine c7.mono ?_))
      rintro _ w7 ⟨v7, rfl, i7, x7⟩
      replace X := X.trans x7
      obtain ⟨a7, c7', e7, _⟩ := i7.raw
      subst e7
      have c8 := spec_Whole st w7 (by omega)
      rw [HSD.out, key1] at c8
      clear x7 c7 i7 q6
      go_wp2_with (go_at_call 30; refine c8.mono ?_)
      rintro _ w8 ⟨rfl, x8⟩
      replace X := X.trans x8
      clear x8 c8
      go_wp2_with fail
      go_ret
      exact ⟨by simp, X.below⟩
end Go.Proofs.YtlbaoghebjaliaaDoor
