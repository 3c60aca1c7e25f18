/- The walks of spec.runs and of what calls it. -/
import Derived.Test.YthbfdajbajijeaaDoorFieldsP
import Derived.Test.YthbfdajbajijeaaDoorRunesW
namespace Go.Proofs.YthbfdajbajijeaaDoor
open Go.RowKit

theorem info_string : (Tryd.prog.info? 9).map (fun i => (i.zero, i.size, i.bytes)) = some (some (.string ByteArray.empty), 1, 16) := by kernel_rfl
theorem ba_part (s : ByteArray) (a b : Nat) (_hab : a ≤ b) : s.extract a b = ⟨(part s.data.toList a b).toArray⟩ := by
  apply ByteArray.ext
  apply Array.ext'
  rw [Lib.extract_data]
  unfold part
  simp only [List.drop_take]

/-- What a loop over the pieces that gathers strings has done. -/
def RunsRel (w : World) (n : Nat) (Bp : Nat) (a1 : Option Addr) (c1 : Nat) (tv : Value) (nt : Bool) (p : Int → Bool) (cs : List Ch) (k : Nat) (o f i : Value) (wr : World) : Prop :=
  ∃ (j : Nat) (D : List (List Ch)) (st : Option Nat), j + k = cs.length ∧ i = .int .i64 j ∧ f = .int .i64 (fromOf cs st) ∧ RunAt p cs j D st ∧ D.length ≤ j ∧
    wr.ownsRow (n + 1) 9 1 o (D.map glue).length (svals (D.map glue)) ∧ wr.ownsRow Bp 77 4 (.slice a1 cs.length c1) cs.length (pcells 0 cs) ∧
    wr.cell? ⟨n, 0, none⟩ = some tv ∧ wr.cell? ⟨n, 1, none⟩ = some (.bool nt) ∧ Below n w wr

theorem svals_snoc (D : List (List Ch)) (r : List Ch) : svals ((D ++ [r]).map glue) = svals (D.map glue) ++ [.string ⟨(glue r).toArray⟩] := by simp [svals]

set_option maxRecDepth 100000 in
set_option maxHeartbeats 4000000 in
theorem spec_runs (s : ByteArray) (v : Value) (rs : List Int) (nt : Bool) (w : World) (hs : s.size ≤ 1099511627776) (h : Is w v rs) :
    Calls Tryd.prog 67 #[.string s, .agg #[v, .bool nt]] w (RetRow w 9 1 (fieldsB (holdsT rs nt) s.data.toList).length (svals (fieldsB (holdsT rs nt) s.data.toList))) := by
  obtain ⟨a, c, rfl, _, _, _⟩ := h.raw
  obtain ⟨n, hn⟩ : ∃ n, w.heap.size = n := ⟨_, rfl⟩
  go_enter Tryd.func67, Tryd.ntmps67
  go_wp2_with (go_at_call 74; refine (spec_pieces' s _ hs).mono ?_)
  rintro _ w1 ⟨v1, rfl, p1, x1⟩
  have o1 := owns_keep (owns_empty (n + 1) 9 1 (w.alloc (.cells #[.slice a rs.length c, .bool nt] 24)) (by simp [hn])) x1
  have f0 := x1.cell (p := ⟨n, 0, none⟩) (v := .slice a rs.length c) ((Ext.alloc _ _).cell (by rw [← hn, World.cell?_alloc_mark]; rfl))
  have f1 := x1.cell (p := ⟨n, 1, none⟩) (v := .bool nt) ((Ext.alloc _ _).cell (by rw [← hn, World.cell?_alloc_mark]; rfl))
  have X : Ext w w1 := ((Ext.alloc _ _).trans (Ext.alloc _ _)).trans x1
  clear x1
  have hcl := chunks_length s.data.toList
  have ES : s.data.toList.length = s.size := rfl
  rw [ES] at hcl
  clear ES
  have hgl : glue (chunks s.data.toList) = s.data.toList := glue_chunks _
  obtain ⟨cs, hcs⟩ : ∃ cs, chunks s.data.toList = cs := ⟨_, rfl⟩
  have HF := Lib.hid (show fieldsB (holdsT rs nt) s.data.toList = (runsC (holdsT rs nt) cs).map glue by unfold fieldsB; rw [hcs])
  rw [hcs] at p1 hcl hgl
  have HPN := Lib.hid (show ∀ j, placeOf cs j ≤ s.size from fun j => by have := placeOf_le cs j; rw [hgl] at this; exact this)
  have HGL := Lib.hid hgl
  clear hcs hgl
  have ps : Ps w1 v1 cs := vs_of_owns p1
  obtain ⟨hm, a1, c1, rfl, hc1, hc2, _⟩ := ps.raw
  unfold maxLen at hm
  clear ps
  have XB := X.below
  rw [hn] at XB
  have HI := Lib.hid h
  have HN := Lib.hid hn
  obtain ⟨Bp, hBp⟩ : ∃ Bp, ((w.alloc (.cells #[.slice a rs.length c, .bool nt] 24)).alloc (.cells #[] 9)).heap.size = Bp := ⟨_, rfl⟩
  rw [hBp] at p1
  have hs1 : (w.alloc (.cells #[.slice a rs.length c, .bool nt] 24)).heap.size = n + 1 := by simp [hn]
  rw [hs1] at o1
  clear hBp hs1 X h
  go_wp2_with fail
  go_loopg [5, 7, 8] cs.length (fun k o f i wr => RunsRel w n Bp a1 c1 (.slice a rs.length c) nt (holdsT rs nt) cs k o f i wr)
  case atStart => exact ⟨0, [], none, by omega, rfl, rfl, RunAt.start _ _, Nat.le_refl _, o1, p1, f0, f1, XB⟩
  case round =>
    obtain ⟨j, D, st, hj, rfl, rfl, hrun, hDj, hown, hps, g0, g1, hbe⟩ := hrel
    clear o1 p1 f0 f1 XB
    have HJ := Lib.hid hj
    have HR := Lib.hid hrun
    have HO := Lib.hid hown
    have HP := Lib.hid hps
    have HB := Lib.hid hbe
    have hsz : n + 1 ≤ wr.heap.size := by
      have := World.block_lt_of_cell? wr _ g0
      exact this
    have HDL := Lib.hid (show (D.map glue).length = D.length by simp)
    have X0 : Ext w wr := ⟨by rw [HN.out]; exact HB.out⟩
    clear hrun hown hbe
    by_cases hlt : j < cs.length
    · have hg : 0 < gk := by omega
      have hj1 : j + 1 ≤ cs.length := hlt
      have ps : Ps wr (.slice a1 cs.length c1) cs := vs_of_owns hps
      obtain ⟨_, a2, c2, hv, _, _, hcells⟩ := ps.raw
      injection hv with hv1 _ hv2
      subst hv1
      subst hv2
      obtain ⟨b, o, rfl, q0, q1, q2, q3⟩ := hcells j hlt
      have cH := fun W (x : Ext wr W) => spec_holds (.slice a rs.length c) rs nt cs[j].r W (HI.out.ext (X0.trans x))
      clear hcells q1 q3 ps hj hps X0
      go_wp2_with fail
      go_still_tail 6, (by kernel_rfl)
      change wpList _ _ _ _ _ wr.drew
      have xd := Ext.drew wr
      generalize wr.drew = w2 at xd ⊢
      have cS := cH w2 xd
      clear cH
      cases hh : holdsT rs nt cs[j].r
      · rw [hh] at cS
        cases st with
        | none =>
          have hR := HR.out.opens hlt hh
          have HR2 := Lib.hid hR
          clear hh hR
          go_wp2_with (go_at_call 75; refine cS.mono ?_)
          rintro _ w3 ⟨rfl, x3⟩
          have xx := xd.trans x3
          replace q0 := xx.cell q0
          replace g0 := xx.cell g0
          replace g1 := xx.cell g1
          have hfr : fromOf cs none = -1 := rfl
          rw [hfr]
          go_wp2_with fail
          go_roundg (gk - 1)
          case measure => omega
          case rel => exact ⟨j + 1, D, some j, by have := HJ.out; omega, by go_num, rfl, HR2.out, by omega, owns_keep HO.out xx, owns_keep HP.out xx, g0, g1, below_ext HB.out xx (by omega)⟩
        | some s0 =>
          have hR := HR.out.goes hlt hh
          have HR2 := Lib.hid hR
          clear hh hR
          go_wp2_with (go_at_call 75; refine cS.mono ?_)
          rintro _ w3 ⟨rfl, x3⟩
          have xx := xd.trans x3
          replace g0 := xx.cell g0
          replace g1 := xx.cell g1
          have hfr : fromOf cs (some s0) = (placeOf cs s0 : Int) := rfl
          rw [hfr]
          go_wp2_with fail
          go_roundg (gk - 1)
          case measure => omega
          case rel => exact ⟨j + 1, D, some s0, by have := HJ.out; omega, by go_num, rfl, HR2.out, by omega, owns_keep HO.out xx, owns_keep HP.out xx, g0, g1, below_ext HB.out xx (by omega)⟩
      · rw [hh] at cS
        cases st with
        | none =>
          have hR := HR.out.sep hlt hh
          have HR2 := Lib.hid hR
          clear hh hR
          go_wp2_with (go_at_call 75; refine cS.mono ?_)
          rintro _ w3 ⟨rfl, x3⟩
          have xx := xd.trans x3
          replace g0 := xx.cell g0
          replace g1 := xx.cell g1
          have hfr : fromOf cs none = -1 := rfl
          rw [hfr]
          go_wp2_with fail
          go_roundg (gk - 1)
          case measure => omega
          case rel => exact ⟨j + 1, D, none, by have := HJ.out; omega, by go_num, rfl, HR2.out, by omega, owns_keep HO.out xx, owns_keep HP.out xx, g0, g1, below_ext HB.out xx (by omega)⟩
        | some s0 =>
          have hR := HR.out.shut hlt hh
          have hsj := HR.out.2 s0 rfl
          have HR2 := Lib.hid hR
          have hpm := place_mono cs (Nat.le_of_lt hsj)
          have hpl := HPN.out j
          have HST := Lib.hid (show s.extract (placeOf cs s0) (placeOf cs j) = ⟨(glue ((cs.take j).drop s0)).toArray⟩ by rw [ba_part s _ _ hpm, glue_part HGL.out])
          clear hh hR hsj
          have hfr : fromOf cs (some s0) = (placeOf cs s0 : Int) := rfl
          rw [hfr]
          obtain ⟨pa, hpa⟩ : ∃ pa, placeOf cs s0 = pa := ⟨_, rfl⟩
          obtain ⟨pb, hpb⟩ : ∃ pb, placeOf cs j = pb := ⟨_, rfl⟩
          rw [hpa] at hpm HST ⊢
          rw [hpb] at hpm hpl HST q0
          clear hpa hpb hfr
          go_wp2_with (go_at_call 75; refine cS.mono ?_)
          rintro _ w3 ⟨rfl, x3⟩
          have xx := xd.trans x3
          replace q0 := xx.cell q0
          replace g0 := xx.cell g0
          replace g1 := xx.cell g1
          have hh3 : wr.heap.size ≤ w3.heap.size := xx.size
          have O3 := owns_keep HO.out (xx.trans (Ext.alloc w3 (.cells #[.string (s.extract pa pb)] 9)))
          have P3 := owns_keep HP.out (xx.trans (Ext.alloc w3 (.cells #[.string (s.extract pa pb)] 9)))
          have B3 := below_ext HB.out (xx.trans (Ext.alloc w3 (.cells #[.string (s.extract pa pb)] 9))) (by omega)
          have G0 := (Ext.alloc w3 (.cells #[.string (s.extract pa pb)] 9)).cell g0
          have G1 := (Ext.alloc w3 (.cells #[.string (s.extract pa pb)] 9)).cell g1
          obtain ⟨M, hM⟩ : ∃ M, D.map glue = M := ⟨_, rfl⟩
          rw [hM] at O3 HDL
          have HMM := Lib.hid hM
          have O3' := Lib.hid O3
          have P3' := Lib.hid P3
          have B3' := Lib.hid B3
          have G0' := Lib.hid G0
          have G1' := Lib.hid G1
          clear O3 P3 B3 G0 G1 xd cS hM
          go_wp2_with (refine wpList_appendV rfl 31 _ _ rfl 9 1 16 _ Tryd.underlying31 info_string rfl (by omega) (n + 1) _ _ _ rfl O3'.out _ 1 _ [.string (s.extract pa pb)] rfl rfl (news_alloc _ _ _) (by simp [Value.oneCell']) (by rw [HDL.out]; omega) (by rw [HDL.out]; omega) (by simp; omega) ?_)
          intro v4 w4 o4 g4
          have B4 := owns_grown O3'.out g4 (by simp; omega) B3'.out (by omega)
          have P4 := owns_apart O3'.out P3'.out (by decide) g4
          have F4 := owns_frame O3'.out g4
          have G04 := F4.cell (by dsimp only; omega) G0'.out
          have G14 := F4.cell (by dsimp only; omega) G1'.out
          have HO4 := Lib.hid o4
          clear g4 F4 o4 g0 g1
          go_wp2_with fail
          go_roundg (gk - 1)
          case measure => omega
          case rel =>
            refine ⟨j + 1, D ++ [(cs.take j).drop s0], none, by have := HJ.out; omega, by go_num, rfl, HR2.out, by rw [List.length_append, List.length_singleton]; omega, ?_, P4, G04, G14, B4⟩
            have := HO4.out
            rw [HST.out] at this
            rw [svals_snoc, HMM.out]
            simpa [HMM.out] using this
    · have hje : j = cs.length := by omega
      subst hje
      clear hj hps
      cases st with
      | none =>
        have HD := Lib.hid HR.out.done
        have hfr : fromOf cs none = -1 := rfl
        rw [hfr]
        go_wp2_with fail
        go_ret
        refine ⟨_, rfl, ?_, X0⟩
        rw [HF.out, HD.out, HN.out]
        have := HO.out
        obtain ⟨t1, t2⟩ := this
        refine ⟨t1, ?_⟩
        rcases t2 with t2 | ⟨g, cap, cur, e1, e2, r⟩
        · exact .inl t2
        · exact .inr ⟨g, cap, cur, e1, by omega, r⟩
      | some s0 =>
        have HD := Lib.hid HR.out.done'
        have hsj := HR.out.2 s0 rfl
        have hpl := HPN.out s0
        have HST := Lib.hid (show s.extract (placeOf cs s0) s.size = ⟨(glue (cs.drop s0)).toArray⟩ by rw [glue_drop, HGL.out, ba_drop])
        have hfr : fromOf cs (some s0) = (placeOf cs s0 : Int) := rfl
        rw [hfr]
        obtain ⟨pa, hpa⟩ : ∃ pa, placeOf cs s0 = pa := ⟨_, rfl⟩
        rw [hpa] at hpl HST ⊢
        clear hpa hfr hsj
        have O3 := owns_keep HO.out (Ext.alloc wr (.cells #[.string (s.extract pa s.size)] 9))
        have B3 := below_ext HB.out (Ext.alloc wr (.cells #[.string (s.extract pa s.size)] 9)) (by omega)
        obtain ⟨M, hM⟩ : ∃ M, D.map glue = M := ⟨_, rfl⟩
        rw [hM] at O3 HDL
        have HMM := Lib.hid hM
        have O3' := Lib.hid O3
        have B3' := Lib.hid B3
        clear O3 B3 hM
        go_wp2_with (refine wpList_appendV rfl 31 _ _ rfl 9 1 16 _ Tryd.underlying31 info_string rfl (by omega) (n + 1) _ _ _ rfl O3'.out _ 1 _ [.string (s.extract pa s.size)] rfl rfl (news_alloc _ _ _) (by simp [Value.oneCell']) (by rw [HDL.out]; omega) (by rw [HDL.out]; omega) (by simp; omega) ?_)
        intro v4 w4 o4 g4
        have B4 := owns_grown O3'.out g4 (by simp; omega) B3'.out (by omega)
        have HO4 := Lib.hid o4
        clear g4 o4
        go_wp2_with fail
        go_ret
        refine ⟨_, rfl, ?_, ⟨by rw [HN.out]; exact B4⟩⟩
        rw [HF.out, HD.out, HN.out, svals_snoc, HMM.out]
        have := HO4.out
        rw [HST.out] at this
        have e : ((D ++ [cs.drop s0]).map glue).length = M.length + 1 := by rw [List.map_append, HMM.out]; simp
        rw [e]
        obtain ⟨t1, t2⟩ := this
        refine ⟨t1, ?_⟩
        rcases t2 with t2 | ⟨g, cap, cur, e1, e2, r⟩
        · exact .inl t2
        · exact .inr ⟨g, cap, cur, e1, by omega, r⟩
end Go.Proofs.YthbfdajbajijeaaDoor
