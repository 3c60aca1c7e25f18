/- The iterator of bytes.FieldsFuncSeq. Printed by iterf.py. -/
import Derived.Test.YthbfdajbajijeaaDoorZA
import Derived.Test.YthbfdajbajijeaaDoorZB
namespace Go.Proofs.YthbfdajbajijeaaDoor
open Go.RowKit Go.Shelf

attribute [local go_sem] Oper.semAt_some

/-- 's[l:h:h]' inside a fence. -/
theorem wpListIn_subLHM {F : Fence} {nn : Nat} {P : Program} {ops : Array Oper} {rest : List Oper} {o : Oper} {a : Act} {Q : Exit → Act → World → Prop} {w : World}
    (hgu : o.guard = none) (t : TypeId) (x y y' y'' : Operand) (hop : o.op = Op.slice t x (some y) (some y') (some y''))
    (e : TypeId) (ht : P.underlying t = some (.slice e)) {z : Value} {by_ : Nat} (hinfo : (P.info? e).map (fun i => (i.zero, i.size, i.bytes)) = some (some z, 1, by_))
    (v : Value) (L : List UInt8) (w0 : World) (hx : a.eval x = v) (hb : Bs w0 v L) (k k' k'' : IntKind) (I I' : Int) (hy : a.eval y = .int k I) (hy' : a.eval y' = .int k' I') (hy'' : a.eval y'' = .int k'' I') (l h : Nat) (hI : I = (l : Int)) (hI' : I' = (h : Int)) (hl : l ≤ h) (hh : h ≤ L.length)
    (hK : ∀ v', Bs w0 v' (part L l h) → wpListIn F nn P ops Q rest (a.put o.dst v') w) : wpListIn F nn P ops Q (o :: rest) a w := by
  refine wpListIn_plain hgu fun K hK' => ?_
  obtain ⟨ad, c, rfl, h1, h2⟩ := hb.shape
  subst hI hI'
  have hrun := run_sub_lhm (P := P) (w := w) ht hinfo ad L.length c k k' k'' l h h hl (Nat.le_refl _) (by omega)
  unfold Oper.wpIn
  refine ⟨?_, ?_⟩
  · simp [Oper.about, hop]
  · rw [Oper.semAt_plain F _ _ (by rw [hop]; intro c hc'; cases hc')]
    simp [execOp, hop, hx, hy, hy', hy'', hrun, Result.andThen]
    exact hK' _ _ (hK _ (hb.sliced hl hh (Nat.le_refl _) (by omega)))

set_option maxRecDepth 100000 in
set_option maxHeartbeats 4000000 in
theorem iter_FieldsFuncSeq (sv : Value) (l : List UInt8) (v : Value) (rs : List Int) (nt : Bool) (w : World) (m b1 b2 : Nat) (hb : Bs w sv l) (h : Is w v rs) (hT : Tabs w) (hlim : l.length ≤ 1099511627776)
    (c1 : w.cell? ⟨b1, 0, none⟩ = some sv) (c2 : w.cell? ⟨b2, 0, none⟩ = some (.func (.func 41) #[.agg #[v, .bool nt]] #[])) :
    IterOK Tryd.prog 69 #[.pointer (some ⟨b1, 0, none⟩), .pointer (some ⟨b2, 0, none⟩)] m w.heap.size (l.length + 1) l.length w (fieldsB (holdsT rs nt) l) := by
  intro nn ll J W x0 hE _ hY h0
  refine callsIn_wide.2 ?_
  show Calls Tryd.prog 69 #[.func (.yield ll) #[] #[], .pointer (some ⟨b1, 0, none⟩), .pointer (some ⟨b2, 0, none⟩)] W _
  have hcl := chunks_length l
  obtain ⟨a, c, hsv, hcap, hcm⟩ := hb.shape
  subst hsv
  obtain ⟨cs, HCS, HPL, HDE, HPE, HPA, HLA, HPN, HRG⟩ := chunk_facts l
  have hgl : glue cs = l := by rw [← HCS.out]; exact glue_chunks l
  have HGL := Lib.hid hgl
  have HF := Lib.hid (show fieldsB (holdsT rs nt) l = (runsC (holdsT rs nt) cs).map glue by unfold fieldsB; rw [HCS.out])
  rw [HCS.out] at hcl
  have HI := Lib.hid h
  have HT := Lib.hid hT
  have HBS := Lib.hid hb
  have HY := Lib.hid hY
  have HE := Lib.hid hE
  have H0 := Lib.hid h0
  have HX0 := Lib.hid x0
  clear h hT hb hgl hY hE h0 x0
  go_enter Tryd.func69, Tryd.ntmps69
  go_wp2_with fail
  go_loopg [4, 5] cs.length (fun k f i wr => ∃ (j : Nat) (D : List (List Ch)) (st : Option Nat), j + k = cs.length ∧ i = .int .i64 (placeOf cs j : Int) ∧ f = .int .i64 (fromOf cs st) ∧ RunAt (holdsT rs nt) cs j D st ∧ D.length ≤ j ∧ Ext w wr ∧ J (D.map glue) wr)
  case atStart => exact ⟨0, [], none, by omega, rfl, rfl, RunAt.start _ _, Nat.le_refl _, HX0.out, H0.out⟩
  case round =>
    obtain ⟨j, D, st, hj, rfl, rfl, hrun, hDj, hx, hJ⟩ := hrel
    have HJ := Lib.hid hj
    have HR := Lib.hid hrun
    have HX := Lib.hid hx
    have HJJ := Lib.hid hJ
    have d1 := hx.cell c1
    have d2 := hx.cell c2
    clear hrun hx hJ
    by_cases hlt : j < cs.length
    · have hg : 0 < gk := by omega
      have hpj := HPL.out j hlt
      have hb := HBS.out.ext HX.out
      obtain ⟨hne, hdec⟩ := HDE.out j hlt
      have hpe := HPE.out j hlt
      have hle := HPN.out (j + 1)
      obtain ⟨p, hp⟩ : ∃ p, placeOf cs j = p := ⟨_, rfl⟩
      rw [hp] at hpj hne hdec hpe ⊢
      have HPJ := Lib.hid hp
      have HPE2 := Lib.hid hpe
      have hsum : p + cs[j].bs.length ≤ l.length := by omega
      clear hj hp
      go_wp2_with (refine wpList_subL rfl 27 _ _ rfl 5 Tryd.underlying27 info_u8' _ _ rfl hb _ _ rfl p rfl (by omega) ?_)
      intro v2 b2' _
      go_wp2_with (go_at_call 60; refine (utf8_DecodeRune v2 _ _ b2' hne (HT.out.ext HX.out)).mono ?_)
      rintro _ w2 ⟨rfl, x2⟩
      rw [hdec]
      have HX2 := Lib.hid (HX.out.trans x2)
      have cH := impl_holds v rs nt cs[j].r w2 (HI.out.ext HX2.out)
      have HX22 := Lib.hid x2
      replace d1 := x2.cell d1
      replace d2 := x2.cell d2
      clear x2 b2' hb hdec hne hpe
      cases hh : (holdsT rs nt cs[j].r)
      · rw [hh] at cH
        cases st with
        | none =>
          have HR2 := Lib.hid (HR.out.opens hlt hh)
          have hfr : fromOf cs none = -1 := rfl
          rw [hfr]
          clear hh hfr
          go_wp2_with (go_at_call 41; refine cH.mono ?_; rintro _ w3 ⟨rfl, x3⟩)
          have xx := HX22.out.trans x3
          go_roundg (gk - 1)
          case measure => omega
          case rel => exact ⟨j + 1, D, some j, by have := HJ.out; omega, by rw [← HPE2.out]; go_num, by show _ = Value.int .i64 ((placeOf cs j : Nat) : Int); rw [HPJ.out], HR2.out, by omega, HX.out.trans xx, HE.out _ _ _ HJJ.out xx⟩
        | some s0 =>
          have HR2 := Lib.hid (HR.out.goes hlt hh)
          have hfr : fromOf cs (some s0) = (placeOf cs s0 : Int) := rfl
          rw [hfr]
          clear hh hfr
          go_wp2_with (go_at_call 41; refine cH.mono ?_; rintro _ w3 ⟨rfl, x3⟩)
          have xx := HX22.out.trans x3
          go_roundg (gk - 1)
          case measure => omega
          case rel => exact ⟨j + 1, D, some s0, by have := HJ.out; omega, by rw [← HPE2.out]; go_num, rfl, HR2.out, by omega, HX.out.trans xx, HE.out _ _ _ HJJ.out xx⟩
      · rw [hh] at cH
        cases st with
        | none =>
          have HR2 := Lib.hid (HR.out.sep hlt hh)
          have hfr : fromOf cs none = -1 := rfl
          rw [hfr]
          clear hh hfr
          go_wp2_with (go_at_call 41; refine cH.mono ?_; rintro _ w3 ⟨rfl, x3⟩)
          have xx := HX22.out.trans x3
          go_roundg (gk - 1)
          case measure => omega
          case rel => exact ⟨j + 1, D, none, by have := HJ.out; omega, by rw [← HPE2.out]; go_num, rfl, HR2.out, by omega, HX.out.trans xx, HE.out _ _ _ HJJ.out xx⟩
        | some s0 =>
          have HR2 := Lib.hid (HR.out.shut hlt hh)
          have hsj := HR.out.2 s0 rfl
          have hpm := place_mono cs (Nat.le_of_lt hsj)
          have HGP := Lib.hid (glue_part HGL.out s0 j)
          have hfr : fromOf cs (some s0) = (placeOf cs s0 : Int) := rfl
          rw [hfr]
          rw [HPJ.out] at hpm HGP
          obtain ⟨pa, hpa⟩ : ∃ pa, placeOf cs s0 = pa := ⟨_, rfl⟩
          rw [hpa] at hpm HGP ⊢
          clear hh hfr hpa hsj
          go_wp2_with (go_at_call 41; refine cH.mono ?_)
          rintro _ w3 ⟨rfl, x3⟩
          have xx := HX22.out.trans x3
          have hx3 := HX.out.trans xx
          replace d1 := x3.cell d1
          replace d2 := x3.cell d2
          clear x3 cH
          go_upto_region 6 with fail
          refine (wpIn_wide (n := nn)).1 ?_
          gi_wp2_with (refine wpListIn_subLHM rfl 27 _ _ _ _ rfl 5 Tryd.underlying27 info_u8' _ _ _ rfl (HBS.out.ext hx3) _ _ _ _ _ rfl rfl rfl pa p rfl rfl hpm (by omega) ?_)
          intro v4 b4
          obtain ⟨fn, tmps, assign, body, hy, hR⟩ := HY.out (D.map glue) v4 _ w3 (HE.out _ _ _ HJJ.out xx) b4 (by simp [part]; omega) (by rw [List.length_map]; omega)
          clear HY HRG HPL HDE HPN HLA
          gi_wp2
          refine ⟨fun hd => Bool.noConfusion hd, hR.mono ?_⟩
          rintro e W3 ⟨rfl, hJ3, hB3⟩
          have hx4 : Ext w W3 := ⟨hx3.below.trans hB3⟩
          gi_wp2
          go_wp2_with fail
          go_roundg (gk - 1)
          case measure => omega
          case rel => exact ⟨j + 1, D ++ [(cs.take j).drop s0], none, by have := HJ.out; omega, by rw [← HPE2.out]; go_num, rfl, HR2.out, by rw [List.length_append, List.length_singleton]; omega, hx4, by rw [List.map_append, List.map_singleton, HGP.out]; exact hJ3⟩
    · have hje : j = cs.length := by omega
      subst hje
      have hpl : placeOf cs cs.length = l.length := HPA.out
      rw [hpl]
      clear hj
      cases st with
      | none =>
        have HD := Lib.hid HR.out.done
        have hfr : fromOf cs none = -1 := rfl
        rw [hfr]
        go_wp2_with fail
        go_end0
        exact ⟨⟨_, rfl⟩, by rw [HF.out, HD.out]; exact HJJ.out⟩
      | some s0 =>
        have HD := Lib.hid HR.out.done'
        have hpl2 := HPN.out s0
        have HGP := Lib.hid (show glue (cs.drop s0) = part l (placeOf cs s0) l.length by rw [glue_drop, HGL.out]; simp [part])
        have hfr : fromOf cs (some s0) = (placeOf cs s0 : Int) := rfl
        rw [hfr]
        obtain ⟨pa, hpa⟩ : ∃ pa, placeOf cs s0 = pa := ⟨_, rfl⟩
        rw [hpa] at hpl2 HGP ⊢
        clear hpa hfr
        go_upto_region 12 with fail
        refine (wpIn_wide (n := nn)).1 ?_
        gi_wp2_with (refine wpListIn_subLHM rfl 27 _ _ _ _ rfl 5 Tryd.underlying27 info_u8' _ _ _ rfl (HBS.out.ext HX.out) _ _ _ _ _ rfl rfl rfl pa l.length rfl rfl hpl2 (by omega) ?_)
        intro v4 b4
        obtain ⟨fn, tmps, assign, body, hy, hR⟩ := HY.out (D.map glue) v4 _ wr HJJ.out b4 (by simp [part]) (by rw [List.length_map]; omega)
        clear HY HRG HPL HDE HPE HPN HLA
        gi_wp2
        refine ⟨fun hd => Bool.noConfusion hd, hR.mono ?_⟩
        rintro e W3 ⟨rfl, hJ3, hB3⟩
        gi_wp2
        go_wp2_with fail
        go_end0
        exact ⟨⟨_, rfl⟩, by rw [HF.out, HD.out, List.map_append, List.map_singleton, HGP.out]; exact hJ3⟩

/-- A call's answer: the iterator over two captured variables. -/
def RetSeq2 (gf : Nat) (w : World) (u1 u2 : Value) (e : Ending) (w' : World) : Prop := ∃ b1 b2, e = .returned (.func (.func gf) #[] #[.pointer (some ⟨b1, 0, none⟩), .pointer (some ⟨b2, 0, none⟩)]) ∧ Ext w w' ∧ w'.cell? ⟨b1, 0, none⟩ = some u1 ∧ w'.cell? ⟨b2, 0, none⟩ = some u2

set_option maxRecDepth 100000 in
theorem bytes_FieldsFuncSeq (a : Option Addr) (k c : Nat) (v : Value) (nt : Bool) (w : World) :
    Calls Tryd.prog 55 #[.slice a k c, .func (.func 41) #[.agg #[v, .bool nt]] #[]] w (RetSeq2 69 w (.slice a k c) (.func (.func 41) #[.agg #[v, .bool nt]] #[])) := by
  go_enter Tryd.func55, Tryd.ntmps55
  go_wp2_with fail
  go_ret
  refine ⟨_, _, rfl, (Ext.alloc _ _).trans (Ext.alloc _ _), (Ext.alloc _ _).cell ?_, ?_⟩
  · rw [World.cell?_alloc_mark]; rfl
  · have h2 := (Boxed.new (w.alloc (.cells #[.slice a k c] 27)) 46 (.func (.func 41) #[.agg #[v, .bool nt]] #[])).cell
    rw [World.size_alloc] at h2
    exact h2

set_option maxRecDepth 100000 in
theorem impl_FieldsFuncSeq (sv : Value) (l : List UInt8) (v : Value) (rs : List Int) (nt : Bool) (w : World) (hb : Bs w sv l) (h : Is w v rs) (hT : Tabs w) (hlim : l.length ≤ 1099511627776) :
    Calls Tryd.prog 35 #[sv, .agg #[v, .bool nt]] w (RetOwnL w (fieldsB (holdsT rs nt) l)) := by
  obtain ⟨a, c, rfl, _, _, _⟩ := h.raw
  obtain ⟨a', c', hsv, hcap, hcm⟩ := hb.shape
  subst hsv
  go_enter Tryd.func35, Tryd.ntmps35
  go_wp2_with (go_at_call 55; refine (bytes_FieldsFuncSeq _ _ _ _ _ _).mono ?_)
  rintro _ w1 ⟨b1, b2, rfl, x1, c1, c2⟩
  have X := (Ext.alloc w _).trans x1
  clear x1
  have HC := iter_FieldsFuncSeq _ l _ rs nt w1 w1.heap.size b1 b2 (hb.ext X) (h.ext X) (hT.ext X) hlim c1 c2
  have HG := impl_gathered 69 _ (fun _ _ => rfl) w1 w1.heap.size _ _ (Nat.le_refl _) _ HC (by omega) (by omega)
  clear HC c1 c2
  go_wp2_with (go_at_call 52; refine HG.mono ?_)
  rintro _ w2 ⟨v2, rfl, o2, B2⟩
  go_wp2_with fail
  go_ret
  exact ⟨_, rfl, o2.mono X.size (Nat.le_refl _), X.trans ⟨B2⟩⟩
end Go.Proofs.YthbfdajbajijeaaDoor
