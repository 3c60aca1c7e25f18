/- Several texts of this seat, put together: Sub FieldsB RunesW FieldsS FieldsW. -/
import Derived.Test.YthbfdajbajijeaaDoorBase
import Derived.Test.YthbfdajbajijeaaDoorFieldsP
import Derived.Deep.DeepCutAuto
import Derived.Test.YthbfdajbajijeaaDoorFuncW2
import Derived.Test.YthbfdajbajijeaaDoorDec
import Derived.Test.YthbfdajbajijeaaDoorExactM
import Derived.Shelf.Spec.RuneCount
/- Slices of a slice of bytes whose new value is good in every world in which the old one is. No condition. -/
namespace Go.Proofs.YthbfdajbajijeaaDoor
open Go.RowKit

theorem wpList_subLW {P : Program} {ops : Array Oper} {rest : List Oper} {o : Oper} {a : Act} {Q : Exit → Act → World → Prop} {w : World}
    (hw : Region.wanted o (yielded ops a.tmps) = true) (t : TypeId) (x y : Operand) (hop : o.op = Op.slice t x (some y) none none)
    (e : TypeId) (ht : P.underlying t = some (.slice e)) {z : Value} {by_ : Nat} (hinfo : (P.info? e).map (fun i => (i.zero, i.size, i.bytes)) = some (some z, 1, by_))
    (v : Value) (L : List UInt8) (w0 : World) (hx : a.eval x = v) (hb : Bs w0 v L) (k : IntKind) (I : Int) (hy : a.eval y = .int k I) (l : Nat) (hI : I = (l : Int)) (hl : l ≤ L.length)
    (hK : ∀ v', Bs w0 v' (L.drop l) → wpList P ops Q rest (a.put o.dst v') w) : wpList P ops Q (o :: rest) a w := by
  refine wpList_step fun K hK' => ?_
  rw [if_pos hw]
  obtain ⟨ad, c, rfl, h1, h2⟩ := hb.shape
  subst hI
  have hrun := run_sub_l (P := P) (w := w) ht hinfo ad L.length c k l hl
  have e1 : part L l L.length = L.drop l := by simp [part]
  unfold Oper.wp
  simp [execOp, hop, hx, hy, hrun, Result.andThen]
  exact hK' _ _ (hK _ (e1 ▸ hb.sliced hl (Nat.le_refl _) h1 (Nat.le_refl _)))

theorem wpList_subHW {P : Program} {ops : Array Oper} {rest : List Oper} {o : Oper} {a : Act} {Q : Exit → Act → World → Prop} {w : World}
    (hw : Region.wanted o (yielded ops a.tmps) = true) (t : TypeId) (x y : Operand) (hop : o.op = Op.slice t x none (some y) none)
    (e : TypeId) (ht : P.underlying t = some (.slice e)) {z : Value} {by_ : Nat} (hinfo : (P.info? e).map (fun i => (i.zero, i.size, i.bytes)) = some (some z, 1, by_))
    (v : Value) (L : List UInt8) (w0 : World) (hx : a.eval x = v) (hb : Bs w0 v L) (k : IntKind) (I : Int) (hy : a.eval y = .int k I) (h : Nat) (hI : I = (h : Int)) (hh : h ≤ L.length)
    (hK : ∀ v', Bs w0 v' (L.take h) → wpList P ops Q rest (a.put o.dst v') w) : wpList P ops Q (o :: rest) a w := by
  refine wpList_step fun K hK' => ?_
  rw [if_pos hw]
  obtain ⟨ad, c, rfl, h1, h2⟩ := hb.shape
  subst hI
  have hrun := run_sub_h (P := P) (w := w) ht hinfo ad L.length c k h (by omega)
  have e1 : part L 0 h = L.take h := by simp [part]
  unfold Oper.wp
  simp [execOp, hop, hx, hy, hrun, Result.andThen]
  exact hK' _ _ (hK _ (e1 ▸ hb.sliced (Nat.zero_le _) hh (by omega) (Nat.le_refl _)))

theorem wpList_subLHW {P : Program} {ops : Array Oper} {rest : List Oper} {o : Oper} {a : Act} {Q : Exit → Act → World → Prop} {w : World}
    (hw : Region.wanted o (yielded ops a.tmps) = true) (t : TypeId) (x y y' : Operand) (hop : o.op = Op.slice t x (some y) (some y') none)
    (e : TypeId) (ht : P.underlying t = some (.slice e)) {z : Value} {by_ : Nat} (hinfo : (P.info? e).map (fun i => (i.zero, i.size, i.bytes)) = some (some z, 1, by_))
    (v : Value) (L : List UInt8) (w0 : World) (hx : a.eval x = v) (hb : Bs w0 v L) (k k' : IntKind) (I I' : Int) (hy : a.eval y = .int k I) (hy' : a.eval y' = .int k' I') (l h : Nat) (hI : I = (l : Int)) (hI' : I' = (h : Int)) (hl : l ≤ h) (hh : h ≤ L.length)
    (hK : ∀ v', Bs w0 v' (part L l h) → wpList P ops Q rest (a.put o.dst v') w) : wpList P ops Q (o :: rest) a w := by
  refine wpList_step fun K hK' => ?_
  rw [if_pos hw]
  obtain ⟨ad, c, rfl, h1, h2⟩ := hb.shape
  subst hI hI'
  have hrun := run_sub_lh (P := P) (w := w) ht hinfo ad L.length c k k' l h hl (by omega)
  unfold Oper.wp
  simp [execOp, hop, hx, hy, hy', hrun, Result.andThen]
  exact hK' _ _ (hK _ (hb.sliced hl hh (by omega) (Nat.le_refl _)))

theorem wpList_subLHMW {P : Program} {ops : Array Oper} {rest : List Oper} {o : Oper} {a : Act} {Q : Exit → Act → World → Prop} {w : World}
    (hw : Region.wanted o (yielded ops a.tmps) = true) (t : TypeId) (x y y' y'' : Operand) (hop : o.op = Op.slice t x (some y) (some y') (some y''))
    (e : TypeId) (ht : P.underlying t = some (.slice e)) {z : Value} {by_ : Nat} (hinfo : (P.info? e).map (fun i => (i.zero, i.size, i.bytes)) = some (some z, 1, by_))
    (v : Value) (L : List UInt8) (w0 : World) (hx : a.eval x = v) (hb : Bs w0 v L) (k k' k'' : IntKind) (I I' : Int) (hy : a.eval y = .int k I) (hy' : a.eval y' = .int k' I') (hy'' : a.eval y'' = .int k'' I') (l h : Nat) (hI : I = (l : Int)) (hI' : I' = (h : Int)) (hl : l ≤ h) (hh : h ≤ L.length)
    (hK : ∀ v', Bs w0 v' (part L l h) → wpList P ops Q rest (a.put o.dst v') w) : wpList P ops Q (o :: rest) a w := by
  refine wpList_step fun K hK' => ?_
  rw [if_pos hw]
  obtain ⟨ad, c, rfl, h1, h2⟩ := hb.shape
  subst hI hI'
  have hrun := run_sub_lhm (P := P) (w := w) ht hinfo ad L.length c k k' k'' l h h hl (Nat.le_refl _) (by omega)
  unfold Oper.wp
  simp [execOp, hop, hx, hy, hy', hy'', hrun, Result.andThen]
  exact hK' _ _ (hK _ (hb.sliced hl hh (Nat.le_refl _) (by omega)))
end Go.Proofs.YthbfdajbajijeaaDoor

/- The walk of bytes.FieldsFunc. Printed by fieldsb.py. -/
namespace Go.Proofs.YthbfdajbajijeaaDoor
open Go.RowKit

/-- 'make([]T, 0, n)'. -/
theorem wpList_mkRow {P : Program} {ops : Array Oper} {rest : List Oper} {o : Oper} {a : Act} {Q : Exit → Act → World → Prop} {w : World}
    (hw : Region.wanted o (yielded ops a.tmps) = true) (t : TypeId) (x y : Operand) (hop : o.op = Op.makeSlice t x y)
    (e : TypeId) (size bytes : Nat) (z : Value) (ht : P.underlying t = some (.slice e)) (hinfo : (P.info? e).map (fun i => (i.zero, i.size, i.bytes)) = some (some z, size, bytes))
    (kl kc : IntKind) (n : Nat) (hx : a.eval x = .int kl 0) (hy : a.eval y = .int kc (n : Int)) (hn : bytes * n ≤ 281474976710656) (hn2 : n ≤ 281474976710656)
    (hK : ∀ v w', w'.ownsRow w.heap.size e size v 0 [] → Ext w w' → wpList P ops Q rest (a.put o.dst v) w') :
    wpList P ops Q (o :: rest) a w := by
  obtain ⟨i, hi, hzz⟩ := Option.map_eq_some_iff.1 hinfo
  simp only [Prod.mk.injEq] at hzz
  obtain ⟨hz, hsz, hby⟩ := hzz
  refine wpList_step fun K hK' => ?_
  rw [if_pos hw]
  obtain ⟨w', hrun, r1, r2⟩ := run_make_own (P := P) w w.heap.size t e i z size ht hi hz hsz kl kc n (by rw [hby]; omega) (by unfold maxLen; omega) (Nat.le_refl _)
  unfold Oper.wp
  simp [execOp, hop, hx, hy, hrun, Result.andThen]
  exact hK' _ _ (hK _ w' r1 ⟨⟨r2.os, r2.tape, r2.output, r2.size, fun k hk => r2.block k hk (by simp)⟩⟩)

/-- Block g is a row of just these values, and may be written. -/
def RowV (w : World) (g : Nat) (e : TypeId) (xs : List Value) : Prop := w.heap[g]? = some (.cells xs.toArray e (0, 0))
theorem RowV.cell {w : World} {g : Nat} {e : TypeId} {xs : List Value} (h : RowV w g e xs) (i : Nat) (hi : i < xs.length) : w.cell? ⟨g, i, none⟩ = some xs[i] := by
  unfold RowV at h
  simp [World.cell?, h, hi]
theorem RowV.frozen {w : World} {g : Nat} {e : TypeId} {xs : List Value} (h : RowV w g e xs) (i : Nat) : w.frozen? ⟨g, i, none⟩ = false := by
  unfold RowV at h
  simp [World.frozen?, h]
theorem RowV.lt {w : World} {g : Nat} {e : TypeId} {xs : List Value} (h : RowV w g e xs) : g < w.heap.size := by
  unfold RowV at h
  rcases Nat.lt_or_ge g w.heap.size with h' | h'
  · exact h'
  · simp [Array.getElem?_eq_none h'] at h
theorem RowV.ext {w w' : World} {g : Nat} {e : TypeId} {xs : List Value} (h : RowV w g e xs) (x : Ext w w') : RowV w' g e xs := (x.block h.lt).trans h
theorem RowV.set {w : World} {g : Nat} {e : TypeId} {xs : List Value} (h : RowV w g e xs) (i : Nat) (v : Value) : RowV (w.setCell ⟨g, i, none⟩ v) g e (xs.set i v) := by
  unfold RowV at h ⊢
  simp only [World.setCell, Array.getElem?_modify, if_true, h, Option.map_some]
  simp

/-- 'make([]T, n)', T of one cell. -/
theorem wpList_mkVals {P : Program} {ops : Array Oper} {rest : List Oper} {o : Oper} {a : Act} {Q : Exit → Act → World → Prop} {w : World}
    (hw : Region.wanted o (yielded ops a.tmps) = true) (t : TypeId) (x y : Operand) (hop : o.op = Op.makeSlice t x y)
    (e : TypeId) (z : Value) (bytes : Nat) (ht : P.underlying t = some (.slice e)) (hinfo : (P.info? e).map (fun i => (i.zero, i.size, i.bytes)) = some (some z, 1, bytes)) (hz1 : z.cells = #[z])
    (n : Nat) (kl kc : IntKind) (hx : a.eval x = .int kl (n : Int)) (hy : a.eval y = .int kc (n : Int)) (hn : bytes * n ≤ 281474976710656) (hn2 : n ≤ 281474976710656)
    (hK : ∀ w', RowV w' w.heap.size e (List.replicate n z) → Ext w w' → wpList P ops Q rest (a.put o.dst (.slice (some ⟨w.heap.size, 0, none⟩) n n)) w') :
    wpList P ops Q (o :: rest) a w := by
  refine wpList_step fun K hK' => ?_
  rw [if_pos hw]
  have hrun := run_make_row' (P := P) t e z bytes ht hinfo hz1 kl kc n hn (by omega) w
  unfold Oper.wp
  simp [execOp, hop, hx, hy, hrun, Result.andThen]
  refine hK' _ _ (hK _ ?_ (Ext.alloc _ _))
  unfold RowV
  rw [heap_alloc_new]
  congr 2
  apply Array.ext
  · simp [madeCells]
  · intro i h1 h2
    simp [madeCells, Nat.mod_one]

theorem info_span : (Tryd.prog.info? 63).map (fun i => (i.zero, i.size, i.bytes)) = some (some (.agg #[.int .i64 0, .int .i64 0]), 2, 16) := by kernel_rfl

/-- The cells of spans. -/
def spcells : List (Nat × Nat) → List Value
  | [] => []
  | q :: S => .int .i64 q.1 :: .int .i64 q.2 :: spcells S
theorem spcells_length : ∀ S : List (Nat × Nat), (spcells S).length = S.length * 2
  | [] => rfl
  | q :: S => by simp only [spcells, List.length_cons, spcells_length S]; omega
theorem spcells_append : ∀ (S T : List (Nat × Nat)), spcells (S ++ T) = spcells S ++ spcells T
  | [], _ => rfl
  | q :: S, T => by simp [spcells, spcells_append S T]
theorem spcells_get : ∀ (S : List (Nat × Nat)) (j : Nat) (h : j < S.length), (spcells S)[j * 2]? = some (.int .i64 (S[j].1 : Int)) ∧ (spcells S)[j * 2 + 1]? = some (.int .i64 (S[j].2 : Int))
  | q :: S, 0, _ => by simp [spcells]
  | q :: S, j + 1, h => by
    have ih := spcells_get S j (by simpa using h)
    have e : (j + 1) * 2 = j * 2 + 1 + 1 := by omega
    rw [e]
    simpa [spcells] using ih
  | [], _, h => by simp at h

/-- Spans of a text, and the texts that they tell. -/
def spanTexts (l : List UInt8) (S : List (Nat × Nat)) : List (List UInt8) := S.map fun q => part l q.1 q.2
def SpansOk (l : List UInt8) (S : List (Nat × Nat)) : Prop := ∀ q ∈ S, q.1 ≤ q.2 ∧ q.2 ≤ l.length

set_option maxRecDepth 100000 in
set_option maxHeartbeats 4000000 in
theorem bytes_FieldsFunc (sv : Value) (l : List UInt8) (v : Value) (rs : List Int) (nt : Bool) (w : World) (hb : Bs w sv l) (h : Is w v rs) (hT : Tabs w) (hlim : l.length ≤ 1099511627776) :
    Calls Tryd.prog 44 #[sv, .func (.func 41) #[.agg #[v, .bool nt]] #[]] w (fun e w' => RetLs w (fieldsB (holdsT rs nt) l) e w') := by
  have hcl := chunks_length l
  obtain ⟨a, c, hsv, hcap, hcm⟩ := hb.shape
  subst hsv
  obtain ⟨cs, HCS, HPL, HDE, HPE, HPA, HLA, HPN, HRG⟩ := chunk_facts l
  have hgl : glue cs = l := by rw [← HCS.out]; exact glue_chunks l
  have HGL := Lib.hid hgl
  have HF := Lib.hid (show fieldsB (holdsT rs nt) l = (runsC (holdsT rs nt) cs).map glue by unfold fieldsB; rw [HCS.out])
  rw [HCS.out] at hcl
  have HI := Lib.hid h
  have HT := Lib.hid hT
  have HBS := Lib.hid hb
  obtain ⟨n, hn⟩ : ∃ n, w.heap.size = n := ⟨_, rfl⟩
  have HN := Lib.hid hn
  clear h hT hb hgl
  go_enter Tryd.func44, Tryd.ntmps44
  go_wp2_with (refine wpList_mkRow rfl 59 _ _ rfl 63 2 16 _ Tryd.underlying59 info_span _ _ 32 rfl rfl (by omega) (by omega) ?_)
  intro v1 w1 o1 x1
  have B1 : Below n w w1 := by have := x1.below; rw [hn] at this; exact this
  clear x1 hn
  go_wp2_with fail
  go_loopg [5, 6, 7] cs.length (fun k o f i wr => ∃ (j : Nat) (D : List (List Ch)) (st : Option Nat) (S : List (Nat × Nat)), j + k = cs.length ∧ i = .int .i64 (placeOf cs j : Int) ∧ f = .int .i64 (fromOf cs st) ∧ RunAt (holdsT rs nt) cs j D st ∧ S.length ≤ j ∧
    spanTexts l S = D.map glue ∧ SpansOk l S ∧ wr.ownsRow n 63 2 o S.length (spcells S) ∧ Below n w wr)
  case atStart => exact ⟨0, [], none, [], by omega, rfl, rfl, RunAt.start _ _, Nat.le_refl _, rfl, (by intro q hq; cases hq), o1, B1⟩
  case round =>
    obtain ⟨j, D, st, S, hj, rfl, rfl, hrun, hSj, htx, hok, hown, hbe⟩ := hrel
    clear o1 B1
    have HJ := Lib.hid hj
    have HR := Lib.hid hrun
    have HO := Lib.hid hown
    have HB := Lib.hid hbe
    have HTX := Lib.hid htx
    have HOK := Lib.hid hok
    have hx : Ext w wr := ⟨by rw [HN.out]; exact hbe⟩
    have HX := Lib.hid hx
    have hnw : n ≤ wr.heap.size := by have := hbe.size; rw [HN.out] at this; exact this
    clear hrun hown hbe htx hok hx
    by_cases hlt : j < cs.length
    · have hg : 0 < gk := by omega
      have hpj := HPL.out j hlt
      have hb := HBS.out.ext HX.out
      obtain ⟨hne, hdec⟩ := HDE.out j hlt
      have hpe := HPE.out j hlt
      have hle := HPN.out (j + 1)
      obtain ⟨p, hp⟩ : ∃ p, placeOf cs j = p := ⟨_, rfl⟩
      rw [hp] at hpj hne hdec hpe ⊢
      have HPJ := Lib.hid hp
      have HPE2 := Lib.hid hpe
      have hsum : p + cs[j].bs.length ≤ l.length := by omega
      clear hj hp
      go_wp2_with (refine wpList_subL rfl 27 _ _ rfl 5 Tryd.underlying27 info_u8' _ _ rfl hb _ _ rfl p rfl (by omega) ?_)
      intro v2 b2 _
      go_wp2_with (go_at_call 60; refine (utf8_DecodeRune v2 _ _ b2 hne (HT.out.ext HX.out)).mono ?_)
      rintro _ w2 ⟨rfl, x2⟩
      rw [hdec]
      have HX2 := Lib.hid (HX.out.trans x2)
      have cH := impl_holds v rs nt cs[j].r w2 (HI.out.ext HX2.out)
      have HX22 := Lib.hid x2
      clear x2 b2 hb hdec hne hpe
      cases hh : (holdsT rs nt cs[j].r)
      · rw [hh] at cH
        cases st with
        | none =>
          have HR2 := Lib.hid (HR.out.opens hlt hh)
          have hfr : fromOf cs none = -1 := rfl
          rw [hfr]
          clear hh hfr
          go_wp2_with (go_at_call 41; refine cH.mono ?_; rintro _ w3 ⟨rfl, x3⟩)
          have xx := HX22.out.trans x3
          go_roundg (gk - 1)
          case measure => omega
          case rel => exact ⟨j + 1, D, some j, S, by have := HJ.out; omega, by rw [← HPE2.out]; go_num, by show _ = Value.int .i64 ((placeOf cs j : Nat) : Int); rw [HPJ.out], HR2.out, by omega, HTX.out, HOK.out, owns_keep HO.out xx, below_ext HB.out xx hnw⟩
        | some s0 =>
          have HR2 := Lib.hid (HR.out.goes hlt hh)
          have hfr : fromOf cs (some s0) = (placeOf cs s0 : Int) := rfl
          rw [hfr]
          clear hh hfr
          go_wp2_with (go_at_call 41; refine cH.mono ?_; rintro _ w3 ⟨rfl, x3⟩)
          have xx := HX22.out.trans x3
          go_roundg (gk - 1)
          case measure => omega
          case rel => exact ⟨j + 1, D, some s0, S, by have := HJ.out; omega, by rw [← HPE2.out]; go_num, rfl, HR2.out, by omega, HTX.out, HOK.out, owns_keep HO.out xx, below_ext HB.out xx hnw⟩
      · rw [hh] at cH
        cases st with
        | none =>
          have HR2 := Lib.hid (HR.out.sep hlt hh)
          have hfr : fromOf cs none = -1 := rfl
          rw [hfr]
          clear hh hfr
          go_wp2_with (go_at_call 41; refine cH.mono ?_; rintro _ w3 ⟨rfl, x3⟩)
          have xx := HX22.out.trans x3
          go_roundg (gk - 1)
          case measure => omega
          case rel => exact ⟨j + 1, D, none, S, by have := HJ.out; omega, by rw [← HPE2.out]; go_num, rfl, HR2.out, by omega, HTX.out, HOK.out, owns_keep HO.out xx, below_ext HB.out xx hnw⟩
        | some s0 =>
          have HR2 := Lib.hid (HR.out.shut hlt hh)
          have hsj := HR.out.2 s0 rfl
          have hpm := place_mono cs (Nat.le_of_lt hsj)
          have HGP := Lib.hid (glue_part HGL.out s0 j)
          have hfr : fromOf cs (some s0) = (placeOf cs s0 : Int) := rfl
          rw [hfr]
          rw [HPJ.out] at hpm HGP
          obtain ⟨pa, hpa⟩ : ∃ pa, placeOf cs s0 = pa := ⟨_, rfl⟩
          rw [hpa] at hpm HGP ⊢
          clear hh hfr hpa hsj
          go_wp2_with (go_at_call 41; refine cH.mono ?_)
          rintro _ w3 ⟨rfl, x3⟩
          have xx := HX22.out.trans x3
          have hh3 : wr.heap.size ≤ w3.heap.size := xx.size
          have O3 := owns_keep HO.out (xx.trans (Ext.alloc w3 (.cells #[.int .i64 (pa : Int), .int .i64 (p : Int)] 63)))
          have B3 := below_ext HB.out (xx.trans (Ext.alloc w3 (.cells #[.int .i64 (pa : Int), .int .i64 (p : Int)] 63))) hnw
          have O3' := Lib.hid O3
          have B3' := Lib.hid B3
          clear O3 B3 cH x3
          go_wp2_with (refine wpList_appendV rfl 59 _ _ rfl 63 2 16 _ Tryd.underlying59 info_span rfl (by omega) n _ _ _ rfl O3'.out _ 1 _ [.int .i64 (pa : Int), .int .i64 (p : Int)] rfl rfl (news_alloc _ _ _) (by simp [Value.oneCell']) (by omega) (by omega) (by simp; omega) ?_)
          intro v4 w4 o4 g4
          have B4 := owns_grown O3'.out g4 (by simp; omega) B3'.out (by omega)
          have HO4 := Lib.hid o4
          clear g4 o4
          go_wp2_with fail
          go_roundg (gk - 1)
          case measure => omega
          case rel =>
            refine ⟨j + 1, D ++ [(cs.take j).drop s0], none, S ++ [(pa, p)], by have := HJ.out; omega, by rw [← HPE2.out]; go_num, rfl, HR2.out, by rw [List.length_append, List.length_singleton]; omega, ?_, ?_, ?_, B4⟩
            · unfold spanTexts at *
              rw [List.map_append, List.map_append, List.map_singleton, List.map_singleton, HGP.out]
              have := HTX.out
              unfold spanTexts at this
              rw [this]
            · intro q hq
              rcases List.mem_append.1 hq with hq | hq
              · exact HOK.out q hq
              · rw [List.mem_singleton.1 hq]
                exact ⟨hpm, by omega⟩
            · rw [spcells_append, List.length_append]
              exact HO4.out
    · have hje : j = cs.length := by omega
      subst hje
      have hpl : placeOf cs cs.length = l.length := HPA.out
      rw [hpl]
      clear hj
      obtain ⟨F, hF⟩ : ∃ F, fromOf cs st = F := ⟨_, rfl⟩
      rw [hF]
      have HFF := Lib.hid hF
      clear hF
      go_upto_if 43 with (fail)
      go_cut [5] (fun s5 wx => ∃ S, spanTexts l S = fieldsB (holdsT rs nt) l ∧ SpansOk l S ∧ wx.ownsRow n 63 2 s5 S.length (spcells S) ∧ S.length ≤ cs.length + 1 ∧ Below n w wx)
      case first =>
        cases st with
        | none =>
          have HD := Lib.hid HR.out.done
          have hfr : -1 = F := HFF.out
          subst hfr
          go_wp2_with fail
          go_meet
          exact ⟨S, by rw [HTX.out, HF.out, HD.out], HOK.out, HO.out, by omega, HB.out⟩
        | some s0 =>
          have HD := Lib.hid HR.out.done'
          have hpl2 := HPN.out s0
          have HGP := Lib.hid (show glue (cs.drop s0) = part l (placeOf cs s0) l.length by rw [glue_drop, HGL.out]; simp [part])
          have hfr : (placeOf cs s0 : Int) = F := HFF.out
          have hsj := HR.out.2 s0 rfl
          obtain ⟨pa, hpa⟩ : ∃ pa, placeOf cs s0 = pa := ⟨_, rfl⟩
          rw [hpa] at hpl2 HGP hfr
          subst hfr
          have O3 := owns_keep HO.out (Ext.alloc wr (.cells #[.int .i64 (pa : Int), .int .i64 (l.length : Int)] 63))
          have B3 := below_ext HB.out (Ext.alloc wr (.cells #[.int .i64 (pa : Int), .int .i64 (l.length : Int)] 63)) hnw
          have O3' := Lib.hid O3
          have B3' := Lib.hid B3
          clear O3 B3 hpa
          go_wp2_with (refine wpList_appendV rfl 59 _ _ rfl 63 2 16 _ Tryd.underlying59 info_span rfl (by omega) n _ _ _ rfl O3'.out _ 1 _ [.int .i64 (pa : Int), .int .i64 (l.length : Int)] rfl rfl (news_alloc _ _ _) (by simp [Value.oneCell']) (by omega) (by omega) (by simp; omega) ?_)
          intro v4 w4 o4 g4
          have B4 := owns_grown O3'.out g4 (by simp; omega) B3'.out (by omega)
          have HO4 := Lib.hid o4
          clear g4 o4
          go_wp2_with fail
          go_meet
          refine ⟨S ++ [(pa, l.length)], ?_, ?_, ?_, ?_, B4⟩
          · rw [HF.out, HD.out, List.map_append, List.map_singleton, HGP.out]
            have := HTX.out
            unfold spanTexts at this ⊢
            rw [List.map_append, List.map_singleton, this]
          · intro q hq
            rcases List.mem_append.1 hq with hq | hq
            · exact HOK.out q hq
            · rw [List.mem_singleton.1 hq]
              exact ⟨hpl2, Nat.le_refl _⟩
          · rw [spcells_append, List.length_append]
            exact HO4.out
          · rw [List.length_append, List.length_singleton]; omega
      case rest =>
        obtain ⟨S, htx, hok, hown, hSl, hbe⟩ := hcut
        obtain ⟨w4, hw4⟩ : ∃ w4, w4 = wc := ⟨_, rfl⟩
        subst hw4
        have XW : Ext w w4 := ⟨by rw [HN.out]; exact hbe⟩
        have hvs := vs_of_owns hown
        obtain ⟨hsl, a5, c5, rfl, hc5, hm5, hcells⟩ := hvs
        have HXW := Lib.hid XW
        have HCL := Lib.hid hcells
        have HTX := Lib.hid htx
        have HOK := Lib.hid hok
        have hc6 : c5 ≤ 9223372036854775807 := by unfold maxLen at hm5; omega
        have HSL := Lib.hid hsl
        clear hown hbe htx hok hcells XW hm5 hsl HR HO HB HX HFF
        go_wp2_with (refine wpList_mkVals rfl 33 _ _ rfl 27 _ 24 Tryd.underlying33 info_bytes rfl S.length _ _ rfl rfl (by omega) (by omega) ?_)
        intro w5 r5 x5
        obtain ⟨g, hg⟩ : ∃ g, w4.heap.size = g := ⟨_, rfl⟩
        rw [hg] at r5 ⊢
        have HG := Lib.hid hg
        clear hg
        go_wp2_with fail
        go_loopg [56] S.length (fun k i wr => ∃ (j : Nat) (vs : List Value), j + k = S.length ∧ i = .int .i64 j ∧ vs.length = j ∧ (∀ i (h : i < vs.length) (h' : i < S.length), Bs w vs[i] (part l S[i].1 S[i].2)) ∧ RowV wr g 27 (vs ++ List.replicate (S.length - j) (.slice none 0 0)) ∧ Ext w4 wr)
        case atStart => exact ⟨0, [], by omega, rfl, rfl, (by intro i h; simp at h), by simpa using r5, x5⟩
        case round =>
          obtain ⟨j, vs, hj, rfl, hvl, hvb, hrow, hx⟩ := hrel
          clear r5 x5
          have HJ := Lib.hid hj
          have HVL := Lib.hid hvl
          have HVB := Lib.hid hvb
          have HX := Lib.hid hx
          have HRW := Lib.hid hrow
          clear hvb hvl
          by_cases hlt : j < S.length
          · have hgk : 0 < gk := by omega
            have hq := HOK.out S[j] (List.getElem_mem hlt)
            have hsg := spcells_get S j hlt
            obtain ⟨hl1, he1⟩ := List.getElem?_eq_some_iff.1 hsg.1
            obtain ⟨hl2, he2⟩ := List.getElem?_eq_some_iff.1 hsg.2
            have hcell : ∃ b o, a5 = some ⟨b, o, none⟩ ∧ wr.cell? ⟨b, o + j * 2, none⟩ = some (.int .i64 (S[j].1 : Int)) ∧ wr.cell? ⟨b, o + j * 2 + 1, none⟩ = some (.int .i64 (S[j].2 : Int)) := by
              rcases HCL.out with h0 | ⟨b, o, ha, hc⟩
              · rw [h0] at hl1; simp at hl1
              · refine ⟨b, o, ha, ?_, ?_⟩
                · have := hc (j * 2) hl1
                  rw [he1] at this
                  exact hx.cell this
                · have := hc (j * 2 + 1) hl2
                  rw [he2] at this
                  rw [Nat.add_assoc]
                  exact hx.cell this
            obtain ⟨b, o, rfl, d0, d1⟩ := hcell
            obtain ⟨qa, hqa⟩ : ∃ qa, S[j].1 = qa := ⟨_, rfl⟩
            obtain ⟨qb, hqb⟩ : ∃ qb, S[j].2 = qb := ⟨_, rfl⟩
            rw [hqa] at d0 hq
            rw [hqb] at d1 hq
            have HQ := Lib.hid (show part l S[j].1 S[j].2 = part l qa qb by rw [hqa, hqb])
            have hjl : j < (vs ++ List.replicate (S.length - j) (Value.slice none 0 0)).length := by rw [List.length_append, HVL.out, List.length_replicate]; omega
            have hra := HRW.out.ext (Ext.alloc wr (.cells #[.int .i64 (qa : Int), .int .i64 (qb : Int)] 63))
            obtain ⟨z, g1⟩ : ∃ z, (wr.alloc (.cells #[.int .i64 (qa : Int), .int .i64 (qb : Int)] 63)).cell? ⟨g, j, none⟩ = some z := ⟨_, hra.cell j hjl⟩
            have g2 := hra.frozen j
            have HRA := Lib.hid hra
            have gne : g ≠ wr.heap.size := by have := HRW.out.lt; omega
            have hcm2 : c ≤ 9223372036854775807 := by unfold maxLen at hcm; omega
            clear hj hsg hl1 he1 hl2 he2 hqa hqb hrow hra hx
            go_wp2_with (refine wpList_subLHMW rfl 27 _ _ _ _ rfl 5 Tryd.underlying27 info_u8' _ _ w rfl HBS.out _ _ _ _ _ rfl rfl rfl qa qb rfl rfl hq.1 hq.2 ?_)
            intro v6 b6
            obtain ⟨a6, c6, e6, _, _⟩ := b6.shape
            obtain ⟨m6, hm6⟩ : ∃ m6, (part l qa qb).length = m6 := ⟨_, rfl⟩
            rw [hm6] at e6
            subst e6
            have HB6 := Lib.hid b6
            clear b6 hm6
            go_wp2_with fail
            go_roundg (gk - 1)
            case measure => omega
            case rel =>
              refine ⟨j + 1, vs ++ [.slice a6 m6 c6], by have := HJ.out; omega, by go_num, by simp [HVL.out], ?_, ?_, ?_⟩
              · intro i hi hi'
                by_cases hij : i < vs.length
                · rw [List.getElem_append_left hij]
                  exact HVB.out i hij hi'
                · have hie : i = j := by
                    rw [List.length_append, HVL.out] at hi
                    have := HVL.out
                    simp at hi
                    omega
                  subst hie
                  rw [HQ.out]
                  have e : (vs ++ [Value.slice a6 m6 c6])[i] = .slice a6 m6 c6 := by
                    have : (vs ++ [Value.slice a6 m6 c6])[i]? = some (.slice a6 m6 c6) := by rw [List.getElem?_append_right (by have := HVL.out; omega)]; simp [HVL.out]
                    exact (List.getElem?_eq_some_iff.1 this).2
                  rw [e]
                  exact HB6.out
              · have := HRA.out.set j (.slice a6 m6 c6)
                rw [List.set_append_right _ _ (by rw [HVL.out]; exact Nat.le_refl _), HVL.out, Nat.sub_self, show S.length - j = (S.length - (j + 1)) + 1 by omega, List.replicate_succ, List.set_cons_zero] at this
                rw [List.append_assoc]
                exact this
              · exact ⟨((HX.out.trans (Ext.alloc _ _)).below).setCell (by rw [HG.out]; exact Nat.le_refl _) _⟩
          · have hje : j = S.length := by omega
            clear hj hrow hx
            go_wp2_with fail
            go_ret
            have hL : fieldsB (holdsT rs nt) l = spanTexts l S := HTX.out.symm
            have hn1 : (fieldsB (holdsT rs nt) l).length = S.length := by rw [hL]; simp [spanTexts]
            refine ⟨_, rfl, ?_, HXW.out.trans HX.out⟩
            have hr := HRW.out
            rw [hje, Nat.sub_self, List.replicate_zero, List.append_nil] at hr
            refine ⟨vs, ⟨by rw [hn1, HVL.out, hje]; omega, some ⟨g, 0, none⟩, S.length, by rw [hn1]; rfl, by rw [hn1]; exact Nat.le_refl _, by unfold maxLen; omega, .inr ⟨g, 0, rfl, fun i hi => by rw [Nat.zero_add]; exact hr.cell i hi⟩⟩, fun i hi hi' => ?_⟩
            have hi2 : i < S.length := by rw [← hn1]; exact hi
            have e : (fieldsB (holdsT rs nt) l)[i] = part l S[i].1 S[i].2 := by
              have : (fieldsB (holdsT rs nt) l)[i]? = some (part l S[i].1 S[i].2) := by
                rw [hL]
                unfold spanTexts
                rw [List.getElem?_map, List.getElem?_eq_getElem hi2]
                rfl
              exact (List.getElem?_eq_some_iff.1 this).2
            rw [e]
            exact (HVB.out i hi' hi2).ext (HXW.out.trans HX.out)
end Go.Proofs.YthbfdajbajijeaaDoor

/- utf8.RuneCount, bytes.Runes, impl.Runes, spec.Runes. -/
namespace Go.Proofs.YthbfdajbajijeaaDoor
open Go.RowKit

theorem decode_dec (l : List UInt8) (i : Nat) (h : i < l.length) : Utf8.decode ⟨l.toArray⟩ i = dec (l.drop i) := by
  have hs : (⟨l.toArray⟩ : ByteArray).size = l.length := rfl
  rw [Lib.decode_at, hs]
  rw [← Lib.getD_get!, ← Lib.getD_get!, ← Lib.getD_get!, ← Lib.getD_get!]
  show Lib.decodeN _ (l.toArray.toList.getD i 0).toNat (l.toArray.toList.getD (i + 1) 0).toNat (l.toArray.toList.getD (i + 2) 0).toNat (l.toArray.toList.getD (i + 3) 0).toNat = _
  have e : ∀ k, l.getD (i + k) 0 = (l.drop i).getD k 0 := by
    intro k
    simp only [List.getD_eq_getElem?_getD, List.getElem?_drop]
  have e0 := e 0
  rw [Nat.add_zero] at e0
  rw [e0, e 1, e 2, e 3]
  cases hd : l.drop i with
  | nil =>
    have := congrArg List.length hd
    simp at this; omega
  | cons b t =>
    have hl : l.length - i = t.length + 1 := by
      have := congrArg List.length hd
      simpa using this
    rw [hl]
    rfl

theorem runeCount_from (l : List UInt8) : ∀ (fuel i : Nat), l.length ≤ i + fuel → Lib.runeCountFrom ⟨l.toArray⟩ fuel i = (chunks (l.drop i)).length
  | 0, i, h => by
    rw [List.drop_of_length_le (by omega)]; rfl
  | f + 1, i, h => by
    unfold Lib.runeCountFrom
    have hs : (⟨l.toArray⟩ : ByteArray).size = l.length := rfl
    by_cases hi : i < l.length
    · have hne : l.drop i ≠ [] := by
        intro e
        have := congrArg List.length e
        simp at this; omega
      have hsz := dec_size hne
      rw [if_pos (by rw [hs]; exact hi), decode_dec l i hi, runeCount_from l f _ (by omega), chunks_cons hne, List.drop_drop, List.length_cons]
      omega
    · rw [if_neg (by rw [hs]; exact hi), List.drop_of_length_le (by omega)]; rfl

theorem runeCount_chunks (l : List UInt8) : Lib.runeCount ⟨l.toArray⟩ = (chunks l).length := by
  have := runeCount_from l l.length 0 (by omega)
  rw [List.drop_zero] at this
  exact this


theorem runesOf_take (cs : List Ch) (j : Nat) : runesOf (cs.take j) = (runesOf cs).take j := by simp [runesOf]
theorem runesOf_length (cs : List Ch) : (runesOf cs).length = cs.length := by simp [runesOf]

theorem runes_len (l : List UInt8) : (runesOf (chunks l)).length ≤ l.length := by
  rw [runesOf_length]; exact chunks_length l
theorem owns_ownI {B : Nat} {e : TypeId} {w : World} {v : Value} {rs : List Int} (h : w.ownsRow B e 1 v rs.length (rs.map (Value.int .i32))) : OwnI B w.heap.size w v rs := by
  have hlt := owns_lt h
  obtain ⟨h1, h2⟩ := h
  rcases h2 with ⟨rfl, h0⟩ | ⟨g, cap, cur, rfl, hg, hh, hn, hc, hs, ht⟩
  · have : rs = [] := List.eq_nil_of_length_eq_zero h0
    subst this
    exact ⟨none, 0, rfl, Nat.le_refl _, Nat.zero_le _, .inl rfl⟩
  · refine ⟨_, cap, rfl, hn, hc, .inr ⟨g, 0, rfl, hg, (hlt g rfl).2, fun i hi => ⟨?_, ?_⟩⟩⟩
    · rw [Nat.zero_add]
      have e1 : cur[i]? = some (.int .i32 rs[i]) := by
        have e2 : (rs.map (Value.int .i32))[i]? = some (.int .i32 rs[i]) := by simp [hi]
        rw [← ht, List.getElem?_take] at e2
        rw [if_pos (by omega)] at e2
        simpa using e2
      simp [World.cell?, hh, e1]
    · simp [World.frozen?, hh]
/-- A call's answer: a row of its own. -/
def RetRow (w : World) (T : TypeId) (size n : Nat) (xs : List Value) (e : Ending) (w' : World) : Prop := ∃ v, e = .returned v ∧ w'.ownsRow w.heap.size T size v n xs ∧ Ext w w'
end Go.Proofs.YthbfdajbajijeaaDoor

/- The walks of spec.runs and of what calls it. -/
namespace Go.Proofs.YthbfdajbajijeaaDoor
open Go.RowKit

theorem info_string : (Tryd.prog.info? 9).map (fun i => (i.zero, i.size, i.bytes)) = some (some (.string ByteArray.empty), 1, 16) := by kernel_rfl
theorem ba_part (s : ByteArray) (a b : Nat) (_hab : a ≤ b) : s.extract a b = ⟨(part s.data.toList a b).toArray⟩ := by
  apply ByteArray.ext
  apply Array.ext'
  rw [Lib.extract_data]
  unfold part
  simp only [List.drop_take]

/-- What a loop over the pieces that gathers strings has done. -/
def RunsRel (w : World) (n : Nat) (Bp : Nat) (a1 : Option Addr) (c1 : Nat) (tv : Value) (nt : Bool) (p : Int → Bool) (cs : List Ch) (k : Nat) (o f i : Value) (wr : World) : Prop :=
  ∃ (j : Nat) (D : List (List Ch)) (st : Option Nat), j + k = cs.length ∧ i = .int .i64 j ∧ f = .int .i64 (fromOf cs st) ∧ RunAt p cs j D st ∧ D.length ≤ j ∧
    wr.ownsRow (n + 1) 9 1 o (D.map glue).length (svals (D.map glue)) ∧ wr.ownsRow Bp 77 4 (.slice a1 cs.length c1) cs.length (pcells 0 cs) ∧
    wr.cell? ⟨n, 0, none⟩ = some tv ∧ wr.cell? ⟨n, 1, none⟩ = some (.bool nt) ∧ Below n w wr

theorem svals_snoc (D : List (List Ch)) (r : List Ch) : svals ((D ++ [r]).map glue) = svals (D.map glue) ++ [.string ⟨(glue r).toArray⟩] := by simp [svals]

set_option maxRecDepth 100000 in
set_option maxHeartbeats 4000000 in
theorem spec_runs (s : ByteArray) (v : Value) (rs : List Int) (nt : Bool) (w : World) (hs : s.size ≤ 1099511627776) (h : Is w v rs) :
    Calls Tryd.prog 67 #[.string s, .agg #[v, .bool nt]] w (RetRow w 9 1 (fieldsB (holdsT rs nt) s.data.toList).length (svals (fieldsB (holdsT rs nt) s.data.toList))) := by
  obtain ⟨a, c, rfl, _, _, _⟩ := h.raw
  obtain ⟨n, hn⟩ : ∃ n, w.heap.size = n := ⟨_, rfl⟩
  go_enter Tryd.func67, Tryd.ntmps67
  go_wp2_with (go_at_call 74; refine (spec_pieces' s _ hs).mono ?_)
  rintro _ w1 ⟨v1, rfl, p1, x1⟩
  have o1 := owns_keep (owns_empty (n + 1) 9 1 (w.alloc (.cells #[.slice a rs.length c, .bool nt] 24)) (by simp [hn])) x1
  have f0 := x1.cell (p := ⟨n, 0, none⟩) (v := .slice a rs.length c) ((Ext.alloc _ _).cell (by rw [← hn, World.cell?_alloc_mark]; rfl))
  have f1 := x1.cell (p := ⟨n, 1, none⟩) (v := .bool nt) ((Ext.alloc _ _).cell (by rw [← hn, World.cell?_alloc_mark]; rfl))
  have X : Ext w w1 := ((Ext.alloc _ _).trans (Ext.alloc _ _)).trans x1
  clear x1
  have hcl := chunks_length s.data.toList
  have ES : s.data.toList.length = s.size := rfl
  rw [ES] at hcl
  clear ES
  have hgl : glue (chunks s.data.toList) = s.data.toList := glue_chunks _
  obtain ⟨cs, hcs⟩ : ∃ cs, chunks s.data.toList = cs := ⟨_, rfl⟩
  have HF := Lib.hid (show fieldsB (holdsT rs nt) s.data.toList = (runsC (holdsT rs nt) cs).map glue by unfold fieldsB; rw [hcs])
  rw [hcs] at p1 hcl hgl
  have HPN := Lib.hid (show ∀ j, placeOf cs j ≤ s.size from fun j => by have := placeOf_le cs j; rw [hgl] at this; exact this)
  have HGL := Lib.hid hgl
  clear hcs hgl
  have ps : Ps w1 v1 cs := vs_of_owns p1
  obtain ⟨hm, a1, c1, rfl, hc1, hc2, _⟩ := ps.raw
  unfold maxLen at hm
  clear ps
  have XB := X.below
  rw [hn] at XB
  have HI := Lib.hid h
  have HN := Lib.hid hn
  obtain ⟨Bp, hBp⟩ : ∃ Bp, ((w.alloc (.cells #[.slice a rs.length c, .bool nt] 24)).alloc (.cells #[] 9)).heap.size = Bp := ⟨_, rfl⟩
  rw [hBp] at p1
  have hs1 : (w.alloc (.cells #[.slice a rs.length c, .bool nt] 24)).heap.size = n + 1 := by simp [hn]
  rw [hs1] at o1
  clear hBp hs1 X h
  go_wp2_with fail
  go_loopg [5, 7, 8] cs.length (fun k o f i wr => RunsRel w n Bp a1 c1 (.slice a rs.length c) nt (holdsT rs nt) cs k o f i wr)
  case atStart => exact ⟨0, [], none, by omega, rfl, rfl, RunAt.start _ _, Nat.le_refl _, o1, p1, f0, f1, XB⟩
  case round =>
    obtain ⟨j, D, st, hj, rfl, rfl, hrun, hDj, hown, hps, g0, g1, hbe⟩ := hrel
    clear o1 p1 f0 f1 XB
    have HJ := Lib.hid hj
    have HR := Lib.hid hrun
    have HO := Lib.hid hown
    have HP := Lib.hid hps
    have HB := Lib.hid hbe
    have hsz : n + 1 ≤ wr.heap.size := by
      have := World.block_lt_of_cell? wr _ g0
      exact this
    have HDL := Lib.hid (show (D.map glue).length = D.length by simp)
    have X0 : Ext w wr := ⟨by rw [HN.out]; exact HB.out⟩
    clear hrun hown hbe
    by_cases hlt : j < cs.length
    · have hg : 0 < gk := by omega
      have hj1 : j + 1 ≤ cs.length := hlt
      have ps : Ps wr (.slice a1 cs.length c1) cs := vs_of_owns hps
      obtain ⟨_, a2, c2, hv, _, _, hcells⟩ := ps.raw
      injection hv with hv1 _ hv2
      subst hv1
      subst hv2
      obtain ⟨b, o, rfl, q0, q1, q2, q3⟩ := hcells j hlt
      have cH := fun W (x : Ext wr W) => spec_holds (.slice a rs.length c) rs nt cs[j].r W (HI.out.ext (X0.trans x))
      clear hcells q1 q3 ps hj hps X0
      go_wp2_with fail
      go_still_tail 6, (by kernel_rfl)
      change wpList _ _ _ _ _ wr.drew
      have xd := Ext.drew wr
      generalize wr.drew = w2 at xd ⊢
      have cS := cH w2 xd
      clear cH
      cases hh : holdsT rs nt cs[j].r
      · rw [hh] at cS
        cases st with
        | none =>
          have hR := HR.out.opens hlt hh
          have HR2 := Lib.hid hR
          clear hh hR
          go_wp2_with (go_at_call 75; refine cS.mono ?_)
          rintro _ w3 ⟨rfl, x3⟩
          have xx := xd.trans x3
          replace q0 := xx.cell q0
          replace g0 := xx.cell g0
          replace g1 := xx.cell g1
          have hfr : fromOf cs none = -1 := rfl
          rw [hfr]
          go_wp2_with fail
          go_roundg (gk - 1)
          case measure => omega
          case rel => exact ⟨j + 1, D, some j, by have := HJ.out; omega, by go_num, rfl, HR2.out, by omega, owns_keep HO.out xx, owns_keep HP.out xx, g0, g1, below_ext HB.out xx (by omega)⟩
        | some s0 =>
          have hR := HR.out.goes hlt hh
          have HR2 := Lib.hid hR
          clear hh hR
          go_wp2_with (go_at_call 75; refine cS.mono ?_)
          rintro _ w3 ⟨rfl, x3⟩
          have xx := xd.trans x3
          replace g0 := xx.cell g0
          replace g1 := xx.cell g1
          have hfr : fromOf cs (some s0) = (placeOf cs s0 : Int) := rfl
          rw [hfr]
          go_wp2_with fail
          go_roundg (gk - 1)
          case measure => omega
          case rel => exact ⟨j + 1, D, some s0, by have := HJ.out; omega, by go_num, rfl, HR2.out, by omega, owns_keep HO.out xx, owns_keep HP.out xx, g0, g1, below_ext HB.out xx (by omega)⟩
      · rw [hh] at cS
        cases st with
        | none =>
          have hR := HR.out.sep hlt hh
          have HR2 := Lib.hid hR
          clear hh hR
          go_wp2_with (go_at_call 75; refine cS.mono ?_)
          rintro _ w3 ⟨rfl, x3⟩
          have xx := xd.trans x3
          replace g0 := xx.cell g0
          replace g1 := xx.cell g1
          have hfr : fromOf cs none = -1 := rfl
          rw [hfr]
          go_wp2_with fail
          go_roundg (gk - 1)
          case measure => omega
          case rel => exact ⟨j + 1, D, none, by have := HJ.out; omega, by go_num, rfl, HR2.out, by omega, owns_keep HO.out xx, owns_keep HP.out xx, g0, g1, below_ext HB.out xx (by omega)⟩
        | some s0 =>
          have hR := HR.out.shut hlt hh
          have hsj := HR.out.2 s0 rfl
          have HR2 := Lib.hid hR
          have hpm := place_mono cs (Nat.le_of_lt hsj)
          have hpl := HPN.out j
          have HST := Lib.hid (show s.extract (placeOf cs s0) (placeOf cs j) = ⟨(glue ((cs.take j).drop s0)).toArray⟩ by rw [ba_part s _ _ hpm, glue_part HGL.out])
          clear hh hR hsj
          have hfr : fromOf cs (some s0) = (placeOf cs s0 : Int) := rfl
          rw [hfr]
          obtain ⟨pa, hpa⟩ : ∃ pa, placeOf cs s0 = pa := ⟨_, rfl⟩
          obtain ⟨pb, hpb⟩ : ∃ pb, placeOf cs j = pb := ⟨_, rfl⟩
          rw [hpa] at hpm HST ⊢
          rw [hpb] at hpm hpl HST q0
          clear hpa hpb hfr
          go_wp2_with (go_at_call 75; refine cS.mono ?_)
          rintro _ w3 ⟨rfl, x3⟩
          have xx := xd.trans x3
          replace q0 := xx.cell q0
          replace g0 := xx.cell g0
          replace g1 := xx.cell g1
          have hh3 : wr.heap.size ≤ w3.heap.size := xx.size
          have O3 := owns_keep HO.out (xx.trans (Ext.alloc w3 (.cells #[.string (s.extract pa pb)] 9)))
          have P3 := owns_keep HP.out (xx.trans (Ext.alloc w3 (.cells #[.string (s.extract pa pb)] 9)))
          have B3 := below_ext HB.out (xx.trans (Ext.alloc w3 (.cells #[.string (s.extract pa pb)] 9))) (by omega)
          have G0 := (Ext.alloc w3 (.cells #[.string (s.extract pa pb)] 9)).cell g0
          have G1 := (Ext.alloc w3 (.cells #[.string (s.extract pa pb)] 9)).cell g1
          obtain ⟨M, hM⟩ : ∃ M, D.map glue = M := ⟨_, rfl⟩
          rw [hM] at O3 HDL
          have HMM := Lib.hid hM
          have O3' := Lib.hid O3
          have P3' := Lib.hid P3
          have B3' := Lib.hid B3
          have G0' := Lib.hid G0
          have G1' := Lib.hid G1
          clear O3 P3 B3 G0 G1 xd cS hM
          go_wp2_with (refine wpList_appendV rfl 31 _ _ rfl 9 1 16 _ Tryd.underlying31 info_string rfl (by omega) (n + 1) _ _ _ rfl O3'.out _ 1 _ [.string (s.extract pa pb)] rfl rfl (news_alloc _ _ _) (by simp [Value.oneCell']) (by rw [HDL.out]; omega) (by rw [HDL.out]; omega) (by simp; omega) ?_)
          intro v4 w4 o4 g4
          have B4 := owns_grown O3'.out g4 (by simp; omega) B3'.out (by omega)
          have P4 := owns_apart O3'.out P3'.out (by decide) g4
          have F4 := owns_frame O3'.out g4
          have G04 := F4.cell (by dsimp only; omega) G0'.out
          have G14 := F4.cell (by dsimp only; omega) G1'.out
          have HO4 := Lib.hid o4
          clear g4 F4 o4 g0 g1
          go_wp2_with fail
          go_roundg (gk - 1)
          case measure => omega
          case rel =>
            refine ⟨j + 1, D ++ [(cs.take j).drop s0], none, by have := HJ.out; omega, by go_num, rfl, HR2.out, by rw [List.length_append, List.length_singleton]; omega, ?_, P4, G04, G14, B4⟩
            have := HO4.out
            rw [HST.out] at this
            rw [svals_snoc, HMM.out]
            simpa [HMM.out] using this
    · have hje : j = cs.length := by omega
      subst hje
      clear hj hps
      cases st with
      | none =>
        have HD := Lib.hid HR.out.done
        have hfr : fromOf cs none = -1 := rfl
        rw [hfr]
        go_wp2_with fail
        go_ret
        refine ⟨_, rfl, ?_, X0⟩
        rw [HF.out, HD.out, HN.out]
        have := HO.out
        obtain ⟨t1, t2⟩ := this
        refine ⟨t1, ?_⟩
        rcases t2 with t2 | ⟨g, cap, cur, e1, e2, r⟩
        · exact .inl t2
        · exact .inr ⟨g, cap, cur, e1, by omega, r⟩
      | some s0 =>
        have HD := Lib.hid HR.out.done'
        have hsj := HR.out.2 s0 rfl
        have hpl := HPN.out s0
        have HST := Lib.hid (show s.extract (placeOf cs s0) s.size = ⟨(glue (cs.drop s0)).toArray⟩ by rw [glue_drop, HGL.out, ba_drop])
        have hfr : fromOf cs (some s0) = (placeOf cs s0 : Int) := rfl
        rw [hfr]
        obtain ⟨pa, hpa⟩ : ∃ pa, placeOf cs s0 = pa := ⟨_, rfl⟩
        rw [hpa] at hpl HST ⊢
        clear hpa hfr hsj
        have O3 := owns_keep HO.out (Ext.alloc wr (.cells #[.string (s.extract pa s.size)] 9))
        have B3 := below_ext HB.out (Ext.alloc wr (.cells #[.string (s.extract pa s.size)] 9)) (by omega)
        obtain ⟨M, hM⟩ : ∃ M, D.map glue = M := ⟨_, rfl⟩
        rw [hM] at O3 HDL
        have HMM := Lib.hid hM
        have O3' := Lib.hid O3
        have B3' := Lib.hid B3
        clear O3 B3 hM
        go_wp2_with (refine wpList_appendV rfl 31 _ _ rfl 9 1 16 _ Tryd.underlying31 info_string rfl (by omega) (n + 1) _ _ _ rfl O3'.out _ 1 _ [.string (s.extract pa s.size)] rfl rfl (news_alloc _ _ _) (by simp [Value.oneCell']) (by rw [HDL.out]; omega) (by rw [HDL.out]; omega) (by simp; omega) ?_)
        intro v4 w4 o4 g4
        have B4 := owns_grown O3'.out g4 (by simp; omega) B3'.out (by omega)
        have HO4 := Lib.hid o4
        clear g4 o4
        go_wp2_with fail
        go_ret
        refine ⟨_, rfl, ?_, ⟨by rw [HN.out]; exact B4⟩⟩
        rw [HF.out, HD.out, HN.out, svals_snoc, HMM.out]
        have := HO4.out
        rw [HST.out] at this
        have e : ((D ++ [cs.drop s0]).map glue).length = M.length + 1 := by rw [List.map_append, HMM.out]; simp
        rw [e]
        obtain ⟨t1, t2⟩ := this
        refine ⟨t1, ?_⟩
        rcases t2 with t2 | ⟨g, cap, cur, e1, e2, r⟩
        · exact .inl t2
        · exact .inr ⟨g, cap, cur, e1, by omega, r⟩
end Go.Proofs.YthbfdajbajijeaaDoor

/- The wrappers over fields by a test. Printed by fieldsw.py. -/
namespace Go.Proofs.YthbfdajbajijeaaDoor
open Go.RowKit

theorem fields_each (p : Int → Bool) (l : List UInt8) (hl : l.length ≤ 1099511627776) : ∀ x ∈ fieldsB p l, x.length ≤ 140737488355328 := by
  intro x hx
  have h1 := mem_size hx
  have h2 := fieldsB_size p l
  omega

set_option maxRecDepth 100000 in
theorem impl_FieldsFunc (sv : Value) (l : List UInt8) (v : Value) (rs : List Int) (nt : Bool) (w : World) (hb : Bs w sv l) (h : Is w v rs) (hT : Tabs w) (hl : l.length ≤ 1099511627776) :
    Calls Tryd.prog 19 #[sv, .agg #[v, .bool nt]] w (RetOwnL w (fieldsB (holdsT rs nt) l)) := by
  have hlen := fieldsB_len (holdsT rs nt) l
  obtain ⟨a, c, rfl, _, _, _⟩ := h.raw
  go_enter Tryd.func19, Tryd.ntmps19
  go_wp2_with (go_at_call 44; refine (bytes_FieldsFunc sv l _ rs nt _ (hb.ext (Ext.alloc _ _)) (h.ext (Ext.alloc _ _)) (hT.ext (Ext.alloc _ _)) hl).mono ?_)
  rintro _ w1 ⟨v1, rfl, b1, x1⟩
  have X := (Ext.alloc w _).trans x1
  clear x1
  go_wp2_with (go_at_call 42; refine (impl_freshAll v1 _ _ b1 (by omega) (fields_each _ l hl)).mono ?_)
  rintro _ w2 ⟨v2, rfl, o2, x2⟩
  go_wp2_with fail
  go_ret
  exact ⟨_, rfl, o2.mono X.size (Nat.le_refl _), X.trans x2⟩
end Go.Proofs.YthbfdajbajijeaaDoor
