/- Marks on slices of slices; lists that grow by append; freshAll, copies. -/
import Derived.Test.YthbfdajbajijeaaDoorLs
import Derived.Maps.AppendAt
import Derived.Test.YthbfdajbajijeaaDoorBytesA
namespace Go.Proofs.YthbfdajbajijeaaDoor
open Go.RowKit

/-- A mark's answer. -/
def RetMarkL (lo hi : Nat) (v : Value) (K : Int) (k : Nat) (L : List (List UInt8)) (w : World) (e : Ending) (w' : World) : Prop :=
  e = .returned (.int .i64 (K + (sizeL' L : Int))) ∧ OwnL lo hi w' v (marksL k L) ∧ Fr lo hi w w'

set_option maxRecDepth 100000 in
set_option maxHeartbeats 1000000 in
theorem laws_markByteSS (v : Value) (L : List (List UInt8)) (K : Int) (k lo hi : Nat) (w : World) (h : OwnL lo hi w v L) (hK : K = (k : Int)) (hk : k + sizeL' L ≤ 4611686018427387904) :
    Calls Tryd.prog 32 #[v, .int .i64 K] w (RetMarkL lo hi v K k L w) := by
  subst hK
  obtain ⟨g, cap, vs, rfl, h1, h2, h3, h4, hc, ch⟩ := h
  have hc2 : cap ≤ 9223372036854775807 := by unfold maxLen at h2; omega
  have HVL := Lib.hid ch.length
  have HC := Lib.hid hc
  have HCH := Lib.hid ch
  clear hc ch
  go_enter Tryd.func32, Tryd.ntmps32
  go_wp2_with fail
  go_loopg [1, 5] L.length (fun gk q i wr => ∃ j : Nat, j + gk = L.length ∧ i = .int .i64 j ∧ q = .int .i64 ((k : Int) + (sizeL' (L.take j) : Int)) ∧ (∀ i (h : i < vs.length), wr.cell? ⟨g, i, none⟩ = some vs[i]) ∧ Chain wr g lo hi vs (marksL k (L.take j) ++ L.drop j) ∧ Fr lo hi w wr)
  case atStart => exact ⟨0, by omega, rfl, by simp [sizeL'], HC.out, HCH.out, Fr.refl _ _ _⟩
  case round =>
    obtain ⟨j, hj, rfl, rfl, hcw, hch, hx⟩ := hrel
    have HJ := Lib.hid hj
    by_cases hlt : j < L.length
    · have hg : 0 < gk := by omega
      have hjv : j < vs.length := by rw [HVL.out]; exact hlt
      have hjl : j < (marksL k (L.take j) ++ L.drop j).length := by simp [marksL_length]; omega
      obtain ⟨a, b, k1, k2, k3, k4, o, k5⟩ := Chain.at j hjl hjv hch
      have hgl : (marksL k (L.take j) ++ L.drop j)[j] = L[j] := by
        rw [List.getElem_append_right (by rw [marksL_length]; simp; omega)]
        simp only [marksL_length, List.length_take, Nat.min_eq_left (Nat.le_of_lt hlt), Nat.sub_self]
        rw [List.getElem_drop]
        rfl
      rw [hgl] at o
      have c0 := hcw j hjv
      have hts := sizeL'_take_succ L j hlt
      have htl := sizeL'_take_le L (j + 1)
      have hsb : sizeL' (L.take j) + L[j].length ≤ sizeL' L := by omega
      have cM := laws_markByteS vs[j] L[j] ((k : Int) + (sizeL' (L.take j) : Int)) (k + sizeL' (L.take j)) a b wr o (by omega) (by omega)
      have HTS := Lib.hid hts
      have H5 := Lib.hid k5
      have HCW := Lib.hid hcw
      have HX := Lib.hid hx
      clear hj hgl hch hts k5 hcw hx o
      go_wp2_with (go_at_call 31; refine cM.mono ?_)
      rintro _ w2 ⟨rfl, o2, x2⟩
      have HO2 := Lib.hid o2
      clear o2 cM
      go_wp2_with fail
      go_roundg (gk - 1)
      case measure => omega
      case rel =>
        refine ⟨j + 1, by have := HJ.out; omega, by go_num, ?_, ?_, ?_, ?_⟩
        · rw [HTS.out]; go_num
        · intro i hi
          exact x2.cell (by dsimp only; omega) (HCW.out i hi)
        · have := H5.out w2 _ x2 HO2.out
          rwa [marksL_step L k j hlt] at this
        · exact HX.out.trans (x2.mono k1 k3)
    · have hje : j = L.length := by omega
      have HT := Lib.hid (show L.take j = L from List.take_of_length_le (by omega))
      have HD := Lib.hid (show L.drop j = [] from List.drop_of_length_le (by omega))
      have HCH2 := Lib.hid hch
      have HCW := Lib.hid hcw
      clear hj hch hcw
      go_wp2_with fail
      go_ret
      have hch := HCH2.out
      rw [HT.out, HD.out, List.append_nil] at hch
      have e := marksL_length L k
      refine ⟨by first | (rw [HT.out]; done) | (rw [HT.out]; rfl) | simp, ⟨g, cap, vs, by rw [e], by rw [e]; exact h1, h2, h3, h4, HCW.out, hch⟩, hx⟩

set_option maxRecDepth 100000 in
set_option maxHeartbeats 1000000 in
theorem laws_heldByteSS (v : Value) (L : List (List UInt8)) (K : Int) (k : Nat) (w : World) (h : Ls w v (marksL k L)) (hK : K = (k : Int)) (hk : k + sizeL' L ≤ 4611686018427387904) :
    Calls Tryd.prog 33 #[v, .int .i64 K] w (RetV (.int .i64 (K + (sizeL' L : Int))) w) := by
  subst hK
  obtain ⟨a, c, rfl, h1, h2, hc⟩ := h.raw
  have hc2 : c ≤ 9223372036854775807 := by unfold maxLen at h2; omega
  have hml := marksL_length L k
  rw [hml] at h1 ⊢
  have HM := Lib.hid hml
  have HC := Lib.hid hc
  clear hc h hml
  go_enter Tryd.func33, Tryd.ntmps33
  go_wp2_with fail
  go_loopg [1, 5] L.length (fun gk q i wr => ∃ j : Nat, j + gk = L.length ∧ i = .int .i64 j ∧ q = .int .i64 ((k : Int) + (sizeL' (L.take j) : Int)) ∧ Ext w wr)
  case atStart => exact ⟨0, by omega, rfl, by simp [sizeL'], Ext.refl _⟩
  case round =>
    obtain ⟨j, hj, rfl, rfl, hx⟩ := hrel
    have HJ := Lib.hid hj
    by_cases hlt : j < L.length
    · have hg : 0 < gk := by omega
      have hjm : j < (marksL k L).length := by rw [HM.out]; exact hlt
      obtain ⟨b, o, u, rfl, c0, hb⟩ := HC.out j hjm
      rw [marksL_get L k j hlt hjm] at hb
      replace c0 := hx.cell c0
      have hts := sizeL'_take_succ L j hlt
      have htl := sizeL'_take_le L (j + 1)
      have hsb : sizeL' (L.take j) + L[j].length ≤ sizeL' L := by omega
      have cH := laws_heldByteS u ((k : Int) + (sizeL' (L.take j) : Int)) (k + sizeL' (L.take j)) L[j].length wr (hb.ext hx) (by omega) (by omega)
      have HTS := Lib.hid hts
      have HX := Lib.hid hx
      clear hj hts hx hb
      go_wp2_with (go_at_call 36; refine cH.mono ?_)
      rintro _ w2 ⟨rfl, x2⟩
      clear cH
      go_wp2_with fail
      go_roundg (gk - 1)
      case measure => omega
      case rel =>
        refine ⟨j + 1, by have := HJ.out; omega, by go_num, ?_, HX.out.trans x2⟩
        rw [HTS.out]; go_num
    · have hje : j = L.length := by omega
      have HT := Lib.hid (show L.take j = L from List.take_of_length_le (by omega))
      clear hj
      go_wp2_with fail
      go_ret
      exact ⟨by first | (rw [HT.out]; done) | (rw [HT.out]; rfl) | simp, hx⟩

/-- 'append(v, x)', v a row of the call's own, x laid into a new block: where the new row lies. -/
theorem wpList_appendAt {P : Program} {ops : Array Oper} {rest : List Oper} {o : Oper} {a : Act} {Q : Exit → Act → World → Prop} {w : World}
    (hw : Region.wanted o (yielded ops a.tmps) = true) (t : TypeId) (x y : Operand) (hop : o.op = Op.call { callee := .builtin .append, args := #[x, y], argTypes := #[t, t] })
    (e : TypeId) (size bytes : Nat) (z : Value) (ht : P.underlying t = some (.slice e)) (hinfo : (P.info? e).map (fun i => (i.zero, i.size, i.bytes)) = some (some z, size, bytes)) (hzs : z.cells.size = size) (hsz : 0 < size)
    (B : Nat) (v : Value) (n : Nat) (xs : List Value) (hx : a.eval x = v) (hv : w.ownsRow B e size v n xs) (ad : Addr) (m c : Nat) (news : List Value) (hy : a.eval y = .slice (some ad) m c) (hl : news.length = m * size)
    (hnews : ∀ j u, news[j]? = some u → w.cell? (ad.add j) = some u) (h1 : ∀ u ∈ news, u.oneCell' = true) (hlen : (n + m) * bytes ≤ 140737488355328) (hlen2 : n + m ≤ 140737488355328) (hB : B ≤ w.heap.size)
    (hK : ∀ v' w', w'.ownsRow B e size v' (n + m) (xs ++ news) → w.grownBy w' v.ownBlock → (v'.ownBlock = v.ownBlock ∨ v'.ownBlock = some w.heap.size) → wpList P ops Q rest (a.put o.dst v') w') : wpList P ops Q (o :: rest) a w := by
  refine wpList_step fun K hK' => ?_
  rw [if_pos hw]
  obtain ⟨i, hi, hzz⟩ := Option.map_eq_some_iff.1 hinfo
  simp only [Prod.mk.injEq] at hzz
  obtain ⟨hz, hs, hby⟩ := hzz
  obtain ⟨v', w', hr, h2, h3, _, h4⟩ := run_append_own_at (P := P) (w := w) B t o.type e i z size bytes ht hi hz hs hby hzs hsz v n xs hv ad m c news hl hnews h1 (by unfold maxLen; omega) hlen hB
  unfold Oper.wp execOp
  simp only [hop, resolve, invoke, builtin, Sem.run_bind, Sem.run_pure, Result.andThen_ok, List.map_toArray, List.map_cons, List.map_nil, hx, hy, hr]
  exact hK' _ _ (hK v' w' h2 h3 h4)

/-- A list of texts that grows by append. -/
def GrowL (B : Nat) (T : TypeId) (w : World) (v : Value) (L : List (List UInt8)) : Prop :=
  ∃ vs g, w.ownsRow B T 1 v L.length vs ∧ v.ownBlock = some g ∧ Chain w g B w.heap.size vs L

theorem GrowL.start (B : Nat) (T : TypeId) (w : World) (hB : B ≤ w.heap.size) : GrowL B T (w.alloc (.cells #[] T)) (.slice (some ⟨w.heap.size, 0, none⟩) 0 0) [] :=
  ⟨[], w.heap.size, owns_empty B T 1 w hB, rfl, by show B ≤ (w.heap.push _).size; simp; omega⟩

theorem GrowL.owns {B : Nat} {T : TypeId} {w : World} {v : Value} {L : List (List UInt8)} (h : GrowL B T w v L) : ∃ vs, w.ownsRow B T 1 v L.length vs := by
  obtain ⟨vs, g, h1, _⟩ := h; exact ⟨vs, h1⟩

theorem GrowL.ext {B : Nat} {T : TypeId} {w w' : World} {v : Value} {L : List (List UInt8)} (h : GrowL B T w v L) (x : Ext w w') : GrowL B T w' v L := by
  obtain ⟨vs, g, h1, h2, h3⟩ := h
  refine ⟨vs, g, owns_keep h1 x, h2, ?_⟩
  have := h3.ext x
  exact (show Chain w' g B w'.heap.size vs L from by
    revert this
    have hs := x.size
    generalize w.heap.size = m at hs ⊢
    clear h1 h2 h3 x
    intro ch
    have : ∀ {lo : Nat} {vs : List Value} {L : List (List UInt8)}, Chain w' g lo m vs L → Chain w' g lo w'.heap.size vs L := by
      intro lo vs
      induction vs generalizing lo with
      | nil => intro L h; cases L with
        | nil => exact Nat.le_trans h hs
        | cons _ _ => exact h.elim
      | cons v vs ih => intro L h; cases L with
        | nil => exact h.elim
        | cons l L => obtain ⟨a, b, q1, q2, q3, q4, q5⟩ := h; exact ⟨a, b, q1, q2, q3, q4, ih q5⟩
    exact this ch)

/-- One text more: made in a world (w to w1), laid into a block of its own, appended. -/
theorem GrowL.snoc {B : Nat} {T : TypeId} {w w1 w3 : World} {v u v' : Value} {L : List (List UInt8)} {l : List UInt8} (h : GrowL B T w v L) (x : Ext w w1) (o : Own w.heap.size w1.heap.size w1 u l) {vs : List Value}
    (hv : w.ownsRow B T 1 v L.length vs) (h3 : w3.ownsRow B T 1 v' (L.length + 1) (vs ++ [u])) (g3 : (w1.alloc (.cells #[u] T)).grownBy w3 v.ownBlock) (hat : v'.ownBlock = v.ownBlock ∨ v'.ownBlock = some (w1.heap.size + 1)) : GrowL B T w3 v' (L ++ [l]) := by
  obtain ⟨vs', g, h1, h2, ch⟩ := h
  have hvs : vs' = vs := by
    rcases h1.2 with ⟨e1, e2⟩ | ⟨g1, cap1, cur1, e1, _, hh1, _, _, _, ht1⟩
    · rw [e1] at h2; cases h2
    · rcases hv.2 with ⟨e2, _⟩ | ⟨g2, cap2, cur2, e2, _, hh2, _, _, _, ht2⟩
      · rw [e1] at e2; cases e2
      · rw [e1] at e2
        injection e2 with e3 _ _
        injection e3 with e3
        injection e3 with e3
        subst e3
        rw [hh1] at hh2
        injection hh2 with hh2
        injection hh2 with hh2 _
        rw [← ht1, ← ht2, hh2]
  subst hvs
  have hglt := owns_lt h1 g h2
  have hs2 : (w1.alloc (.cells #[u] T)).heap.size = w1.heap.size + 1 := by simp
  have hsz := x.size
  have hs3 := g3.size
  rw [hs2] at hs3
  rw [h2] at hat g3
  have X2 : Ext w (w1.alloc (.cells #[u] T)) := x.trans (Ext.alloc _ _)
  have keep : ∀ lo hi v l, hi ≤ (w1.alloc (.cells #[u] T)).heap.size → (g < lo ∨ hi ≤ g) → Own lo hi (w1.alloc (.cells #[u] T)) v l → Own lo hi w3 v l := by
    intro lo hi v l _ hd ow
    obtain ⟨a, c, hv, q1, q2, q3⟩ := ow
    refine ⟨a, c, hv, q1, q2, ?_⟩
    rcases q3 with q3 | ⟨b, o, ha, b1, b2, hc⟩
    · exact .inl q3
    · refine .inr ⟨b, o, ha, b1, b2, fun i hi => ?_⟩
      have hb := g3.block b (World.block_lt_of_cell? _ _ (hc i hi).1) (by intro e; injection e with e; omega)
      exact ⟨(World.cell?_of_block (a := ⟨b, o + i, none⟩) hb).trans (hc i hi).1, (World.frozen?_of_block (a := ⟨b, o + i, none⟩) hb).trans (hc i hi).2⟩
  have ch1 : Chain w3 g B w.heap.size vs' L := by
    have c1 := ch.ext X2
    have : ∀ {lo : Nat} {vs : List Value} {L : List (List UInt8)}, Chain (w1.alloc (.cells #[u] T)) g lo w.heap.size vs L → Chain w3 g lo w.heap.size vs L := by
      intro lo vs
      induction vs generalizing lo with
      | nil => intro L h; cases L with
        | nil => exact h
        | cons _ _ => exact h.elim
      | cons v vs ih => intro L h; cases L with
        | nil => exact h.elim
        | cons l L =>
          obtain ⟨a, b, q1, q2, q3, q4, q5⟩ := h
          have := q5.le
          exact ⟨a, b, q1, q2, q3, keep a b _ _ (by rw [hs2]; omega) q3 q4, ih q5⟩
    exact this c1
  have o3 : Own w.heap.size w1.heap.size w3 u l := keep _ _ _ _ (by rw [hs2]; omega) (.inl hglt.2) (o.ext (Ext.alloc _ _))
  refine ⟨vs' ++ [u], ?_⟩
  rw [List.length_append, List.length_singleton]
  rcases hat with hat | hat
  · refine ⟨g, h3, hat, Chain.snoc (Nat.le_refl _) hsz ?_ (.inl hglt.2) o3 ch1⟩
    omega
  · refine ⟨w1.heap.size + 1, h3, hat, Chain.snoc (Nat.le_refl _) hsz ?_ (.inr (by omega)) o3 (ch1.other (by omega))⟩
    omega

theorem GrowL.ownL {B : Nat} {T : TypeId} {w : World} {v : Value} {L : List (List UInt8)} (h : GrowL B T w v L) : OwnL B w.heap.size w v L := by
  obtain ⟨vs, g, h1, h2, ch⟩ := h
  have hglt := owns_lt h1 g h2
  have hl := h1.1
  rcases h1.2 with ⟨e1, e2⟩ | ⟨g1, cap, cur, e1, _, hh, hn, hc, hs, ht⟩
  · rw [e1] at h2; cases h2
  · rw [e1] at h2
    have : g1 = g := by simpa [Value.ownBlock] using h2
    subst this
    refine ⟨g1, cap, vs, e1, hn, hc, hglt.1, hglt.2, fun i hi => ?_, ch⟩
    have e3 : cur[i]? = some vs[i] := by
      have e2 : vs[i]? = some vs[i] := List.getElem?_eq_getElem hi
      have e3 : (cur.toList.take (L.length * 1))[i]? = some vs[i] := by rw [ht]; exact e2
      rw [List.getElem?_take, if_pos (by omega)] at e3
      simpa using e3
    simp [World.cell?, hh, e3]

/-- A call's answer: a new list of texts. -/
def RetOwnL (w : World) (L : List (List UInt8)) (e : Ending) (w' : World) : Prop := ∃ v, e = .returned v ∧ OwnL w.heap.size w'.heap.size w' v L ∧ Ext w w'

theorem GrowL.below {B B' : Nat} {T : TypeId} {w w3 : World} {v : Value} {L : List (List UInt8)} (h : GrowL B T w v L) {W : World} {w2 : World} (hb : Below B' W w2) (g : w2.grownBy w3 v.ownBlock) (hB : B' ≤ B) (hw : B' ≤ w2.heap.size) : Below B' W w3 := by
  obtain ⟨vs, g', h1, h2, _⟩ := h
  refine hb.grown g hw (fun k hk => ?_)
  have := owns_lt h1 k hk
  omega

theorem info_bytes : (Tryd.prog.info? 27).map (fun i => (i.zero, i.size, i.bytes)) = some (some (.slice none 0 0), 1, 24) := by kernel_rfl

set_option maxRecDepth 100000 in
set_option maxHeartbeats 1000000 in
theorem impl_freshAll (v : Value) (L : List (List UInt8)) (w : World) (h : Ls w v L) (hn : L.length ≤ 1099511627776) (hl : ∀ l ∈ L, l.length ≤ 140737488355328) :
    Calls Tryd.prog 42 #[v] w (RetOwnL w L) := by
  obtain ⟨a, c, rfl, p1, q1, e1⟩ := h.raw
  have hc1 : c ≤ 9223372036854775807 := by unfold maxLen at q1; omega
  have HC := Lib.hid e1
  have HL := Lib.hid hl
  clear e1 h q1 hl
  go_enter Tryd.func42, Tryd.ntmps42
  go_wp2_with fail
  have g0 := GrowL.start w.heap.size 27 w (Nat.le_refl _)
  have x0 : Ext w (w.alloc (.cells #[] 27)) := Ext.alloc _ _
  go_loopg [3, 9] L.length (fun k o i wr => ∃ j : Nat, j + k = L.length ∧ i = .int .i64 j ∧ GrowL w.heap.size 27 wr o (L.take j) ∧ Ext w wr)
  case atStart => exact ⟨0, by omega, rfl, g0, x0⟩
  case round =>
    obtain ⟨j, hj, rfl, hgr, hx⟩ := hrel
    clear g0 x0
    have HJ := Lib.hid hj
    by_cases hlt : j < L.length
    · have hg : 0 < gk := by omega
      obtain ⟨b, o, u, rfl, c0, hb⟩ := HC.out j hlt
      replace c0 := hx.cell c0
      obtain ⟨M, hM⟩ : ∃ M, L.take j = M := ⟨_, rfl⟩
      have HTL := Lib.hid (show M.length = j by rw [← hM]; simp; omega)
      have HMM := Lib.hid hM
      rw [hM] at hgr
      clear hM
      obtain ⟨vs, hown⟩ := hgr.owns
      have hlj := HL.out _ (List.getElem_mem hlt)
      have cF := impl_fresh u L[j] wr (hb.ext hx) hlj
      have HG := Lib.hid hgr
      have HO := Lib.hid hown
      have HX := Lib.hid hx
      clear hj hgr hown hx hb
      go_wp2_with (go_at_call 38; refine cF.mono ?_)
      rintro _ w1 ⟨u1, rfl, o1, x1⟩
      clear cF
      have hu1 : ∀ y ∈ [u1], y.oneCell' = true := by
        obtain ⟨a1, c1, rfl, _⟩ := o1
        simp [Value.oneCell']
      obtain ⟨a1, c1, e1, _⟩ := id o1
      subst e1
      go_wp2_with (refine wpList_appendAt rfl 33 _ _ rfl 27 1 24 _ Tryd.underlying33 info_bytes rfl (by omega) w.heap.size _ _ vs rfl (owns_keep HO.out (x1.trans (Ext.alloc _ _))) _ 1 _ [_] rfl rfl (news_alloc _ _ _) hu1 (by rw [HTL.out]; omega) (by rw [HTL.out]; omega) (Nat.le_trans HX.out.size (x1.trans (Ext.alloc _ _)).size) ?_)
      intro v3 w3 h3 g3 hat
      have gn := HG.out.snoc x1 o1 HO.out h3 g3 hat
      have B3 := HG.out.below (below_ext (below_ext HX.out.below x1 HX.out.size) (Ext.alloc _ _) (Nat.le_trans HX.out.size x1.size)) g3 (Nat.le_refl _) (Nat.le_trans HX.out.size (x1.trans (Ext.alloc _ _)).size)
      have HGN := Lib.hid gn
      have HB3 := Lib.hid B3
      clear gn B3 h3 g3 hat o1 hu1
      go_wp2_with fail
      go_roundg (gk - 1)
      case measure => omega
      case rel =>
        refine ⟨j + 1, by have := HJ.out; omega, by go_num, ?_, ⟨HB3.out⟩⟩
        rw [List.take_succ_eq_append_getElem hlt, HMM.out]
        exact HGN.out
    · have hje : j = L.length := by omega
      have HT := Lib.hid (show L.take j = L from List.take_of_length_le (by omega))
      have HG := Lib.hid hgr
      clear hj hgr
      go_wp2_with fail
      go_ret
      have := HG.out
      rw [HT.out] at this
      exact ⟨_, rfl, this.ownL, hx⟩

/-- Strings as values. -/
def svals (L : List (List UInt8)) : List Value := L.map fun l => Value.string ⟨l.toArray⟩
/-- The slice value v holds strings: the texts L. -/
def Ss (w : World) (v : Value) (L : List (List UInt8)) : Prop := Vs w v L.length 1 (svals L)
theorem Ss.ext {w w' : World} {v : Value} {L : List (List UInt8)} (h : Ss w v L) (x : Ext w w') : Ss w' v L := Vs.ext h x
theorem svals_length (L : List (List UInt8)) : (svals L).length = L.length := by simp [svals]
theorem Ss.raw {w : World} {v : Value} {L : List (List UInt8)} (h : Ss w v L) : ∃ a c, v = .slice a L.length c ∧ L.length ≤ c ∧ c ≤ maxLen ∧ ∀ i (h : i < L.length), ∃ b o, a = some ⟨b, o, none⟩ ∧ w.cell? ⟨b, o + i, none⟩ = some (.string ⟨L[i].toArray⟩) := by
  obtain ⟨hl, a, c, hv, h1, h2, h3⟩ := h
  refine ⟨a, c, hv, h1, h2, fun i hi => ?_⟩
  have hi' : i < (svals L).length := by rw [svals_length]; exact hi
  rcases h3 with h3 | ⟨b, o, ha, hc⟩
  · rw [h3] at hi'; simp at hi'
  · refine ⟨b, o, ha, ?_⟩
    rw [hc i hi']
    simp [svals]
theorem svals_one (L : List (List UInt8)) : ∀ u ∈ svals L, u.oneCell' = true := by
  intro u hu
  obtain ⟨_, _, rfl⟩ := List.mem_map.1 hu
  rfl
theorem svals_append (L M : List (List UInt8)) : svals (L ++ M) = svals L ++ svals M := by simp [svals]

set_option maxRecDepth 100000 in
set_option maxHeartbeats 1000000 in
theorem spec_copies (v : Value) (L : List (List UInt8)) (w : World) (h : Ss w v L) (hn : L.length ≤ 1099511627776) (hl : ∀ l ∈ L, l.length ≤ 140737488355328) :
    Calls Tryd.prog 50 #[v] w (RetOwnL w L) := by
  obtain ⟨a, c, rfl, p1, q1, e1⟩ := h.raw
  have hc1 : c ≤ 9223372036854775807 := by unfold maxLen at q1; omega
  have HC := Lib.hid e1
  have HL := Lib.hid hl
  clear e1 h q1 hl
  go_enter Tryd.func50, Tryd.ntmps50
  go_wp2_with fail
  have g0 := GrowL.start w.heap.size 27 w (Nat.le_refl _)
  have x0 : Ext w (w.alloc (.cells #[] 27)) := Ext.alloc _ _
  go_loopg [3, 4] L.length (fun k o i wr => ∃ j : Nat, j + k = L.length ∧ i = .int .i64 j ∧ GrowL w.heap.size 27 wr o (L.take j) ∧ Ext w wr)
  case atStart => exact ⟨0, by omega, rfl, g0, x0⟩
  case round =>
    obtain ⟨j, hj, rfl, hgr, hx⟩ := hrel
    clear g0 x0
    have HJ := Lib.hid hj
    by_cases hlt : j < L.length
    · have hg : 0 < gk := by omega
      obtain ⟨b, o, rfl, c0⟩ := HC.out j hlt
      replace c0 := hx.cell c0
      obtain ⟨M, hM⟩ : ∃ M, L.take j = M := ⟨_, rfl⟩
      have HTL := Lib.hid (show M.length = j by rw [← hM]; simp; omega)
      have HMM := Lib.hid hM
      rw [hM] at hgr
      clear hM
      obtain ⟨vs, hown⟩ := hgr.owns
      have hlj := HL.out _ (List.getElem_mem hlt)
      have hm : (⟨L[j].toArray⟩ : ByteArray).size ≤ maxLen := by show L[j].length ≤ _; unfold maxLen; omega
      have HG := Lib.hid hgr
      have HO := Lib.hid hown
      have HX := Lib.hid hx
      clear hj hgr hown hx
      go_wp2_with (refine wpList_toBytes rfl 9 27 _ rfl 5 Tryd.underlying9 Tryd.underlying27 Tryd.underlying5 _ rfl hm ?_)
      intro u1 w1 o1 x1
      have o1 : Own wr.heap.size w1.heap.size w1 u1 L[j] := o1
      have hu1 : ∀ y ∈ [u1], y.oneCell' = true := by
        obtain ⟨a1, c1, rfl, _⟩ := o1
        simp [Value.oneCell']
      obtain ⟨a1, c1, e1, _⟩ := id o1
      subst e1
      go_wp2_with (refine wpList_appendAt rfl 33 _ _ rfl 27 1 24 _ Tryd.underlying33 info_bytes rfl (by omega) w.heap.size _ _ vs rfl (owns_keep HO.out (x1.trans (Ext.alloc _ _))) _ 1 _ [_] rfl rfl (news_alloc _ _ _) hu1 (by rw [HTL.out]; omega) (by rw [HTL.out]; omega) (Nat.le_trans HX.out.size (x1.trans (Ext.alloc _ _)).size) ?_)
      intro v3 w3 h3 g3 hat
      have gn := HG.out.snoc x1 o1 HO.out h3 g3 hat
      have B3 := HG.out.below (below_ext (below_ext HX.out.below x1 HX.out.size) (Ext.alloc _ _) (Nat.le_trans HX.out.size x1.size)) g3 (Nat.le_refl _) (Nat.le_trans HX.out.size (x1.trans (Ext.alloc _ _)).size)
      have HGN := Lib.hid gn
      have HB3 := Lib.hid B3
      clear gn B3 h3 g3 hat o1 hu1
      go_wp2_with fail
      go_roundg (gk - 1)
      case measure => omega
      case rel =>
        refine ⟨j + 1, by have := HJ.out; omega, by go_num, ?_, ⟨HB3.out⟩⟩
        rw [List.take_succ_eq_append_getElem hlt, HMM.out]
        exact HGN.out
    · have hje : j = L.length := by omega
      have HT := Lib.hid (show L.take j = L from List.take_of_length_le (by omega))
      have HG := Lib.hid hgr
      clear hj hgr
      go_wp2_with fail
      go_ret
      have := HG.out
      rw [HT.out] at this
      exact ⟨_, rfl, this.ownL, hx⟩
end Go.Proofs.YthbfdajbajijeaaDoor
