/- The walk of impl.gathered. -/
import Derived.Test.YtdlobdbclgcogaaDoorGath
namespace Go.Proofs.YtdlobdbclgcogaaDoor
open Go.RowKit Go.Shelf

attribute [local go_sem] Oper.semAt_some

/-- A call's answer: a new list of texts; what lay below m lies as it lay. -/
def RetGath (m : Nat) (w : World) (L : List (List UInt8)) (e : Ending) (w' : World) : Prop := ∃ v, e = .returned v ∧ OwnL w.heap.size w'.heap.size w' v L ∧ Below m w w'

theorem boxed_ext {W W' : World} {B : Nat} {t : TypeId} {v : Value} (h : Boxed W B t v) (x : Ext W W') : Boxed W' B t v := (x.block h.lt).trans h
theorem boxed_fr {W W' : World} {B lo hi : Nat} {t : TypeId} {v : Value} (h : Boxed W B t v) (x : Fr lo hi W W') (hd : B < lo ∨ hi ≤ B) : Boxed W' B t v := (x.block B h.lt hd).trans h

theorem GrowL.fr {B lo hi : Nat} {T : TypeId} {w w' : World} {v : Value} {L : List (List UInt8)} (h : GrowL B T w v L) (x : Fr lo hi w w') (hd : hi ≤ B) : GrowL B T w' v L := by
  obtain ⟨vs, g, h1, h2, h3⟩ := h
  refine ⟨vs, g, owns_keepFr h1 x hd, h2, ?_⟩
  have hle := h3.le
  exact (Chain.fr x h3 (.inr hd)).mono (Nat.le_refl _) x.size

theorem own_putObj {lo hi : Nat} {W : World} {v : Value} {l : List UInt8} (h : Own lo hi W v l) {k : Nat} {o : Obj} (o' : Obj) (hk : W.heap[k]? = some o) (ho : o.isCells = false) : Own lo hi (W.putObj k o') v l := by
  obtain ⟨a, c, hv, k1, k2, h3⟩ := h
  refine ⟨a, c, hv, k1, k2, ?_⟩
  rcases h3 with h3 | ⟨b, p, ha, b1, b2, hc⟩
  · exact .inl h3
  · refine .inr ⟨b, p, ha, b1, b2, fun i hi => ?_⟩
    have h1 := (hc i hi).1
    have hne : b ≠ k := by
      rintro rfl
      unfold World.cell? at h1
      simp only at h1
      rw [hk] at h1
      cases o <;> first | (simp at h1; done) | exact Bool.noConfusion ho
    have hb := putObj_other (W := W) o' hne
    exact ⟨(World.cell?_of_block (a := ⟨b, p + i, none⟩) hb).trans h1, (World.frozen?_of_block (a := ⟨b, p + i, none⟩) hb).trans (hc i hi).2⟩
theorem chain_putObj {W : World} {hb k : Nat} {o : Obj} (o' : Obj) (hk : W.heap[k]? = some o) (ho : o.isCells = false) {lo hi : Nat} {vs : List Value} {L : List (List UInt8)} (h : Chain W hb lo hi vs L) : Chain (W.putObj k o') hb lo hi vs L :=
  Chain.frH (fun _ _ _ _ _ ow => own_putObj ow o' hk ho) h
theorem putObj_size (W : World) (k : Nat) (o : Obj) : (W.putObj k o).heap.size = W.heap.size := by simp [World.putObj]
theorem growL_putObj {B : Nat} {T : TypeId} {W : World} {v : Value} {L : List (List UInt8)} (h : GrowL B T W v L) {k : Nat} {o : Obj} (o' : Obj) (hk : W.heap[k]? = some o) (ho : o.isCells = false) : GrowL B T (W.putObj k o') v L := by
  obtain ⟨vs, g, h1, h2, h3⟩ := h
  refine ⟨vs, g, ownsRow_putObj h1 o' hk ho, h2, ?_⟩
  rw [putObj_size]
  exact chain_putObj o' hk ho h3
theorem boxed_putObj {W : World} {B : Nat} {t : TypeId} {v : Value} (h : Boxed W B t v) {k : Nat} {o : Obj} (o' : Obj) (hk : W.heap[k]? = some o) (ho : o.isCells = false) : Boxed (W.putObj k o') B t v := by
  refine (putObj_other o' ?_).trans h
  rintro rfl
  rw [show W.heap[B]? = _ from h] at hk
  injection hk with hk
  subst hk
  cases ho
theorem ownL_putObj {lo hi : Nat} {W : World} {v : Value} {L : List (List UInt8)} (h : OwnL lo hi W v L) {k : Nat} {o : Obj} (o' : Obj) (hk : W.heap[k]? = some o) (ho : o.isCells = false) : OwnL lo hi (W.putObj k o') v L := by
  obtain ⟨g, cap, vs, hv, h1, h2, h3, h4, hc, ch⟩ := h
  refine ⟨g, cap, vs, hv, h1, h2, h3, h4, fun i hi => ?_, chain_putObj o' hk ho ch⟩
  have h5 := hc i hi
  have hne : g ≠ k := by
    rintro rfl
    unfold World.cell? at h5
    simp only at h5
    rw [hk] at h5
    cases o <;> first | (simp at h5; done) | exact Bool.noConfusion ho
  exact (World.cell?_of_block (a := ⟨g, i, none⟩) (putObj_other (W := W) o' hne)).trans h5

/-- 'append(v, x)' inside a fence: where the new row lies. -/
theorem wpListIn_appendAt {F : Fence} {nn : Nat} {P : Program} {ops : Array Oper} {rest : List Oper} {o : Oper} {a : Act} {Q : Exit → Act → World → Prop} {w : World}
    (hgu : o.guard = none) (t : TypeId) (x y : Operand) (hop : o.op = Op.call { callee := .builtin .append, args := #[x, y], argTypes := #[t, t] })
    (e : TypeId) (size bytes : Nat) (z : Value) (ht : P.underlying t = some (.slice e)) (hinfo : (P.info? e).map (fun i => (i.zero, i.size, i.bytes)) = some (some z, size, bytes)) (hzs : z.cells.size = size) (hsz : 0 < size)
    (B : Nat) (v : Value) (n : Nat) (xs : List Value) (hx : a.eval x = v) (hv : w.ownsRow B e size v n xs) (ad : Addr) (m c : Nat) (news : List Value) (hy : a.eval y = .slice (some ad) m c) (hl : news.length = m * size)
    (hnews : ∀ j u, news[j]? = some u → w.cell? (ad.add j) = some u) (h1 : ∀ u ∈ news, u.oneCell' = true) (hlen : (n + m) * bytes ≤ 140737488355328) (hlen2 : n + m ≤ 140737488355328) (hB : B ≤ w.heap.size)
    (hK : ∀ v' w', w'.ownsRow B e size v' (n + m) (xs ++ news) → w.grownBy w' v.ownBlock → (v'.ownBlock = v.ownBlock ∨ v'.ownBlock = some w.heap.size) → wpListIn F nn P ops Q rest (a.put o.dst v') w') : wpListIn F nn P ops Q (o :: rest) a w := by
  refine wpListIn_plain hgu fun K hK' => ?_
  obtain ⟨i, hi, hzz⟩ := Option.map_eq_some_iff.1 hinfo
  simp only [Prod.mk.injEq] at hzz
  obtain ⟨hz, hs, hby⟩ := hzz
  obtain ⟨v', w', hr, h2, h3, _, h4⟩ := run_append_own_at (P := P) (w := w) B t o.type e i z size bytes ht hi hz hs hby hzs hsz v n xs hv ad m c news hl hnews h1 (by unfold maxLen; omega) hlen hB
  unfold Oper.wpIn
  refine ⟨?_, ?_⟩
  · simp [Oper.about, hop, resolve, Target.leads, Sem.run_pure]
  · rw [Oper.semAt_plain F _ _ (by rw [hop]; intro c hc'; cases hc')]
    simp [execOp, hop, resolve, invoke, builtin, hx, hy, hr, Result.andThen]
    exact hK' _ _ (hK v' w' h2 h3 h4)

/-- One text more, where the world may have grown between. -/
theorem GrowL.snoc2 {B : Nat} {T : TypeId} {w w0 w1 w2 w3 : World} {v u v' : Value} {L : List (List UInt8)} {l : List UInt8} (h : GrowL B T w v L) (x0 : Ext w w0) (o : Own w0.heap.size w1.heap.size w1 u l) (x1 : Ext w0 w1) (x2 : Ext w1 w2) {vs : List Value}
    (hv : w.ownsRow B T 1 v L.length vs) (h3 : w3.ownsRow B T 1 v' (L.length + 1) (vs ++ [u])) (g3 : w2.grownBy w3 v.ownBlock) (hat : v'.ownBlock = v.ownBlock ∨ v'.ownBlock = some w2.heap.size) : GrowL B T w3 v' (L ++ [l]) := by
  obtain ⟨vs', g, h1, h2, ch⟩ := h
  have hvs : vs' = vs := by
    rcases h1.2 with ⟨e1, e2⟩ | ⟨g1, cap1, cur1, e1, _, hh1, _, _, _, ht1⟩
    · rw [e1] at h2; cases h2
    · rcases hv.2 with ⟨e2, _⟩ | ⟨g2, cap2, cur2, e2, _, hh2, _, _, _, ht2⟩
      · rw [e1] at e2; cases e2
      · rw [e1] at e2
        injection e2 with e3 _ _
        injection e3 with e3
        injection e3 with e3
        subst e3
        rw [hh1] at hh2
        injection hh2 with hh2
        injection hh2 with hh2 _
        rw [← ht1, ← ht2, hh2]
  subst hvs
  have hglt := owns_lt h1 g h2
  have s0 := x0.size
  have s1 := x1.size
  have s2 := x2.size
  have s3 := g3.size
  rw [h2] at hat g3
  have keep : ∀ lo hi v l, (g < lo ∨ hi ≤ g) → Own lo hi w2 v l → Own lo hi w3 v l := by
    intro lo hi v l hd ow
    obtain ⟨a, c, hv, q1, q2, q3⟩ := ow
    refine ⟨a, c, hv, q1, q2, ?_⟩
    rcases q3 with q3 | ⟨b, o, ha, b1, b2, hc⟩
    · exact .inl q3
    · refine .inr ⟨b, o, ha, b1, b2, fun i hi => ?_⟩
      have hb := g3.block b (World.block_lt_of_cell? _ _ (hc i hi).1) (by intro e; injection e with e; omega)
      exact ⟨(World.cell?_of_block (a := ⟨b, o + i, none⟩) hb).trans (hc i hi).1, (World.frozen?_of_block (a := ⟨b, o + i, none⟩) hb).trans (hc i hi).2⟩
  have ch1 : Chain w3 g B w.heap.size vs' L := Chain.frH keep (ch.ext (x0.trans (x1.trans x2)))
  have o3 : Own w0.heap.size w1.heap.size w3 u l := keep _ _ _ _ (.inl (by omega)) (o.ext x2)
  refine ⟨vs' ++ [u], ?_⟩
  rw [List.length_append, List.length_singleton]
  rcases hat with hat | hat
  · exact ⟨g, h3, hat, Chain.snoc (by omega) s1 (by omega) (.inl (by omega)) o3 ch1⟩
  · exact ⟨w2.heap.size, h3, hat, Chain.snoc (by omega) s1 (by omega) (.inr (by omega)) o3 (ch1.other (by omega))⟩

/-- A box of a slice is written: no text and no row lies in it. -/
theorem own_setBox {lo hi : Nat} {W : World} {v : Value} {l : List UInt8} (h : Own lo hi W v l) {B : Nat} {t : TypeId} {a : Option Addr} {n c : Nat} (b : Boxed W B t (.slice a n c)) (u : Value) : Own lo hi (W.setCell ⟨B, 0, none⟩ u) v l := by
  obtain ⟨a, c, hv, k1, k2, h3⟩ := h
  refine ⟨a, c, hv, k1, k2, ?_⟩
  rcases h3 with h3 | ⟨b', p, ha, b1, b2, hc⟩
  · exact .inl h3
  · refine .inr ⟨b', p, ha, b1, b2, fun i hi => ?_⟩
    have h1 := (hc i hi).1
    have hne : b' ≠ B := by
      rintro rfl
      unfold World.cell? at h1
      simp only at h1
      rw [show W.heap[b']? = _ from b] at h1
      rcases hp : p + i with _ | q
      · rw [hp] at h1; simp at h1
      · rw [hp] at h1; simp at h1
    have hb : (W.setCell ⟨B, 0, none⟩ u).heap[b']? = W.heap[b']? :=
      (Fr.setCell (p := ⟨B, 0, none⟩) (lo := B) (hi := B + 1) (w := W) (Nat.le_refl _) (Nat.lt_succ_self _) u).block b' (World.block_lt_of_cell? _ _ (hc i hi).1) (by omega)
    exact ⟨(World.cell?_of_block (a := ⟨b', p + i, none⟩) hb).trans (hc i hi).1, (World.frozen?_of_block (a := ⟨b', p + i, none⟩) hb).trans (hc i hi).2⟩
theorem setCell_size (W : World) (p : Addr) (u : Value) : (W.setCell p u).heap.size = W.heap.size := by simp [World.setCell]
theorem GrowL.setBox {B0 B : Nat} {T t : TypeId} {W : World} {v u : Value} {L : List (List UInt8)} (h : GrowL B0 T W v L) {a : Option Addr} {n c : Nat} (b : Boxed W B t (.slice a n c)) (ht : T ≠ t) : GrowL B0 T (W.setCell ⟨B, 0, none⟩ u) v L := by
  obtain ⟨vs, g, h1, h2, h3⟩ := h
  refine ⟨vs, g, ?_, h2, ?_⟩
  · have hlt := owns_lt h1
    obtain ⟨h4, h5⟩ := h1
    refine ⟨h4, ?_⟩
    rcases h5 with h5 | ⟨g', cap, cur, hv, hg, hh, r⟩
    · exact .inl h5
    · refine .inr ⟨g', cap, cur, hv, hg, ?_, r⟩
      have hne : g' ≠ B := by
        rintro rfl
        rw [show W.heap[g']? = _ from b] at hh
        injection hh with hh
        injection hh with _ hh
        exact ht hh.symm
      rw [(Fr.setCell (p := ⟨B, 0, none⟩) (lo := B) (hi := B + 1) (w := W) (Nat.le_refl _) (Nat.lt_succ_self _) u).block g' (hlt g' (by rw [hv]; rfl)).2 (by omega)]; exact hh
  · rw [setCell_size]
    exact Chain.frH (fun _ _ _ _ _ ow => own_setBox ow b u) h3

end Go.Proofs.YtdlobdbclgcogaaDoor
