/- Marks on slices of slices; lists that grow by append; freshAll, copies. -/
import Derived.Test.YtiahholgpbjjfaaDoorLs
import Derived.Maps.AppendAt
import Derived.Test.YtiahholgpbjjfaaDoorBytesA
namespace Go.Proofs.YtiahholgpbjjfaaDoor
open Go.RowKit

/-- A mark's answer. -/
def RetMarkL (lo hi : Nat) (v : Value) (K : Int) (k : Nat) (L : List (List UInt8)) (w : World) (e : Ending) (w' : World) : Prop :=
  e = .returned (.int .i64 (K + (sizeL' L : Int))) ∧ OwnL lo hi w' v (marksL k L) ∧ Fr lo hi w w'



/-- 'append(v, x)', v a row of the call's own, x laid into a new block: where the new row lies. -/
theorem wpList_appendAt {P : Program} {ops : Array Oper} {rest : List Oper} {o : Oper} {a : Act} {Q : Exit → Act → World → Prop} {w : World}
    (hw : Region.wanted o (yielded ops a.tmps) = true) (t : TypeId) (x y : Operand) (hop : o.op = Op.call { callee := .builtin .append, args := #[x, y], argTypes := #[t, t] })
    (e : TypeId) (size bytes : Nat) (z : Value) (ht : P.underlying t = some (.slice e)) (hinfo : (P.info? e).map (fun i => (i.zero, i.size, i.bytes)) = some (some z, size, bytes)) (hzs : z.cells.size = size) (hsz : 0 < size)
    (B : Nat) (v : Value) (n : Nat) (xs : List Value) (hx : a.eval x = v) (hv : w.ownsRow B e size v n xs) (ad : Addr) (m c : Nat) (news : List Value) (hy : a.eval y = .slice (some ad) m c) (hl : news.length = m * size)
    (hnews : ∀ j u, news[j]? = some u → w.cell? (ad.add j) = some u) (h1 : ∀ u ∈ news, u.oneCell' = true) (hlen : (n + m) * bytes ≤ 140737488355328) (hlen2 : n + m ≤ 140737488355328) (hB : B ≤ w.heap.size)
    (hK : ∀ v' w', w'.ownsRow B e size v' (n + m) (xs ++ news) → w.grownBy w' v.ownBlock → (v'.ownBlock = v.ownBlock ∨ v'.ownBlock = some w.heap.size) → wpList P ops Q rest (a.put o.dst v') w') : wpList P ops Q (o :: rest) a w := by
  refine wpList_step fun K hK' => ?_
  rw [if_pos hw]
  obtain ⟨i, hi, hzz⟩ := Option.map_eq_some_iff.1 hinfo
  simp only [Prod.mk.injEq] at hzz
  obtain ⟨hz, hs, hby⟩ := hzz
  obtain ⟨v', w', hr, h2, h3, _, h4⟩ := run_append_own_at (P := P) (w := w) B t o.type e i z size bytes ht hi hz hs hby hzs hsz v n xs hv ad m c news hl hnews h1 (by unfold maxLen; omega) hlen hB
  unfold Oper.wp execOp
  simp only [hop, resolve, invoke, builtin, Sem.run_bind, Sem.run_pure, Result.andThen_ok, List.map_toArray, List.map_cons, List.map_nil, hx, hy, hr]
  exact hK' _ _ (hK v' w' h2 h3 h4)

/-- A list of texts that grows by append. -/
def GrowL (B : Nat) (T : TypeId) (w : World) (v : Value) (L : List (List UInt8)) : Prop :=
  ∃ vs g, w.ownsRow B T 1 v L.length vs ∧ v.ownBlock = some g ∧ Chain w g B w.heap.size vs L

theorem GrowL.start (B : Nat) (T : TypeId) (w : World) (hB : B ≤ w.heap.size) : GrowL B T (w.alloc (.cells #[] T)) (.slice (some ⟨w.heap.size, 0, none⟩) 0 0) [] :=
  ⟨[], w.heap.size, owns_empty B T 1 w hB, rfl, by show B ≤ (w.heap.push _).size; simp; omega⟩

theorem GrowL.owns {B : Nat} {T : TypeId} {w : World} {v : Value} {L : List (List UInt8)} (h : GrowL B T w v L) : ∃ vs, w.ownsRow B T 1 v L.length vs := by
  obtain ⟨vs, g, h1, _⟩ := h; exact ⟨vs, h1⟩

theorem GrowL.ext {B : Nat} {T : TypeId} {w w' : World} {v : Value} {L : List (List UInt8)} (h : GrowL B T w v L) (x : Ext w w') : GrowL B T w' v L := by
  obtain ⟨vs, g, h1, h2, h3⟩ := h
  refine ⟨vs, g, owns_keep h1 x, h2, ?_⟩
  have := h3.ext x
  exact (show Chain w' g B w'.heap.size vs L from by
    revert this
    have hs := x.size
    generalize w.heap.size = m at hs ⊢
    clear h1 h2 h3 x
    intro ch
    have : ∀ {lo : Nat} {vs : List Value} {L : List (List UInt8)}, Chain w' g lo m vs L → Chain w' g lo w'.heap.size vs L := by
      intro lo vs
      induction vs generalizing lo with
      | nil => intro L h; cases L with
        | nil => exact Nat.le_trans h hs
        | cons _ _ => exact h.elim
      | cons v vs ih => intro L h; cases L with
        | nil => exact h.elim
        | cons l L => obtain ⟨a, b, q1, q2, q3, q4, q5⟩ := h; exact ⟨a, b, q1, q2, q3, q4, ih q5⟩
    exact this ch)

/-- One text more: made in a world (w to w1), laid into a block of its own, appended. -/
theorem GrowL.snoc {B : Nat} {T : TypeId} {w w1 w3 : World} {v u v' : Value} {L : List (List UInt8)} {l : List UInt8} (h : GrowL B T w v L) (x : Ext w w1) (o : Own w.heap.size w1.heap.size w1 u l) {vs : List Value}
    (hv : w.ownsRow B T 1 v L.length vs) (h3 : w3.ownsRow B T 1 v' (L.length + 1) (vs ++ [u])) (g3 : (w1.alloc (.cells #[u] T)).grownBy w3 v.ownBlock) (hat : v'.ownBlock = v.ownBlock ∨ v'.ownBlock = some (w1.heap.size + 1)) : GrowL B T w3 v' (L ++ [l]) := by
  obtain ⟨vs', g, h1, h2, ch⟩ := h
  have hvs : vs' = vs := by
    rcases h1.2 with ⟨e1, e2⟩ | ⟨g1, cap1, cur1, e1, _, hh1, _, _, _, ht1⟩
    · rw [e1] at h2; cases h2
    · rcases hv.2 with ⟨e2, _⟩ | ⟨g2, cap2, cur2, e2, _, hh2, _, _, _, ht2⟩
      · rw [e1] at e2; cases e2
      · rw [e1] at e2
        injection e2 with e3 _ _
        injection e3 with e3
        injection e3 with e3
        subst e3
        rw [hh1] at hh2
        injection hh2 with hh2
        injection hh2 with hh2 _
        rw [← ht1, ← ht2, hh2]
  subst hvs
  have hglt := owns_lt h1 g h2
  have hs2 : (w1.alloc (.cells #[u] T)).heap.size = w1.heap.size + 1 := by simp
  have hsz := x.size
  have hs3 := g3.size
  rw [hs2] at hs3
  rw [h2] at hat g3
  have X2 : Ext w (w1.alloc (.cells #[u] T)) := x.trans (Ext.alloc _ _)
  have keep : ∀ lo hi v l, hi ≤ (w1.alloc (.cells #[u] T)).heap.size → (g < lo ∨ hi ≤ g) → Own lo hi (w1.alloc (.cells #[u] T)) v l → Own lo hi w3 v l := by
    intro lo hi v l _ hd ow
    obtain ⟨a, c, hv, q1, q2, q3⟩ := ow
    refine ⟨a, c, hv, q1, q2, ?_⟩
    rcases q3 with q3 | ⟨b, o, ha, b1, b2, hc⟩
    · exact .inl q3
    · refine .inr ⟨b, o, ha, b1, b2, fun i hi => ?_⟩
      have hb := g3.block b (World.block_lt_of_cell? _ _ (hc i hi).1) (by intro e; injection e with e; omega)
      exact ⟨(World.cell?_of_block (a := ⟨b, o + i, none⟩) hb).trans (hc i hi).1, (World.frozen?_of_block (a := ⟨b, o + i, none⟩) hb).trans (hc i hi).2⟩
  have ch1 : Chain w3 g B w.heap.size vs' L := by
    have c1 := ch.ext X2
    have : ∀ {lo : Nat} {vs : List Value} {L : List (List UInt8)}, Chain (w1.alloc (.cells #[u] T)) g lo w.heap.size vs L → Chain w3 g lo w.heap.size vs L := by
      intro lo vs
      induction vs generalizing lo with
      | nil => intro L h; cases L with
        | nil => exact h
        | cons _ _ => exact h.elim
      | cons v vs ih => intro L h; cases L with
        | nil => exact h.elim
        | cons l L =>
          obtain ⟨a, b, q1, q2, q3, q4, q5⟩ := h
          have := q5.le
          exact ⟨a, b, q1, q2, q3, keep a b _ _ (by rw [hs2]; omega) q3 q4, ih q5⟩
    exact this c1
  have o3 : Own w.heap.size w1.heap.size w3 u l := keep _ _ _ _ (by rw [hs2]; omega) (.inl hglt.2) (o.ext (Ext.alloc _ _))
  refine ⟨vs' ++ [u], ?_⟩
  rw [List.length_append, List.length_singleton]
  rcases hat with hat | hat
  · refine ⟨g, h3, hat, Chain.snoc (Nat.le_refl _) hsz ?_ (.inl hglt.2) o3 ch1⟩
    omega
  · refine ⟨w1.heap.size + 1, h3, hat, Chain.snoc (Nat.le_refl _) hsz ?_ (.inr (by omega)) o3 (ch1.other (by omega))⟩
    omega

theorem GrowL.ownL {B : Nat} {T : TypeId} {w : World} {v : Value} {L : List (List UInt8)} (h : GrowL B T w v L) : OwnL B w.heap.size w v L := by
  obtain ⟨vs, g, h1, h2, ch⟩ := h
  have hglt := owns_lt h1 g h2
  have hl := h1.1
  rcases h1.2 with ⟨e1, e2⟩ | ⟨g1, cap, cur, e1, _, hh, hn, hc, hs, ht⟩
  · rw [e1] at h2; cases h2
  · rw [e1] at h2
    have : g1 = g := by simpa [Value.ownBlock] using h2
    subst this
    refine ⟨g1, cap, vs, e1, hn, hc, hglt.1, hglt.2, fun i hi => ?_, ch⟩
    have e3 : cur[i]? = some vs[i] := by
      have e2 : vs[i]? = some vs[i] := List.getElem?_eq_getElem hi
      have e3 : (cur.toList.take (L.length * 1))[i]? = some vs[i] := by rw [ht]; exact e2
      rw [List.getElem?_take, if_pos (by omega)] at e3
      simpa using e3
    simp [World.cell?, hh, e3]

/-- A call's answer: a new list of texts. -/
def RetOwnL (w : World) (L : List (List UInt8)) (e : Ending) (w' : World) : Prop := ∃ v, e = .returned v ∧ OwnL w.heap.size w'.heap.size w' v L ∧ Ext w w'

theorem GrowL.below {B B' : Nat} {T : TypeId} {w w3 : World} {v : Value} {L : List (List UInt8)} (h : GrowL B T w v L) {W : World} {w2 : World} (hb : Below B' W w2) (g : w2.grownBy w3 v.ownBlock) (hB : B' ≤ B) (hw : B' ≤ w2.heap.size) : Below B' W w3 := by
  obtain ⟨vs, g', h1, h2, _⟩ := h
  refine hb.grown g hw (fun k hk => ?_)
  have := owns_lt h1 k hk
  omega

theorem info_bytes : (Tryd.prog.info? 25).map (fun i => (i.zero, i.size, i.bytes)) = some (some (.slice none 0 0), 1, 24) := by kernel_rfl


/-- Strings as values. -/
def svals (L : List (List UInt8)) : List Value := L.map fun l => Value.string ⟨l.toArray⟩
/-- The slice value v holds strings: the texts L. -/
def Ss (w : World) (v : Value) (L : List (List UInt8)) : Prop := Vs w v L.length 1 (svals L)
theorem Ss.ext {w w' : World} {v : Value} {L : List (List UInt8)} (h : Ss w v L) (x : Ext w w') : Ss w' v L := Vs.ext h x
theorem svals_length (L : List (List UInt8)) : (svals L).length = L.length := by simp [svals]
theorem Ss.raw {w : World} {v : Value} {L : List (List UInt8)} (h : Ss w v L) : ∃ a c, v = .slice a L.length c ∧ L.length ≤ c ∧ c ≤ maxLen ∧ ∀ i (h : i < L.length), ∃ b o, a = some ⟨b, o, none⟩ ∧ w.cell? ⟨b, o + i, none⟩ = some (.string ⟨L[i].toArray⟩) := by
  obtain ⟨hl, a, c, hv, h1, h2, h3⟩ := h
  refine ⟨a, c, hv, h1, h2, fun i hi => ?_⟩
  have hi' : i < (svals L).length := by rw [svals_length]; exact hi
  rcases h3 with h3 | ⟨b, o, ha, hc⟩
  · rw [h3] at hi'; simp at hi'
  · refine ⟨b, o, ha, ?_⟩
    rw [hc i hi']
    simp [svals]
theorem svals_one (L : List (List UInt8)) : ∀ u ∈ svals L, u.oneCell' = true := by
  intro u hu
  obtain ⟨_, _, rfl⟩ := List.mem_map.1 hu
  rfl
theorem svals_append (L M : List (List UInt8)) : svals (L ++ M) = svals L ++ svals M := by simp [svals]

end Go.Proofs.YtiahholgpbjjfaaDoor
