/- Words on slices of any elements in the model's memory (the cells as values), and the law of the walk for append on a row of the call's own. No condition. -/
import Derived.Test.YtiahholgpbjjfaaDoorBase
namespace Go.Proofs.YtiahholgpbjjfaaDoor
open Go.RowKit

/-- A slice value of n elements of 'size' cells each, whose cells hold xs. -/
def Vs (w : World) (v : Value) (n size : Nat) (xs : List Value) : Prop :=
  xs.length = n * size ∧ ∃ a c, v = .slice a n c ∧ n ≤ c ∧ c ≤ maxLen ∧
    (xs = [] ∨ ∃ b o, a = some ⟨b, o, none⟩ ∧ ∀ i (h : i < xs.length), w.cell? ⟨b, o + i, none⟩ = some xs[i])

theorem Vs.ext {w w' : World} {v : Value} {n size : Nat} {xs : List Value} (h : Vs w v n size xs) (x : Ext w w') : Vs w' v n size xs := by
  obtain ⟨hl, a, c, hv, h1, h2, h3⟩ := h
  refine ⟨hl, a, c, hv, h1, h2, ?_⟩
  rcases h3 with h3 | ⟨b, o, ha, hc⟩
  · exact .inl h3
  · exact .inr ⟨b, o, ha, fun i hi => x.cell (hc i hi)⟩

theorem Vs.fr {lo hi : Nat} {w w' : World} {v : Value} {n size : Nat} {xs : List Value} (h : Vs w v n size xs) (x : Fr lo hi w w') (hd : w.heap.size ≤ lo ∨ ∀ b, (∃ o c, v = .slice (some ⟨b, o, none⟩) n c) → b < lo ∨ hi ≤ b) : Vs w' v n size xs := by
  obtain ⟨hl, a, c, hv, h1, h2, h3⟩ := h
  refine ⟨hl, a, c, hv, h1, h2, ?_⟩
  rcases h3 with h3 | ⟨b, o, ha, hc⟩
  · exact .inl h3
  · refine .inr ⟨b, o, ha, fun i hi' => ?_⟩
    have hb := World.block_lt_of_cell? w _ (hc i hi')
    have hk := x.block b hb (by
      rcases hd with hd | hd
      · exact .inl (by simp only at hb; omega)
      · exact hd b ⟨o, c, by rw [hv, ha]⟩)
    exact (World.cell?_of_block (a := ⟨b, o + i, none⟩) hk).trans (hc i hi')

theorem Vs.nil (w : World) (size : Nat) : Vs w (.slice none 0 0) 0 size [] := ⟨by simp, none, 0, rfl, Nat.le_refl _, Nat.zero_le _, .inl rfl⟩

/-- How the value stands: either nothing is in it, or its cells lie at a place. -/
theorem Vs.shape {w : World} {v : Value} {n size : Nat} {xs : List Value} (h : Vs w v n size xs) (hs : 0 < size) : (n = 0 ∧ xs = [] ∧ ∃ a c, v = .slice a 0 c ∧ c ≤ maxLen) ∨
    ∃ b o c, v = .slice (some ⟨b, o, none⟩) n c ∧ n ≤ c ∧ c ≤ maxLen ∧ ∀ i (h : i < xs.length), w.cell? ⟨b, o + i, none⟩ = some xs[i] := by
  obtain ⟨hl, a, c, hv, h1, h2, h3⟩ := h
  rcases h3 with rfl | ⟨b, o, rfl, hc⟩
  · have hn : n = 0 := by
      rcases Nat.eq_zero_or_pos n with h | h
      · exact h
      · have := Nat.mul_pos h hs
        simp at hl; omega
    subst hn
    exact .inl ⟨rfl, rfl, a, c, hv, h2⟩
  · exact .inr ⟨b, o, c, hv, h1, h2, hc⟩

theorem Vs.len {w : World} {v : Value} {n size : Nat} {xs : List Value} (h : Vs w v n size xs) : n ≤ maxLen := by
  obtain ⟨_, a, c, _, h1, h2, _⟩ := h
  omega

/-- A row of the call's own, as a slice. -/
theorem vs_of_owns {B : Nat} {e : TypeId} {size : Nat} {w : World} {v : Value} {n : Nat} {xs : List Value} (h : w.ownsRow B e size v n xs) : Vs w v n size xs := by
  obtain ⟨h1, h2⟩ := h
  rcases h2 with ⟨rfl, h0⟩ | ⟨g, cap, cur, rfl, hg, hh, hn, hc, hs, ht⟩
  · subst h0
    have : xs = [] := List.eq_nil_of_length_eq_zero (by simpa using h1)
    subst this
    exact ⟨h1, none, 0, rfl, Nat.le_refl _, Nat.zero_le _, .inl rfl⟩
  · refine ⟨h1, _, cap, rfl, hn, hc, .inr ⟨g, 0, rfl, fun i hi => ?_⟩⟩
    rw [Nat.zero_add]
    have e1 : cur[i]? = some xs[i] := by
      have e2 : xs[i]? = some xs[i] := List.getElem?_eq_getElem hi
      have e3 : (cur.toList.take (n * size))[i]? = some xs[i] := by rw [ht]; exact e2
      rw [List.getElem?_take, if_pos (by omega)] at e3
      simpa using e3
    simp [World.cell?, hh, e1]

theorem owns_lt {B : Nat} {e : TypeId} {size : Nat} {w : World} {v : Value} {n : Nat} {xs : List Value} (h : w.ownsRow B e size v n xs) : ∀ k, v.ownBlock = some k → B ≤ k ∧ k < w.heap.size := by
  intro k hk
  rcases h.2 with ⟨rfl, _⟩ | ⟨g, cap, cur, rfl, hg, hh, _⟩
  · cases hk
  · have : g = k := by simpa [Value.ownBlock] using hk
    subst this
    refine ⟨hg, ?_⟩
    rcases Nat.lt_or_ge g w.heap.size with h' | h'
    · exact h'
    · simp [Array.getElem?_eq_none h'] at hh

theorem owns_keep {B : Nat} {e : TypeId} {size : Nat} {w w' : World} {v : Value} {n : Nat} {xs : List Value} (h : w.ownsRow B e size v n xs) (x : Ext w w') : w'.ownsRow B e size v n xs := by
  have hlt := owns_lt h
  obtain ⟨h1, h2⟩ := h
  refine ⟨h1, ?_⟩
  rcases h2 with h2 | ⟨g, cap, cur, hv, hg, hh, r⟩
  · exact .inl h2
  · refine .inr ⟨g, cap, cur, hv, hg, ?_, r⟩
    rw [x.block (hlt g (by rw [hv]; rfl)).2]; exact hh

theorem owns_frame {B : Nat} {e : TypeId} {size : Nat} {w w' : World} {v : Value} {n : Nat} {xs : List Value} (h : w.ownsRow B e size v n xs) (hg : w.grownBy w' v.ownBlock) : Fr B w.heap.size w w' :=
  ⟨hg.os, hg.tape, hg.output, hg.size, fun k hk ho => hg.block k hk (fun e => by have := owns_lt h k e.symm; omega)⟩

theorem owns_grown {B : Nat} {e : TypeId} {size : Nat} {w w' : World} {v : Value} {n : Nat} {xs : List Value} (h : w.ownsRow B e size v n xs) (hg : w.grownBy w' v.ownBlock) (hB : B ≤ w.heap.size) {W : World} {B' : Nat} (hw : Below B' W w) (hb : B' ≤ B) : Below B' W w' :=
  hw.grown hg (by omega) (fun k hk => by have := owns_lt h k hk; omega)

/-- A row of other elements is left as it was when this one grows. -/
theorem owns_apart {B B' : Nat} {e e' : TypeId} {size size' : Nat} {w w' : World} {v v' : Value} {n n' : Nat} {xs xs' : List Value} (h : w.ownsRow B e size v n xs) (h' : w.ownsRow B' e' size' v' n' xs') (he : e ≠ e') (hg : w.grownBy w' v.ownBlock) : w'.ownsRow B' e' size' v' n' xs' := by
  have hlt := owns_lt h'
  obtain ⟨h1, h2⟩ := h'
  refine ⟨h1, ?_⟩
  rcases h2 with h2 | ⟨g, cap, cur, hv, hgb, hh, r⟩
  · exact .inl h2
  · refine .inr ⟨g, cap, cur, hv, hgb, ?_, r⟩
    rw [hg.block g (hlt g (by rw [hv]; rfl)).2 ?_]
    · exact hh
    · intro e1
      rcases h.2 with ⟨rfl, _⟩ | ⟨g2, cap2, cur2, rfl, _, hh2, _⟩
      · cases e1
      · have : g2 = g := (by simpa [Value.ownBlock] using e1 : g = g2).symm
        subst this
        rw [hh2] at hh
        injection hh with hh
        injection hh with _ hh
        exact he hh

theorem owns_empty (B : Nat) (e : TypeId) (size : Nat) (w : World) (hB : B ≤ w.heap.size) : (w.alloc (.cells #[] e)).ownsRow B e size (.slice (some ⟨w.heap.size, 0, none⟩) 0 0) 0 [] := by
  refine ⟨by simp, .inr ⟨w.heap.size, 0, #[], rfl, hB, ?_, Nat.le_refl _, Nat.zero_le _, by simp, by simp⟩⟩
  show (w.heap.push _)[w.heap.size]? = _
  simp

/-- 'append(v, news...)', v a row of the call's own, news at a known place. -/
theorem wpList_appendV {P : Program} {ops : Array Oper} {rest : List Oper} {o : Oper} {a : Act} {Q : Exit → Act → World → Prop} {w : World}
    (hw : Region.wanted o (yielded ops a.tmps) = true) (t : TypeId) (x y : Operand) (hop : o.op = Op.call { callee := .builtin .append, args := #[x, y], argTypes := #[t, t] })
    (e : TypeId) (size bytes : Nat) (z : Value) (ht : P.underlying t = some (.slice e)) (hinfo : (P.info? e).map (fun i => (i.zero, i.size, i.bytes)) = some (some z, size, bytes)) (hzs : z.cells.size = size) (hsz : 0 < size)
    (B : Nat) (v : Value) (n : Nat) (xs : List Value) (hx : a.eval x = v) (hv : w.ownsRow B e size v n xs) (ad : Addr) (m c : Nat) (news : List Value) (hy : a.eval y = .slice (some ad) m c) (hl : news.length = m * size)
    (hnews : ∀ j u, news[j]? = some u → w.cell? (ad.add j) = some u) (h1 : ∀ u ∈ news, u.oneCell' = true) (hlen : (n + m) * bytes ≤ 140737488355328) (hlen2 : n + m ≤ 140737488355328) (hB : B ≤ w.heap.size)
    (hK : ∀ v' w', w'.ownsRow B e size v' (n + m) (xs ++ news) → w.grownBy w' v.ownBlock → wpList P ops Q rest (a.put o.dst v') w') : wpList P ops Q (o :: rest) a w := by
  refine wpList_step fun K hK' => ?_
  rw [if_pos hw]
  obtain ⟨i, hi, hzz⟩ := Option.map_eq_some_iff.1 hinfo
  simp only [Prod.mk.injEq] at hzz
  obtain ⟨hz, hs, hby⟩ := hzz
  obtain ⟨v', w', hr, h2, h3, _⟩ := run_append_own (P := P) w B t o.type e i z size bytes ht hi hz hs hby hzs hsz v n xs hv ad m c news hl hnews h1 (by unfold maxLen; omega) hlen hB
  unfold Oper.wp execOp
  simp only [hop, resolve, invoke, builtin, Sem.run_bind, Sem.run_pure, Result.andThen_ok, List.map_toArray, List.map_cons, List.map_nil, hx, hy, hr]
  exact hK' _ _ (hK v' w' h2 h3)

/-- The cells of a new row. -/
theorem news_alloc (w : World) (news : List Value) (e : TypeId) : ∀ j u, news[j]? = some u → (w.alloc (.cells news.toArray e)).cell? ((⟨w.heap.size, 0, none⟩ : Addr).add j) = some u := by
  intro j u hu
  rw [Addr.add_lit, Nat.zero_add, World.cell?_alloc_mark]
  simpa using hu

/-- A slice of runes. -/
def Is (w : World) (v : Value) (rs : List Int) : Prop := Vs w v rs.length 1 (rs.map (Value.int .i32))
theorem Is.ext {w w' : World} {v : Value} {rs : List Int} (h : Is w v rs) (x : Ext w w') : Is w' v rs := Vs.ext h x
theorem Is.shape {w : World} {v : Value} {rs : List Int} (h : Is w v rs) : (rs = [] ∧ ∃ a c, v = .slice a 0 c ∧ c ≤ maxLen) ∨
    ∃ b o c, v = .slice (some ⟨b, o, none⟩) rs.length c ∧ rs.length ≤ c ∧ c ≤ maxLen ∧ ∀ i (h : i < rs.length), w.cell? ⟨b, o + i, none⟩ = some (.int .i32 rs[i]) := by
  rcases Vs.shape h (by omega) with ⟨h0, _, a, c, hv, hc⟩ | ⟨b, o, c, hv, h1, h2, hc⟩
  · have : rs = [] := List.eq_nil_of_length_eq_zero h0
    exact .inl ⟨this, a, c, hv, hc⟩
  · refine .inr ⟨b, o, c, hv, h1, h2, fun i hi => ?_⟩
    have := hc i (by simpa using hi)
    simpa using this
theorem Is.raw {w : World} {v : Value} {rs : List Int} (h : Is w v rs) : ∃ a c, v = .slice a rs.length c ∧ rs.length ≤ c ∧ c ≤ maxLen ∧ ∀ i (h : i < rs.length), ∃ b o, a = some ⟨b, o, none⟩ ∧ w.cell? ⟨b, o + i, none⟩ = some (.int .i32 rs[i]) := by
  rcases h.shape with ⟨rfl, a, c, rfl, hc⟩ | ⟨b, o, c, rfl, h1, h2, hc⟩
  · exact ⟨a, c, rfl, Nat.zero_le _, hc, fun i hi => by simp at hi⟩
  · exact ⟨_, c, rfl, h1, h2, fun i hi => ⟨b, o, rfl, hc i hi⟩⟩
theorem Is.len {w : World} {v : Value} {rs : List Int} (h : Is w v rs) : rs.length ≤ maxLen := Vs.len h

/-- Does a code point satisfy a test? -/
def holdsT (rs : List Int) (nt : Bool) (r : Int) : Bool := if r ∈ rs then !nt else nt

theorem mem_take_succ {rs : List Int} {j : Nat} (hj : j < rs.length) {r : Int} : r ∈ rs.take (j + 1) ↔ r ∈ rs.take j ∨ r = rs[j] := by
  rw [List.take_succ_eq_append_getElem hj, List.mem_append, List.mem_singleton]
end Go.Proofs.YtiahholgpbjjfaaDoor
