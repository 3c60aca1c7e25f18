/- The exact laws' helpers on slices of runes. Printed by exacti.py out of those on slices of bytes. -/
import Derived.Test.YtiahholgpbjjfaaDoorSpecR
import Derived.Test.YtiahholgpbjjfaaDoorExact
namespace Go.Proofs.YtiahholgpbjjfaaDoor
open Go.RowKit

/-- The slice value v holds the runes l. -/
def Ii (w : World) (v : Value) (l : List Int) : Prop :=
  ∃ a c, v = .slice a l.length c ∧ l.length ≤ c ∧ c ≤ maxLen ∧
    (l = [] ∨ ∃ b o, a = some ⟨b, o, none⟩ ∧ ∀ i (h : i < l.length), w.cell? ⟨b, o + i, none⟩ = some (.int .i32 l[i]))

theorem Ii.ext {w w' : World} {v : Value} {l : List Int} (h : Ii w v l) (x : Ext w w') : Ii w' v l := by
  obtain ⟨a, c, hv, h1, h2, h3⟩ := h
  refine ⟨a, c, hv, h1, h2, ?_⟩
  rcases h3 with h3 | ⟨b, o, ha, hc⟩
  · exact .inl h3
  · exact .inr ⟨b, o, ha, fun i hi => x.cell (hc i hi)⟩

theorem Ii.nil (w : World) : Ii w (.slice none 0 0) [] := ⟨none, 0, rfl, Nat.le_refl _, Nat.zero_le _, .inl rfl⟩

/-- The slice value v holds the runes l, in a block of its own from 'lo' up to 'hi', which may be written. -/
def OwnI (lo hi : Nat) (w : World) (v : Value) (l : List Int) : Prop :=
  ∃ a c, v = .slice a l.length c ∧ l.length ≤ c ∧ c ≤ maxLen ∧
    (l = [] ∨ ∃ b o, a = some ⟨b, o, none⟩ ∧ lo ≤ b ∧ b < hi ∧ ∀ i (h : i < l.length), w.cell? ⟨b, o + i, none⟩ = some (.int .i32 l[i]) ∧ w.frozen? ⟨b, o + i, none⟩ = false)

theorem OwnI.bs {lo hi : Nat} {w : World} {v : Value} {l : List Int} (h : OwnI lo hi w v l) : Ii w v l := by
  obtain ⟨a, c, hv, h1, h2, h3⟩ := h
  refine ⟨a, c, hv, h1, h2, ?_⟩
  rcases h3 with h3 | ⟨b, o, ha, _, _, hc⟩
  · exact .inl h3
  · exact .inr ⟨b, o, ha, fun i hi => (hc i hi).1⟩

theorem OwnI.mono {lo hi lo' hi' : Nat} {w : World} {v : Value} {l : List Int} (h : OwnI lo hi w v l) (h1 : lo' ≤ lo) (h2 : hi ≤ hi') : OwnI lo' hi' w v l := by
  obtain ⟨a, c, hv, k1, k2, h3⟩ := h
  refine ⟨a, c, hv, k1, k2, ?_⟩
  rcases h3 with h3 | ⟨b, o, ha, b1, b2, hc⟩
  · exact .inl h3
  · exact .inr ⟨b, o, ha, by omega, by omega, hc⟩

theorem OwnI.fr {lo hi lo' hi' : Nat} {w w' : World} {v : Value} {l : List Int} (h : OwnI lo hi w v l) (x : Fr lo' hi' w w') (hd : hi ≤ lo' ∨ hi' ≤ lo) : OwnI lo hi w' v l := by
  obtain ⟨a, c, hv, k1, k2, h3⟩ := h
  refine ⟨a, c, hv, k1, k2, ?_⟩
  rcases h3 with h3 | ⟨b, o, ha, b1, b2, hc⟩
  · exact .inl h3
  · refine .inr ⟨b, o, ha, b1, b2, fun i hi => ?_⟩
    have hb := x.block b (World.block_lt_of_cell? w _ (hc i hi).1) (by omega)
    exact ⟨(World.cell?_of_block (a := ⟨b, o + i, none⟩) hb).trans (hc i hi).1, (World.frozen?_of_block (a := ⟨b, o + i, none⟩) hb).trans (hc i hi).2⟩

theorem OwnI.ext {lo hi : Nat} {w w' : World} {v : Value} {l : List Int} (h : OwnI lo hi w v l) (x : Ext w w') : OwnI lo hi w' v l :=
  (h.fr (x.fr hi hi) (.inl (Nat.le_refl _)))


/-- The cells of a list of runes. -/
def icells (l : List Int) : List Value := l.map fun b => Value.int .i32 b

theorem icells_length (l : List Int) : (icells l).length = l.length := by simp [icells]

/-- Block g is a row of just these bytes, and may be written. -/
def RowI (w : World) (g : Nat) (l : List Int) : Prop := ∃ e, w.heap[g]? = some (.cells (icells l).toArray e (0, 0))

theorem RowI.cell {w : World} {g : Nat} {l : List Int} (h : RowI w g l) (i : Nat) (hi : i < l.length) : w.cell? ⟨g, i, none⟩ = some (.int .i32 l[i]) := by
  obtain ⟨e, h⟩ := h
  simp [World.cell?, h, icells, hi]

theorem RowI.frozen {w : World} {g : Nat} {l : List Int} (h : RowI w g l) (i : Nat) : w.frozen? ⟨g, i, none⟩ = false := by
  obtain ⟨e, h⟩ := h
  simp [World.frozen?, h]

theorem RowI.lt {w : World} {g : Nat} {l : List Int} (h : RowI w g l) : g < w.heap.size := by
  obtain ⟨e, h⟩ := h
  rcases Nat.lt_or_ge g w.heap.size with h' | h'
  · exact h'
  · simp [Array.getElem?_eq_none h'] at h

theorem RowI.ext {w w' : World} {g : Nat} {l : List Int} (h : RowI w g l) (x : Ext w w') : RowI w' g l := by
  have hl := h.lt
  obtain ⟨e, h⟩ := h
  exact ⟨e, (x.block hl).trans h⟩

theorem RowI.fr {lo hi : Nat} {w w' : World} {g : Nat} {l : List Int} (h : RowI w g l) (x : Fr lo hi w w') (hd : g < lo ∨ hi ≤ g) : RowI w' g l := by
  have hl := h.lt
  obtain ⟨e, h⟩ := h
  exact ⟨e, (x.block g hl hd).trans h⟩

theorem RowI.set {w : World} {g : Nat} {l : List Int} (h : RowI w g l) (i : Nat) (b : Int) : RowI (w.setCell ⟨g, i, none⟩ (.int .i32 b)) g (l.set i b) := by
  obtain ⟨e, h⟩ := h
  refine ⟨e, ?_⟩
  simp only [World.setCell, Array.getElem?_modify, if_true, h, Option.map_some]
  simp [icells, List.map_set]

theorem RowI.own {w : World} {g : Nat} {l : List Int} {lo hi : Nat} (h : RowI w g l) (h1 : lo ≤ g) (h2 : g < hi) (c : Nat) (hc : l.length ≤ c) (hm : c ≤ maxLen) : OwnI lo hi w (.slice (some ⟨g, 0, none⟩) l.length c) l :=
  ⟨_, c, rfl, hc, hm, .inr ⟨g, 0, rfl, h1, h2, fun i hi => by rw [Nat.zero_add]; exact ⟨h.cell i hi, h.frozen i⟩⟩⟩

theorem madeCells_ints (n : Nat) : madeCells #[.int .i32 0] n = (icells (List.replicate n 0)).toArray := by
  apply Array.ext
  · simp [madeCells, icells]
  · intro i h1 h2
    simp [madeCells, icells, Nat.mod_one]

/-- 'make([]byte, n)'. -/
theorem wpList_mkInts {P : Program} {ops : Array Oper} {rest : List Oper} {o : Oper} {a : Act} {Q : Exit → Act → World → Prop} {w : World}
    (hw : Region.wanted o (yielded ops a.tmps) = true) (t : TypeId) (x y : Operand) (hop : o.op = Op.makeSlice t x y)
    (e : TypeId) (ht : P.underlying t = some (.slice e)) (hinfo : (P.info? e).map (fun i => (i.zero, i.size, i.bytes)) = some (some (.int .i32 0), 1, 4))
    (n : Nat) (kl kc : IntKind) (hx : a.eval x = .int kl (n : Int)) (hy : a.eval y = .int kc (n : Int)) (hn : n ≤ 70368744177664)
    (hK : ∀ w', RowI w' w.heap.size (List.replicate n 0) → Ext w w' → w'.heap.size = w.heap.size + 1 → wpList P ops Q rest (a.put o.dst (.slice (some ⟨w.heap.size, 0, none⟩) n n)) w') :
    wpList P ops Q (o :: rest) a w := by
  refine wpList_step fun K hK' => ?_
  rw [if_pos hw]
  have hrun := run_make_row' (P := P) t e (.int .i32 0) 4 ht hinfo rfl kl kc n (by omega) (by omega) w
  unfold Oper.wp
  simp [execOp, hop, hx, hy, hrun, Result.andThen]
  refine hK' _ _ (hK _ ⟨e, ?_⟩ (Ext.alloc _ _) (by simp))
  rw [heap_alloc_new, madeCells_ints]

/-- A call's answer: a new slice of the runes l. -/
def RetOwnI (w : World) (l : List Int) (e : Ending) (w' : World) : Prop := ∃ v, e = .returned v ∧ OwnI w.heap.size w'.heap.size w' v l ∧ Ext w w'

/-- What has been copied so far. -/
theorem copied_stepI (l : List Int) (j : Nat) (hj : j < l.length) : ((l.take j ++ List.replicate (l.length - j) 0).set j l[j]) = l.take (j + 1) ++ List.replicate (l.length - (j + 1)) 0 := by
  have e : l.length - j = (l.length - (j + 1)) + 1 := by omega
  rw [e, List.replicate_succ, List.set_append_right _ _ (by simp; omega)]
  simp only [List.length_take, Nat.min_eq_left (Nat.le_of_lt hj), Nat.sub_self, List.set_cons_zero]
  rw [List.take_succ_eq_append_getElem hj, List.append_assoc]
  simp




theorem Ii.is {w : World} {v : Value} {l : List Int} (h : Ii w v l) : Is w v l := by
  obtain ⟨a, c, hv, h1, h2, h3⟩ := h
  refine ⟨by simp, a, c, hv, h1, h2, ?_⟩
  rcases h3 with rfl | ⟨b, o, ha, hc⟩
  · exact .inl rfl
  · refine .inr ⟨b, o, ha, fun i hi => ?_⟩
    have hi' : i < l.length := by simpa using hi
    rw [hc i hi']
    simp
theorem Is.ii {w : World} {v : Value} {l : List Int} (h : Is w v l) : Ii w v l := by
  rcases h.shape with ⟨rfl, a, c, hv, hc⟩ | ⟨b, o, c, hv, h1, h2, hc⟩
  · exact ⟨a, c, hv, Nat.zero_le _, hc, .inl rfl⟩
  · exact ⟨_, c, hv, h1, h2, .inr ⟨b, o, rfl, hc⟩⟩

theorem alloc3_heap (w : World) (A B C : Obj) : (((w.alloc A).alloc B).alloc C).heap[w.heap.size]? = some A ∧ (((w.alloc A).alloc B).alloc C).heap[w.heap.size + 1]? = some B ∧
    (((w.alloc A).alloc B).alloc C).heap[w.heap.size + 1 + 1]? = some C ∧ (((w.alloc A).alloc B).alloc C).heap.size = w.heap.size + 3 := by
  show (((w.heap.push A).push B).push C)[w.heap.size]? = some A ∧ (((w.heap.push A).push B).push C)[w.heap.size + 1]? = some B ∧ (((w.heap.push A).push B).push C)[w.heap.size + 1 + 1]? = some C ∧ (((w.heap.push A).push B).push C).size = _
  generalize w.heap = h
  refine ⟨?_, ?_, ?_, ?_⟩
  · rw [Array.getElem?_push, if_neg (by simp; omega), Array.getElem?_push, if_neg (by simp), Array.getElem?_push, if_pos rfl]
  · rw [Array.getElem?_push, if_neg (by simp), Array.getElem?_push, if_pos (by simp)]
  · rw [Array.getElem?_push, if_pos (by simp)]
  · simp

end Go.Proofs.YtiahholgpbjjfaaDoor
