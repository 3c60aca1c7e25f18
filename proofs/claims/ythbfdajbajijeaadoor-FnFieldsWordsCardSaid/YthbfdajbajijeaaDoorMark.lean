/- The conversion of a row of bytes to its own type ('[]byte' of a constant): it marks the row; no cell turns. No condition. Taken out of MonoC by hand. -/
import Derived.Test.YthbfdajbajijeaaDoorBase
namespace Go.Proofs.YthbfdajbajijeaaDoor
open Go.RowKit

/-- Cells stay, blocks below N stay; there may be more. -/
structure Rc (N : Nat) (a b : World) : Prop where
  below : Below N a b
  cell : ∀ p v, a.cell? p = some v → b.cell? p = some v
theorem Rc.refl (N : Nat) (w : World) : Rc N w w := ⟨Below.refl _ _, fun _ _ h => h⟩
theorem Rc.trans {N : Nat} {a b c : World} (h : Rc N a b) (k : Rc N b c) : Rc N a c := ⟨h.below.trans k.below, fun p v hp => k.cell p v (h.cell p v hp)⟩
theorem Rc.ext {N : Nat} {a b : World} (x : Ext a b) (h : N ≤ a.heap.size) : Rc N a b := ⟨x.below.mono h, fun _ _ hp => x.cell hp⟩
theorem Rc.drew (N : Nat) (w : World) : Rc N w { w with drawn := w.drawn + 1 } := ⟨⟨rfl, rfl, rfl, Nat.le_refl _, fun _ _ => rfl⟩, fun _ _ h => h⟩
theorem Bs.rc {N : Nat} {a b : World} {v : Value} {l : List UInt8} (h : Bs a v l) (x : Rc N a b) : Bs b v l := by
  obtain ⟨ad, c, hv, h1, h2, h3⟩ := h
  refine ⟨ad, c, hv, h1, h2, ?_⟩
  rcases h3 with h3 | ⟨k, o, ha, hc⟩
  · exact .inl h3
  · exact .inr ⟨k, o, ha, fun i hi => x.cell _ _ (hc i hi)⟩
/-- '[]byte("..")' of a constant: the conversion of the row to its own type marks it; no cell turns. -/
theorem run_mark {P : Program} (W : World) (t e : TypeId) (ht : P.underlying t = some (.slice e)) (he : P.underlying e = some (.int .u8)) (k n c : Nat) :
    ∃ W', (convert t t (.slice (some ⟨k, 0, none⟩) n c)).run P W = .ok (.slice (some ⟨k, 0, none⟩) n c) W' ∧ ∀ N, N ≤ k → Rc N W W' := by
  have hfr : ∀ a : Addr, ∀ N, N ≤ a.block → Rc N W (W.freeze a 1) := by
    intro a N hN
    refine ⟨⟨rfl, rfl, rfl, by simp [World.freeze], fun i hi => ?_⟩, fun p v hp => ?_⟩
    · simp only [World.freeze, Nat.one_ne_zero, if_false, Array.getElem?_modify]
      rw [if_neg (by omega)]
    · unfold World.cell? at hp ⊢
      simp only [World.freeze, Nat.one_ne_zero, if_false, Array.getElem?_modify]
      by_cases hb : a.block = p.block
      · rw [if_pos hb]
        cases hh : W.heap[p.block]? with
        | none => rw [hh] at hp; cases hp
        | some o =>
          rw [hh] at hp
          cases o <;> first | (cases hp; done) | exact hp
      · rw [if_neg hb]; exact hp
  cases hs : W.shape? k with
  | none =>
    refine ⟨W, ?_, fun N _ => Rc.refl _ _⟩
    simp [convert, run_underlying ht, run_underlying he, markStringish, hs]
  | some x =>
    obtain ⟨y, m⟩ := x
    refine ⟨W.freeze ⟨k, m, none⟩ 1, ?_, fun N hN => hfr _ N hN⟩
    simp [convert, run_underlying ht, run_underlying he, markStringish, hs]

theorem wpList_mark {P : Program} {ops : Array Oper} {rest : List Oper} {o : Oper} {a : Act} {Q : Exit → Act → World → Prop} {w : World}
    (hw : Region.wanted o (yielded ops a.tmps) = true) (t e : TypeId) (x : Operand) (hop : o.op = Op.convert t t x) (ht : P.underlying t = some (.slice e)) (he : P.underlying e = some (.int .u8))
    (k n c : Nat) (hx : a.eval x = .slice (some ⟨k, 0, none⟩) n c)
    (hK : ∀ w', (∀ N, N ≤ k → Rc N w w') → wpList P ops Q rest (a.put o.dst (.slice (some ⟨k, 0, none⟩) n c)) w') : wpList P ops Q (o :: rest) a w := by
  refine wpList_step fun K hK' => ?_
  rw [if_pos hw]
  obtain ⟨W', hr, hc⟩ := run_mark w t e ht he k n c
  unfold Oper.wp
  simp [execOp, hop, hx, hr, Result.andThen]
  exact hK' _ _ (hK W' hc)

/-- A row of two bytes. -/
theorem Bs.two (w : World) (e : TypeId) (x y : UInt8) : Bs (w.alloc (.cells #[.int .u8 (x.toNat : Int), .int .u8 (y.toNat : Int)] e)) (.slice (some ⟨w.heap.size, 0, none⟩) 2 2) [x, y] := by
  refine ⟨_, 2, rfl, Nat.le_refl _, by unfold maxLen; omega, .inr ⟨w.heap.size, 0, rfl, fun i hi => ?_⟩⟩
  have h0 : i = 0 ∨ i = 1 := by simp at hi; omega
  rcases h0 with rfl | rfl <;> (rw [World.cell?_alloc_mark]; rfl)
end Go.Proofs.YthbfdajbajijeaaDoor
