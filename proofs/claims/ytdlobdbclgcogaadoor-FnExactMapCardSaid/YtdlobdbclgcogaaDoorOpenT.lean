/- A table that is an argument: a struct of one slice, whose elements are rows of two numbers of 32 bits. No condition. -/
import Derived.Test.YtdlobdbclgcogaaDoorOpenR3
import Derived.Test.YtdlobdbclgcogaaDoorTable
import Derived.Deep.SlicePairs
namespace Go.Proofs.YtdlobdbclgcogaaDoor
open Go.ChangeShapes Go.WideShapes Go.ChangeAt Go.RowKit Go.Shelf

theorem open_agg1 {H : Type} {enc : TypeId × Value → H} {P : Program} {W : World} {r : Reach} {b0 : Nat} {t : TypeId} {f0 : Field} {v : Value} {d : DataW H} {p : List MemPlace} (hs : P.underlying t = some (.struct #[f0])) (o0 : f0.offset = 0) (k0 : P.cellsOf f0.type = 1) (hC : P.cellsOf t = 1)
    (hv : Value.okWide P W r b0 t v) (h : DataW.Trod enc P W 0 (fun _ => true) true t v d p) :
    ∃ (v0 : Value) (y0 : DataW H × List MemPlace) (n : Nat), v = .agg #[v0] ∧ d = .agg [y0.1] ∧ DataW.trod enc P W 0 (fun _ => true) true n f0.type [v0] = some y0 := by
  obtain ⟨cs, rfl, hsz⟩ := okWide_struct hs hv
  obtain ⟨c0, rfl⟩ : ∃ c0, cs = #[c0] := by
    rw [hC] at hsz
    obtain ⟨l⟩ := cs
    match l, hsz with
    | [c], _ => exact ⟨c, rfl⟩
  obtain ⟨fuel, hf⟩ := h
  obtain ⟨y0, n, hx, _, h0⟩ := trod_struct1 hs hf
  simp only [Prod.mk.injEq] at hx
  exact ⟨c0, y0, n, rfl, hx.1, by simpa [Value.cells, o0, k0] using h0⟩

/-- The number of a value. -/
def numV : Value → Int
  | .int _ n => n
  | _ => 0

theorem open_rows_cs {H : Type} {enc : TypeId × Value → H} {P : Program} {W : World} {t e : TypeId} {f0 f1 : Field} {v : Value} {fuel : Nat} {x : DataW H × List MemPlace}
    (ht : P.underlying t = some (.slice e)) (he : P.underlying e = some (.struct #[f0, f1])) (ce : P.cellsOf e = 2) (o0 : f0.offset = 0) (o1 : f1.offset = 1) (c0 : P.cellsOf f0.type = 1) (c1 : P.cellsOf f1.type = 1)
    (u0 : P.underlying f0.type = some (.int .i32)) (u1 : P.underlying f1.type = some (.int .i32))
    (hf : DataW.trod enc P W 0 (fun _ => true) true fuel t [v] = some x) : ∃ rows, Ts W v rows ∧ In32 (rows.map Prod.snd) := by
  rcases Go.Deep.open_slice_pairs ht he ce o0 o1 c0 c1 hf with ⟨hcs, _⟩ | ⟨a, len, cap, m, n, V0, V1, D0, D1, P0, P1, hcs, _, hl, hm, hmm, _, hx⟩
  · simp at hcs
    subst hcs
    exact ⟨[], Vs.nil W 2, fun r hr => by cases hr⟩
  · simp at hcs
    subst hcs
    have hmc : m = cap := by simpa using hmm
    subst hmc
    have each : ∀ i, i < len → V0 i = .int .i32 (numV (V0 i)) ∧ V1 i = .int .i32 (numV (V1 i)) ∧ -2147483648 ≤ numV (V1 i) ∧ numV (V1 i) ≤ 2147483647 := by
      intro i hi
      obtain ⟨_, _, h0, h1⟩ := hx i (by omega)
      obtain ⟨n0, e0, _, _⟩ := DataW.trod_int u0 h0
      obtain ⟨n1, e1, _, w1⟩ := DataW.trod_int u1 h1
      simp at e0 e1
      rw [e0, e1]
      refine ⟨rfl, rfl, ?_⟩
      simp only [Lit.wf, Bool.and_eq_true, decide_eq_true_eq] at w1
      exact w1
    obtain ⟨rows, hrows⟩ : ∃ rows, rows = (List.range len).map (fun i => (numV (V0 i), numV (V1 i))) := ⟨_, rfl⟩
    have hrl : rows.length = len := by rw [hrows]; simp
    have hrg : ∀ i (h : i < rows.length), rows[i] = (numV (V0 i), numV (V1 i)) := by
      intro i h
      subst hrows
      simp
    refine ⟨rows, ⟨tcells_length _, some a, m, by rw [hrl], by omega, hm, ?_⟩, ?_⟩
    · by_cases h0 : len = 0
      · left
        have : rows = [] := List.eq_nil_of_length_eq_zero (by omega)
        rw [this]; rfl
      right
      obtain ⟨b, off, spot⟩ := a
      have hc0 := (hx 0 (by omega)).1
      have hspot : spot = none := by simpa [Addr.add] using World.cell?_spot hc0
      subst hspot
      refine ⟨b, off, rfl, fun i hi => ?_⟩
      have htl := tcells_length rows
      have hq : i / 2 < rows.length := by omega
      have hg := tcells_get rows (i / 2) hq
      have hx2 := hx (i / 2) (by omega)
      have hv := each (i / 2) (by omega)
      rw [hrg _ hq] at hg
      rcases Nat.mod_two_eq_zero_or_one i with hi0 | hi1
      · have e : i = i / 2 * 2 := by omega
        have g1 := hg.1
        rw [← e, List.getElem?_eq_getElem hi] at g1
        have k1 := hx2.1
        rw [Addr.add_lit, ← e] at k1
        rw [k1, hv.1, Option.some.inj g1]
      · have e : i = i / 2 * 2 + 1 := by omega
        have g1 := hg.2
        rw [← e, List.getElem?_eq_getElem hi] at g1
        have k1 := hx2.2.1
        rw [Addr.add_lit, ← e] at k1
        rw [k1, hv.2.1, Option.some.inj g1]
    · intro r hr
      obtain ⟨y, hy, rfl⟩ := List.mem_map.1 hr
      subst hrows
      obtain ⟨i, hi, rfl⟩ := List.mem_map.1 hy
      exact (each i (List.mem_range.1 hi)).2.2

set_option maxRecDepth 100000 in
theorem open_table {H : Type} {enc : TypeId × Value → H} {W : World} {r : Reach} {b0 : Nat} {v : Value} {d : DataW H} {p : List MemPlace}
    (hv : Value.okWide Tryd.prog W r b0 50 v) (h : DataW.Trod enc Tryd.prog W 0 (fun _ => true) true 50 v d p) : ∃ v' rows, v = .agg #[v'] ∧ Ts W v' rows ∧ In32 (rows.map Prod.snd) := by
  obtain ⟨v0, y0, n, rfl, _, h0⟩ := open_agg1 Tryd.underlying50 rfl (by kernel_rfl) (by kernel_rfl) hv h
  obtain ⟨rows, h1, h2⟩ := open_rows_cs Tryd.underlying48 Tryd.underlying92 (by kernel_rfl) rfl rfl (by kernel_rfl) (by kernel_rfl) Tryd.underlying21 Tryd.underlying21 h0
  exact ⟨v0, rows, rfl, h1, h2⟩

/-- What a table gives a code point is a number of 32 bits. -/
theorem table_le : ∀ {rows : List (Int × Int)}, In32 (rows.map Prod.snd) → ∀ r : Int, 0 ≤ r → r ≤ 1114111 → imageT rows r ≤ 2147483647
  | [], _, r, _, h => by show r ≤ _; omega
  | x :: xs, h, r, h0, h1 => by
    rw [imageT]
    split
    · exact (h x.2 (by simp)).2
    · exact table_le (fun y hy => h y (by simp at hy ⊢; exact .inr hy)) r h0 h1
end Go.Proofs.YtdlobdbclgcogaaDoor
