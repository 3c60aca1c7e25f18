/- A slice of code points that is an argument: its numbers are 32-bit ones. No condition. -/
import Derived.Test.YtdlobdbclgcogaaDoorOpenR2
namespace Go.Proofs.YtdlobdbclgcogaaDoor
open Go.ChangeShapes Go.WideShapes Go.ChangeAt Go.RowKit Go.Shelf

/-- Numbers of 32 bits. -/
def In32 (rs : List Int) : Prop := ∀ r ∈ rs, -2147483648 ≤ r ∧ r ≤ 2147483647

theorem open_runes_rng {H : Type} {enc : TypeId × Value → H} {P : Program} {W : World} {r : Reach} {b0 : Nat} {t e : TypeId} {v : Value} {d : DataW H} {p : List MemPlace}
    (ht : P.underlying t = some (.slice e)) (he : P.underlying e = some (.int .i32)) (hc : P.cellsOf e = 1) (hv : Value.okWide P W r b0 t v)
    (h : DataW.Trod enc P W 0 (fun _ => true) true t v d p) : ∃ rs, Is W v rs ∧ LenOf d rs.length ∧ In32 rs := by
  obtain ⟨rs, hi, hl⟩ := open_runes_len ht he hc hv h
  refine ⟨rs, hi, hl, ?_⟩
  obtain ⟨a0, len, cap, rfl⟩ := okWide_slice ht hv
  obtain ⟨fuel, hf⟩ := h
  replace hf : DataW.trod enc P W 0 (fun _ => true) true fuel t [.slice a0 len cap] = some (d, p) := by simpa [Value.cells] using hf
  obtain ⟨a, c, hv2, _, _, hcell⟩ := hi.raw
  injection hv2 with e1 e2 e3
  subst e1 e2 e3
  intro x hx
  obtain ⟨i, hi2, rfl⟩ := List.getElem_of_mem hx
  obtain ⟨b, o, rfl, hb⟩ := hcell i hi2
  rcases open_ints ht he hc hf with ⟨hcs, _⟩ | ⟨y, l2, c2, zs, hcs, _, hl2, hm, hz, hx2, hc2, hwz⟩
  · simp at hcs
  · simp only [List.cons.injEq, Value.slice.injEq, and_true, Option.some.injEq] at hcs
    obtain ⟨rfl, rfl, rfl⟩ := hcs
    have hz' : zs.length = cap := by simpa using hz
    have h1 := hc2 i (by omega)
    rw [Addr.add_lit, hb] at h1
    simp only [Option.some.injEq, Value.int.injEq, true_and] at h1
    have hmem : zs.getD i 0 ∈ zs := by
      rw [List.getD_eq_getElem?_getD, List.getElem?_eq_getElem (by omega), Option.getD_some]
      exact List.getElem_mem _
    have := hwz _ hmem
    rw [← h1] at this
    simp only [Lit.wf, Bool.and_eq_true, decide_eq_true_eq] at this
    exact this
end Go.Proofs.YtdlobdbclgcogaaDoor
