/- How the arguments of a law over code points are opened: a slice of runes, a test; and what the row's list of tables gives. No condition. -/
import Derived.Test.YtiahholgpbjjfaaDoorOpen
import Derived.Test.YtiahholgpbjjfaaDoorDec
import Derived.Test.YtiahholgpbjjfaaDoorRows
import Derived.Lib.SmallJoins
import Derived.Lib.LaidU8T
import Derived.PinnedBridge
import Derived.MakeChecks
import Derived.Lay
namespace Go.Proofs.YtiahholgpbjjfaaDoor
open Go.ChangeShapes Go.WideShapes Go.ChangeAt Go.RowKit Go.Shelf

theorem open_runes_cs {H : Type} {enc : TypeId × Value → H} {P : Program} {W : World} {t e : TypeId} {v : Value} {fuel : Nat} {x : DataW H × List MemPlace}
    (ht : P.underlying t = some (.slice e)) (he : P.underlying e = some (.int .i32)) (hc : P.cellsOf e = 1)
    (hf : DataW.trod enc P W 0 (fun _ => true) true fuel t [v] = some x) : ∃ rs, Is W v rs := by
  rcases open_ints ht he hc hf with ⟨hcs, _⟩ | ⟨x, len, cap, zs, hcs, _, hl, hm, hz, _, hcell, hwz⟩
  · simp at hcs
    subst hcs
    exact ⟨[], Vs.nil W 1⟩
  · simp at hcs
    subst hcs
    have hz' : zs.length = cap := by simpa using hz
    have hlen : (zs.take len).length = len := by simp; omega
    refine ⟨zs.take len, by simp, some x, cap, by rw [hlen], by rw [hlen]; omega, hm, ?_⟩
    by_cases h0 : len = 0
    · subst h0; left; simp
    right
    obtain ⟨b, off, spot⟩ := x
    have hc0 := hcell 0 (by omega)
    have hspot : spot = none := by simpa [Addr.add] using World.cell?_spot hc0
    subst hspot
    refine ⟨b, off, rfl, fun i hi => ?_⟩
    have hi' : i < len := by simp at hi; omega
    have hci := hcell i (by omega)
    rw [Addr.add_lit] at hci
    rw [hci]
    simp only [List.getElem_map, List.getElem_take]
    congr 2
    rw [List.getD_eq_getElem?_getD, List.getElem?_eq_getElem (by omega), Option.getD_some]

theorem open_runes {H : Type} {enc : TypeId × Value → H} {P : Program} {W : World} {r : Reach} {b0 : Nat} {t e : TypeId} {v : Value} {d : DataW H} {p : List MemPlace}
    (ht : P.underlying t = some (.slice e)) (he : P.underlying e = some (.int .i32)) (hc : P.cellsOf e = 1) (hv : Value.okWide P W r b0 t v)
    (h : DataW.Trod enc P W 0 (fun _ => true) true t v d p) : ∃ rs, Is W v rs := by
  obtain ⟨a0, len, cap, rfl⟩ := okWide_slice ht hv
  obtain ⟨fuel, hf⟩ := h
  exact open_runes_cs ht he hc (by simpa [Value.cells] using hf)


/-- The numbers of the tables' types. -/
def tabRen : Ren := ⟨id, fun n => if n = 5 then 5 else if n = 119 then 67 else if n = 138 then 69 else 70, fun n => if n = 3 then 4 else 5⟩

theorem tabs_of_laid {W : World} (h : laidMetH Tryd.prog [("unicode/utf8.acceptRanges", Rows.laid_unicode_utf8_acceptRanges), ("unicode/utf8.first", Rows.laid_unicode_utf8_first)] W) : Tabs W := by
  rw [MakeChecks.laidMetH_plain _ _ _ (by kernel_rfl)] at h
  have h4 := Lib.laidMet.reads h (n := "unicode/utf8.acceptRanges") (d := Rows.laid_unicode_utf8_acceptRanges) (.head _)
  have h3 := Lib.laidMet.reads h (n := "unicode/utf8.first") (d := Rows.laid_unicode_utf8_first) (.tail _ (.head _))
  have e3 : Rows.laid_unicode_utf8_first = Lib.firstData := Pinned.utf8First_eq
  have e4 : (Rows.laid_unicode_utf8_acceptRanges : DataW Unit) = Lib.acceptData := by kernel_rfl
  rw [e3] at h3
  rw [e4] at h4
  exact utf8Tabs_of_readsT (ρ := tabRen) ⟨Tryd.underlying5, Tryd.underlying67, Tryd.underlying69, Tryd.underlying70⟩ ⟨by kernel_rfl, by kernel_rfl, by kernel_rfl, by kernel_rfl, by kernel_rfl, by kernel_rfl, by kernel_rfl⟩ h3 h4
end Go.Proofs.YtiahholgpbjjfaaDoor
