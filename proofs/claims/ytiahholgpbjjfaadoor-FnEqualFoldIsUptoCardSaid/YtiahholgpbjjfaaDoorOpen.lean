/- How the arguments of a law are opened: a slice of bytes, of code points, a byte. No condition. -/
import Derived.Test.YtiahholgpbjjfaaDoorBase
import Derived.ProofKit
import Derived.OpenShut
import Derived.ShutString
import Derived.ChangeOld
import Derived.SizedLaws
namespace Go.Proofs.YtiahholgpbjjfaaDoor
open Go.ChangeShapes Go.WideShapes Go.ChangeAt Go.RowKit

theorem u8_of_wf {n : Int} (h : (Lit.int .u8 n).wf = true) : ((n.toNat.toUInt8).toNat : Int) = n := by
  have := bounds_u8 h
  simp
  omega

theorem open_bytes {H : Type} {enc : TypeId × Value → H} {P : Program} {W : World} {r : Reach} {b0 : Nat} {t e : TypeId} {v : Value} {d : DataW H} {p : List MemPlace}
    (ht : P.underlying t = some (.slice e)) (he : P.underlying e = some (.int .u8)) (hc : P.cellsOf e = 1) (hv : Value.okWide P W r b0 t v)
    (h : DataW.Trod enc P W 0 (fun _ => true) true t v d p) : ∃ l, Bs W v l := by
  obtain ⟨a0, len, cap, rfl⟩ := okWide_slice ht hv
  obtain ⟨fuel, hf⟩ := h
  rcases open_ints ht he hc hf with ⟨hcs, _⟩ | ⟨x, l, c, zs, hcs, _, hl, hm, hz, _, hcell, hwz⟩
  · simp [Value.cells] at hcs
    obtain ⟨rfl, rfl, rfl⟩ := hcs
    exact ⟨[], Bs.nil W⟩
  · simp [Value.cells] at hcs
    obtain ⟨rfl, rfl, rfl⟩ := hcs
    have hz' : zs.length = cap := by simpa using hz
    refine ⟨(zs.take len).map (fun n => n.toNat.toUInt8), some x, cap, ?_, ?_, hm, ?_⟩
    · simp; omega
    · simp; omega
    · by_cases h0 : len = 0
      · subst h0; left; simp
      right
      obtain ⟨b, off, spot⟩ := x
      have hc0 := hcell 0 (by omega)
      have hspot : spot = none := by simpa [Addr.add] using World.cell?_spot hc0
      subst hspot
      refine ⟨b, off, rfl, fun i hi => ?_⟩
      have hi' : i < len := by simp at hi; omega
      have hci := hcell i (by omega)
      rw [Addr.add_lit] at hci
      rw [hci]
      have hw := hwz (zs.getD i 0) (by rw [List.getD_eq_getElem?_getD, List.getElem?_eq_getElem (by omega)]; simp)
      have hu := u8_of_wf hw
      simp only [List.getElem_map, List.getElem_take]
      congr 2
      rw [List.getD_eq_getElem?_getD, List.getElem?_eq_getElem (by omega), Option.getD_some] at hu ⊢
      exact hu.symm

theorem open_byte {H : Type} {enc : TypeId × Value → H} {P : Program} {W : World} {r : Reach} {b0 : Nat} {t : TypeId} {v : Value} {d : DataW H} {p : List MemPlace}
    (ht : P.underlying t = some (.int .u8)) (hv : Value.okWide P W r b0 t v)
    (h : DataW.Trod enc P W 0 (fun _ => true) true t v d p) : ∃ n : UInt8, v = .int .u8 (n.toNat : Int) := by
  obtain ⟨x, rfl, _, _, wx⟩ := open_int ht hv h
  exact ⟨x.toNat.toUInt8, by rw [u8_of_wf wx]⟩
end Go.Proofs.YtiahholgpbjjfaaDoor
