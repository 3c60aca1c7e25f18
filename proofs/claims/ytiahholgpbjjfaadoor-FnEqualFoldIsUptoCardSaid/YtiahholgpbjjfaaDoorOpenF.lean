/- The tables of simple case folding, and the decoder's, out of what the program's text lays. No condition. -/
import Derived.Test.YtiahholgpbjjfaaDoorOpenR2
import Derived.Test.YtiahholgpbjjfaaDoorFoldW
import Derived.Lib.LaidU8
import Derived.Lib.LaidTab
import Derived.Lib.LaidCase
import Derived.Deep.SlicePairs
namespace Go.Proofs.YtiahholgpbjjfaaDoor
open Go.ChangeShapes Go.WideShapes Go.ChangeAt Go.RowKit Go.Shelf Go.Lib

def orbData {H : Type} : DataW H := .slice (orbT.map fun p => .agg [.lit (.int .u16 p.1), .lit (.int .u16 p.2)]) []

set_option maxRecDepth 100000 in
theorem orbit_of_reads {W : World} (h : VarReads Tryd.prog W "unicode.caseOrbit" orbData) : ∃ R o c, W.cell? ⟨1, 0, none⟩ = some (.slice (some ⟨R, o, none⟩) 94 c) ∧
    ∀ i, i < 94 → W.cell? ⟨R, o + i * 2, none⟩ = some (.int .u16 ((orbA.getD i (0, 0)).1 : Int)) ∧ W.cell? ⟨R, o + i * 2 + 1, none⟩ = some (.int .u16 ((orbA.getD i (0, 0)).2 : Int)) := by
  obtain ⟨g', t', cs, fuel, p, hg', ht', hvar, hd⟩ := h
  have hg : Tryd.prog.globalNamed "unicode.caseOrbit" = some 1 := by kernel_rfl
  have hty : (Tryd.prog.globals[1]?).map (·.type) = some 56 := by kernel_rfl
  obtain rfl := Option.some.inj (hg.symm.trans hg')
  obtain rfl := Option.some.inj (hty.symm.trans ht')
  have hsz : orbT.length = 94 := by kernel_rfl
  rcases Go.Deep.open_slice_pairs Tryd.underlying56 Tryd.underlying59 (by kernel_rfl) rfl rfl (by kernel_rfl) (by kernel_rfl) hd with ⟨_, hx⟩ | ⟨a, len, cap, m, n, V0, V1, D0, D1, P0, P1, hcs, _, hl, hm, hmm, hx, hcell⟩
  · cases hx
  · have hx1 := congrArg Prod.fst hx
    simp only [orbData, DataW.slice.injEq] at hx1
    obtain ⟨eE, _⟩ := hx1
    have hlen : len = 94 := by
      have := congrArg List.length eE
      simp [hsz] at this
      exact this.symm
    subst hlen
    have hrow : ∀ i, i < 94 → V0 i = .int .u16 ((orbA.getD i (0, 0)).1 : Int) ∧ V1 i = .int .u16 ((orbA.getD i (0, 0)).2 : Int) := by
      intro i hi
      obtain ⟨_, _, h0, h1⟩ := hcell i (by have : m = cap := by simpa using hmm
                                           omega)
      obtain ⟨n0, e0, x0, _⟩ := DataW.trod_int Tryd.underlying54 h0
      obtain ⟨n1, e1, x1, _⟩ := DataW.trod_int Tryd.underlying54 h1
      have hg := congrArg (·[i]?) eE
      have hi' : i < orbT.length := by rw [hsz]; exact hi
      simp only [List.getElem?_map, List.getElem?_eq_getElem hi', Option.map_some, List.getElem?_range hi, Option.some.injEq, DataW.agg.injEq, List.cons.injEq, and_true] at hg
      have ho : orbA.getD i (0, 0) = orbT[i] := by simp [orbA, Array.getD, hi']
      rw [ho]
      have y0 := congrArg Prod.fst x0
      have y1 := congrArg Prod.fst x1
      simp only at y0 y1
      rw [← hg.1] at y0
      rw [← hg.2] at y1
      simp only [List.cons.injEq, and_true] at e0 e1
      injection y0 with y0
      injection y0 with _ y0
      injection y1 with y1
      injection y1 with _ y1
      rw [e0, e1, ← y0, ← y1]
      exact ⟨rfl, rfl⟩
    obtain ⟨R, oR, sR⟩ := a
    have h0 := (hcell 0 (by have : m = cap := by simpa using hmm
                            omega)).1
    have hspot : sR = none := by simpa [Addr.add] using World.cell?_spot h0
    subst hspot
    refine ⟨R, oR, cap, ?_, fun i hi => ?_⟩
    · rw [World.var?_cell hg hvar 0, ← Array.getElem?_toList, hcs]
      rfl
    · obtain ⟨k0, k1, _, _⟩ := hcell i (by have : m = cap := by simpa using hmm
                                           omega)
      rw [Addr.add_lit] at k0 k1
      obtain ⟨r0, r1⟩ := hrow i hi
      rw [r0] at k0
      rw [r1] at k1
      exact ⟨k0, by rw [Nat.add_assoc]; exact k1⟩

set_option maxRecDepth 100000 in
theorem fold_of_laid {W : World} (h : laidMetH Tryd.prog [("unicode/utf8.acceptRanges", Rows.laid_unicode_utf8_acceptRanges), ("unicode.asciiFold", Rows.laid_unicode_asciiFold), ("unicode.caseOrbit", Rows.laid_unicode_caseOrbit), ("unicode.CaseRanges", Rows.laid_unicode_CaseRanges), ("unicode/utf8.first", Rows.laid_unicode_utf8_first)] W) : Tabs W ∧ CaseW W := by
  rw [MakeChecks.laidMetH_plain _ _ _ (by kernel_rfl)] at h
  have h4 := Lib.laidMet.reads h (n := "unicode/utf8.acceptRanges") (d := Rows.laid_unicode_utf8_acceptRanges) (.head _)
  have hA := Lib.laidMet.reads h (n := "unicode.asciiFold") (d := Rows.laid_unicode_asciiFold) (.tail _ (.head _))
  have hO := Lib.laidMet.reads h (n := "unicode.caseOrbit") (d := Rows.laid_unicode_caseOrbit) (.tail _ (.tail _ (.head _)))
  have hR := Lib.laidMet.reads h (n := "unicode.CaseRanges") (d := Rows.laid_unicode_CaseRanges) (.tail _ (.tail _ (.tail _ (.head _))))
  have h3 := Lib.laidMet.reads h (n := "unicode/utf8.first") (d := Rows.laid_unicode_utf8_first) (.tail _ (.tail _ (.tail _ (.tail _ (.head _)))))
  have e3 : Rows.laid_unicode_utf8_first = Lib.firstData := Pinned.utf8First_eq
  have e4 : (Rows.laid_unicode_utf8_acceptRanges : DataW Unit) = Lib.acceptData := by kernel_rfl
  have eA : (Rows.laid_unicode_asciiFold : DataW Unit) = Lib.tabData .u16 (asciiL.map Int.ofNat) := by kernel_rfl
  have eO : (Rows.laid_unicode_caseOrbit : DataW Unit) = orbData := by kernel_rfl
  have eR : Rows.laid_unicode_CaseRanges = caseData := Pinned.caseRanges_eq
  rw [e3] at h3
  rw [e4] at h4
  rw [eA] at hA
  rw [eO] at hO
  rw [eR] at hR
  refine ⟨utf8Tabs_of_readsT (ρ := tabRen) ⟨Tryd.underlying5, Tryd.underlying67, Tryd.underlying69, Tryd.underlying70⟩ ⟨by kernel_rfl, by kernel_rfl, by kernel_rfl, by kernel_rfl, by kernel_rfl, by kernel_rfl, by kernel_rfl⟩ h3 h4, ?_, orbit_of_reads hO, ?_⟩
  · intro q hq
    obtain ⟨g', t', cs, fuel, p, hg', ht', hvar, hd⟩ := hA
    have hg : Tryd.prog.globalNamed "unicode.asciiFold" = some 0 := by kernel_rfl
    have hty : (Tryd.prog.globals[0]?).map (·.type) = some 55 := by kernel_rfl
    obtain rfl := Option.some.inj (hg.symm.trans hg')
    obtain rfl := Option.some.inj (hty.symm.trans ht')
    have htab : Lib.TabIs Tryd.prog W "unicode.asciiFold" .u16 (asciiL.map Int.ofNat) := by
      unfold Lib.TabIs
      rw [hvar, ← Lib.cells_of_tab Tryd.underlying55 Tryd.underlying54 (by kernel_rfl) (by kernel_rfl) hd]
    have hsz : asciiL.length = 128 := by kernel_rfl
    have hq' : q < asciiL.length := by rw [hsz]; exact hq
    rw [htab.cell hg q (by rw [List.length_map, hsz]; exact hq)]
    simp [List.getD, hq']
  · exact caseVar_of_reads Tryd.lays274 Tryd.lays275.t206 ⟨by kernel_rfl, by kernel_rfl, by kernel_rfl, by kernel_rfl, by kernel_rfl, by kernel_rfl⟩ hR
end Go.Proofs.YtiahholgpbjjfaaDoor
