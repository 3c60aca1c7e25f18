/- The tables of white space, and the decoder's, out of what the program's text lays. No condition. -/
import Derived.Test.YthbfdajbajijeaaDoorOpenR2
import Derived.Test.YthbfdajbajijeaaDoorSpace
import Derived.Lib.LaidU8
import Derived.Lib.LaidTab
namespace Go.Proofs.YthbfdajbajijeaaDoor
open Go.ChangeShapes Go.WideShapes Go.ChangeAt Go.RowKit Go.Shelf

theorem white_of_laid {W : World} (h : laidMetH Tryd.prog [("unicode/utf8.acceptRanges", Rows.laid_unicode_utf8_acceptRanges), ("unicode.White_Space", Rows.laid_unicode_White_Space), ("bytes.asciiSpace", Rows.laid_bytes_asciiSpace), ("unicode/utf8.first", Rows.laid_unicode_utf8_first)] W) : Tabs W ∧ White W := by
  rw [MakeChecks.laidMetH_plain _ _ _ (by kernel_rfl)] at h
  have h4 := Lib.laidMet.reads h (n := "unicode/utf8.acceptRanges") (d := Rows.laid_unicode_utf8_acceptRanges) (.head _)
  have h6 := Lib.laidMet.reads h (n := "unicode.White_Space") (d := Rows.laid_unicode_White_Space) (.tail _ (.head _))
  have h2 := Lib.laidMet.reads h (n := "bytes.asciiSpace") (d := Rows.laid_bytes_asciiSpace) (.tail _ (.tail _ (.head _)))
  have h3 := Lib.laidMet.reads h (n := "unicode/utf8.first") (d := Rows.laid_unicode_utf8_first) (.tail _ (.tail _ (.tail _ (.head _))))
  have e3 : Rows.laid_unicode_utf8_first = Lib.firstData := Pinned.utf8First_eq
  have e4 : (Rows.laid_unicode_utf8_acceptRanges : DataW Unit) = Lib.acceptData := by kernel_rfl
  have e6 : (Rows.laid_unicode_White_Space : DataW Unit) = Lib.whiteData := by kernel_rfl
  have e2 : (Rows.laid_bytes_asciiSpace : DataW Unit) = Lib.tabData .u8 Lib.asciiSpaceTab := by kernel_rfl
  rw [e3] at h3
  rw [e4] at h4
  rw [e6] at h6
  rw [e2] at h2
  refine ⟨utf8Tabs_of_readsT (ρ := tabRen) ⟨Tryd.underlying5, Tryd.underlying58, Tryd.underlying93, Tryd.underlying94⟩ ⟨by kernel_rfl, by kernel_rfl, by kernel_rfl, by kernel_rfl, by kernel_rfl, by kernel_rfl, by kernel_rfl⟩ h3 h4, ?_, ?_⟩
  · exact whiteTab_of_reads Tryd.lays199 ⟨by kernel_rfl, by kernel_rfl, by kernel_rfl, by kernel_rfl, by kernel_rfl, by kernel_rfl, by kernel_rfl, by kernel_rfl⟩ h6
  · intro q hq
    obtain ⟨g', t', cs, fuel, p, hg', ht', hvar, hd⟩ := h2
    have hg : Tryd.prog.globalNamed "bytes.asciiSpace" = some 0 := by kernel_rfl
    have hty : (Tryd.prog.globals[0]?).map (·.type) = some 58 := by kernel_rfl
    obtain rfl := Option.some.inj (hg.symm.trans hg')
    obtain rfl := Option.some.inj (hty.symm.trans ht')
    have htab : Lib.TabIs Tryd.prog W "bytes.asciiSpace" .u8 Lib.asciiSpaceTab := by
      unfold Lib.TabIs
      rw [hvar, ← Lib.cells_of_tab Tryd.underlying58 Tryd.underlying5 (by kernel_rfl) (by kernel_rfl) hd]
    rw [htab.cell hg q (by rw [Lib.asciiSpaceTab_length]; exact hq), Lib.asciiSpaceTab_at q hq]
end Go.Proofs.YthbfdajbajijeaaDoor
