/- Several texts of this seat, put together: OpenR OpenR2 OpenF. -/
import Derived.Test.YtiahholgpbjjfaaDoorOpen
import Derived.Test.YtiahholgpbjjfaaDoorDec
import Derived.Test.YtiahholgpbjjfaaDoorRows
import Derived.Lib.SmallJoins
import Derived.Lib.LaidU8T
import Derived.PinnedBridge
import Derived.MakeChecks
import Derived.Lay
import Derived.Test.YtiahholgpbjjfaaDoorFoldW
import Derived.Lib.LaidU8
import Derived.Lib.LaidTab
import Derived.Lib.LaidCase
import Derived.Deep.SlicePairs
/- How the arguments of a law over code points are opened: a slice of runes, a test; and what the row's list of tables gives. No condition. -/
namespace Go.Proofs.YtiahholgpbjjfaaDoor
open Go.ChangeShapes Go.WideShapes Go.ChangeAt Go.RowKit Go.Shelf

theorem open_runes_cs {H : Type} {enc : TypeId × Value → H} {P : Program} {W : World} {t e : TypeId} {v : Value} {fuel : Nat} {x : DataW H × List MemPlace}
    (ht : P.underlying t = some (.slice e)) (he : P.underlying e = some (.int .i32)) (hc : P.cellsOf e = 1)
    (hf : DataW.trod enc P W 0 (fun _ => true) true fuel t [v] = some x) : ∃ rs, Is W v rs := by
  rcases open_ints ht he hc hf with ⟨hcs, _⟩ | ⟨x, len, cap, zs, hcs, _, hl, hm, hz, _, hcell, hwz⟩
  · simp at hcs
    subst hcs
    exact ⟨[], Vs.nil W 1⟩
  · simp at hcs
    subst hcs
    have hz' : zs.length = cap := by simpa using hz
    have hlen : (zs.take len).length = len := by simp; omega
    refine ⟨zs.take len, by simp, some x, cap, by rw [hlen], by rw [hlen]; omega, hm, ?_⟩
    by_cases h0 : len = 0
    · subst h0; left; simp
    right
    obtain ⟨b, off, spot⟩ := x
    have hc0 := hcell 0 (by omega)
    have hspot : spot = none := by simpa [Addr.add] using World.cell?_spot hc0
    subst hspot
    refine ⟨b, off, rfl, fun i hi => ?_⟩
    have hi' : i < len := by simp at hi; omega
    have hci := hcell i (by omega)
    rw [Addr.add_lit] at hci
    rw [hci]
    simp only [List.getElem_map, List.getElem_take]
    congr 2
    rw [List.getD_eq_getElem?_getD, List.getElem?_eq_getElem (by omega), Option.getD_some]

theorem open_runes {H : Type} {enc : TypeId × Value → H} {P : Program} {W : World} {r : Reach} {b0 : Nat} {t e : TypeId} {v : Value} {d : DataW H} {p : List MemPlace}
    (ht : P.underlying t = some (.slice e)) (he : P.underlying e = some (.int .i32)) (hc : P.cellsOf e = 1) (hv : Value.okWide P W r b0 t v)
    (h : DataW.Trod enc P W 0 (fun _ => true) true t v d p) : ∃ rs, Is W v rs := by
  obtain ⟨a0, len, cap, rfl⟩ := okWide_slice ht hv
  obtain ⟨fuel, hf⟩ := h
  exact open_runes_cs ht he hc (by simpa [Value.cells] using hf)


/-- The numbers of the tables' types. -/
def tabRen : Ren := ⟨id, fun n => if n = 5 then 5 else if n = 119 then 67 else if n = 138 then 69 else 70, fun n => if n = 3 then 4 else 5⟩

theorem tabs_of_laid {W : World} (h : laidMetH Tryd.prog [("unicode/utf8.acceptRanges", Rows.laid_unicode_utf8_acceptRanges), ("unicode/utf8.first", Rows.laid_unicode_utf8_first)] W) : Tabs W := by
  rw [MakeChecks.laidMetH_plain _ _ _ (by kernel_rfl)] at h
  have h4 := Lib.laidMet.reads h (n := "unicode/utf8.acceptRanges") (d := Rows.laid_unicode_utf8_acceptRanges) (.head _)
  have h3 := Lib.laidMet.reads h (n := "unicode/utf8.first") (d := Rows.laid_unicode_utf8_first) (.tail _ (.head _))
  have e3 : Rows.laid_unicode_utf8_first = Lib.firstData := Pinned.utf8First_eq
  have e4 : (Rows.laid_unicode_utf8_acceptRanges : DataW Unit) = Lib.acceptData := by kernel_rfl
  rw [e3] at h3
  rw [e4] at h4
  exact utf8Tabs_of_readsT (ρ := tabRen) ⟨Tryd.underlying5, Tryd.underlying67, Tryd.underlying69, Tryd.underlying70⟩ ⟨by kernel_rfl, by kernel_rfl, by kernel_rfl, by kernel_rfl, by kernel_rfl, by kernel_rfl, by kernel_rfl⟩ h3 h4
end Go.Proofs.YtiahholgpbjjfaaDoor

/- How large the arguments of a law are: by the form's reach, and by the second form's bound. No condition. -/
namespace Go.Proofs.YtiahholgpbjjfaaDoor
open Go.ChangeShapes Go.WideShapes Go.ChangeAt Go.RowKit Go.Shelf

theorem bulk_one {H : Type} (d : DataW H) : 1 ≤ Rows.uptoBulk d := by
  cases d with
  | lit l => cases l <;> simp [Rows.uptoBulk]
  | nil => simp [Rows.uptoBulk]
  | ptr d => simp [Rows.uptoBulk]
  | slice elems spare => simp [Rows.uptoBulk]
  | agg parts => simp [Rows.uptoBulk]
  | iface t d => simp [Rows.uptoBulk]
  | map entries => simp [Rows.uptoBulk]
  | held h => simp [Rows.uptoBulk]
theorem bulk_part {H : Type} {d : DataW H} {l : List (DataW H)} (h : d ∈ l) : Rows.uptoBulk d ≤ Rows.uptoBulkAll l := by
  induction l with
  | nil => cases h
  | cons x r ih =>
    simp only [Rows.uptoBulkAll]
    cases List.mem_cons.1 h with
    | inl e => subst e; omega
    | inr e => have := ih e; omega
theorem bulk_length {H : Type} (l : List (DataW H)) : l.length ≤ Rows.uptoBulkAll l := by
  induction l with
  | nil => simp [Rows.uptoBulkAll]
  | cons x r ih => have := bulk_one x; simp only [Rows.uptoBulkAll, List.length_cons]; omega
theorem bulk_slice {H : Type} (elems spare : List (DataW H)) : elems.length ≤ Rows.uptoBulk (.slice elems spare) := by
  have h1 := bulk_length elems
  simp only [Rows.uptoBulk]
  omega
theorem bulk_bound {H : Type} {l : List (DataW H)} (hk : Rows.uptoSmall H l = true) : Rows.uptoBulkAll l ≤ 1048576 := by
  unfold Rows.uptoSmall at hk
  exact of_decide_eq_true hk
/-- By the second form's bound: one argument's bulk. -/
theorem bulk_arg {H : Type} {l : List (DataW H)} (hk : Rows.uptoSmall H l = true) {d : DataW H} (h : d ∈ l) : Rows.uptoBulk d ≤ 1048576 := Nat.le_trans (bulk_part h) (bulk_bound hk)
theorem bulk_str {H : Type} {l : List (DataW H)} (hk : Rows.uptoSmall H l = true) {bytes : List UInt8} (h : DataW.lit (.string bytes) ∈ l) : bytes.length ≤ 1048576 := by
  have := bulk_arg hk h
  simp only [Rows.uptoBulk] at this
  omega

/-- What a slice's datum says of its length: a slice of integers. -/
def LenOf {H : Type} (d : DataW H) (n : Nat) : Prop := n = 0 ∨ ∃ elems spare, d = .slice elems spare ∧ n = elems.length
theorem LenOf.bulk {H : Type} {l : List (DataW H)} (hk : Rows.uptoSmall H l = true) {d : DataW H} {n : Nat} (h : LenOf d n) (hd : d ∈ l) : n ≤ 1048576 := by
  rcases h with rfl | ⟨e, s, rfl, rfl⟩
  · omega
  · have := bulk_arg hk hd
    have := bulk_slice e s
    omega
theorem LenOf.sized {H : Type} {P : Program} {ts : List TypeId} {ds : List (DataW H)} (hs : (DataW.weightsEach P ts ds).all (· ≤ reachBytes) = true) {j : Nat} {t e : TypeId} {d : DataW H} {n : Nat} (h : LenOf d n) (ht : ts[j]? = some t) (hd : ds[j]? = some d) (hu : P.underlying t = some (.slice e)) : n * P.bytesOf e ≤ reachBytes := by
  rcases h with rfl | ⟨el, s, rfl, rfl⟩
  · simp
  · have := sized_slice hs ht hd hu
    exact Nat.le_trans (Nat.mul_le_mul_right _ (Nat.le_add_right _ _)) this

theorem open_runes_len {H : Type} {enc : TypeId × Value → H} {P : Program} {W : World} {r : Reach} {b0 : Nat} {t e : TypeId} {v : Value} {d : DataW H} {p : List MemPlace}
    (ht : P.underlying t = some (.slice e)) (he : P.underlying e = some (.int .i32)) (hc : P.cellsOf e = 1) (hv : Value.okWide P W r b0 t v)
    (h : DataW.Trod enc P W 0 (fun _ => true) true t v d p) : ∃ rs, Is W v rs ∧ LenOf d rs.length := by
  obtain ⟨a0, len, cap, rfl⟩ := okWide_slice ht hv
  obtain ⟨fuel, hf⟩ := h
  replace hf : DataW.trod enc P W 0 (fun _ => true) true fuel t [.slice a0 len cap] = some (d, p) := by simpa [Value.cells] using hf
  obtain ⟨rs, hi⟩ := open_runes_cs ht he hc hf
  refine ⟨rs, hi, ?_⟩
  have hl : rs.length = len := by
    obtain ⟨a, c, hv, _⟩ := hi.raw
    injection hv with _ h2 _
    exact h2.symm
  rcases open_ints ht he hc hf with ⟨hcs, _⟩ | ⟨x, l2, c2, zs, hcs, _, hl2, hm, hz, hx, _, _⟩
  · left
    simp at hcs
    omega
  · right
    simp only [List.cons.injEq, Value.slice.injEq, and_true] at hcs
    injection hx with hx1 hx2
    refine ⟨_, _, hx1, ?_⟩
    have hz' : zs.length = c2 := by simpa using hz
    simp [lits]
    omega

theorem bytes_i32 : Tryd.prog.bytesOf 21 = 4 := by kernel_rfl
end Go.Proofs.YtiahholgpbjjfaaDoor

/- The tables of simple case folding, and the decoder's, out of what the program's text lays. No condition. -/
namespace Go.Proofs.YtiahholgpbjjfaaDoor
open Go.ChangeShapes Go.WideShapes Go.ChangeAt Go.RowKit Go.Shelf Go.Lib

def orbData {H : Type} : DataW H := .slice (orbT.map fun p => .agg [.lit (.int .u16 p.1), .lit (.int .u16 p.2)]) []

set_option maxRecDepth 100000 in
theorem orbit_of_reads {W : World} (h : VarReads Tryd.prog W "unicode.caseOrbit" orbData) : ∃ R o c, W.cell? ⟨1, 0, none⟩ = some (.slice (some ⟨R, o, none⟩) 94 c) ∧
    ∀ i, i < 94 → W.cell? ⟨R, o + i * 2, none⟩ = some (.int .u16 ((orbA.getD i (0, 0)).1 : Int)) ∧ W.cell? ⟨R, o + i * 2 + 1, none⟩ = some (.int .u16 ((orbA.getD i (0, 0)).2 : Int)) := by
  obtain ⟨g', t', cs, fuel, p, hg', ht', hvar, hd⟩ := h
  have hg : Tryd.prog.globalNamed "unicode.caseOrbit" = some 1 := by kernel_rfl
  have hty : (Tryd.prog.globals[1]?).map (·.type) = some 56 := by kernel_rfl
  obtain rfl := Option.some.inj (hg.symm.trans hg')
  obtain rfl := Option.some.inj (hty.symm.trans ht')
  have hsz : orbT.length = 94 := by kernel_rfl
  rcases Go.Deep.open_slice_pairs Tryd.underlying56 Tryd.underlying59 (by kernel_rfl) rfl rfl (by kernel_rfl) (by kernel_rfl) hd with ⟨_, hx⟩ | ⟨a, len, cap, m, n, V0, V1, D0, D1, P0, P1, hcs, _, hl, hm, hmm, hx, hcell⟩
  · cases hx
  · have hx1 := congrArg Prod.fst hx
    simp only [orbData, DataW.slice.injEq] at hx1
    obtain ⟨eE, _⟩ := hx1
    have hlen : len = 94 := by
      have := congrArg List.length eE
      simp [hsz] at this
      exact this.symm
    subst hlen
    have hrow : ∀ i, i < 94 → V0 i = .int .u16 ((orbA.getD i (0, 0)).1 : Int) ∧ V1 i = .int .u16 ((orbA.getD i (0, 0)).2 : Int) := by
      intro i hi
      obtain ⟨_, _, h0, h1⟩ := hcell i (by have : m = cap := by simpa using hmm
                                           omega)
      obtain ⟨n0, e0, x0, _⟩ := DataW.trod_int Tryd.underlying54 h0
      obtain ⟨n1, e1, x1, _⟩ := DataW.trod_int Tryd.underlying54 h1
      have hg := congrArg (·[i]?) eE
      have hi' : i < orbT.length := by rw [hsz]; exact hi
      simp only [List.getElem?_map, List.getElem?_eq_getElem hi', Option.map_some, List.getElem?_range hi, Option.some.injEq, DataW.agg.injEq, List.cons.injEq, and_true] at hg
      have ho : orbA.getD i (0, 0) = orbT[i] := by simp [orbA, Array.getD, hi']
      rw [ho]
      have y0 := congrArg Prod.fst x0
      have y1 := congrArg Prod.fst x1
      simp only at y0 y1
      rw [← hg.1] at y0
      rw [← hg.2] at y1
      simp only [List.cons.injEq, and_true] at e0 e1
      injection y0 with y0
      injection y0 with _ y0
      injection y1 with y1
      injection y1 with _ y1
      rw [e0, e1, ← y0, ← y1]
      exact ⟨rfl, rfl⟩
    obtain ⟨R, oR, sR⟩ := a
    have h0 := (hcell 0 (by have : m = cap := by simpa using hmm
                            omega)).1
    have hspot : sR = none := by simpa [Addr.add] using World.cell?_spot h0
    subst hspot
    refine ⟨R, oR, cap, ?_, fun i hi => ?_⟩
    · rw [World.var?_cell hg hvar 0, ← Array.getElem?_toList, hcs]
      rfl
    · obtain ⟨k0, k1, _, _⟩ := hcell i (by have : m = cap := by simpa using hmm
                                           omega)
      rw [Addr.add_lit] at k0 k1
      obtain ⟨r0, r1⟩ := hrow i hi
      rw [r0] at k0
      rw [r1] at k1
      exact ⟨k0, by rw [Nat.add_assoc]; exact k1⟩

set_option maxRecDepth 100000 in
theorem fold_of_laid {W : World} (h : laidMetH Tryd.prog [("unicode/utf8.acceptRanges", Rows.laid_unicode_utf8_acceptRanges), ("unicode.asciiFold", Rows.laid_unicode_asciiFold), ("unicode.caseOrbit", Rows.laid_unicode_caseOrbit), ("unicode.CaseRanges", Rows.laid_unicode_CaseRanges), ("unicode/utf8.first", Rows.laid_unicode_utf8_first)] W) : Tabs W ∧ CaseW W := by
  rw [MakeChecks.laidMetH_plain _ _ _ (by kernel_rfl)] at h
  have h4 := Lib.laidMet.reads h (n := "unicode/utf8.acceptRanges") (d := Rows.laid_unicode_utf8_acceptRanges) (.head _)
  have hA := Lib.laidMet.reads h (n := "unicode.asciiFold") (d := Rows.laid_unicode_asciiFold) (.tail _ (.head _))
  have hO := Lib.laidMet.reads h (n := "unicode.caseOrbit") (d := Rows.laid_unicode_caseOrbit) (.tail _ (.tail _ (.head _)))
  have hR := Lib.laidMet.reads h (n := "unicode.CaseRanges") (d := Rows.laid_unicode_CaseRanges) (.tail _ (.tail _ (.tail _ (.head _))))
  have h3 := Lib.laidMet.reads h (n := "unicode/utf8.first") (d := Rows.laid_unicode_utf8_first) (.tail _ (.tail _ (.tail _ (.tail _ (.head _)))))
  have e3 : Rows.laid_unicode_utf8_first = Lib.firstData := Pinned.utf8First_eq
  have e4 : (Rows.laid_unicode_utf8_acceptRanges : DataW Unit) = Lib.acceptData := by kernel_rfl
  have eA : (Rows.laid_unicode_asciiFold : DataW Unit) = Lib.tabData .u16 (asciiL.map Int.ofNat) := by kernel_rfl
  have eO : (Rows.laid_unicode_caseOrbit : DataW Unit) = orbData := by kernel_rfl
  have eR : Rows.laid_unicode_CaseRanges = caseData := Pinned.caseRanges_eq
  rw [e3] at h3
  rw [e4] at h4
  rw [eA] at hA
  rw [eO] at hO
  rw [eR] at hR
  refine ⟨utf8Tabs_of_readsT (ρ := tabRen) ⟨Tryd.underlying5, Tryd.underlying67, Tryd.underlying69, Tryd.underlying70⟩ ⟨by kernel_rfl, by kernel_rfl, by kernel_rfl, by kernel_rfl, by kernel_rfl, by kernel_rfl, by kernel_rfl⟩ h3 h4, ?_, orbit_of_reads hO, ?_⟩
  · intro q hq
    obtain ⟨g', t', cs, fuel, p, hg', ht', hvar, hd⟩ := hA
    have hg : Tryd.prog.globalNamed "unicode.asciiFold" = some 0 := by kernel_rfl
    have hty : (Tryd.prog.globals[0]?).map (·.type) = some 55 := by kernel_rfl
    obtain rfl := Option.some.inj (hg.symm.trans hg')
    obtain rfl := Option.some.inj (hty.symm.trans ht')
    have htab : Lib.TabIs Tryd.prog W "unicode.asciiFold" .u16 (asciiL.map Int.ofNat) := by
      unfold Lib.TabIs
      rw [hvar, ← Lib.cells_of_tab Tryd.underlying55 Tryd.underlying54 (by kernel_rfl) (by kernel_rfl) hd]
    have hsz : asciiL.length = 128 := by kernel_rfl
    have hq' : q < asciiL.length := by rw [hsz]; exact hq
    rw [htab.cell hg q (by rw [List.length_map, hsz]; exact hq)]
    simp [List.getD, hq']
  · exact caseVar_of_reads Tryd.lays274 Tryd.lays275.t206 ⟨by kernel_rfl, by kernel_rfl, by kernel_rfl, by kernel_rfl, by kernel_rfl, by kernel_rfl⟩ hR
end Go.Proofs.YtiahholgpbjjfaaDoor
