/- The walks of laws.texts, laws.same, laws.glued. -/
import Derived.Test.YtdlobdbclgcogaaDoorFieldsS
import Derived.Deep.DeepCutAuto
import Derived.BigQuiet
namespace Go.Proofs.YtdlobdbclgcogaaDoor
open Go.RowKit

set_option maxRecDepth 100000 in
set_option maxHeartbeats 1000000 in
theorem laws_texts (v : Value) (L : List (List UInt8)) (w : World) (h : Ls w v L) (hn : L.length ≤ 4398046511104) :
    Calls Tryd.prog 17 #[v] w (RetSs w L) := by
  obtain ⟨a, c, rfl, p1, q1, e1⟩ := h.raw
  have hc1 : c ≤ 9223372036854775807 := by unfold maxLen at q1; omega
  have HC := Lib.hid e1
  clear e1 h q1
  go_enter Tryd.func17, Tryd.ntmps17
  go_wp2_with fail
  have g0 := owns_empty w.heap.size 9 1 w (Nat.le_refl _)
  have x0 : Ext w (w.alloc (.cells #[] 9)) := Ext.alloc _ _
  go_loopg [3, 9] L.length (fun k o i wr => ∃ j : Nat, j + k = L.length ∧ i = .int .i64 j ∧ wr.ownsRow w.heap.size 9 1 o (L.take j).length (svals (L.take j)) ∧ Ext w wr)
  case atStart => exact ⟨0, by omega, rfl, g0, x0⟩
  case round =>
    obtain ⟨j, hj, rfl, hgr, hx⟩ := hrel
    clear g0 x0
    have HJ := Lib.hid hj
    by_cases hlt : j < L.length
    · have hg : 0 < gk := by omega
      obtain ⟨b, o, u, rfl, c0, bu⟩ := HC.out j hlt
      replace c0 := hx.cell c0
      replace bu := bu.ext hx
      obtain ⟨M, hM⟩ : ∃ M, L.take j = M := ⟨_, rfl⟩
      have HTL := Lib.hid (show M.length = j by rw [← hM]; simp; omega)
      have HMM := Lib.hid hM
      rw [hM] at hgr
      clear hM
      obtain ⟨t, ht⟩ : ∃ t, L[j] = t := ⟨_, rfl⟩
      have HTT := Lib.hid ht
      rw [ht] at bu
      have HO := Lib.hid hgr
      have HX := Lib.hid hx
      have HBU := Lib.hid bu
      obtain ⟨au, cu, eu, _, _⟩ := bu.shape
      subst eu
      have O3 := Lib.hid (owns_keep hgr (Ext.alloc wr (.cells #[.string ⟨t.toArray⟩] 9)))
      have hsz : w.heap.size ≤ wr.heap.size := hx.size
      clear hj hgr hx ht bu
      go_wp2_with (first | refine wpList_toString rfl 24 9 _ rfl 5 Tryd.underlying24 Tryd.underlying5 Tryd.underlying9 _ _ rfl HBU.out ?_ | refine wpList_appendV rfl 31 _ _ rfl 9 1 16 _ Tryd.underlying31 info_string rfl (by omega) w.heap.size _ _ _ rfl O3.out _ 1 _ [_] rfl rfl (news_alloc _ _ _) (by simp [Value.oneCell']) (by rw [HTL.out]; omega) (by rw [HTL.out]; omega) (by simp; omega) ?_)
      intro v3 w3 h3 g3
      have B3 := owns_grown O3.out g3 (by simp; omega) (below_ext HX.out.below (Ext.alloc wr _) HX.out.size) (Nat.le_refl _)
      have H3 := Lib.hid h3
      have HB3 := Lib.hid B3
      clear B3 h3 g3
      go_wp2_with fail
      go_roundg (gk - 1)
      case measure => omega
      case rel =>
        refine ⟨j + 1, by have := HJ.out; omega, by go_num, ?_, ⟨HB3.out⟩⟩
        rw [List.take_succ_eq_append_getElem hlt, HMM.out, HTT.out]
        have := H3.out
        rw [List.length_append, List.length_singleton]
        simpa [svals] using this
    · have hje : j = L.length := by omega
      have HT := Lib.hid (show L.take j = L from List.take_of_length_le (by omega))
      have HG := Lib.hid hgr
      clear hj hgr
      go_wp2_with fail
      go_ret
      have := HG.out
      rw [HT.out] at this
      exact ⟨_, rfl, vs_of_owns this, hx⟩


end Go.Proofs.YtdlobdbclgcogaaDoor
