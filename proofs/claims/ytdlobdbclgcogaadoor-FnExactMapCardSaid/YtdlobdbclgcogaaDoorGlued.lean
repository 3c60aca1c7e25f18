/- The walk of laws.glued. -/
import Derived.Test.YtdlobdbclgcogaaDoorTexts
import Derived.Lib.AppendStr
namespace Go.Proofs.YtdlobdbclgcogaaDoor
open Go.RowKit

theorem strCells_eq (s : ByteArray) : Lib.strCells s = bcells s.data.toList := by
  simp [Lib.strCells, bcells]

/-- 'append(v, s...)', s a string. -/
theorem wpList_appendStr {P : Program} {ops : Array Oper} {rest : List Oper} {o : Oper} {a : Act} {Q : Exit → Act → World → Prop} {w : World}
    (hw : Region.wanted o (yielded ops a.tmps) = true) (t t' : TypeId) (x y : Operand) (hop : o.op = Op.call { callee := .builtin .append, args := #[x, y], argTypes := #[t, t'] })
    (e : TypeId) (ht : P.underlying t = some (.slice e)) (hu : P.underlying t' = some .string) (hinfo : (P.info? e).map (fun i => (i.zero, i.size, i.bytes)) = some (some (.int .u8 0), 1, 1))
    (B : Nat) (v : Value) (l : List UInt8) (hx : a.eval x = v) (hv : Buf B e w v l) (s : ByteArray) (hy : a.eval y = .string s) (hlen : l.length + s.size ≤ 140737488355328) (hB : B ≤ w.heap.size)
    (hK : ∀ v' w', Buf B e w' v' (l ++ s.data.toList) → w.grownBy w' v.ownBlock → wpList P ops Q rest (a.put o.dst v') w') : wpList P ops Q (o :: rest) a w := by
  refine wpList_step fun K hK' => ?_
  rw [if_pos hw]
  obtain ⟨i, hi, hzz⟩ := Option.map_eq_some_iff.1 hinfo
  simp only [Prod.mk.injEq] at hzz
  obtain ⟨hz, hsz, hby⟩ := hzz
  obtain ⟨v', w', hr, h2, h3, _⟩ := Lib.run_append_own_string (P := P) w B t t' o.type e i ht hu hi hz hsz hby v l.length (bcells l) hv s (by unfold maxLen; omega) hlen hB
  unfold Oper.wp execOp
  simp only [hop, resolve, invoke, builtin, Sem.run_bind, Sem.run_pure, Result.andThen_ok, List.map_toArray, List.map_cons, List.map_nil, hx, hy, hr]
  refine hK' _ _ (hK v' w' ?_ h3)
  unfold Buf
  rw [bcells_append, List.length_append, ← strCells_eq]
  exact h2

set_option maxRecDepth 100000 in
set_option maxHeartbeats 1000000 in
theorem laws_glued (v : Value) (L : List (List UInt8)) (w : World) (h : Ss w v L) (hn : L.flatten.length ≤ 140737488355328) :
    Calls Tryd.prog 16 #[v] w (RetV (.string ⟨L.flatten.toArray⟩) w) := by
  obtain ⟨a, c, rfl, p1, q1, e1⟩ := h.raw
  have hc1 : c ≤ 9223372036854775807 := by unfold maxLen at q1; omega
  have HC := Lib.hid e1
  clear e1 h q1
  go_enter Tryd.func16, Tryd.ntmps16
  go_wp2_with fail
  go_loopg [3, 8] L.length (fun k o i wr => ∃ j : Nat, j + k = L.length ∧ i = .int .i64 j ∧ Buf w.heap.size 5 wr o (L.take j).flatten ∧ Ext w wr)
  case atStart => exact ⟨0, by omega, rfl, Buf.nil _ _ _, Ext.refl _⟩
  case round =>
    obtain ⟨j, hj, rfl, hgr, hx⟩ := hrel
    have HJ := Lib.hid hj
    by_cases hlt : j < L.length
    · have hg : 0 < gk := by omega
      obtain ⟨b, o, rfl, c0⟩ := HC.out j hlt
      replace c0 := hx.cell c0
      have hfl : (L.take (j + 1)).flatten = (L.take j).flatten ++ L[j] := by
        rw [List.take_succ_eq_append_getElem hlt, List.flatten_append]
        simp only [List.flatten_cons, List.flatten_nil, List.append_nil]
      have hle : (L.take (j + 1)).flatten.length ≤ L.flatten.length := by
        conv => rhs; rw [← List.take_append_drop (j + 1) L]
        rw [List.flatten_append, List.length_append]; omega
      obtain ⟨M, hM⟩ : ∃ M, (L.take j).flatten = M := ⟨_, rfl⟩
      obtain ⟨t, ht⟩ : ∃ t, L[j] = t := ⟨_, rfl⟩
      rw [hM] at hgr hfl
      rw [ht] at c0 hfl
      have HFL := Lib.hid hfl
      have hs : M.length + (⟨t.toArray⟩ : ByteArray).size ≤ 140737488355328 := by
        rw [hfl, List.length_append] at hle
        show M.length + t.length ≤ _
        omega
      have HG := Lib.hid hgr
      have HX := Lib.hid hx
      have hsz := hx.size
      clear hj hgr hx hM ht hfl hle
      go_wp2_with (refine wpList_appendStr rfl 24 9 _ _ rfl 5 Tryd.underlying24 Tryd.underlying9 info_u8' w.heap.size _ M rfl HG.out _ rfl hs hsz ?_)
      intro v3 w3 h3 g3
      have B3 := owns_grown HG.out g3 hsz HX.out.below (Nat.le_refl _)
      have H3 := Lib.hid h3
      have HB3 := Lib.hid B3
      clear B3 h3 g3
      go_wp2_with fail
      go_roundg (gk - 1)
      case measure => omega
      case rel =>
        refine ⟨j + 1, by have := HJ.out; omega, by go_num, ?_, ⟨HB3.out⟩⟩
        rw [HFL.out]
        exact H3.out
    · have HT := Lib.hid (show L.take j = L from List.take_of_length_le (by omega))
      have HG := Lib.hid hgr
      have hb := (Buf.own hgr).bs
      rw [HT.out] at hb
      clear hj hgr
      go_wp2_with (refine wpList_toString rfl 24 9 _ rfl 5 Tryd.underlying24 Tryd.underlying5 Tryd.underlying9 _ _ rfl hb ?_)
      go_wp2_with fail
      go_ret
      exact ⟨rfl, hx⟩
end Go.Proofs.YtdlobdbclgcogaaDoor
