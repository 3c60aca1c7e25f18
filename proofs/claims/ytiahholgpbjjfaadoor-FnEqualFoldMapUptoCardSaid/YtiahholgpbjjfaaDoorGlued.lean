/- The walk of laws.glued. -/
import Derived.Test.YtiahholgpbjjfaaDoorTexts
import Derived.Lib.AppendStr
namespace Go.Proofs.YtiahholgpbjjfaaDoor
open Go.RowKit

theorem strCells_eq (s : ByteArray) : Lib.strCells s = bcells s.data.toList := by
  simp [Lib.strCells, bcells]

/-- 'append(v, s...)', s a string. -/
theorem wpList_appendStr {P : Program} {ops : Array Oper} {rest : List Oper} {o : Oper} {a : Act} {Q : Exit → Act → World → Prop} {w : World}
    (hw : Region.wanted o (yielded ops a.tmps) = true) (t t' : TypeId) (x y : Operand) (hop : o.op = Op.call { callee := .builtin .append, args := #[x, y], argTypes := #[t, t'] })
    (e : TypeId) (ht : P.underlying t = some (.slice e)) (hu : P.underlying t' = some .string) (hinfo : (P.info? e).map (fun i => (i.zero, i.size, i.bytes)) = some (some (.int .u8 0), 1, 1))
    (B : Nat) (v : Value) (l : List UInt8) (hx : a.eval x = v) (hv : Buf B e w v l) (s : ByteArray) (hy : a.eval y = .string s) (hlen : l.length + s.size ≤ 140737488355328) (hB : B ≤ w.heap.size)
    (hK : ∀ v' w', Buf B e w' v' (l ++ s.data.toList) → w.grownBy w' v.ownBlock → wpList P ops Q rest (a.put o.dst v') w') : wpList P ops Q (o :: rest) a w := by
  refine wpList_step fun K hK' => ?_
  rw [if_pos hw]
  obtain ⟨i, hi, hzz⟩ := Option.map_eq_some_iff.1 hinfo
  simp only [Prod.mk.injEq] at hzz
  obtain ⟨hz, hsz, hby⟩ := hzz
  obtain ⟨v', w', hr, h2, h3, _⟩ := Lib.run_append_own_string (P := P) w B t t' o.type e i ht hu hi hz hsz hby v l.length (bcells l) hv s (by unfold maxLen; omega) hlen hB
  unfold Oper.wp execOp
  simp only [hop, resolve, invoke, builtin, Sem.run_bind, Sem.run_pure, Result.andThen_ok, List.map_toArray, List.map_cons, List.map_nil, hx, hy, hr]
  refine hK' _ _ (hK v' w' ?_ h3)
  unfold Buf
  rw [bcells_append, List.length_append, ← strCells_eq]
  exact h2

end Go.Proofs.YtiahholgpbjjfaaDoor
