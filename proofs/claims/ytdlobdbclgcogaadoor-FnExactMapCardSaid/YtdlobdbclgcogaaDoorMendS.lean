/- The reference model's ToValidUTF8. Printed by mended.py. -/
import Derived.Test.YtdlobdbclgcogaaDoorMend
import Derived.Test.YtdlobdbclgcogaaDoorGathF
namespace Go.Proofs.YtdlobdbclgcogaaDoor
open Go.RowKit

/-- 'append(v, s...)' inside a fence, s a string. -/
theorem wpListIn_appendStr {F : Fence} {nn : Nat} {P : Program} {ops : Array Oper} {rest : List Oper} {o : Oper} {a : Act} {Q : Exit → Act → World → Prop} {w : World}
    (hgu : o.guard = none) (t t' : TypeId) (x y : Operand) (hop : o.op = Op.call { callee := .builtin .append, args := #[x, y], argTypes := #[t, t'] })
    (e : TypeId) (ht : P.underlying t = some (.slice e)) (hu : P.underlying t' = some .string) (hinfo : (P.info? e).map (fun i => (i.zero, i.size, i.bytes)) = some (some (.int .u8 0), 1, 1))
    (B : Nat) (v : Value) (l : List UInt8) (hx : a.eval x = v) (hv : Buf B e w v l) (s : ByteArray) (hy : a.eval y = .string s) (hlen : l.length + s.size ≤ 140737488355328) (hB : B ≤ w.heap.size)
    (hK : ∀ v' w', Buf B e w' v' (l ++ s.data.toList) → w.grownBy w' v.ownBlock → wpListIn F nn P ops Q rest (a.put o.dst v') w') : wpListIn F nn P ops Q (o :: rest) a w := by
  refine wpListIn_plain hgu fun K hK' => ?_
  obtain ⟨i, hi, hzz⟩ := Option.map_eq_some_iff.1 hinfo
  simp only [Prod.mk.injEq] at hzz
  obtain ⟨hz, hsz, hby⟩ := hzz
  obtain ⟨v', w', hr, h2, h3, _⟩ := Lib.run_append_own_string (P := P) w B t t' o.type e i ht hu hi hz hsz hby v l.length (bcells l) hv s (by unfold maxLen; omega) hlen hB
  unfold Oper.wpIn
  refine ⟨?_, ?_⟩
  · simp [Oper.about, hop, resolve, Target.leads, Sem.run_pure]
  · rw [Oper.semAt_plain F _ _ (by rw [hop]; intro c hc'; cases hc')]
    simp [execOp, hop, resolve, invoke, builtin, hx, hy, hr, Result.andThen]
    refine hK' _ _ (hK v' w' ?_ h3)
    unfold Buf
    rw [bcells_append, List.length_append, ← strCells_eq]
    exact h2

end Go.Proofs.YtdlobdbclgcogaaDoor
