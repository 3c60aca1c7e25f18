/- impl.fresh for up to 2^48 bytes: append to an empty slice without room grows to just what is wanted. -/
import Derived.Test.YtdlobdbclgcogaaDoorBytesA
namespace Go.Proofs.YtdlobdbclgcogaaDoor
open Go.RowKit

theorem run_appendB0 {P : Program} {w : World} (t ty e : TypeId) (ht : P.underlying t = some (.slice e)) (hinfo : (P.info? e).map (fun i => (i.zero, i.size, i.bytes)) = some (some (.int .u8 0), 1, 1))
    (B g : Nat) (sv : Value) (m : List UInt8) (hs : Bs w sv m) (hm : m ≠ []) (hlen : m.length ≤ 281474976710656) (hB : B ≤ w.heap.size) :
    ∃ v' w', (Builtin.append_ #[t, t] ty #[.slice (some ⟨g, 0, none⟩) 0 0, sv]).run P w = .ok v' w' ∧ Buf B e w' v' m ∧ Ext w w' := by
  obtain ⟨i, hi, hzz⟩ := Option.map_eq_some_iff.1 hinfo
  simp only [Prod.mk.injEq] at hzz
  obtain ⟨hz, hsz, hby⟩ := hzz
  obtain ⟨a, c, rfl, k1, k2, k3⟩ := hs
  have hpos : 0 < m.length := List.length_pos_iff.2 hm
  rcases k3 with h0 | ⟨b, o, rfl, hc⟩
  · exact (hm h0).elim
  have had : ∀ j u, (bcells m)[j]? = some u → w.cell? ((⟨b, o, none⟩ : Addr).add j) = some u := fun j u hu => by
    have hj : j < m.length := by
      have := (List.getElem?_eq_some_iff.1 hu).1
      simpa [bcells] using this
    rw [Addr.add_lit, hc j hj]
    simp [bcells, hj] at hu
    rw [← hu]
  have hr := run_append_grow (P := P) w t ty e i (.int .u8 0) ht hi hz ⟨g, 0, none⟩ 0 0 [] (by simp) (by intro j v h; simp at h) ⟨b, o, none⟩ m.length c (bcells m) (by rw [hsz]; simp [bcells]) had (by omega) (by omega)
    (by rw [Nat.zero_add, nextslicecap_zero hpos, hby]; omega)
  rw [Nat.zero_add] at hr
  have hge := grownCap_ge w m.length 0 e
  have hcm : grownCap w m.length 0 e ≤ maxLen := grownCap_le w m.length 0 e (by unfold maxLen; omega)
  refine ⟨_, _, hr, ?_, (Ext.drew w).trans (Ext.alloc _ _)⟩
  refine ⟨by simp [bcells], .inr ⟨w.heap.size, _, _, rfl, hB, heap_alloc_new w.drew _, hge, hcm, ?_, ?_⟩⟩
  · simp only [Array.size_append, List.size_toArray, size_zeroCells]
    simp [bcells, Value.cells]
    omega
  · simp [bcells]

theorem wpList_appendB0 {P : Program} {ops : Array Oper} {rest : List Oper} {o : Oper} {a : Act} {Q : Exit → Act → World → Prop} {w : World}
    (hw : Region.wanted o (yielded ops a.tmps) = true) (t : TypeId) (x y : Operand) (hop : o.op = Op.call { callee := .builtin .append, args := #[x, y], argTypes := #[t, t] })
    (e : TypeId) (ht : P.underlying t = some (.slice e)) (hinfo : (P.info? e).map (fun i => (i.zero, i.size, i.bytes)) = some (some (.int .u8 0), 1, 1))
    (B g : Nat) (hx : a.eval x = .slice (some ⟨g, 0, none⟩) 0 0) (sv : Value) (m : List UInt8) (hy : a.eval y = sv) (hs : Bs w sv m) (hm : m ≠ []) (hlen : m.length ≤ 281474976710656) (hB : B ≤ w.heap.size)
    (hK : ∀ v' w', Buf B e w' v' m → Ext w w' → wpList P ops Q rest (a.put o.dst v') w') : wpList P ops Q (o :: rest) a w := by
  refine wpList_step fun K hK' => ?_
  rw [if_pos hw]
  obtain ⟨v', w', hr, h2, h3⟩ := run_appendB0 (P := P) (w := w) t o.type e ht hinfo B g sv m hs hm hlen hB
  unfold Oper.wp execOp
  simp only [hop, resolve, invoke, builtin, Sem.run_bind, Sem.run_pure, Result.andThen_ok, List.map_toArray, List.map_cons, List.map_nil, hx, hy, hr]
  exact hK' _ _ (hK v' w' h2 h3)

set_option maxRecDepth 100000 in
theorem impl_freshW (v : Value) (l : List UInt8) (w : World) (h : Bs w v l) (hl : l.length ≤ 281474976710656) :
    Calls Tryd.prog 44 #[v] w (RetOwn w l) := by
  by_cases hm : l = []
  · subst hm
    exact impl_fresh v [] w h (by simp)
  have h' := h.ext (Ext.alloc w (.cells #[] 5))
  go_enter Tryd.func44, Tryd.ntmps44
  go_wp2_with (refine wpList_appendB0 rfl 24 _ _ rfl 5 Tryd.underlying24 info_u8' w.heap.size _ rfl _ l rfl h' hm hl (by simp) ?_)
  intro v' w' b1 x1
  go_wp2_with fail
  go_ret
  exact ⟨_, rfl, b1.own, (Ext.alloc _ _).trans x1⟩
end Go.Proofs.YtdlobdbclgcogaaDoor
