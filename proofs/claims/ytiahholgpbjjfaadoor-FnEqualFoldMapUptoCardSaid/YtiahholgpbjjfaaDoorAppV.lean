/- append of a slice that came in to a row of the call's own, for any elements; the contract of laws.test. Conditions: lengths within 2^45 runes. -/
import Derived.Test.YtiahholgpbjjfaaDoorExactM
namespace Go.Proofs.YtiahholgpbjjfaaDoor
open Go.RowKit

theorem owns_keepFr {B lo hi : Nat} {e : TypeId} {size : Nat} {w w' : World} {v : Value} {n : Nat} {xs : List Value} (h : w.ownsRow B e size v n xs) (x : Fr lo hi w w') (hd : hi ≤ B) : w'.ownsRow B e size v n xs := by
  have hlt := owns_lt h
  obtain ⟨h1, h2⟩ := h
  refine ⟨h1, ?_⟩
  rcases h2 with h2 | ⟨g, cap, cur, hv, hg, hh, r⟩
  · exact .inl h2
  · refine .inr ⟨g, cap, cur, hv, hg, ?_, r⟩
    rw [x.block g (hlt g (by rw [hv]; rfl)).2 (by omega)]; exact hh

theorem ext_of_grown {w w' : World} {row : Option Nat} (h : w.grownBy w' row) (hr : ∀ k, row = some k → w.heap.size ≤ k) : Ext w w' :=
  ⟨⟨h.os, h.tape, h.output, h.size, fun k hk => h.block k hk (fun e => by have := hr k e.symm; omega)⟩⟩

theorem run_appendVs {P : Program} {w : World} (t ty e : TypeId) (size bytes : Nat) (z : Value) (ht : P.underlying t = some (.slice e)) (hinfo : (P.info? e).map (fun i => (i.zero, i.size, i.bytes)) = some (some z, size, bytes)) (hzs : z.cells.size = size) (hsz : 0 < size)
    (B : Nat) (v : Value) (n : Nat) (xs : List Value) (hv : w.ownsRow B e size v n xs) (sv : Value) (m : Nat) (news : List Value) (hs : Vs w sv m size news) (h1 : ∀ u ∈ news, u.oneCell' = true)
    (hlen : (n + m) * bytes ≤ 140737488355328) (hlen2 : n + m ≤ 140737488355328) (hB : B ≤ w.heap.size) :
    ∃ v' w', (Builtin.append_ #[t, t] ty #[v, sv]).run P w = .ok v' w' ∧ w'.ownsRow B e size v' (n + m) (xs ++ news) ∧ w.grownBy w' v.ownBlock := by
  obtain ⟨i, hi, hzz⟩ := Option.map_eq_some_iff.1 hinfo
  simp only [Prod.mk.injEq] at hzz
  obtain ⟨hz, hsi, hby⟩ := hzz
  obtain ⟨hnl, a, c, rfl, k1, k2, k3⟩ := hs
  have hm : n + m ≤ maxLen := by unfold maxLen; omega
  have fin : ∀ (ad : Addr), (∀ j u, news[j]? = some u → w.cell? (ad.add j) = some u) → ∃ v' w', (Builtin.append_ #[t, t] ty #[v, .slice (some ad) m c]).run P w = .ok v' w' ∧ w'.ownsRow B e size v' (n + m) (xs ++ news) ∧ w.grownBy w' v.ownBlock := by
    intro ad had
    obtain ⟨v', w', hr, h2, h3, _⟩ := run_append_own (P := P) w B t ty e i z size bytes ht hi hz hsi hby hzs hsz v n xs hv ad m c news hnl had h1 hm hlen hB
    exact ⟨v', w', hr, h2, h3⟩
  rcases k3 with rfl | ⟨b, o, rfl, hc⟩
  · have h0 : m = 0 := by
      rcases Nat.eq_zero_or_pos m with h | h
      · exact h
      · have := Nat.mul_pos h hsz
        simp at hnl; omega
    subst h0
    cases a with
    | some ad => exact fin ad (fun j u hu => by simp at hu)
    | none =>
      refine ⟨v, w, ?_, by simpa using hv, World.grownBy.refl _ _⟩
      exact run_append_owned_none' (P := P) (w := w) B t ty e i size ht hi v n xs hv c
  · exact fin _ (fun j u hu => by
      obtain ⟨hj, he⟩ := List.getElem?_eq_some_iff.1 hu
      rw [Addr.add_lit, hc j hj, he])

/-- 'append(v, sv...)'. -/
theorem wpList_appendVs {P : Program} {ops : Array Oper} {rest : List Oper} {o : Oper} {a : Act} {Q : Exit → Act → World → Prop} {w : World}
    (hw : Region.wanted o (yielded ops a.tmps) = true) (t : TypeId) (x y : Operand) (hop : o.op = Op.call { callee := .builtin .append, args := #[x, y], argTypes := #[t, t] })
    (e : TypeId) (size bytes : Nat) (z : Value) (ht : P.underlying t = some (.slice e)) (hinfo : (P.info? e).map (fun i => (i.zero, i.size, i.bytes)) = some (some z, size, bytes)) (hzs : z.cells.size = size) (hsz : 0 < size)
    (B : Nat) (v : Value) (n : Nat) (xs : List Value) (hx : a.eval x = v) (hv : w.ownsRow B e size v n xs) (sv : Value) (m : Nat) (news : List Value) (hy : a.eval y = sv) (hs : Vs w sv m size news) (h1 : ∀ u ∈ news, u.oneCell' = true)
    (hlen : (n + m) * bytes ≤ 140737488355328) (hlen2 : n + m ≤ 140737488355328) (hB : B ≤ w.heap.size)
    (hK : ∀ v' w', w'.ownsRow B e size v' (n + m) (xs ++ news) → w.grownBy w' v.ownBlock → wpList P ops Q rest (a.put o.dst v') w') : wpList P ops Q (o :: rest) a w := by
  refine wpList_step fun K hK' => ?_
  rw [if_pos hw]
  obtain ⟨v', w', hr, h2, h3⟩ := run_appendVs (P := P) (w := w) t o.type e size bytes z ht hinfo hzs hsz B v n xs hv sv m news hs h1 hlen hlen2 hB
  unfold Oper.wp execOp
  simp only [hop, resolve, invoke, builtin, Sem.run_bind, Sem.run_pure, Result.andThen_ok, List.map_toArray, List.map_cons, List.map_nil, hx, hy, hr]
  exact hK' _ _ (hK v' w' h2 h3)

theorem ints_one (rs : List Int) : ∀ u ∈ rs.map (Value.int .i32), u.oneCell' = true := by
  intro u hu
  obtain ⟨r, _, rfl⟩ := List.mem_map.1 hu
  rfl

end Go.Proofs.YtiahholgpbjjfaaDoor
