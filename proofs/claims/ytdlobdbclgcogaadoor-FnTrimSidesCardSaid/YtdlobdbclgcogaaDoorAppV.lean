/- append of a slice that came in to a row of the call's own, for any elements; the contract of laws.test. Conditions: lengths within 2^45 runes. -/
import Derived.Test.YtdlobdbclgcogaaDoorExactM
namespace Go.Proofs.YtdlobdbclgcogaaDoor
open Go.RowKit

theorem owns_keepFr {B lo hi : Nat} {e : TypeId} {size : Nat} {w w' : World} {v : Value} {n : Nat} {xs : List Value} (h : w.ownsRow B e size v n xs) (x : Fr lo hi w w') (hd : hi ≤ B) : w'.ownsRow B e size v n xs := by
  have hlt := owns_lt h
  obtain ⟨h1, h2⟩ := h
  refine ⟨h1, ?_⟩
  rcases h2 with h2 | ⟨g, cap, cur, hv, hg, hh, r⟩
  · exact .inl h2
  · refine .inr ⟨g, cap, cur, hv, hg, ?_, r⟩
    rw [x.block g (hlt g (by rw [hv]; rfl)).2 (by omega)]; exact hh

theorem ext_of_grown {w w' : World} {row : Option Nat} (h : w.grownBy w' row) (hr : ∀ k, row = some k → w.heap.size ≤ k) : Ext w w' :=
  ⟨⟨h.os, h.tape, h.output, h.size, fun k hk => h.block k hk (fun e => by have := hr k e.symm; omega)⟩⟩

theorem run_appendVs {P : Program} {w : World} (t ty e : TypeId) (size bytes : Nat) (z : Value) (ht : P.underlying t = some (.slice e)) (hinfo : (P.info? e).map (fun i => (i.zero, i.size, i.bytes)) = some (some z, size, bytes)) (hzs : z.cells.size = size) (hsz : 0 < size)
    (B : Nat) (v : Value) (n : Nat) (xs : List Value) (hv : w.ownsRow B e size v n xs) (sv : Value) (m : Nat) (news : List Value) (hs : Vs w sv m size news) (h1 : ∀ u ∈ news, u.oneCell' = true)
    (hlen : (n + m) * bytes ≤ 140737488355328) (hlen2 : n + m ≤ 140737488355328) (hB : B ≤ w.heap.size) :
    ∃ v' w', (Builtin.append_ #[t, t] ty #[v, sv]).run P w = .ok v' w' ∧ w'.ownsRow B e size v' (n + m) (xs ++ news) ∧ w.grownBy w' v.ownBlock := by
  obtain ⟨i, hi, hzz⟩ := Option.map_eq_some_iff.1 hinfo
  simp only [Prod.mk.injEq] at hzz
  obtain ⟨hz, hsi, hby⟩ := hzz
  obtain ⟨hnl, a, c, rfl, k1, k2, k3⟩ := hs
  have hm : n + m ≤ maxLen := by unfold maxLen; omega
  have fin : ∀ (ad : Addr), (∀ j u, news[j]? = some u → w.cell? (ad.add j) = some u) → ∃ v' w', (Builtin.append_ #[t, t] ty #[v, .slice (some ad) m c]).run P w = .ok v' w' ∧ w'.ownsRow B e size v' (n + m) (xs ++ news) ∧ w.grownBy w' v.ownBlock := by
    intro ad had
    obtain ⟨v', w', hr, h2, h3, _⟩ := run_append_own (P := P) w B t ty e i z size bytes ht hi hz hsi hby hzs hsz v n xs hv ad m c news hnl had h1 hm hlen hB
    exact ⟨v', w', hr, h2, h3⟩
  rcases k3 with rfl | ⟨b, o, rfl, hc⟩
  · have h0 : m = 0 := by
      rcases Nat.eq_zero_or_pos m with h | h
      · exact h
      · have := Nat.mul_pos h hsz
        simp at hnl; omega
    subst h0
    cases a with
    | some ad => exact fin ad (fun j u hu => by simp at hu)
    | none =>
      refine ⟨v, w, ?_, by simpa using hv, World.grownBy.refl _ _⟩
      exact run_append_owned_none' (P := P) (w := w) B t ty e i size ht hi v n xs hv c
  · exact fin _ (fun j u hu => by
      obtain ⟨hj, he⟩ := List.getElem?_eq_some_iff.1 hu
      rw [Addr.add_lit, hc j hj, he])

/-- 'append(v, sv...)'. -/
theorem wpList_appendVs {P : Program} {ops : Array Oper} {rest : List Oper} {o : Oper} {a : Act} {Q : Exit → Act → World → Prop} {w : World}
    (hw : Region.wanted o (yielded ops a.tmps) = true) (t : TypeId) (x y : Operand) (hop : o.op = Op.call { callee := .builtin .append, args := #[x, y], argTypes := #[t, t] })
    (e : TypeId) (size bytes : Nat) (z : Value) (ht : P.underlying t = some (.slice e)) (hinfo : (P.info? e).map (fun i => (i.zero, i.size, i.bytes)) = some (some z, size, bytes)) (hzs : z.cells.size = size) (hsz : 0 < size)
    (B : Nat) (v : Value) (n : Nat) (xs : List Value) (hx : a.eval x = v) (hv : w.ownsRow B e size v n xs) (sv : Value) (m : Nat) (news : List Value) (hy : a.eval y = sv) (hs : Vs w sv m size news) (h1 : ∀ u ∈ news, u.oneCell' = true)
    (hlen : (n + m) * bytes ≤ 140737488355328) (hlen2 : n + m ≤ 140737488355328) (hB : B ≤ w.heap.size)
    (hK : ∀ v' w', w'.ownsRow B e size v' (n + m) (xs ++ news) → w.grownBy w' v.ownBlock → wpList P ops Q rest (a.put o.dst v') w') : wpList P ops Q (o :: rest) a w := by
  refine wpList_step fun K hK' => ?_
  rw [if_pos hw]
  obtain ⟨v', w', hr, h2, h3⟩ := run_appendVs (P := P) (w := w) t o.type e size bytes z ht hinfo hzs hsz B v n xs hv sv m news hs h1 hlen hlen2 hB
  unfold Oper.wp execOp
  simp only [hop, resolve, invoke, builtin, Sem.run_bind, Sem.run_pure, Result.andThen_ok, List.map_toArray, List.map_cons, List.map_nil, hx, hy, hr]
  exact hK' _ _ (hK v' w' h2 h3)

theorem ints_one (rs : List Int) : ∀ u ∈ rs.map (Value.int .i32), u.oneCell' = true := by
  intro u hu
  obtain ⟨r, _, rfl⟩ := List.mem_map.1 hu
  rfl

/-- The answer of a call that makes a test: its runes lie in memory that the call made. -/
def RetTest (w : World) (rs : List Int) (nt : Bool) (e : Ending) (w' : World) : Prop := ∃ v, e = .returned (.agg #[v, .bool nt]) ∧ Is w' v rs ∧ Ext w w'

set_option maxRecDepth 100000 in
theorem laws_test (v : Value) (rs : List Int) (nt : Bool) (w : World) (h : Is w v rs) (hl : rs.length ≤ 35184372088832) :
    Calls Tryd.prog 19 #[v, .bool nt] w (RetTest w rs nt) := by
  have h0 := fun A => h.ext (Ext.alloc w A)
  obtain ⟨n, hn⟩ : ∃ n, w.heap.size = n := ⟨_, rfl⟩
  go_enter Tryd.func19, Tryd.ntmps19
  go_wp2_with (refine wpList_appendVs rfl 22 _ _ rfl 21 1 4 _ Tryd.underlying22 info_i32 rfl (by omega) (n + 1) _ 0 [] rfl (World.ownsRow_nil _ _ _ _) _ rs.length _ rfl (h0 _) (ints_one rs) (by omega) (by omega) (by simp [hn]) ?_)
  intro v2 w2 o2 g2
  have x2 : Ext (w.alloc (.cells #[.slice none 0 0, .bool false] 36)) w2 := ext_of_grown g2 (by intro k hk; simp [Value.ownBlock] at hk)
  have i2 := vs_of_owns o2
  obtain ⟨_, a2, c2, rfl, _, _, _⟩ := i2
  have b0 : w2.heap[n]? = some (.cells #[.slice none 0 0, .bool false] 36 (0, 0)) := by
    rw [x2.block (k := n) (by simp [hn]), ← hn]
    exact heap_alloc_new w _
  have s20 : w2.cell? ⟨n, 0, none⟩ = some (.slice none 0 0) := by simp [World.cell?, b0]
  have s21 : w2.cell? ⟨n, 1, none⟩ = some (.bool false) := by simp [World.cell?, b0]
  have z20 : w2.frozen? ⟨n, 0, none⟩ = false := by simp [World.frozen?, b0]
  have z21 : w2.frozen? ⟨n, 1, none⟩ = false := by simp [World.frozen?, b0]
  have HB := Lib.hid b0
  have HO := Lib.hid o2
  have HX := Lib.hid x2
  have HN := Lib.hid hn
  clear b0 o2 x2 g2 hn h h0
  go_wp2_with fail
  (try simp only [Exit.inBlock, Exit.then])
  have hf := HB.out
  refine bodyPost_ret (results_cell_row rfl _ _ n 36 #[.slice a2 rs.length c2, .bool nt] (0, 0) _ rfl ?_ Tryd.underlying36 rfl (by kernel_rfl)) rfl ?_
  · simp only [World.setCell, Array.getElem?_modify]
    simp [hf]
  · have hfr : Fr n (n + 1) w2 ((w2.setCell ⟨n, 0, none⟩ (.slice a2 rs.length c2)).setCell ⟨n, 1, none⟩ (.bool nt)) :=
      (Fr.setCell (by simp) (by simp) _).trans (Fr.setCell (by simp) (by simp) _)
    refine ⟨_, rfl, ?_, ?_⟩
    · have := vs_of_owns (owns_keepFr HO.out hfr (Nat.le_refl _))
      exact this
    · refine ⟨?_⟩
      have hb := ((Ext.alloc w _).trans HX.out).below
      exact below_fr hb hfr (.inl (by rw [HN.out]; exact Nat.le_refl _)) ((Ext.alloc w _).trans HX.out).size
end Go.Proofs.YtdlobdbclgcogaaDoor
