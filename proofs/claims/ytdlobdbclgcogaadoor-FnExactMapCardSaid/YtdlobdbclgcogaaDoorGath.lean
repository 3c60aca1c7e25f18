/- The walk of impl.gathered: a range over an iterator that gathers copies of the slices that it yields. The iterator may write variables of its own. -/
import Derived.Test.YtdlobdbclgcogaaDoorMonoIn
import Derived.Test.YtdlobdbclgcogaaDoorFieldsP
import Derived.RangeFuncNested
import Derived.RangeFuncBound
import Derived.RangeFuncCalls
import Derived.RangeFuncLeaves
import Derived.Shelf.Abstract
import Derived.Shelf.RegionOpen
import Derived.OwnWalkIn
import Derived.TacticsInMore
import Derived.LoopNIn
import Derived.LoopIn
namespace Go.Proofs.YtdlobdbclgcogaaDoor
open Go.RowKit Go.Shelf

/-- What is no row of cells lies as it lay. -/
def KeepN (W W' : World) : Prop := ∀ (k : Nat) (o : Obj), W.heap[k]? = some o → o.isCells = false → W'.heap[k]? = some o
theorem KeepN.ext {W W' : World} (x : Ext W W') : KeepN W W' := fun _ _ h _ => (x.block (Array.getElem?_eq_some_iff.1 h).1).trans h
theorem KeepN.trans {A B C : World} (h : KeepN A B) (k : KeepN B C) : KeepN A C := fun i o hi ho => k i o (h i o hi ho) ho
theorem KeepN.setCell {W : World} {p : Addr} {u : Value} (h : W.cell? p = some u) (v : Value) : KeepN W (W.setCell p v) := by
  intro k o hk ho
  have hne : k ≠ p.block := by
    rintro rfl
    unfold World.cell? at h
    rw [hk] at h
    cases o <;> first | (simp at h; done) | exact Bool.noConfusion ho
  exact (Below.heap_setCell _ _ _ _ hne).trans hk
theorem KeepN.grown {B : Nat} {e : TypeId} {size : Nat} {w w' : World} {v : Value} {n : Nat} {xs : List Value} (h : w.ownsRow B e size v n xs) (hg : w.grownBy w' v.ownBlock) : KeepN w w' := by
  intro k o hk ho
  refine (hg.block k (Array.getElem?_eq_some_iff.1 hk).1 ?_).trans hk
  intro e1
  rcases h.2 with ⟨rfl, _⟩ | ⟨g, cap, cur, rfl, _, hh, _⟩
  · cases e1
  · have : g = k := (by simpa [Value.ownBlock] using e1 : k = g).symm
    subst this
    rw [hh] at hk
    injection hk with hk
    subst hk
    cases ho

theorem putObj_other {W : World} {k : Nat} (o' : Obj) {i : Nat} (h : i ≠ k) : (W.putObj k o').heap[i]? = W.heap[i]? := World.putObj_heap_other h

/-- An iterator: it yields slices that hold the texts LL, one by one; it may make memory, and write blocks from m up to n0. N: a bound of their number, S: of their size. -/
def IterOK (P : Program) (gf : FuncId) (lb : Array Value) (m n0 N S : Nat) (w : World) (LL : List (List UInt8)) : Prop :=
  ∀ (n l : Nat) (J : List (List UInt8) → World → Prop) (W : World), Ext w W → (∀ L W W', J L W → Ext W W' → J L W') → (∀ L W p v, J L W → m ≤ p.block → p.block < n0 → J L (W.setCell p v)) →
    (∀ L x t W1, J L W1 → Bs W1 x t → t.length ≤ S → L.length < N → YieldAt Fence.wide (n - 1) P l #[x] W1 fun e W' => e = .returned (.bool true) ∧ J (L ++ [t]) W' ∧ Below n0 W1 W') →
    J [] W → CallsIn Fence.wide n P gf (#[.func (.yield l) #[] #[]] ++ lb) W fun e W' => (∃ v, e = .returned v) ∧ J LL W'

def gatherPost (n0 : Nat) (Inv : List (List UInt8) → World → Prop) (L : List (List UInt8)) (W : World) : Exit → Act → World → Prop
  | .normal, _, W' => KeepN W W' ∧ Below n0 W W' ∧ Inv L W'
  | _, _, _ => False

theorem wpIn_gather {P : Program} {g : Operand} {ps : Array Tmp} {assign body : Code} {Q : Exit → Act → World → Prop} {a : Act} {w w0 : World} {n : Nat}
    {gf : Nat} {lb : Array Value} (hg : a.eval g = .func (.func gf) #[] lb) (eg : ∀ args w, (callFunc gf args).run P w = .ok (.enter gf args) w) (hps : ps.size = 1)
    {m n0 N S : Nat} (hn0 : n0 ≤ w.heap.size) {LL : List (List UInt8)} (hseq : IterOK P gf lb m n0 N S w0 LL) (hx0 : Ext w0 w)
    (Inv : List (List UInt8) → World → Prop) (hE : ∀ L W W', Inv L W → Ext W W' → Inv L W') (hS : ∀ L W p v, Inv L W → m ≤ p.block → p.block < n0 → Inv L (W.setCell p v))
    (hP : ∀ L W k o o', Inv L W → w.heap.size ≤ k → W.heap[k]? = some o → o.isCells = false → Inv L (W.putObj k o')) (h0 : Inv [] w) (a₁ : Value → Act)
    (hassign : ∀ (l : Nat) (x : Value) (W : World) (K : Act → World → Prop), K (a₁ x) W →
      assign.wpIn (Fence.wide.inRound l) (n - 1 - 1) P (Exit.then K (fun _ _ _ => False)) { tmps := (ps.zip #[x]).foldl (fun t (p, v) => t.setIfInBounds p v) a.tmps, defers := [] } W)
    (hbody : ∀ (l : Nat) (L : List (List UInt8)) (x : Value) (t : List UInt8) (W : World), Inv L W → Bs W x t → t.length ≤ S → L.length < N → body.wpIn (Fence.wide.inRound l) (n - 1 - 1) P (gatherPost n0 Inv (L ++ [t]) W) (a₁ x) W)
    (hdone : ∀ (D : Nat) (W : World), w.heap.size ≤ D → Inv LL W → W.heap[D]? = some (.deferred (some [])) → Q .normal { a with defers := { target := .collected D, args := #[] } :: a.defers } W) :
    (Code.rangeFunc g ps assign body).wpIn Fence.wide n P Q a w := by
  refine wpIn_rangeFunc ?_
  intro fn hfn
  obtain ⟨B, hB⟩ : ∃ B, w.heap.size = B := ⟨_, rfl⟩
  obtain ⟨rec, hrec⟩ : ∃ rec : LoopState → Loop, rec = fun st => { state := st, pending := none, fn, tmps := a.tmps, params := ps, assign, body, defers := B } := ⟨_, rfl⟩
  obtain ⟨W1, hW1⟩ : ∃ W1, (w.alloc (.deferred (some []))).alloc (.loop (rec .ready)) = W1 := ⟨_, rfl⟩
  have xW : Ext w W1 := by rw [← hW1]; exact (Ext.alloc _ _).trans (Ext.alloc _ _)
  have hL1 : W1.heap[B + 1]? = some (.loop (rec .ready)) := by
    have := World.alloc_heap_new (w.alloc (.deferred (some []))) (.loop (rec .ready))
    rw [World.size_alloc, hB] at this
    rw [← hW1]; exact this
  have hK1 : W1.heap[B]? = some (.deferred (some [])) := by
    rw [← hW1, ← hB]
    exact (Below.heap_alloc _ _ _ (by simp)).trans (World.alloc_heap_new w _)
  refine ⟨B + 1, [{ target := .collected B, args := #[] }], W1, { target := .fn (.func gf) lb, args := #[.func (.yield (B + 1)) #[] #[]] }, W1, gf, #[.func (.yield (B + 1)) #[] #[]] ++ lb, W1, ?_, ?_, fun _ _ => trivial, ?_, (fun h => Bool.noConfusion h), ?_⟩
  · rw [← hW1, hrec, ← hB]
    exact run_enterLoop_outer _ _ _ _ _
  · simp only [resolve, hg]
    simp [go_sem]
  · simp [invoke, go_sem, eg]
  have hbelow : ∀ (W : World) (k : Nat) (o o' : Obj), B ≤ k → W.heap[k]? = some o → o.isCells = false → o.isWalk = false → Below n0 W (W.putObj k o') := fun W k o o' hk h h1 h2 => belowK_b (w := w) hn0 W k o o' (by omega) h h1 h2
  refine (hseq (n - 1) (B + 1) (fun L W => Inv L W ∧ W.heap[B + 1]? = some (.loop (rec .ready)) ∧ W.heap[B]? = some (.deferred (some []))) W1 (hx0.trans xW) ?_ ?_ ?_ ⟨hE _ _ _ h0 xW, hL1, hK1⟩).mono ?_
  · rintro L W W' ⟨q1, q2, q3⟩ x
    exact ⟨hE _ _ _ q1 x, KeepN.ext x _ _ q2 rfl, KeepN.ext x _ _ q3 rfl⟩
  · rintro L W p v ⟨q1, q2, q3⟩ hp1 hp2
    exact ⟨hS _ _ _ _ q1 hp1 hp2, (Below.heap_setCell _ _ _ _ (by omega)).trans q2, (Below.heap_setCell _ _ _ _ (by omega)).trans q3⟩
  · rintro L x t W ⟨q1, q2, q3⟩ hb ht hlen
    have hlt : B + 1 < W.heap.size := (Array.getElem?_eq_some_iff.1 q2).1
    have hy := run_yield (P := P) (args := #[x]) q2 (by rw [hrec]; simpa using hps.symm)
    rw [hrec] at hy
    refine ⟨fn, _, assign, body, hy, roundIn_of_wpIn trivial (hassign _ x W _ ⟨_, run_beginRound q2 (by rw [hrec]), ?_⟩)⟩
    have r2 : (W.putObj (B + 1) (.loop { rec .ready with state := .busy })).heap[B + 1]? = some (.loop { rec .ready with state := .busy }) := World.putObj_heap_same hlt
    have r3 : (W.putObj (B + 1) (.loop { rec .ready with state := .busy })).heap[B]? = some (.deferred (some [])) := (World.putObj_heap_other (by omega)).trans q3
    have b1 := hbelow W (B + 1) _ (.loop { rec .ready with state := .busy }) (by omega) q2 rfl rfl
    have hb' : Bs (W.putObj (B + 1) (.loop { rec .ready with state := .busy })) x t := by
      obtain ⟨ad, c, hv, k1, k2, k3⟩ := hb
      refine ⟨ad, c, hv, k1, k2, ?_⟩
      rcases k3 with k3 | ⟨b, o, ha, hc⟩
      · exact .inl k3
      · refine .inr ⟨b, o, ha, fun i hi => ?_⟩
        have h1 := hc i hi
        have hne : b ≠ B + 1 := by
          rintro rfl
          unfold World.cell? at h1
          simp only at h1
          rw [q2] at h1
          simp at h1
        exact (World.cell?_of_block (a := ⟨b, o + i, none⟩) (putObj_other _ hne)).trans h1
    refine wpIn_mono (hbody _ L x t _ (hP _ _ _ _ _ q1 (by omega) q2 rfl) hb' ht hlen) ?_
    rintro e a3 W3 hp
    cases e with
    | normal =>
      obtain ⟨kk, b2, i3⟩ := hp
      have s2 := kk _ _ r2 rfl
      have s3 := kk _ _ r3 rfl
      have hr := run_endRound (P := P) none s2
      have hlt3 : B + 1 < W3.heap.size := (Array.getElem?_eq_some_iff.1 s2).1
      refine ⟨_, _, hr, rfl, ⟨hP _ _ _ _ _ i3 (by omega) s2 rfl, ?_, (World.putObj_heap_other (by omega)).trans s3⟩, (b1.trans b2).trans (hbelow W3 (B + 1) _ _ (by omega) s2 rfl rfl)⟩
      rw [World.putObj_heap_same hlt3, hrec]
      rfl
    | ret => exact hp.elim
    | exit id => exact hp.elim
    | goto t => exact hp.elim
    | panic ch => exact hp.elim
    | outgrown => exact hp.elim
  · rintro e W2 ⟨⟨v, rfl⟩, q1, q2, q3⟩
    have hr := run_endLoop (P := P) q2 (by rw [hrec]; simp)
    have hp : (rec .ready).pending = none := by rw [hrec]
    rw [hp] at hr
    exact ⟨none, _, hr, hdone B _ (by omega) (hP _ _ _ _ _ q1 (by omega) q2 rfl) ((World.putObj_heap_other (by omega)).trans q3)⟩
end Go.Proofs.YtdlobdbclgcogaaDoor
