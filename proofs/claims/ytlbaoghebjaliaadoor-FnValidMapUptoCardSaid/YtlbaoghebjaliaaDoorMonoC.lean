/- A region that draws its order, by obligations of its operations, for a relation of worlds; slices of bytes of a constant string. Printed by monoc.py. -/
import Derived.Test.YtlbaoghebjaliaaDoorMono
import Derived.Test.YtlbaoghebjaliaaDoorTable
namespace Go.Proofs.YtlbaoghebjaliaaDoor
open Go.RowKit
section
variable {P : Program} {ops : Array Oper} {Q : Exit → Act → World → Prop}

def StepOkR (R : World → World → Prop) (P : Program) (ops : Array Oper) (Q : Exit → Act → World → Prop) (ds : List Nat) (a : Act) (w : World) (Φ : Nat → Value → World → Prop) (i : Nat) (o : Oper) : Prop :=
  ∀ us : List Value, us.length = ds.length → ∀ w', R w w' → (∀ j, (deps o).contains j = true → Φ j (us.getD j undef) w') →
    wpList P ops (postK Q (fun a' w'' => ∃ v, a' = (over ds us a).put o.dst v ∧ Φ i v w'' ∧ R w' w'')) [o] (over ds us a) w'

theorem any_monoR (ds : List Nat) (hd : ops.toList.map (·.dst) = ds.map some) (hnd : ds.Nodup) (hac : acyc 0 ops.toList = true) (a : Act) (w : World)
    (R : World → World → Prop) (hRt : ∀ a b c, R a b → R b c → R a c) (Φ : Nat → Value → World → Prop) (hΦ : ∀ i v w w', Φ i v w → R w w' → Φ i v w')
    (steps : AllSteps (StepOkR R P ops Q ds a w Φ) 0 ops.toList)
    (fin : ∀ us : List Value, us.length = ds.length → ∀ w', R w w' → (∀ i, i < ds.length → Φ i (us.getD i undef) w') → Q .normal (over ds us a) w') :
    ∀ (fuel : Nat) (listed : Array Bool) (us : List Value) (w' : World), listed.size = ops.size → us.length = ds.length → R w w' → (∀ i, listed.getD i false = true → Φ i (us.getD i undef) w') →
      (listed.toList.filter (! ·)).length ≤ fuel → wpAny P .any ops Q fuel listed (over ds us a) w' := by
  have hlen : ds.length = ops.size := by
    have := congrArg List.length hd
    simpa using this.symm
  -- where nothing may come up all have come up
  have done : ∀ listed : Array Bool, listed.size = ops.size → Region.ready .any ops listed = [] → ∀ i, i < ops.size → listed.getD i false = true := by
    intro listed hs hr i
    induction i using Nat.strongRecOn with
    | ind i ih =>
      intro hi
      cases hl : listed.getD i false with
      | true => rfl
      | false =>
        exfalso
        have ho : ops[i]? = some ops[i] := Array.getElem?_eq_getElem hi
        have : i ∈ Region.ready .any ops listed := by
          rw [mem_ready]
          refine ⟨?_, ops[i], ho, fun e he hb => ?_⟩
          · have : i < listed.size := by omega
            simpa [Array.getD, this] using hl
          · have hj : e.on ∈ deps ops[i] := List.mem_map.2 ⟨e, List.mem_filter.2 ⟨by simpa using he, hb⟩, rfl⟩
            have := acyc_at ops.toList 0 i ops[i] hac (by simp) e.on hj
            exact ih e.on (by omega) (by omega)
        rw [hr] at this
        cases this
  have finish : ∀ (listed : Array Bool) (us : List Value) (w' : World), listed.size = ops.size → us.length = ds.length → R w w' → (∀ i, listed.getD i false = true → Φ i (us.getD i undef) w') → Region.ready .any ops listed = [] → Q .normal (over ds us a) w' :=
    fun listed us w' hs hu hx hall hr => fin us hu w' hx (fun i hi => hall i (done listed hs hr i (by omega)))
  intro fuel
  induction fuel with
  | zero =>
    intro listed us w' hs hu hx hall hf
    have hr : Region.ready .any ops listed = [] := by
      cases hr : Region.ready .any ops listed with
      | nil => rfl
      | cons j t =>
        exfalso
        have hj : j ∈ Region.ready .any ops listed := by rw [hr]; exact List.mem_cons_self ..
        obtain ⟨h0, o, ho, _⟩ := mem_ready.1 hj
        have hjlt : j < ops.size := (Array.getElem?_eq_some_iff.1 ho).1
        have hjl : j < listed.size := by omega
        have hm : listed[j] ∈ listed.toList.filter (! ·) := List.mem_filter.2 ⟨by simp, by simpa [Array.getD, hjl] using h0⟩
        have := List.length_pos_of_mem hm
        omega
    exact ⟨hr, finish listed us w' hs hu hx hall hr⟩
  | succ fuel ih =>
    intro listed us w' hs hu hx hall hf
    refine ⟨fun hr => finish listed us w' hs hu hx hall hr, fun i hi => ?_⟩
    obtain ⟨h0, o, ho, hde⟩ := mem_ready.1 hi
    have hilt : i < ops.size := (Array.getElem?_eq_some_iff.1 ho).1
    have hil : i < listed.size := by omega
    have hids : i < ds.length := by omega
    have hst := AllSteps.at ops.toList 0 i o steps (by simpa using ho)
    rw [Nat.zero_add] at hst
    have hdst : o.dst = some ds[i] := by
      have h1 : (ops.toList.map (·.dst))[i]? = some o.dst := by rw [List.getElem?_map]; simp [ho]
      rw [hd, List.getElem?_map, List.getElem?_eq_getElem hids] at h1
      simpa using h1.symm
    have h1 := hst us hu w' hx (fun j hj => by
      have hj' : j ∈ deps o := by simpa using hj
      obtain ⟨e, he, rfl⟩ := List.mem_map.1 hj'
      obtain ⟨he1, he2⟩ := List.mem_filter.1 he
      exact hall e.on (hde e (by simpa using he1) he2))
    refine wpOp_mono ?_ (wpOp_of_list ho h1)
    rintro a' w'' ⟨v, rfl, hv, hx'⟩
    rw [hdst, ← over_set a ds us i hids v hnd hu]
    refine ih _ _ _ (by simpa using hs) (by simpa using hu) (hRt _ _ _ hx hx') ?_ ?_
    · intro j hj
      by_cases hij : i = j
      · subst hij
        have e : (us.set i v).getD i undef = v := by
          rw [List.getD_eq_getElem?_getD, List.getElem?_set_self (by omega)]; rfl
        rw [e]; exact hv
      · have e : (us.set i v).getD j undef = us.getD j undef := by
          rw [List.getD_eq_getElem?_getD, List.getElem?_set_ne hij, ← List.getD_eq_getElem?_getD]
        rw [e]
        refine hΦ _ _ _ _ (hall j ?_) hx'
        rwa [getD_set_ne false hij] at hj
    · have hcnt : ((listed.setIfInBounds i true).toList.filter (! ·)).length + 1 = (listed.toList.filter (! ·)).length := by
        have hli : listed[i] = false := by simpa [Array.getD, hil] using h0
        have e1 : listed.toList = listed.toList.take i ++ listed[i] :: listed.toList.drop (i + 1) := by
          have := List.take_append_drop i listed.toList
          rw [List.drop_eq_getElem_cons (by simpa using hil)] at this
          simpa using this.symm
        have e2 : (listed.setIfInBounds i true).toList = listed.toList.take i ++ true :: listed.toList.drop (i + 1) := by
          rw [Array.toList_setIfInBounds, List.set_eq_take_append_cons_drop, if_pos (by simpa using hil)]
        rw [e2]
        conv => rhs; rw [e1, hli]
        simp only [List.filter_append, List.filter_cons, Bool.not_true, Bool.false_eq_true, if_false, Bool.not_false, if_true, List.length_append, List.length_cons]
        omega
      omega

/-- A region that draws its order, by obligations of its operations. -/
theorem wp_region_monoR {id : Nat} {a : Act} {w : World} (hm : P.follows .mixedOrders = true) (ds : List Nat) (hd : ops.toList.map (·.dst) = ds.map some) (hnd : ds.Nodup) (hb : ∀ d ∈ ds, d < a.tmps.size)
    (hac : acyc 0 ops.toList = true) (R : World → World → Prop) (hR0 : ∀ w : World, R w { w with drawn := w.drawn + 1 }) (hRt : ∀ a b c, R a b → R b c → R a c) (Φ : Nat → Value → World → Prop) (hΦ : ∀ i v w w', Φ i v w → R w w' → Φ i v w')
    (steps : AllSteps (StepOkR R P ops Q ds a w Φ) 0 ops.toList)
    (fin : ∀ us : List Value, us.length = ds.length → ∀ w', R w w' → (∀ i, i < ds.length → Φ i (us.getD i undef) w') → Q .normal (over ds us a) w') :
    (Code.region id ops true).wp P Q a w := by
  refine wp_region_any hm ?_
  have x0 := hR0 w
  have := any_monoR ds hd hnd hac a w R hRt Φ hΦ steps fin ops.size (Array.replicate ops.size false) (ds.map fun d => a.tmps.getD d undef) { w with drawn := w.drawn + 1 } (by simp) (by simp) x0 (fun i hi => by
    exfalso
    rcases Nat.lt_or_ge i ops.size with h | h
    · simp [Array.getD, h] at hi
    · simp [Array.getD, Nat.not_lt.2 h] at hi) (by simp)
  rwa [over_self a ds hb] at this
end



/-- Cells stay, blocks below N stay; there may be more. -/
structure Rc (N : Nat) (a b : World) : Prop where
  below : Below N a b
  cell : ∀ p v, a.cell? p = some v → b.cell? p = some v
theorem Rc.refl (N : Nat) (w : World) : Rc N w w := ⟨Below.refl _ _, fun _ _ h => h⟩
theorem Rc.trans {N : Nat} {a b c : World} (h : Rc N a b) (k : Rc N b c) : Rc N a c := ⟨h.below.trans k.below, fun p v hp => k.cell p v (h.cell p v hp)⟩
theorem Rc.ext {N : Nat} {a b : World} (x : Ext a b) (h : N ≤ a.heap.size) : Rc N a b := ⟨x.below.mono h, fun _ _ hp => x.cell hp⟩
theorem Rc.drew (N : Nat) (w : World) : Rc N w { w with drawn := w.drawn + 1 } := ⟨⟨rfl, rfl, rfl, Nat.le_refl _, fun _ _ => rfl⟩, fun _ _ h => h⟩
theorem Bs.rc {N : Nat} {a b : World} {v : Value} {l : List UInt8} (h : Bs a v l) (x : Rc N a b) : Bs b v l := by
  obtain ⟨ad, c, hv, h1, h2, h3⟩ := h
  refine ⟨ad, c, hv, h1, h2, ?_⟩
  rcases h3 with h3 | ⟨k, o, ha, hc⟩
  · exact .inl h3
  · exact .inr ⟨k, o, ha, fun i hi => x.cell _ _ (hc i hi)⟩
theorem Vs.rc {N : Nat} {a b : World} {v : Value} {n size : Nat} {xs : List Value} (h : Vs a v n size xs) (x : Rc N a b) : Vs b v n size xs := by
  obtain ⟨hl, ad, c, hv, h1, h2, h3⟩ := h
  refine ⟨hl, ad, c, hv, h1, h2, ?_⟩
  rcases h3 with h3 | ⟨k, o, ha, hc⟩
  · exact .inl h3
  · exact .inr ⟨k, o, ha, fun i hi => x.cell _ _ (hc i hi)⟩
theorem Ts.rc {N : Nat} {a b : World} {v : Value} {rows : List (Int × Int)} (h : Ts a v rows) (x : Rc N a b) : Ts b v rows := Vs.rc h x
theorem Tabs.rc {N : Nat} {a b : World} (h : Tabs a) (x : Rc N a b) : Tabs b := ⟨fun c hc => x.cell _ _ (h.1 c hc), fun i hi => ⟨x.cell _ _ (h.2 i hi).1, x.cell _ _ (h.2 i hi).2⟩⟩

/-- '[]byte("..")' of a constant: the conversion of the row to its own type marks it; no cell turns. -/
theorem run_mark {P : Program} (W : World) (t e : TypeId) (ht : P.underlying t = some (.slice e)) (he : P.underlying e = some (.int .u8)) (k n c : Nat) :
    ∃ W', (convert t t (.slice (some ⟨k, 0, none⟩) n c)).run P W = .ok (.slice (some ⟨k, 0, none⟩) n c) W' ∧ ∀ N, N ≤ k → Rc N W W' := by
  have hfr : ∀ a : Addr, ∀ N, N ≤ a.block → Rc N W (W.freeze a 1) := by
    intro a N hN
    refine ⟨⟨rfl, rfl, rfl, by simp [World.freeze], fun i hi => ?_⟩, fun p v hp => ?_⟩
    · simp only [World.freeze, Nat.one_ne_zero, if_false, Array.getElem?_modify]
      rw [if_neg (by omega)]
    · unfold World.cell? at hp ⊢
      simp only [World.freeze, Nat.one_ne_zero, if_false, Array.getElem?_modify]
      by_cases hb : a.block = p.block
      · rw [if_pos hb]
        cases hh : W.heap[p.block]? with
        | none => rw [hh] at hp; cases hp
        | some o =>
          rw [hh] at hp
          cases o <;> first | (cases hp; done) | exact hp
      · rw [if_neg hb]; exact hp
  cases hs : W.shape? k with
  | none =>
    refine ⟨W, ?_, fun N _ => Rc.refl _ _⟩
    simp [convert, run_underlying ht, run_underlying he, markStringish, hs]
  | some x =>
    obtain ⟨y, m⟩ := x
    refine ⟨W.freeze ⟨k, m, none⟩ 1, ?_, fun N hN => hfr _ N hN⟩
    simp [convert, run_underlying ht, run_underlying he, markStringish, hs]

theorem wpList_mark {P : Program} {ops : Array Oper} {rest : List Oper} {o : Oper} {a : Act} {Q : Exit → Act → World → Prop} {w : World}
    (hw : Region.wanted o (yielded ops a.tmps) = true) (t e : TypeId) (x : Operand) (hop : o.op = Op.convert t t x) (ht : P.underlying t = some (.slice e)) (he : P.underlying e = some (.int .u8))
    (k n c : Nat) (hx : a.eval x = .slice (some ⟨k, 0, none⟩) n c)
    (hK : ∀ w', (∀ N, N ≤ k → Rc N w w') → wpList P ops Q rest (a.put o.dst (.slice (some ⟨k, 0, none⟩) n c)) w') : wpList P ops Q (o :: rest) a w := by
  refine wpList_step fun K hK' => ?_
  rw [if_pos hw]
  obtain ⟨W', hr, hc⟩ := run_mark w t e ht he k n c
  unfold Oper.wp
  simp [execOp, hop, hx, hr, Result.andThen]
  exact hK' _ _ (hK W' hc)
end Go.Proofs.YtlbaoghebjaliaaDoor
