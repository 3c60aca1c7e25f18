/- A region that draws its order, all of whose operations only make memory or read: one obligation for each operation, whatever the order. No condition. -/
import Derived.Test.YtiahholgpbjjfaaDoorBase
import Derived.Orders
namespace Go.Proofs.YtiahholgpbjjfaaDoor
open Go.RowKit

/-- The post of one operation: K if it ends well, else as Q says. -/
def postK (Q : Exit → Act → World → Prop) (K : Act → World → Prop) : Exit → Act → World → Prop
  | .normal, a, w => K a w
  | e, a, w => Q e a w

theorem postK_normal {Q : Exit → Act → World → Prop} {K : Act → World → Prop} {a : Act} {w : World} (h : K a w) : postK Q K .normal a w := h

/-- The values us in the temporaries ds. -/
def over : List Nat → List Value → Act → Act
  | d :: ds, u :: us, a => (over ds us a).put (some d) u
  | _, _, a => a

theorem put_put (a : Act) (d : Nat) (u v : Value) : (a.put (some d) u).put (some d) v = a.put (some d) v := by
  simp [Act.put]

theorem put_swap (a : Act) {d d' : Nat} (h : d ≠ d') (u v : Value) : (a.put (some d) u).put (some d') v = (a.put (some d') v).put (some d) u := by
  simp only [Act.put]
  congr 1
  exact Array.setIfInBounds_comm _ _ h

theorem put_self (a : Act) (d : Nat) (_h : d < a.tmps.size) : a.put (some d) (a.tmps.getD d undef) = a := by
  cases a with
  | mk t df =>
    simp only [Act.put]
    congr 1
    apply Array.ext
    · simp
    · intro i h1 h2
      rw [Array.getElem_setIfInBounds]
      split
      · rename_i e; subst e; simp_all [Array.getD]
      · rfl

theorem over_set (a : Act) : ∀ (ds : List Nat) (us : List Value) (i : Nat) (h : i < ds.length) (v : Value), ds.Nodup → us.length = ds.length → over ds (us.set i v) a = (over ds us a).put (some ds[i]) v
  | d :: ds, u :: us, 0, _, v, _, _ => by simp only [List.set_cons_zero, over, List.getElem_cons_zero, put_put]
  | d :: ds, u :: us, i + 1, h, v, hn, hl => by
    have hi : i < ds.length := by simpa using h
    simp only [List.set_cons_succ, over, List.getElem_cons_succ]
    rw [over_set a ds us i hi v (List.nodup_cons.1 hn).2 (by simpa using hl)]
    refine put_swap _ ?_ _ _
    intro e
    exact (List.nodup_cons.1 hn).1 (e ▸ List.getElem_mem hi)
  | [], _, _, h, _, _, _ => by simp at h
  | _ :: _, [], _, _, _, _, hl => by simp at hl

theorem over_self (a : Act) : ∀ ds : List Nat, (∀ d ∈ ds, d < a.tmps.size) → over ds (ds.map fun d => a.tmps.getD d undef) a = a
  | [], _ => rfl
  | d :: ds, h => by
    simp only [List.map_cons, over]
    rw [over_self a ds (fun x hx => h x (List.mem_cons_of_mem _ hx))]
    exact put_self a d (h d (List.mem_cons_self ..))

/-- What an operation waits for. -/
def deps (o : Oper) : List Nat := (o.after.toList.filter (Region.binds .any)).map Edge.on

def acyc : Nat → List Oper → Bool
  | _, [] => true
  | k, o :: l => (deps o).all (· < k) && acyc (k + 1) l

theorem acyc_at : ∀ (l : List Oper) (k i : Nat) (o : Oper), acyc k l = true → l[i]? = some o → ∀ j ∈ deps o, j < k + i
  | o' :: l, k, 0, o, h, ho => by
    simp only [List.getElem?_cons_zero, Option.some.injEq] at ho
    subst ho
    simp only [acyc, Bool.and_eq_true, List.all_eq_true, decide_eq_true_eq] at h
    exact fun j hj => h.1 j hj
  | o' :: l, k, i + 1, o, h, ho => by
    simp only [acyc, Bool.and_eq_true] at h
    have := acyc_at l (k + 1) i o h.2 (by simpa using ho)
    intro j hj
    have := this j hj
    omega
  | [], _, _, _, _, ho => by simp at ho

def AllSteps (S : Nat → Oper → Prop) : Nat → List Oper → Prop
  | _, [] => True
  | k, o :: l => S k o ∧ AllSteps S (k + 1) l
theorem AllSteps.nil {S : Nat → Oper → Prop} {k : Nat} : AllSteps S k [] := trivial
theorem AllSteps.cons {S : Nat → Oper → Prop} {k : Nat} {o : Oper} {l : List Oper} (h : S k o) (t : AllSteps S (k + 1) l) : AllSteps S k (o :: l) := ⟨h, t⟩
theorem AllSteps.at {S : Nat → Oper → Prop} : ∀ (l : List Oper) (k i : Nat) (o : Oper), AllSteps S k l → l[i]? = some o → S (k + i) o
  | o' :: l, k, 0, o, h, ho => by simp at ho; subst ho; exact h.1
  | o' :: l, k, i + 1, o, h, ho => by
    have := AllSteps.at l (k + 1) i o h.2 (by simpa using ho)
    rwa [Nat.add_assoc, Nat.add_comm 1 i] at this
  | [], _, _, _, _, ho => by simp at ho

section
variable {P : Program} {ops : Array Oper} {Q : Exit → Act → World → Prop}

theorem wpOp_of_list {i : Nat} {o : Oper} (ho : ops[i]? = some o) {K : Act → World → Prop} {a : Act} {w : World} (h : wpList P ops (postK Q K) [o] a w) : wpOp P ops Q i K a w := by
  unfold wpOp
  simp only [ho]
  unfold wpList at h
  exact h

/-- One obligation an operation. -/
def StepOk (P : Program) (ops : Array Oper) (Q : Exit → Act → World → Prop) (ds : List Nat) (a : Act) (w : World) (Φ : Nat → Value → World → Prop) (i : Nat) (o : Oper) : Prop :=
  ∀ us : List Value, us.length = ds.length → ∀ w', Ext w w' → (∀ j, (deps o).contains j = true → Φ j (us.getD j undef) w') →
    wpList P ops (postK Q (fun a' w'' => ∃ v, a' = (over ds us a).put o.dst v ∧ Φ i v w'' ∧ Ext w' w'')) [o] (over ds us a) w'

theorem any_mono (ds : List Nat) (hd : ops.toList.map (·.dst) = ds.map some) (hnd : ds.Nodup) (hac : acyc 0 ops.toList = true) (a : Act) (w : World)
    (Φ : Nat → Value → World → Prop) (hΦ : ∀ i v w w', Φ i v w → Ext w w' → Φ i v w')
    (steps : AllSteps (StepOk P ops Q ds a w Φ) 0 ops.toList)
    (fin : ∀ us : List Value, us.length = ds.length → ∀ w', Ext w w' → (∀ i, i < ds.length → Φ i (us.getD i undef) w') → Q .normal (over ds us a) w') :
    ∀ (fuel : Nat) (listed : Array Bool) (us : List Value) (w' : World), listed.size = ops.size → us.length = ds.length → Ext w w' → (∀ i, listed.getD i false = true → Φ i (us.getD i undef) w') →
      (listed.toList.filter (! ·)).length ≤ fuel → wpAny P .any ops Q fuel listed (over ds us a) w' := by
  have hlen : ds.length = ops.size := by
    have := congrArg List.length hd
    simpa using this.symm
  -- where nothing may come up all have come up
  have done : ∀ listed : Array Bool, listed.size = ops.size → Region.ready .any ops listed = [] → ∀ i, i < ops.size → listed.getD i false = true := by
    intro listed hs hr i
    induction i using Nat.strongRecOn with
    | ind i ih =>
      intro hi
      cases hl : listed.getD i false with
      | true => rfl
      | false =>
        exfalso
        have ho : ops[i]? = some ops[i] := Array.getElem?_eq_getElem hi
        have : i ∈ Region.ready .any ops listed := by
          rw [mem_ready]
          refine ⟨?_, ops[i], ho, fun e he hb => ?_⟩
          · have : i < listed.size := by omega
            simpa [Array.getD, this] using hl
          · have hj : e.on ∈ deps ops[i] := List.mem_map.2 ⟨e, List.mem_filter.2 ⟨by simpa using he, hb⟩, rfl⟩
            have := acyc_at ops.toList 0 i ops[i] hac (by simp) e.on hj
            exact ih e.on (by omega) (by omega)
        rw [hr] at this
        cases this
  have finish : ∀ (listed : Array Bool) (us : List Value) (w' : World), listed.size = ops.size → us.length = ds.length → Ext w w' → (∀ i, listed.getD i false = true → Φ i (us.getD i undef) w') → Region.ready .any ops listed = [] → Q .normal (over ds us a) w' :=
    fun listed us w' hs hu hx hall hr => fin us hu w' hx (fun i hi => hall i (done listed hs hr i (by omega)))
  intro fuel
  induction fuel with
  | zero =>
    intro listed us w' hs hu hx hall hf
    have hr : Region.ready .any ops listed = [] := by
      cases hr : Region.ready .any ops listed with
      | nil => rfl
      | cons j t =>
        exfalso
        have hj : j ∈ Region.ready .any ops listed := by rw [hr]; exact List.mem_cons_self ..
        obtain ⟨h0, o, ho, _⟩ := mem_ready.1 hj
        have hjlt : j < ops.size := (Array.getElem?_eq_some_iff.1 ho).1
        have hjl : j < listed.size := by omega
        have hm : listed[j] ∈ listed.toList.filter (! ·) := List.mem_filter.2 ⟨by simp, by simpa [Array.getD, hjl] using h0⟩
        have := List.length_pos_of_mem hm
        omega
    exact ⟨hr, finish listed us w' hs hu hx hall hr⟩
  | succ fuel ih =>
    intro listed us w' hs hu hx hall hf
    refine ⟨fun hr => finish listed us w' hs hu hx hall hr, fun i hi => ?_⟩
    obtain ⟨h0, o, ho, hde⟩ := mem_ready.1 hi
    have hilt : i < ops.size := (Array.getElem?_eq_some_iff.1 ho).1
    have hil : i < listed.size := by omega
    have hids : i < ds.length := by omega
    have hst := AllSteps.at ops.toList 0 i o steps (by simpa using ho)
    rw [Nat.zero_add] at hst
    have hdst : o.dst = some ds[i] := by
      have h1 : (ops.toList.map (·.dst))[i]? = some o.dst := by rw [List.getElem?_map]; simp [ho]
      rw [hd, List.getElem?_map, List.getElem?_eq_getElem hids] at h1
      simpa using h1.symm
    have h1 := hst us hu w' hx (fun j hj => by
      have hj' : j ∈ deps o := by simpa using hj
      obtain ⟨e, he, rfl⟩ := List.mem_map.1 hj'
      obtain ⟨he1, he2⟩ := List.mem_filter.1 he
      exact hall e.on (hde e (by simpa using he1) he2))
    refine wpOp_mono ?_ (wpOp_of_list ho h1)
    rintro a' w'' ⟨v, rfl, hv, hx'⟩
    rw [hdst, ← over_set a ds us i hids v hnd hu]
    refine ih _ _ _ (by simpa using hs) (by simpa using hu) (hx.trans hx') ?_ ?_
    · intro j hj
      by_cases hij : i = j
      · subst hij
        have e : (us.set i v).getD i undef = v := by
          rw [List.getD_eq_getElem?_getD, List.getElem?_set_self (by omega)]; rfl
        rw [e]; exact hv
      · have e : (us.set i v).getD j undef = us.getD j undef := by
          rw [List.getD_eq_getElem?_getD, List.getElem?_set_ne hij, ← List.getD_eq_getElem?_getD]
        rw [e]
        refine hΦ _ _ _ _ (hall j ?_) hx'
        rwa [getD_set_ne false hij] at hj
    · have hcnt : ((listed.setIfInBounds i true).toList.filter (! ·)).length + 1 = (listed.toList.filter (! ·)).length := by
        have hli : listed[i] = false := by simpa [Array.getD, hil] using h0
        have e1 : listed.toList = listed.toList.take i ++ listed[i] :: listed.toList.drop (i + 1) := by
          have := List.take_append_drop i listed.toList
          rw [List.drop_eq_getElem_cons (by simpa using hil)] at this
          simpa using this.symm
        have e2 : (listed.setIfInBounds i true).toList = listed.toList.take i ++ true :: listed.toList.drop (i + 1) := by
          rw [Array.toList_setIfInBounds, List.set_eq_take_append_cons_drop, if_pos (by simpa using hil)]
        rw [e2]
        conv => rhs; rw [e1, hli]
        simp only [List.filter_append, List.filter_cons, Bool.not_true, Bool.false_eq_true, if_false, Bool.not_false, if_true, List.length_append, List.length_cons]
        omega
      omega

/-- A region that draws its order, by obligations of its operations. -/
theorem wp_region_mono {id : Nat} {a : Act} {w : World} (hm : P.follows .mixedOrders = true) (ds : List Nat) (hd : ops.toList.map (·.dst) = ds.map some) (hnd : ds.Nodup) (hb : ∀ d ∈ ds, d < a.tmps.size)
    (hac : acyc 0 ops.toList = true) (Φ : Nat → Value → World → Prop) (hΦ : ∀ i v w w', Φ i v w → Ext w w' → Φ i v w')
    (steps : AllSteps (StepOk P ops Q ds a w Φ) 0 ops.toList)
    (fin : ∀ us : List Value, us.length = ds.length → ∀ w', Ext w w' → (∀ i, i < ds.length → Φ i (us.getD i undef) w') → Q .normal (over ds us a) w') :
    (Code.region id ops true).wp P Q a w := by
  refine wp_region_any hm ?_
  have x0 : Ext w { w with drawn := w.drawn + 1 } := Ext.drew w
  have := any_mono ds hd hnd hac a w Φ hΦ steps fin ops.size (Array.replicate ops.size false) (ds.map fun d => a.tmps.getD d undef) { w with drawn := w.drawn + 1 } (by simp) (by simp) x0 (fun i hi => by
    exfalso
    rcases Nat.lt_or_ge i ops.size with h | h
    · simp [Array.getD, h] at hi
    · simp [Array.getD, Nat.not_lt.2 h] at hi) (by simp)
  rwa [over_self a ds hb] at this
end

theorem len_cons {us : List Value} {n : Nat} (h : us.length = n + 1) : ∃ u t, us = u :: t ∧ t.length = n := by
  cases us with
  | nil => simp at h
  | cons u t => exact ⟨u, t, rfl, by simpa using h⟩
theorem len_nil {us : List Value} (h : us.length = 0) : us = [] := List.eq_nil_of_length_eq_zero h
end Go.Proofs.YtiahholgpbjjfaaDoor
