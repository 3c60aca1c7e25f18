/- Several texts of this seat, put together: Mono MonoIn Gath GathF. -/
import Derived.Test.YtiahholgpbjjfaaDoorBase
import Derived.Orders
import Derived.OrdersIn
import Derived.TacticsIn
import Derived.Test.YtiahholgpbjjfaaDoorFieldsP
import Derived.RangeFuncNested
import Derived.RangeFuncBound
import Derived.RangeFuncCalls
import Derived.RangeFuncLeaves
import Derived.Shelf.Abstract
import Derived.Shelf.RegionOpen
import Derived.OwnWalkIn
import Derived.TacticsInMore
import Derived.LoopNIn
import Derived.LoopIn
/- A region that draws its order, all of whose operations only make memory or read: one obligation for each operation, whatever the order. No condition. -/
namespace Go.Proofs.YtiahholgpbjjfaaDoor
open Go.RowKit

/-- The post of one operation: K if it ends well, else as Q says. -/
def postK (Q : Exit → Act → World → Prop) (K : Act → World → Prop) : Exit → Act → World → Prop
  | .normal, a, w => K a w
  | e, a, w => Q e a w

theorem postK_normal {Q : Exit → Act → World → Prop} {K : Act → World → Prop} {a : Act} {w : World} (h : K a w) : postK Q K .normal a w := h

/-- The values us in the temporaries ds. -/
def over : List Nat → List Value → Act → Act
  | d :: ds, u :: us, a => (over ds us a).put (some d) u
  | _, _, a => a

theorem put_put (a : Act) (d : Nat) (u v : Value) : (a.put (some d) u).put (some d) v = a.put (some d) v := by
  simp [Act.put]

theorem put_swap (a : Act) {d d' : Nat} (h : d ≠ d') (u v : Value) : (a.put (some d) u).put (some d') v = (a.put (some d') v).put (some d) u := by
  simp only [Act.put]
  congr 1
  exact Array.setIfInBounds_comm _ _ h

theorem put_self (a : Act) (d : Nat) (_h : d < a.tmps.size) : a.put (some d) (a.tmps.getD d undef) = a := by
  cases a with
  | mk t df =>
    simp only [Act.put]
    congr 1
    apply Array.ext
    · simp
    · intro i h1 h2
      rw [Array.getElem_setIfInBounds]
      split
      · rename_i e; subst e; simp_all [Array.getD]
      · rfl

theorem over_set (a : Act) : ∀ (ds : List Nat) (us : List Value) (i : Nat) (h : i < ds.length) (v : Value), ds.Nodup → us.length = ds.length → over ds (us.set i v) a = (over ds us a).put (some ds[i]) v
  | d :: ds, u :: us, 0, _, v, _, _ => by simp only [List.set_cons_zero, over, List.getElem_cons_zero, put_put]
  | d :: ds, u :: us, i + 1, h, v, hn, hl => by
    have hi : i < ds.length := by simpa using h
    simp only [List.set_cons_succ, over, List.getElem_cons_succ]
    rw [over_set a ds us i hi v (List.nodup_cons.1 hn).2 (by simpa using hl)]
    refine put_swap _ ?_ _ _
    intro e
    exact (List.nodup_cons.1 hn).1 (e ▸ List.getElem_mem hi)
  | [], _, _, h, _, _, _ => by simp at h
  | _ :: _, [], _, _, _, _, hl => by simp at hl

theorem over_self (a : Act) : ∀ ds : List Nat, (∀ d ∈ ds, d < a.tmps.size) → over ds (ds.map fun d => a.tmps.getD d undef) a = a
  | [], _ => rfl
  | d :: ds, h => by
    simp only [List.map_cons, over]
    rw [over_self a ds (fun x hx => h x (List.mem_cons_of_mem _ hx))]
    exact put_self a d (h d (List.mem_cons_self ..))

/-- What an operation waits for. -/
def deps (o : Oper) : List Nat := (o.after.toList.filter (Region.binds .any)).map Edge.on

def acyc : Nat → List Oper → Bool
  | _, [] => true
  | k, o :: l => (deps o).all (· < k) && acyc (k + 1) l

theorem acyc_at : ∀ (l : List Oper) (k i : Nat) (o : Oper), acyc k l = true → l[i]? = some o → ∀ j ∈ deps o, j < k + i
  | o' :: l, k, 0, o, h, ho => by
    simp only [List.getElem?_cons_zero, Option.some.injEq] at ho
    subst ho
    simp only [acyc, Bool.and_eq_true, List.all_eq_true, decide_eq_true_eq] at h
    exact fun j hj => h.1 j hj
  | o' :: l, k, i + 1, o, h, ho => by
    simp only [acyc, Bool.and_eq_true] at h
    have := acyc_at l (k + 1) i o h.2 (by simpa using ho)
    intro j hj
    have := this j hj
    omega
  | [], _, _, _, _, ho => by simp at ho

def AllSteps (S : Nat → Oper → Prop) : Nat → List Oper → Prop
  | _, [] => True
  | k, o :: l => S k o ∧ AllSteps S (k + 1) l
theorem AllSteps.nil {S : Nat → Oper → Prop} {k : Nat} : AllSteps S k [] := trivial
theorem AllSteps.cons {S : Nat → Oper → Prop} {k : Nat} {o : Oper} {l : List Oper} (h : S k o) (t : AllSteps S (k + 1) l) : AllSteps S k (o :: l) := ⟨h, t⟩
theorem AllSteps.at {S : Nat → Oper → Prop} : ∀ (l : List Oper) (k i : Nat) (o : Oper), AllSteps S k l → l[i]? = some o → S (k + i) o
  | o' :: l, k, 0, o, h, ho => by simp at ho; subst ho; exact h.1
  | o' :: l, k, i + 1, o, h, ho => by
    have := AllSteps.at l (k + 1) i o h.2 (by simpa using ho)
    rwa [Nat.add_assoc, Nat.add_comm 1 i] at this
  | [], _, _, _, _, ho => by simp at ho

section
variable {P : Program} {ops : Array Oper} {Q : Exit → Act → World → Prop}

theorem wpOp_of_list {i : Nat} {o : Oper} (ho : ops[i]? = some o) {K : Act → World → Prop} {a : Act} {w : World} (h : wpList P ops (postK Q K) [o] a w) : wpOp P ops Q i K a w := by
  unfold wpOp
  simp only [ho]
  unfold wpList at h
  exact h

/-- One obligation an operation. -/
def StepOk (P : Program) (ops : Array Oper) (Q : Exit → Act → World → Prop) (ds : List Nat) (a : Act) (w : World) (Φ : Nat → Value → World → Prop) (i : Nat) (o : Oper) : Prop :=
  ∀ us : List Value, us.length = ds.length → ∀ w', Ext w w' → (∀ j, (deps o).contains j = true → Φ j (us.getD j undef) w') →
    wpList P ops (postK Q (fun a' w'' => ∃ v, a' = (over ds us a).put o.dst v ∧ Φ i v w'' ∧ Ext w' w'')) [o] (over ds us a) w'

theorem any_mono (ds : List Nat) (hd : ops.toList.map (·.dst) = ds.map some) (hnd : ds.Nodup) (hac : acyc 0 ops.toList = true) (a : Act) (w : World)
    (Φ : Nat → Value → World → Prop) (hΦ : ∀ i v w w', Φ i v w → Ext w w' → Φ i v w')
    (steps : AllSteps (StepOk P ops Q ds a w Φ) 0 ops.toList)
    (fin : ∀ us : List Value, us.length = ds.length → ∀ w', Ext w w' → (∀ i, i < ds.length → Φ i (us.getD i undef) w') → Q .normal (over ds us a) w') :
    ∀ (fuel : Nat) (listed : Array Bool) (us : List Value) (w' : World), listed.size = ops.size → us.length = ds.length → Ext w w' → (∀ i, listed.getD i false = true → Φ i (us.getD i undef) w') →
      (listed.toList.filter (! ·)).length ≤ fuel → wpAny P .any ops Q fuel listed (over ds us a) w' := by
  have hlen : ds.length = ops.size := by
    have := congrArg List.length hd
    simpa using this.symm
  -- where nothing may come up all have come up
  have done : ∀ listed : Array Bool, listed.size = ops.size → Region.ready .any ops listed = [] → ∀ i, i < ops.size → listed.getD i false = true := by
    intro listed hs hr i
    induction i using Nat.strongRecOn with
    | ind i ih =>
      intro hi
      cases hl : listed.getD i false with
      | true => rfl
      | false =>
        exfalso
        have ho : ops[i]? = some ops[i] := Array.getElem?_eq_getElem hi
        have : i ∈ Region.ready .any ops listed := by
          rw [mem_ready]
          refine ⟨?_, ops[i], ho, fun e he hb => ?_⟩
          · have : i < listed.size := by omega
            simpa [Array.getD, this] using hl
          · have hj : e.on ∈ deps ops[i] := List.mem_map.2 ⟨e, List.mem_filter.2 ⟨by simpa using he, hb⟩, rfl⟩
            have := acyc_at ops.toList 0 i ops[i] hac (by simp) e.on hj
            exact ih e.on (by omega) (by omega)
        rw [hr] at this
        cases this
  have finish : ∀ (listed : Array Bool) (us : List Value) (w' : World), listed.size = ops.size → us.length = ds.length → Ext w w' → (∀ i, listed.getD i false = true → Φ i (us.getD i undef) w') → Region.ready .any ops listed = [] → Q .normal (over ds us a) w' :=
    fun listed us w' hs hu hx hall hr => fin us hu w' hx (fun i hi => hall i (done listed hs hr i (by omega)))
  intro fuel
  induction fuel with
  | zero =>
    intro listed us w' hs hu hx hall hf
    have hr : Region.ready .any ops listed = [] := by
      cases hr : Region.ready .any ops listed with
      | nil => rfl
      | cons j t =>
        exfalso
        have hj : j ∈ Region.ready .any ops listed := by rw [hr]; exact List.mem_cons_self ..
        obtain ⟨h0, o, ho, _⟩ := mem_ready.1 hj
        have hjlt : j < ops.size := (Array.getElem?_eq_some_iff.1 ho).1
        have hjl : j < listed.size := by omega
        have hm : listed[j] ∈ listed.toList.filter (! ·) := List.mem_filter.2 ⟨by simp, by simpa [Array.getD, hjl] using h0⟩
        have := List.length_pos_of_mem hm
        omega
    exact ⟨hr, finish listed us w' hs hu hx hall hr⟩
  | succ fuel ih =>
    intro listed us w' hs hu hx hall hf
    refine ⟨fun hr => finish listed us w' hs hu hx hall hr, fun i hi => ?_⟩
    obtain ⟨h0, o, ho, hde⟩ := mem_ready.1 hi
    have hilt : i < ops.size := (Array.getElem?_eq_some_iff.1 ho).1
    have hil : i < listed.size := by omega
    have hids : i < ds.length := by omega
    have hst := AllSteps.at ops.toList 0 i o steps (by simpa using ho)
    rw [Nat.zero_add] at hst
    have hdst : o.dst = some ds[i] := by
      have h1 : (ops.toList.map (·.dst))[i]? = some o.dst := by rw [List.getElem?_map]; simp [ho]
      rw [hd, List.getElem?_map, List.getElem?_eq_getElem hids] at h1
      simpa using h1.symm
    have h1 := hst us hu w' hx (fun j hj => by
      have hj' : j ∈ deps o := by simpa using hj
      obtain ⟨e, he, rfl⟩ := List.mem_map.1 hj'
      obtain ⟨he1, he2⟩ := List.mem_filter.1 he
      exact hall e.on (hde e (by simpa using he1) he2))
    refine wpOp_mono ?_ (wpOp_of_list ho h1)
    rintro a' w'' ⟨v, rfl, hv, hx'⟩
    rw [hdst, ← over_set a ds us i hids v hnd hu]
    refine ih _ _ _ (by simpa using hs) (by simpa using hu) (hx.trans hx') ?_ ?_
    · intro j hj
      by_cases hij : i = j
      · subst hij
        have e : (us.set i v).getD i undef = v := by
          rw [List.getD_eq_getElem?_getD, List.getElem?_set_self (by omega)]; rfl
        rw [e]; exact hv
      · have e : (us.set i v).getD j undef = us.getD j undef := by
          rw [List.getD_eq_getElem?_getD, List.getElem?_set_ne hij, ← List.getD_eq_getElem?_getD]
        rw [e]
        refine hΦ _ _ _ _ (hall j ?_) hx'
        rwa [getD_set_ne false hij] at hj
    · have hcnt : ((listed.setIfInBounds i true).toList.filter (! ·)).length + 1 = (listed.toList.filter (! ·)).length := by
        have hli : listed[i] = false := by simpa [Array.getD, hil] using h0
        have e1 : listed.toList = listed.toList.take i ++ listed[i] :: listed.toList.drop (i + 1) := by
          have := List.take_append_drop i listed.toList
          rw [List.drop_eq_getElem_cons (by simpa using hil)] at this
          simpa using this.symm
        have e2 : (listed.setIfInBounds i true).toList = listed.toList.take i ++ true :: listed.toList.drop (i + 1) := by
          rw [Array.toList_setIfInBounds, List.set_eq_take_append_cons_drop, if_pos (by simpa using hil)]
        rw [e2]
        conv => rhs; rw [e1, hli]
        simp only [List.filter_append, List.filter_cons, Bool.not_true, Bool.false_eq_true, if_false, Bool.not_false, if_true, List.length_append, List.length_cons]
        omega
      omega

/-- A region that draws its order, by obligations of its operations. -/
theorem wp_region_mono {id : Nat} {a : Act} {w : World} (hm : P.follows .mixedOrders = true) (ds : List Nat) (hd : ops.toList.map (·.dst) = ds.map some) (hnd : ds.Nodup) (hb : ∀ d ∈ ds, d < a.tmps.size)
    (hac : acyc 0 ops.toList = true) (Φ : Nat → Value → World → Prop) (hΦ : ∀ i v w w', Φ i v w → Ext w w' → Φ i v w')
    (steps : AllSteps (StepOk P ops Q ds a w Φ) 0 ops.toList)
    (fin : ∀ us : List Value, us.length = ds.length → ∀ w', Ext w w' → (∀ i, i < ds.length → Φ i (us.getD i undef) w') → Q .normal (over ds us a) w') :
    (Code.region id ops true).wp P Q a w := by
  refine wp_region_any hm ?_
  have x0 : Ext w { w with drawn := w.drawn + 1 } := Ext.drew w
  have := any_mono ds hd hnd hac a w Φ hΦ steps fin ops.size (Array.replicate ops.size false) (ds.map fun d => a.tmps.getD d undef) { w with drawn := w.drawn + 1 } (by simp) (by simp) x0 (fun i hi => by
    exfalso
    rcases Nat.lt_or_ge i ops.size with h | h
    · simp [Array.getD, h] at hi
    · simp [Array.getD, Nat.not_lt.2 h] at hi) (by simp)
  rwa [over_self a ds hb] at this
end

theorem len_cons {us : List Value} {n : Nat} (h : us.length = n + 1) : ∃ u t, us = u :: t ∧ t.length = n := by
  cases us with
  | nil => simp at h
  | cons u t => exact ⟨u, t, rfl, by simpa using h⟩
theorem len_nil {us : List Value} (h : us.length = 0) : us = [] := List.eq_nil_of_length_eq_zero h
end Go.Proofs.YtiahholgpbjjfaaDoor

/- A region that draws its order, inside a fence: the first operations only make memory or read, whatever their order; the others wait for all that stand ahead of them. No condition. -/
namespace Go.Proofs.YtiahholgpbjjfaaDoor
open Go.RowKit

section
variable {F : Fence} {n : Nat} {P : Program} {ops : Array Oper} {Q : Exit → Act → World → Prop}

theorem wpOpIn_of_list {i : Nat} {o : Oper} (ho : ops[i]? = some o) {K : Act → World → Prop} {a : Act} {w : World} (h : wpListIn F n P ops (postK Q K) [o] a w) : wpOpIn F n P ops Q i K a w := by
  unfold wpOpIn
  simp only [ho]
  unfold wpListIn at h
  exact h

theorem wpOpIn_of_cons {i : Nat} {o : Oper} (ho : ops[i]? = some o) {rest : List Oper} {a : Act} {w : World} (h : wpListIn F n P ops Q (o :: rest) a w) : wpOpIn F n P ops Q i (wpListIn F n P ops Q rest) a w := by
  unfold wpOpIn
  simp only [ho]
  unfold wpListIn at h
  exact h

/-- What an operation waits for, by others too. -/
def clos (l : List Oper) : Nat → Nat → List Nat
  | 0, _ => []
  | f + 1, i => match l[i]? with
    | none => []
    | some o => deps o ++ (deps o).flatMap (clos l f)
/-- Each operation from number k on waits for all that stand ahead of it. -/
def tailOk (ops : List Oper) (k : Nat) : Bool := (List.range ops.length).all fun i => decide (i < k) || (List.range i).all fun j => (clos ops ops.length i).contains j

theorem tailOk_at {l : List Oper} {k i : Nat} (h : tailOk l k = true) (hlt : i < l.length) (hi : k ≤ i) : ∀ j, j < i → j ∈ clos l l.length i := by
  intro j hj
  have h1 := List.all_eq_true.1 h i (List.mem_range.2 hlt)
  simp only [Bool.or_eq_true, decide_eq_true_eq] at h1
  have h2 := h1.resolve_left (by omega)
  have := List.all_eq_true.1 h2 j (List.mem_range.2 hj)
  simpa using this

/-- What has come up has all come up that it waits for. -/
def DC (ops : Array Oper) (listed : Array Bool) : Prop := ∀ i o, ops[i]? = some o → listed.getD i false = true → ∀ j ∈ deps o, listed.getD j false = true

theorem clos_listed {listed : Array Bool} (hdc : DC ops listed) : ∀ (f i : Nat), (∀ o, ops[i]? = some o → ∀ j ∈ deps o, listed.getD j false = true) → ∀ j ∈ clos ops.toList f i, listed.getD j false = true
  | 0, _, _, j, hj => by simp [clos] at hj
  | f + 1, i, h, j, hj => by
    unfold clos at hj
    cases ho : ops.toList[i]? with
    | none => rw [ho] at hj; simp at hj
    | some o =>
      rw [ho] at hj
      have ho' : ops[i]? = some o := by simpa using ho
      rcases List.mem_append.1 hj with h1 | h1
      · exact h o ho' j h1
      · obtain ⟨d, hd, hj2⟩ := List.mem_flatMap.1 h1
        exact clos_listed hdc f d (fun o' ho2 => hdc d o' ho2 (h o ho' d hd)) j hj2

theorem ready_deps {listed : Array Bool} {i : Nat} (hi : i ∈ Region.ready .any ops listed) : ∀ o, ops[i]? = some o → ∀ j ∈ deps o, listed.getD j false = true := by
  intro o ho j hj
  obtain ⟨_, o', ho', hde⟩ := mem_ready.1 hi
  rw [ho] at ho'
  injection ho' with ho'
  subst ho'
  obtain ⟨e, he, rfl⟩ := List.mem_map.1 hj
  obtain ⟨he1, he2⟩ := List.mem_filter.1 he
  exact hde e (by simpa using he1) he2

theorem DC.set {listed : Array Bool} (h : DC ops listed) {i : Nat} (hi : i ∈ Region.ready .any ops listed) : DC ops (listed.setIfInBounds i true) := by
  intro x o ho hx j hj
  by_cases hxi : i = x
  · subst hxi
    exact getD_set_true (ready_deps hi o ho j hj)
  · rw [getD_set_ne false hxi] at hx
    exact getD_set_true (h x o ho hx j hj)

/-- All up to number i have come up, the others not: they come in their order. -/
theorem any_tailIn (k : Nat) (ht : tailOk ops.toList k = true) (hac : acyc 0 ops.toList = true) : ∀ (fuel i : Nat) (listed : Array Bool) (a : Act) (w : World), k ≤ i → i + fuel = ops.size → listed.size = ops.size →
    (∀ j, j < ops.size → listed.getD j false = decide (j < i)) → wpListIn F n P ops Q (ops.toList.drop i) a w → wpAnyIn F n P .any ops Q fuel listed a w := by
  intro fuel
  have none_ready : ∀ (i : Nat) (listed : Array Bool), k ≤ i → listed.size = ops.size → (∀ j, j < ops.size → listed.getD j false = decide (j < i)) → ∀ x ∈ Region.ready .any ops listed, x = i := by
    intro i listed hki hs hl x hx
    obtain ⟨h0, o, ho, _⟩ := mem_ready.1 hx
    have hxlt : x < ops.size := (Array.getElem?_eq_some_iff.1 ho).1
    have hxi : i ≤ x := by
      apply Nat.le_of_not_lt
      intro hlt
      have h1 := hl x hxlt
      rw [decide_eq_true hlt] at h1
      have hxs : x < listed.size := by omega
      simp [Array.getD, hxs] at h0 h1
      rw [h0] at h1; cases h1
    apply Nat.le_antisymm _ hxi
    apply Nat.le_of_not_lt
    intro hlt
    have hm := tailOk_at ht (by simpa using hxlt) (by omega) i hlt
    have hdc : DC ops listed := by
      intro y o' ho' hy j hj
      have hylt : y < ops.size := (Array.getElem?_eq_some_iff.1 ho').1
      have h1 := acyc_at ops.toList 0 y o' hac (by simpa using ho') j hj
      rw [hl y hylt] at hy
      have := of_decide_eq_true hy
      rw [hl j (by omega), decide_eq_true (by omega)]
    have := clos_listed hdc _ x (ready_deps hx) i hm
    rw [hl i (by omega), decide_eq_false (by omega)] at this
    cases this
  induction fuel with
  | zero =>
    intro i listed a w hki hif hs hl h
    have hr : Region.ready .any ops listed = [] := by
      cases hr : Region.ready .any ops listed with
      | nil => rfl
      | cons x t =>
        exfalso
        have hx : x ∈ Region.ready .any ops listed := by rw [hr]; exact List.mem_cons_self ..
        have := none_ready i listed hki hs hl x hx
        obtain ⟨_, o, ho, _⟩ := mem_ready.1 hx
        have := (Array.getElem?_eq_some_iff.1 ho).1
        omega
    have hd : ops.toList.drop i = [] := List.drop_of_length_le (by simp; omega)
    rw [hd] at h
    exact ⟨hr, h⟩
  | succ fuel ih =>
    intro i listed a w hki hif hs hl h
    have hi : i < ops.size := by omega
    have ho : ops[i]? = some ops[i] := Array.getElem?_eq_getElem hi
    have hd : ops.toList.drop i = ops[i] :: ops.toList.drop (i + 1) := by
      rw [List.drop_eq_getElem_cons (by simpa using hi)]
      simp
    rw [hd] at h
    refine ⟨fun hr => ?_, fun x hx => ?_⟩
    · exfalso
      have : i ∈ Region.ready .any ops listed := by
        rw [mem_ready]
        refine ⟨?_, ops[i], ho, fun e he hb => ?_⟩
        · have h1 := hl i hi
          rw [decide_eq_false (by omega)] at h1
          have : i < listed.size := by omega
          simpa [Array.getD, this] using h1
        · have hj : e.on ∈ deps ops[i] := List.mem_map.2 ⟨e, List.mem_filter.2 ⟨by simpa using he, hb⟩, rfl⟩
          have := acyc_at ops.toList 0 i ops[i] hac (by simp) e.on hj
          rw [hl e.on (by omega), decide_eq_true (by omega)]
      rw [hr] at this
      cases this
    · have := none_ready i listed hki hs hl x hx
      subst this
      refine wpOpIn_mono (fun a' w' h' => ?_) (wpOpIn_of_cons ho h)
      refine ih (x + 1) _ a' w' (by omega) (by omega) (by simpa using hs) ?_ h'
      intro j hj
      by_cases hxj : x = j
      · subst hxj
        have : x < listed.size := by omega
        simp [Array.getD, this]
      · rw [getD_set_ne false hxj, hl j hj]
        by_cases h2 : j < x
        · rw [decide_eq_true h2, decide_eq_true (by omega)]
        · rw [decide_eq_false h2, decide_eq_false (by omega)]

/-- One obligation an operation. -/
def StepOkIn (F : Fence) (n : Nat) (P : Program) (ops : Array Oper) (Q : Exit → Act → World → Prop) (ds : List Nat) (a : Act) (w : World) (Φ : Nat → Value → World → Prop) (i : Nat) (o : Oper) : Prop :=
  ∀ us : List Value, us.length = ds.length → ∀ w', Ext w w' → (∀ j, (deps o).contains j = true → Φ j (us.getD j undef) w') →
    wpListIn F n P ops (postK Q (fun a' w'' => ∃ v, a' = (over ds us a).put o.dst v ∧ Φ i v w'' ∧ Ext w' w'')) [o] (over ds us a) w'

theorem any_monoIn (ds : List Nat) (hk : ds.length ≤ ops.size) (hd : (ops.toList.take ds.length).map (·.dst) = ds.map some) (hnd : ds.Nodup) (hac : acyc 0 ops.toList = true) (ht : tailOk ops.toList ds.length = true) (a : Act) (w : World)
    (Φ : Nat → Value → World → Prop) (hΦ : ∀ i v w w', Φ i v w → Ext w w' → Φ i v w')
    (steps : AllSteps (StepOkIn F n P ops Q ds a w Φ) 0 (ops.toList.take ds.length))
    (fin : ∀ us : List Value, us.length = ds.length → ∀ w', Ext w w' → (∀ i, i < ds.length → Φ i (us.getD i undef) w') → wpListIn F n P ops Q (ops.toList.drop ds.length) (over ds us a) w') :
    ∀ (rem : Nat) (listed : Array Bool) (us : List Value) (w' : World), DC ops listed → listed.size = ops.size → us.length = ds.length → Ext w w' → (∀ i, listed.getD i false = true → i < ds.length ∧ Φ i (us.getD i undef) w') →
      (listed.toList.filter (! ·)).length = rem + (ops.size - ds.length) → wpAnyIn F n P .any ops Q (rem + (ops.size - ds.length)) listed (over ds us a) w' := by
  -- all of the first ones have come up: the others come in their order
  have finish : ∀ (listed : Array Bool) (us : List Value) (w' : World), listed.size = ops.size → us.length = ds.length → Ext w w' → (∀ i, listed.getD i false = true → i < ds.length ∧ Φ i (us.getD i undef) w') → (∀ i, i < ds.length → listed.getD i false = true) →
      wpAnyIn F n P .any ops Q (ops.size - ds.length) listed (over ds us a) w' := by
    intro listed us w' hs hu hx hall hdone
    refine any_tailIn ds.length ht hac (ops.size - ds.length) ds.length listed _ _ (Nat.le_refl _) (by omega) hs ?_ (fin us hu w' hx (fun i hi => (hall i (hdone i hi)).2))
    intro j _
    by_cases hj : j < ds.length
    · rw [hdone j hj, decide_eq_true hj]
    · cases hl : listed.getD j false with
      | true => exact absurd (hall j hl).1 hj
      | false => rw [decide_eq_false hj]
  have count : ∀ listed : Array Bool, listed.size = ops.size → (∀ i, listed.getD i false = true → i < ds.length) → (listed.toList.filter (! ·)).length = ops.size - ds.length → ∀ i, i < ds.length → listed.getD i false = true := by
    intro listed hs hall hc i hi
    cases hl : listed.getD i false with
    | true => rfl
    | false =>
      exfalso
      have h1 : (listed.toList.drop ds.length).all (! ·) = true := by
        rw [List.all_eq_true]
        intro b hb
        obtain ⟨j, hj, rfl⟩ := List.getElem_of_mem hb
        rw [List.getElem_drop]
        have hjl : ds.length + j < listed.size := by
          have hj2 : j < listed.size - ds.length := by simpa using hj
          omega
        cases hv : listed.toList[ds.length + j] with
        | false => rfl
        | true =>
          have := hall (ds.length + j) (by simpa [Array.getD, hjl] using hv)
          omega
      have h2 : (listed.toList.drop ds.length).filter (! ·) = listed.toList.drop ds.length := List.filter_eq_self.2 (List.all_eq_true.1 h1)
      have h3 := List.take_append_drop ds.length listed.toList
      rw [← h3, List.filter_append, List.length_append, h2] at hc
      have hil : i < listed.size := by omega
      have hm : listed[i] ∈ (listed.toList.take ds.length).filter (! ·) := by
        refine List.mem_filter.2 ⟨?_, by simpa [Array.getD, hil] using hl⟩
        have : (listed.toList.take ds.length)[i]? = some listed[i] := by
          rw [List.getElem?_take, if_pos hi]
          simp [hil]
        exact List.mem_of_getElem? this
      have := List.length_pos_of_mem hm
      simp at hc
      omega
  intro rem
  induction rem with
  | zero =>
    intro listed us w' _ hs hu hx hall hf
    rw [Nat.zero_add] at hf ⊢
    exact finish listed us w' hs hu hx hall (count listed hs (fun i hi => (hall i hi).1) hf)
  | succ rem ih =>
    intro listed us w' hdc hs hu hx hall hf
    rw [show rem + 1 + (ops.size - ds.length) = rem + (ops.size - ds.length) + 1 by omega]
    -- one of the first ones has not come up
    obtain ⟨i0, hi0, hl0⟩ : ∃ i, i < ds.length ∧ listed.getD i false = false := by
      apply Classical.byContradiction
      intro hno
      have hdone : ∀ i, i < ds.length → listed.getD i false = true := by
        intro i hi
        cases hl : listed.getD i false with
        | true => rfl
        | false => exact absurd ⟨i, hi, hl⟩ hno
      have h1 : (listed.toList.take ds.length).filter (! ·) = [] := by
        rw [List.filter_eq_nil_iff]
        intro b hb
        obtain ⟨j, hj, rfl⟩ := List.getElem_of_mem hb
        rw [List.getElem_take]
        have hj' : j < ds.length := by simp at hj; omega
        have hjl : j < listed.size := by omega
        have := hdone j hj'
        simp [Array.getD, hjl] at this
        simp [this]
      have h3 := List.take_append_drop ds.length listed.toList
      rw [← h3, List.filter_append, List.length_append, h1] at hf
      have h4 := List.length_filter_le (! ·) (listed.toList.drop ds.length)
      simp at hf h4
      omega
    have low : ∀ i ∈ Region.ready .any ops listed, i < ds.length := by
      intro i hi
      apply Nat.lt_of_not_le
      intro hle
      obtain ⟨_, o, ho, _⟩ := mem_ready.1 hi
      have hilt : i < ops.size := (Array.getElem?_eq_some_iff.1 ho).1
      have hm := tailOk_at ht (by simpa using hilt) hle i0 (by omega)
      have := clos_listed hdc _ i (ready_deps hi) i0 hm
      rw [hl0] at this
      cases this
    refine ⟨fun hr => ?_, fun i hi => ?_⟩
    · exfalso
      -- the first that has not come up may come up
      have : ∀ i, i < ds.length → listed.getD i false = true := by
        intro i
        induction i using Nat.strongRecOn with
        | ind i ihh =>
          intro hi
          cases hl : listed.getD i false with
          | true => rfl
          | false =>
            exfalso
            have hio : i < ops.size := by omega
            have ho : ops[i]? = some ops[i] := Array.getElem?_eq_getElem hio
            have : i ∈ Region.ready .any ops listed := by
              rw [mem_ready]
              refine ⟨?_, ops[i], ho, fun e he hb => ?_⟩
              · have : i < listed.size := by omega
                simpa [Array.getD, this] using hl
              · have hj : e.on ∈ deps ops[i] := List.mem_map.2 ⟨e, List.mem_filter.2 ⟨by simpa using he, hb⟩, rfl⟩
                have := acyc_at ops.toList 0 i ops[i] hac (by simp) e.on hj
                exact ihh e.on (by omega) (by omega)
            rw [hr] at this
            cases this
      rw [this i0 hi0] at hl0
      cases hl0
    · have hids := low i hi
      obtain ⟨h0, o, ho, hde⟩ := mem_ready.1 hi
      have hilt : i < ops.size := (Array.getElem?_eq_some_iff.1 ho).1
      have hil : i < listed.size := by omega
      have hot : (ops.toList.take ds.length)[i]? = some o := by
        rw [List.getElem?_take, if_pos hids]; simpa using ho
      have hst := AllSteps.at _ 0 i o steps hot
      rw [Nat.zero_add] at hst
      have hdst : o.dst = some ds[i] := by
        have h1 : ((ops.toList.take ds.length).map (·.dst))[i]? = some o.dst := by rw [List.getElem?_map, hot]; rfl
        rw [hd, List.getElem?_map, List.getElem?_eq_getElem hids] at h1
        simpa using h1.symm
      have h1 := hst us hu w' hx (fun j hj => by
        have hj' : j ∈ deps o := by simpa using hj
        obtain ⟨e, he, rfl⟩ := List.mem_map.1 hj'
        obtain ⟨he1, he2⟩ := List.mem_filter.1 he
        exact (hall e.on (hde e (by simpa using he1) he2)).2)
      refine wpOpIn_mono ?_ (wpOpIn_of_list ho h1)
      rintro a' w'' ⟨v, rfl, hv, hx'⟩
      rw [hdst, ← over_set a ds us i hids v hnd hu]
      refine ih _ _ _ (hdc.set hi) (by simpa using hs) (by simpa using hu) (hx.trans hx') ?_ ?_
      · intro j hj
        by_cases hij : i = j
        · subst hij
          have e : (us.set i v).getD i undef = v := by
            rw [List.getD_eq_getElem?_getD, List.getElem?_set_self (by omega)]; rfl
          rw [e]; exact ⟨hids, hv⟩
        · have e : (us.set i v).getD j undef = us.getD j undef := by
            rw [List.getD_eq_getElem?_getD, List.getElem?_set_ne hij, ← List.getD_eq_getElem?_getD]
          rw [e]
          rw [getD_set_ne false hij] at hj
          exact ⟨(hall j hj).1, hΦ _ _ _ _ (hall j hj).2 hx'⟩
      · have hcnt : ((listed.setIfInBounds i true).toList.filter (! ·)).length + 1 = (listed.toList.filter (! ·)).length := by
          have hli : listed[i] = false := by simpa [Array.getD, hil] using h0
          have e1 : listed.toList = listed.toList.take i ++ listed[i] :: listed.toList.drop (i + 1) := by
            have := List.take_append_drop i listed.toList
            rw [List.drop_eq_getElem_cons (by simpa using hil)] at this
            simpa using this.symm
          have e2 : (listed.setIfInBounds i true).toList = listed.toList.take i ++ true :: listed.toList.drop (i + 1) := by
            rw [Array.toList_setIfInBounds, List.set_eq_take_append_cons_drop, if_pos (by simpa using hil)]
          rw [e2]
          conv => rhs; rw [e1, hli]
          simp only [List.filter_append, List.filter_cons, Bool.not_true, Bool.false_eq_true, if_false, Bool.not_false, if_true, List.length_append, List.length_cons]
          omega
        omega

/-- A region that draws its order, by obligations of its first operations, and a walk of the others. -/
theorem wpIn_region_mono {id : Nat} {a : Act} {w : World} (hm : P.follows .mixedOrders = true) (ds : List Nat) (hk : ds.length ≤ ops.size) (hd : (ops.toList.take ds.length).map (·.dst) = ds.map some) (hnd : ds.Nodup) (hb : ∀ d ∈ ds, d < a.tmps.size)
    (hac : acyc 0 ops.toList = true) (ht : tailOk ops.toList ds.length = true) (Φ : Nat → Value → World → Prop) (hΦ : ∀ i v w w', Φ i v w → Ext w w' → Φ i v w')
    (steps : AllSteps (StepOkIn F n P ops Q ds a w Φ) 0 (ops.toList.take ds.length))
    (fin : ∀ us : List Value, us.length = ds.length → ∀ w', Ext w w' → (∀ i, i < ds.length → Φ i (us.getD i undef) w') → wpListIn F n P ops Q (ops.toList.drop ds.length) (over ds us a) w') :
    (Code.region id ops true).wpIn F n P Q a w := by
  refine wpIn_region_any hm ?_
  have x0 : Ext w { w with drawn := w.drawn + 1 } := Ext.drew w
  have := any_monoIn ds hk hd hnd hac ht a w Φ hΦ steps fin ds.length (Array.replicate ops.size false) (ds.map fun d => a.tmps.getD d undef) { w with drawn := w.drawn + 1 } (fun i o _ hi => by
    exfalso
    rcases Nat.lt_or_ge i ops.size with h | h
    · simp [Array.getD, h] at hi
    · simp [Array.getD, Nat.not_lt.2 h] at hi) (by simp) (by simp) x0 (fun i hi => by
    exfalso
    rcases Nat.lt_or_ge i ops.size with h | h
    · simp [Array.getD, h] at hi
    · simp [Array.getD, Nat.not_lt.2 h] at hi) (by simp; omega)
  rw [over_self a ds hb, show ds.length + (ops.size - ds.length) = ops.size by omega] at this
  exact this
end
end Go.Proofs.YtiahholgpbjjfaaDoor

/- The walk of impl.gathered: a range over an iterator that gathers copies of the slices that it yields. The iterator may write variables of its own. -/
namespace Go.Proofs.YtiahholgpbjjfaaDoor
open Go.RowKit Go.Shelf

/-- What is no row of cells lies as it lay. -/
def KeepN (W W' : World) : Prop := ∀ (k : Nat) (o : Obj), W.heap[k]? = some o → o.isCells = false → W'.heap[k]? = some o
theorem KeepN.ext {W W' : World} (x : Ext W W') : KeepN W W' := fun _ _ h _ => (x.block (Array.getElem?_eq_some_iff.1 h).1).trans h
theorem KeepN.trans {A B C : World} (h : KeepN A B) (k : KeepN B C) : KeepN A C := fun i o hi ho => k i o (h i o hi ho) ho
theorem KeepN.setCell {W : World} {p : Addr} {u : Value} (h : W.cell? p = some u) (v : Value) : KeepN W (W.setCell p v) := by
  intro k o hk ho
  have hne : k ≠ p.block := by
    rintro rfl
    unfold World.cell? at h
    rw [hk] at h
    cases o <;> first | (simp at h; done) | exact Bool.noConfusion ho
  exact (Below.heap_setCell _ _ _ _ hne).trans hk
theorem KeepN.grown {B : Nat} {e : TypeId} {size : Nat} {w w' : World} {v : Value} {n : Nat} {xs : List Value} (h : w.ownsRow B e size v n xs) (hg : w.grownBy w' v.ownBlock) : KeepN w w' := by
  intro k o hk ho
  refine (hg.block k (Array.getElem?_eq_some_iff.1 hk).1 ?_).trans hk
  intro e1
  rcases h.2 with ⟨rfl, _⟩ | ⟨g, cap, cur, rfl, _, hh, _⟩
  · cases e1
  · have : g = k := (by simpa [Value.ownBlock] using e1 : k = g).symm
    subst this
    rw [hh] at hk
    injection hk with hk
    subst hk
    cases ho

theorem putObj_other {W : World} {k : Nat} (o' : Obj) {i : Nat} (h : i ≠ k) : (W.putObj k o').heap[i]? = W.heap[i]? := World.putObj_heap_other h

/-- An iterator: it yields slices that hold the texts LL, one by one; it may make memory, and write blocks from m up to n0. N: a bound of their number, S: of their size. -/
def IterOK (P : Program) (gf : FuncId) (lb : Array Value) (m n0 N S : Nat) (w : World) (LL : List (List UInt8)) : Prop :=
  ∀ (n l : Nat) (J : List (List UInt8) → World → Prop) (W : World), Ext w W → (∀ L W W', J L W → Ext W W' → J L W') → (∀ L W p v, J L W → m ≤ p.block → p.block < n0 → J L (W.setCell p v)) →
    (∀ L x t W1, J L W1 → Bs W1 x t → t.length ≤ S → L.length < N → YieldAt Fence.wide (n - 1) P l #[x] W1 fun e W' => e = .returned (.bool true) ∧ J (L ++ [t]) W' ∧ Below n0 W1 W') →
    J [] W → CallsIn Fence.wide n P gf (#[.func (.yield l) #[] #[]] ++ lb) W fun e W' => (∃ v, e = .returned v) ∧ J LL W'

def gatherPost (n0 : Nat) (Inv : List (List UInt8) → World → Prop) (L : List (List UInt8)) (W : World) : Exit → Act → World → Prop
  | .normal, _, W' => KeepN W W' ∧ Below n0 W W' ∧ Inv L W'
  | _, _, _ => False

theorem wpIn_gather {P : Program} {g : Operand} {ps : Array Tmp} {assign body : Code} {Q : Exit → Act → World → Prop} {a : Act} {w w0 : World} {n : Nat}
    {gf : Nat} {lb : Array Value} (hg : a.eval g = .func (.func gf) #[] lb) (eg : ∀ args w, (callFunc gf args).run P w = .ok (.enter gf args) w) (hps : ps.size = 1)
    {m n0 N S : Nat} (hn0 : n0 ≤ w.heap.size) {LL : List (List UInt8)} (hseq : IterOK P gf lb m n0 N S w0 LL) (hx0 : Ext w0 w)
    (Inv : List (List UInt8) → World → Prop) (hE : ∀ L W W', Inv L W → Ext W W' → Inv L W') (hS : ∀ L W p v, Inv L W → m ≤ p.block → p.block < n0 → Inv L (W.setCell p v))
    (hP : ∀ L W k o o', Inv L W → w.heap.size ≤ k → W.heap[k]? = some o → o.isCells = false → Inv L (W.putObj k o')) (h0 : Inv [] w) (a₁ : Value → Act)
    (hassign : ∀ (l : Nat) (x : Value) (W : World) (K : Act → World → Prop), K (a₁ x) W →
      assign.wpIn (Fence.wide.inRound l) (n - 1 - 1) P (Exit.then K (fun _ _ _ => False)) { tmps := (ps.zip #[x]).foldl (fun t (p, v) => t.setIfInBounds p v) a.tmps, defers := [] } W)
    (hbody : ∀ (l : Nat) (L : List (List UInt8)) (x : Value) (t : List UInt8) (W : World), Inv L W → Bs W x t → t.length ≤ S → L.length < N → body.wpIn (Fence.wide.inRound l) (n - 1 - 1) P (gatherPost n0 Inv (L ++ [t]) W) (a₁ x) W)
    (hdone : ∀ (D : Nat) (W : World), w.heap.size ≤ D → Inv LL W → W.heap[D]? = some (.deferred (some [])) → Q .normal { a with defers := { target := .collected D, args := #[] } :: a.defers } W) :
    (Code.rangeFunc g ps assign body).wpIn Fence.wide n P Q a w := by
  refine wpIn_rangeFunc ?_
  intro fn hfn
  obtain ⟨B, hB⟩ : ∃ B, w.heap.size = B := ⟨_, rfl⟩
  obtain ⟨rec, hrec⟩ : ∃ rec : LoopState → Loop, rec = fun st => { state := st, pending := none, fn, tmps := a.tmps, params := ps, assign, body, defers := B } := ⟨_, rfl⟩
  obtain ⟨W1, hW1⟩ : ∃ W1, (w.alloc (.deferred (some []))).alloc (.loop (rec .ready)) = W1 := ⟨_, rfl⟩
  have xW : Ext w W1 := by rw [← hW1]; exact (Ext.alloc _ _).trans (Ext.alloc _ _)
  have hL1 : W1.heap[B + 1]? = some (.loop (rec .ready)) := by
    have := World.alloc_heap_new (w.alloc (.deferred (some []))) (.loop (rec .ready))
    rw [World.size_alloc, hB] at this
    rw [← hW1]; exact this
  have hK1 : W1.heap[B]? = some (.deferred (some [])) := by
    rw [← hW1, ← hB]
    exact (Below.heap_alloc _ _ _ (by simp)).trans (World.alloc_heap_new w _)
  refine ⟨B + 1, [{ target := .collected B, args := #[] }], W1, { target := .fn (.func gf) lb, args := #[.func (.yield (B + 1)) #[] #[]] }, W1, gf, #[.func (.yield (B + 1)) #[] #[]] ++ lb, W1, ?_, ?_, fun _ _ => trivial, ?_, (fun h => Bool.noConfusion h), ?_⟩
  · rw [← hW1, hrec, ← hB]
    exact run_enterLoop_outer _ _ _ _ _
  · simp only [resolve, hg]
    simp [go_sem]
  · simp [invoke, go_sem, eg]
  have hbelow : ∀ (W : World) (k : Nat) (o o' : Obj), B ≤ k → W.heap[k]? = some o → o.isCells = false → o.isWalk = false → Below n0 W (W.putObj k o') := fun W k o o' hk h h1 h2 => belowK_b (w := w) hn0 W k o o' (by omega) h h1 h2
  refine (hseq (n - 1) (B + 1) (fun L W => Inv L W ∧ W.heap[B + 1]? = some (.loop (rec .ready)) ∧ W.heap[B]? = some (.deferred (some []))) W1 (hx0.trans xW) ?_ ?_ ?_ ⟨hE _ _ _ h0 xW, hL1, hK1⟩).mono ?_
  · rintro L W W' ⟨q1, q2, q3⟩ x
    exact ⟨hE _ _ _ q1 x, KeepN.ext x _ _ q2 rfl, KeepN.ext x _ _ q3 rfl⟩
  · rintro L W p v ⟨q1, q2, q3⟩ hp1 hp2
    exact ⟨hS _ _ _ _ q1 hp1 hp2, (Below.heap_setCell _ _ _ _ (by omega)).trans q2, (Below.heap_setCell _ _ _ _ (by omega)).trans q3⟩
  · rintro L x t W ⟨q1, q2, q3⟩ hb ht hlen
    have hlt : B + 1 < W.heap.size := (Array.getElem?_eq_some_iff.1 q2).1
    have hy := run_yield (P := P) (args := #[x]) q2 (by rw [hrec]; simpa using hps.symm)
    rw [hrec] at hy
    refine ⟨fn, _, assign, body, hy, roundIn_of_wpIn trivial (hassign _ x W _ ⟨_, run_beginRound q2 (by rw [hrec]), ?_⟩)⟩
    have r2 : (W.putObj (B + 1) (.loop { rec .ready with state := .busy })).heap[B + 1]? = some (.loop { rec .ready with state := .busy }) := World.putObj_heap_same hlt
    have r3 : (W.putObj (B + 1) (.loop { rec .ready with state := .busy })).heap[B]? = some (.deferred (some [])) := (World.putObj_heap_other (by omega)).trans q3
    have b1 := hbelow W (B + 1) _ (.loop { rec .ready with state := .busy }) (by omega) q2 rfl rfl
    have hb' : Bs (W.putObj (B + 1) (.loop { rec .ready with state := .busy })) x t := by
      obtain ⟨ad, c, hv, k1, k2, k3⟩ := hb
      refine ⟨ad, c, hv, k1, k2, ?_⟩
      rcases k3 with k3 | ⟨b, o, ha, hc⟩
      · exact .inl k3
      · refine .inr ⟨b, o, ha, fun i hi => ?_⟩
        have h1 := hc i hi
        have hne : b ≠ B + 1 := by
          rintro rfl
          unfold World.cell? at h1
          simp only at h1
          rw [q2] at h1
          simp at h1
        exact (World.cell?_of_block (a := ⟨b, o + i, none⟩) (putObj_other _ hne)).trans h1
    refine wpIn_mono (hbody _ L x t _ (hP _ _ _ _ _ q1 (by omega) q2 rfl) hb' ht hlen) ?_
    rintro e a3 W3 hp
    cases e with
    | normal =>
      obtain ⟨kk, b2, i3⟩ := hp
      have s2 := kk _ _ r2 rfl
      have s3 := kk _ _ r3 rfl
      have hr := run_endRound (P := P) none s2
      have hlt3 : B + 1 < W3.heap.size := (Array.getElem?_eq_some_iff.1 s2).1
      refine ⟨_, _, hr, rfl, ⟨hP _ _ _ _ _ i3 (by omega) s2 rfl, ?_, (World.putObj_heap_other (by omega)).trans s3⟩, (b1.trans b2).trans (hbelow W3 (B + 1) _ _ (by omega) s2 rfl rfl)⟩
      rw [World.putObj_heap_same hlt3, hrec]
      rfl
    | ret => exact hp.elim
    | exit id => exact hp.elim
    | goto t => exact hp.elim
    | panic ch => exact hp.elim
    | outgrown => exact hp.elim
  · rintro e W2 ⟨⟨v, rfl⟩, q1, q2, q3⟩
    have hr := run_endLoop (P := P) q2 (by rw [hrec]; simp)
    have hp : (rec .ready).pending = none := by rw [hrec]
    rw [hp] at hr
    exact ⟨none, _, hr, hdone B _ (by omega) (hP _ _ _ _ _ q1 (by omega) q2 rfl) ((World.putObj_heap_other (by omega)).trans q3)⟩
end Go.Proofs.YtiahholgpbjjfaaDoor

/- The walk of impl.gathered. -/
namespace Go.Proofs.YtiahholgpbjjfaaDoor
open Go.RowKit Go.Shelf

attribute [local go_sem] Oper.semAt_some

/-- A call's answer: a new list of texts; what lay below m lies as it lay. -/
def RetGath (m : Nat) (w : World) (L : List (List UInt8)) (e : Ending) (w' : World) : Prop := ∃ v, e = .returned v ∧ OwnL w.heap.size w'.heap.size w' v L ∧ Below m w w'

theorem boxed_ext {W W' : World} {B : Nat} {t : TypeId} {v : Value} (h : Boxed W B t v) (x : Ext W W') : Boxed W' B t v := (x.block h.lt).trans h
theorem boxed_fr {W W' : World} {B lo hi : Nat} {t : TypeId} {v : Value} (h : Boxed W B t v) (x : Fr lo hi W W') (hd : B < lo ∨ hi ≤ B) : Boxed W' B t v := (x.block B h.lt hd).trans h

theorem GrowL.fr {B lo hi : Nat} {T : TypeId} {w w' : World} {v : Value} {L : List (List UInt8)} (h : GrowL B T w v L) (x : Fr lo hi w w') (hd : hi ≤ B) : GrowL B T w' v L := by
  obtain ⟨vs, g, h1, h2, h3⟩ := h
  refine ⟨vs, g, owns_keepFr h1 x hd, h2, ?_⟩
  have hle := h3.le
  exact (Chain.fr x h3 (.inr hd)).mono (Nat.le_refl _) x.size

theorem own_putObj {lo hi : Nat} {W : World} {v : Value} {l : List UInt8} (h : Own lo hi W v l) {k : Nat} {o : Obj} (o' : Obj) (hk : W.heap[k]? = some o) (ho : o.isCells = false) : Own lo hi (W.putObj k o') v l := by
  obtain ⟨a, c, hv, k1, k2, h3⟩ := h
  refine ⟨a, c, hv, k1, k2, ?_⟩
  rcases h3 with h3 | ⟨b, p, ha, b1, b2, hc⟩
  · exact .inl h3
  · refine .inr ⟨b, p, ha, b1, b2, fun i hi => ?_⟩
    have h1 := (hc i hi).1
    have hne : b ≠ k := by
      rintro rfl
      unfold World.cell? at h1
      simp only at h1
      rw [hk] at h1
      cases o <;> first | (simp at h1; done) | exact Bool.noConfusion ho
    have hb := putObj_other (W := W) o' hne
    exact ⟨(World.cell?_of_block (a := ⟨b, p + i, none⟩) hb).trans h1, (World.frozen?_of_block (a := ⟨b, p + i, none⟩) hb).trans (hc i hi).2⟩
theorem chain_putObj {W : World} {hb k : Nat} {o : Obj} (o' : Obj) (hk : W.heap[k]? = some o) (ho : o.isCells = false) {lo hi : Nat} {vs : List Value} {L : List (List UInt8)} (h : Chain W hb lo hi vs L) : Chain (W.putObj k o') hb lo hi vs L :=
  Chain.frH (fun _ _ _ _ _ ow => own_putObj ow o' hk ho) h
theorem putObj_size (W : World) (k : Nat) (o : Obj) : (W.putObj k o).heap.size = W.heap.size := by simp [World.putObj]
theorem growL_putObj {B : Nat} {T : TypeId} {W : World} {v : Value} {L : List (List UInt8)} (h : GrowL B T W v L) {k : Nat} {o : Obj} (o' : Obj) (hk : W.heap[k]? = some o) (ho : o.isCells = false) : GrowL B T (W.putObj k o') v L := by
  obtain ⟨vs, g, h1, h2, h3⟩ := h
  refine ⟨vs, g, ownsRow_putObj h1 o' hk ho, h2, ?_⟩
  rw [putObj_size]
  exact chain_putObj o' hk ho h3
theorem boxed_putObj {W : World} {B : Nat} {t : TypeId} {v : Value} (h : Boxed W B t v) {k : Nat} {o : Obj} (o' : Obj) (hk : W.heap[k]? = some o) (ho : o.isCells = false) : Boxed (W.putObj k o') B t v := by
  refine (putObj_other o' ?_).trans h
  rintro rfl
  rw [show W.heap[B]? = _ from h] at hk
  injection hk with hk
  subst hk
  cases ho
theorem ownL_putObj {lo hi : Nat} {W : World} {v : Value} {L : List (List UInt8)} (h : OwnL lo hi W v L) {k : Nat} {o : Obj} (o' : Obj) (hk : W.heap[k]? = some o) (ho : o.isCells = false) : OwnL lo hi (W.putObj k o') v L := by
  obtain ⟨g, cap, vs, hv, h1, h2, h3, h4, hc, ch⟩ := h
  refine ⟨g, cap, vs, hv, h1, h2, h3, h4, fun i hi => ?_, chain_putObj o' hk ho ch⟩
  have h5 := hc i hi
  have hne : g ≠ k := by
    rintro rfl
    unfold World.cell? at h5
    simp only at h5
    rw [hk] at h5
    cases o <;> first | (simp at h5; done) | exact Bool.noConfusion ho
  exact (World.cell?_of_block (a := ⟨g, i, none⟩) (putObj_other (W := W) o' hne)).trans h5

/-- 'append(v, x)' inside a fence: where the new row lies. -/
theorem wpListIn_appendAt {F : Fence} {nn : Nat} {P : Program} {ops : Array Oper} {rest : List Oper} {o : Oper} {a : Act} {Q : Exit → Act → World → Prop} {w : World}
    (hgu : o.guard = none) (t : TypeId) (x y : Operand) (hop : o.op = Op.call { callee := .builtin .append, args := #[x, y], argTypes := #[t, t] })
    (e : TypeId) (size bytes : Nat) (z : Value) (ht : P.underlying t = some (.slice e)) (hinfo : (P.info? e).map (fun i => (i.zero, i.size, i.bytes)) = some (some z, size, bytes)) (hzs : z.cells.size = size) (hsz : 0 < size)
    (B : Nat) (v : Value) (n : Nat) (xs : List Value) (hx : a.eval x = v) (hv : w.ownsRow B e size v n xs) (ad : Addr) (m c : Nat) (news : List Value) (hy : a.eval y = .slice (some ad) m c) (hl : news.length = m * size)
    (hnews : ∀ j u, news[j]? = some u → w.cell? (ad.add j) = some u) (h1 : ∀ u ∈ news, u.oneCell' = true) (hlen : (n + m) * bytes ≤ 140737488355328) (hlen2 : n + m ≤ 140737488355328) (hB : B ≤ w.heap.size)
    (hK : ∀ v' w', w'.ownsRow B e size v' (n + m) (xs ++ news) → w.grownBy w' v.ownBlock → (v'.ownBlock = v.ownBlock ∨ v'.ownBlock = some w.heap.size) → wpListIn F nn P ops Q rest (a.put o.dst v') w') : wpListIn F nn P ops Q (o :: rest) a w := by
  refine wpListIn_plain hgu fun K hK' => ?_
  obtain ⟨i, hi, hzz⟩ := Option.map_eq_some_iff.1 hinfo
  simp only [Prod.mk.injEq] at hzz
  obtain ⟨hz, hs, hby⟩ := hzz
  obtain ⟨v', w', hr, h2, h3, _, h4⟩ := run_append_own_at (P := P) (w := w) B t o.type e i z size bytes ht hi hz hs hby hzs hsz v n xs hv ad m c news hl hnews h1 (by unfold maxLen; omega) hlen hB
  unfold Oper.wpIn
  refine ⟨?_, ?_⟩
  · simp [Oper.about, hop, resolve, Target.leads, Sem.run_pure]
  · rw [Oper.semAt_plain F _ _ (by rw [hop]; intro c hc'; cases hc')]
    simp [execOp, hop, resolve, invoke, builtin, hx, hy, hr, Result.andThen]
    exact hK' _ _ (hK v' w' h2 h3 h4)

/-- One text more, where the world may have grown between. -/
theorem GrowL.snoc2 {B : Nat} {T : TypeId} {w w0 w1 w2 w3 : World} {v u v' : Value} {L : List (List UInt8)} {l : List UInt8} (h : GrowL B T w v L) (x0 : Ext w w0) (o : Own w0.heap.size w1.heap.size w1 u l) (x1 : Ext w0 w1) (x2 : Ext w1 w2) {vs : List Value}
    (hv : w.ownsRow B T 1 v L.length vs) (h3 : w3.ownsRow B T 1 v' (L.length + 1) (vs ++ [u])) (g3 : w2.grownBy w3 v.ownBlock) (hat : v'.ownBlock = v.ownBlock ∨ v'.ownBlock = some w2.heap.size) : GrowL B T w3 v' (L ++ [l]) := by
  obtain ⟨vs', g, h1, h2, ch⟩ := h
  have hvs : vs' = vs := by
    rcases h1.2 with ⟨e1, e2⟩ | ⟨g1, cap1, cur1, e1, _, hh1, _, _, _, ht1⟩
    · rw [e1] at h2; cases h2
    · rcases hv.2 with ⟨e2, _⟩ | ⟨g2, cap2, cur2, e2, _, hh2, _, _, _, ht2⟩
      · rw [e1] at e2; cases e2
      · rw [e1] at e2
        injection e2 with e3 _ _
        injection e3 with e3
        injection e3 with e3
        subst e3
        rw [hh1] at hh2
        injection hh2 with hh2
        injection hh2 with hh2 _
        rw [← ht1, ← ht2, hh2]
  subst hvs
  have hglt := owns_lt h1 g h2
  have s0 := x0.size
  have s1 := x1.size
  have s2 := x2.size
  have s3 := g3.size
  rw [h2] at hat g3
  have keep : ∀ lo hi v l, (g < lo ∨ hi ≤ g) → Own lo hi w2 v l → Own lo hi w3 v l := by
    intro lo hi v l hd ow
    obtain ⟨a, c, hv, q1, q2, q3⟩ := ow
    refine ⟨a, c, hv, q1, q2, ?_⟩
    rcases q3 with q3 | ⟨b, o, ha, b1, b2, hc⟩
    · exact .inl q3
    · refine .inr ⟨b, o, ha, b1, b2, fun i hi => ?_⟩
      have hb := g3.block b (World.block_lt_of_cell? _ _ (hc i hi).1) (by intro e; injection e with e; omega)
      exact ⟨(World.cell?_of_block (a := ⟨b, o + i, none⟩) hb).trans (hc i hi).1, (World.frozen?_of_block (a := ⟨b, o + i, none⟩) hb).trans (hc i hi).2⟩
  have ch1 : Chain w3 g B w.heap.size vs' L := Chain.frH keep (ch.ext (x0.trans (x1.trans x2)))
  have o3 : Own w0.heap.size w1.heap.size w3 u l := keep _ _ _ _ (.inl (by omega)) (o.ext x2)
  refine ⟨vs' ++ [u], ?_⟩
  rw [List.length_append, List.length_singleton]
  rcases hat with hat | hat
  · exact ⟨g, h3, hat, Chain.snoc (by omega) s1 (by omega) (.inl (by omega)) o3 ch1⟩
  · exact ⟨w2.heap.size, h3, hat, Chain.snoc (by omega) s1 (by omega) (.inr (by omega)) o3 (ch1.other (by omega))⟩

/-- A box of a slice is written: no text and no row lies in it. -/
theorem own_setBox {lo hi : Nat} {W : World} {v : Value} {l : List UInt8} (h : Own lo hi W v l) {B : Nat} {t : TypeId} {a : Option Addr} {n c : Nat} (b : Boxed W B t (.slice a n c)) (u : Value) : Own lo hi (W.setCell ⟨B, 0, none⟩ u) v l := by
  obtain ⟨a, c, hv, k1, k2, h3⟩ := h
  refine ⟨a, c, hv, k1, k2, ?_⟩
  rcases h3 with h3 | ⟨b', p, ha, b1, b2, hc⟩
  · exact .inl h3
  · refine .inr ⟨b', p, ha, b1, b2, fun i hi => ?_⟩
    have h1 := (hc i hi).1
    have hne : b' ≠ B := by
      rintro rfl
      unfold World.cell? at h1
      simp only at h1
      rw [show W.heap[b']? = _ from b] at h1
      rcases hp : p + i with _ | q
      · rw [hp] at h1; simp at h1
      · rw [hp] at h1; simp at h1
    have hb : (W.setCell ⟨B, 0, none⟩ u).heap[b']? = W.heap[b']? :=
      (Fr.setCell (p := ⟨B, 0, none⟩) (lo := B) (hi := B + 1) (w := W) (Nat.le_refl _) (Nat.lt_succ_self _) u).block b' (World.block_lt_of_cell? _ _ (hc i hi).1) (by omega)
    exact ⟨(World.cell?_of_block (a := ⟨b', p + i, none⟩) hb).trans (hc i hi).1, (World.frozen?_of_block (a := ⟨b', p + i, none⟩) hb).trans (hc i hi).2⟩
theorem setCell_size (W : World) (p : Addr) (u : Value) : (W.setCell p u).heap.size = W.heap.size := by simp [World.setCell]
theorem GrowL.setBox {B0 B : Nat} {T t : TypeId} {W : World} {v u : Value} {L : List (List UInt8)} (h : GrowL B0 T W v L) {a : Option Addr} {n c : Nat} (b : Boxed W B t (.slice a n c)) (ht : T ≠ t) : GrowL B0 T (W.setCell ⟨B, 0, none⟩ u) v L := by
  obtain ⟨vs, g, h1, h2, h3⟩ := h
  refine ⟨vs, g, ?_, h2, ?_⟩
  · have hlt := owns_lt h1
    obtain ⟨h4, h5⟩ := h1
    refine ⟨h4, ?_⟩
    rcases h5 with h5 | ⟨g', cap, cur, hv, hg, hh, r⟩
    · exact .inl h5
    · refine .inr ⟨g', cap, cur, hv, hg, ?_, r⟩
      have hne : g' ≠ B := by
        rintro rfl
        rw [show W.heap[g']? = _ from b] at hh
        injection hh with hh
        injection hh with _ hh
        exact ht hh.symm
      rw [(Fr.setCell (p := ⟨B, 0, none⟩) (lo := B) (hi := B + 1) (w := W) (Nat.le_refl _) (Nat.lt_succ_self _) u).block g' (hlt g' (by rw [hv]; rfl)).2 (by omega)]; exact hh
  · rw [setCell_size]
    exact Chain.frH (fun _ _ _ _ _ ow => own_setBox ow b u) h3

end Go.Proofs.YtiahholgpbjjfaaDoor
