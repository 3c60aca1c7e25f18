/- A region that draws its order, inside a fence: the first operations only make memory or read, whatever their order; the others wait for all that stand ahead of them. No condition. -/
import Derived.Test.YtdlobdbclgcogaaDoorMono
import Derived.OrdersIn
import Derived.TacticsIn
namespace Go.Proofs.YtdlobdbclgcogaaDoor
open Go.RowKit

section
variable {F : Fence} {n : Nat} {P : Program} {ops : Array Oper} {Q : Exit → Act → World → Prop}

theorem wpOpIn_of_list {i : Nat} {o : Oper} (ho : ops[i]? = some o) {K : Act → World → Prop} {a : Act} {w : World} (h : wpListIn F n P ops (postK Q K) [o] a w) : wpOpIn F n P ops Q i K a w := by
  unfold wpOpIn
  simp only [ho]
  unfold wpListIn at h
  exact h

theorem wpOpIn_of_cons {i : Nat} {o : Oper} (ho : ops[i]? = some o) {rest : List Oper} {a : Act} {w : World} (h : wpListIn F n P ops Q (o :: rest) a w) : wpOpIn F n P ops Q i (wpListIn F n P ops Q rest) a w := by
  unfold wpOpIn
  simp only [ho]
  unfold wpListIn at h
  exact h

/-- What an operation waits for, by others too. -/
def clos (l : List Oper) : Nat → Nat → List Nat
  | 0, _ => []
  | f + 1, i => match l[i]? with
    | none => []
    | some o => deps o ++ (deps o).flatMap (clos l f)
/-- Each operation from number k on waits for all that stand ahead of it. -/
def tailOk (ops : List Oper) (k : Nat) : Bool := (List.range ops.length).all fun i => decide (i < k) || (List.range i).all fun j => (clos ops ops.length i).contains j

theorem tailOk_at {l : List Oper} {k i : Nat} (h : tailOk l k = true) (hlt : i < l.length) (hi : k ≤ i) : ∀ j, j < i → j ∈ clos l l.length i := by
  intro j hj
  have h1 := List.all_eq_true.1 h i (List.mem_range.2 hlt)
  simp only [Bool.or_eq_true, decide_eq_true_eq] at h1
  have h2 := h1.resolve_left (by omega)
  have := List.all_eq_true.1 h2 j (List.mem_range.2 hj)
  simpa using this

/-- What has come up has all come up that it waits for. -/
def DC (ops : Array Oper) (listed : Array Bool) : Prop := ∀ i o, ops[i]? = some o → listed.getD i false = true → ∀ j ∈ deps o, listed.getD j false = true

theorem clos_listed {listed : Array Bool} (hdc : DC ops listed) : ∀ (f i : Nat), (∀ o, ops[i]? = some o → ∀ j ∈ deps o, listed.getD j false = true) → ∀ j ∈ clos ops.toList f i, listed.getD j false = true
  | 0, _, _, j, hj => by simp [clos] at hj
  | f + 1, i, h, j, hj => by
    unfold clos at hj
    cases ho : ops.toList[i]? with
    | none => rw [ho] at hj; simp at hj
    | some o =>
      rw [ho] at hj
      have ho' : ops[i]? = some o := by simpa using ho
      rcases List.mem_append.1 hj with h1 | h1
      · exact h o ho' j h1
      · obtain ⟨d, hd, hj2⟩ := List.mem_flatMap.1 h1
        exact clos_listed hdc f d (fun o' ho2 => hdc d o' ho2 (h o ho' d hd)) j hj2

theorem ready_deps {listed : Array Bool} {i : Nat} (hi : i ∈ Region.ready .any ops listed) : ∀ o, ops[i]? = some o → ∀ j ∈ deps o, listed.getD j false = true := by
  intro o ho j hj
  obtain ⟨_, o', ho', hde⟩ := mem_ready.1 hi
  rw [ho] at ho'
  injection ho' with ho'
  subst ho'
  obtain ⟨e, he, rfl⟩ := List.mem_map.1 hj
  obtain ⟨he1, he2⟩ := List.mem_filter.1 he
  exact hde e (by simpa using he1) he2

theorem DC.set {listed : Array Bool} (h : DC ops listed) {i : Nat} (hi : i ∈ Region.ready .any ops listed) : DC ops (listed.setIfInBounds i true) := by
  intro x o ho hx j hj
  by_cases hxi : i = x
  · subst hxi
    exact getD_set_true (ready_deps hi o ho j hj)
  · rw [getD_set_ne false hxi] at hx
    exact getD_set_true (h x o ho hx j hj)

/-- All up to number i have come up, the others not: they come in their order. -/
theorem any_tailIn (k : Nat) (ht : tailOk ops.toList k = true) (hac : acyc 0 ops.toList = true) : ∀ (fuel i : Nat) (listed : Array Bool) (a : Act) (w : World), k ≤ i → i + fuel = ops.size → listed.size = ops.size →
    (∀ j, j < ops.size → listed.getD j false = decide (j < i)) → wpListIn F n P ops Q (ops.toList.drop i) a w → wpAnyIn F n P .any ops Q fuel listed a w := by
  intro fuel
  have none_ready : ∀ (i : Nat) (listed : Array Bool), k ≤ i → listed.size = ops.size → (∀ j, j < ops.size → listed.getD j false = decide (j < i)) → ∀ x ∈ Region.ready .any ops listed, x = i := by
    intro i listed hki hs hl x hx
    obtain ⟨h0, o, ho, _⟩ := mem_ready.1 hx
    have hxlt : x < ops.size := (Array.getElem?_eq_some_iff.1 ho).1
    have hxi : i ≤ x := by
      apply Nat.le_of_not_lt
      intro hlt
      have h1 := hl x hxlt
      rw [decide_eq_true hlt] at h1
      have hxs : x < listed.size := by omega
      simp [Array.getD, hxs] at h0 h1
      rw [h0] at h1; cases h1
    apply Nat.le_antisymm _ hxi
    apply Nat.le_of_not_lt
    intro hlt
    have hm := tailOk_at ht (by simpa using hxlt) (by omega) i hlt
    have hdc : DC ops listed := by
      intro y o' ho' hy j hj
      have hylt : y < ops.size := (Array.getElem?_eq_some_iff.1 ho').1
      have h1 := acyc_at ops.toList 0 y o' hac (by simpa using ho') j hj
      rw [hl y hylt] at hy
      have := of_decide_eq_true hy
      rw [hl j (by omega), decide_eq_true (by omega)]
    have := clos_listed hdc _ x (ready_deps hx) i hm
    rw [hl i (by omega), decide_eq_false (by omega)] at this
    cases this
  induction fuel with
  | zero =>
    intro i listed a w hki hif hs hl h
    have hr : Region.ready .any ops listed = [] := by
      cases hr : Region.ready .any ops listed with
      | nil => rfl
      | cons x t =>
        exfalso
        have hx : x ∈ Region.ready .any ops listed := by rw [hr]; exact List.mem_cons_self ..
        have := none_ready i listed hki hs hl x hx
        obtain ⟨_, o, ho, _⟩ := mem_ready.1 hx
        have := (Array.getElem?_eq_some_iff.1 ho).1
        omega
    have hd : ops.toList.drop i = [] := List.drop_of_length_le (by simp; omega)
    rw [hd] at h
    exact ⟨hr, h⟩
  | succ fuel ih =>
    intro i listed a w hki hif hs hl h
    have hi : i < ops.size := by omega
    have ho : ops[i]? = some ops[i] := Array.getElem?_eq_getElem hi
    have hd : ops.toList.drop i = ops[i] :: ops.toList.drop (i + 1) := by
      rw [List.drop_eq_getElem_cons (by simpa using hi)]
      simp
    rw [hd] at h
    refine ⟨fun hr => ?_, fun x hx => ?_⟩
    · exfalso
      have : i ∈ Region.ready .any ops listed := by
        rw [mem_ready]
        refine ⟨?_, ops[i], ho, fun e he hb => ?_⟩
        · have h1 := hl i hi
          rw [decide_eq_false (by omega)] at h1
          have : i < listed.size := by omega
          simpa [Array.getD, this] using h1
        · have hj : e.on ∈ deps ops[i] := List.mem_map.2 ⟨e, List.mem_filter.2 ⟨by simpa using he, hb⟩, rfl⟩
          have := acyc_at ops.toList 0 i ops[i] hac (by simp) e.on hj
          rw [hl e.on (by omega), decide_eq_true (by omega)]
      rw [hr] at this
      cases this
    · have := none_ready i listed hki hs hl x hx
      subst this
      refine wpOpIn_mono (fun a' w' h' => ?_) (wpOpIn_of_cons ho h)
      refine ih (x + 1) _ a' w' (by omega) (by omega) (by simpa using hs) ?_ h'
      intro j hj
      by_cases hxj : x = j
      · subst hxj
        have : x < listed.size := by omega
        simp [Array.getD, this]
      · rw [getD_set_ne false hxj, hl j hj]
        by_cases h2 : j < x
        · rw [decide_eq_true h2, decide_eq_true (by omega)]
        · rw [decide_eq_false h2, decide_eq_false (by omega)]

/-- One obligation an operation. -/
def StepOkIn (F : Fence) (n : Nat) (P : Program) (ops : Array Oper) (Q : Exit → Act → World → Prop) (ds : List Nat) (a : Act) (w : World) (Φ : Nat → Value → World → Prop) (i : Nat) (o : Oper) : Prop :=
  ∀ us : List Value, us.length = ds.length → ∀ w', Ext w w' → (∀ j, (deps o).contains j = true → Φ j (us.getD j undef) w') →
    wpListIn F n P ops (postK Q (fun a' w'' => ∃ v, a' = (over ds us a).put o.dst v ∧ Φ i v w'' ∧ Ext w' w'')) [o] (over ds us a) w'

theorem any_monoIn (ds : List Nat) (hk : ds.length ≤ ops.size) (hd : (ops.toList.take ds.length).map (·.dst) = ds.map some) (hnd : ds.Nodup) (hac : acyc 0 ops.toList = true) (ht : tailOk ops.toList ds.length = true) (a : Act) (w : World)
    (Φ : Nat → Value → World → Prop) (hΦ : ∀ i v w w', Φ i v w → Ext w w' → Φ i v w')
    (steps : AllSteps (StepOkIn F n P ops Q ds a w Φ) 0 (ops.toList.take ds.length))
    (fin : ∀ us : List Value, us.length = ds.length → ∀ w', Ext w w' → (∀ i, i < ds.length → Φ i (us.getD i undef) w') → wpListIn F n P ops Q (ops.toList.drop ds.length) (over ds us a) w') :
    ∀ (rem : Nat) (listed : Array Bool) (us : List Value) (w' : World), DC ops listed → listed.size = ops.size → us.length = ds.length → Ext w w' → (∀ i, listed.getD i false = true → i < ds.length ∧ Φ i (us.getD i undef) w') →
      (listed.toList.filter (! ·)).length = rem + (ops.size - ds.length) → wpAnyIn F n P .any ops Q (rem + (ops.size - ds.length)) listed (over ds us a) w' := by
  -- all of the first ones have come up: the others come in their order
  have finish : ∀ (listed : Array Bool) (us : List Value) (w' : World), listed.size = ops.size → us.length = ds.length → Ext w w' → (∀ i, listed.getD i false = true → i < ds.length ∧ Φ i (us.getD i undef) w') → (∀ i, i < ds.length → listed.getD i false = true) →
      wpAnyIn F n P .any ops Q (ops.size - ds.length) listed (over ds us a) w' := by
    intro listed us w' hs hu hx hall hdone
    refine any_tailIn ds.length ht hac (ops.size - ds.length) ds.length listed _ _ (Nat.le_refl _) (by omega) hs ?_ (fin us hu w' hx (fun i hi => (hall i (hdone i hi)).2))
    intro j _
    by_cases hj : j < ds.length
    · rw [hdone j hj, decide_eq_true hj]
    · cases hl : listed.getD j false with
      | true => exact absurd (hall j hl).1 hj
      | false => rw [decide_eq_false hj]
  have count : ∀ listed : Array Bool, listed.size = ops.size → (∀ i, listed.getD i false = true → i < ds.length) → (listed.toList.filter (! ·)).length = ops.size - ds.length → ∀ i, i < ds.length → listed.getD i false = true := by
    intro listed hs hall hc i hi
    cases hl : listed.getD i false with
    | true => rfl
    | false =>
      exfalso
      have h1 : (listed.toList.drop ds.length).all (! ·) = true := by
        rw [List.all_eq_true]
        intro b hb
        obtain ⟨j, hj, rfl⟩ := List.getElem_of_mem hb
        rw [List.getElem_drop]
        have hjl : ds.length + j < listed.size := by
          have hj2 : j < listed.size - ds.length := by simpa using hj
          omega
        cases hv : listed.toList[ds.length + j] with
        | false => rfl
        | true =>
          have := hall (ds.length + j) (by simpa [Array.getD, hjl] using hv)
          omega
      have h2 : (listed.toList.drop ds.length).filter (! ·) = listed.toList.drop ds.length := List.filter_eq_self.2 (List.all_eq_true.1 h1)
      have h3 := List.take_append_drop ds.length listed.toList
      rw [← h3, List.filter_append, List.length_append, h2] at hc
      have hil : i < listed.size := by omega
      have hm : listed[i] ∈ (listed.toList.take ds.length).filter (! ·) := by
        refine List.mem_filter.2 ⟨?_, by simpa [Array.getD, hil] using hl⟩
        have : (listed.toList.take ds.length)[i]? = some listed[i] := by
          rw [List.getElem?_take, if_pos hi]
          simp [hil]
        exact List.mem_of_getElem? this
      have := List.length_pos_of_mem hm
      simp at hc
      omega
  intro rem
  induction rem with
  | zero =>
    intro listed us w' _ hs hu hx hall hf
    rw [Nat.zero_add] at hf ⊢
    exact finish listed us w' hs hu hx hall (count listed hs (fun i hi => (hall i hi).1) hf)
  | succ rem ih =>
    intro listed us w' hdc hs hu hx hall hf
    rw [show rem + 1 + (ops.size - ds.length) = rem + (ops.size - ds.length) + 1 by omega]
    -- one of the first ones has not come up
    obtain ⟨i0, hi0, hl0⟩ : ∃ i, i < ds.length ∧ listed.getD i false = false := by
      apply Classical.byContradiction
      intro hno
      have hdone : ∀ i, i < ds.length → listed.getD i false = true := by
        intro i hi
        cases hl : listed.getD i false with
        | true => rfl
        | false => exact absurd ⟨i, hi, hl⟩ hno
      have h1 : (listed.toList.take ds.length).filter (! ·) = [] := by
        rw [List.filter_eq_nil_iff]
        intro b hb
        obtain ⟨j, hj, rfl⟩ := List.getElem_of_mem hb
        rw [List.getElem_take]
        have hj' : j < ds.length := by simp at hj; omega
        have hjl : j < listed.size := by omega
        have := hdone j hj'
        simp [Array.getD, hjl] at this
        simp [this]
      have h3 := List.take_append_drop ds.length listed.toList
      rw [← h3, List.filter_append, List.length_append, h1] at hf
      have h4 := List.length_filter_le (! ·) (listed.toList.drop ds.length)
      simp at hf h4
      omega
    have low : ∀ i ∈ Region.ready .any ops listed, i < ds.length := by
      intro i hi
      apply Nat.lt_of_not_le
      intro hle
      obtain ⟨_, o, ho, _⟩ := mem_ready.1 hi
      have hilt : i < ops.size := (Array.getElem?_eq_some_iff.1 ho).1
      have hm := tailOk_at ht (by simpa using hilt) hle i0 (by omega)
      have := clos_listed hdc _ i (ready_deps hi) i0 hm
      rw [hl0] at this
      cases this
    refine ⟨fun hr => ?_, fun i hi => ?_⟩
    · exfalso
      -- the first that has not come up may come up
      have : ∀ i, i < ds.length → listed.getD i false = true := by
        intro i
        induction i using Nat.strongRecOn with
        | ind i ihh =>
          intro hi
          cases hl : listed.getD i false with
          | true => rfl
          | false =>
            exfalso
            have hio : i < ops.size := by omega
            have ho : ops[i]? = some ops[i] := Array.getElem?_eq_getElem hio
            have : i ∈ Region.ready .any ops listed := by
              rw [mem_ready]
              refine ⟨?_, ops[i], ho, fun e he hb => ?_⟩
              · have : i < listed.size := by omega
                simpa [Array.getD, this] using hl
              · have hj : e.on ∈ deps ops[i] := List.mem_map.2 ⟨e, List.mem_filter.2 ⟨by simpa using he, hb⟩, rfl⟩
                have := acyc_at ops.toList 0 i ops[i] hac (by simp) e.on hj
                exact ihh e.on (by omega) (by omega)
            rw [hr] at this
            cases this
      rw [this i0 hi0] at hl0
      cases hl0
    · have hids := low i hi
      obtain ⟨h0, o, ho, hde⟩ := mem_ready.1 hi
      have hilt : i < ops.size := (Array.getElem?_eq_some_iff.1 ho).1
      have hil : i < listed.size := by omega
      have hot : (ops.toList.take ds.length)[i]? = some o := by
        rw [List.getElem?_take, if_pos hids]; simpa using ho
      have hst := AllSteps.at _ 0 i o steps hot
      rw [Nat.zero_add] at hst
      have hdst : o.dst = some ds[i] := by
        have h1 : ((ops.toList.take ds.length).map (·.dst))[i]? = some o.dst := by rw [List.getElem?_map, hot]; rfl
        rw [hd, List.getElem?_map, List.getElem?_eq_getElem hids] at h1
        simpa using h1.symm
      have h1 := hst us hu w' hx (fun j hj => by
        have hj' : j ∈ deps o := by simpa using hj
        obtain ⟨e, he, rfl⟩ := List.mem_map.1 hj'
        obtain ⟨he1, he2⟩ := List.mem_filter.1 he
        exact (hall e.on (hde e (by simpa using he1) he2)).2)
      refine wpOpIn_mono ?_ (wpOpIn_of_list ho h1)
      rintro a' w'' ⟨v, rfl, hv, hx'⟩
      rw [hdst, ← over_set a ds us i hids v hnd hu]
      refine ih _ _ _ (hdc.set hi) (by simpa using hs) (by simpa using hu) (hx.trans hx') ?_ ?_
      · intro j hj
        by_cases hij : i = j
        · subst hij
          have e : (us.set i v).getD i undef = v := by
            rw [List.getD_eq_getElem?_getD, List.getElem?_set_self (by omega)]; rfl
          rw [e]; exact ⟨hids, hv⟩
        · have e : (us.set i v).getD j undef = us.getD j undef := by
            rw [List.getD_eq_getElem?_getD, List.getElem?_set_ne hij, ← List.getD_eq_getElem?_getD]
          rw [e]
          rw [getD_set_ne false hij] at hj
          exact ⟨(hall j hj).1, hΦ _ _ _ _ (hall j hj).2 hx'⟩
      · have hcnt : ((listed.setIfInBounds i true).toList.filter (! ·)).length + 1 = (listed.toList.filter (! ·)).length := by
          have hli : listed[i] = false := by simpa [Array.getD, hil] using h0
          have e1 : listed.toList = listed.toList.take i ++ listed[i] :: listed.toList.drop (i + 1) := by
            have := List.take_append_drop i listed.toList
            rw [List.drop_eq_getElem_cons (by simpa using hil)] at this
            simpa using this.symm
          have e2 : (listed.setIfInBounds i true).toList = listed.toList.take i ++ true :: listed.toList.drop (i + 1) := by
            rw [Array.toList_setIfInBounds, List.set_eq_take_append_cons_drop, if_pos (by simpa using hil)]
          rw [e2]
          conv => rhs; rw [e1, hli]
          simp only [List.filter_append, List.filter_cons, Bool.not_true, Bool.false_eq_true, if_false, Bool.not_false, if_true, List.length_append, List.length_cons]
          omega
        omega

/-- A region that draws its order, by obligations of its first operations, and a walk of the others. -/
theorem wpIn_region_mono {id : Nat} {a : Act} {w : World} (hm : P.follows .mixedOrders = true) (ds : List Nat) (hk : ds.length ≤ ops.size) (hd : (ops.toList.take ds.length).map (·.dst) = ds.map some) (hnd : ds.Nodup) (hb : ∀ d ∈ ds, d < a.tmps.size)
    (hac : acyc 0 ops.toList = true) (ht : tailOk ops.toList ds.length = true) (Φ : Nat → Value → World → Prop) (hΦ : ∀ i v w w', Φ i v w → Ext w w' → Φ i v w')
    (steps : AllSteps (StepOkIn F n P ops Q ds a w Φ) 0 (ops.toList.take ds.length))
    (fin : ∀ us : List Value, us.length = ds.length → ∀ w', Ext w w' → (∀ i, i < ds.length → Φ i (us.getD i undef) w') → wpListIn F n P ops Q (ops.toList.drop ds.length) (over ds us a) w') :
    (Code.region id ops true).wpIn F n P Q a w := by
  refine wpIn_region_any hm ?_
  have x0 : Ext w { w with drawn := w.drawn + 1 } := Ext.drew w
  have := any_monoIn ds hk hd hnd hac ht a w Φ hΦ steps fin ds.length (Array.replicate ops.size false) (ds.map fun d => a.tmps.getD d undef) { w with drawn := w.drawn + 1 } (fun i o _ hi => by
    exfalso
    rcases Nat.lt_or_ge i ops.size with h | h
    · simp [Array.getD, h] at hi
    · simp [Array.getD, Nat.not_lt.2 h] at hi) (by simp) (by simp) x0 (fun i hi => by
    exfalso
    rcases Nat.lt_or_ge i ops.size with h | h
    · simp [Array.getD, h] at hi
    · simp [Array.getD, Nat.not_lt.2 h] at hi) (by simp; omega)
  rw [over_self a ds hb, show ds.length + (ops.size - ds.length) = ops.size by omega] at this
  exact this
end
end Go.Proofs.YtdlobdbclgcogaaDoor
