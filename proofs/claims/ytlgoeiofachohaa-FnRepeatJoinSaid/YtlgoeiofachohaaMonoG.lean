/- A region that draws its order, by obligations of its operations over what has come up. Printed by monog.py. -/
import Derived.Test.YtlgoeiofachohaaMonoIn
namespace Go.Proofs.Ytlgoeiofachohaa
open Go.RowKit
section
variable {F : Fence} {n : Nat} {P : Program} {ops : Array Oper} {Q : Exit → Act → World → Prop}

/-- One obligation an operation: what has come up is told by 'done'. -/
def StepOkG (F : Fence) (n : Nat) (P : Program) (ops : Array Oper) (Q : Exit → Act → World → Prop) (ds : List Nat) (a : Act) (I : (Nat → Bool) → World → Prop) (Φ : Nat → Value → World → Prop) (i : Nat) (o : Oper) : Prop :=
  ∀ us : List Value, us.length = ds.length → ∀ (done : Nat → Bool) w', done i = false → (∀ j, (deps o).contains j = true → done j = true) → I done w' → (∀ j, done j = true → Φ j (us.getD j undef) w') →
    wpListIn F n P ops (postK Q (fun a' w'' => ∃ v, a' = (over ds us a).put o.dst v ∧ Φ i v w'' ∧ I (fun j => done j || decide (j = i)) w'' ∧ ∀ j, done j = true → Φ j (us.getD j undef) w'')) [o] (over ds us a) w'

theorem any_monoG (ds : List Nat) (hk : ds.length ≤ ops.size) (hd : (ops.toList.take ds.length).map (·.dst) = ds.map some) (hnd : ds.Nodup) (hac : acyc 0 ops.toList = true) (ht : tailOk ops.toList ds.length = true) (a : Act) (w : World)
    (I : (Nat → Bool) → World → Prop) (Φ : Nat → Value → World → Prop)
    (steps : AllSteps (StepOkG F n P ops Q ds a I Φ) 0 (ops.toList.take ds.length))
    (fin : ∀ us : List Value, us.length = ds.length → ∀ (done : Nat → Bool) w', (∀ j, j < ds.length → done j = true) → I done w' → (∀ i, i < ds.length → Φ i (us.getD i undef) w') → wpListIn F n P ops Q (ops.toList.drop ds.length) (over ds us a) w') :
    ∀ (rem : Nat) (listed : Array Bool) (us : List Value) (w' : World), DC ops listed → listed.size = ops.size → us.length = ds.length → I (fun j => listed.getD j false) w' → (∀ i, listed.getD i false = true → i < ds.length ∧ Φ i (us.getD i undef) w') →
      (listed.toList.filter (! ·)).length = rem + (ops.size - ds.length) → wpAnyIn F n P .any ops Q (rem + (ops.size - ds.length)) listed (over ds us a) w' := by
  -- all of the first ones have come up: the others come in their order
  have finish : ∀ (listed : Array Bool) (us : List Value) (w' : World), listed.size = ops.size → us.length = ds.length → I (fun j => listed.getD j false) w' → (∀ i, listed.getD i false = true → i < ds.length ∧ Φ i (us.getD i undef) w') → (∀ i, i < ds.length → listed.getD i false = true) →
      wpAnyIn F n P .any ops Q (ops.size - ds.length) listed (over ds us a) w' := by
    intro listed us w' hs hu hx hall hdone
    refine any_tailIn ds.length ht hac (ops.size - ds.length) ds.length listed _ _ (Nat.le_refl _) (by omega) hs ?_ (fin us hu _ w' hdone hx (fun i hi => (hall i (hdone i hi)).2))
    intro j _
    by_cases hj : j < ds.length
    · rw [hdone j hj, decide_eq_true hj]
    · cases hl : listed.getD j false with
      | true => exact absurd (hall j hl).1 hj
      | false => rw [decide_eq_false hj]
  have count : ∀ listed : Array Bool, listed.size = ops.size → (∀ i, listed.getD i false = true → i < ds.length) → (listed.toList.filter (! ·)).length = ops.size - ds.length → ∀ i, i < ds.length → listed.getD i false = true := by
    intro listed hs hall hc i hi
    cases hl : listed.getD i false with
    | true => rfl
    | false =>
      exfalso
      have h1 : (listed.toList.drop ds.length).all (! ·) = true := by
        rw [List.all_eq_true]
        intro b hb
        obtain ⟨j, hj, rfl⟩ := List.getElem_of_mem hb
        rw [List.getElem_drop]
        have hjl : ds.length + j < listed.size := by
          have hj2 : j < listed.size - ds.length := by simpa using hj
          omega
        cases hv : listed.toList[ds.length + j] with
        | false => rfl
        | true =>
          have := hall (ds.length + j) (by simpa [Array.getD, hjl] using hv)
          omega
      have h2 : (listed.toList.drop ds.length).filter (! ·) = listed.toList.drop ds.length := List.filter_eq_self.2 (List.all_eq_true.1 h1)
      have h3 := List.take_append_drop ds.length listed.toList
      rw [← h3, List.filter_append, List.length_append, h2] at hc
      have hil : i < listed.size := by omega
      have hm : listed[i] ∈ (listed.toList.take ds.length).filter (! ·) := by
        refine List.mem_filter.2 ⟨?_, by simpa [Array.getD, hil] using hl⟩
        have : (listed.toList.take ds.length)[i]? = some listed[i] := by
          rw [List.getElem?_take, if_pos hi]
          simp [hil]
        exact List.mem_of_getElem? this
      have := List.length_pos_of_mem hm
      simp at hc
      omega
  intro rem
  induction rem with
  | zero =>
    intro listed us w' _ hs hu hx hall hf
    rw [Nat.zero_add] at hf ⊢
    exact finish listed us w' hs hu hx hall (count listed hs (fun i hi => (hall i hi).1) hf)
  | succ rem ih =>
    intro listed us w' hdc hs hu hx hall hf
    rw [show rem + 1 + (ops.size - ds.length) = rem + (ops.size - ds.length) + 1 by omega]
    -- one of the first ones has not come up
    obtain ⟨i0, hi0, hl0⟩ : ∃ i, i < ds.length ∧ listed.getD i false = false := by
      apply Classical.byContradiction
      intro hno
      have hdone : ∀ i, i < ds.length → listed.getD i false = true := by
        intro i hi
        cases hl : listed.getD i false with
        | true => rfl
        | false => exact absurd ⟨i, hi, hl⟩ hno
      have h1 : (listed.toList.take ds.length).filter (! ·) = [] := by
        rw [List.filter_eq_nil_iff]
        intro b hb
        obtain ⟨j, hj, rfl⟩ := List.getElem_of_mem hb
        rw [List.getElem_take]
        have hj' : j < ds.length := by simp at hj; omega
        have hjl : j < listed.size := by omega
        have := hdone j hj'
        simp [Array.getD, hjl] at this
        simp [this]
      have h3 := List.take_append_drop ds.length listed.toList
      rw [← h3, List.filter_append, List.length_append, h1] at hf
      have h4 := List.length_filter_le (! ·) (listed.toList.drop ds.length)
      simp at hf h4
      omega
    have low : ∀ i ∈ Region.ready .any ops listed, i < ds.length := by
      intro i hi
      apply Nat.lt_of_not_le
      intro hle
      obtain ⟨_, o, ho, _⟩ := mem_ready.1 hi
      have hilt : i < ops.size := (Array.getElem?_eq_some_iff.1 ho).1
      have hm := tailOk_at ht (by simpa using hilt) hle i0 (by omega)
      have := clos_listed hdc _ i (ready_deps hi) i0 hm
      rw [hl0] at this
      cases this
    refine ⟨fun hr => ?_, fun i hi => ?_⟩
    · exfalso
      -- the first that has not come up may come up
      have : ∀ i, i < ds.length → listed.getD i false = true := by
        intro i
        induction i using Nat.strongRecOn with
        | ind i ihh =>
          intro hi
          cases hl : listed.getD i false with
          | true => rfl
          | false =>
            exfalso
            have hio : i < ops.size := by omega
            have ho : ops[i]? = some ops[i] := Array.getElem?_eq_getElem hio
            have : i ∈ Region.ready .any ops listed := by
              rw [mem_ready]
              refine ⟨?_, ops[i], ho, fun e he hb => ?_⟩
              · have : i < listed.size := by omega
                simpa [Array.getD, this] using hl
              · have hj : e.on ∈ deps ops[i] := List.mem_map.2 ⟨e, List.mem_filter.2 ⟨by simpa using he, hb⟩, rfl⟩
                have := acyc_at ops.toList 0 i ops[i] hac (by simp) e.on hj
                exact ihh e.on (by omega) (by omega)
            rw [hr] at this
            cases this
      rw [this i0 hi0] at hl0
      cases hl0
    · have hids := low i hi
      obtain ⟨h0, o, ho, hde⟩ := mem_ready.1 hi
      have hilt : i < ops.size := (Array.getElem?_eq_some_iff.1 ho).1
      have hil : i < listed.size := by omega
      have hot : (ops.toList.take ds.length)[i]? = some o := by
        rw [List.getElem?_take, if_pos hids]; simpa using ho
      have hst := AllSteps.at _ 0 i o steps hot
      rw [Nat.zero_add] at hst
      have hdst : o.dst = some ds[i] := by
        have h1 : ((ops.toList.take ds.length).map (·.dst))[i]? = some o.dst := by rw [List.getElem?_map, hot]; rfl
        rw [hd, List.getElem?_map, List.getElem?_eq_getElem hids] at h1
        simpa using h1.symm
      have h1 := hst us hu (fun j => listed.getD j false) w' (by simpa [Array.getD, hil] using h0) (fun j hj => by
        have hj' : j ∈ deps o := by simpa using hj
        obtain ⟨e, he, rfl⟩ := List.mem_map.1 hj'
        obtain ⟨he1, he2⟩ := List.mem_filter.1 he
        exact hde e (by simpa using he1) he2) hx (fun j hj => (hall j hj).2)
      refine wpOpIn_mono ?_ (wpOpIn_of_list ho h1)
      rintro a' w'' ⟨v, rfl, hv, hx', hkeep⟩
      rw [hdst, ← over_set a ds us i hids v hnd hu]
      refine ih _ _ _ (hdc.set hi) (by simpa using hs) (by simpa using hu) ?_ ?_ ?_
      · have e : (fun j => (listed.setIfInBounds i true).getD j false) = fun j => listed.getD j false || decide (j = i) := by
          funext j
          by_cases hij : i = j
          · subst hij; simp [Array.getD, hil]
          · rw [getD_set_ne false hij, decide_eq_false (fun h => hij h.symm), Bool.or_false]
        rw [e]; exact hx'
      · intro j hj
        by_cases hij : i = j
        · subst hij
          have e : (us.set i v).getD i undef = v := by
            rw [List.getD_eq_getElem?_getD, List.getElem?_set_self (by omega)]; rfl
          rw [e]; exact ⟨hids, hv⟩
        · have e : (us.set i v).getD j undef = us.getD j undef := by
            rw [List.getD_eq_getElem?_getD, List.getElem?_set_ne hij, ← List.getD_eq_getElem?_getD]
          rw [e]
          rw [getD_set_ne false hij] at hj
          exact ⟨(hall j hj).1, hkeep j hj⟩
      · have hcnt : ((listed.setIfInBounds i true).toList.filter (! ·)).length + 1 = (listed.toList.filter (! ·)).length := by
          have hli : listed[i] = false := by simpa [Array.getD, hil] using h0
          have e1 : listed.toList = listed.toList.take i ++ listed[i] :: listed.toList.drop (i + 1) := by
            have := List.take_append_drop i listed.toList
            rw [List.drop_eq_getElem_cons (by simpa using hil)] at this
            simpa using this.symm
          have e2 : (listed.setIfInBounds i true).toList = listed.toList.take i ++ true :: listed.toList.drop (i + 1) := by
            rw [Array.toList_setIfInBounds, List.set_eq_take_append_cons_drop, if_pos (by simpa using hil)]
          rw [e2]
          conv => rhs; rw [e1, hli]
          simp only [List.filter_append, List.filter_cons, Bool.not_true, Bool.false_eq_true, if_false, Bool.not_false, if_true, List.length_append, List.length_cons]
          omega
        omega

/-- A region that draws its order, by obligations of its first operations, and a walk of the others. -/
theorem wpIn_region_monoG {id : Nat} {a : Act} {w : World} (hm : P.follows .mixedOrders = true) (ds : List Nat) (hk : ds.length ≤ ops.size) (hd : (ops.toList.take ds.length).map (·.dst) = ds.map some) (hnd : ds.Nodup) (hb : ∀ d ∈ ds, d < a.tmps.size)
    (hac : acyc 0 ops.toList = true) (ht : tailOk ops.toList ds.length = true) (I : (Nat → Bool) → World → Prop) (Φ : Nat → Value → World → Prop)
    (hI : ∀ done, (∀ j, done j = false) → I done { w with drawn := w.drawn + 1 })
    (steps : AllSteps (StepOkG F n P ops Q ds a I Φ) 0 (ops.toList.take ds.length))
    (fin : ∀ us : List Value, us.length = ds.length → ∀ (done : Nat → Bool) w', (∀ j, j < ds.length → done j = true) → I done w' → (∀ i, i < ds.length → Φ i (us.getD i undef) w') → wpListIn F n P ops Q (ops.toList.drop ds.length) (over ds us a) w') :
    (Code.region id ops true).wpIn F n P Q a w := by
  refine wpIn_region_any hm ?_
  have x0 := hI (fun j => (Array.replicate ops.size false).getD j false) (fun j => by
    rcases Nat.lt_or_ge j ops.size with h | h
    · simp [Array.getD, h]
    · simp [Array.getD, Nat.not_lt.2 h])
  have := any_monoG ds hk hd hnd hac ht a w I Φ steps fin ds.length (Array.replicate ops.size false) (ds.map fun d => a.tmps.getD d undef) { w with drawn := w.drawn + 1 } (fun i o _ hi => by
    exfalso
    rcases Nat.lt_or_ge i ops.size with h | h
    · simp [Array.getD, h] at hi
    · simp [Array.getD, Nat.not_lt.2 h] at hi) (by simp) (by simp) x0 (fun i hi => by
    exfalso
    rcases Nat.lt_or_ge i ops.size with h | h
    · simp [Array.getD, h] at hi
    · simp [Array.getD, Nat.not_lt.2 h] at hi) (by simp; omega)
  rw [over_self a ds hb, show ds.length + (ops.size - ds.length) = ops.size by omega] at this
  exact this
end
end Go.Proofs.Ytlgoeiofachohaa

