/- A region whose order is fixed, by one obligation an operation (as wp_region_mono does it for one that draws its order). No condition. -/
import Derived.Test.YtiahholgpbjjfaaDoorZA
namespace Go.Proofs.YtiahholgpbjjfaaDoor
open Go.RowKit
section
variable {P : Program} {ops : Array Oper} {Q : Exit → Act → World → Prop}

theorem seq_mono (ds : List Nat) (hd : ops.toList.map (·.dst) = ds.map some) (hnd : ds.Nodup) (hac : acyc 0 ops.toList = true) (a : Act) (w : World)
    (Φ : Nat → Value → World → Prop) (hΦ : ∀ i v w w', Φ i v w → Ext w w' → Φ i v w')
    (steps : AllSteps (StepOk P ops Q ds a w Φ) 0 ops.toList)
    (fin : ∀ us : List Value, us.length = ds.length → ∀ w', Ext w w' → (∀ i, i < ds.length → Φ i (us.getD i undef) w') → Q .normal (over ds us a) w') :
    ∀ (m i : Nat) (us : List Value) (w' : World), i + m = ops.size → us.length = ds.length → Ext w w' → (∀ j, j < i → Φ j (us.getD j undef) w') → wpOps P ops Q (List.range' i m) (over ds us a) w' := by
  have hlen : ds.length = ops.size := by
    have := congrArg List.length hd
    simpa using this.symm
  intro m
  induction m with
  | zero =>
    intro i us w' hi hu hx hall
    exact fin us hu w' hx (fun j hj => hall j (by omega))
  | succ m ih =>
    intro i us w' hi hu hx hall
    have hilt : i < ops.size := by omega
    have hids : i < ds.length := by omega
    have ho : ops[i]? = some ops[i] := Array.getElem?_eq_getElem hilt
    have hst := AllSteps.at ops.toList 0 i ops[i] steps (by simp)
    rw [Nat.zero_add] at hst
    have hdst : ops[i].dst = some ds[i] := by
      have h1 : (ops.toList.map (·.dst))[i]? = some ops[i].dst := by rw [List.getElem?_map]; simp [hilt]
      rw [hd, List.getElem?_map, List.getElem?_eq_getElem hids] at h1
      simpa using h1.symm
    have h1 := hst us hu w' hx (fun j hj => by
      have hj' : j ∈ deps ops[i] := by simpa using hj
      have := acyc_at ops.toList 0 i ops[i] hac (by simp) j hj'
      exact hall j (by omega))
    rw [List.range'_succ, wpOps_cons]
    refine wpOp_mono ?_ (wpOp_of_list ho h1)
    rintro a' w'' ⟨v, rfl, hv, hx'⟩
    rw [hdst, ← over_set a ds us i hids v hnd hu]
    refine ih (i + 1) _ _ (by omega) (by simpa using hu) (hx.trans hx') ?_
    intro j hj
    by_cases hij : i = j
    · subst hij
      have e2 : (us.set i v).getD i undef = v := by
        rw [List.getD_eq_getElem?_getD, List.getElem?_set_self (by omega)]; rfl
      rw [e2]; exact hv
    · have e2 : (us.set i v).getD j undef = us.getD j undef := by
        rw [List.getD_eq_getElem?_getD, List.getElem?_set_ne hij, ← List.getD_eq_getElem?_getD]
      rw [e2]
      exact hΦ _ _ _ _ (hall j (by omega)) hx'

theorem wp_region_seq {id : Nat} {a : Act} {w : World} (_hm : P.follows .mixedOrders = true) (ds : List Nat) (hd : ops.toList.map (·.dst) = ds.map some) (hnd : ds.Nodup) (hb : ∀ d ∈ ds, d < a.tmps.size)
    (hac : acyc 0 ops.toList = true) (Φ : Nat → Value → World → Prop) (hΦ : ∀ i v w w', Φ i v w → Ext w w' → Φ i v w')
    (steps : AllSteps (StepOk P ops Q ds a w Φ) 0 ops.toList)
    (fin : ∀ us : List Value, us.length = ds.length → ∀ w', Ext w w' → (∀ i, i < ds.length → Φ i (us.getD i undef) w') → Q .normal (over ds us a) w') :
    (Code.region id ops false).wp P Q a w := by
  refine wp_region ?_
  have := seq_mono ds hd hnd hac a w Φ hΦ steps fin ops.size 0 (ds.map fun d => a.tmps.getD d undef) w (by omega) (by simp) (Ext.refl _) (fun i hi => by omega)
  rw [List.range_eq_range']
  rwa [over_self a ds hb] at this
end
end Go.Proofs.YtiahholgpbjjfaaDoor
