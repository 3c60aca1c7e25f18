/- Plain theory of fields by a test: what each is. No program is in sight. -/
import Derived.Test.YtlbaoghebjaliaaDoorFieldsP
import Derived.Test.YtlbaoghebjaliaaDoorSpecR
import Derived.Test.YtlbaoghebjaliaaDoorLastIx
namespace Go.Proofs.YtlbaoghebjaliaaDoor

theorem runsA_mem (p : Int → Bool) : ∀ (cs : List Ch) (cur : Option (List Ch)), (∀ r, cur = some r → r ≠ [] ∧ ∀ c ∈ r, p c.r = false) →
    ∀ r ∈ runsA p cur cs, r ≠ [] ∧ (∀ c ∈ r, p c.r = false) ∧ ∃ ps ds, cur.getD [] ++ cs = ps ++ r ++ ds := by
  intro cs
  induction cs with
  | nil =>
    intro cur h r hr
    cases cur with
    | none => simp [runsA] at hr
    | some r0 =>
      have hr : r = r0 := by simpa [runsA] using hr
      subst hr
      exact ⟨(h r rfl).1, (h r rfl).2, [], [], by simp⟩
  | cons c cs ih =>
    intro cur h r hr
    cases cur with
    | none =>
      rw [runsA] at hr
      cases hp : p c.r
      · rw [hp] at hr
        obtain ⟨h1, h2, ps, ds, h3⟩ := ih (some [c]) (by intro r e; cases e; exact ⟨by simp, by simp [hp]⟩) r hr
        exact ⟨h1, h2, ps, ds, by simpa using h3⟩
      · rw [hp] at hr
        obtain ⟨h1, h2, ps, ds, h3⟩ := ih none (by intro r e; cases e) r hr
        exact ⟨h1, h2, c :: ps, ds, by simpa using h3⟩
    | some r0 =>
      rw [runsA] at hr
      cases hp : p c.r
      · rw [hp] at hr
        obtain ⟨h1, h2, ps, ds, h3⟩ := ih (some (r0 ++ [c])) (by
          intro r e
          cases e
          refine ⟨by simp, fun x hx => ?_⟩
          rcases List.mem_append.1 hx with hx | hx
          · exact (h r0 rfl).2 x hx
          · rw [List.mem_singleton.1 hx]; exact hp) r hr
        exact ⟨h1, h2, ps, ds, by simpa using h3⟩
      · rw [hp] at hr
        rcases List.mem_cons.1 hr with hr | hr
        · subst hr
          exact ⟨(h r rfl).1, (h r rfl).2, [], c :: cs, by simp⟩
        · obtain ⟨h1, h2, ps, ds, h3⟩ := ih none (by intro r e; cases e) r hr
          exact ⟨h1, h2, r0 ++ c :: ps, ds, by
            have h3 : cs = ps ++ r ++ ds := by simpa using h3
            rw [h3]; simp⟩

theorem runsA_some (p : Int → Bool) : ∀ (cs : List Ch) (r : List Ch), runsA p (some r) cs ≠ []
  | [], _ => by simp [runsA]
  | c :: cs, r => by
    rw [runsA]
    cases hp : p c.r
    · simpa using runsA_some p cs (r ++ [c])
    · simp

theorem runsC_nil (p : Int → Bool) : ∀ cs : List Ch, runsC p cs = [] ↔ ∀ c ∈ cs, p c.r = true
  | [] => by simp [runsC, runsA]
  | c :: cs => by
    have ih := runsC_nil p cs
    unfold runsC at ih ⊢
    rw [runsA]
    cases hp : p c.r
    · simp [runsA_some, hp]
    · simp [ih, hp]

/-- A field is not empty, has no code point that satisfies the test, and stands in the text. -/
theorem field_each (p : Int → Bool) (l x : List UInt8) (h : x ∈ fieldsB p l) : x ≠ [] ∧ firstC p 0 (chunks x) = -1 ∧ hasIn l x = true := by
  unfold fieldsB at h
  obtain ⟨r, hr, rfl⟩ := List.mem_map.1 h
  obtain ⟨h1, h2, ps, ds, h3⟩ := runsA_mem p (chunks l) none (by intro r e; cases e) r hr
  have h3 : chunks l = ps ++ r ++ ds := by simpa using h3
  have hc := chunks_mid ps r ds l h3
  refine ⟨fun e => ?_, ?_, ?_⟩
  · rw [e, chunks_nil] at hc
    exact h1 hc.symm
  · rw [hc]; exact firstC_none p _ 0 h2
  · have hg := glue_chunks l
    rw [h3, glue_append, glue_append] at hg
    unfold hasIn
    rw [decide_eq_true_eq]
    exact firstIx_some (i := (glue ps).length) ⟨glue ps, glue ds, hg.symm, rfl⟩

/-- There is none just if all code points satisfy it. -/
theorem fields_none (rs : List Int) (nt : Bool) (l : List UInt8) : decide ((fieldsB (holdsT rs nt) l).length = 0) = decide (firstC (holdsT rs (!nt)) 0 (chunks l) < 0) := by
  have e : (fieldsB (holdsT rs nt) l).length = 0 ↔ firstC (holdsT rs (!nt)) 0 (chunks l) < 0 := by
    unfold fieldsB
    rw [List.length_map, List.length_eq_zero_iff, runsC_nil]
    rcases firstC_range (holdsT rs (!nt)) (chunks l) 0 with ⟨e, hn⟩ | ⟨i, hi, e, _, hp⟩
    · rw [e]
      refine ⟨fun _ => by omega, fun _ c hc => ?_⟩
      have := hn c hc
      rw [holdsT_not] at this
      cases h : holdsT rs nt c.r
      · rw [h] at this; cases this
      · rfl
    · rw [e]
      refine ⟨fun h => ?_, fun h => by omega⟩
      exfalso
      have h1 := h _ (List.getElem_mem hi)
      rw [holdsT_not, h1] at hp
      cases hp
  exact decide_eq_decide.2 e
end Go.Proofs.YtlbaoghebjaliaaDoor
