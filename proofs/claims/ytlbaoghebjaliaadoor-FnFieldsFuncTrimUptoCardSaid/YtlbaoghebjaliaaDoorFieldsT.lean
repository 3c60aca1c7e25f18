/- Plain theory: fields by a test, and trimming by it. No program is in sight. -/
import Derived.Test.YtlbaoghebjaliaaDoorFieldsQ
import Derived.Test.YtlbaoghebjaliaaDoorTrimP
namespace Go.Proofs.YtlbaoghebjaliaaDoor

theorem runsA_front (p : Int → Bool) : ∀ (A X : List Ch), (∀ x ∈ A, p x.r = true) → runsA p none (A ++ X) = runsA p none X
  | [], _, _ => rfl
  | a :: A, X, h => by
    rw [List.cons_append, runsA, if_pos (h a (List.mem_cons_self ..))]
    exact runsA_front p A X (fun x hx => h x (List.mem_cons_of_mem _ hx))

theorem runsA_all (p : Int → Bool) (B : List Ch) (h : ∀ x ∈ B, p x.r = true) : ∀ cur, runsA p cur B = runsA p cur [] := by
  have h0 : runsA p none B = [] := by
    have := runsA_front p B [] h
    rw [List.append_nil] at this
    rw [this]; rfl
  intro cur
  cases cur with
  | none => rw [h0]; rfl
  | some r =>
    cases B with
    | nil => rfl
    | cons b B =>
      show runsA p (some r) (b :: B) = [r]
      rw [runsA, if_pos (h b (List.mem_cons_self ..))]
      have : runsA p none B = [] := by
        have := runsA_front p B [] (fun x hx => h x (List.mem_cons_of_mem _ hx))
        rw [List.append_nil] at this
        rw [this]; rfl
      rw [this]

theorem runsA_back (p : Int → Bool) (B : List Ch) (h : ∀ x ∈ B, p x.r = true) : ∀ (X : List Ch) (cur : Option (List Ch)), runsA p cur (X ++ B) = runsA p cur X := by
  intro X
  induction X with
  | nil => intro cur; exact runsA_all p B h cur
  | cons x X ih =>
    intro cur
    cases cur with
    | none => rw [List.cons_append, runsA, runsA, ih, ih]
    | some r => rw [List.cons_append, runsA, runsA, ih, ih]

theorem runsA_head (p : Int → Bool) : ∀ (cs r : List Ch), ∃ r' rest ds, runsA p (some r) cs = (r ++ r') :: rest ∧ cs = r' ++ ds
  | [], r => ⟨[], [], [], by simp [runsA], rfl⟩
  | c :: cs, r => by
    rw [runsA]
    cases hp : p c.r
    · obtain ⟨r', rest, ds, h1, h2⟩ := runsA_head p cs (r ++ [c])
      refine ⟨c :: r', rest, ds, ?_, by rw [h2]; rfl⟩
      simpa using h1
    · exact ⟨[], runsA p none cs, c :: cs, by simp, rfl⟩

theorem runsA_last (p : Int → Bool) (c : Ch) (hc : p c.r = false) : ∀ (cs : List Ch) (cur : Option (List Ch)), ∃ D r pre, runsA p cur (cs ++ [c]) = D ++ [r] ∧ cur.getD [] ++ cs ++ [c] = pre ++ r := by
  intro cs
  induction cs with
  | nil =>
    intro cur
    cases cur with
    | none => exact ⟨[], [c], [], by simp [runsA, hc], by simp⟩
    | some r0 => exact ⟨[], r0 ++ [c], [], by simp [runsA, hc], by simp⟩
  | cons x cs ih =>
    intro cur
    cases cur with
    | none =>
      rw [List.cons_append, runsA]
      cases hp : p x.r
      · obtain ⟨D, r, pre, h1, h2⟩ := ih (some [x])
        exact ⟨D, r, pre, by simpa using h1, by simpa using h2⟩
      · obtain ⟨D, r, pre, h1, h2⟩ := ih none
        exact ⟨D, r, x :: pre, by simpa using h1, by
          have h2 : cs ++ [c] = pre ++ r := by simpa using h2
          simp [h2]⟩
    | some r0 =>
      rw [List.cons_append, runsA]
      cases hp : p x.r
      · obtain ⟨D, r, pre, h1, h2⟩ := ih (some (r0 ++ [x]))
        exact ⟨D, r, pre, by simpa using h1, by simpa using h2⟩
      · obtain ⟨D, r, pre, h1, h2⟩ := ih none
        exact ⟨r0 :: D, r, r0 ++ x :: pre, by simpa using h1, by
          have h2 : cs ++ [c] = pre ++ r := by simpa using h2
          simp [h2]⟩

/-- What is trimmed has the same fields; there is none just if nothing is left; what is left begins with the first, and ends with the last one. -/
theorem fields_trim (p : Int → Bool) (l : List UInt8) : fieldsB p (tB p l) = fieldsB p l ∧
    ((fieldsB p l = [] ∧ tB p l = []) ∨ ∃ x L y D, fieldsB p l = x :: L ∧ fieldsB p l = D ++ [y] ∧ tB p l ≠ [] ∧ hasPre (tB p l) x = true ∧ hasSuf (tB p l) y = true) := by
  rcases trim_cases p l with ⟨h, _, _, ht⟩ | ⟨A, M, B, h⟩
  · have hf : fieldsB p l = [] := by
      unfold fieldsB
      rw [(runsC_nil p _).2 h]; rfl
    refine ⟨?_, .inl ⟨hf, ht⟩⟩
    rw [hf, ht]; rfl
  · have hr : runsC p (chunks l) = runsC p M := by
      unfold runsC
      rw [h.cut, runsA_back p B h.back, runsA_front p A M h.front]
    have hf : fieldsB p (tB p l) = fieldsB p l := by
      unfold fieldsB
      rw [h.t, h.cm, hr]
    refine ⟨hf, .inr ?_⟩
    obtain ⟨c, M', e, hc⟩ := h.first
    obtain ⟨M2, c2, e2, hc2⟩ := h.last
    have h1 : runsC p M = runsA p (some [c]) M' := by
      unfold runsC
      rw [e, runsA, hc]; rfl
    obtain ⟨r', rest, ds, h2, h3⟩ := runsA_head p M' [c]
    obtain ⟨D, r, pre, h4, h5⟩ := runsA_last p c2 hc2 M2 none
    have h6 : runsC p M = D ++ [r] := by unfold runsC; rw [e2]; exact h4
    have hM1 : M = ([c] ++ r') ++ ds := by rw [e, h3]; simp
    have hM2 : M = pre ++ r := by rw [e2]; simpa using h5
    refine ⟨glue ([c] ++ r'), rest.map glue, glue r, D.map glue, ?_, ?_, ?_, ?_, ?_⟩
    · unfold fieldsB
      rw [hr, h1, h2]; rfl
    · unfold fieldsB
      rw [hr, h6]; simp
    · rw [h.t]; exact h.ne
    · rw [h.t, hasPre_iff]
      exact ⟨glue ds, by rw [hM1, glue_append]⟩
    · rw [h.t, hasSuf_iff]
      exact ⟨glue pre, by rw [hM2, glue_append]⟩
end Go.Proofs.YtlbaoghebjaliaaDoor
