/- Plain theory of texts without some code points: tables that drop, fields one behind the other, trims. No program is in sight. -/
import Derived.Test.YtdlobdbclgcogaaDoorFieldsP
import Derived.Test.YtdlobdbclgcogaaDoorTrimP
import Derived.Test.YtdlobdbclgcogaaDoorTable
namespace Go.Proofs.YtdlobdbclgcogaaDoor

/-- The rows that drop some code points. -/
def dropT (rs : List Int) : List (Int × Int) := rs.zip (List.replicate rs.length (-1))
theorem imageT_dropR (r : Int) : ∀ rs : List Int, imageT (dropT rs) r = if r ∈ rs then -1 else r
  | [] => rfl
  | x :: xs => by
    have ih := imageT_dropR r xs
    unfold dropT at *
    rw [List.length_cons, List.replicate_succ, List.zip_cons_cons, imageT, ih]
    by_cases h : x = r
    · simp [h]
    · have h' : ¬ r = x := fun e => h e.symm
      simp [h, h']
theorem imageT_dropT (rs : List Int) (r : Int) : imageT (dropT rs) r = if holdsT rs false r = true then -1 else r := by
  rw [imageT_dropR]
  unfold holdsT
  by_cases h : r ∈ rs <;> simp [h]
theorem imageT_drop_le (rs : List Int) : ∀ r : Int, 0 ≤ r → r ≤ 1114111 → imageT (dropT rs) r ≤ 2147483647 := by
  intro r _ h
  rw [imageT_dropR]
  split <;> omega

section
variable {p : Int → Bool} {f : Int → Int}

theorem drop_runs (hf : ∀ r, f r = if p r = true then -1 else r) : ∀ cs : List Ch, (∀ c ∈ cs, ChOk c) → wholeC cs = true → ∀ cur : Option (List Ch), ((runsA p cur cs).map glue).flatten = (match cur with | none => [] | some r => glue r) ++ mapC f cs
  | [], _, _, none => by simp [runsA, mapC]
  | [], _, _, some r => by simp [runsA, mapC]
  | c :: cs, hk, hw, cur => by
    have hw' : c.ok = true ∧ wholeC cs = true := by simpa [wholeC] using hw
    have ih := drop_runs hf cs (fun d hd => hk d (List.mem_cons_of_mem _ hd)) hw'.2
    have hc := (hk c (List.mem_cons_self ..)).good hw'.1
    cases hp : p c.r with
    | true =>
      have e : mapC f (c :: cs) = mapC f cs := by
        simp only [mapC, hf, hp, if_true]
        rfl
      cases cur with
      | none => simp only [runsA, hp, if_true, e]; exact ih none
      | some r => simp only [runsA, hp, if_true, e, List.map_cons, List.flatten_cons]; rw [ih none]; rfl
    | false =>
      have e : mapC f (c :: cs) = c.bs ++ mapC f cs := by
        have e1 : f c.r = (c.r : Int) := by rw [hf, hp]; rfl
        simp only [mapC]
        rw [e1, if_neg (by omega), Int.toNat_natCast, hc]
      cases cur with
      | none =>
        simp only [runsA, hp, e]
        have := ih (some [c])
        simp only [Bool.false_eq_true, if_false] at this ⊢
        rw [this, glue_cons, glue_nil]
        simp
      | some r =>
        simp only [runsA, hp, e]
        have := ih (some (r ++ [c]))
        simp only [Bool.false_eq_true, if_false] at this ⊢
        rw [this, glue_append, glue_cons, glue_nil]
        simp

/-- Of well-formed text the fields, one behind the other, are the text without what splits it. -/
theorem drop_fields (hf : ∀ r, f r = if p r = true then -1 else r) (l : List UInt8) (hw : wholeB l = true) : mapB f l = (fieldsB p l).flatten := by
  have := drop_runs hf (chunks l) (chunks_ok l) hw none
  rw [List.nil_append] at this
  exact this.symm

theorem mapC_gone (hf : ∀ r, f r = if p r = true then -1 else r) : ∀ cs : List Ch, (∀ c ∈ cs, p c.r = true) → mapC f cs = []
  | [], _ => rfl
  | c :: cs, h => by
    simp only [mapC, hf, h c (List.mem_cons_self ..), if_true, mapC_gone hf cs (fun d hd => h d (List.mem_cons_of_mem _ hd))]
    rfl

/-- What is dropped anyway may be trimmed ahead of that. -/
theorem drop_trim (hf : ∀ r, f r = if p r = true then -1 else r) (l : List UInt8) : mapB f (tB p l) = mapB f l := by
  unfold mapB
  rcases trim_cases p l with ⟨h, _, _, e⟩ | ⟨A, M, B, h⟩
  · rw [e, mapC_gone hf _ h, chunks_nil]; rfl
  · rw [h.t, h.cm, h.cut, mapC_append, mapC_append, mapC_gone hf A h.front, mapC_gone hf B h.back]
    simp

theorem tB_stay (l : List UInt8) (h0 : ∀ c ∈ chunks l, p c.r = false) : tB p l = l := by
  rcases trim_cases p l with ⟨h, _, _, e⟩ | ⟨A, M, B, h⟩
  · have hn : chunks l = [] := by
      cases hc : chunks l with
      | nil => rfl
      | cons c cs =>
        have hm : c ∈ chunks l := by rw [hc]; exact List.mem_cons_self ..
        exact Bool.noConfusion ((h0 c hm).symm.trans (h c hm))
    have := glue_chunks l
    rw [hn] at this
    rw [e, ← this]; rfl
  · have hA : A = [] := by
      cases A with
      | nil => rfl
      | cons c cs => exact Bool.noConfusion ((h0 c (by rw [h.cut]; simp)).symm.trans (h.front c (List.mem_cons_self ..)))
    have hB : B = [] := by
      cases B with
      | nil => rfl
      | cons c cs => exact Bool.noConfusion ((h0 c (by rw [h.cut]; simp)).symm.trans (h.back c (List.mem_cons_self ..)))
    have hc := h.cut
    rw [hA, hB, List.nil_append, List.append_nil] at hc
    rw [h.t, ← hc, glue_chunks]

theorem mem_imgC : ∀ (cs : List Ch) (c : Ch), c ∈ imgC f cs → ∃ d ∈ cs, ¬ f d.r < 0 ∧ c = chOf (f d.r).toNat
  | [], c, h => by cases h
  | d :: cs, c, h => by
    simp only [imgC] at h
    rcases List.mem_append.1 h with h | h
    · by_cases hn : f d.r < 0
      · rw [if_pos hn] at h; cases h
      · rw [if_neg hn, List.mem_singleton] at h
        exact ⟨d, List.mem_cons_self .., hn, h⟩
    · obtain ⟨e, he, h1, h2⟩ := mem_imgC cs c h
      exact ⟨e, List.mem_cons_of_mem _ he, h1, h2⟩

/-- A text without some code points has nothing of them at its ends. -/
theorem trim_drop (hf : ∀ r, f r = if p r = true then -1 else r) (l : List UInt8) : tB p (mapB f l) = mapB f l := by
  refine tB_stay _ fun c hc => ?_
  rw [chunks_mapB] at hc
  obtain ⟨d, hd, h1, rfl⟩ := mem_imgC _ _ hc
  have hk := chunks_ok l d hd
  cases hp : p d.r with
  | true => rw [hf, hp, if_pos rfl] at h1; exact absurd (by decide) h1
  | false =>
    have e1 : f d.r = (d.r : Int) := by rw [hf, hp]; rfl
    rw [e1, Int.toNat_natCast]
    show p ((normN d.r : Nat) : Int) = false
    rw [normN_of hk.scalar, hp]
end
end Go.Proofs.YtdlobdbclgcogaaDoor
