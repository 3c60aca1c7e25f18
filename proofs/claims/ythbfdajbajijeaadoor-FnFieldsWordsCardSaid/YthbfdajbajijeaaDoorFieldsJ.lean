/- Plain theory: fields with white space of ASCII put between them have the same fields. No program is in sight. -/
import Derived.Test.YthbfdajbajijeaaDoorZC
import Derived.Test.YthbfdajbajijeaaDoorAsciiP
import Derived.Lib.Join
namespace Go.Proofs.YthbfdajbajijeaaDoor

theorem runsA_plain (p : Int → Bool) : ∀ (cs r ds : List Ch), (∀ c ∈ cs, p c.r = false) → runsA p (some r) (cs ++ ds) = runsA p (some (r ++ cs)) ds
  | [], r, ds, _ => by simp
  | c :: cs, r, ds, h => by
    rw [List.cons_append, runsA, if_neg (by simp [h c (List.mem_cons_self ..)]), runsA_plain p cs (r ++ [c]) ds (fun x hx => h x (List.mem_cons_of_mem _ hx))]
    simp
theorem runsA_word (p : Int → Bool) (X ds : List Ch) (h0 : X ≠ []) (hX : ∀ c ∈ X, p c.r = false) : runsA p none (X ++ ds) = runsA p (some X) ds := by
  cases X with
  | nil => exact absurd rfl h0
  | cons c X =>
    rw [List.cons_append, runsA, if_neg (by simp [hX c (List.mem_cons_self ..)]), runsA_plain p X [c] ds (fun x hx => hX x (List.mem_cons_of_mem _ hx))]
    rfl

/-- A text that is not empty, and has no code point that satisfies the test. -/
structure Word (p : Int → Bool) (x : List UInt8) : Prop where
  ne : chunks x ≠ []
  not : ∀ c ∈ chunks x, p c.r = false

theorem field_word {p : Int → Bool} {l x : List UInt8} (h : x ∈ fieldsB p l) : Word p x := by
  unfold fieldsB at h
  obtain ⟨r, hr, rfl⟩ := List.mem_map.1 h
  obtain ⟨h1, h2, ps, ds, h3⟩ := runsA_mem p (chunks l) none (by intro r e; cases e) r hr
  have h3 : chunks l = ps ++ r ++ ds := by simpa using h3
  have hc := chunks_mid ps r ds l h3
  exact ⟨by rw [hc]; exact h1, by rw [hc]; exact h2⟩
theorem Word.fields {p : Int → Bool} {x : List UInt8} (h : Word p x) : fieldsB p x = [x] := by
  have := runsA_word p (chunks x) [] h.ne h.not
  rw [List.append_nil] at this
  unfold fieldsB runsC
  rw [this]
  simp [runsA, glue_chunks]
theorem Word.trim {p : Int → Bool} {x : List UInt8} (h : Word p x) : tB p x = x := by
  rcases trim_cases p x with ⟨ha, _⟩ | ⟨A, M, B, k⟩
  · exfalso
    cases hc : chunks x with
    | nil => exact h.ne hc
    | cons c cs =>
      have hm : c ∈ chunks x := by rw [hc]; exact List.mem_cons_self ..
      exact Bool.noConfusion ((h.not c hm).symm.trans (ha c hm))
  · have hA : A = [] := by
      cases A with
      | nil => rfl
      | cons c cs => exact Bool.noConfusion ((h.not c (by rw [k.cut]; simp)).symm.trans (k.front c (List.mem_cons_self ..)))
    have hB : B = [] := by
      cases B with
      | nil => rfl
      | cons c cs => exact Bool.noConfusion ((h.not c (by rw [k.cut]; simp)).symm.trans (k.back c (List.mem_cons_self ..)))
    have hc := k.cut
    rw [hA, hB, List.nil_append, List.append_nil] at hc
    rw [k.t, ← hc, glue_chunks]

theorem join_one (x sep : List UInt8) : Lib.join [x] sep = x := by simp [Lib.join, List.intercalate]
theorem join_more (x y : List UInt8) (L : List (List UInt8)) (sep : List UInt8) : Lib.join (x :: y :: L) sep = x ++ (sep ++ Lib.join (y :: L) sep) := by simp [Lib.join, List.intercalate]

theorem fields_join (p : Int → Bool) (b : UInt8) (sep : List UInt8) (hl : ∀ y ∈ b :: sep, y.toNat < 128) (hp : ∀ y ∈ b :: sep, p y.toNat = true) : ∀ L : List (List UInt8), (∀ x ∈ L, Word p x) → fieldsB p (Lib.join L (b :: sep)) = L
  | [], _ => rfl
  | [x], h => by rw [join_one]; exact (h x (by simp)).fields
  | x :: y :: L, h => by
    have ih := fields_join p b sep hl hp (y :: L) (fun z hz => h z (List.mem_cons_of_mem _ hz))
    have hx := h x (List.mem_cons_self ..)
    rw [join_more]
    obtain ⟨J, hJ⟩ : ∃ J, Lib.join (y :: L) (b :: sep) = J := ⟨_, rfl⟩
    rw [hJ] at ih ⊢
    have hc : chunks (x ++ (b :: sep ++ J)) = chunks x ++ ach b :: (sep.map ach ++ chunks J) := by
      rw [List.cons_append, chunks_at_ascii x (sep ++ J) b (hl b (List.mem_cons_self ..)), chunks_ascii_pre sep J (fun z hz => hl z (List.mem_cons_of_mem _ hz))]
    have hr : runsA p none (chunks (x ++ (b :: sep ++ J))) = chunks x :: runsA p none (chunks J) := by
      rw [hc, runsA_word p _ _ hx.ne hx.not, runsA, if_pos (show p (ach b).r = true from hp b (List.mem_cons_self ..)),
        runsA_front p _ _ (ach_all (fun z hz => hp z (List.mem_cons_of_mem _ hz)))]
    unfold fieldsB runsC at ih ⊢
    rw [hr, List.map_cons, ih, glue_chunks]

theorem lens_size : ∀ L : List (List UInt8), Lib.lens L = sizeL' L
  | [] => rfl
  | x :: L => by
    have ih := lens_size L
    rw [sizeL'_cons, ← ih]
    simp [Lib.lens]
/-- There is no field just if nothing is left of the text, trimmed. -/
theorem fields_none_trim (p : Int → Bool) (l : List UInt8) : ((fieldsB p l).length : Int) = 0 ↔ tB p l = [] := by
  rcases (fields_trim p l).2 with ⟨h1, h2⟩ | ⟨x, L, y, D, h1, _, h2, _⟩
  · rw [h1, h2]; simp
  · rw [h1]
    constructor
    · intro h; simp at h; omega
    · intro h; exact absurd h h2
end Go.Proofs.YthbfdajbajijeaaDoor
