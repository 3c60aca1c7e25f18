/- Plain theory of simple case folding: the words of the reference model, on the letters that it tells. No program is in sight. -/
import Derived.Test.YtiahholgpbjjfaaDoorFoldQ
namespace Go.Proofs.YtiahholgpbjjfaaDoor

/-- What a code point is under simple case folding, of those that the model tells. -/
def specF (r : Nat) : Option Nat :=
  if (65 ≤ r ∧ r ≤ 90) ∨ (192 ≤ r ∧ r ≤ 222 ∧ r ≠ 215) then some (r + 32)
  else if r = 181 then some 956
  else if r ≤ 255 then some r
  else if r = 930 then none
  else if 913 ≤ r ∧ r ≤ 937 then some (r + 32)
  else if r = 962 then some 963
  else if 945 ≤ r ∧ r ≤ 969 then some r
  else if 1024 ≤ r ∧ r ≤ 1039 then some (r + 80)
  else if 1040 ≤ r ∧ r ≤ 1071 then some (r + 32)
  else if 1072 ≤ r ∧ r ≤ 1119 then some r
  else none
def tellsI (f : Nat) (x : Int) : Bool := match specF x.toNat with | none => true | some g => g == f
def chkI (r : Nat) : Bool := match specF r with | none => true | some f => eqR r f && tellsI f (itF 0 r) && tellsI f (itF 1 r) && tellsI f (itF 2 r) && tellsI f (itF 3 r)
set_option maxRecDepth 100000 in
theorem chk_I : ((List.range 1120).all chkI) = true := by kernel_rfl

theorem specF_lt {r f : Nat} (h : specF r = some f) : r < 1120 := by
  rcases Nat.lt_or_ge r 1120 with h' | h'
  · exact h'
  · exfalso
    have : specF r = none := by
      unfold specF
      (repeat' split) <;> first | rfl | (exfalso; omega)
    rw [this] at h
    cases h
theorem specF_eq {r s f g : Nat} (hr : specF r = some f) (hs : specF s = some g) : eqR r s = decide (f = g) := by
  have cr := List.all_eq_true.1 chk_I r (List.mem_range.2 (specF_lt hr))
  have cs := List.all_eq_true.1 chk_I s (List.mem_range.2 (specF_lt hs))
  unfold chkI at cr cs
  rw [hr] at cr
  rw [hs] at cs
  simp only [Bool.and_eq_true] at cr cs
  obtain ⟨⟨⟨⟨r1, t0⟩, t1⟩, t2⟩, t3⟩ := cr
  obtain ⟨⟨⟨⟨s1, _⟩, _⟩, _⟩, _⟩ := cs
  rw [Bool.eq_iff_iff, decide_eq_true_iff]
  constructor
  · intro h
    have key : ∀ x : Int, x = (s : Int) → tellsI f x = true → f = g := by
      intro x hx ht
      subst hx
      unfold tellsI at ht
      rw [Int.toNat_natCast, hs] at ht
      exact (beq_iff_eq.1 ht).symm
    unfold eqR at h
    simp only [Bool.or_eq_true, beq_iff_eq] at h
    rcases h with ((h | h) | h) | h
    · exact key _ h t0
    · exact key _ h t1
    · exact key _ h t2
    · exact key _ h t3
  · rintro rfl
    exact eqR_trans r1 (eqR_symm' s1)

/-- The folded code points, if all are told. -/
def foldedC : List Ch → Option (List Nat)
  | [] => some []
  | c :: cs => match specF c.r, foldedC cs with
    | some f, some A => some (f :: A)
    | _, _ => none
theorem foldedC_cons_none {c : Ch} {cs : List Ch} (h : specF c.r = none) : foldedC (c :: cs) = none := by rw [foldedC, h]
theorem foldedC_snoc : ∀ {xs : List Ch} {A : List Nat} {c : Ch} {f : Nat}, foldedC xs = some A → specF c.r = some f → foldedC (xs ++ [c]) = some (A ++ [f])
  | [], A, c, f, h, hf => by
    cases h
    rw [List.nil_append, foldedC, hf]; rfl
  | x :: xs, A, c, f, h, hf => by
    rw [foldedC] at h
    split at h
    · rename_i g B h1 h2
      cases h
      rw [List.cons_append, foldedC, h1, foldedC_snoc h2 hf]; rfl
    · cases h
theorem foldedC_none : ∀ {xs : List Ch} {c : Ch} {ys : List Ch}, specF c.r = none → foldedC (xs ++ c :: ys) = none
  | [], _, _, h => foldedC_cons_none h
  | x :: xs, c, ys, h => by
    rw [List.cons_append, foldedC, foldedC_none (xs := xs) h]
    cases specF x.r <;> rfl
theorem foldedC_length : ∀ {cs : List Ch} {A : List Nat}, foldedC cs = some A → A.length = cs.length
  | [], A, h => by cases h; rfl
  | c :: cs, A, h => by
    rw [foldedC] at h
    split at h
    · rename_i g B h1 h2
      cases h
      simp [foldedC_length h2]
    · cases h
theorem folded_eq : ∀ {cs ds : List Ch} {A B : List Nat}, foldedC cs = some A → foldedC ds = some B → eqC cs ds = decide (A = B)
  | [], [], A, B, h, h' => by cases h; cases h'; rfl
  | [], d :: ds, A, B, h, h' => by
    cases h
    have := foldedC_length h'
    cases B with
    | nil => simp at this
    | cons b B => simp [eqC]
  | c :: cs, [], A, B, h, h' => by
    cases h'
    have := foldedC_length h
    cases A with
    | nil => simp at this
    | cons b B => simp [eqC]
  | c :: cs, d :: ds, A, B, h, h' => by
    rw [foldedC] at h h'
    split at h
    · rename_i f A' h1 h2
      split at h'
      · rename_i g B' h3 h4
        cases h
        cases h'
        rw [eqC, specF_eq h1 h3, folded_eq h2 h4]
        by_cases e1 : f = g <;> by_cases e2 : A' = B' <;> simp [e1, e2]
      · cases h'
    · cases h
theorem foldedC_small : ∀ {cs : List Ch} {A : List Nat}, foldedC cs = some A → ∀ f ∈ A, f ≤ 2000
  | [], A, h, f, hf => by cases h; cases hf
  | c :: cs, A, h, f, hf => by
    rw [foldedC] at h
    split at h
    · rename_i g B h1 h2
      cases h
      rcases List.mem_cons.1 hf with rfl | hf
      · have hl := specF_lt h1
        unfold specF at h1
        (repeat' split at h1) <;> first | (cases h1; omega) | cases h1
      · exact foldedC_small h2 f hf
    · cases h
end Go.Proofs.YtiahholgpbjjfaaDoor
