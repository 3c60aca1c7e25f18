/- Plain theory of trims by a test: what is taken away at both ends, and what is left. No program is in sight. -/
import Derived.Test.YtiahholgpbjjfaaDoorFuncW2
namespace Go.Proofs.YtiahholgpbjjfaaDoor

theorem dropWhile_split {α : Type} (p : α → Bool) : ∀ l : List α, (∀ x ∈ l, p x = true) ∨ ∃ A c M, l = A ++ c :: M ∧ (∀ x ∈ A, p x = true) ∧ p c = false
  | [] => .inl (by simp)
  | x :: l => by
    cases hx : p x
    · exact .inr ⟨[], x, l, rfl, by simp, hx⟩
    · rcases dropWhile_split p l with h | ⟨A, c, M, rfl, hA, hc⟩
      · left
        intro y hy
        rcases List.mem_cons.1 hy with rfl | hy
        · exact hx
        · exact h y hy
      · refine .inr ⟨x :: A, c, M, rfl, ?_, hc⟩
        intro y hy
        rcases List.mem_cons.1 hy with rfl | hy
        · exact hx
        · exact hA y hy

theorem split_last {α : Type} (p : α → Bool) (l : List α) : (∀ x ∈ l, p x = true) ∨ ∃ M c B, l = M ++ c :: B ∧ (∀ x ∈ B, p x = true) ∧ p c = false := by
  rcases dropWhile_split p l.reverse with h | ⟨A, c, M, e, hA, hc⟩
  · exact .inl fun x hx => h x (List.mem_reverse.2 hx)
  · refine .inr ⟨M.reverse, c, A.reverse, ?_, fun x hx => hA x (List.mem_reverse.1 hx), hc⟩
    have := congrArg List.reverse e
    rw [List.reverse_reverse, List.reverse_append, List.reverse_cons, List.append_assoc] at this
    simpa using this

theorem trimL_split (p : Int → Bool) (A : List Ch) (c : Ch) (M : List Ch) (hA : ∀ x ∈ A, p x.r = true) (hc : p c.r = false) : trimL p (A ++ c :: M) = c :: M := by
  unfold trimL
  rw [dropWhile_append_all hA, List.dropWhile_cons, if_neg (by simp [hc])]
theorem trimR_split (p : Int → Bool) (M : List Ch) (c : Ch) (B : List Ch) (hB : ∀ x ∈ B, p x.r = true) (hc : p c.r = false) : trimR p (M ++ c :: B) = M ++ [c] := by
  unfold trimR
  rw [List.reverse_append, List.reverse_cons, List.append_assoc, dropWhile_append_all (fun x hx => hB x (List.mem_reverse.1 hx))]
  simp [hc]

/-- What a test takes away at both ends. -/
structure TrimParts (p : Int → Bool) (l : List UInt8) (A M B : List Ch) : Prop where
  cut : chunks l = A ++ M ++ B
  front : ∀ x ∈ A, p x.r = true
  back : ∀ x ∈ B, p x.r = true
  first : ∃ c M', M = c :: M' ∧ p c.r = false
  last : ∃ M' c, M = M' ++ [c] ∧ p c.r = false
  tl : tlB p l = glue (M ++ B)
  tr : trB p l = glue (A ++ M)
  t : tB p l = glue M
  cm : chunks (glue M) = M
  cmb : chunks (glue (M ++ B)) = M ++ B
  cam : chunks (glue (A ++ M)) = A ++ M

theorem trim_cases (p : Int → Bool) (l : List UInt8) : ((∀ c ∈ chunks l, p c.r = true) ∧ tlB p l = [] ∧ trB p l = [] ∧ tB p l = []) ∨ ∃ A M B, TrimParts p l A M B := by
  rcases dropWhile_split (fun c : Ch => p c.r) (chunks l) with h | ⟨A, c, N, e, hA, hc⟩
  · left
    have e1 : tlB p l = [] := by unfold tlB; rw [trimL_none p _ h]; rfl
    have e2 : trB p l = [] := by unfold trB; rw [trimR_none p _ h]; rfl
    refine ⟨h, e1, e2, ?_⟩
    unfold tB
    rw [e1]; rfl
  · right
    rcases split_last (fun c : Ch => p c.r) (c :: N) with h | ⟨M, d, B, e2, hB, hd⟩
    · exfalso
      have := h c (List.mem_cons_self ..)
      exact Bool.noConfusion (hc.symm.trans this)
    · have hcut : chunks l = A ++ (M ++ [d]) ++ B := by rw [e, e2]; simp
      have cmb : chunks (glue ((M ++ [d]) ++ B)) = (M ++ [d]) ++ B := chunks_post A _ l (by rw [hcut, List.append_assoc])
      have cam : chunks (glue (A ++ (M ++ [d]))) = A ++ (M ++ [d]) := chunks_pre _ B l hcut
      have cm : chunks (glue (M ++ [d])) = M ++ [d] := chunks_mid A _ B l hcut
      have tl : tlB p l = glue ((M ++ [d]) ++ B) := by
        unfold tlB
        rw [e, trimL_split p A c N hA hc, e2]; simp
      refine ⟨A, M ++ [d], B, hcut, hA, hB, ?_, ⟨M, d, rfl, hd⟩, tl, ?_, ?_, cm, cmb, cam⟩
      · cases M with
        | nil =>
          refine ⟨d, [], rfl, hd⟩
        | cons m M =>
          have : c = m := by simpa using (List.cons.inj e2).1
          subst this
          exact ⟨c, M ++ [d], rfl, hc⟩
      · unfold trB
        rw [hcut, show A ++ (M ++ [d]) ++ B = (A ++ M) ++ d :: B by simp, trimR_split p _ d B hB hd]
        simp
      · unfold tB
        rw [tl]
        unfold trB
        rw [cmb, show M ++ [d] ++ B = M ++ d :: B by simp, trimR_split p M d B hB hd]

namespace TrimParts
variable {p : Int → Bool} {l : List UInt8} {A M B : List Ch}

theorem ne (h : TrimParts p l A M B) : glue M ≠ [] := by
  obtain ⟨c, M', e, _⟩ := h.first
  intro hg
  have := h.cm
  rw [hg, chunks_nil, e] at this
  cases this
theorem tl_tr (h : TrimParts p l A M B) : tlB p (trB p l) = tB p l := by
  obtain ⟨c, M', e, hc⟩ := h.first
  rw [h.tr, h.t]
  unfold tlB
  rw [h.cam, e, trimL_split p A c M' h.front hc]
theorem tl_m (h : TrimParts p l A M B) : tlB p (glue M) = glue M := by
  obtain ⟨c, M', e, hc⟩ := h.first
  have := trimL_split p [] c M' (by simp) hc
  unfold tlB
  rw [h.cm]
  rw [e]
  rw [List.nil_append] at this
  rw [this]
theorem tr_m (h : TrimParts p l A M B) : trB p (glue M) = glue M := by
  obtain ⟨M', c, e, hc⟩ := h.last
  have := trimR_split p M' c [] (by simp) hc
  unfold trB
  rw [h.cm]
  rw [e]
  rw [this]
theorem t_m (h : TrimParts p l A M B) : tB p (glue M) = glue M := by
  unfold tB
  rw [h.tl_m, h.tr_m]
theorem tl_tl (h : TrimParts p l A M B) : tlB p (glue (M ++ B)) = glue (M ++ B) := by
  obtain ⟨c, M', e, hc⟩ := h.first
  have := trimL_split p [] c (M' ++ B) (by simp) hc
  unfold tlB
  rw [h.cmb]
  rw [e]
  rw [List.nil_append] at this
  rw [List.cons_append, this]
theorem tr_tr (h : TrimParts p l A M B) : trB p (glue (A ++ M)) = glue (A ++ M) := by
  obtain ⟨M', c, e, hc⟩ := h.last
  have := trimR_split p (A ++ M') c [] (by simp) hc
  unfold trB
  rw [h.cam]
  rw [e, ← List.append_assoc]
  rw [this]
theorem len (h : TrimParts p l A M B) : l.length = (glue A).length + (glue (M ++ B)).length := by
  have := glue_chunks l
  rw [h.cut, List.append_assoc, glue_append] at this
  rw [← this, List.length_append]
theorem len3 (h : TrimParts p l A M B) : l.length = (glue A).length + (glue M).length + (glue B).length := by
  rw [h.len, glue_append, List.length_append]; omega
theorem first_not (h : TrimParts p l A M B) : firstC (fun r => !p r) 0 (chunks l) = ((glue A).length : Int) := by
  obtain ⟨c, M', e, hc⟩ := h.first
  have hlt : A.length < (chunks l).length := by rw [h.cut, e]; simp
  have hg : (chunks l)[A.length] = c := by
    have : (chunks l)[A.length]? = some c := by rw [h.cut, e]; simp
    exact (List.getElem?_eq_some_iff.1 this).2
  have ht : (chunks l).take A.length = A := by rw [h.cut, List.append_assoc, List.take_left]
  rw [firstC_at (fun r => !p r) (chunks l) 0 A.length hlt (fun x hx => by rw [ht] at hx; simp [h.front x hx]) (by rw [hg]; simp [hc])]
  unfold placeOf
  rw [ht, Nat.zero_add]
theorem first_m (h : TrimParts p l A M B) : firstC (fun r => !p r) 0 (chunks (glue M)) = 0 := by
  obtain ⟨c, M', e, hc⟩ := h.first
  rw [h.cm, e, firstC, if_pos (by simp [hc])]
  rfl
end TrimParts
theorem first_not_none {p : Int → Bool} {l : List UInt8} (h : ∀ c ∈ chunks l, p c.r = true) : firstC (fun r => !p r) 0 (chunks l) = -1 :=
  firstC_none _ _ 0 (fun c hc => by simp [h c hc])
theorem tB_nil (p : Int → Bool) : tB p [] = [] ∧ tlB p [] = [] ∧ trB p [] = [] := ⟨rfl, rfl, rfl⟩
theorem holdsT_not' (rs : List Int) (nt : Bool) : holdsT rs (!nt) = fun r => !holdsT rs nt r := funext fun r => holdsT_not rs nt r
end Go.Proofs.YtiahholgpbjjfaaDoor
