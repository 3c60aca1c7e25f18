/- Plain theory of simple case folding: being in one orbit is an equivalence; Go's walk round an orbit decides it. No program is in sight. -/
import Derived.Test.YtiahholgpbjjfaaDoorFoldP
import Derived.Test.YtiahholgpbjjfaaDoorAsciiP
namespace Go.Proofs.YtiahholgpbjjfaaDoor
open Go.Lib

theorem lookN_some (r : Nat) : ∀ (f lo hi i : Nat), lookN r f lo hi = some i → i < hi ∧ (rowAt i).1 ≤ r ∧ r ≤ (rowAt i).2.1
  | 0, _, _, _, h => by simp [lookN] at h
  | f + 1, lo, hi, i, h => by
    unfold lookN at h
    split at h
    · split at h
      · rename_i hlt hin
        cases h
        unfold rowAt
        exact ⟨by omega, hin.1, hin.2⟩
      · split at h
        · have := lookN_some r f _ _ i h
          exact ⟨by omega, this.2⟩
        · exact lookN_some r f _ _ i h
    · cases h

theorem rowAt_mem {i : Nat} (hi : i < caseA.size) : rowAt i ∈ caseT := by
  unfold rowAt caseA at *
  simp only [List.size_toArray] at hi
  simp [Array.getD, hi]
theorem orbA_mem {i : Nat} (hi : i < orbA.size) : orbA.getD i (0, 0) ∈ orbT := by
  unfold orbA at *
  simp only [List.size_toArray] at hi
  simp [Array.getD, hi]

theorem foldS_some {n t : Nat} (h : n ≤ 1114111) (h2 : 128 ≤ n) (ho : orbF n = some t) : foldS (n : Int) = t := by
  unfold foldS
  rw [if_neg (by omega), if_neg (by omega), Int.toNat_natCast, ho]
theorem foldS_row {n i : Nat} (h : n ≤ 1114111) (h2 : 128 ≤ n) (ho : orbF n = none) (hl : lookN n (caseA.size + 1) 0 caseA.size = some i) :
    foldS (n : Int) = if convertR 1 n (rowAt i) ≠ n then convertR 1 n (rowAt i) else convertR 0 n (rowAt i) := by
  unfold foldS
  rw [if_neg (by omega), if_neg (by omega), Int.toNat_natCast, ho]
  simp only [hl]
theorem foldS_none {n : Nat} (h : n ≤ 1114111) (h2 : 128 ≤ n) (ho : orbF n = none) (hl : lookN n (caseA.size + 1) 0 caseA.size = none) : foldS (n : Int) = n := by
  unfold foldS
  rw [if_neg (by omega), if_neg (by omega), Int.toNat_natCast, ho]
  simp only [hl]

theorem chk_all (n : Nat) (h : n ≤ 1114111) : chkF n = true ∨ foldS n = n := by
  by_cases h2 : n < 128
  · left
    exact List.all_eq_true.1 chk_ascii n (List.mem_range.2 h2)
  cases ho : orbF n with
  | some t =>
    left
    unfold orbF at ho
    split at ho
    · rename_i hc
      have := List.all_eq_true.1 chk_orb _ (orbA_mem hc.1)
      rw [hc.2] at this
      exact this
    · cases ho
  | none =>
    cases hl : lookN n (caseA.size + 1) 0 caseA.size with
    | none => right; exact foldS_none h (by omega) ho hl
    | some i =>
      left
      obtain ⟨hi, h3, h4⟩ := lookN_some n _ _ _ i hl
      have := List.all_eq_true.1 chk_rows _ (rowAt_mem hi)
      unfold chkRow at this
      have := List.all_eq_true.1 this (n - (rowAt i).1) (List.mem_range.2 (by omega))
      rwa [show (rowAt i).1 + (n - (rowAt i).1) = n by omega] at this

theorem fold_ok (r : Int) : ok4 r (foldS r) (foldS (foldS r)) (foldS (foldS (foldS r))) (foldS (foldS (foldS (foldS r)))) := by
  by_cases h : r < 0 ∨ 1114111 < r
  · left
    unfold foldS
    rw [if_pos h]
  · obtain ⟨n, rfl⟩ := Int.eq_ofNat_of_zero_le (show 0 ≤ r by omega)
    rcases chk_all n (by omega) with hc | hc
    · unfold chkF at hc
      exact (of_decide_eq_true hc).1
    · exact .inl hc
theorem fold_range (r : Int) (h0 : 0 ≤ r) (h1 : r ≤ 1114111) : 0 ≤ foldS r ∧ foldS r ≤ 1114111 := by
  obtain ⟨n, rfl⟩ := Int.eq_ofNat_of_zero_le h0
  rcases chk_all n (by omega) with hc | hc
  · unfold chkF at hc
    exact (of_decide_eq_true hc).2
  · rw [hc]; exact ⟨h0, h1⟩

/-- So many steps. -/
def itF : Nat → Int → Int
  | 0, r => r
  | k + 1, r => foldS (itF k r)
theorem itF_add (j : Nat) (r : Int) : ∀ k, itF (k + j) r = itF k (itF j r)
  | 0 => by rw [Nat.zero_add]; rfl
  | k + 1 => by
    rw [show k + 1 + j = (k + j) + 1 by omega, itF, itF_add j r k]; rfl
theorem itF_mul (j : Nat) (r : Int) (h : itF j r = r) : ∀ q, itF (q * j) r = r
  | 0 => by rw [Nat.zero_mul]; rfl
  | q + 1 => by rw [Nat.succ_mul, itF_add, h, itF_mul j r h q]
theorem itF_mod (j : Nat) (r : Int) (h : itF j r = r) (k : Nat) : itF k r = itF (k % j) r := by
  have e : k = k % j + k / j * j := by rw [Nat.mul_comm]; exact (Nat.mod_add_div k j).symm
  conv => lhs; rw [e, itF_add, itF_mul j r h]
/-- An orbit has at most four. -/
theorem order4 (r : Int) : itF 1 r = r ∨ itF 2 r = r ∨ itF 3 r = r ∨ itF 4 r = r := by
  rcases fold_ok r with h | h | h | h
  · exact .inl h
  · exact .inr (.inl h)
  · exact .inr (.inr (.inl h.1))
  · exact .inr (.inr (.inr h.1))
theorem per12 (r : Int) : itF 12 r = r := by
  rcases order4 r with h | h | h | h
  · exact itF_mul 1 r h 12
  · exact itF_mul 2 r h 6
  · exact itF_mul 3 r h 4
  · exact itF_mul 4 r h 3

/-- Equal under simple case folding. -/
def eqR (a b : Int) : Bool := (itF 0 a == b) || (itF 1 a == b) || (itF 2 a == b) || (itF 3 a == b)
theorem eqR_iff (a b : Int) : eqR a b = true ↔ ∃ k, itF k a = b := by
  unfold eqR
  simp only [Bool.or_eq_true, beq_iff_eq]
  constructor
  · rintro (((h | h) | h) | h)
    · exact ⟨_, h⟩
    · exact ⟨_, h⟩
    · exact ⟨_, h⟩
    · exact ⟨_, h⟩
  · rintro ⟨k, h⟩
    have key : ∃ j, j < 4 ∧ itF j a = b := by
      rcases order4 a with o | o | o | o
      · exact ⟨k % 1, by omega, by rw [← itF_mod 1 a o]; exact h⟩
      · exact ⟨k % 2, by omega, by rw [← itF_mod 2 a o]; exact h⟩
      · exact ⟨k % 3, by omega, by rw [← itF_mod 3 a o]; exact h⟩
      · exact ⟨k % 4, by omega, by rw [← itF_mod 4 a o]; exact h⟩
    obtain ⟨j, hj, e⟩ := key
    match j, hj with
    | 0, _ => exact .inl (.inl (.inl e))
    | 1, _ => exact .inl (.inl (.inr e))
    | 2, _ => exact .inl (.inr e)
    | 3, _ => exact .inr e
theorem eqR_refl (a : Int) : eqR a a = true := (eqR_iff a a).2 ⟨0, rfl⟩
theorem eqR_symm' {a b : Int} (h : eqR a b = true) : eqR b a = true := by
  obtain ⟨k, rfl⟩ := (eqR_iff a b).1 h
  refine (eqR_iff _ _).2 ⟨k * 12 - k, ?_⟩
  rw [← itF_add, show k * 12 - k + k = k * 12 by omega, itF_mul 12 a (per12 a)]
theorem eqR_symm (a b : Int) : eqR a b = eqR b a := by
  rw [Bool.eq_iff_iff]
  exact ⟨eqR_symm', eqR_symm'⟩
theorem eqR_trans {a b c : Int} (h : eqR a b = true) (h' : eqR b c = true) : eqR a c = true := by
  obtain ⟨k, rfl⟩ := (eqR_iff a b).1 h
  obtain ⟨j, rfl⟩ := (eqR_iff _ c).1 h'
  exact (eqR_iff _ _).2 ⟨j + k, itF_add _ _ _⟩

/-- How far the walk round an orbit has come: k steps; all ahead were below b, and not a again. -/
structure Round (a b : Int) (k : Nat) : Prop where
  pos : 1 ≤ k
  pre : ∀ j, 1 ≤ j → j < k → itF j a ≠ a ∧ itF j a < b
theorem Round.start (a b : Int) : Round a b 1 := ⟨Nat.le_refl _, fun j h1 h2 => by omega⟩
theorem Round.next {a b : Int} {k : Nat} (h : Round a b k) (h1 : itF k a ≠ a) (h2 : itF k a < b) : Round a b (k + 1) := by
  refine ⟨by omega, fun j hj hk => ?_⟩
  by_cases e : j = k
  · subst e; exact ⟨h1, h2⟩
  · exact h.pre j hj (by omega)
theorem Round.le {a b : Int} {k : Nat} (h : Round a b k) : k ≤ 4 := by
  rcases Nat.lt_or_ge 4 k with hk | hk
  · exfalso
    rcases order4 a with o | o | o | o
    · exact (h.pre 1 (by omega) (by omega)).1 o
    · exact (h.pre 2 (by omega) (by omega)).1 o
    · exact (h.pre 3 (by omega) (by omega)).1 o
    · exact (h.pre 4 (by omega) (by omega)).1 o
  · exact hk
theorem Round.found {a b : Int} {k : Nat} (_h : Round a b k) (e : itF k a = b) : eqR a b = true := (eqR_iff a b).2 ⟨k, e⟩
theorem Round.lost {a b : Int} {k : Nat} (h : Round a b k) (hab : a < b) (hx : itF k a = a ∨ b ≤ itF k a) (hne : itF k a ≠ b) : eqR a b = false := by
  rw [Bool.eq_false_iff]
  intro he
  have h4 := h.le
  have ho := fold_ok a
  unfold eqR at he
  simp only [Bool.or_eq_true, beq_iff_eq] at he
  have i1 : foldS a = a → foldS (foldS a) = foldS a := fun e => by rw [e, e]
  have i2 : foldS (foldS a) = a → foldS (foldS (foldS a)) = foldS a := fun e => by rw [e]
  have p := h.pre
  have hk := h.pos
  have p1 := p 1 (by omega)
  have p2 := p 2 (by omega)
  have p3 := p 3 (by omega)
  have hc : k = 1 ∨ k = 2 ∨ k = 3 ∨ k = 4 := by omega
  have e1 : itF 1 a = foldS a := rfl
  have e2 : itF 2 a = foldS (foldS a) := rfl
  have e3 : itF 3 a = foldS (foldS (foldS a)) := rfl
  have e4 : itF 4 a = foldS (foldS (foldS (foldS a))) := rfl
  have e0 : itF 0 a = a := rfl
  rw [e0, e1, e2, e3] at he
  rw [e1] at p1
  rw [e2] at p2
  rw [e3] at p3
  unfold ok4 at ho
  obtain ⟨x1, hx1⟩ : ∃ x, foldS a = x := ⟨_, rfl⟩
  obtain ⟨x2, hx2⟩ : ∃ x, foldS x1 = x := ⟨_, rfl⟩
  obtain ⟨x3, hx3⟩ : ∃ x, foldS x2 = x := ⟨_, rfl⟩
  obtain ⟨x4, hx4⟩ : ∃ x, foldS x3 = x := ⟨_, rfl⟩
  simp only [hx1, hx2, hx3, hx4] at ho he i1 i2 p1 p2 p3 e1 e2 e3 e4
  clear p h
  rcases hc with rfl | rfl | rfl | rfl
  · rw [e1] at hx hne; omega
  · rw [e2] at hx hne
    have q1 := p1 (by omega)
    omega
  · rw [e3] at hx hne
    have q1 := p1 (by omega)
    have q2 := p2 (by omega)
    omega
  · rw [e4] at hx hne
    have q1 := p1 (by omega)
    have q2 := p2 (by omega)
    have q3 := p3 (by omega)
    omega

/-- Equal under simple case folding: two lists of code points, two texts. -/
def eqC : List Ch → List Ch → Bool
  | [], [] => true
  | c :: cs, d :: ds => eqR c.r d.r && eqC cs ds
  | _, _ => false
def eqfB (l m : List UInt8) : Bool := eqC (chunks l) (chunks m)
theorem eqC_refl : ∀ cs, eqC cs cs = true
  | [] => rfl
  | c :: cs => by rw [eqC, eqR_refl, eqC_refl cs]; rfl
theorem eqC_symm : ∀ cs ds, eqC cs ds = eqC ds cs
  | [], [] => rfl
  | [], _ :: _ => rfl
  | _ :: _, [] => rfl
  | c :: cs, d :: ds => by rw [eqC, eqC, eqR_symm, eqC_symm cs ds]
theorem eqC_trans : ∀ {cs ds es}, eqC cs ds = true → eqC ds es = true → eqC cs es = true
  | [], [], _, _, h => h
  | [], _ :: _, _, h, _ => by simp [eqC] at h
  | _ :: _, [], _, h, _ => by simp [eqC] at h
  | _ :: _, _ :: _, [], _, h => by simp [eqC] at h
  | c :: cs, d :: ds, e :: es, h, h' => by
    rw [eqC, Bool.and_eq_true] at h h' ⊢
    exact ⟨eqR_trans h.1 h'.1, eqC_trans h.2 h'.2⟩

/-- The fast test of two bytes of ASCII, the smaller one first. -/
def fastA (a b : Int) : Bool := decide (65 ≤ a) && decide (a ≤ 90) && decide (b = a + 32)
set_option maxRecDepth 100000 in
theorem chk_fast : ((List.range 128).all fun x => (List.range 128).all fun y => decide (y ≤ x) || (eqR x y == fastA x y)) = true := by kernel_rfl
theorem fast_eq {a b : Nat} (hb : b < 128) (hab : a < b) : eqR a b = fastA a b := by
  have h1 := List.all_eq_true.1 (List.all_eq_true.1 chk_fast a (List.mem_range.2 (by omega))) b (List.mem_range.2 hb)
  simpa [Nat.not_le.2 hab] using h1
end Go.Proofs.YtiahholgpbjjfaaDoor
