/- Plain theory of the code points of a list of bytes: how it is parted into sequences and single bytes, from the front and from behind. No program is in sight. -/
import Derived.Lib.DecodeNEq
import Derived.Lib.DecodeN
import Derived.WalkKit
namespace Go.Proofs.YtiahholgpbjjfaaDoor

/-- The first code point of a list of bytes (U+FFFD, if none begins there), and how many bytes it has. -/
def dec : List UInt8 → Nat × Nat
  | [] => (65533, 0)
  | b0 :: t => Lib.decodeN (t.length + 1) b0.toNat (t.getD 0 0).toNat (t.getD 1 0).toNat (t.getD 2 0).toNat

/-- Do the first bytes make a well-formed sequence? -/
def decOk (l : List UInt8) : Bool := decide ((l.getD 0 0).toNat < 128) || decide (2 ≤ (dec l).2)

/-- One code point of a text: its bytes, which one it is, whether these are a well-formed sequence. -/
structure Ch where
  bs : List UInt8
  r : Nat
  ok : Bool

def chs : Nat → List UInt8 → List Ch
  | 0, _ => []
  | _ + 1, [] => []
  | n + 1, b :: t => ⟨(b :: t).take (dec (b :: t)).2, (dec (b :: t)).1, decOk (b :: t)⟩ :: chs n ((b :: t).drop (dec (b :: t)).2)

/-- The code points of a text. -/
def chunks (l : List UInt8) : List Ch := chs l.length l

theorem decodeN_size (n b0 b1 b2 b3 : Nat) (hn : 1 ≤ n) : 1 ≤ (Lib.decodeN n b0 b1 b2 b3).2 ∧ (Lib.decodeN n b0 b1 b2 b3).2 ≤ 4 ∧ (Lib.decodeN n b0 b1 b2 b3).2 ≤ n := by
  unfold Lib.decodeN
  repeat' split
  all_goals (simp only; omega)

theorem decodeN_rune (n b0 b1 b2 b3 : Nat) : (Lib.decodeN n b0 b1 b2 b3).1 ≤ 1114111 := by
  unfold Lib.decodeN
  repeat' split
  all_goals (simp only; omega)

theorem dec_size {l : List UInt8} (h : l ≠ []) : 1 ≤ (dec l).2 ∧ (dec l).2 ≤ 4 ∧ (dec l).2 ≤ l.length := by
  cases l with
  | nil => exact (h rfl).elim
  | cons b t => exact decodeN_size _ _ _ _ _ (by omega)

theorem dec_rune (l : List UInt8) : (dec l).1 ≤ 1114111 := by
  cases l with
  | nil => decide
  | cons b t => exact decodeN_rune _ _ _ _ _

theorem chs_fuel : ∀ (n m : Nat) (l : List UInt8), l.length ≤ n → l.length ≤ m → chs n l = chs m l
  | 0, m, l, h, _ => by
    have : l = [] := List.eq_nil_of_length_eq_zero (by omega)
    subst this
    cases m <;> rfl
  | n + 1, 0, l, _, h => by
    have : l = [] := List.eq_nil_of_length_eq_zero (by omega)
    subst this
    rfl
  | n + 1, m + 1, [], _, _ => rfl
  | n + 1, m + 1, b :: t, h1, h2 => by
    have hs := dec_size (l := b :: t) (by simp)
    unfold chs
    rw [chs_fuel n m]
    · simp only [List.length_drop, List.length_cons] at *; omega
    · simp only [List.length_drop, List.length_cons] at *; omega

theorem chunks_nil : chunks [] = [] := rfl

theorem chunks_cons {l : List UInt8} (h : l ≠ []) : chunks l = ⟨l.take (dec l).2, (dec l).1, decOk l⟩ :: chunks (l.drop (dec l).2) := by
  cases l with
  | nil => exact (h rfl).elim
  | cons b t =>
    have hs := dec_size (l := b :: t) (by simp)
    unfold chunks
    rw [List.length_cons, chs]
    congr 1
    refine chs_fuel _ _ _ ?_ (Nat.le_refl _)
    simp only [List.length_drop, List.length_cons] at *; omega

/-- Induction over a text, code point by code point. -/
theorem chunks_ind {P : List UInt8 → Prop} (h0 : P []) (h1 : ∀ l, l ≠ [] → P (l.drop (dec l).2) → P l) (l : List UInt8) : P l := by
  have key : ∀ n (l : List UInt8), l.length = n → P l := by
    intro n
    induction n using Nat.strongRecOn with
    | _ n ih =>
      intro l hl
      by_cases h : l = []
      · rw [h]; exact h0
      · have hs := dec_size h
        exact h1 l h (ih _ (by rw [List.length_drop]; omega) _ rfl)
  exact key _ l rfl

/-- The bytes of code points, one behind the other. -/
def glue (cs : List Ch) : List UInt8 := (cs.map (·.bs)).flatten

theorem glue_nil : glue [] = [] := rfl
theorem glue_cons (c : Ch) (cs : List Ch) : glue (c :: cs) = c.bs ++ glue cs := by simp [glue]
theorem glue_append (cs ds : List Ch) : glue (cs ++ ds) = glue cs ++ glue ds := by simp [glue]

theorem glue_chunks (l : List UInt8) : glue (chunks l) = l := by
  induction l using chunks_ind with
  | h0 => rfl
  | h1 l hl ih => rw [chunks_cons hl, glue_cons, ih, List.take_append_drop]

theorem chunks_bs_pos (l : List UInt8) : ∀ c ∈ chunks l, 1 ≤ c.bs.length ∧ c.bs.length ≤ 4 := by
  induction l using chunks_ind with
  | h0 => intro c hc; simp [chunks_nil] at hc
  | h1 l hl ih =>
    intro c hc
    rw [chunks_cons hl] at hc
    rcases List.mem_cons.1 hc with rfl | hc
    · have hs := dec_size hl
      simp only [List.length_take]
      omega
    · exact ih c hc

theorem chunks_rune (l : List UInt8) : ∀ c ∈ chunks l, c.r ≤ 1114111 := by
  induction l using chunks_ind with
  | h0 => intro c hc; simp [chunks_nil] at hc
  | h1 l hl ih =>
    intro c hc
    rw [chunks_cons hl] at hc
    rcases List.mem_cons.1 hc with rfl | hc
    · exact dec_rune l
    · exact ih c hc

theorem chunks_length (l : List UInt8) : (chunks l).length ≤ l.length := by
  induction l using chunks_ind with
  | h0 => simp [chunks_nil]
  | h1 l hl ih =>
    have hs := dec_size hl
    rw [chunks_cons hl, List.length_cons]
    rw [List.length_drop] at ih
    omega

set_option maxRecDepth 100000 in
set_option maxHeartbeats 4000000 in
theorem decodeN_local (n n' b0 b1 b2 b3 b2' b3' : Nat) (h2 : 2 ≤ (Lib.decodeN n b0 b1 b2 b3).2) (hn : (Lib.decodeN n b0 b1 b2 b3).2 ≤ n')
    (e2 : 3 ≤ (Lib.decodeN n b0 b1 b2 b3).2 → b2' = b2) (e3 : 4 ≤ (Lib.decodeN n b0 b1 b2 b3).2 → b3' = b3) : Lib.decodeN n' b0 b1 b2' b3' = Lib.decodeN n b0 b1 b2 b3 := by
  have hs : (Lib.decodeN n b0 b1 b2 b3).2 = 2 ∨ (Lib.decodeN n b0 b1 b2 b3).2 = 3 ∨ (Lib.decodeN n b0 b1 b2 b3).2 = 4 := by
    have : (Lib.decodeN n b0 b1 b2 b3).2 ≤ 4 := by
      unfold Lib.decodeN
      repeat' split
      all_goals (simp only; omega)
    omega
  rcases hs with hs | hs | hs
  · rw [hs] at hn
    clear e2 e3 h2
    revert hs
    unfold Lib.decodeN
    repeat' split
    all_goals (intro hs; first | (exfalso; simp only at hs; omega) | rfl | (exfalso; omega))
  · rw [hs] at hn e2
    have := e2 (Nat.le_refl _)
    subst this
    clear e2 e3 h2
    revert hs
    unfold Lib.decodeN
    repeat' split
    all_goals (intro hs; first | (exfalso; simp only at hs; omega) | rfl | (exfalso; omega))
  · rw [hs] at hn e2 e3
    have q2 := e2 (by omega)
    have q3 := e3 (by omega)
    subst q2 q3
    clear e2 e3 h2
    revert hs
    unfold Lib.decodeN
    repeat' split
    all_goals (intro hs; first | (exfalso; simp only at hs; omega) | rfl | (exfalso; omega))

theorem decodeN_bad (n b0 b1 b2 b3 : Nat) (h0 : 128 ≤ b0) (h2 : (Lib.decodeN n b0 b1 b2 b3).2 < 2) : Lib.decodeN n b0 b1 b2 b3 = (65533, 1) := by
  revert h2
  unfold Lib.decodeN
  repeat' split
  all_goals (intro h2; first | rfl | (exfalso; simp only at h2; omega) | (exfalso; omega))

theorem decodeN_ascii (n b0 b1 b2 b3 : Nat) (h0 : b0 < 128) : Lib.decodeN n b0 b1 b2 b3 = (b0, 1) := by
  unfold Lib.decodeN
  rw [if_pos h0]

theorem dec_ascii (b : UInt8) (t : List UInt8) (h : b.toNat < 128) : dec (b :: t) = (b.toNat, 1) := decodeN_ascii _ _ _ _ _ h

theorem dec_bad {l : List UInt8} (hl : l ≠ []) (h : decOk l = false) : dec l = (65533, 1) := by
  cases l with
  | nil => exact (hl rfl).elim
  | cons b t =>
    simp only [decOk, List.getD_cons_zero, Bool.or_eq_false_iff, decide_eq_false_iff_not] at h
    exact decodeN_bad _ _ _ _ _ (by omega) (Nat.lt_of_not_le h.2)

/-- What makes a sequence hangs on its own bytes alone. -/
theorem dec_local {l : List UInt8} (hl : l ≠ []) (h : decOk l = true) (t : List UInt8) : dec (l.take (dec l).2 ++ t) = dec l := by
  cases l with
  | nil => exact (hl rfl).elim
  | cons b r =>
    by_cases ha : b.toNat < 128
    · rw [dec_ascii b r ha]
      exact dec_ascii b _ ha
    · have h2 : 2 ≤ (dec (b :: r)).2 := by
        simp only [decOk, List.getD_cons_zero, Bool.or_eq_true, decide_eq_true_eq] at h
        rcases h with h | h
        · omega
        · exact h
      have hs := dec_size (l := b :: r) (by simp)
      obtain ⟨k, hk⟩ : ∃ k, (dec (b :: r)).2 = k + 1 := ⟨(dec (b :: r)).2 - 1, by omega⟩
      rw [hk, List.take_succ_cons, List.cons_append]
      have hl1 : k ≤ r.length := by simp only [List.length_cons] at hs; omega
      have hg : ∀ i, i < k → (r.take k ++ t).getD i 0 = r.getD i 0 := by
        intro i hi
        simp only [List.getD_eq_getElem?_getD]
        rw [List.getElem?_append_left (by simp; omega), List.getElem?_take, if_pos hi]
      have e0 : ((r.take k ++ t).getD 0 0) = r.getD 0 0 := hg 0 (by omega)
      show Lib.decodeN _ _ _ _ _ = Lib.decodeN _ _ _ _ _
      rw [e0]
      have hk' : (Lib.decodeN (r.length + 1) b.toNat (r.getD 0 0).toNat (r.getD 1 0).toNat (r.getD 2 0).toNat).2 = k + 1 := hk
      refine decodeN_local _ _ _ _ _ _ _ _ ?_ ?_ ?_ ?_
      · rw [hk']; omega
      · rw [hk']; simp; omega
      · intro h3; rw [hk'] at h3; rw [hg 1 (by omega)]
      · intro h4; rw [hk'] at h4; rw [hg 2 (by omega)]

theorem decOk_local {l : List UInt8} (hl : l ≠ []) (h : decOk l = true) (t : List UInt8) : decOk (l.take (dec l).2 ++ t) = true := by
  have hd := dec_local hl h t
  have hs := dec_size hl
  unfold decOk at h ⊢
  rw [hd]
  have e : (l.take (dec l).2 ++ t).getD 0 0 = l.getD 0 0 := by
    simp only [List.getD_eq_getElem?_getD]
    rw [List.getElem?_append_left (by simp; omega), List.getElem?_take, if_pos (by omega)]
  rw [e]
  exact h

/-- What is no sequence is none when less stands behind it. -/
theorem decOk_take {l : List UInt8} (hl : l ≠ []) (h : decOk l = false) {k : Nat} (hk : 1 ≤ k) : decOk (l.take k) = false := by
  cases hc : decOk (l.take k)
  · rfl
  · exfalso
    have hne : l.take k ≠ [] := by
      intro e
      have := congrArg List.length e
      simp at this
      rcases this with e | e
      · omega
      · exact hl e
    have := decOk_local hne hc ((l.take k).drop (dec (l.take k)).2 ++ l.drop k)
    rw [← List.append_assoc, List.take_append_drop, List.take_append_drop, h] at this
    cases this

/-- Well-formed texts, one behind the other. -/
theorem chunks_append {a : List UInt8} (b : List UInt8) (h : ∀ c ∈ chunks a, c.ok = true) : chunks (a ++ b) = chunks a ++ chunks b := by
  induction a using chunks_ind with
  | h0 => rfl
  | h1 l hl ih =>
    have hs := dec_size hl
    rw [chunks_cons hl] at h ⊢
    have hok : decOk l = true := h _ (List.mem_cons_self ..)
    have ih' := ih (fun c hc => h c (List.mem_cons_of_mem _ hc))
    have e : l ++ b = l.take (dec l).2 ++ (l.drop (dec l).2 ++ b) := by rw [← List.append_assoc, List.take_append_drop]
    have hd := dec_local hl hok (l.drop (dec l).2 ++ b)
    have ho := decOk_local hl hok (l.drop (dec l).2 ++ b)
    rw [← e] at hd ho
    rw [chunks_cons (l := l ++ b) (by intro e'; exact hl (List.append_eq_nil_iff.1 e').1), hd, ho, hok, List.cons_append, ← ih']
    congr 2
    · rw [List.take_append_of_le_length hs.2.2]
    · rw [List.drop_append_of_le_length hs.2.2]

/-- The part of a text up to the end of one of its code points has just those. -/
theorem chunks_pre : ∀ (cs ds : List Ch) (l : List UInt8), chunks l = cs ++ ds → chunks (glue cs) = cs
  | [], _, _, _ => rfl
  | c :: cs, ds, l, h => by
    have hl : l ≠ [] := by intro e; rw [e] at h; cases h
    have hs := dec_size hl
    rw [chunks_cons hl, List.cons_append] at h
    obtain ⟨hc, ht⟩ := List.cons.inj h
    have ih := chunks_pre cs ds _ ht
    have hcb : c.bs = l.take (dec l).2 := by rw [← hc]
    have hgl : l = c.bs ++ glue cs ++ glue ds := by
      have := glue_chunks (l.drop (dec l).2)
      rw [ht, glue_append] at this
      rw [hcb, List.append_assoc, this, List.take_append_drop]
    rw [glue_cons]
    have hlen : c.bs.length = (dec l).2 := by rw [hcb]; simp; omega
    have hne : c.bs ++ glue cs ≠ [] := by
      intro e
      have := congrArg List.length e
      simp [hlen] at this
      omega
    have htk : c.bs ++ glue cs = l.take (c.bs ++ glue cs).length := by
      have e := List.take_left (l₁ := c.bs ++ glue cs) (l₂ := glue ds)
      rw [← hgl] at e
      exact e.symm
    have hd : dec (c.bs ++ glue cs) = dec l ∧ decOk (c.bs ++ glue cs) = decOk l := by
      cases hok : decOk l
      · have h1 : decOk (c.bs ++ glue cs) = false := by
          rw [htk]; exact decOk_take hl hok (by simp [hlen]; omega)
        exact ⟨by rw [dec_bad hne h1, dec_bad hl hok], h1⟩
      · rw [hcb]
        exact ⟨dec_local hl hok _, decOk_local hl hok _⟩
    rw [chunks_cons hne, hd.1, hd.2]
    have e1 : (c.bs ++ glue cs).take (dec l).2 = c.bs := by rw [← hlen]; simp
    have e2 : (c.bs ++ glue cs).drop (dec l).2 = glue cs := by rw [← hlen]; simp
    rw [e1, e2, ih]
    congr 1
    rw [← hc]

theorem chunks_post : ∀ (cs ds : List Ch) (l : List UInt8), chunks l = cs ++ ds → chunks (glue ds) = ds
  | [], ds, l, h => by
    have : glue ds = l := by rw [← glue_chunks l, h]; rfl
    rw [this, h]; rfl
  | c :: cs, ds, l, h => by
    have hl : l ≠ [] := by intro e; rw [e] at h; cases h
    rw [chunks_cons hl, List.cons_append] at h
    exact chunks_post cs ds _ (List.cons.inj h).2

theorem chunks_mid (as cs ds : List Ch) (l : List UInt8) (h : chunks l = as ++ cs ++ ds) : chunks (glue cs) = cs := by
  have := chunks_pre (as ++ cs) ds l h
  exact chunks_post as cs _ this

/-- A byte that may begin a sequence. -/
def isStart (b : UInt8) : Bool := decide (b.toNat / 64 ≠ 2)
end Go.Proofs.YtiahholgpbjjfaaDoor
