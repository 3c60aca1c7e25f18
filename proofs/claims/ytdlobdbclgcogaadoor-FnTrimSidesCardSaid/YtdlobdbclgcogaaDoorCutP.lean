/- Plain theory: trimming the bytes of a set of ASCII is trimming the code points of it. No program is in sight. -/
import Derived.Test.YtdlobdbclgcogaaDoorAsciiP
import Derived.Test.YtdlobdbclgcogaaDoorMapP
import Derived.Lib.SlTrimSet
namespace Go.Proofs.YtdlobdbclgcogaaDoor

/-- A code point of ASCII is its one byte. -/
theorem ch_low {l : List UInt8} {c : Ch} (hc : c ∈ chunks l) (h : c.r < 128) : c.bs = [UInt8.ofNat c.r] := by
  have hk := chunks_ok l c hc
  cases ho : c.ok with
  | false => have := (hk.bad ho).1; omega
  | true =>
    rw [hk.good ho]
    unfold encN
    rw [normN_of hk.scalar]
    unfold encS
    rw [if_pos h]

/-- The test p of code points and the test q of bytes are one on ASCII, and neither holds beyond. -/
structure Asc (p : Int → Bool) (q : UInt8 → Bool) : Prop where
  low : ∀ b : UInt8, b.toNat < 128 → p b.toNat = q b
  high : ∀ r : Nat, 128 ≤ r → p r = false
  ascii : ∀ b : UInt8, q b = true → b.toNat < 128

theorem Asc.ch_false {p : Int → Bool} {q : UInt8 → Bool} (h : Asc p q) {l : List UInt8} {c : Ch} (hc : c ∈ chunks l) {b : UInt8} (hb : b ∈ c.bs) (hq : q b = false) : p c.r = false := by
  by_cases hr : c.r < 128
  · have e := ch_low hc hr
    rw [e, List.mem_singleton] at hb
    have hbn : b.toNat = c.r := by rw [hb]; simp; omega
    rw [← hbn, h.low b (by omega), hq]
  · exact h.high _ (by omega)

theorem Asc.tl_at {p : Int → Bool} {q : UInt8 → Bool} (h : Asc p q) (a r : List UInt8) (ha : ∀ b ∈ a, q b = true) (hr : r = [] ∨ ∃ b t, r = b :: t ∧ q b = false) : tlB p (a ++ r) = r := by
  unfold tlB
  rw [chunks_ascii_pre a r (fun b hb => h.ascii b (ha b hb))]
  have hA : ∀ x ∈ a.map ach, p x.r = true := by
    intro x hx
    obtain ⟨b, hb, rfl⟩ := List.mem_map.1 hx
    show p b.toNat = true
    rw [h.low b (h.ascii b (ha b hb)), ha b hb]
  rcases hr with rfl | ⟨b, t, rfl, hq⟩
  · rw [chunks_nil, List.append_nil, trimL_none p _ hA]; rfl
  · have hc := chunks_cons (l := b :: t) (by simp)
    have hm : (⟨(b :: t).take (dec (b :: t)).2, (dec (b :: t)).1, decOk (b :: t)⟩ : Ch) ∈ chunks (b :: t) := by rw [hc]; exact List.mem_cons_self ..
    have hpos := (dec_size (l := b :: t) (by simp)).1
    have hf := h.ch_false hm (b := b) (by
      show b ∈ (b :: t).take (dec (b :: t)).2
      obtain ⟨k, hk⟩ : ∃ k, (dec (b :: t)).2 = k + 1 := ⟨(dec (b :: t)).2 - 1, by omega⟩
      rw [hk, List.take_succ_cons]
      exact List.mem_cons_self ..) hq
    have hg := glue_chunks (b :: t)
    rw [hc] at hg ⊢
    rw [trimL_split p _ _ _ hA hf, hg]

theorem Asc.tr_at {p : Int → Bool} {q : UInt8 → Bool} (h : Asc p q) (a r : List UInt8) (hr : ∀ b ∈ r, q b = true) (ha : a = [] ∨ ∃ t b, a = t ++ [b] ∧ q b = false) : trB p (a ++ r) = a := by
  unfold trB
  rw [chunks_ascii_post a r (fun b hb => h.ascii b (hr b hb))]
  have hA : ∀ x ∈ r.map ach, p x.r = true := by
    intro x hx
    obtain ⟨b, hb, rfl⟩ := List.mem_map.1 hx
    show p b.toNat = true
    rw [h.low b (h.ascii b (hr b hb)), hr b hb]
  rcases ha with rfl | ⟨t, b, rfl, hq⟩
  · rw [chunks_nil, List.nil_append]
    unfold trimR
    rw [dropWhile_all (by intro x hx; exact hA x (by simpa using hx))]; rfl
  · have hg := glue_chunks (t ++ [b])
    obtain ⟨cs, c, hc⟩ : ∃ cs c, chunks (t ++ [b]) = cs ++ [c] := by
      have hn : chunks (t ++ [b]) ≠ [] := by
        intro e; rw [e] at hg; simp [glue] at hg
      exact ⟨_, _, (List.dropLast_concat_getLast hn).symm⟩
    have hm : c ∈ chunks (t ++ [b]) := by rw [hc]; simp
    have hpos := (chunks_bs_pos _ c hm).1
    have hf := h.ch_false hm (b := b) (by
      rw [hc, glue_append, glue_cons, glue_nil, List.append_nil] at hg
      have hl := congrArg List.getLast? hg
      rw [List.getLast?_append, List.getLast?_append] at hl
      have hcn : c.bs ≠ [] := by intro e; rw [e] at hpos; simp at hpos
      rw [List.getLast?_eq_some_getLast hcn] at hl
      simp at hl
      rw [← hl]
      exact List.getLast_mem hcn) hq
    rw [hc] at hg ⊢
    rw [List.append_assoc, List.singleton_append, trimR_split p _ _ _ hA hf, hg]

/-- The code points of a text, as a test. -/
def inP (cs : List UInt8) : Int → Bool := holdsT (runesOf (chunks cs)) false

theorem inP_iff (cs : List UInt8) (r : Int) : inP cs r = true ↔ ∃ c ∈ chunks cs, (c.r : Int) = r := by
  unfold inP holdsT runesOf
  by_cases h : r ∈ (chunks cs).map fun c => (c.r : Int)
  · rw [if_pos h]
    exact ⟨fun _ => List.mem_map.1 h, fun _ => rfl⟩
  · rw [if_neg h]
    constructor
    · intro e; cases e
    · intro e; exact absurd (List.mem_map.2 e) h

theorem asc_inP {cs : List UInt8} (h : ∀ b ∈ cs, b.toNat < 128) : Asc (inP cs) (fun b => cs.contains b) := by
  have e := chunks_ascii_pre cs [] h
  rw [List.append_nil, chunks_nil, List.append_nil] at e
  refine ⟨fun b _ => ?_, fun r hr => ?_, fun b hb => h b (by simpa using hb)⟩
  · rw [Bool.eq_iff_iff, inP_iff, e]
    constructor
    · rintro ⟨c, hc, hcr⟩
      obtain ⟨x, hx, rfl⟩ := List.mem_map.1 hc
      have hxb : x = b := UInt8.toNat_inj.1 (by have : ((x.toNat : Nat) : Int) = b.toNat := hcr; omega)
      rw [← hxb]; simpa using hx
    · intro hb
      exact ⟨ach b, List.mem_map.2 ⟨b, by simpa using hb, rfl⟩, rfl⟩
  · rw [Bool.eq_false_iff]
    intro ht
    obtain ⟨c, hc, hcr⟩ := (inP_iff cs r).1 ht
    rw [e] at hc
    obtain ⟨x, hx, rfl⟩ := List.mem_map.1 hc
    have := h x hx
    have h2 : ((x.toNat : Nat) : Int) = r := hcr
    omega

theorem inP_nil (r : Int) : inP [] r = false := rfl
theorem tlB_never {p : Int → Bool} (hp : ∀ r, p r = false) (l : List UInt8) : tlB p l = l := by
  unfold tlB trimL
  cases h : chunks l with
  | nil => rw [← glue_chunks l, h]; rfl
  | cons c cs => rw [List.dropWhile_cons, hp, if_neg (by simp), ← h, glue_chunks]
theorem trB_never {p : Int → Bool} (hp : ∀ r, p r = false) (l : List UInt8) : trB p l = l := by
  unfold trB trimR
  have : (chunks l).reverse.dropWhile (fun c => p c.r) = (chunks l).reverse := by
    cases h : (chunks l).reverse with
    | nil => rfl
    | cons c cs => rw [List.dropWhile_cons, hp, if_neg (by simp)]
  rw [this, List.reverse_reverse, glue_chunks]

theorem takeWhile_all {α : Type} (p : α → Bool) : ∀ (l : List α), ∀ b ∈ l.takeWhile p, p b = true
  | [], b, h => by simp at h
  | x :: l, b, h => by
    rw [List.takeWhile_cons] at h
    split at h
    · rename_i hx
      rcases List.mem_cons.1 h with rfl | h
      · exact hx
      · exact takeWhile_all p l b h
    · simp at h

/-- What the library's plain words say. -/
theorem tl_words {cs : List UInt8} (h : ∀ b ∈ cs, b.toNat < 128) (l : List UInt8) : tlB (inP cs) l = Lib.trimLeftS l cs := by
  unfold Lib.trimLeftS
  have hs := List.takeWhile_append_dropWhile (p := fun b => cs.contains b) (l := l)
  conv => lhs; rw [← hs]
  refine (asc_inP h).tl_at _ _ (fun b hb => ?_) ?_
  · exact takeWhile_all (fun b => cs.contains b) l b hb
  · cases hd : l.dropWhile (fun b => cs.contains b) with
    | nil => exact .inl rfl
    | cons b t => exact .inr ⟨b, t, rfl, by have := List.head?_dropWhile_not (fun b => cs.contains b) l; rw [hd] at this; simpa using this⟩
theorem tr_words {cs : List UInt8} (h : ∀ b ∈ cs, b.toNat < 128) (l : List UInt8) : trB (inP cs) l = Lib.trimRightS l cs := by
  unfold Lib.trimRightS
  have hs := List.takeWhile_append_dropWhile (p := fun b => cs.contains b) (l := l.reverse)
  have hs2 : (l.reverse.dropWhile (fun b => cs.contains b)).reverse ++ (l.reverse.takeWhile (fun b => cs.contains b)).reverse = l := by
    rw [← List.reverse_append, hs, List.reverse_reverse]
  conv => lhs; rw [← hs2]
  refine (asc_inP h).tr_at _ _ (fun b hb => ?_) ?_
  · exact takeWhile_all (fun b => cs.contains b) l.reverse b (List.mem_reverse.1 hb)
  · cases hd : l.reverse.dropWhile (fun b => cs.contains b) with
    | nil => exact .inl rfl
    | cons b t => exact .inr ⟨t.reverse, b, by simp, by have := List.head?_dropWhile_not (fun b => cs.contains b) l.reverse; rw [hd] at this; simpa using this⟩
end Go.Proofs.YtdlobdbclgcogaaDoor
