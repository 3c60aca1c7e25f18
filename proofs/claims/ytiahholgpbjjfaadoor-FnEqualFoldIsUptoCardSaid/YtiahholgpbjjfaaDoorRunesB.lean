/- Plain theory of code points, from behind: the last one of a text, as the library's decoder finds it. No program is in sight. -/
import Derived.Test.YtiahholgpbjjfaaDoorSeq
import Derived.Shelf.Unicode.DecodeSlow
import Derived.Shelf.Unicode.DecodeLast
namespace Go.Proofs.YtiahholgpbjjfaaDoor

theorem getD_nil (l : List UInt8) (i : Nat) (h : l.length ≤ i) : l.getD i 0 = 0 := by
  rw [List.getD_eq_getElem?_getD, List.getElem?_eq_none h]; rfl

theorem decodeL_dec {l : List UInt8} (h : l ≠ []) : Lib.decodeL l = dec l := by
  cases l with
  | nil => exact (h rfl).elim
  | cons b t =>
    unfold Lib.decodeL
    rw [Lib.decode_at]
    rw [← Lib.getD_get!, ← Lib.getD_get!, ← Lib.getD_get!, ← Lib.getD_get!]
    rfl

theorem decodeGo_dec {l : List UInt8} (h : l ≠ []) : Lib.decodeGo ⟨l.toArray⟩ = dec l := by
  rw [← decodeL_dec h]
  unfold Lib.decodeGo Lib.decodeL
  rw [if_neg]
  intro e
  exact h (List.eq_nil_of_length_eq_zero e)

/-- Of a well-formed sequence of two bytes or more: the first byte may begin one; the others may not. -/
theorem dec_start {l : List UInt8} (hl : l ≠ []) (h : 2 ≤ (dec l).2) : Lib.runeStartB (l.getD 0 0) = true ∧ 128 ≤ (l.getD 0 0).toNat ∧ ∀ i, 1 ≤ i → i < (dec l).2 → Lib.runeStartB (l.getD i 0) = false ∧ 128 ≤ (l.getD i 0).toNat := by
  cases l with
  | nil => exact (hl rfl).elim
  | cons b t =>
    have hp := decodeN_parts (t.length + 1) b.toNat (t.getD 0 0).toNat (t.getD 1 0).toNat (t.getD 2 0).toNat b.toNat_lt (UInt8.toNat_lt _) (UInt8.toNat_lt _) (UInt8.toNat_lt _)
    change (b.toNat < 128 ∧ dec (b :: t) = _) ∨ (128 ≤ b.toNat ∧ (dec (b :: t)).2 < 2) ∨ ((dec (b :: t)).2 = 2 ∧ _ ∧ _ ∧ _ ∧ _ ∧ ((dec (b :: t)).1 : Int) = _) ∨ ((dec (b :: t)).2 = 3 ∧ _ ∧ _ ∧ _ ∧ _ ∧ _ ∧ _ ∧ ((dec (b :: t)).1 : Int) = _) ∨ ((dec (b :: t)).2 = 4 ∧ _ ∧ _ ∧ _ ∧ _ ∧ _ ∧ _ ∧ _ ∧ _ ∧ ((dec (b :: t)).1 : Int) = _) at hp
    have rt : ∀ x : UInt8, 192 ≤ x.toNat → Lib.runeStartB x = true := fun x hx => by unfold Lib.runeStartB; simp; omega
    have rf : ∀ x : UInt8, 128 ≤ x.toNat → x.toNat ≤ 191 → Lib.runeStartB x = false := fun x h1 h2 => by unfold Lib.runeStartB; simp; omega
    rcases hp with ⟨h1, hd⟩ | ⟨h1, hd⟩ | ⟨hd, q1, q2, q3, q4, hv⟩ | ⟨hd, q1, q2, q3, q4, q5, q6, hv⟩ | ⟨hd, q1, q2, q3, q4, q5, q6, q7, q8, hv⟩
    · rw [hd] at h; simp at h
    · omega
    · refine ⟨rt _ q1, by simp only [List.getD_cons_zero]; omega, fun i h1 h2 => ?_⟩
      have : i = 1 := by omega
      subst this
      exact ⟨rf _ q3 q4, q3⟩
    · refine ⟨rt _ (by simp only [List.getD_cons_zero]; omega), by simp only [List.getD_cons_zero]; omega, fun i h1 h2 => ?_⟩
      have : i = 1 ∨ i = 2 := by omega
      rcases this with rfl | rfl
      · exact ⟨rf _ q3 q4, q3⟩
      · exact ⟨rf _ q5 q6, q5⟩
    · refine ⟨rt _ (by simp only [List.getD_cons_zero]; omega), by simp only [List.getD_cons_zero]; omega, fun i h1 h2 => ?_⟩
      have : i = 1 ∨ i = 2 ∨ i = 3 := by omega
      rcases this with rfl | rfl | rfl
      · exact ⟨rf _ q3 q4, q3⟩
      · exact ⟨rf _ q5 q6, q5⟩
      · exact ⟨rf _ q7 q8, q7⟩

/-- A byte that may begin a sequence begins a code point of the text. -/
theorem boundary (l : List UInt8) : ∀ i, i ≤ l.length → (i < l.length → Lib.runeStartB (l.getD i 0) = true) → ∃ cs ds, chunks l = cs ++ ds ∧ glue cs = l.take i ∧ glue ds = l.drop i := by
  induction l using chunks_ind with
  | h0 => intro i _ _; exact ⟨[], [], rfl, by simp [glue], by simp [glue]⟩
  | h1 l hl ih =>
    intro i hi hr
    have hs := dec_size hl
    by_cases h0 : i = 0
    · subst h0
      exact ⟨[], chunks l, rfl, by simp [glue], by rw [glue_chunks]; rfl⟩
    · have hge : (dec l).2 ≤ i := by
        apply Nat.le_of_not_lt
        intro hlt
        have h2 := (dec_start hl (by omega)).2.2 i (by omega) hlt
        rw [hr (by omega)] at h2
        cases h2.1
      obtain ⟨cs, ds, e, e1, e2⟩ := ih (i - (dec l).2) (by rw [List.length_drop]; omega) (fun h => by
        rw [List.length_drop] at h
        have := hr (by omega)
        rw [List.getD_eq_getElem?_getD, List.getElem?_drop, ← List.getD_eq_getElem?_getD]
        have e : (dec l).2 + (i - (dec l).2) = i := by omega
        rw [e]; exact this)
      refine ⟨⟨l.take (dec l).2, (dec l).1, decOk l⟩ :: cs, ds, by rw [chunks_cons hl, e]; rfl, ?_, ?_⟩
      · rw [glue_cons, e1, List.take_drop]
        have e : (dec l).2 + (i - (dec l).2) = i := by omega
        rw [e]
        show l.take (dec l).2 ++ (l.take i).drop (dec l).2 = _
        have : l.take (dec l).2 = (l.take i).take (dec l).2 := by rw [List.take_take, Nat.min_eq_left hge]
        rw [this, List.take_append_drop]
      · rw [e2, List.drop_drop]
        congr 1
        omega

theorem chunk_dec {l : List UInt8} {cs : List Ch} {c : Ch} (h : chunks l = cs ++ [c]) : c.bs ≠ [] ∧ dec c.bs = (c.r, c.bs.length) ∧ decOk c.bs = c.ok ∧ l = glue cs ++ c.bs := by
  have h1 : chunks c.bs = [c] := by
    have := chunks_post cs [c] l h
    rwa [glue_cons, glue_nil, List.append_nil] at this
  have hne : c.bs ≠ [] := by intro e; rw [e] at h1; cases h1
  rw [chunks_cons hne] at h1
  obtain ⟨h2, h3⟩ := List.cons.inj h1
  have hb : c.bs.take (dec c.bs).2 = c.bs := congrArg Ch.bs h2
  have hl := congrArg List.length hb
  have hs := dec_size hne
  rw [List.length_take] at hl
  refine ⟨hne, ?_, congrArg Ch.ok h2, ?_⟩
  · have e1 : (dec c.bs).1 = c.r := congrArg Ch.r h2
    have e2 : (dec c.bs).2 = c.bs.length := by omega
    rw [← e1, ← e2]
  · have := glue_chunks l
    rw [h, glue_append, glue_cons, glue_nil, List.append_nil] at this
    exact this.symm

theorem getD_append_right (a b : List UInt8) (i : Nat) : (a ++ b).getD (a.length + i) 0 = b.getD i 0 := by
  rw [List.getD_eq_getElem?_getD, List.getElem?_append_right (by omega), List.getD_eq_getElem?_getD]
  congr 2
  omega

theorem lastStart_le (l : List UInt8) : Lib.lastStart l ≤ l.length := by
  unfold Lib.lastStart
  simp only
  repeat' split
  all_goals omega

/-- The library's last code point is the text's last one. -/
theorem decLast {l : List UInt8} {cs : List Ch} {c : Ch} (h : chunks l = cs ++ [c]) : Lib.decodeLastL l = (c.r, c.bs.length) := by
  obtain ⟨hne, hd, hok, hl⟩ := chunk_dec h
  have hs := dec_size hne
  rw [hd] at hs
  have hlen : l.length = (glue cs).length + c.bs.length := by rw [hl, List.length_append]
  have hl0 : l ≠ [] := by intro e; rw [e] at hlen; simp at hlen hs; omega
  have hlast : ∀ k, 1 ≤ k → k ≤ c.bs.length → l.getD (l.length - k) 0 = c.bs.getD (c.bs.length - k) 0 := by
    intro k h1 h2
    have e : l.length - k = (glue cs).length + (c.bs.length - k) := by omega
    rw [e]
    conv => lhs; rw [hl]
    exact getD_append_right _ _ _
  unfold Lib.decodeLastL
  rw [if_neg hl0, hlast 1 (by omega) hs.1]
  simp only at hs
  by_cases h2 : 2 ≤ c.bs.length
  · have hst := dec_start hne (by rw [hd]; exact h2)
    rw [hd] at hst
    simp only at hst
    rw [if_neg (by have := (hst.2.2 (c.bs.length - 1) (by omega) (by omega)).2; omega)]
    have hls : Lib.lastStart l = l.length - c.bs.length := by
      have h3 : c.bs.length = 2 ∨ c.bs.length = 3 ∨ c.bs.length = 4 := by omega
      rcases h3 with h3 | h3 | h3
      · have b2 : Lib.runeStartB (l.getD (l.length - 2) 0) = true := by rw [hlast 2 (by omega) (by omega), h3]; exact hst.1
        unfold Lib.lastStart
        simp only [b2, if_true]
        rw [if_neg (by omega), h3]
      · have b2 : Lib.runeStartB (l.getD (l.length - 2) 0) = false := by rw [hlast 2 (by omega) (by omega), h3]; exact (hst.2.2 1 (by omega) (by omega)).1
        have b3 : Lib.runeStartB (l.getD (l.length - 3) 0) = true := by rw [hlast 3 (by omega) (by omega), h3]; exact hst.1
        unfold Lib.lastStart
        simp only [b2, b3, if_true, Bool.false_eq_true, if_false]
        rw [if_neg (by omega), if_neg (by omega), h3]
      · have b2 : Lib.runeStartB (l.getD (l.length - 2) 0) = false := by rw [hlast 2 (by omega) (by omega), h3]; exact (hst.2.2 2 (by omega) (by omega)).1
        have b3 : Lib.runeStartB (l.getD (l.length - 3) 0) = false := by rw [hlast 3 (by omega) (by omega), h3]; exact (hst.2.2 1 (by omega) (by omega)).1
        have b4 : Lib.runeStartB (l.getD (l.length - 4) 0) = true := by rw [hlast 4 (by omega) (by omega), h3]; exact hst.1
        unfold Lib.lastStart
        simp only [b2, b3, b4, if_true, Bool.false_eq_true, if_false]
        rw [if_neg (by omega), if_neg (by omega), if_neg (by omega), h3]
    have hdr : l.drop (l.length - c.bs.length) = c.bs := by
      have e : l.length - c.bs.length = (glue cs).length := by omega
      rw [e]
      conv => lhs; rw [hl]
      exact List.drop_left
    simp only
    rw [hls, hdr, decodeL_dec hne, hd, if_pos (by simp only; omega)]
  · have h1 : c.bs.length = 1 := by omega
    obtain ⟨b, hb⟩ : ∃ b, c.bs = [b] := by
      match hbs : c.bs, h1 with
      | [b], _ => exact ⟨b, rfl⟩
    by_cases ha : b.toNat < 128
    · rw [hb] at hd ⊢
      rw [dec_ascii b [] ha] at hd
      rw [if_pos (by simpa using ha)]
      simpa using hd
    · have hbad : decOk c.bs = false := by rw [hb]; simp [decOk, dec, Lib.decodeN, ha]
      have hdb := dec_bad hne hbad
      rw [hd] at hdb
      rw [hdb]
      have ha' : ¬ (c.bs.getD (c.bs.length - 1) 0).toNat < 128 := by rw [hb]; simpa using ha
      rw [if_neg ha']
      simp only
      by_cases hq : Lib.lastStart l + (Lib.decodeL (l.drop (Lib.lastStart l))).2 = l.length
      · rw [if_pos hq]
        by_cases hx : l.drop (Lib.lastStart l) = []
        · exfalso
          have e := congrArg List.length hx
          rw [List.length_drop] at e
          simp at e
          have hle := lastStart_le l
          have : Lib.lastStart l = l.length := by omega
          revert this
          unfold Lib.lastStart
          simp only
          repeat' split
          all_goals (intro h; omega)
        · rw [decodeL_dec hx] at hq ⊢
          have hsx := dec_size hx
          rw [List.length_drop] at hsx
          by_cases h3 : 2 ≤ (dec (l.drop (Lib.lastStart l))).2
          · exfalso
            have hst := (dec_start hx h3).1
            rw [List.getD_eq_getElem?_getD, List.getElem?_drop, Nat.add_zero, ← List.getD_eq_getElem?_getD] at hst
            obtain ⟨us, vs, e, e1, e2⟩ := boundary l (Lib.lastStart l) (lastStart_le l) (fun _ => hst)
            have hc := chunks_post us vs l e
            rw [e2] at hc
            rw [chunks_cons hx] at hc
            have hrest : (l.drop (Lib.lastStart l)).drop (dec (l.drop (Lib.lastStart l))).2 = [] := by
              apply List.drop_of_length_le
              rw [List.length_drop]; omega
            rw [hrest, chunks_nil] at hc
            rw [← hc, h] at e
            have e3 := List.append_inj_right' e rfl
            have e4 := (List.cons.inj e3).1
            have e5 := congrArg (fun c => c.bs.length) e4
            simp only [List.length_take, List.length_drop] at e5
            omega
          · have h4 : (dec (l.drop (Lib.lastStart l))).2 = 1 := by omega
            rw [h4] at hq
            have hll : Lib.lastStart l = l.length - 1 := by omega
            have hdr : l.drop (Lib.lastStart l) = c.bs := by
              have e : Lib.lastStart l = (glue cs).length := by omega
              rw [e]
              conv => lhs; rw [hl]
              exact List.drop_left
            rw [hdr, hd, hdb]
      · rw [if_neg hq]
        rfl
end Go.Proofs.YtiahholgpbjjfaaDoor
