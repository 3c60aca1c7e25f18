/- Plain laws on places of a text in another one: the last one, the first one. No program is in sight. -/
import Derived.Lib.LastIndexLaws
import Derived.Lib.IndexLaws
import Derived.Test.YtdlobdbclgcogaaDoorBytesA
namespace Go.Proofs.YtdlobdbclgcogaaDoor

/-- t stands in s from i on. -/
def Occ (s t : List UInt8) (i : Nat) : Prop := ∃ a b, s = a ++ t ++ b ∧ a.length = i

theorem Occ.le {s t : List UInt8} {i : Nat} (h : Occ s t i) : i + t.length ≤ s.length := by
  obtain ⟨a, b, rfl, rfl⟩ := h
  simp only [List.length_append]; omega

theorem occ_at {s t : List UInt8} {i : Nat} (hi : i ≤ s.length) : Lib.occAt s t i = true ↔ Occ s t i := by
  unfold Lib.occAt
  rw [List.isPrefixOf_iff_prefix]
  constructor
  · rintro ⟨b, hb⟩
    exact ⟨s.take i, b, by rw [List.append_assoc, hb, List.take_append_drop], by simp; omega⟩
  · rintro ⟨a, b, rfl, rfl⟩
    exact ⟨b, by simp⟩

theorem occ_part {s t : List UInt8} {i : Nat} (hl : i + t.length ≤ s.length) : Occ s t i ↔ (s.drop i).take t.length = t := by
  constructor
  · rintro ⟨a, b, rfl, rfl⟩
    simp
  · intro h
    refine ⟨s.take i, s.drop (i + t.length), ?_, by simp; omega⟩
    conv => lhs; rw [← List.take_append_drop i s, ← List.take_append_drop t.length (s.drop i), h, List.drop_drop]
    rw [List.append_assoc]

def lastIx (s t : List UInt8) : Int := Lib.lastIndex s t
def firstIx (s t : List UInt8) : Int := Lib.index s t

theorem lastIx_cases (s t : List UInt8) : (lastIx s t = -1 ∧ ∀ i, ¬ Occ s t i) ∨ (∃ i : Nat, lastIx s t = i ∧ Occ s t i ∧ ∀ j, i < j → ¬ Occ s t j) := by
  unfold lastIx Lib.lastIndex
  by_cases hl : t.length ≤ s.length
  · rw [if_pos hl]
    rcases Lib.lastOcc_spec s t (s.length - t.length + 1) with ⟨e, hn⟩ | ⟨i, hi, e, ho, hn⟩
    · refine .inl ⟨e, fun i ho => ?_⟩
      have := ho.le
      have h := hn i (by omega)
      rw [(occ_at (by omega)).2 ho] at h
      cases h
    · refine .inr ⟨i, e, (occ_at (by omega)).1 ho, fun j hj hoj => ?_⟩
      have := hoj.le
      have h := hn j hj (by omega)
      rw [(occ_at (by omega)).2 hoj] at h
      cases h
  · rw [if_neg hl]
    exact .inl ⟨rfl, fun i ho => by have := ho.le; omega⟩

theorem lastIx_eq {s t : List UInt8} {i : Nat} (h1 : Occ s t i) (h2 : ∀ j, i < j → ¬ Occ s t j) : lastIx s t = i := by
  rcases lastIx_cases s t with ⟨_, hn⟩ | ⟨k, e, ho, hn⟩
  · exact (hn i h1).elim
  · have : ¬ i < k := fun h => h2 k h ho
    have : ¬ k < i := fun h => hn i h h1
    rw [e]; omega

theorem lastIx_none {s t : List UInt8} (h : ∀ i, ¬ Occ s t i) : lastIx s t = -1 := by
  rcases lastIx_cases s t with ⟨e, _⟩ | ⟨k, _, ho, _⟩
  · exact e
  · exact (h k ho).elim

theorem firstIx_none {s t : List UInt8} (h : ∀ i, ¬ Occ s t i) : firstIx s t = -1 := by
  refine Lib.index_none (fun j hj => ?_)
  cases hc : Lib.occAt s t j
  · rfl
  · exact (h j ((occ_at hj).1 hc)).elim

theorem firstIx_eq {s t : List UInt8} {i : Nat} (h1 : Occ s t i) (h2 : ∀ j, j < i → ¬ Occ s t j) : firstIx s t = i := by
  have hl := h1.le
  refine Lib.index_first (by omega) ((occ_at (by omega)).2 h1) (fun j hj => ?_)
  cases hc : Lib.occAt s t j
  · rfl
  · exact (h2 j hj ((occ_at (by omega)).1 hc)).elim

theorem firstIx_some {s t : List UInt8} {i : Nat} (h : Occ s t i) : 0 ≤ firstIx s t := by
  obtain ⟨k, hk, hn⟩ := exists_least ⟨i, h⟩
  rw [firstIx_eq hk (fun j hj ho => by have := hn j ho; omega)]
  omega

theorem Occ.drop {s t : List UInt8} {i k : Nat} (h : Occ (s.drop k) t i) (hk : k ≤ s.length) : Occ s t (k + i) := by
  obtain ⟨a, b, e, rfl⟩ := h
  refine ⟨s.take k ++ a, b, ?_, by simp; omega⟩
  conv => lhs; rw [← List.take_append_drop k s, e]
  simp

theorem occ_nil (s : List UInt8) (i : Nat) (hi : i ≤ s.length) : Occ s [] i := ⟨s.take i, s.drop i, by simp, by simp; omega⟩

theorem lastIx_nil (s : List UInt8) : lastIx s [] = s.length := lastIx_eq (occ_nil s _ (Nat.le_refl _)) (fun j hj ho => by have := ho.le; omega)

/-- What the law FnLastIndexLast asks where the text stands. -/
theorem lastIx_behind {s t : List UInt8} {i : Nat} (e : lastIx s t = i) (hne : i ≠ s.length) : t ≠ [] ∧ lastIx (s.drop (i + 1)) t = -1 := by
  rcases lastIx_cases s t with ⟨e', _⟩ | ⟨k, e', ho, hn⟩
  · omega
  · obtain rfl : k = i := by omega
    have hl := ho.le
    refine ⟨fun h => ?_, lastIx_none fun j hj => hn _ (by omega) (hj.drop (by omega))⟩
    subst h
    rw [lastIx_nil] at e
    omega

theorem lastIx_end {s t : List UInt8} {i : Nat} (e : lastIx s t = i) (he : i = s.length) : t = [] := by
  rcases lastIx_cases s t with ⟨e', _⟩ | ⟨k, e', ho, hn⟩
  · omega
  · obtain rfl : k = i := by omega
    have hl := ho.le
    exact List.eq_nil_of_length_eq_zero (by omega)

theorem lastIx_between (a t b : List UInt8) : (a.length : Int) ≤ lastIx (a ++ t ++ b) t ∧ lastIx (a ++ t ++ b) t ≤ a.length + b.length := by
  rcases lastIx_cases (a ++ t ++ b) t with ⟨_, hn⟩ | ⟨k, e, ho, hn⟩
  · exact (hn a.length ⟨a, b, rfl, rfl⟩).elim
  · have h1 : ¬ k < a.length := fun h => hn a.length h ⟨a, b, rfl, rfl⟩
    have h2 := ho.le
    simp at h2
    rw [e]; omega

theorem lastIx_last (a t : List UInt8) : lastIx (a ++ t) t = a.length :=
  lastIx_eq ⟨a, [], by simp, rfl⟩ (fun j hj ho => by have := ho.le; simp at this; omega)

theorem hasSuf_iff {s p : List UInt8} : hasSuf s p = true ↔ ∃ a, s = a ++ p := by
  constructor
  · intro h
    have hl := hasSuf_le h
    unfold hasSuf at h
    rw [decide_eq_true_eq] at h
    exact ⟨s.take (s.length - p.length), by conv => lhs; rw [← List.take_append_drop (s.length - p.length) s, h]⟩
  · rintro ⟨a, rfl⟩
    unfold hasSuf
    simp

theorem hasPre_iff {s p : List UInt8} : hasPre s p = true ↔ ∃ b, s = p ++ b := by
  constructor
  · intro h
    unfold hasPre at h
    rw [decide_eq_true_eq] at h
    exact ⟨s.drop p.length, by conv => lhs; rw [← List.take_append_drop p.length s, h]⟩
  · rintro ⟨b, rfl⟩
    unfold hasPre
    simp

/-- A text ends with what stands last at its end. -/
theorem suf_last (s p : List UInt8) : hasSuf s p = true ↔ 0 ≤ lastIx s p ∧ lastIx s p = (s.length : Int) - p.length := by
  rw [hasSuf_iff]
  constructor
  · rintro ⟨a, rfl⟩
    rw [lastIx_last]
    simp only [List.length_append]; omega
  · rintro ⟨h1, h2⟩
    rcases lastIx_cases s p with ⟨e, _⟩ | ⟨k, e, ⟨a, b, rfl, rfl⟩, _⟩
    · omega
    · rw [e] at h2
      simp at h2
      have : b = [] := List.eq_nil_of_length_eq_zero (by omega)
      subst this
      exact ⟨a, by simp⟩

/-- A suffix is a prefix, read from behind. -/
theorem suf_mirror (s p : List UInt8) : hasSuf s p = hasPre s.reverse p.reverse := by
  rw [Bool.eq_iff_iff, hasSuf_iff, hasPre_iff]
  constructor
  · rintro ⟨a, rfl⟩; exact ⟨a.reverse, by simp⟩
  · rintro ⟨b, hb⟩; exact ⟨b.reverse, by have := congrArg List.reverse hb; simpa using this⟩

theorem cut_mirror (s p : List UInt8) : cutSuf s p = (cutPre s.reverse p.reverse).reverse := by
  unfold cutSuf cutPre
  rw [suf_mirror]
  split
  · rw [List.length_reverse, List.drop_reverse, List.reverse_reverse]
  · simp

theorem cutPre_sum (a b : List UInt8) : cutPre (a ++ b) a = b := by
  unfold cutPre
  rw [if_pos (hasPre_iff.2 ⟨b, rfl⟩)]
  simp
theorem cutSuf_sum (a b : List UInt8) : cutSuf (a ++ b) b = a := by
  unfold cutSuf
  rw [if_pos (hasSuf_iff.2 ⟨a, rfl⟩)]
  simp
theorem cutPre_whole {s p : List UInt8} (h : hasPre s p = true) : p ++ cutPre s p = s := by
  obtain ⟨b, rfl⟩ := hasPre_iff.1 h
  rw [cutPre_sum]
theorem cutSuf_whole {s p : List UInt8} (h : hasSuf s p = true) : cutSuf s p ++ p = s := by
  obtain ⟨a, rfl⟩ := hasSuf_iff.1 h
  rw [cutSuf_sum]
theorem cutPre_not {s p : List UInt8} (h : hasPre s p = false) : cutPre s p = s := by simp [cutPre, h]
theorem cutSuf_not {s p : List UInt8} (h : hasSuf s p = false) : cutSuf s p = s := by simp [cutSuf, h]

/-- The bytes' first and last places. -/
theorem firstB_spec : ∀ (l : List UInt8) (b : UInt8), (firstB l b = -1 ∧ ∀ x ∈ l, x ≠ b) ∨ (∃ i : Nat, firstB l b = i ∧ ∃ h : i < l.length, l[i] = b ∧ ∀ x ∈ l.take i, x ≠ b)
  | [], b => .inl ⟨rfl, by simp⟩
  | x :: l, b => by
    by_cases h : x = b
    · exact .inr ⟨0, by simp [firstB, h], by simp, by simp [h], by simp⟩
    · rcases firstB_spec l b with ⟨e, hn⟩ | ⟨i, e, hi, hb, hn⟩
      · refine .inl ⟨by simp [firstB, h, e], ?_⟩
        intro y hy
        rcases List.mem_cons.1 hy with rfl | hy
        · exact h
        · exact hn y hy
      · refine .inr ⟨i + 1, by rw [firstB, if_neg h, e, if_neg (by omega)]; omega, by simpa using hi, by simpa using hb, ?_⟩
        intro y hy
        rw [List.take_succ_cons] at hy
        rcases List.mem_cons.1 hy with rfl | hy
        · exact h
        · exact hn y hy

theorem lastB_spec : ∀ (l : List UInt8) (b : UInt8), (lastB l b = -1 ∧ ∀ x ∈ l, x ≠ b) ∨ (∃ i : Nat, lastB l b = i ∧ ∃ h : i < l.length, l[i] = b ∧ ∀ x ∈ l.drop (i + 1), x ≠ b)
  | [], b => .inl ⟨rfl, by simp⟩
  | x :: l, b => by
    rcases lastB_spec l b with ⟨e, hn⟩ | ⟨i, e, hi, hb, hn⟩
    · by_cases h : x = b
      · exact .inr ⟨0, by simp [lastB, h, e], by simp, by simp [h], by simpa using hn⟩
      · refine .inl ⟨by simp [lastB, h, e], ?_⟩
        intro y hy
        rcases List.mem_cons.1 hy with rfl | hy
        · exact h
        · exact hn y hy
    · exact .inr ⟨i + 1, by rw [lastB, e, if_pos (by omega)]; omega, by simpa using hi, by simpa using hb, by simpa using hn⟩

theorem firstB_none' {l : List UInt8} {b : UInt8} (h : ∀ x ∈ l, x ≠ b) : firstB l b = -1 := by
  rcases firstB_spec l b with ⟨e, _⟩ | ⟨i, _, hi, hb, _⟩
  · exact e
  · exact (h _ (List.getElem_mem hi) hb).elim
theorem lastB_none' {l : List UInt8} {b : UInt8} (h : ∀ x ∈ l, x ≠ b) : lastB l b = -1 := by
  rcases lastB_spec l b with ⟨e, _⟩ | ⟨i, _, hi, hb, _⟩
  · exact e
  · exact (h _ (List.getElem_mem hi) hb).elim

theorem occ_one {l : List UInt8} {b : UInt8} {i : Nat} : Occ l [b] i ↔ ∃ h : i < l.length, l[i] = b := by
  constructor
  · rintro ⟨a, c, rfl, rfl⟩
    exact ⟨by simp, by simp⟩
  · rintro ⟨h, hb⟩
    refine ⟨l.take i, l.drop (i + 1), ?_, by simp; omega⟩
    rw [← hb, ← List.take_succ_eq_append_getElem h, List.take_append_drop]

theorem lastIx_one (l : List UInt8) (b : UInt8) : lastIx l [b] = lastB l b := by
  rcases lastB_spec l b with ⟨e, hn⟩ | ⟨i, e, hi, hb, hn⟩
  · rw [e]
    refine lastIx_none fun i ho => ?_
    obtain ⟨h, hb⟩ := occ_one.1 ho
    exact hn _ (List.getElem_mem h) hb
  · rw [e]
    refine lastIx_eq (occ_one.2 ⟨hi, hb⟩) fun j hj ho => ?_
    obtain ⟨h, hb'⟩ := occ_one.1 ho
    refine hn l[j] ?_ hb'
    rw [List.mem_iff_getElem]
    exact ⟨j - (i + 1), by simp; omega, by simp; congr 1; omega⟩

theorem cmpL_pre_iff (p r : List UInt8) : cmpL p (p ++ r) ≤ 0 ∧ (cmpL p (p ++ r) = 0 ↔ r = []) := by
  by_cases h : r = []
  · subst h; simp [cmpL_self]
  · rw [cmpL_pre _ _ h]; simp [h]
end Go.Proofs.YtdlobdbclgcogaaDoor
