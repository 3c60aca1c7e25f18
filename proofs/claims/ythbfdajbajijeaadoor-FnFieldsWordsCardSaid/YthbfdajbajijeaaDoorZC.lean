/- Several texts of this seat, put together: PlainB LastIx FieldsQ FieldsT Texts. -/
import Derived.Lib.LastIndexLaws
import Derived.Lib.IndexLaws
import Derived.Test.YthbfdajbajijeaaDoorBytesA
import Derived.Test.YthbfdajbajijeaaDoorWrapA
import Derived.Test.YthbfdajbajijeaaDoorFieldsP
import Derived.Test.YthbfdajbajijeaaDoorSpecR
import Derived.Test.YthbfdajbajijeaaDoorTrimP
import Derived.Deep.DeepCutAuto
import Derived.BigQuiet
/- Plain laws on places of a text in another one: the last one, the first one. No program is in sight. -/
namespace Go.Proofs.YthbfdajbajijeaaDoor

/-- t stands in s from i on. -/
def Occ (s t : List UInt8) (i : Nat) : Prop := ∃ a b, s = a ++ t ++ b ∧ a.length = i

theorem Occ.le {s t : List UInt8} {i : Nat} (h : Occ s t i) : i + t.length ≤ s.length := by
  obtain ⟨a, b, rfl, rfl⟩ := h
  simp only [List.length_append]; omega

theorem occ_at {s t : List UInt8} {i : Nat} (hi : i ≤ s.length) : Lib.occAt s t i = true ↔ Occ s t i := by
  unfold Lib.occAt
  rw [List.isPrefixOf_iff_prefix]
  constructor
  · rintro ⟨b, hb⟩
    exact ⟨s.take i, b, by rw [List.append_assoc, hb, List.take_append_drop], by simp; omega⟩
  · rintro ⟨a, b, rfl, rfl⟩
    exact ⟨b, by simp⟩

theorem occ_part {s t : List UInt8} {i : Nat} (hl : i + t.length ≤ s.length) : Occ s t i ↔ (s.drop i).take t.length = t := by
  constructor
  · rintro ⟨a, b, rfl, rfl⟩
    simp
  · intro h
    refine ⟨s.take i, s.drop (i + t.length), ?_, by simp; omega⟩
    conv => lhs; rw [← List.take_append_drop i s, ← List.take_append_drop t.length (s.drop i), h, List.drop_drop]
    rw [List.append_assoc]

def lastIx (s t : List UInt8) : Int := Lib.lastIndex s t
def firstIx (s t : List UInt8) : Int := Lib.index s t

theorem lastIx_cases (s t : List UInt8) : (lastIx s t = -1 ∧ ∀ i, ¬ Occ s t i) ∨ (∃ i : Nat, lastIx s t = i ∧ Occ s t i ∧ ∀ j, i < j → ¬ Occ s t j) := by
  unfold lastIx Lib.lastIndex
  by_cases hl : t.length ≤ s.length
  · rw [if_pos hl]
    rcases Lib.lastOcc_spec s t (s.length - t.length + 1) with ⟨e, hn⟩ | ⟨i, hi, e, ho, hn⟩
    · refine .inl ⟨e, fun i ho => ?_⟩
      have := ho.le
      have h := hn i (by omega)
      rw [(occ_at (by omega)).2 ho] at h
      cases h
    · refine .inr ⟨i, e, (occ_at (by omega)).1 ho, fun j hj hoj => ?_⟩
      have := hoj.le
      have h := hn j hj (by omega)
      rw [(occ_at (by omega)).2 hoj] at h
      cases h
  · rw [if_neg hl]
    exact .inl ⟨rfl, fun i ho => by have := ho.le; omega⟩

theorem lastIx_eq {s t : List UInt8} {i : Nat} (h1 : Occ s t i) (h2 : ∀ j, i < j → ¬ Occ s t j) : lastIx s t = i := by
  rcases lastIx_cases s t with ⟨_, hn⟩ | ⟨k, e, ho, hn⟩
  · exact (hn i h1).elim
  · have : ¬ i < k := fun h => h2 k h ho
    have : ¬ k < i := fun h => hn i h h1
    rw [e]; omega

theorem lastIx_none {s t : List UInt8} (h : ∀ i, ¬ Occ s t i) : lastIx s t = -1 := by
  rcases lastIx_cases s t with ⟨e, _⟩ | ⟨k, _, ho, _⟩
  · exact e
  · exact (h k ho).elim

theorem firstIx_none {s t : List UInt8} (h : ∀ i, ¬ Occ s t i) : firstIx s t = -1 := by
  refine Lib.index_none (fun j hj => ?_)
  cases hc : Lib.occAt s t j
  · rfl
  · exact (h j ((occ_at hj).1 hc)).elim

theorem firstIx_eq {s t : List UInt8} {i : Nat} (h1 : Occ s t i) (h2 : ∀ j, j < i → ¬ Occ s t j) : firstIx s t = i := by
  have hl := h1.le
  refine Lib.index_first (by omega) ((occ_at (by omega)).2 h1) (fun j hj => ?_)
  cases hc : Lib.occAt s t j
  · rfl
  · exact (h2 j hj ((occ_at (by omega)).1 hc)).elim

theorem firstIx_some {s t : List UInt8} {i : Nat} (h : Occ s t i) : 0 ≤ firstIx s t := by
  obtain ⟨k, hk, hn⟩ := exists_least ⟨i, h⟩
  rw [firstIx_eq hk (fun j hj ho => by have := hn j ho; omega)]
  omega

theorem Occ.drop {s t : List UInt8} {i k : Nat} (h : Occ (s.drop k) t i) (hk : k ≤ s.length) : Occ s t (k + i) := by
  obtain ⟨a, b, e, rfl⟩ := h
  refine ⟨s.take k ++ a, b, ?_, by simp; omega⟩
  conv => lhs; rw [← List.take_append_drop k s, e]
  simp

theorem occ_nil (s : List UInt8) (i : Nat) (hi : i ≤ s.length) : Occ s [] i := ⟨s.take i, s.drop i, by simp, by simp; omega⟩

theorem lastIx_nil (s : List UInt8) : lastIx s [] = s.length := lastIx_eq (occ_nil s _ (Nat.le_refl _)) (fun j hj ho => by have := ho.le; omega)

/-- What the law FnLastIndexLast asks where the text stands. -/
theorem lastIx_behind {s t : List UInt8} {i : Nat} (e : lastIx s t = i) (hne : i ≠ s.length) : t ≠ [] ∧ lastIx (s.drop (i + 1)) t = -1 := by
  rcases lastIx_cases s t with ⟨e', _⟩ | ⟨k, e', ho, hn⟩
  · omega
  · obtain rfl : k = i := by omega
    have hl := ho.le
    refine ⟨fun h => ?_, lastIx_none fun j hj => hn _ (by omega) (hj.drop (by omega))⟩
    subst h
    rw [lastIx_nil] at e
    omega

theorem lastIx_end {s t : List UInt8} {i : Nat} (e : lastIx s t = i) (he : i = s.length) : t = [] := by
  rcases lastIx_cases s t with ⟨e', _⟩ | ⟨k, e', ho, hn⟩
  · omega
  · obtain rfl : k = i := by omega
    have hl := ho.le
    exact List.eq_nil_of_length_eq_zero (by omega)

theorem lastIx_between (a t b : List UInt8) : (a.length : Int) ≤ lastIx (a ++ t ++ b) t ∧ lastIx (a ++ t ++ b) t ≤ a.length + b.length := by
  rcases lastIx_cases (a ++ t ++ b) t with ⟨_, hn⟩ | ⟨k, e, ho, hn⟩
  · exact (hn a.length ⟨a, b, rfl, rfl⟩).elim
  · have h1 : ¬ k < a.length := fun h => hn a.length h ⟨a, b, rfl, rfl⟩
    have h2 := ho.le
    simp at h2
    rw [e]; omega

theorem lastIx_last (a t : List UInt8) : lastIx (a ++ t) t = a.length :=
  lastIx_eq ⟨a, [], by simp, rfl⟩ (fun j hj ho => by have := ho.le; simp at this; omega)

theorem hasSuf_iff {s p : List UInt8} : hasSuf s p = true ↔ ∃ a, s = a ++ p := by
  constructor
  · intro h
    have hl := hasSuf_le h
    unfold hasSuf at h
    rw [decide_eq_true_eq] at h
    exact ⟨s.take (s.length - p.length), by conv => lhs; rw [← List.take_append_drop (s.length - p.length) s, h]⟩
  · rintro ⟨a, rfl⟩
    unfold hasSuf
    simp

theorem hasPre_iff {s p : List UInt8} : hasPre s p = true ↔ ∃ b, s = p ++ b := by
  constructor
  · intro h
    unfold hasPre at h
    rw [decide_eq_true_eq] at h
    exact ⟨s.drop p.length, by conv => lhs; rw [← List.take_append_drop p.length s, h]⟩
  · rintro ⟨b, rfl⟩
    unfold hasPre
    simp

/-- A text ends with what stands last at its end. -/
theorem suf_last (s p : List UInt8) : hasSuf s p = true ↔ 0 ≤ lastIx s p ∧ lastIx s p = (s.length : Int) - p.length := by
  rw [hasSuf_iff]
  constructor
  · rintro ⟨a, rfl⟩
    rw [lastIx_last]
    simp only [List.length_append]; omega
  · rintro ⟨h1, h2⟩
    rcases lastIx_cases s p with ⟨e, _⟩ | ⟨k, e, ⟨a, b, rfl, rfl⟩, _⟩
    · omega
    · rw [e] at h2
      simp at h2
      have : b = [] := List.eq_nil_of_length_eq_zero (by omega)
      subst this
      exact ⟨a, by simp⟩

/-- A suffix is a prefix, read from behind. -/
theorem suf_mirror (s p : List UInt8) : hasSuf s p = hasPre s.reverse p.reverse := by
  rw [Bool.eq_iff_iff, hasSuf_iff, hasPre_iff]
  constructor
  · rintro ⟨a, rfl⟩; exact ⟨a.reverse, by simp⟩
  · rintro ⟨b, hb⟩; exact ⟨b.reverse, by have := congrArg List.reverse hb; simpa using this⟩

theorem cut_mirror (s p : List UInt8) : cutSuf s p = (cutPre s.reverse p.reverse).reverse := by
  unfold cutSuf cutPre
  rw [suf_mirror]
  split
  · rw [List.length_reverse, List.drop_reverse, List.reverse_reverse]
  · simp

theorem cutPre_sum (a b : List UInt8) : cutPre (a ++ b) a = b := by
  unfold cutPre
  rw [if_pos (hasPre_iff.2 ⟨b, rfl⟩)]
  simp
theorem cutSuf_sum (a b : List UInt8) : cutSuf (a ++ b) b = a := by
  unfold cutSuf
  rw [if_pos (hasSuf_iff.2 ⟨a, rfl⟩)]
  simp
theorem cutPre_whole {s p : List UInt8} (h : hasPre s p = true) : p ++ cutPre s p = s := by
  obtain ⟨b, rfl⟩ := hasPre_iff.1 h
  rw [cutPre_sum]
theorem cutSuf_whole {s p : List UInt8} (h : hasSuf s p = true) : cutSuf s p ++ p = s := by
  obtain ⟨a, rfl⟩ := hasSuf_iff.1 h
  rw [cutSuf_sum]
theorem cutPre_not {s p : List UInt8} (h : hasPre s p = false) : cutPre s p = s := by simp [cutPre, h]
theorem cutSuf_not {s p : List UInt8} (h : hasSuf s p = false) : cutSuf s p = s := by simp [cutSuf, h]

/-- The bytes' first and last places. -/
theorem firstB_spec : ∀ (l : List UInt8) (b : UInt8), (firstB l b = -1 ∧ ∀ x ∈ l, x ≠ b) ∨ (∃ i : Nat, firstB l b = i ∧ ∃ h : i < l.length, l[i] = b ∧ ∀ x ∈ l.take i, x ≠ b)
  | [], b => .inl ⟨rfl, by simp⟩
  | x :: l, b => by
    by_cases h : x = b
    · exact .inr ⟨0, by simp [firstB, h], by simp, by simp [h], by simp⟩
    · rcases firstB_spec l b with ⟨e, hn⟩ | ⟨i, e, hi, hb, hn⟩
      · refine .inl ⟨by simp [firstB, h, e], ?_⟩
        intro y hy
        rcases List.mem_cons.1 hy with rfl | hy
        · exact h
        · exact hn y hy
      · refine .inr ⟨i + 1, by rw [firstB, if_neg h, e, if_neg (by omega)]; omega, by simpa using hi, by simpa using hb, ?_⟩
        intro y hy
        rw [List.take_succ_cons] at hy
        rcases List.mem_cons.1 hy with rfl | hy
        · exact h
        · exact hn y hy

theorem lastB_spec : ∀ (l : List UInt8) (b : UInt8), (lastB l b = -1 ∧ ∀ x ∈ l, x ≠ b) ∨ (∃ i : Nat, lastB l b = i ∧ ∃ h : i < l.length, l[i] = b ∧ ∀ x ∈ l.drop (i + 1), x ≠ b)
  | [], b => .inl ⟨rfl, by simp⟩
  | x :: l, b => by
    rcases lastB_spec l b with ⟨e, hn⟩ | ⟨i, e, hi, hb, hn⟩
    · by_cases h : x = b
      · exact .inr ⟨0, by simp [lastB, h, e], by simp, by simp [h], by simpa using hn⟩
      · refine .inl ⟨by simp [lastB, h, e], ?_⟩
        intro y hy
        rcases List.mem_cons.1 hy with rfl | hy
        · exact h
        · exact hn y hy
    · exact .inr ⟨i + 1, by rw [lastB, e, if_pos (by omega)]; omega, by simpa using hi, by simpa using hb, by simpa using hn⟩

theorem firstB_none' {l : List UInt8} {b : UInt8} (h : ∀ x ∈ l, x ≠ b) : firstB l b = -1 := by
  rcases firstB_spec l b with ⟨e, _⟩ | ⟨i, _, hi, hb, _⟩
  · exact e
  · exact (h _ (List.getElem_mem hi) hb).elim
theorem lastB_none' {l : List UInt8} {b : UInt8} (h : ∀ x ∈ l, x ≠ b) : lastB l b = -1 := by
  rcases lastB_spec l b with ⟨e, _⟩ | ⟨i, _, hi, hb, _⟩
  · exact e
  · exact (h _ (List.getElem_mem hi) hb).elim

theorem occ_one {l : List UInt8} {b : UInt8} {i : Nat} : Occ l [b] i ↔ ∃ h : i < l.length, l[i] = b := by
  constructor
  · rintro ⟨a, c, rfl, rfl⟩
    exact ⟨by simp, by simp⟩
  · rintro ⟨h, hb⟩
    refine ⟨l.take i, l.drop (i + 1), ?_, by simp; omega⟩
    rw [← hb, ← List.take_succ_eq_append_getElem h, List.take_append_drop]

theorem lastIx_one (l : List UInt8) (b : UInt8) : lastIx l [b] = lastB l b := by
  rcases lastB_spec l b with ⟨e, hn⟩ | ⟨i, e, hi, hb, hn⟩
  · rw [e]
    refine lastIx_none fun i ho => ?_
    obtain ⟨h, hb⟩ := occ_one.1 ho
    exact hn _ (List.getElem_mem h) hb
  · rw [e]
    refine lastIx_eq (occ_one.2 ⟨hi, hb⟩) fun j hj ho => ?_
    obtain ⟨h, hb'⟩ := occ_one.1 ho
    refine hn l[j] ?_ hb'
    rw [List.mem_iff_getElem]
    exact ⟨j - (i + 1), by simp; omega, by simp; congr 1; omega⟩

theorem cmpL_pre_iff (p r : List UInt8) : cmpL p (p ++ r) ≤ 0 ∧ (cmpL p (p ++ r) = 0 ↔ r = []) := by
  by_cases h : r = []
  · subst h; simp [cmpL_self]
  · rw [cmpL_pre _ _ h]; simp [h]
end Go.Proofs.YthbfdajbajijeaaDoor

/- Contracts of bytes.LastIndex and what it calls, of the thin package's LastIndex, and of the reference's lastIndex and index. Conditions: lengths below 2^62. -/
namespace Go.Proofs.YthbfdajbajijeaaDoor
open Go.RowKit Go.Lib


/-- 'string(s[a:b]) == string(sep)' in a quiet region: the two conversions and the cut, as equations. -/
theorem win_part (s : List UInt8) (i n : Nat) : part s i (i + n) = RK.win s i n := by
  unfold part RK.win
  rw [List.drop_take]
  congr 1
  omega

theorem occ_win (s t : List UInt8) (i : Nat) (h : i + t.length ≤ s.length) : Lib.occAt s t i = eqB (part s i (i + t.length)) t := by
  rw [win_part, RK.occAt_win _ _ _ h]
  rfl


theorem ext_occ (s t : ByteArray) (i : Nat) (h : i + t.size ≤ s.size) : ((s.extract i (i + t.size)).toList == t.toList) = true ↔ Occ s.data.toList t.data.toList i := by
  rw [ByteArray.toList_eq, ByteArray.toList_eq, Lib.extract_data, beq_iff_eq, occ_part (by simpa using h)]
  rw [show i + t.size - i = t.data.toList.length by rw [Nat.add_sub_cancel_left]; rfl]




theorem spec_index (s t : ByteArray) (w : World) (hs : s.size ≤ 2305843009213693952) (ht : t.size ≤ 2305843009213693952) :
    Calls Tryd.prog 65 #[.string s, .string t] w (RetV (.int .i64 (firstIx s.data.toList t.data.toList)) w) := by
  have ES := Lib.hid (show s.data.toList.length = s.size from rfl)
  have ET := Lib.hid (show t.data.toList.length = t.size from rfl)
  go_enter Tryd.func65, Tryd.ntmps65
  go_wp2_with fail
  go_loopg [5] (s.size + 1) (fun k i wr => ∃ j : Nat, j + k = s.size + 1 ∧ i = .int .i64 j ∧ (∀ i, i < j → ¬ Occ s.data.toList t.data.toList i) ∧ w = wr)
  case atStart => exact ⟨0, by omega, rfl, fun i hi => by omega, rfl⟩
  case round =>
    obtain ⟨j, hj, rfl, hn, rfl⟩ := hrel
    have HN := Lib.hid hn
    have HJ := Lib.hid hj
    clear hn
    by_cases hlt : j + t.size ≤ s.size
    · have hg : 0 < gk := by omega
      have hjs : j ≤ s.size := by omega
      have hx := ext_occ s t j hlt
      clear hj
      by_cases ho : Occ s.data.toList t.data.toList j
      · have e1 : ((s.extract j (j + t.size)).toList == t.toList) = true := hx.2 ho
        have HF := Lib.hid (firstIx_eq ho (fun i hi => HN.out i hi))
        clear hx ho
        go_wp2_with fail
        go_ret
        exact ⟨by rw [HF.out]; rfl, Ext.refl _⟩
      · have e1 : ((s.extract j (j + t.size)).toList == t.toList) = false := by rw [Bool.eq_false_iff]; exact fun h => ho (hx.1 h)
        have HO := Lib.hid ho
        clear hx ho
        go_wp2_with fail
        go_roundg (gk - 1)
        case measure => omega
        case rel =>
          refine ⟨j + 1, by have := HJ.out; omega, by go_num, fun i hi => ?_, rfl⟩
          by_cases h : i = j
          · subst h; exact HO.out
          · exact HN.out i (by omega)
    · have HF := Lib.hid (firstIx_none (s := s.data.toList) (t := t.data.toList) (fun i ho => by
        have h1 := ho.le
        by_cases h : i < j
        · exact HN.out i h ho
        · have := ES.out; have := ET.out; omega))
      have hjs : j ≤ s.size + 1 := by omega
      clear hj
      go_wp2_with fail
      go_ret
      exact ⟨by rw [HF.out]; rfl, Ext.refl _⟩

/-- t stands in s. -/
def hasIn (s t : List UInt8) : Bool := decide (0 ≤ firstIx s t)


theorem spec_TextContains (s t : ByteArray) (w : World) (hs : s.size ≤ 2305843009213693952) (ht : t.size ≤ 2305843009213693952) :
    Calls Tryd.prog 48 #[.string s, .string t] w (RetV (.bool (hasIn s.data.toList t.data.toList)) w) := by
  go_enter Tryd.func48, Tryd.ntmps48
  go_wp2_with (go_at_call 65; refine (spec_index _ _ _ hs ht).mono ?_)
  rintro _ w1 ⟨rfl, x1⟩
  go_wp2_with fail
  go_ret
  exact ⟨rfl, x1⟩
theorem spec_Contains (v1 v2 : Value) (l1 l2 : List UInt8) (w : World) (h1 : Bs w v1 l1) (h2 : Bs w v2 l2) (k1 : l1.length ≤ 2305843009213693952) (k2 : l2.length ≤ 2305843009213693952) :
    Calls Tryd.prog 23 #[v1, v2] w (RetV (.bool (hasIn l1 l2)) w) := by
  go_enter Tryd.func23, Tryd.ntmps23
  go_wp2_with (first
    | refine wpList_toString rfl 27 9 (.tmp 5) rfl 5 Tryd.underlying27 Tryd.underlying5 Tryd.underlying9 _ _ rfl h1 ?_
    | refine wpList_toString rfl 27 9 (.tmp 7) rfl 5 Tryd.underlying27 Tryd.underlying5 Tryd.underlying9 _ _ rfl h2 ?_
    | (go_at_call 48; refine (spec_TextContains ⟨l1.toArray⟩ ⟨l2.toArray⟩ _ k1 k2).mono ?_))
  rintro _ w1 ⟨rfl, x1⟩
  go_wp2_with fail
  go_ret
  exact ⟨rfl, x1⟩
end Go.Proofs.YthbfdajbajijeaaDoor

/- Plain theory of fields by a test: what each is. No program is in sight. -/
namespace Go.Proofs.YthbfdajbajijeaaDoor

theorem runsA_mem (p : Int → Bool) : ∀ (cs : List Ch) (cur : Option (List Ch)), (∀ r, cur = some r → r ≠ [] ∧ ∀ c ∈ r, p c.r = false) →
    ∀ r ∈ runsA p cur cs, r ≠ [] ∧ (∀ c ∈ r, p c.r = false) ∧ ∃ ps ds, cur.getD [] ++ cs = ps ++ r ++ ds := by
  intro cs
  induction cs with
  | nil =>
    intro cur h r hr
    cases cur with
    | none => simp [runsA] at hr
    | some r0 =>
      have hr : r = r0 := by simpa [runsA] using hr
      subst hr
      exact ⟨(h r rfl).1, (h r rfl).2, [], [], by simp⟩
  | cons c cs ih =>
    intro cur h r hr
    cases cur with
    | none =>
      rw [runsA] at hr
      cases hp : p c.r
      · rw [hp] at hr
        obtain ⟨h1, h2, ps, ds, h3⟩ := ih (some [c]) (by intro r e; cases e; exact ⟨by simp, by simp [hp]⟩) r hr
        exact ⟨h1, h2, ps, ds, by simpa using h3⟩
      · rw [hp] at hr
        obtain ⟨h1, h2, ps, ds, h3⟩ := ih none (by intro r e; cases e) r hr
        exact ⟨h1, h2, c :: ps, ds, by simpa using h3⟩
    | some r0 =>
      rw [runsA] at hr
      cases hp : p c.r
      · rw [hp] at hr
        obtain ⟨h1, h2, ps, ds, h3⟩ := ih (some (r0 ++ [c])) (by
          intro r e
          cases e
          refine ⟨by simp, fun x hx => ?_⟩
          rcases List.mem_append.1 hx with hx | hx
          · exact (h r0 rfl).2 x hx
          · rw [List.mem_singleton.1 hx]; exact hp) r hr
        exact ⟨h1, h2, ps, ds, by simpa using h3⟩
      · rw [hp] at hr
        rcases List.mem_cons.1 hr with hr | hr
        · subst hr
          exact ⟨(h r rfl).1, (h r rfl).2, [], c :: cs, by simp⟩
        · obtain ⟨h1, h2, ps, ds, h3⟩ := ih none (by intro r e; cases e) r hr
          exact ⟨h1, h2, r0 ++ c :: ps, ds, by
            have h3 : cs = ps ++ r ++ ds := by simpa using h3
            rw [h3]; simp⟩

theorem runsA_some (p : Int → Bool) : ∀ (cs : List Ch) (r : List Ch), runsA p (some r) cs ≠ []
  | [], _ => by simp [runsA]
  | c :: cs, r => by
    rw [runsA]
    cases hp : p c.r
    · simpa using runsA_some p cs (r ++ [c])
    · simp

theorem runsC_nil (p : Int → Bool) : ∀ cs : List Ch, runsC p cs = [] ↔ ∀ c ∈ cs, p c.r = true
  | [] => by simp [runsC, runsA]
  | c :: cs => by
    have ih := runsC_nil p cs
    unfold runsC at ih ⊢
    rw [runsA]
    cases hp : p c.r
    · simp [runsA_some, hp]
    · simp [ih, hp]

/-- A field is not empty, has no code point that satisfies the test, and stands in the text. -/
theorem field_each (p : Int → Bool) (l x : List UInt8) (h : x ∈ fieldsB p l) : x ≠ [] ∧ firstC p 0 (chunks x) = -1 ∧ hasIn l x = true := by
  unfold fieldsB at h
  obtain ⟨r, hr, rfl⟩ := List.mem_map.1 h
  obtain ⟨h1, h2, ps, ds, h3⟩ := runsA_mem p (chunks l) none (by intro r e; cases e) r hr
  have h3 : chunks l = ps ++ r ++ ds := by simpa using h3
  have hc := chunks_mid ps r ds l h3
  refine ⟨fun e => ?_, ?_, ?_⟩
  · rw [e, chunks_nil] at hc
    exact h1 hc.symm
  · rw [hc]; exact firstC_none p _ 0 h2
  · have hg := glue_chunks l
    rw [h3, glue_append, glue_append] at hg
    unfold hasIn
    rw [decide_eq_true_eq]
    exact firstIx_some (i := (glue ps).length) ⟨glue ps, glue ds, hg.symm, rfl⟩

/-- There is none just if all code points satisfy it. -/
theorem fields_none (rs : List Int) (nt : Bool) (l : List UInt8) : decide ((fieldsB (holdsT rs nt) l).length = 0) = decide (firstC (holdsT rs (!nt)) 0 (chunks l) < 0) := by
  have e : (fieldsB (holdsT rs nt) l).length = 0 ↔ firstC (holdsT rs (!nt)) 0 (chunks l) < 0 := by
    unfold fieldsB
    rw [List.length_map, List.length_eq_zero_iff, runsC_nil]
    rcases firstC_range (holdsT rs (!nt)) (chunks l) 0 with ⟨e, hn⟩ | ⟨i, hi, e, _, hp⟩
    · rw [e]
      refine ⟨fun _ => by omega, fun _ c hc => ?_⟩
      have := hn c hc
      rw [holdsT_not] at this
      cases h : holdsT rs nt c.r
      · rw [h] at this; cases this
      · rfl
    · rw [e]
      refine ⟨fun h => ?_, fun h => by omega⟩
      exfalso
      have h1 := h _ (List.getElem_mem hi)
      rw [holdsT_not, h1] at hp
      cases hp
  exact decide_eq_decide.2 e
end Go.Proofs.YthbfdajbajijeaaDoor

/- Plain theory: fields by a test, and trimming by it. No program is in sight. -/
namespace Go.Proofs.YthbfdajbajijeaaDoor

theorem runsA_front (p : Int → Bool) : ∀ (A X : List Ch), (∀ x ∈ A, p x.r = true) → runsA p none (A ++ X) = runsA p none X
  | [], _, _ => rfl
  | a :: A, X, h => by
    rw [List.cons_append, runsA, if_pos (h a (List.mem_cons_self ..))]
    exact runsA_front p A X (fun x hx => h x (List.mem_cons_of_mem _ hx))

theorem runsA_all (p : Int → Bool) (B : List Ch) (h : ∀ x ∈ B, p x.r = true) : ∀ cur, runsA p cur B = runsA p cur [] := by
  have h0 : runsA p none B = [] := by
    have := runsA_front p B [] h
    rw [List.append_nil] at this
    rw [this]; rfl
  intro cur
  cases cur with
  | none => rw [h0]; rfl
  | some r =>
    cases B with
    | nil => rfl
    | cons b B =>
      show runsA p (some r) (b :: B) = [r]
      rw [runsA, if_pos (h b (List.mem_cons_self ..))]
      have : runsA p none B = [] := by
        have := runsA_front p B [] (fun x hx => h x (List.mem_cons_of_mem _ hx))
        rw [List.append_nil] at this
        rw [this]; rfl
      rw [this]

theorem runsA_back (p : Int → Bool) (B : List Ch) (h : ∀ x ∈ B, p x.r = true) : ∀ (X : List Ch) (cur : Option (List Ch)), runsA p cur (X ++ B) = runsA p cur X := by
  intro X
  induction X with
  | nil => intro cur; exact runsA_all p B h cur
  | cons x X ih =>
    intro cur
    cases cur with
    | none => rw [List.cons_append, runsA, runsA, ih, ih]
    | some r => rw [List.cons_append, runsA, runsA, ih, ih]

theorem runsA_head (p : Int → Bool) : ∀ (cs r : List Ch), ∃ r' rest ds, runsA p (some r) cs = (r ++ r') :: rest ∧ cs = r' ++ ds
  | [], r => ⟨[], [], [], by simp [runsA], rfl⟩
  | c :: cs, r => by
    rw [runsA]
    cases hp : p c.r
    · obtain ⟨r', rest, ds, h1, h2⟩ := runsA_head p cs (r ++ [c])
      refine ⟨c :: r', rest, ds, ?_, by rw [h2]; rfl⟩
      simpa using h1
    · exact ⟨[], runsA p none cs, c :: cs, by simp, rfl⟩

theorem runsA_last (p : Int → Bool) (c : Ch) (hc : p c.r = false) : ∀ (cs : List Ch) (cur : Option (List Ch)), ∃ D r pre, runsA p cur (cs ++ [c]) = D ++ [r] ∧ cur.getD [] ++ cs ++ [c] = pre ++ r := by
  intro cs
  induction cs with
  | nil =>
    intro cur
    cases cur with
    | none => exact ⟨[], [c], [], by simp [runsA, hc], by simp⟩
    | some r0 => exact ⟨[], r0 ++ [c], [], by simp [runsA, hc], by simp⟩
  | cons x cs ih =>
    intro cur
    cases cur with
    | none =>
      rw [List.cons_append, runsA]
      cases hp : p x.r
      · obtain ⟨D, r, pre, h1, h2⟩ := ih (some [x])
        exact ⟨D, r, pre, by simpa using h1, by simpa using h2⟩
      · obtain ⟨D, r, pre, h1, h2⟩ := ih none
        exact ⟨D, r, x :: pre, by simpa using h1, by
          have h2 : cs ++ [c] = pre ++ r := by simpa using h2
          simp [h2]⟩
    | some r0 =>
      rw [List.cons_append, runsA]
      cases hp : p x.r
      · obtain ⟨D, r, pre, h1, h2⟩ := ih (some (r0 ++ [x]))
        exact ⟨D, r, pre, by simpa using h1, by simpa using h2⟩
      · obtain ⟨D, r, pre, h1, h2⟩ := ih none
        exact ⟨r0 :: D, r, r0 ++ x :: pre, by simpa using h1, by
          have h2 : cs ++ [c] = pre ++ r := by simpa using h2
          simp [h2]⟩

/-- What is trimmed has the same fields; there is none just if nothing is left; what is left begins with the first, and ends with the last one. -/
theorem fields_trim (p : Int → Bool) (l : List UInt8) : fieldsB p (tB p l) = fieldsB p l ∧
    ((fieldsB p l = [] ∧ tB p l = []) ∨ ∃ x L y D, fieldsB p l = x :: L ∧ fieldsB p l = D ++ [y] ∧ tB p l ≠ [] ∧ hasPre (tB p l) x = true ∧ hasSuf (tB p l) y = true) := by
  rcases trim_cases p l with ⟨h, _, _, ht⟩ | ⟨A, M, B, h⟩
  · have hf : fieldsB p l = [] := by
      unfold fieldsB
      rw [(runsC_nil p _).2 h]; rfl
    refine ⟨?_, .inl ⟨hf, ht⟩⟩
    rw [hf, ht]; rfl
  · have hr : runsC p (chunks l) = runsC p M := by
      unfold runsC
      rw [h.cut, runsA_back p B h.back, runsA_front p A M h.front]
    have hf : fieldsB p (tB p l) = fieldsB p l := by
      unfold fieldsB
      rw [h.t, h.cm, hr]
    refine ⟨hf, .inr ?_⟩
    obtain ⟨c, M', e, hc⟩ := h.first
    obtain ⟨M2, c2, e2, hc2⟩ := h.last
    have h1 : runsC p M = runsA p (some [c]) M' := by
      unfold runsC
      rw [e, runsA, hc]; rfl
    obtain ⟨r', rest, ds, h2, h3⟩ := runsA_head p M' [c]
    obtain ⟨D, r, pre, h4, h5⟩ := runsA_last p c2 hc2 M2 none
    have h6 : runsC p M = D ++ [r] := by unfold runsC; rw [e2]; exact h4
    have hM1 : M = ([c] ++ r') ++ ds := by rw [e, h3]; simp
    have hM2 : M = pre ++ r := by rw [e2]; simpa using h5
    refine ⟨glue ([c] ++ r'), rest.map glue, glue r, D.map glue, ?_, ?_, ?_, ?_, ?_⟩
    · unfold fieldsB
      rw [hr, h1, h2]; rfl
    · unfold fieldsB
      rw [hr, h6]; simp
    · rw [h.t]; exact h.ne
    · rw [h.t, hasPre_iff]
      exact ⟨glue ds, by rw [hM1, glue_append]⟩
    · rw [h.t, hasSuf_iff]
      exact ⟨glue pre, by rw [hM2, glue_append]⟩
end Go.Proofs.YthbfdajbajijeaaDoor

/- The walks of laws.texts, laws.same, laws.glued. -/
namespace Go.Proofs.YthbfdajbajijeaaDoor
open Go.RowKit

theorem info_string : (Tryd.prog.info? 9).map (fun i => (i.zero, i.size, i.bytes)) = some (some (.string ByteArray.empty), 1, 16) := by kernel_rfl
theorem ba_part (s : ByteArray) (a b : Nat) (_hab : a ≤ b) : s.extract a b = ⟨(part s.data.toList a b).toArray⟩ := by
  apply ByteArray.ext
  apply Array.ext'
  rw [Lib.extract_data]
  unfold part
  simp only [List.drop_take]

set_option maxRecDepth 100000 in
set_option maxHeartbeats 1000000 in
theorem laws_texts (v : Value) (L : List (List UInt8)) (w : World) (h : Ls w v L) (hn : L.length ≤ 4398046511104) :
    Calls Tryd.prog 17 #[v] w (RetSs w L) := by
  obtain ⟨a, c, rfl, p1, q1, e1⟩ := h.raw
  have hc1 : c ≤ 9223372036854775807 := by unfold maxLen at q1; omega
  have HC := Lib.hid e1
  clear e1 h q1
  go_enter Tryd.func17, Tryd.ntmps17
  go_wp2_with fail
  have g0 := owns_empty w.heap.size 9 1 w (Nat.le_refl _)
  have x0 : Ext w (w.alloc (.cells #[] 9)) := Ext.alloc _ _
  go_loopg [3, 9] L.length (fun k o i wr => ∃ j : Nat, j + k = L.length ∧ i = .int .i64 j ∧ wr.ownsRow w.heap.size 9 1 o (L.take j).length (svals (L.take j)) ∧ Ext w wr)
  case atStart => exact ⟨0, by omega, rfl, g0, x0⟩
  case round =>
    obtain ⟨j, hj, rfl, hgr, hx⟩ := hrel
    clear g0 x0
    have HJ := Lib.hid hj
    by_cases hlt : j < L.length
    · have hg : 0 < gk := by omega
      obtain ⟨b, o, u, rfl, c0, bu⟩ := HC.out j hlt
      replace c0 := hx.cell c0
      replace bu := bu.ext hx
      obtain ⟨M, hM⟩ : ∃ M, L.take j = M := ⟨_, rfl⟩
      have HTL := Lib.hid (show M.length = j by rw [← hM]; simp; omega)
      have HMM := Lib.hid hM
      rw [hM] at hgr
      clear hM
      obtain ⟨t, ht⟩ : ∃ t, L[j] = t := ⟨_, rfl⟩
      have HTT := Lib.hid ht
      rw [ht] at bu
      have HO := Lib.hid hgr
      have HX := Lib.hid hx
      have HBU := Lib.hid bu
      obtain ⟨au, cu, eu, _, _⟩ := bu.shape
      subst eu
      have O3 := Lib.hid (owns_keep hgr (Ext.alloc wr (.cells #[.string ⟨t.toArray⟩] 9)))
      have hsz : w.heap.size ≤ wr.heap.size := hx.size
      clear hj hgr hx ht bu
      go_wp2_with (first | refine wpList_toString rfl 27 9 _ rfl 5 Tryd.underlying27 Tryd.underlying5 Tryd.underlying9 _ _ rfl HBU.out ?_ | refine wpList_appendV rfl 31 _ _ rfl 9 1 16 _ Tryd.underlying31 info_string rfl (by omega) w.heap.size _ _ _ rfl O3.out _ 1 _ [_] rfl rfl (news_alloc _ _ _) (by simp [Value.oneCell']) (by rw [HTL.out]; omega) (by rw [HTL.out]; omega) (by simp; omega) ?_)
      intro v3 w3 h3 g3
      have B3 := owns_grown O3.out g3 (by simp; omega) (below_ext HX.out.below (Ext.alloc wr _) HX.out.size) (Nat.le_refl _)
      have H3 := Lib.hid h3
      have HB3 := Lib.hid B3
      clear B3 h3 g3
      go_wp2_with fail
      go_roundg (gk - 1)
      case measure => omega
      case rel =>
        refine ⟨j + 1, by have := HJ.out; omega, by go_num, ?_, ⟨HB3.out⟩⟩
        rw [List.take_succ_eq_append_getElem hlt, HMM.out, HTT.out]
        have := H3.out
        rw [List.length_append, List.length_singleton]
        simpa [svals] using this
    · have hje : j = L.length := by omega
      have HT := Lib.hid (show L.take j = L from List.take_of_length_le (by omega))
      have HG := Lib.hid hgr
      clear hj hgr
      go_wp2_with fail
      go_ret
      have := HG.out
      rw [HT.out] at this
      exact ⟨_, rfl, vs_of_owns this, hx⟩

set_option maxRecDepth 100000 in
set_option maxHeartbeats 1000000 in
theorem laws_same (v v' : Value) (L M : List (List UInt8)) (w : World) (h : Ss w v L) (h' : Ss w v' M) (he : L = M) :
    Calls Tryd.prog 16 #[v, v'] w fun e w' => e = .returned (.bool true) ∧ Ext w w' := by
  subst he
  obtain ⟨a, c, rfl, p1, q1, e1⟩ := h.raw
  obtain ⟨a', c', rfl, p2, q2, e2⟩ := h'.raw
  have hc1 : c ≤ 9223372036854775807 := by unfold maxLen at q1; omega
  have hc2 : c' ≤ 9223372036854775807 := by unfold maxLen at q2; omega
  have HC := Lib.hid e1
  have HC' := Lib.hid e2
  clear e1 h q1 e2 h' q2
  go_enter Tryd.func16, Tryd.ntmps16
  go_wp2_with fail
  go_loopg [5, 13] L.length (fun k _ i wr => ∃ j : Nat, j + k = L.length ∧ i = .int .i64 j ∧ Ext w wr)
  case atStart => exact ⟨0, by omega, rfl, Ext.refl _⟩
  case round =>
    obtain ⟨j, hj, rfl, hx⟩ := hrel
    have HJ := Lib.hid hj
    by_cases hlt : j < L.length
    · have hg : 0 < gk := by omega
      obtain ⟨b, o, rfl, c0⟩ := HC.out j hlt
      obtain ⟨b', o', rfl, c1⟩ := HC'.out j hlt
      replace c0 := hx.cell c0
      replace c1 := hx.cell c1
      obtain ⟨t, ht⟩ : ∃ t, L[j] = t := ⟨_, rfl⟩
      rw [ht] at c0 c1
      clear hj ht
      go_wp2_with fail
      go_quiet (fail)
      all_goals go_wp2_with fail
      all_goals go_roundg (gk - 1)
      all_goals first | omega | exact ⟨j + 1, by have := HJ.out; omega, by go_num, by first | exact hx | exact hx.trans (Ext.drewN _ _)⟩
    · clear hj
      go_wp2_with fail
      go_ret
      exact ⟨rfl, hx⟩

end Go.Proofs.YthbfdajbajijeaaDoor
