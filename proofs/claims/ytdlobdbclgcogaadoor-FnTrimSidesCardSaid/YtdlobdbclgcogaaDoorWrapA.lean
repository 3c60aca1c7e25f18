/- Contracts of small functions of the thin package and of the reference: each hands its arguments on. Conditions: what the slices hold; lengths within 2^47 bytes where memory is made. -/
import Derived.Test.YtdlobdbclgcogaaDoorBytesA
import Derived.Test.YtdlobdbclgcogaaDoorCmp
import Derived.Test.YtdlobdbclgcogaaDoorExact
import Derived.Lib.BytesEntry
import Derived.Lib.IndexBytes
namespace Go.Proofs.YtdlobdbclgcogaaDoor
open Go.RowKit
set_option linter.unusedVariables false

theorem ba_extract (s : ByteArray) (a b : Nat) : s.extract a b = ⟨((s.data.toList.drop a).take (b - a)).toArray⟩ := by
  apply ByteArray.ext
  apply Array.ext'
  rw [Lib.extract_data]

theorem ba_from (s : ByteArray) (a : Nat) : s.extract a s.size = ⟨(s.data.toList.drop a).toArray⟩ := by
  apply ByteArray.ext
  apply Array.ext'
  rw [Lib.extract_to_end]

theorem ba_to (s : ByteArray) (b : Nat) : s.extract 0 b = ⟨(s.data.toList.take b).toArray⟩ := by
  apply ByteArray.ext
  apply Array.ext'
  rw [Lib.extract_data]
  simp

theorem cutPre_len (s p : List UInt8) : (cutPre s p).length ≤ s.length := by
  unfold cutPre
  split
  · simp
  · exact Nat.le_refl _

theorem cutSuf_len (s p : List UInt8) : (cutSuf s p).length ≤ s.length := by
  unfold cutSuf
  split
  · simp
  · exact Nat.le_refl _

theorem Bs.len {w : World} {v : Value} {l : List UInt8} (h : Bs w v l) : l.length ≤ 9223372036854775807 := by
  obtain ⟨a, c, _, h1, h2⟩ := h.shape
  unfold maxLen at h2; omega

theorem firstB_eq (l : List UInt8) (b : UInt8) : Lib.indexByte l b = firstB l b := by
  induction l with
  | nil => rfl
  | cons x l ih =>
    have hg := Lib.indexByte_ge l b
    rw [Lib.indexByte, firstB, ih] at *
    by_cases h : x = b
    · simp [h]
    · have h' : (x == b) = false := by simpa using h
      simp only [h', Bool.false_eq_true, if_false, if_neg h]
      rw [ih] at hg
      by_cases h1 : firstB l b = -1
      · simp [h1]
      · rw [if_neg (by simpa using h1), if_neg (by omega)]










/-- A call's answer: a new slice of the bytes l, and a bool. -/
def RetOwnB (w : World) (l : List UInt8) (b : Bool) (e : Ending) (w' : World) : Prop := ∃ v, e = .returned (.tuple #[v, .bool b]) ∧ Own w.heap.size w'.heap.size w' v l ∧ Ext w w'



theorem spec_begins (s t : ByteArray) (w : World) (hs : s.size ≤ 9223372036854775807) (ht : t.size ≤ 9223372036854775807) :
    Calls Tryd.prog 83 #[.string s, .string t] w fun e w' => e = .returned (.bool (hasPre s.data.toList t.data.toList)) ∧ w = w' := by
  by_cases hl : t.size ≤ s.size
  · have d : decide (t.size ≤ s.size) = true := by simpa using hl
    have hfin : ((s.extract 0 t.size).toList == t.toList) = hasPre s.data.toList t.data.toList := by
      rw [ByteArray.toList_eq, ByteArray.toList_eq, Lib.extract_data, Bool.beq_eq_decide_eq]
      rfl
    have HF := Lib.hid hfin
    clear hfin
    go_enter Tryd.func83, Tryd.ntmps83
    go_wp2_with fail
    go_ret
    exact ⟨by rw [← HF.out]; rfl, rfl⟩
  · have d : decide (t.size ≤ s.size) = false := by simpa using hl
    have HF := Lib.hid (hasPre_short (s := s.data.toList) (p := t.data.toList) (show s.size < t.size by omega))
    go_enter Tryd.func83, Tryd.ntmps83
    go_wp2_with fail
    go_ret
    exact ⟨by rw [HF.out]; rfl, rfl⟩
theorem spec_ends (s t : ByteArray) (w : World) (hs : s.size ≤ 9223372036854775807) (ht : t.size ≤ 9223372036854775807) :
    Calls Tryd.prog 82 #[.string s, .string t] w fun e w' => e = .returned (.bool (hasSuf s.data.toList t.data.toList)) ∧ w = w' := by
  by_cases hl : t.size ≤ s.size
  · have d : decide (t.size ≤ s.size) = true := by simpa using hl
    have hfin : ((s.extract (s.size - t.size) s.size).toList == t.toList) = hasSuf s.data.toList t.data.toList := by
      rw [ByteArray.toList_eq, ByteArray.toList_eq, Lib.extract_to_end, Bool.beq_eq_decide_eq]
      rfl
    have HF := Lib.hid hfin
    clear hfin
    go_enter Tryd.func82, Tryd.ntmps82
    go_wp2_with fail
    go_ret
    exact ⟨by rw [← HF.out]; rfl, rfl⟩
  · have d : decide (t.size ≤ s.size) = false := by simpa using hl
    have HF := Lib.hid (hasSuf_short (s := s.data.toList) (p := t.data.toList) (show s.size < t.size by omega))
    go_enter Tryd.func82, Tryd.ntmps82
    go_wp2_with fail
    go_ret
    exact ⟨by rw [HF.out]; rfl, rfl⟩


theorem spec_TextHasPrefix (s t : ByteArray) (w : World) (hs : s.size ≤ 9223372036854775807) (ht : t.size ≤ 9223372036854775807) :
    Calls Tryd.prog 57 #[.string s, .string t] w fun e w' => e = .returned (.bool (hasPre s.data.toList t.data.toList)) ∧ w = w' := by
  go_enter Tryd.func57, Tryd.ntmps57
  go_wp2_with (go_at_call 83; refine (spec_begins _ _ _ hs ht).mono ?_; rintro e w' ⟨rfl, rfl⟩)
  go_ret
  exact ⟨rfl, rfl⟩

theorem spec_TextHasSuffix (s t : ByteArray) (w : World) (hs : s.size ≤ 9223372036854775807) (ht : t.size ≤ 9223372036854775807) :
    Calls Tryd.prog 56 #[.string s, .string t] w fun e w' => e = .returned (.bool (hasSuf s.data.toList t.data.toList)) ∧ w = w' := by
  go_enter Tryd.func56, Tryd.ntmps56
  go_wp2_with (go_at_call 82; refine (spec_ends _ _ _ hs ht).mono ?_; rintro e w' ⟨rfl, rfl⟩)
  go_ret
  exact ⟨rfl, rfl⟩








theorem spec_HasPrefix (v1 v2 : Value) (l1 l2 : List UInt8) (w : World) (h1 : Bs w v1 l1) (h2 : Bs w v2 l2) :
    Calls Tryd.prog 31 #[v1, v2] w fun e w' => e = .returned (.bool (hasPre l1 l2)) ∧ w = w' := by
  go_enter Tryd.func31, Tryd.ntmps31
  go_wp2_with (first
    | refine wpList_toString rfl 24 9 (.tmp 5) rfl 5 Tryd.underlying24 Tryd.underlying5 Tryd.underlying9 _ _ rfl h1 ?_
    | refine wpList_toString rfl 24 9 (.tmp 7) rfl 5 Tryd.underlying24 Tryd.underlying5 Tryd.underlying9 _ _ rfl h2 ?_
    | (go_at_call 57; refine (spec_TextHasPrefix ⟨l1.toArray⟩ ⟨l2.toArray⟩ _ h1.len h2.len).mono ?_; rintro e w' ⟨rfl, rfl⟩))
  go_ret
  exact ⟨rfl, rfl⟩

theorem spec_HasSuffix (v1 v2 : Value) (l1 l2 : List UInt8) (w : World) (h1 : Bs w v1 l1) (h2 : Bs w v2 l2) :
    Calls Tryd.prog 30 #[v1, v2] w fun e w' => e = .returned (.bool (hasSuf l1 l2)) ∧ w = w' := by
  go_enter Tryd.func30, Tryd.ntmps30
  go_wp2_with (first
    | refine wpList_toString rfl 24 9 (.tmp 5) rfl 5 Tryd.underlying24 Tryd.underlying5 Tryd.underlying9 _ _ rfl h1 ?_
    | refine wpList_toString rfl 24 9 (.tmp 7) rfl 5 Tryd.underlying24 Tryd.underlying5 Tryd.underlying9 _ _ rfl h2 ?_
    | (go_at_call 56; refine (spec_TextHasSuffix ⟨l1.toArray⟩ ⟨l2.toArray⟩ _ h1.len h2.len).mono ?_; rintro e w' ⟨rfl, rfl⟩))
  go_ret
  exact ⟨rfl, rfl⟩








end Go.Proofs.YtdlobdbclgcogaaDoor
