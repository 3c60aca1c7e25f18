/- Contracts of small functions of the thin package and of the reference: each hands its arguments on. Conditions: what the slices hold; lengths within 2^47 bytes where memory is made. -/
import Derived.Test.YtiahholgpbjjfaaDoorBytesA
import Derived.Test.YtiahholgpbjjfaaDoorCmp
import Derived.Test.YtiahholgpbjjfaaDoorExact
import Derived.Lib.BytesEntry
import Derived.Lib.IndexBytes
namespace Go.Proofs.YtiahholgpbjjfaaDoor
open Go.RowKit
set_option linter.unusedVariables false

theorem ba_extract (s : ByteArray) (a b : Nat) : s.extract a b = ⟨((s.data.toList.drop a).take (b - a)).toArray⟩ := by
  apply ByteArray.ext
  apply Array.ext'
  rw [Lib.extract_data]

theorem ba_from (s : ByteArray) (a : Nat) : s.extract a s.size = ⟨(s.data.toList.drop a).toArray⟩ := by
  apply ByteArray.ext
  apply Array.ext'
  rw [Lib.extract_to_end]

theorem ba_to (s : ByteArray) (b : Nat) : s.extract 0 b = ⟨(s.data.toList.take b).toArray⟩ := by
  apply ByteArray.ext
  apply Array.ext'
  rw [Lib.extract_data]
  simp

theorem cutPre_len (s p : List UInt8) : (cutPre s p).length ≤ s.length := by
  unfold cutPre
  split
  · simp
  · exact Nat.le_refl _

theorem cutSuf_len (s p : List UInt8) : (cutSuf s p).length ≤ s.length := by
  unfold cutSuf
  split
  · simp
  · exact Nat.le_refl _

theorem Bs.len {w : World} {v : Value} {l : List UInt8} (h : Bs w v l) : l.length ≤ 9223372036854775807 := by
  obtain ⟨a, c, _, h1, h2⟩ := h.shape
  unfold maxLen at h2; omega

theorem firstB_eq (l : List UInt8) (b : UInt8) : Lib.indexByte l b = firstB l b := by
  induction l with
  | nil => rfl
  | cons x l ih =>
    have hg := Lib.indexByte_ge l b
    rw [Lib.indexByte, firstB, ih] at *
    by_cases h : x = b
    · simp [h]
    · have h' : (x == b) = false := by simpa using h
      simp only [h', Bool.false_eq_true, if_false, if_neg h]
      rw [ih] at hg
      by_cases h1 : firstB l b = -1
      · simp [h1]
      · rw [if_neg (by simpa using h1), if_neg (by omega)]





theorem impl_Equal (v1 v2 : Value) (l1 l2 : List UInt8) (w : World) (h1 : Bs w v1 l1) (h2 : Bs w v2 l2) :
    Calls Tryd.prog 14 #[v1, v2] w fun e w' => e = .returned (.bool (eqB l1 l2)) ∧ w = w' := by
  go_enter Tryd.func14, Tryd.ntmps14
  go_wp2_with (go_at_call 23; refine (bytes_Equal _ _ _ _ _ h1 h2).mono ?_; rintro e w' ⟨rfl, rfl⟩)
  go_ret
  exact ⟨rfl, rfl⟩





/-- A call's answer: a new slice of the bytes l, and a bool. -/
def RetOwnB (w : World) (l : List UInt8) (b : Bool) (e : Ending) (w' : World) : Prop := ∃ v, e = .returned (.tuple #[v, .bool b]) ∧ Own w.heap.size w'.heap.size w' v l ∧ Ext w w'























end Go.Proofs.YtiahholgpbjjfaaDoor
