/- Contracts of small functions of the thin package and of the reference: each hands its arguments on. Conditions: what the slices hold; lengths within 2^47 bytes where memory is made. -/
import Derived.Test.YtlgoeiofachohaaBytesA
import Derived.Test.YtlgoeiofachohaaCmp
import Derived.Test.YtlgoeiofachohaaExact
import Derived.Lib.BytesEntry
import Derived.Lib.IndexBytes
namespace Go.Proofs.Ytlgoeiofachohaa
open Go.RowKit
set_option linter.unusedVariables false

theorem ba_extract (s : ByteArray) (a b : Nat) : s.extract a b = ⟨((s.data.toList.drop a).take (b - a)).toArray⟩ := by
  apply ByteArray.ext
  apply Array.ext'
  rw [Lib.extract_data]

theorem ba_from (s : ByteArray) (a : Nat) : s.extract a s.size = ⟨(s.data.toList.drop a).toArray⟩ := by
  apply ByteArray.ext
  apply Array.ext'
  rw [Lib.extract_to_end]

theorem ba_to (s : ByteArray) (b : Nat) : s.extract 0 b = ⟨(s.data.toList.take b).toArray⟩ := by
  apply ByteArray.ext
  apply Array.ext'
  rw [Lib.extract_data]
  simp

theorem cutPre_len (s p : List UInt8) : (cutPre s p).length ≤ s.length := by
  unfold cutPre
  split
  · simp
  · exact Nat.le_refl _

theorem cutSuf_len (s p : List UInt8) : (cutSuf s p).length ≤ s.length := by
  unfold cutSuf
  split
  · simp
  · exact Nat.le_refl _

theorem Bs.len {w : World} {v : Value} {l : List UInt8} (h : Bs w v l) : l.length ≤ 9223372036854775807 := by
  obtain ⟨a, c, _, h1, h2⟩ := h.shape
  unfold maxLen at h2; omega

theorem firstB_eq (l : List UInt8) (b : UInt8) : Lib.indexByte l b = firstB l b := by
  induction l with
  | nil => rfl
  | cons x l ih =>
    have hg := Lib.indexByte_ge l b
    rw [Lib.indexByte, firstB, ih] at *
    by_cases h : x = b
    · simp [h]
    · have h' : (x == b) = false := by simpa using h
      simp only [h', Bool.false_eq_true, if_false, if_neg h]
      rw [ih] at hg
      by_cases h1 : firstB l b = -1
      · simp [h1]
      · rw [if_neg (by simpa using h1), if_neg (by omega)]
theorem bytes_IndexByte (v1 : Value) (l1 : List UInt8) (b : UInt8) (w : World) (h1 : Bs w v1 l1) :
    Calls Try.prog 36 #[v1, .int .u8 (b.toNat : Int)] w fun e w' => e = .returned (.int .i64 (firstB l1 b)) ∧ w = w' := by
  have hrun : (Extern.BytealgIndexByte.indexByte #[v1, .int .u8 (b.toNat : Int)]).run Try.prog w = .ok (.int .i64 (firstB l1 b)) w := by
    have hs := Lib.run_indexByteString (P := Try.prog) ⟨l1.toArray⟩ (b.toNat : Int) w
    change Sem.run Try.prog (do
      let bs ← Extern.Bytes.bytesOf (.string ⟨l1.toArray⟩)
      let c ← Extern.Bytes.asByte (.int .u8 (b.toNat : Int))
      match (List.range bs.size).find? fun i => bs[i]! == c with
      | some i => pure (goInt i)
      | none => pure (goInt (-1))) w = _ at hs
    change Sem.run Try.prog (do
      let bs ← Extern.Bytes.bytesOf v1
      let c ← Extern.Bytes.asByte (.int .u8 (b.toNat : Int))
      match (List.range bs.size).find? fun i => bs[i]! == c with
      | some i => pure (goInt i)
      | none => pure (goInt (-1))) w = _
    rw [← firstB_eq]
    have e1 : ((b.toNat : Int)).toNat.toUInt8 = b := by simp
    simp only [Extern.Bytes.bytesOf, Sem.run_bind, Sem.run_pure, Result.andThen, e1] at hs
    simp only [Sem.run_bind, run_bytesOf h1, Result.andThen]
    exact hs
  go_enter Try.func36, Try.ntmps36
  go_wp2_with (refine wpList_extern2 rfl 48 _ _ _ rfl Try.func48 (by kernel_rfl) (by kernel_rfl) (by kernel_rfl) (e := Extern.BytealgIndexByte.indexByte) (by kernel_rfl) v1 _ rfl rfl _ _ hrun ?_)
  go_ret
  exact ⟨rfl, rfl⟩



theorem impl_IndexByte (v1 : Value) (l1 : List UInt8) (b : UInt8) (w : World) (h1 : Bs w v1 l1) :
    Calls Try.prog 20 #[v1, .int .u8 (b.toNat : Int)] w fun e w' => e = .returned (.int .i64 (firstB l1 b)) ∧ w = w' := by
  go_enter Try.func20, Try.ntmps20
  go_wp2_with (go_at_call 36; refine (bytes_IndexByte _ _ _ _ h1).mono ?_; rintro e w' ⟨rfl, rfl⟩)
  go_ret
  exact ⟨rfl, rfl⟩



theorem impl_HasPrefix (v1 v2 : Value) (l1 l2 : List UInt8) (w : World) (h1 : Bs w v1 l1) (h2 : Bs w v2 l2) :
    Calls Try.prog 26 #[v1, v2] w fun e w' => e = .returned (.bool (hasPre l1 l2)) ∧ w = w' := by
  go_enter Try.func26, Try.ntmps26
  go_wp2_with (go_at_call 41; refine (bytes_HasPrefix _ _ _ _ _ h1 h2).mono ?_; rintro e w' ⟨rfl, rfl⟩)
  go_ret
  exact ⟨rfl, rfl⟩

theorem impl_HasSuffix (v1 v2 : Value) (l1 l2 : List UInt8) (w : World) (h1 : Bs w v1 l1) (h2 : Bs w v2 l2) :
    Calls Try.prog 27 #[v1, v2] w fun e w' => e = .returned (.bool (hasSuf l1 l2)) ∧ w = w' := by
  go_enter Try.func27, Try.ntmps27
  go_wp2_with (go_at_call 42; refine (bytes_HasSuffix _ _ _ _ _ h1 h2).mono ?_; rintro e w' ⟨rfl, rfl⟩)
  go_ret
  exact ⟨rfl, rfl⟩



/-- A call's answer: a new slice of the bytes l, and a bool. -/
def RetOwnB (w : World) (l : List UInt8) (b : Bool) (e : Ending) (w' : World) : Prop := ∃ v, e = .returned (.tuple #[v, .bool b]) ∧ Own w.heap.size w'.heap.size w' v l ∧ Ext w w'























end Go.Proofs.Ytlgoeiofachohaa
