/- Contracts of small functions of the thin package and of the reference: each hands its arguments on. Conditions: what the slices hold; lengths within 2^47 bytes where memory is made. -/
import Derived.Test.YtlklmolcficdaaaBytesA
import Derived.Test.YtlklmolcficdaaaCmp
import Derived.Test.YtlklmolcficdaaaExact
import Derived.Lib.BytesEntry
import Derived.Lib.IndexBytes
namespace Go.Proofs.Ytlklmolcficdaaa
open Go.RowKit
set_option linter.unusedVariables false

theorem ba_extract (s : ByteArray) (a b : Nat) : s.extract a b = ⟨((s.data.toList.drop a).take (b - a)).toArray⟩ := by
  apply ByteArray.ext
  apply Array.ext'
  rw [Lib.extract_data]

theorem ba_from (s : ByteArray) (a : Nat) : s.extract a s.size = ⟨(s.data.toList.drop a).toArray⟩ := by
  apply ByteArray.ext
  apply Array.ext'
  rw [Lib.extract_to_end]

theorem ba_to (s : ByteArray) (b : Nat) : s.extract 0 b = ⟨(s.data.toList.take b).toArray⟩ := by
  apply ByteArray.ext
  apply Array.ext'
  rw [Lib.extract_data]
  simp

theorem cutPre_len (s p : List UInt8) : (cutPre s p).length ≤ s.length := by
  unfold cutPre
  split
  · simp
  · exact Nat.le_refl _

theorem cutSuf_len (s p : List UInt8) : (cutSuf s p).length ≤ s.length := by
  unfold cutSuf
  split
  · simp
  · exact Nat.le_refl _

theorem Bs.len {w : World} {v : Value} {l : List UInt8} (h : Bs w v l) : l.length ≤ 9223372036854775807 := by
  obtain ⟨a, c, _, h1, h2⟩ := h.shape
  unfold maxLen at h2; omega

theorem firstB_eq (l : List UInt8) (b : UInt8) : Lib.indexByte l b = firstB l b := by
  induction l with
  | nil => rfl
  | cons x l ih =>
    have hg := Lib.indexByte_ge l b
    rw [Lib.indexByte, firstB, ih] at *
    by_cases h : x = b
    · simp [h]
    · have h' : (x == b) = false := by simpa using h
      simp only [h', Bool.false_eq_true, if_false, if_neg h]
      rw [ih] at hg
      by_cases h1 : firstB l b = -1
      · simp [h1]
      · rw [if_neg (by simpa using h1), if_neg (by omega)]
theorem bytes_IndexByte (v1 : Value) (l1 : List UInt8) (b : UInt8) (w : World) (h1 : Bs w v1 l1) :
    Calls Try.prog 52 #[v1, .int .u8 (b.toNat : Int)] w fun e w' => e = .returned (.int .i64 (firstB l1 b)) ∧ w = w' := by
  have hrun : (Extern.BytealgIndexByte.indexByte #[v1, .int .u8 (b.toNat : Int)]).run Try.prog w = .ok (.int .i64 (firstB l1 b)) w := by
    have hs := Lib.run_indexByteString (P := Try.prog) ⟨l1.toArray⟩ (b.toNat : Int) w
    change Sem.run Try.prog (do
      let bs ← Extern.Bytes.bytesOf (.string ⟨l1.toArray⟩)
      let c ← Extern.Bytes.asByte (.int .u8 (b.toNat : Int))
      match (List.range bs.size).find? fun i => bs[i]! == c with
      | some i => pure (goInt i)
      | none => pure (goInt (-1))) w = _ at hs
    change Sem.run Try.prog (do
      let bs ← Extern.Bytes.bytesOf v1
      let c ← Extern.Bytes.asByte (.int .u8 (b.toNat : Int))
      match (List.range bs.size).find? fun i => bs[i]! == c with
      | some i => pure (goInt i)
      | none => pure (goInt (-1))) w = _
    rw [← firstB_eq]
    have e1 : ((b.toNat : Int)).toNat.toUInt8 = b := by simp
    simp only [Extern.Bytes.bytesOf, Sem.run_bind, Sem.run_pure, Result.andThen, e1] at hs
    simp only [Sem.run_bind, run_bytesOf h1, Result.andThen]
    exact hs
  go_enter Try.func52, Try.ntmps52
  go_wp2_with (refine wpList_extern2 rfl 66 _ _ _ rfl Try.func66 (by kernel_rfl) (by kernel_rfl) (by kernel_rfl) (e := Extern.BytealgIndexByte.indexByte) (by kernel_rfl) v1 _ rfl rfl _ _ hrun ?_)
  go_ret
  exact ⟨rfl, rfl⟩

theorem bytealg_LastIndexByte (v1 : Value) (l1 : List UInt8) (b : UInt8) (w : World) (h1 : Bs w v1 l1) :
    Calls Try.prog 63 #[v1, .int .u8 (b.toNat : Int)] w fun e w' => e = .returned (.int .i64 (lastB l1 b)) ∧ w = w' := by
  have hlen := h1.len
  obtain ⟨a, c, rfl, k1, k2, k3⟩ := h1
  clear k2
  go_enter Try.func63, Try.ntmps63
  go_wp2_with fail
  go_loopg [5] l1.length (fun k i wr => k ≤ l1.length ∧ i = .int .i64 ((k : Int) - 1) ∧ (∀ i (hs : i < l1.length), k ≤ i → l1[i]'hs ≠ b) ∧ w = wr)
  case atStart => exact ⟨Nat.le_refl _, rfl, fun i h1 h2 => by omega, rfl⟩
  case round =>
    obtain ⟨hk, rfl, hn, rfl⟩ := hrel
    have HN := Lib.hid hn
    clear hn
    by_cases hlt : 0 < gk
    · obtain ⟨j, rfl⟩ : ∃ j, gk = j + 1 := ⟨gk - 1, by omega⟩
      have ej : (((j + 1 : Nat) : Int) - 1) = (j : Int) := by omega
      rw [ej]
      clear ej
      have hj : j < l1.length := by omega
      rcases k3 with k3 | ⟨bb, o, rfl, hc⟩
      · subst k3; simp at hj
      have g := hc j hj
      clear hc
      by_cases he : l1[j] = b
      · have e1 : ((l1[j].toNat : Int) == (b.toNat : Int)) = true := by rw [he]; simp
        have hfin : lastB l1 b = j := lastB_at _ _ j hj (fun i hi h => HN.out i hi (by omega)) he
        have HF := Lib.hid hfin
        clear he hfin HN
        go_wp2_with fail
        go_ret
        exact ⟨by rw [HF.out]; rfl, rfl⟩
      · have e1 : ((l1[j].toNat : Int) == (b.toNat : Int)) = false := by rw [beq_eq_false_iff_ne]; exact fun h => he (u8_int.1 h)
        have HE := Lib.hid he
        clear he
        go_wp2_with fail
        go_roundg j
        case measure => omega
        case rel =>
          refine ⟨by omega, rfl, fun i hi h => ?_, rfl⟩
          by_cases hh : i = j
          · subst hh; exact HE.out
          · exact HN.out i hi (by omega)
    · obtain rfl : gk = 0 := by omega
      have hfin : lastB l1 b = -1 := lastB_none _ _ (fun i hi => HN.out i hi (by omega))
      have HF := Lib.hid hfin
      clear hfin HN
      go_wp2_with fail
      go_ret
      exact ⟨by rw [HF.out]; rfl, rfl⟩

theorem bytes_LastIndexByte (v1 : Value) (l1 : List UInt8) (b : UInt8) (w : World) (h1 : Bs w v1 l1) :
    Calls Try.prog 53 #[v1, .int .u8 (b.toNat : Int)] w fun e w' => e = .returned (.int .i64 (lastB l1 b)) ∧ w = w' := by
  go_enter Try.func53, Try.ntmps53
  go_wp2_with (go_at_call 63; refine (bytealg_LastIndexByte _ _ _ _ h1).mono ?_; rintro e w' ⟨rfl, rfl⟩)
  go_ret
  exact ⟨rfl, rfl⟩

theorem impl_IndexByte (v1 : Value) (l1 : List UInt8) (b : UInt8) (w : World) (h1 : Bs w v1 l1) :
    Calls Try.prog 30 #[v1, .int .u8 (b.toNat : Int)] w fun e w' => e = .returned (.int .i64 (firstB l1 b)) ∧ w = w' := by
  go_enter Try.func30, Try.ntmps30
  go_wp2_with (go_at_call 52; refine (bytes_IndexByte _ _ _ _ h1).mono ?_; rintro e w' ⟨rfl, rfl⟩)
  go_ret
  exact ⟨rfl, rfl⟩

theorem impl_LastIndexByte (v1 : Value) (l1 : List UInt8) (b : UInt8) (w : World) (h1 : Bs w v1 l1) :
    Calls Try.prog 31 #[v1, .int .u8 (b.toNat : Int)] w fun e w' => e = .returned (.int .i64 (lastB l1 b)) ∧ w = w' := by
  go_enter Try.func31, Try.ntmps31
  go_wp2_with (go_at_call 53; refine (bytes_LastIndexByte _ _ _ _ h1).mono ?_; rintro e w' ⟨rfl, rfl⟩)
  go_ret
  exact ⟨rfl, rfl⟩


theorem impl_HasPrefix (v1 v2 : Value) (l1 l2 : List UInt8) (w : World) (h1 : Bs w v1 l1) (h2 : Bs w v2 l2) :
    Calls Try.prog 15 #[v1, v2] w fun e w' => e = .returned (.bool (hasPre l1 l2)) ∧ w = w' := by
  go_enter Try.func15, Try.ntmps15
  go_wp2_with (go_at_call 40; refine (bytes_HasPrefix _ _ _ _ _ h1 h2).mono ?_; rintro e w' ⟨rfl, rfl⟩)
  go_ret
  exact ⟨rfl, rfl⟩

theorem impl_HasSuffix (v1 v2 : Value) (l1 l2 : List UInt8) (w : World) (h1 : Bs w v1 l1) (h2 : Bs w v2 l2) :
    Calls Try.prog 22 #[v1, v2] w fun e w' => e = .returned (.bool (hasSuf l1 l2)) ∧ w = w' := by
  go_enter Try.func22, Try.ntmps22
  go_wp2_with (go_at_call 47; refine (bytes_HasSuffix _ _ _ _ _ h1 h2).mono ?_; rintro e w' ⟨rfl, rfl⟩)
  go_ret
  exact ⟨rfl, rfl⟩

theorem impl_TrimPrefix' (v1 v2 : Value) (l1 l2 : List UInt8) (w : World) (h1 : Bs w v1 l1) (h2 : Bs w v2 l2) (hr : (cutPre l1 l2).length ≤ 140737488355328) :
    Calls Try.prog 18 #[v1, v2] w (RetOwn w (cutPre l1 l2)) := by
  go_enter Try.func18, Try.ntmps18
  go_wp2_with (go_at_call 44; refine (bytes_TrimPrefix _ _ _ _ _ h1 h2).mono ?_)
  rintro _ w3 ⟨v3, rfl, b3, x3⟩
  go_wp2_with (go_at_call 43; refine (impl_fresh _ _ _ b3 hr).mono ?_)
  rintro _ w4 ⟨v4, rfl, o4, x4⟩
  go_wp2_with fail
  go_ret
  exact ⟨_, rfl, o4.mono x3.size (Nat.le_refl _), x3.trans x4⟩
theorem impl_TrimPrefix (v1 v2 : Value) (l1 l2 : List UInt8) (w : World) (h1 : Bs w v1 l1) (h2 : Bs w v2 l2) (hl : l1.length ≤ 140737488355328) :
    Calls Try.prog 18 #[v1, v2] w (RetOwn w (cutPre l1 l2)) :=
  impl_TrimPrefix' v1 v2 l1 l2 w h1 h2 (Nat.le_trans (cutPre_len _ _) hl)

theorem impl_TrimSuffix' (v1 v2 : Value) (l1 l2 : List UInt8) (w : World) (h1 : Bs w v1 l1) (h2 : Bs w v2 l2) (hr : (cutSuf l1 l2).length ≤ 140737488355328) :
    Calls Try.prog 23 #[v1, v2] w (RetOwn w (cutSuf l1 l2)) := by
  go_enter Try.func23, Try.ntmps23
  go_wp2_with (go_at_call 48; refine (bytes_TrimSuffix _ _ _ _ _ h1 h2).mono ?_)
  rintro _ w3 ⟨v3, rfl, b3, x3⟩
  go_wp2_with (go_at_call 43; refine (impl_fresh _ _ _ b3 hr).mono ?_)
  rintro _ w4 ⟨v4, rfl, o4, x4⟩
  go_wp2_with fail
  go_ret
  exact ⟨_, rfl, o4.mono x3.size (Nat.le_refl _), x3.trans x4⟩
theorem impl_TrimSuffix (v1 v2 : Value) (l1 l2 : List UInt8) (w : World) (h1 : Bs w v1 l1) (h2 : Bs w v2 l2) (hl : l1.length ≤ 140737488355328) :
    Calls Try.prog 23 #[v1, v2] w (RetOwn w (cutSuf l1 l2)) :=
  impl_TrimSuffix' v1 v2 l1 l2 w h1 h2 (Nat.le_trans (cutSuf_len _ _) hl)

/-- A call's answer: a new slice of the bytes l, and a bool. -/
def RetOwnB (w : World) (l : List UInt8) (b : Bool) (e : Ending) (w' : World) : Prop := ∃ v, e = .returned (.tuple #[v, .bool b]) ∧ Own w.heap.size w'.heap.size w' v l ∧ Ext w w'

theorem impl_CutPrefix (v1 v2 : Value) (l1 l2 : List UInt8) (w : World) (h1 : Bs w v1 l1) (h2 : Bs w v2 l2) (hl : l1.length ≤ 140737488355328) :
    Calls Try.prog 20 #[v1, v2] w (RetOwnB w (cutPre l1 l2) (hasPre l1 l2)) := by
  have hr : (cutPre l1 l2).length ≤ 140737488355328 := Nat.le_trans (cutPre_len _ _) hl
  go_enter Try.func20, Try.ntmps20
  go_wp2_with (go_at_call 45; refine (bytes_CutPrefix _ _ _ _ _ h1 h2).mono ?_)
  rintro _ w3 ⟨v3, rfl, b3, x3⟩
  go_wp2_with (go_at_call 43; refine (impl_fresh _ _ _ b3 hr).mono ?_)
  rintro _ w4 ⟨v4, rfl, o4, x4⟩
  go_wp2_with fail
  go_ret2
  exact ⟨_, rfl, o4.mono x3.size (Nat.le_refl _), x3.trans x4⟩

theorem impl_CutSuffix (v1 v2 : Value) (l1 l2 : List UInt8) (w : World) (h1 : Bs w v1 l1) (h2 : Bs w v2 l2) (hl : l1.length ≤ 140737488355328) :
    Calls Try.prog 21 #[v1, v2] w (RetOwnB w (cutSuf l1 l2) (hasSuf l1 l2)) := by
  have hr : (cutSuf l1 l2).length ≤ 140737488355328 := Nat.le_trans (cutSuf_len _ _) hl
  go_enter Try.func21, Try.ntmps21
  go_wp2_with (go_at_call 46; refine (bytes_CutSuffix _ _ _ _ _ h1 h2).mono ?_)
  rintro _ w3 ⟨v3, rfl, b3, x3⟩
  go_wp2_with (go_at_call 43; refine (impl_fresh _ _ _ b3 hr).mono ?_)
  rintro _ w4 ⟨v4, rfl, o4, x4⟩
  go_wp2_with fail
  go_ret2
  exact ⟨_, rfl, o4.mono x3.size (Nat.le_refl _), x3.trans x4⟩

theorem spec_begins (s t : ByteArray) (w : World) (hs : s.size ≤ 9223372036854775807) (ht : t.size ≤ 9223372036854775807) :
    Calls Try.prog 60 #[.string s, .string t] w fun e w' => e = .returned (.bool (hasPre s.data.toList t.data.toList)) ∧ w = w' := by
  by_cases hl : t.size ≤ s.size
  · have d : decide (t.size ≤ s.size) = true := by simpa using hl
    have hfin : ((s.extract 0 t.size).toList == t.toList) = hasPre s.data.toList t.data.toList := by
      rw [ByteArray.toList_eq, ByteArray.toList_eq, Lib.extract_data, Bool.beq_eq_decide_eq]
      rfl
    have HF := Lib.hid hfin
    clear hfin
    go_enter Try.func60, Try.ntmps60
    go_wp2_with fail
    go_ret
    exact ⟨by rw [← HF.out]; rfl, rfl⟩
  · have d : decide (t.size ≤ s.size) = false := by simpa using hl
    have HF := Lib.hid (hasPre_short (s := s.data.toList) (p := t.data.toList) (show s.size < t.size by omega))
    go_enter Try.func60, Try.ntmps60
    go_wp2_with fail
    go_ret
    exact ⟨by rw [HF.out]; rfl, rfl⟩


theorem spec_TextHasPrefix (s t : ByteArray) (w : World) (hs : s.size ≤ 9223372036854775807) (ht : t.size ≤ 9223372036854775807) :
    Calls Try.prog 41 #[.string s, .string t] w fun e w' => e = .returned (.bool (hasPre s.data.toList t.data.toList)) ∧ w = w' := by
  go_enter Try.func41, Try.ntmps41
  go_wp2_with (go_at_call 60; refine (spec_begins _ _ _ hs ht).mono ?_; rintro e w' ⟨rfl, rfl⟩)
  go_ret
  exact ⟨rfl, rfl⟩









theorem spec_HasPrefix (v1 v2 : Value) (l1 l2 : List UInt8) (w : World) (h1 : Bs w v1 l1) (h2 : Bs w v2 l2) :
    Calls Try.prog 16 #[v1, v2] w fun e w' => e = .returned (.bool (hasPre l1 l2)) ∧ w = w' := by
  go_enter Try.func16, Try.ntmps16
  go_wp2_with (first
    | refine wpList_toString rfl 23 9 (.tmp 5) rfl 5 Try.underlying23 Try.underlying5 Try.underlying9 _ _ rfl h1 ?_
    | refine wpList_toString rfl 23 9 (.tmp 7) rfl 5 Try.underlying23 Try.underlying5 Try.underlying9 _ _ rfl h2 ?_
    | (go_at_call 41; refine (spec_TextHasPrefix ⟨l1.toArray⟩ ⟨l2.toArray⟩ _ h1.len h2.len).mono ?_; rintro e w' ⟨rfl, rfl⟩))
  go_ret
  exact ⟨rfl, rfl⟩









end Go.Proofs.Ytlklmolcficdaaa
