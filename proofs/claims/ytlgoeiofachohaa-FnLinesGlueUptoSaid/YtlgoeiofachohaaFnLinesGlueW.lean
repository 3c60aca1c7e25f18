/- The walk of the law FnLinesGlue: it returns true where the text has at most 2^20 bytes. -/
import Derived.Test.YtlgoeiofachohaaLinesJ
import Derived.Test.YtlgoeiofachohaaLinesR
import Derived.Test.YtlgoeiofachohaaGlued
import Derived.Deep.DeepCutAuto
namespace Go.Proofs.Ytlgoeiofachohaa
open Go.RowKit

theorem firstB_app (b : UInt8) : ∀ a r : List UInt8, (∀ x ∈ a, x ≠ b) → firstB (a ++ b :: r) b = a.length
  | [], r, _ => by simp [firstB]
  | x :: a, r, h => by
    rw [List.cons_append, firstB, if_neg (h x (List.mem_cons_self ..)), firstB_app b a r (fun y hy => h y (List.mem_cons_of_mem _ hy)), if_neg (by omega)]
    simp
theorem firstB_no (b : UInt8) : ∀ a : List UInt8, (∀ x ∈ a, x ≠ b) → firstB a b = -1
  | [], _ => rfl
  | x :: a, h => by
    rw [firstB, if_neg (h x (List.mem_cons_self ..)), firstB_no b a (fun y hy => h y (List.mem_cons_of_mem _ hy))]
    rfl

/-- Each line but the last one ends with its only line feed; none is empty. -/
def LineOk (L : List (List UInt8)) (i : Nat) (x : List UInt8) : Prop := x ≠ [] ∧ (firstB x 10 = (x.length : Int) - 1 ∨ (firstB x 10 = -1 ∧ i + 1 = L.length))
theorem lines_each : ∀ (n : Nat) (l : List UInt8), l.length ≤ n → ∀ i (h : i < (linesB l).length), LineOk (linesB l) i (linesB l)[i]
  | n, l, hn, i, h => by
    rcases firstB_split 10 l with ⟨_, hno⟩ | ⟨a, r, e1, hno, _⟩
    · by_cases hl : l = []
      · subst hl; simp [linesB_nil] at h
      · have e := linesB_none hno hl
        simp only [e] at h ⊢
        have hi : i = 0 := by simpa using h
        subst hi
        exact ⟨hl, .inr ⟨firstB_no 10 l hno, rfl⟩⟩
    · have hl : r.length + 1 ≤ l.length := by rw [e1]; simp
      match n, hn with
      | 0, hn => exact absurd hn (by omega)
      | n + 1, hn =>
        have e : linesB l = (a ++ [10]) :: linesB r := by rw [e1]; exact linesB_cut hno
        simp only [e] at h ⊢
        cases i with
        | zero =>
          refine ⟨by simp, .inl ?_⟩
          show firstB (a ++ [10]) 10 = _
          rw [firstB_app 10 a [] hno]
          simp
        | succ i =>
          have hi : i < (linesB r).length := by simpa using h
          have := lines_each n r (by omega) i hi
          refine ⟨this.1, ?_⟩
          rcases this.2 with h1 | ⟨h1, h2⟩
          · exact .inl h1
          · exact .inr ⟨h1, by simp; omega⟩

set_option maxRecDepth 100000 in
set_option maxHeartbeats 8000000 in
theorem FnLinesGlue_walk (w : World) (a0 : ByteArray) (z0 : a0.size ≤ 1048576) :
    Calls Try.prog 4 #[.string a0] w fun e w' => e = .returned (.bool true) ∧ Below w.heap.size w w' := by
  have hmax : a0.size ≤ maxLen := by unfold maxLen; omega
  have es : a0.data.toList.length = a0.size := rfl
  have key1 := lines_each _ a0.data.toList (Nat.le_refl _)
  have key2 := linesB_len a0.data.toList
  have key3 : ∀ x ∈ linesB a0.data.toList, x.length ≤ 1048576 := fun x hx => by
    have := linesB_each hx
    omega
  have key4 : (⟨(linesB a0.data.toList).flatten.toArray⟩ : ByteArray) = a0 := by rw [linesB_flat]
  have key6 : (linesB a0.data.toList).flatten.length ≤ 140737488355328 := by rw [linesB_flat]; omega
  obtain ⟨L, hL⟩ : ∃ L, linesB a0.data.toList = L := ⟨_, rfl⟩
  rw [hL] at key1 key2 key3 key4 key6
  rw [es] at key2
  have HL := Lib.hid hL
  have K1 := Lib.hid key1
  have K3 := Lib.hid key3
  have K4 := Lib.hid key4
  have hLn : L.length ≤ 1048577 := by omega
  clear hL key1 key2 key3 key4 es
  go_enter Try.func4, Try.ntmps4
  go_wp2_with (refine wpList_toBytes rfl 9 22 _ rfl 5 Try.underlying9 Try.underlying22 Try.underlying5 _ rfl hmax ?_)
  intro v5 w5 o5 x5
  have c6 := impl_Lines _ _ _ o5.bs (by show a0.size ≤ _; omega)
  rw [HL.out] at c6
  go_wp2_with (go_at_call 13; refine c6.mono ?_)
  rintro _ w6 ⟨v6, rfl, o6, x6⟩
  clear c6
  go_wp2_with (go_at_call 19; refine (laws_texts v6 L _ o6.bs (by omega)).mono ?_)
  rintro _ w7 ⟨v7, rfl, s7, x7⟩
  have HX := Lib.hid ((x5.trans x6).trans x7)
  clear x7 x6 x5 o6 o5
  have HSS := Lib.hid s7
  obtain ⟨a7, c7, rfl, p7, q7, e7⟩ := s7.raw
  have hc7 : c7 ≤ 9223372036854775807 := by unfold maxLen at q7; omega
  have HC := Lib.hid e7
  clear e7 q7 s7
  go_wp2_with fail
  go_loopg [13] L.length (fun k i wr => ∃ j : Nat, j + k = L.length ∧ i = .int .i64 j ∧ Ext w7 wr)
  case atStart => exact ⟨0, by omega, rfl, Ext.refl _⟩
  case round =>
    obtain ⟨j, hj, rfl, hx⟩ := hrel
    have HJ := Lib.hid hj
    by_cases hlt : j < L.length
    · have hg : 0 < gk := by omega
      obtain ⟨b, o, rfl, c0⟩ := HC.out j hlt
      replace c0 := hx.cell c0
      have k1 := K1.out j hlt
      have k3 := K3.out _ (List.getElem_mem hlt)
      obtain ⟨t, ht⟩ : ∃ t, L[j] = t := ⟨_, rfl⟩
      rw [ht] at c0 k1 k3
      have hmt : (⟨t.toArray⟩ : ByteArray).size ≤ maxLen := by show t.length ≤ _; unfold maxLen; omega
      have ht0 : (⟨t.toArray⟩ : ByteArray).toList.isEmpty = false := by rw [ByteArray.toList_eq]; cases t with | nil => exact absurd rfl k1.1 | cons x y => rfl
      have hst : (⟨t.toArray⟩ : ByteArray).data.toList = t := rfl
      have hsz : (⟨t.toArray⟩ : ByteArray).size = t.length := rfl
      obtain ⟨s, hs⟩ : ∃ s, (⟨t.toArray⟩ : ByteArray) = s := ⟨_, rfl⟩
      rw [hs] at c0 hmt hst ht0 hsz
      have HST := Lib.hid hst
      have HXX := Lib.hid hx
      clear hj ht hx hs hst
      go_wp2_with (refine wpList_toBytes rfl 9 22 _ rfl 5 Try.underlying9 Try.underlying22 Try.underlying5 _ rfl hmt ?_)
      intro v8 w8 o8 x8
      have o8 : Bs w8 v8 t := HST.out ▸ o8.bs
      have cI := impl_IndexByte v8 t 10 w8 o8
      have hlp : 0 < t.length := List.length_pos_iff.2 k1.1
      rcases k1.2 with h1 | ⟨h1, h2⟩
      · obtain ⟨m, hm⟩ : ∃ m, t.length = m + 1 := ⟨t.length - 1, by omega⟩
        rw [show firstB t 10 = (m : Int) by rw [h1]; omega] at cI
        have hszI : (s.size : Int) - 1 = (m : Int) := by omega
        have hs1 : 1 ≤ s.size := by omega
        have hs2 : s.size ≤ 1048576 := by omega
        have hm2 : m ≤ 1048576 := by omega
        clear h1 k1 hm hsz hlp k3
        have X8 := HXX.out.trans x8
        go_wp2_with (go_at_call 20; refine cI.mono ?_; rintro _ w9 ⟨rfl, rfl⟩)
        go_roundg (gk - 1)
        case measure => omega
        case rel => exact ⟨j + 1, by have := HJ.out; omega, by go_num, X8⟩
      · rw [h1] at cI
        have h2' : ¬ (j : Int) < (L.length : Int) - 1 := by omega
        clear h1 k1
        have X8 := HXX.out.trans x8
        go_wp2_with (go_at_call 20; refine cI.mono ?_; rintro _ w9 ⟨rfl, rfl⟩)
        go_roundg (gk - 1)
        case measure => omega
        case rel => exact ⟨j + 1, by have := HJ.out; omega, by go_num, X8⟩
    · clear hj
      have c18 := laws_glued _ L _ (HSS.out.ext hx) key6
      rw [K4.out] at c18
      have HXX := Lib.hid hx
      clear hx
      go_wp2_with (go_at_call 21; refine c18.mono ?_)
      rintro _ w18 ⟨rfl, x18⟩
      have X := (HX.out.trans HXX.out).trans x18
      go_wp2_with fail
      go_ret
      exact ⟨by simp, X.below⟩
end Go.Proofs.Ytlgoeiofachohaa
