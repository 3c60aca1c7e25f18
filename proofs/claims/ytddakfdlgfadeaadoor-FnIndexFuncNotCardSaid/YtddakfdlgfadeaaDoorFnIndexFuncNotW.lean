/- The walk of the law FnIndexFuncNot: it returns true for every input. -/
import Derived.Test.YtddakfdlgfadeaaDoorAppV
import Derived.Test.YtddakfdlgfadeaaDoorFuncW2
namespace Go.Proofs.YtddakfdlgfadeaaDoor
open Go.RowKit

theorem ba_isEmpty (s : ByteArray) : s.toList.isEmpty = s.data.toList.isEmpty := by
  rw [ByteArray.toList_eq]

theorem firstC_lt (p : Int → Bool) (l : List UInt8) : -1 ≤ firstC p 0 (chunks l) ∧ (l ≠ [] → firstC p 0 (chunks l) < l.length) := by
  rcases firstC_range p (chunks l) 0 with ⟨e, _⟩ | ⟨i, hi, e, _, _⟩
  · rw [e]
    exact ⟨by omega, fun h => by have := List.length_pos_iff.2 h; omega⟩
  · rw [e]
    refine ⟨by omega, fun _ => ?_⟩
    obtain ⟨cs, HCS, HPL, HDE, HPE, HPA, HLA, HPN, HRG⟩ := chunk_facts l
    rw [HCS.out] at hi ⊢
    have := HPL.out i hi
    omega

theorem firstC_zero (p : Int → Bool) {l : List UInt8} (h : l ≠ []) : (firstC p 0 (chunks l) = 0 ↔ p (dec l).1 = true) := by
  have hs := dec_size h
  have hpos : (l.take (dec l).2).length = (dec l).2 := by rw [List.length_take]; omega
  rw [chunks_cons h, firstC]
  constructor
  · intro e
    split at e
    · assumption
    · exfalso
      rcases firstC_range p (chunks (l.drop (dec l).2)) (0 + (l.take (dec l).2).length) with ⟨e2, _⟩ | ⟨i, hi, e2, _, _⟩
      · rw [e2] at e; omega
      · rw [e2, hpos] at e; omega
  · intro e
    rw [if_pos e]; rfl

set_option maxRecDepth 100000 in
set_option maxHeartbeats 2000000 in
theorem FnIndexFuncNot_walk (w : World) (hT : Tabs w) (a0 : ByteArray) (z0 : a0.size ≤ 140737488351232) (v1 : Value) (rs : List Int) (b1 : Is w v1 rs) (z1 : rs.length ≤ 35184372087808) (nt : Bool) :
    Calls Tryd.prog 4 #[.string a0, v1, .bool nt] w fun e w' => e = .returned (.bool true) ∧ Below w.heap.size w w' := by
  have hmax : a0.size ≤ maxLen := by unfold maxLen; omega
  have hz2 : rs.length ≤ 35184372088832 := by omega
  have hl : a0.data.toList.length = a0.size := rfl
  have hp := firstC_lt (holdsT rs nt) a0.data.toList
  have hq := firstC_lt (holdsT rs (!nt)) a0.data.toList
  have hpz := fun h => firstC_zero (holdsT rs nt) (l := a0.data.toList) h
  have hqz := fun h => firstC_zero (holdsT rs (!nt)) (l := a0.data.toList) h
  have hnil : a0.data.toList = [] → firstC (holdsT rs nt) 0 (chunks a0.data.toList) = -1 ∧ firstC (holdsT rs (!nt)) 0 (chunks a0.data.toList) = -1 := fun h => by rw [h]; exact ⟨rfl, rfl⟩
  have key : a0.data.toList = [] ∧ firstC (holdsT rs nt) 0 (chunks a0.data.toList) = -1 ∧ firstC (holdsT rs (!nt)) 0 (chunks a0.data.toList) = -1 ∨
      a0.data.toList ≠ [] ∧ ∃ I K : Int, firstC (holdsT rs nt) 0 (chunks a0.data.toList) = I ∧ firstC (holdsT rs (!nt)) 0 (chunks a0.data.toList) = K ∧ I < a0.size ∧ K < a0.size ∧ ((I == 0) != (K == 0)) = true := by
    by_cases h : a0.data.toList = []
    · exact .inl ⟨h, hnil h⟩
    · refine .inr ⟨h, _, _, rfl, rfl, by rw [← hl]; exact hp.2 h, by rw [← hl]; exact hq.2 h, ?_⟩
      have e1 := hpz h
      have e2 := hqz h
      rw [holdsT_not] at e2
      cases hc : holdsT rs nt (dec a0.data.toList).1
      · rw [hc] at e1 e2
        have k1 : firstC (holdsT rs nt) 0 (chunks a0.data.toList) ≠ 0 := fun e => by cases e1.1 e
        have k2 : firstC (holdsT rs (!nt)) 0 (chunks a0.data.toList) = 0 := e2.2 rfl
        rw [k2]; simp [k1]
      · rw [hc] at e1 e2
        have k1 : firstC (holdsT rs nt) 0 (chunks a0.data.toList) = 0 := e1.2 rfl
        have k2 : firstC (holdsT rs (!nt)) 0 (chunks a0.data.toList) ≠ 0 := fun e => by cases e2.1 e
        rw [k1]; simp [k2]
  have HK := Lib.hid key
  clear hl hp hq hpz hqz hnil key
  go_enter Tryd.func4, Tryd.ntmps4
  go_wp2_with (refine wpList_toBytes rfl 9 22 _ rfl 5 Tryd.underlying9 Tryd.underlying22 Tryd.underlying5 _ rfl hmax ?_)
  intro v2 w2 o2 x2
  replace b1 := b1.ext x2
  replace hT := hT.ext x2
  go_wp2_with (go_at_call 22; refine (laws_test _ rs _ _ b1 hz2).mono ?_)
  rintro _ w3 ⟨v3, rfl, i3, x3⟩
  have q2 := o2.bs.ext x3
  replace b1 := b1.ext x3
  replace hT := hT.ext x3
  have X := x2.trans x3
  clear x2 x3 o2
  go_wp2_with (go_at_call 19; refine (impl_IndexFunc _ _ _ rs _ _ q2 i3 hT).mono ?_)
  rintro _ w4 ⟨rfl, x4⟩
  replace b1 := b1.ext x4
  replace hT := hT.ext x4
  replace X := X.trans x4
  clear x4 q2 i3
  go_wp2_with (refine wpList_toBytes rfl 9 22 _ rfl 5 Tryd.underlying9 Tryd.underlying22 Tryd.underlying5 _ rfl hmax ?_)
  intro v5 w5 o5 x5
  replace b1 := b1.ext x5
  replace hT := hT.ext x5
  replace X := X.trans x5
  clear x5
  go_wp2_with (go_at_call 22; refine (laws_test _ rs _ _ b1 hz2).mono ?_)
  rintro _ w6 ⟨v6, rfl, i6, x6⟩
  have q5 := o5.bs.ext x6
  replace hT := hT.ext x6
  replace X := X.trans x6
  clear x6 o5 b1
  go_wp2_with (go_at_call 19; refine (impl_IndexFunc _ _ _ rs _ _ q5 i6 hT).mono ?_)
  rintro _ w7 ⟨rfl, x7⟩
  replace X := X.trans x7
  clear x7 q5 i6 hT
  rcases HK.out with ⟨h0, e1, e2⟩ | ⟨h0, I, K, e1, e2, h1, h2, h3⟩
  · rw [e1, e2]
    have hs : a0.toList.isEmpty = true := by rw [ba_isEmpty]; simp [h0]
    clear e1 e2 HK h0
    go_wp2_with fail
    go_ret
    exact ⟨rfl, X.below⟩
  · rw [e1, e2]
    have hs : a0.toList.isEmpty = false := by rw [ba_isEmpty]; simpa using h0
    have h4 : ¬ (I == 0) = (K == 0) := by simpa using h3
    have h5 : decide (max I K < (a0.size : Int)) = true := by simp; omega
    have h6 : (!((I == 0) == (K == 0))) = true := by simpa using h4
    clear e1 e2 HK h0
    go_wp2_with fail
    go_ret
    refine ⟨?_, X.below⟩
    first | rfl | (rw [h6, h5]; rfl)
end Go.Proofs.YtddakfdlgfadeaaDoor
