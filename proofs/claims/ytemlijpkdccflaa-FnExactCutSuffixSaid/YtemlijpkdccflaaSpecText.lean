/- Contracts of the reference's functions on texts: compare, firstByte, lastByte, begins, ends. Conditions: lengths below 2^63. -/
import Derived.Test.YtemlijpkdccflaaBase
import Derived.Test.YtemlijpkdccflaaPlain
import Derived.Test.YtemlijpkdccflaaRows
namespace Go.Proofs.Ytemlijpkdccflaa
open Go.RowKit

theorem ba_at (s : ByteArray) (i : Nat) (h : i < s.size) : s[i] = s.data.toList[i]'h := rfl

theorem cmpL_take (a b : List UInt8) (j : Nat) (h : a.take j = b.take j) : cmpL a b = cmpL (a.drop j) (b.drop j) := by
  have ea := List.take_append_drop j a
  have eb := List.take_append_drop j b
  conv => lhs; rw [← ea, ← eb, h, cmpL_front]

theorem cmpL_at (a b : List UInt8) (j : Nat) (h : a.take j = b.take j) (ha : j < a.length) (hb : j < b.length) : cmpL a b = if a[j] < b[j] then -1 else if b[j] < a[j] then 1 else cmpL (a.drop (j + 1)) (b.drop (j + 1)) := by
  rw [cmpL_take a b j h, List.drop_eq_getElem_cons ha, List.drop_eq_getElem_cons hb]
  rfl

theorem spec_compare (s t : ByteArray) (w : World) (hs : s.size ≤ 9223372036854775807) (ht : t.size ≤ 9223372036854775807) :
    Calls Try.prog 60 #[.string s, .string t] w fun e w' => e = .returned (.int .i64 (cmpL s.data.toList t.data.toList)) ∧ Ext w w' := by
  go_enter Try.func60, Try.ntmps60
  go_wp2_with fail
  go_loopg [5] s.size (fun k i wr => ∃ j : Nat, j + k = s.size ∧ j ≤ t.size ∧ i = .int .i64 j ∧ s.data.toList.take j = t.data.toList.take j ∧ Ext w wr)
  case atStart => exact ⟨0, by omega, by omega, rfl, rfl, Ext.refl _⟩
  case round =>
    obtain ⟨j, hj, hjt, rfl, htk, hx⟩ := hrel
    have HJ := Lib.hid hj
    have HT := Lib.hid htk
    clear htk
    by_cases h1 : j < s.size
    · have hg : 0 < gk := by omega
      have d1 : decide (j < s.size) = true := by simp; omega
      by_cases h2 : j < t.size
      · have d2 : decide (j < t.size) = true := by simp; omega
        have hat := Lib.hid (cmpL_at s.data.toList t.data.toList j HT.out h1 h2)
        clear hj
        by_cases q1 : s[j] < t[j]
        · have e1 : decide (s[j].toNat < t[j].toNat) = true := by rw [u8_lt] at q1; simp; omega
          have hfin : cmpL s.data.toList t.data.toList = -1 := hat.out.trans (if_pos q1)
          have HF := Lib.hid hfin
          clear q1 hfin hat
          go_wp2_with fail
          go_quiet (fail)
          go_wp2_with fail
          go_ret
          exact ⟨by rw [HF.out]; rfl, (by first | exact hx.trans (Ext.drewN _ _) | exact (hx.trans (Ext.drewN _ _)).trans (Ext.drewN _ _))⟩
        · have e1 : decide (s[j].toNat < t[j].toNat) = false := by rw [u8_lt] at q1; simp; omega
          by_cases q2 : t[j] < s[j]
          · have e2 : decide (t[j].toNat < s[j].toNat) = true := by rw [u8_lt] at q2; simp; omega
            have hfin : cmpL s.data.toList t.data.toList = 1 := hat.out.trans ((if_neg q1).trans (if_pos q2))
            have HF := Lib.hid hfin
            clear q1 q2 hfin hat
            go_wp2_with fail
            go_quiet (fail)
            go_wp2_with fail
            go_quiet (fail)
            go_wp2_with fail
            go_ret
            exact ⟨by rw [HF.out]; rfl, (by first | exact hx.trans (Ext.drewN _ _) | exact (hx.trans (Ext.drewN _ _)).trans (Ext.drewN _ _))⟩
          · have e2 : decide (t[j].toNat < s[j].toNat) = false := by rw [u8_lt] at q2; simp; omega
            have Q := Lib.hid (u8_eq q1 q2)
            clear q1 q2
            go_wp2_with fail
            go_quiet (fail)
            go_wp2_with fail
            go_quiet (fail)
            go_wp2_with fail
            go_roundg (gk - 1)
            case measure => omega
            case rel =>
              refine ⟨j + 1, by have := HJ.out; omega, by omega, by go_num, ?_, (by first | exact hx.trans (Ext.drewN _ _) | exact (hx.trans (Ext.drewN _ _)).trans (Ext.drewN _ _))⟩
              rw [List.take_succ_eq_append_getElem h1, List.take_succ_eq_append_getElem h2, HT.out]
              exact congrArg (fun x => List.take j t.data.toList ++ [x]) Q.out
      · have d2 : decide (j < t.size) = false := by simp; omega
        have ejt : j = t.size := by omega
        have hfin : cmpL s.data.toList t.data.toList = 1 := by
          rw [cmpL_take _ _ j HT.out]
          rw [List.drop_of_length_le (l := t.data.toList) (by simp; omega), List.drop_eq_getElem_cons (l := s.data.toList) h1]
          rfl
        have HF := Lib.hid hfin
        have l1 : decide (s.size < t.size) = false := by simp; omega
        have l2 : decide (t.size < s.size) = true := by simp; omega
        clear hj hfin ejt
        go_wp2_with fail
        go_ret
        exact ⟨by rw [HF.out]; rfl, hx⟩
    · have d1 : decide (j < s.size) = false := by simp; omega
      have ejs : j = s.size := by omega
      by_cases h2 : j < t.size
      · have hfin : cmpL s.data.toList t.data.toList = -1 := by
          rw [cmpL_take _ _ j HT.out]
          rw [List.drop_of_length_le (l := s.data.toList) (by simp; omega), List.drop_eq_getElem_cons (l := t.data.toList) h2]
          rfl
        have HF := Lib.hid hfin
        have l1 : decide (s.size < t.size) = true := by simp; omega
        clear hj hfin ejs
        go_wp2_with fail
        go_ret
        exact ⟨by rw [HF.out]; rfl, hx⟩
      · have hfin : cmpL s.data.toList t.data.toList = 0 := by
          rw [cmpL_take _ _ j HT.out]
          rw [List.drop_of_length_le (l := s.data.toList) (by simp; omega), List.drop_of_length_le (l := t.data.toList) (by simp; omega)]
          rfl
        have HF := Lib.hid hfin
        have l1 : decide (s.size < t.size) = false := by simp; omega
        have l2 : decide (t.size < s.size) = false := by simp; omega
        clear hj hfin ejs
        go_wp2_with fail
        go_ret
        exact ⟨by rw [HF.out]; rfl, hx⟩

/-- The first place of a byte; -1, if there is none. -/
def firstB : List UInt8 → UInt8 → Int
  | [], _ => -1
  | x :: l, b => if x = b then 0 else if firstB l b < 0 then -1 else firstB l b + 1

theorem firstB_at : ∀ (l : List UInt8) (b : UInt8) (j : Nat) (h : j < l.length), (∀ i (hi : i < j), l[i]'(by omega) ≠ b) → l[j] = b → firstB l b = j
  | x :: l, b, 0, _, _, he => by simp at he; simp [firstB, he]
  | x :: l, b, j + 1, h, hn, he => by
    have h0 : x ≠ b := hn 0 (by omega)
    have ih := firstB_at l b j (by simpa using h) (fun i hi => by have := hn (i + 1) (by omega); simpa using this) (by simpa using he)
    rw [firstB, if_neg h0, ih]
    rw [if_neg (by omega)]
    omega

theorem firstB_none : ∀ (l : List UInt8) (b : UInt8), (∀ i (hi : i < l.length), l[i] ≠ b) → firstB l b = -1
  | [], b, _ => rfl
  | x :: l, b, hn => by
    have h0 : x ≠ b := hn 0 (by simp)
    have ih := firstB_none l b (fun i hi => by have := hn (i + 1) (by simpa using hi); simpa using this)
    rw [firstB, if_neg h0, ih]
    rfl

/-- The last place of a byte; -1, if there is none. -/
def lastB : List UInt8 → UInt8 → Int
  | [], _ => -1
  | x :: l, b => if 0 ≤ lastB l b then lastB l b + 1 else if x = b then 0 else -1

theorem lastB_none : ∀ (l : List UInt8) (b : UInt8), (∀ i (hi : i < l.length), l[i] ≠ b) → lastB l b = -1
  | [], b, _ => rfl
  | x :: l, b, hn => by
    have h0 : x ≠ b := hn 0 (by simp)
    have ih := lastB_none l b (fun i hi => by have := hn (i + 1) (by simpa using hi); simpa using this)
    rw [lastB, ih, if_neg (by omega), if_neg h0]

theorem lastB_at : ∀ (l : List UInt8) (b : UInt8) (j : Nat) (h : j < l.length), (∀ i (hi : i < l.length), j < i → l[i] ≠ b) → l[j] = b → lastB l b = j
  | x :: l, b, 0, _, hn, he => by
    have ih := lastB_none l b (fun i hi => by have := hn (i + 1) (by simpa using hi) (by omega); simpa using this)
    simp at he
    rw [lastB, ih, if_neg (by omega), if_pos he]; rfl
  | x :: l, b, j + 1, h, hn, he => by
    have ih := lastB_at l b j (by simpa using h) (fun i hi hji => by have := hn (i + 1) (by simpa using hi) (by omega); simpa using this) (by simpa using he)
    rw [lastB, ih, if_pos (by omega)]
    omega

theorem u8_int {x y : UInt8} : ((x.toNat : Nat) : Int) = ((y.toNat : Nat) : Int) ↔ x = y := by
  rw [← UInt8.toNat_inj]; omega

theorem spec_firstByte (s : ByteArray) (b : UInt8) (w : World) (hs : s.size ≤ 9223372036854775807) :
    Calls Try.prog 61 #[.string s, .int .u8 (b.toNat : Int)] w fun e w' => e = .returned (.int .i64 (firstB s.data.toList b)) ∧ w = w' := by
  go_enter Try.func61, Try.ntmps61
  go_wp2_with fail
  go_loopg [5] s.size (fun k i wr => ∃ j : Nat, j + k = s.size ∧ i = .int .i64 j ∧ (∀ i (hi : i < j) (hs : i < s.size), s.data.toList[i]'hs ≠ b) ∧ w = wr)
  case atStart => exact ⟨0, by omega, rfl, fun i hi => by omega, rfl⟩
  case round =>
    obtain ⟨j, hj, rfl, hn, rfl⟩ := hrel
    have HJ := Lib.hid hj
    have HN := Lib.hid hn
    clear hn
    by_cases hlt : j < s.size
    · have hg : 0 < gk := by omega
      have d1 : decide (j < s.size) = true := by simpa using hlt
      clear hj
      by_cases he : s[j] = b
      · have e1 : ((s[j].toNat : Int) == (b.toNat : Int)) = true := by rw [he]; simp
        have hfin : firstB s.data.toList b = j := firstB_at _ _ j hlt (fun i hi => HN.out i hi (by omega)) he
        have HF := Lib.hid hfin
        clear he hfin HN
        go_wp2_with fail
        go_ret
        exact ⟨by rw [HF.out]; rfl, rfl⟩
      · have e1 : ((s[j].toNat : Int) == (b.toNat : Int)) = false := by rw [beq_eq_false_iff_ne]; exact fun h => he (u8_int.1 h)
        have HE := Lib.hid he
        clear he
        go_wp2_with fail
        go_roundg (gk - 1)
        case measure => omega
        case rel =>
          refine ⟨j + 1, by have := HJ.out; omega, by go_num, fun i hi hs => ?_, rfl⟩
          by_cases h : i = j
          · subst h; exact HE.out
          · exact HN.out i (by omega) hs
    · have hfin : firstB s.data.toList b = -1 := firstB_none _ _ (fun i hi => HN.out i (by have : i < s.size := hi; omega) hi)
      have d1 : decide (j < s.size) = false := by simpa using hlt
      have HF := Lib.hid hfin
      clear hj hfin HN
      go_wp2_with fail
      go_ret
      exact ⟨by rw [HF.out]; rfl, rfl⟩

theorem spec_lastByte (s : ByteArray) (b : UInt8) (w : World) (hs : s.size ≤ 9223372036854775807) :
    Calls Try.prog 65 #[.string s, .int .u8 (b.toNat : Int)] w fun e w' => e = .returned (.int .i64 (lastB s.data.toList b)) ∧ w = w' := by
  go_enter Try.func65, Try.ntmps65
  go_wp2_with fail
  go_loopg [5] s.size (fun k i wr => k ≤ s.size ∧ i = .int .i64 ((k : Int) - 1) ∧ (∀ i (hs : i < s.size), k ≤ i → s.data.toList[i]'hs ≠ b) ∧ w = wr)
  case atStart => exact ⟨Nat.le_refl _, rfl, fun i h1 h2 => by omega, rfl⟩
  case round =>
    obtain ⟨hk, rfl, hn, rfl⟩ := hrel
    have HN := Lib.hid hn
    clear hn
    by_cases hlt : 0 < gk
    · obtain ⟨j, rfl⟩ : ∃ j, gk = j + 1 := ⟨gk - 1, by omega⟩
      have ej : (((j + 1 : Nat) : Int) - 1) = (j : Int) := by omega
      rw [ej]
      clear ej
      have hj : j < s.size := by omega
      by_cases he : s[j] = b
      · have e1 : ((s[j].toNat : Int) == (b.toNat : Int)) = true := by rw [he]; simp
        have hfin : lastB s.data.toList b = j := lastB_at _ _ j hj (fun i hi h => HN.out i hi (by omega)) he
        have HF := Lib.hid hfin
        clear he hfin HN
        go_wp2_with fail
        go_ret
        exact ⟨by rw [HF.out]; rfl, rfl⟩
      · have e1 : ((s[j].toNat : Int) == (b.toNat : Int)) = false := by rw [beq_eq_false_iff_ne]; exact fun h => he (u8_int.1 h)
        have HE := Lib.hid he
        clear he
        go_wp2_with fail
        go_roundg j
        case measure => omega
        case rel =>
          refine ⟨by omega, rfl, fun i hi h => ?_, rfl⟩
          by_cases hh : i = j
          · subst hh; exact HE.out
          · exact HN.out i hi (by omega)
    · obtain rfl : gk = 0 := by omega
      have hfin : lastB s.data.toList b = -1 := lastB_none _ _ (fun i hi => HN.out i hi (by omega))
      have HF := Lib.hid hfin
      clear hfin HN
      go_wp2_with fail
      go_ret
      exact ⟨by rw [HF.out]; rfl, rfl⟩
end Go.Proofs.Ytemlijpkdccflaa
