/- Contracts of the reference's functions on texts: compare, firstByte, lastByte, begins, ends. Conditions: lengths below 2^63. -/
import Derived.Test.YtiahholgpbjjfaaDoorBase
import Derived.Test.YtiahholgpbjjfaaDoorPlain
import Derived.Test.YtiahholgpbjjfaaDoorRows
namespace Go.Proofs.YtiahholgpbjjfaaDoor
open Go.RowKit

theorem ba_at (s : ByteArray) (i : Nat) (h : i < s.size) : s[i] = s.data.toList[i]'h := rfl

theorem cmpL_take (a b : List UInt8) (j : Nat) (h : a.take j = b.take j) : cmpL a b = cmpL (a.drop j) (b.drop j) := by
  have ea := List.take_append_drop j a
  have eb := List.take_append_drop j b
  conv => lhs; rw [← ea, ← eb, h, cmpL_front]

theorem cmpL_at (a b : List UInt8) (j : Nat) (h : a.take j = b.take j) (ha : j < a.length) (hb : j < b.length) : cmpL a b = if a[j] < b[j] then -1 else if b[j] < a[j] then 1 else cmpL (a.drop (j + 1)) (b.drop (j + 1)) := by
  rw [cmpL_take a b j h, List.drop_eq_getElem_cons ha, List.drop_eq_getElem_cons hb]
  rfl


/-- The first place of a byte; -1, if there is none. -/
def firstB : List UInt8 → UInt8 → Int
  | [], _ => -1
  | x :: l, b => if x = b then 0 else if firstB l b < 0 then -1 else firstB l b + 1

theorem firstB_at : ∀ (l : List UInt8) (b : UInt8) (j : Nat) (h : j < l.length), (∀ i (hi : i < j), l[i]'(by omega) ≠ b) → l[j] = b → firstB l b = j
  | x :: l, b, 0, _, _, he => by simp at he; simp [firstB, he]
  | x :: l, b, j + 1, h, hn, he => by
    have h0 : x ≠ b := hn 0 (by omega)
    have ih := firstB_at l b j (by simpa using h) (fun i hi => by have := hn (i + 1) (by omega); simpa using this) (by simpa using he)
    rw [firstB, if_neg h0, ih]
    rw [if_neg (by omega)]
    omega

theorem firstB_none : ∀ (l : List UInt8) (b : UInt8), (∀ i (hi : i < l.length), l[i] ≠ b) → firstB l b = -1
  | [], b, _ => rfl
  | x :: l, b, hn => by
    have h0 : x ≠ b := hn 0 (by simp)
    have ih := firstB_none l b (fun i hi => by have := hn (i + 1) (by simpa using hi); simpa using this)
    rw [firstB, if_neg h0, ih]
    rfl

/-- The last place of a byte; -1, if there is none. -/
def lastB : List UInt8 → UInt8 → Int
  | [], _ => -1
  | x :: l, b => if 0 ≤ lastB l b then lastB l b + 1 else if x = b then 0 else -1

theorem lastB_none : ∀ (l : List UInt8) (b : UInt8), (∀ i (hi : i < l.length), l[i] ≠ b) → lastB l b = -1
  | [], b, _ => rfl
  | x :: l, b, hn => by
    have h0 : x ≠ b := hn 0 (by simp)
    have ih := lastB_none l b (fun i hi => by have := hn (i + 1) (by simpa using hi); simpa using this)
    rw [lastB, ih, if_neg (by omega), if_neg h0]

theorem lastB_at : ∀ (l : List UInt8) (b : UInt8) (j : Nat) (h : j < l.length), (∀ i (hi : i < l.length), j < i → l[i] ≠ b) → l[j] = b → lastB l b = j
  | x :: l, b, 0, _, hn, he => by
    have ih := lastB_none l b (fun i hi => by have := hn (i + 1) (by simpa using hi) (by omega); simpa using this)
    simp at he
    rw [lastB, ih, if_neg (by omega), if_pos he]; rfl
  | x :: l, b, j + 1, h, hn, he => by
    have ih := lastB_at l b j (by simpa using h) (fun i hi hji => by have := hn (i + 1) (by simpa using hi) (by omega); simpa using this) (by simpa using he)
    rw [lastB, ih, if_pos (by omega)]
    omega

theorem u8_int {x y : UInt8} : ((x.toNat : Nat) : Int) = ((y.toNat : Nat) : Int) ↔ x = y := by
  rw [← UInt8.toNat_inj]; omega


end Go.Proofs.YtiahholgpbjjfaaDoor
