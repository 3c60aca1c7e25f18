/- Plain laws on lists of bytes: the comparison byte by byte. No program is in sight. -/
import Derived.WalkKit
namespace Go.Proofs.YtiahholgpbjjfaaDoor

/-- Byte by byte: -1, 0 or 1. -/
def cmpL : List UInt8 → List UInt8 → Int
  | [], [] => 0
  | [], _ :: _ => -1
  | _ :: _, [] => 1
  | x :: a, y :: b => if x < y then -1 else if y < x then 1 else cmpL a b

theorem u8_lt {x y : UInt8} : x < y ↔ x.toNat < y.toNat := UInt8.lt_iff_toNat_lt
theorem u8_eq {x y : UInt8} (h1 : ¬ x < y) (h2 : ¬ y < x) : x = y := by
  rw [u8_lt] at h1 h2
  exact UInt8.toNat_inj.1 (by omega)
theorem u8_irr (x : UInt8) : ¬ x < x := by rw [u8_lt]; omega

theorem cmpL_self : ∀ a, cmpL a a = 0
  | [] => rfl
  | x :: a => by simp [cmpL, cmpL_self a]

theorem cmpL_front (p a b : List UInt8) : cmpL (p ++ a) (p ++ b) = cmpL a b := by
  induction p with
  | nil => rfl
  | cons x p ih => simp [cmpL, ih]

theorem cmpL_pre : ∀ (a b : List UInt8), b ≠ [] → cmpL a (a ++ b) = -1
  | [], [], h => (h rfl).elim
  | [], _ :: _, _ => rfl
  | x :: a, b, h => by simp [cmpL, cmpL_pre a b h]

theorem cmpL_range : ∀ (a b : List UInt8), cmpL a b = -1 ∨ cmpL a b = 0 ∨ cmpL a b = 1
  | [], [] => .inr (.inl rfl)
  | [], _ :: _ => .inl rfl
  | _ :: _, [] => .inr (.inr rfl)
  | x :: a, y :: b => by
    unfold cmpL
    split
    · exact .inl rfl
    · split
      · exact .inr (.inr rfl)
      · exact cmpL_range a b

theorem cmpL_neg : ∀ (a b : List UInt8), cmpL b a = - cmpL a b
  | [], [] => rfl
  | [], _ :: _ => rfl
  | _ :: _, [] => rfl
  | x :: a, y :: b => by
    unfold cmpL
    by_cases h1 : x < y
    · have h2 : ¬ y < x := by rw [u8_lt] at *; omega
      simp [h1, h2]
    · by_cases h2 : y < x
      · simp [h1, h2]
      · simp [h1, h2, cmpL_neg a b]

theorem cmpL_zero : ∀ (a b : List UInt8), cmpL a b = 0 ↔ a = b
  | [], [] => by simp [cmpL]
  | [], _ :: _ => by simp [cmpL]
  | _ :: _, [] => by simp [cmpL]
  | x :: a, y :: b => by
    unfold cmpL
    by_cases h1 : x < y
    · have : x ≠ y := fun e => u8_irr y (e ▸ h1)
      simp [h1, this]
    · by_cases h2 : y < x
      · have : x ≠ y := fun e => u8_irr y (e ▸ h2)
        simp [h1, h2, this]
      · obtain rfl := u8_eq h1 h2
        simp [h1, cmpL_zero a b]

/-- Of three on. -/
theorem cmpL_trans : ∀ (a b c : List UInt8), cmpL a b ≤ 0 → cmpL b c ≤ 0 → cmpL a c ≤ 0 ∧ (cmpL a c = 0 ↔ cmpL a b = 0 ∧ cmpL b c = 0)
  | [], [], [], _, _ => by simp [cmpL]
  | [], [], _ :: _, _, _ => by simp [cmpL]
  | [], _ :: _, [], _, h => by simp [cmpL] at h
  | [], _ :: _, _ :: _, _, _ => by simp [cmpL]
  | _ :: _, [], _, h, _ => by simp [cmpL] at h
  | _ :: _, _ :: _, [], _, h => by simp [cmpL] at h
  | x :: a, y :: b, z :: c, h1, h2 => by
    unfold cmpL at h1 h2 ⊢
    have ih := cmpL_trans a b c
    by_cases p1 : x < y
    · by_cases q1 : y < z
      · have : x < z := by rw [u8_lt] at *; omega
        simp [p1, this]
      · by_cases q2 : z < y
        · simp [q1, q2] at h2
        · obtain rfl := u8_eq q1 q2
          simp [p1]
    · by_cases p2 : y < x
      · simp [p1, p2] at h1
      · obtain rfl := u8_eq p1 p2
        by_cases q1 : x < z
        · simp [q1]
        · by_cases q2 : z < x
          · simp [q1, q2] at h2
          · obtain rfl := u8_eq q1 q2
            simp at h1 h2 ⊢
            exact ih h1 h2

theorem cmp_range : ∀ (a b : List UInt8),
    (match (List.range (min a.length b.length)).find? (fun i => a.getD i 0 != b.getD i 0) with
      | some i => if a.getD i 0 < b.getD i 0 then (-1 : Int) else 1
      | none => if a.length < b.length then -1 else if a.length > b.length then 1 else 0) = cmpL a b
  | [], [] => by simp [cmpL]
  | [], y :: b => by simp [cmpL]
  | x :: a, [] => by simp [cmpL]
  | x :: a, y :: b => by
    have ih := cmp_range a b
    have e : min (x :: a).length (y :: b).length = min a.length b.length + 1 := by simp only [List.length_cons]; omega
    rw [e, List.range_succ_eq_map, List.find?_cons]
    unfold cmpL
    by_cases h1 : x < y
    · have hne : (x != y) = true := by rw [bne_iff_ne]; exact fun e => u8_irr y (e ▸ h1)
      simp [hne, h1]
    · by_cases h2 : y < x
      · have hne : (x != y) = true := by rw [bne_iff_ne]; exact fun e => u8_irr y (e ▸ h2)
        simp [hne, h1, h2]
      · obtain rfl := u8_eq h1 h2
        rw [if_neg h1, if_neg h1, ← ih, List.find?_map]
        have hc : ((fun i => (x :: a).getD i 0 != (x :: b).getD i 0) ∘ Nat.succ) = (fun i => a.getD i 0 != b.getD i 0) := by
          funext i; simp
        rw [hc]
        cases (List.range (min a.length b.length)).find? (fun i => a.getD i 0 != b.getD i 0) with
        | none => simp
        | some i => simp

theorem ba_get (l : List UInt8) (i : Nat) (h : i < l.length) : (ByteArray.mk l.toArray)[i]! = l.getD i 0 := by
  have e1 : (ByteArray.mk l.toArray)[i]! = l[i] := getElem!_pos (ByteArray.mk l.toArray) i h
  rw [e1]; simp [List.getD, List.getElem?_eq_getElem h]

theorem find_congr' {α : Type} {p q : α → Bool} : ∀ {l : List α}, (∀ x ∈ l, p x = q x) → l.find? p = l.find? q
  | [], _ => rfl
  | a :: l, h => by
    rw [List.find?_cons, List.find?_cons, h a (List.mem_cons_self ..), find_congr' fun x hx => h x (List.mem_cons_of_mem _ hx)]

theorem cmp_eq (a b : List UInt8) : Extern.BytealgCompare.cmp ⟨a.toArray⟩ ⟨b.toArray⟩ = cmpL a b := by
  rw [← cmp_range a b]
  unfold Extern.BytealgCompare.cmp
  have hf : (List.range (min (ByteArray.mk a.toArray).size (ByteArray.mk b.toArray).size)).find? (fun i => (ByteArray.mk a.toArray)[i]! != (ByteArray.mk b.toArray)[i]!) = (List.range (min a.length b.length)).find? (fun i => a.getD i 0 != b.getD i 0) := by
    apply find_congr'
    intro i hi
    have hi' := List.mem_range.1 hi
    have ha : i < a.length := by have : i < min a.length b.length := hi'; omega
    have hb : i < b.length := by have : i < min a.length b.length := hi'; omega
    rw [ba_get a i ha, ba_get b i hb]
  rw [hf]
  cases hc : (List.range (min a.length b.length)).find? (fun i => a.getD i 0 != b.getD i 0) with
  | none => rfl
  | some i =>
    have hi' := List.mem_range.1 (List.mem_of_find?_eq_some hc)
    simp only
    rw [ba_get a i (by omega), ba_get b i (by omega)]
end Go.Proofs.YtiahholgpbjjfaaDoor
