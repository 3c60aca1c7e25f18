/- Plain theory: what the specification says of the sequence at a place is what the decoder finds there. No program is in sight. -/
import Derived.Test.YtiahholgpbjjfaaDoorRunes
namespace Go.Proofs.YtiahholgpbjjfaaDoor

def isCont (b : UInt8) : Bool := decide (128 ≤ b.toNat) && decide (b.toNat ≤ 191)

/-- The first k bytes are there, and are bytes of 80 to bf. -/
def foll (m : List UInt8) (k : Nat) : Bool := decide (k ≤ m.length) && (m.take k).all isCont

def seqN (b0 b1 : Nat) (f1 f2 f3 : Bool) : Nat :=
  if b0 < 128 then 1
  else if (194 ≤ b0 ∧ b0 ≤ 223) ∧ f1 = true then 2
  else if (224 ≤ b0 ∧ b0 ≤ 239) ∧ f2 = true then (if b0 = 224 ∧ b1 < 160 ∨ b0 = 237 ∧ 159 < b1 then 0 else 3)
  else if (240 ≤ b0 ∧ b0 ≤ 244) ∧ f3 = true then (if b0 = 240 ∧ b1 < 144 ∨ b0 = 244 ∧ 143 < b1 then 0 else 4)
  else 0

/-- How many bytes the well-formed sequence at the front has; 0, if there is none. -/
def seqL (m : List UInt8) : Nat := seqN (m.getD 0 0).toNat (m.getD 1 0).toNat (foll (m.drop 1) 1) (foll (m.drop 1) 2) (foll (m.drop 1) 3)

theorem foll_one (t : List UInt8) : foll t 1 = true ↔ 1 ≤ t.length ∧ 128 ≤ (t.getD 0 0).toNat ∧ (t.getD 0 0).toNat ≤ 191 := by
  cases t with
  | nil => simp [foll]
  | cons a t => simp [foll, isCont]
theorem foll_two (t : List UInt8) : foll t 2 = true ↔ 2 ≤ t.length ∧ (128 ≤ (t.getD 0 0).toNat ∧ (t.getD 0 0).toNat ≤ 191) ∧ 128 ≤ (t.getD 1 0).toNat ∧ (t.getD 1 0).toNat ≤ 191 := by
  match t with
  | [] => simp [foll]
  | [a] => simp [foll]
  | a :: b :: t => simp [foll, isCont]
theorem foll_three (t : List UInt8) : foll t 3 = true ↔ 3 ≤ t.length ∧ (128 ≤ (t.getD 0 0).toNat ∧ (t.getD 0 0).toNat ≤ 191) ∧ (128 ≤ (t.getD 1 0).toNat ∧ (t.getD 1 0).toNat ≤ 191) ∧ 128 ≤ (t.getD 2 0).toNat ∧ (t.getD 2 0).toNat ≤ 191 := by
  match t with
  | [] => simp [foll]
  | [a] => simp [foll]
  | [a, b] => simp [foll]
  | a :: b :: c :: t => simp [foll, isCont]

set_option maxRecDepth 100000 in
set_option maxHeartbeats 4000000 in
theorem seqN_dec (n b0 b1 b2 b3 : Nat) (f1 f2 f3 : Bool) (h0 : b0 < 256) (h1 : b1 < 256) (h2 : b2 < 256) (h3 : b3 < 256)
    (e1 : f1 = true ↔ 1 ≤ n ∧ 128 ≤ b1 ∧ b1 ≤ 191) (e2 : f2 = true ↔ 2 ≤ n ∧ (128 ≤ b1 ∧ b1 ≤ 191) ∧ 128 ≤ b2 ∧ b2 ≤ 191) (e3 : f3 = true ↔ 3 ≤ n ∧ (128 ≤ b1 ∧ b1 ≤ 191) ∧ (128 ≤ b2 ∧ b2 ≤ 191) ∧ 128 ≤ b3 ∧ b3 ≤ 191) :
    seqN b0 b1 f1 f2 f3 = if b0 < 128 ∨ 2 ≤ (Lib.decodeN (n + 1) b0 b1 b2 b3).2 then (Lib.decodeN (n + 1) b0 b1 b2 b3).2 else 0 := by
  unfold seqN Lib.decodeN
  simp only [e1, e2, e3]
  by_cases ha : b0 < 128
  · simp [ha]
  by_cases hb : b0 < 194
  · simp only [ha, if_false, false_or]
    repeat' split
    all_goals (first | rfl | omega)
  by_cases hc : b0 < 224
  · simp only [ha, if_false, false_or]
    repeat' split
    all_goals (first | rfl | omega)
  by_cases hd : b0 < 240
  · simp only [ha, if_false, false_or]
    repeat' split
    all_goals (first | rfl | omega)
  · simp only [ha, if_false, false_or]
    repeat' split
    all_goals (first | rfl | omega)

theorem seqL_dec {m : List UInt8} (hm : m ≠ []) : seqL m = if decOk m then (dec m).2 else 0 := by
  cases m with
  | nil => exact (hm rfl).elim
  | cons b t =>
    unfold seqL
    have := seqN_dec t.length b.toNat (t.getD 0 0).toNat (t.getD 1 0).toNat (t.getD 2 0).toNat (foll t 1) (foll t 2) (foll t 3) b.toNat_lt (UInt8.toNat_lt _) (UInt8.toNat_lt _) (UInt8.toNat_lt _) (foll_one t) (foll_two t) (foll_three t)
    simp only [List.getD_cons_zero, List.getD_cons_succ, List.drop_succ_cons, List.drop_zero]
    rw [this]
    unfold decOk dec
    simp only [List.getD_cons_zero, Bool.or_eq_true, decide_eq_true_eq]

def lead (k : Nat) : Nat := if k = 2 then 192 else if k = 3 then 224 else if k = 4 then 240 else 0

/-- The code point that grows byte by byte. -/
def ptv (m : List UInt8) (k : Nat) : Nat → Int
  | 0 => ((m.getD 0 0).toNat : Int) - lead k
  | i + 1 => 64 * ptv m k i + (m.getD (i + 1) 0).toNat - 128

set_option maxRecDepth 100000 in
set_option maxHeartbeats 4000000 in
theorem decodeN_parts (n b0 b1 b2 b3 : Nat) (h0 : b0 < 256) (h1 : b1 < 256) (h2 : b2 < 256) (h3 : b3 < 256) :
    let d := Lib.decodeN n b0 b1 b2 b3
    (b0 < 128 ∧ d = (b0, 1)) ∨ (128 ≤ b0 ∧ d.2 < 2) ∨
    (d.2 = 2 ∧ 192 ≤ b0 ∧ b0 ≤ 223 ∧ 128 ≤ b1 ∧ b1 ≤ 191 ∧ (d.1 : Int) = 64 * ((b0 : Int) - 192) + b1 - 128) ∨
    (d.2 = 3 ∧ 224 ≤ b0 ∧ b0 ≤ 239 ∧ 128 ≤ b1 ∧ b1 ≤ 191 ∧ 128 ≤ b2 ∧ b2 ≤ 191 ∧ (d.1 : Int) = 64 * (64 * ((b0 : Int) - 224) + b1 - 128) + b2 - 128) ∨
    (d.2 = 4 ∧ 240 ≤ b0 ∧ b0 ≤ 247 ∧ 128 ≤ b1 ∧ b1 ≤ 191 ∧ 128 ≤ b2 ∧ b2 ≤ 191 ∧ 128 ≤ b3 ∧ b3 ≤ 191 ∧ (d.1 : Int) = 64 * (64 * (64 * ((b0 : Int) - 240) + b1 - 128) + b2 - 128) + b3 - 128) := by
  simp only
  unfold Lib.decodeN
  repeat' split
  · exact .inl ⟨by omega, rfl⟩
  · exact .inr (.inr (.inl ⟨rfl, by omega, by omega, by omega, by omega, by simp only; omega⟩))
  · exact .inr (.inl ⟨by omega, by simp only; omega⟩)
  · exact .inr (.inr (.inr (.inl ⟨rfl, by omega, by omega, by omega, by omega, by omega, by omega, by simp only; omega⟩)))
  · exact .inr (.inl ⟨by omega, by simp only; omega⟩)
  · exact .inr (.inr (.inr (.inr ⟨rfl, by omega, by omega, by omega, by omega, by omega, by omega, by omega, by omega, by simp only; omega⟩)))
  · exact .inr (.inl ⟨by omega, by simp only; omega⟩)
  · exact .inr (.inl ⟨by omega, by simp only; omega⟩)

/-- Of a well-formed sequence of k bytes: the code point, and how it grows. -/
theorem dec_point {m : List UInt8} (hm : m ≠ []) (h : decOk m = true) : ((dec m).1 : Int) = ptv m (dec m).2 ((dec m).2 - 1) ∧ ∀ i, i + 1 < (dec m).2 → 0 ≤ ptv m (dec m).2 i ∧ ptv m (dec m).2 i ≤ 131071 := by
  cases m with
  | nil => exact (hm rfl).elim
  | cons b t =>
    have hp := decodeN_parts (t.length + 1) b.toNat (t.getD 0 0).toNat (t.getD 1 0).toNat (t.getD 2 0).toNat b.toNat_lt (UInt8.toNat_lt _) (UInt8.toNat_lt _) (UInt8.toNat_lt _)
    change (b.toNat < 128 ∧ dec (b :: t) = _) ∨ (128 ≤ b.toNat ∧ (dec (b :: t)).2 < 2) ∨ ((dec (b :: t)).2 = 2 ∧ _ ∧ _ ∧ _ ∧ _ ∧ ((dec (b :: t)).1 : Int) = _) ∨ ((dec (b :: t)).2 = 3 ∧ _ ∧ _ ∧ _ ∧ _ ∧ _ ∧ _ ∧ ((dec (b :: t)).1 : Int) = _) ∨ ((dec (b :: t)).2 = 4 ∧ _ ∧ _ ∧ _ ∧ _ ∧ _ ∧ _ ∧ _ ∧ _ ∧ ((dec (b :: t)).1 : Int) = _) at hp
    have hh : b.toNat < 128 ∨ 2 ≤ (dec (b :: t)).2 := by
      simpa [decOk] using h
    rcases hp with ⟨h1, hd⟩ | ⟨h1, hd⟩ | ⟨hd, q1, q2, q3, q4, hv⟩ | ⟨hd, q1, q2, q3, q4, q5, q6, hv⟩ | ⟨hd, q1, q2, q3, q4, q5, q6, q7, q8, hv⟩
    · rw [hd]
      refine ⟨?_, fun i hi => by omega⟩
      simp [ptv, lead]
    · omega
    · rw [hd]
      refine ⟨by rw [hv]; simp [ptv, lead], fun i hi => ?_⟩
      have : i = 0 := by omega
      subst this
      simp [ptv, lead]
      omega
    · rw [hd]
      refine ⟨by rw [hv]; simp [ptv, lead], fun i hi => ?_⟩
      have : i = 0 ∨ i = 1 := by omega
      rcases this with rfl | rfl
      · simp [ptv, lead]; omega
      · simp only [ptv, lead, List.getD_cons_zero, List.getD_cons_succ, Nat.reduceEqDiff, if_true, if_false]; omega
    · rw [hd]
      refine ⟨by rw [hv]; simp [ptv, lead], fun i hi => ?_⟩
      have : i = 0 ∨ i = 1 ∨ i = 2 := by omega
      rcases this with rfl | rfl | rfl
      · simp [ptv, lead]; omega
      · simp only [ptv, lead, List.getD_cons_zero, List.getD_cons_succ, Nat.reduceEqDiff, if_true, if_false]; omega
      · simp only [ptv, lead, List.getD_cons_zero, List.getD_cons_succ, Nat.reduceEqDiff, if_true, if_false]; omega
end Go.Proofs.YtiahholgpbjjfaaDoor
