/- Plain theory of white space: the test of it, the list of its code points, trims and fields of a text of ASCII. No program is in sight. -/
import Derived.Test.YthbfdajbajijeaaDoorAsciiP
import Derived.Test.YthbfdajbajijeaaDoorFieldsP
import Derived.Lib.SpaceR
import Derived.Lib.Space
namespace Go.Proofs.YthbfdajbajijeaaDoor

/-- White space. -/
def wsP (r : Int) : Bool := if 0 ≤ r then Lib.isSpaceR r.toNat else false

theorem wsP_iff (r : Int) : wsP r = true ↔ (9 ≤ r ∧ r ≤ 13) ∨ r = 32 ∨ r = 133 ∨ r = 160 ∨ r = 5760 ∨ (8192 ≤ r ∧ r ≤ 8202) ∨ r = 8232 ∨ r = 8233 ∨ r = 8239 ∨ r = 8287 ∨ r = 12288 := by
  unfold wsP
  by_cases h : 0 ≤ r
  · rw [if_pos h, Lib.isSpaceR_iff]
    unfold Lib.IsSpaceP
    omega
  · rw [if_neg h]
    constructor
    · intro e; cases e
    · omega
theorem wsP_false {r : Int} (h : ¬ ((9 ≤ r ∧ r ≤ 13) ∨ r = 32 ∨ r = 133 ∨ r = 160 ∨ r = 5760 ∨ (8192 ≤ r ∧ r ≤ 8202) ∨ r = 8232 ∨ r = 8233 ∨ r = 8239 ∨ r = 8287 ∨ r = 12288)) : wsP r = false := by
  rw [Bool.eq_false_iff]
  intro e
  exact h ((wsP_iff r).1 e)

/-- The code points below k that are white space. -/
def blankR (k : Nat) : List Int := ((List.range k).filter fun n : Nat => wsP (n : Int)).map fun n : Nat => (n : Int)
theorem blankR_zero : blankR 0 = [] := rfl
theorem blankR_succ (k : Nat) : blankR (k + 1) = blankR k ++ (if wsP k then [(k : Int)] else []) := by
  unfold blankR
  rw [List.range_succ, List.filter_append, List.map_append]
  congr 1
  by_cases h : wsP k
  · simp [h]
  · simp [h]
theorem blankR_len : ∀ k, (blankR k).length ≤ k
  | 0 => Nat.le_refl _
  | k + 1 => by
    rw [blankR_succ, List.length_append]
    have := blankR_len k
    split <;> simp <;> omega
theorem mem_blankR (k : Nat) (r : Int) : r ∈ blankR k ↔ ∃ n : Nat, n < k ∧ wsP n = true ∧ (n : Int) = r := by
  unfold blankR
  rw [List.mem_map]
  constructor
  · rintro ⟨n, hn, e⟩
    rw [List.mem_filter, List.mem_range] at hn
    exact ⟨n, hn.1, hn.2, e⟩
  · rintro ⟨n, h1, h2, e⟩
    exact ⟨n, List.mem_filter.2 ⟨List.mem_range.2 h1, h2⟩, e⟩
theorem holds_blank (r : Int) : holdsT (blankR 12289) false r = wsP r := by
  unfold holdsT
  by_cases h : r ∈ blankR 12289
  · rw [if_pos h]
    obtain ⟨n, _, h2, rfl⟩ := (mem_blankR _ _).1 h
    rw [h2]; rfl
  · rw [if_neg h]
    symm
    rw [Bool.eq_false_iff]
    intro e
    have hr := (wsP_iff r).1 e
    refine h ((mem_blankR _ _).2 ⟨r.toNat, by omega, ?_, by omega⟩)
    rw [Int.toNat_of_nonneg (by omega)]
    exact e
theorem holds_blank' : holdsT (blankR 12289) false = wsP := funext holds_blank

/-- White space of ASCII, as the library's table has it. -/
theorem isSp_ws (b : UInt8) (h : b.toNat < 128) : Lib.isSp b = wsP b.toNat := by
  rw [Bool.eq_iff_iff, wsP_iff]
  unfold Lib.isSp
  simp only [Bool.or_eq_true, beq_iff_eq, ← UInt8.toNat_inj, UInt8.reduceToNat]
  omega
theorem isSp_high (b : UInt8) (h : 128 ≤ b.toNat) : Lib.isSp b = false := by
  rw [Bool.eq_false_iff]
  unfold Lib.isSp
  simp only [Bool.or_eq_true, beq_iff_eq, ← UInt8.toNat_inj, UInt8.reduceToNat, ne_eq]
  omega

/-- What the walk of TrimSpace has found at a place. -/
theorem ts_high (l : List UInt8) (k : Nat) (hk : ∀ b ∈ l.take k, b.toNat < 128 ∧ wsP b.toNat = true) : tB wsP l = tB wsP (l.drop k) := by
  have := t_front wsP (l.take k) (l.drop k) (fun b hb => (hk b hb).1) (fun b hb => (hk b hb).2)
  rwa [List.take_append_drop] at this
theorem ts_low (m : List UInt8) (k : Nat) (hk : ∀ b ∈ m.drop k, b.toNat < 128 ∧ wsP b.toNat = true) : tB wsP m = tB wsP (m.take k) := by
  have := t_back wsP (m.take k) (m.drop k) (fun b hb => (hk b hb).1) (fun b hb => (hk b hb).2)
  rwa [List.take_append_drop] at this
theorem ts_none (l : List UInt8) (hk : ∀ b ∈ l, b.toNat < 128 ∧ wsP b.toNat = true) : tB wsP l = [] := t_all wsP l (fun b hb => (hk b hb).1) (fun b hb => (hk b hb).2)
theorem ts_stay (m : List UInt8) (k : Nat) (hk : k < m.length) (h0 : (m[0]'(by omega)).toNat < 128) (w0 : wsP (m[0]'(by omega)).toNat = false) (h1 : m[k].toNat < 128) (w1 : wsP m[k].toNat = false)
    (hr : ∀ b ∈ m.drop (k + 1), b.toNat < 128 ∧ wsP b.toNat = true) : tB wsP m = m.take (k + 1) := by
  rw [ts_low m (k + 1) hr]
  have e1 : m.take (k + 1) = m[0] :: (m.take (k + 1)).tail := by
    cases m with
    | nil => simp at hk
    | cons x m => simp
  have e2 : m.take (k + 1) = m.take k ++ [m[k]] := List.take_succ_eq_append_getElem hk
  unfold tB
  have a1 : tlB wsP (m.take (k + 1)) = m.take (k + 1) := by
    have := tl_stay wsP m[0] (m.take (k + 1)).tail h0 w0
    rwa [← e1] at this
  rw [a1]
  have := tr_stay wsP m[k] (m.take k) h1 w1
  rwa [← e2] at this
end Go.Proofs.YthbfdajbajijeaaDoor
