/- utf8.RuneCount, bytes.Runes, impl.Runes, spec.Runes. -/
import Derived.Test.YtiahholgpbjjfaaDoorDec
import Derived.Test.YtiahholgpbjjfaaDoorExactM
import Derived.Test.YtiahholgpbjjfaaDoorSub
import Derived.Shelf.Spec.RuneCount
namespace Go.Proofs.YtiahholgpbjjfaaDoor
open Go.RowKit

theorem decode_dec (l : List UInt8) (i : Nat) (h : i < l.length) : Utf8.decode ⟨l.toArray⟩ i = dec (l.drop i) := by
  have hs : (⟨l.toArray⟩ : ByteArray).size = l.length := rfl
  rw [Lib.decode_at, hs]
  rw [← Lib.getD_get!, ← Lib.getD_get!, ← Lib.getD_get!, ← Lib.getD_get!]
  show Lib.decodeN _ (l.toArray.toList.getD i 0).toNat (l.toArray.toList.getD (i + 1) 0).toNat (l.toArray.toList.getD (i + 2) 0).toNat (l.toArray.toList.getD (i + 3) 0).toNat = _
  have e : ∀ k, l.getD (i + k) 0 = (l.drop i).getD k 0 := by
    intro k
    simp only [List.getD_eq_getElem?_getD, List.getElem?_drop]
  have e0 := e 0
  rw [Nat.add_zero] at e0
  rw [e0, e 1, e 2, e 3]
  cases hd : l.drop i with
  | nil =>
    have := congrArg List.length hd
    simp at this; omega
  | cons b t =>
    have hl : l.length - i = t.length + 1 := by
      have := congrArg List.length hd
      simpa using this
    rw [hl]
    rfl

theorem runeCount_from (l : List UInt8) : ∀ (fuel i : Nat), l.length ≤ i + fuel → Lib.runeCountFrom ⟨l.toArray⟩ fuel i = (chunks (l.drop i)).length
  | 0, i, h => by
    rw [List.drop_of_length_le (by omega)]; rfl
  | f + 1, i, h => by
    unfold Lib.runeCountFrom
    have hs : (⟨l.toArray⟩ : ByteArray).size = l.length := rfl
    by_cases hi : i < l.length
    · have hne : l.drop i ≠ [] := by
        intro e
        have := congrArg List.length e
        simp at this; omega
      have hsz := dec_size hne
      rw [if_pos (by rw [hs]; exact hi), decode_dec l i hi, runeCount_from l f _ (by omega), chunks_cons hne, List.drop_drop, List.length_cons]
      omega
    · rw [if_neg (by rw [hs]; exact hi), List.drop_of_length_le (by omega)]; rfl

theorem runeCount_chunks (l : List UInt8) : Lib.runeCount ⟨l.toArray⟩ = (chunks l).length := by
  have := runeCount_from l l.length 0 (by omega)
  rw [List.drop_zero] at this
  exact this


theorem runesOf_take (cs : List Ch) (j : Nat) : runesOf (cs.take j) = (runesOf cs).take j := by simp [runesOf]
theorem runesOf_length (cs : List Ch) : (runesOf cs).length = cs.length := by simp [runesOf]

theorem runes_len (l : List UInt8) : (runesOf (chunks l)).length ≤ l.length := by
  rw [runesOf_length]; exact chunks_length l
theorem owns_ownI {B : Nat} {e : TypeId} {w : World} {v : Value} {rs : List Int} (h : w.ownsRow B e 1 v rs.length (rs.map (Value.int .i32))) : OwnI B w.heap.size w v rs := by
  have hlt := owns_lt h
  obtain ⟨h1, h2⟩ := h
  rcases h2 with ⟨rfl, h0⟩ | ⟨g, cap, cur, rfl, hg, hh, hn, hc, hs, ht⟩
  · have : rs = [] := List.eq_nil_of_length_eq_zero h0
    subst this
    exact ⟨none, 0, rfl, Nat.le_refl _, Nat.zero_le _, .inl rfl⟩
  · refine ⟨_, cap, rfl, hn, hc, .inr ⟨g, 0, rfl, hg, (hlt g rfl).2, fun i hi => ⟨?_, ?_⟩⟩⟩
    · rw [Nat.zero_add]
      have e1 : cur[i]? = some (.int .i32 rs[i]) := by
        have e2 : (rs.map (Value.int .i32))[i]? = some (.int .i32 rs[i]) := by simp [hi]
        rw [← ht, List.getElem?_take] at e2
        rw [if_pos (by omega)] at e2
        simpa using e2
      simp [World.cell?, hh, e1]
    · simp [World.frozen?, hh]
/-- A call's answer: a row of its own. -/
def RetRow (w : World) (T : TypeId) (size n : Nat) (xs : List Value) (e : Ending) (w' : World) : Prop := ∃ v, e = .returned v ∧ w'.ownsRow w.heap.size T size v n xs ∧ Ext w w'
end Go.Proofs.YtiahholgpbjjfaaDoor
