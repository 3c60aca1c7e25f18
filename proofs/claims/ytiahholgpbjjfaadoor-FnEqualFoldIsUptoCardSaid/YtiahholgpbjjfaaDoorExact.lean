/- Contracts of the helpers of the exact laws: a copy of a slice of bytes, the comparison of two, marks written into one, marks read again. Conditions: lengths within 2^48 bytes. -/
import Derived.Test.YtiahholgpbjjfaaDoorBase
import Derived.Test.YtiahholgpbjjfaaDoorRows
namespace Go.Proofs.YtiahholgpbjjfaaDoor
open Go.RowKit

theorem info_u8 : (Tryd.prog.info? 5).map (fun i => (i.zero, i.size, i.bytes)) = some (some (.int .u8 0), 1, 1) := by kernel_rfl

/-- What has been copied so far. -/
theorem copied_step (l : List UInt8) (j : Nat) (hj : j < l.length) : ((l.take j ++ List.replicate (l.length - j) 0).set j l[j]) = l.take (j + 1) ++ List.replicate (l.length - (j + 1)) 0 := by
  have e : l.length - j = (l.length - (j + 1)) + 1 := by omega
  rw [e, List.replicate_succ, List.set_append_right _ _ (by simp; omega)]
  simp only [List.length_take, Nat.min_eq_left (Nat.le_of_lt hj), Nat.sub_self, List.set_cons_zero]
  rw [List.take_succ_eq_append_getElem hj, List.append_assoc]
  simp



/-- The marks k, k + 1, .. as bytes. -/
def marks (k n : Nat) : List UInt8 := (List.range n).map fun i => (k + i).toUInt8

theorem marks_length (k n : Nat) : (marks k n).length = n := by simp [marks]
theorem marks_succ (k n : Nat) : marks k (n + 1) = marks k n ++ [(k + n).toUInt8] := by simp [marks, List.range_succ]
theorem marks_get (k n i : Nat) (h : i < (marks k n).length) : (marks k n)[i] = (k + i).toUInt8 := by simp [marks]

/-- The bytes l lie from o on in block b, and may be written. -/
def RowAt (w : World) (b o : Nat) (l : List UInt8) : Prop := ∀ i (h : i < l.length), w.cell? ⟨b, o + i, none⟩ = some (.int .u8 (l[i].toNat : Int)) ∧ w.frozen? ⟨b, o + i, none⟩ = false

theorem RowAt.set {w : World} {b o : Nat} {l : List UInt8} (h : RowAt w b o l) (j : Nat) (x : UInt8) (_hj : j < l.length) : RowAt (w.setCell ⟨b, o + j, none⟩ (.int .u8 (x.toNat : Int))) b o (l.set j x) := by
  intro i hi
  have hi' : i < l.length := by simpa using hi
  obtain ⟨h1, h2⟩ := h i hi'
  refine ⟨?_, by rw [World.frozen?_setCell]; exact h2⟩
  by_cases e : j = i
  · subst e
    rw [World.cell?_setCell_same _ _ _ h1]
    simp
  · rw [World.cell?_setCell_other _ _ _ _ (by simp), h1]
    simp [e]

theorem u8_mark (n : Nat) : ((n.toUInt8.toNat : Nat) : Int) = (n : Int) % 256 := by
  simp [Nat.toUInt8, UInt8.toNat_ofNat']

theorem marked_step (l : List UInt8) (k j : Nat) (hj : j < l.length) : ((marks k j ++ l.drop j).set j (k + j).toUInt8) = marks k (j + 1) ++ l.drop (j + 1) := by
  rw [List.set_append_right _ _ (by simp [marks_length]), marks_length, Nat.sub_self, List.drop_eq_getElem_cons hj, List.set_cons_zero, marks_succ, List.append_assoc]
  rfl

/-- A mark's answer. -/
def RetMark (lo hi : Nat) (v : Value) (K : Int) (k n : Nat) (w : World) (e : Ending) (w' : World) : Prop :=
  e = .returned (.int .i64 (K + (n : Int))) ∧ Own lo hi w' v (marks k n) ∧ Fr lo hi w w'



end Go.Proofs.YtiahholgpbjjfaaDoor
