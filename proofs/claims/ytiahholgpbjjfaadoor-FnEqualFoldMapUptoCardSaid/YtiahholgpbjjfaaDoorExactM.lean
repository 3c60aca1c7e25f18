/- Marks on slices of runes, and on a test. Printed by exactm.py out of those on slices of bytes. -/
import Derived.Test.YtiahholgpbjjfaaDoorExactI
namespace Go.Proofs.YtiahholgpbjjfaaDoor
open Go.RowKit

theorem Fr.cell {lo hi : Nat} {w w' : World} (h : Fr lo hi w w') {p : Addr} {v : Value} (hd : p.block < lo ∨ hi ≤ p.block) (hc : w.cell? p = some v) : w'.cell? p = some v :=
  (World.cell?_of_block (a := p) (h.block p.block (World.block_lt_of_cell? w p hc) hd)).trans hc

/-- The marksI k, k + 1, .. as runes. -/
def marksI (k n : Nat) : List Int := (List.range n).map fun i => ((k + i : Nat) : Int)

theorem marksI_length (k n : Nat) : (marksI k n).length = n := by simp [marksI]
theorem marksI_succ (k n : Nat) : marksI k (n + 1) = marksI k n ++ [((k + n : Nat) : Int)] := by simp [marksI, List.range_succ]
theorem marksI_get (k n i : Nat) (h : i < (marksI k n).length) : (marksI k n)[i] = ((k + i : Nat) : Int) := by simp [marksI]

/-- The runes l lie from o on in block b, and may be written. -/
def RowAtI (w : World) (b o : Nat) (l : List Int) : Prop := ∀ i (h : i < l.length), w.cell? ⟨b, o + i, none⟩ = some (.int .i32 l[i]) ∧ w.frozen? ⟨b, o + i, none⟩ = false

theorem RowAtI.set {w : World} {b o : Nat} {l : List Int} (h : RowAtI w b o l) (j : Nat) (x : Int) (_hj : j < l.length) : RowAtI (w.setCell ⟨b, o + j, none⟩ (.int .i32 x)) b o (l.set j x) := by
  intro i hi
  have hi' : i < l.length := by simpa using hi
  obtain ⟨h1, h2⟩ := h i hi'
  refine ⟨?_, by rw [World.frozen?_setCell]; exact h2⟩
  by_cases e : j = i
  · subst e
    rw [World.cell?_setCell_same _ _ _ h1]
    simp
  · rw [World.cell?_setCell_other _ _ _ _ (by simp), h1]
    simp [e]

theorem marked_stepI (l : List Int) (k j : Nat) (hj : j < l.length) : ((marksI k j ++ l.drop j).set j ((k + j : Nat) : Int)) = marksI k (j + 1) ++ l.drop (j + 1) := by
  rw [List.set_append_right _ _ (by simp [marksI_length]), marksI_length, Nat.sub_self, List.drop_eq_getElem_cons hj, List.set_cons_zero, marksI_succ, List.append_assoc]
  rfl

/-- A mark's answer. -/
def RetMarkI (lo hi : Nat) (v : Value) (K : Int) (k n : Nat) (w : World) (e : Ending) (w' : World) : Prop :=
  e = .returned (.int .i64 (K + (n : Int))) ∧ OwnI lo hi w' v (marksI k n) ∧ Fr lo hi w w'




end Go.Proofs.YtiahholgpbjjfaaDoor
