/- Marks on slices of runes, and on a test. Printed by exactm.py out of those on slices of bytes. -/
import Derived.Test.YtddakfdlgfadeaaDoorExactI
namespace Go.Proofs.YtddakfdlgfadeaaDoor
open Go.RowKit

theorem Fr.cell {lo hi : Nat} {w w' : World} (h : Fr lo hi w w') {p : Addr} {v : Value} (hd : p.block < lo ∨ hi ≤ p.block) (hc : w.cell? p = some v) : w'.cell? p = some v :=
  (World.cell?_of_block (a := p) (h.block p.block (World.block_lt_of_cell? w p hc) hd)).trans hc

/-- The marksI k, k + 1, .. as runes. -/
def marksI (k n : Nat) : List Int := (List.range n).map fun i => ((k + i : Nat) : Int)

theorem marksI_length (k n : Nat) : (marksI k n).length = n := by simp [marksI]
theorem marksI_succ (k n : Nat) : marksI k (n + 1) = marksI k n ++ [((k + n : Nat) : Int)] := by simp [marksI, List.range_succ]
theorem marksI_get (k n i : Nat) (h : i < (marksI k n).length) : (marksI k n)[i] = ((k + i : Nat) : Int) := by simp [marksI]

/-- The runes l lie from o on in block b, and may be written. -/
def RowAtI (w : World) (b o : Nat) (l : List Int) : Prop := ∀ i (h : i < l.length), w.cell? ⟨b, o + i, none⟩ = some (.int .i32 l[i]) ∧ w.frozen? ⟨b, o + i, none⟩ = false

theorem RowAtI.set {w : World} {b o : Nat} {l : List Int} (h : RowAtI w b o l) (j : Nat) (x : Int) (_hj : j < l.length) : RowAtI (w.setCell ⟨b, o + j, none⟩ (.int .i32 x)) b o (l.set j x) := by
  intro i hi
  have hi' : i < l.length := by simpa using hi
  obtain ⟨h1, h2⟩ := h i hi'
  refine ⟨?_, by rw [World.frozen?_setCell]; exact h2⟩
  by_cases e : j = i
  · subst e
    rw [World.cell?_setCell_same _ _ _ h1]
    simp
  · rw [World.cell?_setCell_other _ _ _ _ (by simp), h1]
    simp [e]

theorem marked_stepI (l : List Int) (k j : Nat) (hj : j < l.length) : ((marksI k j ++ l.drop j).set j ((k + j : Nat) : Int)) = marksI k (j + 1) ++ l.drop (j + 1) := by
  rw [List.set_append_right _ _ (by simp [marksI_length]), marksI_length, Nat.sub_self, List.drop_eq_getElem_cons hj, List.set_cons_zero, marksI_succ, List.append_assoc]
  rfl

/-- A mark's answer. -/
def RetMarkI (lo hi : Nat) (v : Value) (K : Int) (k n : Nat) (w : World) (e : Ending) (w' : World) : Prop :=
  e = .returned (.int .i64 (K + (n : Int))) ∧ OwnI lo hi w' v (marksI k n) ∧ Fr lo hi w w'

theorem laws_markInt32S (v : Value) (l : List Int) (K : Int) (k lo hi : Nat) (w : World) (h : OwnI lo hi w v l) (hK : K = (k : Int)) (hk : k + l.length ≤ 2147483647) :
    Calls Tryd.prog 29 #[v, .int .i64 K] w (RetMarkI lo hi v K k l.length w) := by
  subst hK
  obtain ⟨a, c, rfl, h1, h2, h3⟩ := h
  by_cases hl : l = []
  · subst hl
    simp only [List.length_nil]
    go_enter Tryd.func29, Tryd.ntmps29
    go_wp2_with fail
    go_loopg [1, 5] 0 (fun gk q i wr => i = .int .i64 0 ∧ q = .int .i64 (k : Int) ∧ w = wr)
    case atStart => exact ⟨rfl, rfl, rfl⟩
    case round =>
      obtain ⟨rfl, rfl, rfl⟩ := hrel
      go_wp2_with fail
      go_ret
      exact ⟨by simp only [Int.natCast_zero, Int.add_zero]; rfl, ⟨a, c, rfl, Nat.zero_le _, h2, .inl rfl⟩, Fr.refl _ _ _⟩
  obtain ⟨b, o, rfl, b1, b2, hc⟩ := h3.resolve_left hl
  have hc' : RowAtI w b o l := hc
  have hne : 0 < l.length := List.length_pos_iff.2 hl
  clear h3 hc hl
  go_enter Tryd.func29, Tryd.ntmps29
  go_wp2_with fail
  go_loopg [1, 5] l.length (fun gk q i wr => ∃ j : Nat, j + gk = l.length ∧ i = .int .i64 j ∧ q = .int .i64 ((k : Int) + (j : Int)) ∧ RowAtI wr b o (marksI k j ++ l.drop j) ∧ Fr lo hi w wr)
  case atStart => exact ⟨0, by omega, rfl, by simp, by simpa [marksI] using hc', Fr.refl _ _ _⟩
  case round =>
    obtain ⟨j, hj, rfl, rfl, hr, hx⟩ := hrel
    have HJ := Lib.hid hj
    by_cases hlt : j < l.length
    · have hg : 0 < gk := by omega
      have hjm : j < (marksI k j ++ l.drop j).length := by simp [marksI_length]; omega
      obtain ⟨z, g1⟩ : ∃ z, wr.cell? ⟨b, o + j, none⟩ = some z := ⟨_, (hr j hjm).1⟩
      have g2 : wr.frozen? ⟨b, o + j, none⟩ = false := (hr j hjm).2
      have hnew := hr.set j ((k + j : Nat) : Int) hjm
      rw [marked_stepI l k j hlt] at hnew
      have HN := Lib.hid hnew
      have HR := Lib.hid hr
      clear hj hnew hr hjm
      go_wp2_with fail
      go_roundg (gk - 1)
      case measure => omega
      case rel =>
        refine ⟨j + 1, by have := HJ.out; omega, by go_num, by go_num, ?_, ?_⟩
        · have := HN.out
          rw [show (((k + j : Nat) : Int)) = (k : Int) + (j : Int) by omega] at this
          exact this
        · exact hx.trans (Fr.setCell b1 b2 _)
    · have ejl : j = l.length := by omega
      subst ejl
      have HR := Lib.hid hr
      clear hj hr
      go_wp2_with fail
      go_ret
      refine ⟨rfl, ?_, hx⟩
      have hr := HR.out
      simp only [List.drop_length, List.append_nil] at hr
      have e1 := marksI_length k l.length
      exact ⟨_, c, by rw [e1], by rw [e1]; exact h1, h2, .inr ⟨b, o, rfl, b1, b2, hr⟩⟩

theorem laws_heldInt32S (v : Value) (K : Int) (k n : Nat) (w : World) (h : Ii w v (marksI k n)) (hK : K = (k : Int)) (hk : k + n ≤ 2147483647) :
    Calls Tryd.prog 30 #[v, .int .i64 K] w (RetV (.int .i64 (K + (n : Int))) w) := by
  subst hK
  have hml := marksI_length k n
  obtain ⟨a, c, rfl, h1, h2, h3⟩ := h
  have HM := Lib.hid hml
  rw [hml] at h1 ⊢
  clear hml
  go_enter Tryd.func30, Tryd.ntmps30
  go_wp2_with fail
  go_loopg [1, 5] n (fun gk q i wr => ∃ j : Nat, j + gk = n ∧ i = .int .i64 j ∧ q = .int .i64 ((k : Int) + (j : Int)) ∧ w = wr)
  case atStart => exact ⟨0, by omega, rfl, by simp, rfl⟩
  case round =>
    obtain ⟨j, hj, rfl, rfl, rfl⟩ := hrel
    have HJ := Lib.hid hj
    by_cases hlt : j < n
    · have hg : 0 < gk := by omega
      have hjm : j < (marksI k n).length := by have := HM.out; omega
      rcases h3 with h3 | ⟨b, o, rfl, hc⟩
      · rw [h3] at hjm; simp at hjm
      have g1 := hc j hjm
      rw [marksI_get] at g1
      have g2 : w.cell? ⟨b, o + j, none⟩ = some (.int .i32 ((k : Int) + (j : Int))) := by rw [g1]; simp
      have e1 : (((k : Int) + (j : Int)) != ((k : Int) + (j : Int))) = false := by simp
      clear hj hc g1
      go_wp2_with fail
      go_roundg (gk - 1)
      case measure => omega
      case rel => exact ⟨j + 1, by have := HJ.out; omega, by go_num, by go_num, rfl⟩
    · have ejl : j = n := by omega
      subst ejl
      clear hj
      go_wp2_with fail
      go_ret
      exact ⟨rfl, Ext.refl _⟩


set_option maxRecDepth 100000 in
theorem laws_markTest (v : Value) (l : List Int) (nt : Bool) (K : Int) (k lo hi : Nat) (w : World) (h : OwnI lo hi w v l) (hK : K = (k : Int)) (hk : k + l.length ≤ 2147483647) (_hhi : hi ≤ w.heap.size) :
    Calls Tryd.prog 33 #[.agg #[v, .bool nt], .int .i64 K] w (RetMarkI lo hi v K k l.length w) := by
  subst hK
  have h' := fun A => h.ext (Ext.alloc w A)
  obtain ⟨a, c, rfl, _⟩ := h
  go_enter Tryd.func33, Tryd.ntmps33
  go_wp2_with (go_at_call 29; refine (laws_markInt32S _ l _ k lo hi _ (h' _) rfl hk).mono ?_)
  rintro _ w1 ⟨rfl, m1, x1⟩
  go_wp2_with fail
  go_ret
  exact ⟨rfl, m1, ((Ext.alloc w _).fr lo hi).trans x1⟩
end Go.Proofs.YtddakfdlgfadeaaDoor
