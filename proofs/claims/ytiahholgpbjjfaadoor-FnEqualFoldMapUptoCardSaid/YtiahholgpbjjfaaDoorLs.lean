/- Slices of slices of bytes in memory, those of the call's own, and the exact laws' helpers on them; freshAll, copies. -/
import Derived.Test.YtiahholgpbjjfaaDoorAppV
import Derived.Deep.RegionHeld3
namespace Go.Proofs.YtiahholgpbjjfaaDoor
open Go.RowKit

/-- The slice value v holds slices of bytes: the texts L. -/
def Ls (w : World) (v : Value) (L : List (List UInt8)) : Prop :=
  ∃ vs : List Value, Vs w v L.length 1 vs ∧ ∀ i (h : i < L.length) (h' : i < vs.length), Bs w vs[i] L[i]

theorem Ls.ext {w w' : World} {v : Value} {L : List (List UInt8)} (h : Ls w v L) (x : Ext w w') : Ls w' v L := by
  obtain ⟨vs, h1, h2⟩ := h
  exact ⟨vs, h1.ext x, fun i hi hi' => (h2 i hi hi').ext x⟩

theorem Ls.raw {w : World} {v : Value} {L : List (List UInt8)} (h : Ls w v L) : ∃ a c, v = .slice a L.length c ∧ L.length ≤ c ∧ c ≤ maxLen ∧ ∀ i (h : i < L.length), ∃ b o u, a = some ⟨b, o, none⟩ ∧ w.cell? ⟨b, o + i, none⟩ = some u ∧ Bs w u L[i] := by
  obtain ⟨vs, ⟨hl, a, c, hv, h1, h2, h3⟩, hb⟩ := h
  refine ⟨a, c, hv, h1, h2, fun i hi => ?_⟩
  have hi' : i < vs.length := by omega
  rcases h3 with h3 | ⟨b, o, ha, hc⟩
  · rw [h3] at hi'; simp at hi'
  · exact ⟨b, o, vs[i], ha, hc i hi', hb i hi hi'⟩

/-- Texts that lie in blocks one behind the other, none of them block hb. -/
def Chain (w : World) (hb : Nat) : Nat → Nat → List Value → List (List UInt8) → Prop
  | lo, hi, [], [] => lo ≤ hi
  | lo, hi, v :: vs, l :: L => ∃ a b, lo ≤ a ∧ a ≤ b ∧ (hb < a ∨ b ≤ hb) ∧ Own a b w v l ∧ Chain w hb b hi vs L
  | _, _, _, _ => False

theorem Chain.le {w : World} {hb : Nat} : ∀ {lo hi : Nat} {vs : List Value} {L : List (List UInt8)}, Chain w hb lo hi vs L → lo ≤ hi
  | _, _, [], [], h => h
  | _, _, _ :: _, _ :: _, ⟨a, b, h1, h2, _, _, t⟩ => by have := Chain.le t; omega
  | _, _, [], _ :: _, h => h.elim
  | _, _, _ :: _, [], h => h.elim

theorem Chain.length {w : World} {hb : Nat} : ∀ {lo hi : Nat} {vs : List Value} {L : List (List UInt8)}, Chain w hb lo hi vs L → vs.length = L.length
  | _, _, [], [], _ => rfl
  | _, _, _ :: _, _ :: _, ⟨a, b, h1, h2, _, _, t⟩ => by simp [Chain.length t]
  | _, _, [], _ :: _, h => h.elim
  | _, _, _ :: _, [], h => h.elim

theorem Chain.fr {w w' : World} {hb lo' hi' : Nat} (x : Fr lo' hi' w w') : ∀ {lo hi : Nat} {vs : List Value} {L : List (List UInt8)}, Chain w hb lo hi vs L → (hi ≤ lo' ∨ hi' ≤ lo) → Chain w' hb lo hi vs L
  | _, _, [], [], h, _ => h
  | _, _, _ :: _, _ :: _, ⟨a, b, h1, h2, h3, o, t⟩, hd => by
    have hle := Chain.le t
    exact ⟨a, b, h1, h2, h3, o.fr x (by omega), Chain.fr x t (by omega)⟩
  | _, _, [], _ :: _, h, _ => h.elim
  | _, _, _ :: _, [], h, _ => h.elim

/-- Only the block hb may have changed. -/
theorem Chain.frH {w w' : World} {hb : Nat} (x : ∀ lo hi v l, (hb < lo ∨ hi ≤ hb) → Own lo hi w v l → Own lo hi w' v l) : ∀ {lo hi : Nat} {vs : List Value} {L : List (List UInt8)}, Chain w hb lo hi vs L → Chain w' hb lo hi vs L
  | _, _, [], [], h => h
  | _, _, _ :: _, _ :: _, ⟨a, b, h1, h2, h3, o, t⟩ => ⟨a, b, h1, h2, h3, x _ _ _ _ h3 o, Chain.frH x t⟩
  | _, _, [], _ :: _, h => h.elim
  | _, _, _ :: _, [], h => h.elim

theorem Chain.ext {w w' : World} {hb : Nat} {lo hi : Nat} {vs : List Value} {L : List (List UInt8)} (h : Chain w hb lo hi vs L) (x : Ext w w') : Chain w' hb lo hi vs L :=
  Chain.frH (fun _ _ _ _ _ o => o.ext x) h

/-- Another block, behind all of them, or the same. -/
theorem Chain.other {w : World} {hb hb' : Nat} : ∀ {lo hi : Nat} {vs : List Value} {L : List (List UInt8)}, Chain w hb lo hi vs L → hi ≤ hb' → Chain w hb' lo hi vs L
  | _, _, [], [], h, _ => h
  | _, _, _ :: _, _ :: _, ⟨a, b, h1, h2, h3, o, t⟩, hd => by
    have hle := Chain.le t
    exact ⟨a, b, h1, h2, .inr (by omega), o, Chain.other t hd⟩
  | _, _, [], _ :: _, h, _ => h.elim
  | _, _, _ :: _, [], h, _ => h.elim

theorem Chain.snoc {w : World} {hb : Nat} {m a b hi : Nat} {v : Value} {l : List UInt8} (h1 : m ≤ a) (h2 : a ≤ b) (h3 : b ≤ hi) (h4 : hb < a ∨ b ≤ hb) (o : Own a b w v l) :
    ∀ {lo : Nat} {vs : List Value} {L : List (List UInt8)}, Chain w hb lo m vs L → Chain w hb lo hi (vs ++ [v]) (L ++ [l])
  | _, [], [], h => ⟨a, b, Nat.le_trans h h1, h2, h4, o, h3⟩
  | _, _ :: _, _ :: _, ⟨a', b', k1, k2, k3, o', t⟩ => ⟨a', b', k1, k2, k3, o', Chain.snoc h1 h2 h3 h4 o t⟩
  | _, [], _ :: _, h => h.elim
  | _, _ :: _, [], h => h.elim

/-- One of them, and what may be done to it. -/
theorem Chain.at {w : World} {hb : Nat} : ∀ {lo hi : Nat} {vs : List Value} {L : List (List UInt8)} (j : Nat) (hj : j < L.length) (hj' : j < vs.length), Chain w hb lo hi vs L →
    ∃ a b, lo ≤ a ∧ a ≤ b ∧ b ≤ hi ∧ (hb < a ∨ b ≤ hb) ∧ Own a b w vs[j] L[j] ∧ ∀ w' l', Fr a b w w' → Own a b w' vs[j] l' → Chain w' hb lo hi vs (L.set j l')
  | _, _, v :: vs, l :: L, 0, _, _, ⟨a, b, h1, h2, h3, o, t⟩ => by
    refine ⟨a, b, h1, h2, Chain.le t, h3, o, fun w' l' x o' => ⟨a, b, h1, h2, h3, o', ?_⟩⟩
    exact Chain.fr x t (.inr (Nat.le_refl _))
  | _, _, v :: vs, l :: L, j + 1, hj, hj', ⟨a, b, h1, h2, h3, o, t⟩ => by
    obtain ⟨a', b', k1, k2, k3, k4, o', k5⟩ := Chain.at j (by simpa using hj) (by simpa using hj') t
    refine ⟨a', b', by omega, k2, k3, k4, o', fun w' l' x ow => ⟨a, b, h1, h2, h3, o.fr x (by omega), k5 w' l' x ow⟩⟩
  | _, _, [], [], _, hj, _, _ => by simp at hj
  | _, _, [], _ :: _, _, _, _, h => h.elim
  | _, _, _ :: _, [], _, _, _, h => h.elim

/-- The slice value v holds the texts L: the row in a block, the texts in blocks of their own, all from 'lo' up to 'hi'. -/
def OwnL (lo hi : Nat) (w : World) (v : Value) (L : List (List UInt8)) : Prop :=
  ∃ g cap vs, v = .slice (some ⟨g, 0, none⟩) L.length cap ∧ L.length ≤ cap ∧ cap ≤ maxLen ∧ lo ≤ g ∧ g < hi ∧ (∀ i (h : i < vs.length), w.cell? ⟨g, i, none⟩ = some vs[i]) ∧ Chain w g lo hi vs L

theorem OwnL.bs {lo hi : Nat} {w : World} {v : Value} {L : List (List UInt8)} (h : OwnL lo hi w v L) : Ls w v L := by
  obtain ⟨g, cap, vs, rfl, h1, h2, h3, h4, hc, ch⟩ := h
  have hl := ch.length
  refine ⟨vs, ⟨by omega, _, cap, rfl, h1, h2, .inr ⟨g, 0, rfl, fun i hi => by rw [Nat.zero_add]; exact hc i hi⟩⟩, fun i hi hi' => ?_⟩
  obtain ⟨a, b, _, _, _, _, o, _⟩ := Chain.at i hi hi' ch
  exact o.bs

theorem OwnL.ext {lo hi : Nat} {w w' : World} {v : Value} {L : List (List UInt8)} (h : OwnL lo hi w v L) (x : Ext w w') : OwnL lo hi w' v L := by
  obtain ⟨g, cap, vs, hv, h1, h2, h3, h4, hc, ch⟩ := h
  exact ⟨g, cap, vs, hv, h1, h2, h3, h4, fun i hi => x.cell (hc i hi), ch.ext x⟩

theorem OwnL.fr {lo hi lo' hi' : Nat} {w w' : World} {v : Value} {L : List (List UInt8)} (h : OwnL lo hi w v L) (x : Fr lo' hi' w w') (hd : hi ≤ lo' ∨ hi' ≤ lo) : OwnL lo hi w' v L := by
  obtain ⟨g, cap, vs, hv, h1, h2, h3, h4, hc, ch⟩ := h
  exact ⟨g, cap, vs, hv, h1, h2, h3, h4, fun i hi => x.cell (by dsimp only; omega) (hc i hi), Chain.fr x ch hd⟩

/-- How long texts are together. -/
def sizeL' (L : List (List UInt8)) : Nat := (L.map List.length).sum
theorem sizeL'_nil : sizeL' [] = 0 := rfl
theorem sizeL'_cons (l : List UInt8) (L : List (List UInt8)) : sizeL' (l :: L) = l.length + sizeL' L := by simp [sizeL']
theorem sizeL'_append (L M : List (List UInt8)) : sizeL' (L ++ M) = sizeL' L + sizeL' M := by simp [sizeL']
theorem sizeL'_take_succ (L : List (List UInt8)) (j : Nat) (hj : j < L.length) : sizeL' (L.take (j + 1)) = sizeL' (L.take j) + L[j].length := by
  rw [List.take_succ_eq_append_getElem hj, sizeL'_append]; simp [sizeL']
theorem sizeL'_take_le (L : List (List UInt8)) (j : Nat) : sizeL' (L.take j) ≤ sizeL' L := by
  have := List.take_append_drop j L
  conv => rhs; rw [← this, sizeL'_append]
  omega

/-- Texts of these lengths, with the marks k, k + 1, .. -/
def marksL (k : Nat) : List (List UInt8) → List (List UInt8)
  | [] => []
  | l :: L => marks k l.length :: marksL (k + l.length) L
theorem marksL_length : ∀ (L : List (List UInt8)) (k : Nat), (marksL k L).length = L.length
  | [], _ => rfl
  | l :: L, k => by simp [marksL, marksL_length L]
theorem marksL_get : ∀ (L : List (List UInt8)) (k j : Nat) (hj : j < L.length) (hj' : j < (marksL k L).length), (marksL k L)[j] = marks (k + sizeL' (L.take j)) L[j].length
  | l :: L, k, 0, _, _ => by simp [marksL, sizeL']
  | l :: L, k, j + 1, hj, hj' => by
    simp only [marksL, List.getElem_cons_succ, List.take_succ_cons, sizeL'_cons]
    rw [marksL_get L (k + l.length) j (by simpa using hj), Nat.add_assoc]
  | [], _, _, hj, _ => by simp at hj
theorem marksL_step (L : List (List UInt8)) (k j : Nat) (hj : j < L.length) :
    ((marksL k (L.take j) ++ L.drop j).set j (marks (k + sizeL' (L.take j)) L[j].length)) = marksL k (L.take (j + 1)) ++ L.drop (j + 1) := by
  rw [List.set_append_right _ _ (by rw [marksL_length]; simp; omega)]
  have e : (marksL k (L.take j)).length = j := by rw [marksL_length]; simp; omega
  rw [e, Nat.sub_self, List.drop_eq_getElem_cons hj, List.set_cons_zero]
  have e2 : ∀ (A : List (List UInt8)) (k : Nat) (l : List UInt8), marksL k (A ++ [l]) = marksL k A ++ [marks (k + sizeL' A) l.length] := by
    intro A
    induction A with
    | nil => intro k l; simp [marksL, sizeL']
    | cons a A ih => intro k l; simp only [List.cons_append, marksL, ih, sizeL'_cons, Nat.add_assoc]
  rw [List.take_succ_eq_append_getElem hj, e2, List.append_assoc]
  rfl

end Go.Proofs.YtiahholgpbjjfaaDoor
