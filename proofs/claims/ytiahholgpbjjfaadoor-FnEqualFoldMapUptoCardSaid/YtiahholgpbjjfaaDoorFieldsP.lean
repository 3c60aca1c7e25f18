/- Plain theory of fields: the longest runs of code points that do not satisfy a test. No program is in sight. -/
import Derived.Test.YtiahholgpbjjfaaDoorLs2
import Derived.Test.YtiahholgpbjjfaaDoorDec
namespace Go.Proofs.YtiahholgpbjjfaaDoor

/-- The runs of code points that do not satisfy p; 'cur': the one that is under way. -/
def runsA (p : Int → Bool) : Option (List Ch) → List Ch → List (List Ch)
  | none, [] => []
  | some r, [] => [r]
  | none, c :: cs => if p c.r then runsA p none cs else runsA p (some [c]) cs
  | some r, c :: cs => if p c.r then r :: runsA p none cs else runsA p (some (r ++ [c])) cs
def runsC (p : Int → Bool) (cs : List Ch) : List (List Ch) := runsA p none cs
/-- The fields of a text. -/
def fieldsB (p : Int → Bool) (l : List UInt8) : List (List UInt8) := (runsC p (chunks l)).map glue

/-- The run that is under way: it began at code point number st. -/
def curOf (cs : List Ch) (j : Nat) : Option Nat → Option (List Ch)
  | none => none
  | some s => some ((cs.take j).drop s)
def fromOf (cs : List Ch) : Option Nat → Int
  | none => -1
  | some s => (placeOf cs s : Int)

/-- How far a loop over the code points has come: D done, a run under way or none. -/
def RunAt (p : Int → Bool) (cs : List Ch) (j : Nat) (D : List (List Ch)) (st : Option Nat) : Prop :=
  runsC p cs = D ++ runsA p (curOf cs j st) (cs.drop j) ∧ ∀ s, st = some s → s < j

theorem RunAt.start (p : Int → Bool) (cs : List Ch) : RunAt p cs 0 [] none := ⟨rfl, fun s h => by cases h⟩

theorem take_drop_snoc {cs : List Ch} {j s : Nat} (hj : j < cs.length) (hs : s ≤ j) : (cs.take (j + 1)).drop s = (cs.take j).drop s ++ [cs[j]] := by
  rw [List.take_succ_eq_append_getElem hj, List.drop_append_of_le_length (by simp; omega)]

theorem RunAt.sep {p : Int → Bool} {cs : List Ch} {j : Nat} {D : List (List Ch)} (h : RunAt p cs j D none) (hj : j < cs.length) (hp : p cs[j].r = true) : RunAt p cs (j + 1) D none := by
  obtain ⟨h1, _⟩ := h
  refine ⟨?_, fun s h => by cases h⟩
  rw [h1, List.drop_eq_getElem_cons hj]
  simp only [curOf, runsA, hp, if_true]
theorem RunAt.shut {p : Int → Bool} {cs : List Ch} {j s : Nat} {D : List (List Ch)} (h : RunAt p cs j D (some s)) (hj : j < cs.length) (hp : p cs[j].r = true) : RunAt p cs (j + 1) (D ++ [(cs.take j).drop s]) none := by
  obtain ⟨h1, _⟩ := h
  refine ⟨?_, fun s h => by cases h⟩
  rw [h1, List.drop_eq_getElem_cons hj]
  simp only [curOf, runsA, hp, if_true, List.append_assoc, List.singleton_append]
theorem RunAt.opens {p : Int → Bool} {cs : List Ch} {j : Nat} {D : List (List Ch)} (h : RunAt p cs j D none) (hj : j < cs.length) (hp : p cs[j].r = false) : RunAt p cs (j + 1) D (some j) := by
  obtain ⟨h1, _⟩ := h
  refine ⟨?_, fun s h => by cases h; omega⟩
  rw [h1, List.drop_eq_getElem_cons hj]
  simp only [curOf, runsA, hp]
  have e : (cs.take j).drop j = [] := List.drop_of_length_le (by simp; omega)
  rw [take_drop_snoc hj (Nat.le_refl _), e]
  rfl
theorem RunAt.goes {p : Int → Bool} {cs : List Ch} {j s : Nat} {D : List (List Ch)} (h : RunAt p cs j D (some s)) (hj : j < cs.length) (hp : p cs[j].r = false) : RunAt p cs (j + 1) D (some s) := by
  obtain ⟨h1, h2⟩ := h
  have hs := h2 s rfl
  refine ⟨?_, fun s' h => by cases h; omega⟩
  rw [h1, List.drop_eq_getElem_cons hj]
  simp only [curOf, runsA, hp]
  rw [take_drop_snoc hj (by omega)]
  rfl
theorem RunAt.done {p : Int → Bool} {cs : List Ch} {D : List (List Ch)} (h : RunAt p cs cs.length D none) : runsC p cs = D := by
  have := h.1
  rw [List.drop_length] at this
  simpa [curOf, runsA] using this
theorem RunAt.done' {p : Int → Bool} {cs : List Ch} {s : Nat} {D : List (List Ch)} (h : RunAt p cs cs.length D (some s)) : runsC p cs = D ++ [cs.drop s] := by
  have := h.1
  rw [List.drop_length, curOf, List.take_length] at this
  simpa [runsA] using this

theorem glue_part {l : List UInt8} {cs : List Ch} (h : glue cs = l) (s j : Nat) : glue ((cs.take j).drop s) = part l (placeOf cs s) (placeOf cs j) := by
  unfold part
  rw [← h, ← glue_take]
  by_cases hs : s ≤ j
  · have e : cs.take s = (cs.take j).take s := by rw [List.take_take, Nat.min_eq_left hs]
    have := glue_drop (cs.take j) s
    rw [this]
    congr 1
    unfold placeOf
    rw [← e]
  · have e1 : (cs.take j).drop s = [] := List.drop_of_length_le (by simp; omega)
    rw [e1]
    have hle : (glue (cs.take j)).length ≤ placeOf cs s := by
      unfold placeOf
      have e : cs.take j = (cs.take s).take j := by rw [List.take_take, Nat.min_eq_left (by omega)]
      have := List.take_append_drop j (cs.take s)
      rw [e]
      conv => rhs; rw [← this, glue_append, List.length_append]
      omega
    rw [List.drop_of_length_le hle]; rfl

theorem place_mono (cs : List Ch) {a b : Nat} (h : a ≤ b) : placeOf cs a ≤ placeOf cs b := by
  unfold placeOf
  have e : cs.take a = (cs.take b).take a := by rw [List.take_take, Nat.min_eq_left h]
  have := List.take_append_drop a (cs.take b)
  rw [e]
  conv => rhs; rw [← this, glue_append, List.length_append]
  omega

theorem runsA_bound (p : Int → Bool) : ∀ (cs : List Ch) (cur : Option (List Ch)), (runsA p cur cs).length ≤ (if cur.isSome then 1 else 0) + cs.length ∧ sizeL' ((runsA p cur cs).map glue) ≤ (match cur with | none => 0 | some r => (glue r).length) + (glue cs).length
  | [], none => by simp [runsA, sizeL']
  | [], some r => by simp [runsA, sizeL', glue_nil]
  | c :: cs, none => by
    simp only [runsA]
    split
    · have := runsA_bound p cs none
      rw [glue_cons, List.length_append]
      simp at this ⊢
      omega
    · have := runsA_bound p cs (some [c])
      have e : (glue [c]).length = c.bs.length := by rw [glue_cons, glue_nil, List.append_nil]
      rw [glue_cons, List.length_append]
      simp [e] at this ⊢
      omega
  | c :: cs, some r => by
    simp only [runsA]
    split
    · have := runsA_bound p cs none
      rw [glue_cons, List.length_append, List.map_cons, sizeL'_cons]
      simp at this ⊢
      omega
    · have := runsA_bound p cs (some (r ++ [c]))
      have e : (glue (r ++ [c])).length = (glue r).length + c.bs.length := by rw [glue_append, List.length_append, glue_cons, glue_nil, List.append_nil]
      rw [glue_cons, List.length_append]
      simp [e] at this ⊢
      omega

theorem fieldsB_size (p : Int → Bool) (l : List UInt8) : sizeL' (fieldsB p l) ≤ l.length := by
  have := (runsA_bound p (chunks l) none).2
  rw [glue_chunks] at this
  simpa [fieldsB, runsC] using this
theorem fieldsB_len (p : Int → Bool) (l : List UInt8) : (fieldsB p l).length ≤ l.length := by
  have := (runsA_bound p (chunks l) none).1
  have h2 := chunks_length l
  simp [fieldsB, runsC] at this ⊢
  omega
theorem mem_size {l : List UInt8} {L : List (List UInt8)} (h : l ∈ L) : l.length ≤ sizeL' L := by
  induction L with
  | nil => cases h
  | cons a L ih =>
    rw [sizeL'_cons]
    rcases List.mem_cons.1 h with rfl | h
    · omega
    · have := ih h; omega

/-- A call's answer: a slice of slices of bytes, which hold the texts L. -/
def RetLs (w : World) (L : List (List UInt8)) (e : Ending) (w' : World) : Prop := ∃ v, e = .returned v ∧ Ls w' v L ∧ Ext w w'
/-- A call's answer: a slice of strings. -/
def RetSs (w : World) (L : List (List UInt8)) (e : Ending) (w' : World) : Prop := ∃ v, e = .returned v ∧ Ss w' v L ∧ Ext w w'
theorem Chain.mono {w : World} {hb : Nat} : ∀ {lo hi lo' hi' : Nat} {vs : List Value} {L : List (List UInt8)}, Chain w hb lo hi vs L → lo' ≤ lo → hi ≤ hi' → Chain w hb lo' hi' vs L
  | _, _, _, _, [], [], h, h1, h2 => Nat.le_trans h1 (Nat.le_trans h h2)
  | _, _, _, _, _ :: _, _ :: _, ⟨a, b, k1, k2, k3, o, t⟩, h1, h2 => ⟨a, b, Nat.le_trans h1 k1, k2, k3, o, Chain.mono t (Nat.le_refl _) h2⟩
  | _, _, _, _, [], _ :: _, h, _, _ => h.elim
  | _, _, _, _, _ :: _, [], h, _, _ => h.elim
theorem OwnL.mono {lo hi lo' hi' : Nat} {w : World} {v : Value} {L : List (List UInt8)} (h : OwnL lo hi w v L) (h1 : lo' ≤ lo) (h2 : hi ≤ hi') : OwnL lo' hi' w v L := by
  obtain ⟨g, cap, vs, hv, k1, k2, k3, k4, hc, ch⟩ := h
  exact ⟨g, cap, vs, hv, k1, k2, by omega, by omega, hc, ch.mono h1 h2⟩
end Go.Proofs.YtiahholgpbjjfaaDoor
