/- The walks of spec.first, last, points, trimLeft, trimRight, turned, Size. -/
import Derived.Test.YtiahholgpbjjfaaDoorPts
import Derived.Test.YtiahholgpbjjfaaDoorTest
import Derived.StillTailTactics
namespace Go.Proofs.YtiahholgpbjjfaaDoor
open Go.RowKit

/-- The place of the first code point that satisfies a test, the first standing at o; -1, if there is none. -/
def firstC (p : Int → Bool) : Nat → List Ch → Int
  | _, [] => -1
  | o, c :: cs => if p c.r then o else firstC p (o + c.bs.length) cs

/-- The place of the last one. -/
def lastC (p : Int → Bool) : Nat → List Ch → Int
  | _, [] => -1
  | o, c :: cs => if 0 ≤ lastC p (o + c.bs.length) cs then lastC p (o + c.bs.length) cs else if p c.r then o else -1

theorem firstC_none (p : Int → Bool) : ∀ (cs : List Ch) (o : Nat), (∀ c ∈ cs, p c.r = false) → firstC p o cs = -1
  | [], _, _ => rfl
  | c :: cs, o, h => by
    rw [firstC, h c (List.mem_cons_self ..), if_neg (by simp)]
    exact firstC_none p cs _ (fun d hd => h d (List.mem_cons_of_mem _ hd))

theorem firstC_at (p : Int → Bool) : ∀ (cs : List Ch) (o i : Nat) (h : i < cs.length), (∀ c ∈ cs.take i, p c.r = false) → p cs[i].r = true → firstC p o cs = ((o + placeOf cs i : Nat) : Int)
  | [], _, _, h, _, _ => by simp at h
  | c :: cs, o, 0, _, _, hp => by
    rw [firstC, if_pos (by simpa using hp)]
    simp [placeOf, glue]
  | c :: cs, o, i + 1, h, hn, hp => by
    rw [firstC, hn c (by simp), if_neg (by simp), firstC_at p cs (o + c.bs.length) i (by simpa using h) (fun d hd => hn d (by simp [List.take_succ_cons, hd])) (by simpa using hp)]
    congr 1
    simp [placeOf, List.take_succ_cons, glue_cons]
    omega

theorem lastC_none (p : Int → Bool) : ∀ (cs : List Ch) (o : Nat), (∀ c ∈ cs, p c.r = false) → lastC p o cs = -1
  | [], _, _ => rfl
  | c :: cs, o, h => by
    rw [lastC, lastC_none p cs _ (fun d hd => h d (List.mem_cons_of_mem _ hd)), h c (List.mem_cons_self ..)]
    simp

theorem lastC_at (p : Int → Bool) : ∀ (cs : List Ch) (o i : Nat) (h : i < cs.length), (∀ c ∈ cs.drop (i + 1), p c.r = false) → p cs[i].r = true → lastC p o cs = ((o + placeOf cs i : Nat) : Int)
  | [], _, _, h, _, _ => by simp at h
  | c :: cs, o, 0, _, hn, hp => by
    have hp' : p c.r = true := hp
    rw [lastC, lastC_none p cs _ (by simpa using hn), hp']
    simp [placeOf, glue]
  | c :: cs, o, i + 1, h, hn, hp => by
    rw [lastC, lastC_at p cs (o + c.bs.length) i (by simpa using h) (by simpa using hn) (by simpa using hp), if_pos (by omega)]
    congr 1
    simp [placeOf, List.take_succ_cons, glue_cons]
    omega

theorem take_snoc_all {cs : List Ch} {j : Nat} (hj : j < cs.length) {p : Int → Bool} (h1 : ∀ c ∈ cs.take j, p c.r = false) (h2 : p cs[j].r = false) : ∀ c ∈ cs.take (j + 1), p c.r = false := by
  intro c hc
  rw [List.take_succ_eq_append_getElem hj] at hc
  rcases List.mem_append.1 hc with hc | hc
  · exact h1 c hc
  · rw [List.mem_singleton.1 hc]; exact h2

theorem drop_cons_all {cs : List Ch} {j : Nat} (hj : j < cs.length) {p : Int → Bool} (h1 : ∀ c ∈ cs.drop (j + 1), p c.r = false) (h2 : p cs[j].r = false) : ∀ c ∈ cs.drop j, p c.r = false := by
  intro c hc
  rw [List.drop_eq_getElem_cons hj] at hc
  rcases List.mem_cons.1 hc with rfl | hc
  · exact h2
  · exact h1 c hc


theorem ba_take (s : ByteArray) (n : Nat) : (⟨(s.data.toList.take n).toArray⟩ : ByteArray) = s.extract 0 n := by
  apply ByteArray.ext
  apply Array.ext'
  rw [Lib.extract_data]
  simp
theorem ba_drop (s : ByteArray) (n : Nat) : (⟨(s.data.toList.drop n).toArray⟩ : ByteArray) = s.extract n s.size := by
  apply ByteArray.ext
  apply Array.ext'
  rw [Lib.extract_data, List.take_of_length_le (by rw [List.length_drop]; exact Nat.le_refl _)]

/-- What is left when the code points that satisfy a test are taken away at the end. -/
def trimR (p : Int → Bool) (cs : List Ch) : List Ch := (cs.reverse.dropWhile fun c => p c.r).reverse
/-- .. at the beginning. -/
def trimL (p : Int → Bool) (cs : List Ch) : List Ch := cs.dropWhile fun c => p c.r

theorem drop_cons_all' {cs : List Ch} {j : Nat} (hj : j < cs.length) {p : Int → Bool} (h1 : ∀ c ∈ cs.drop (j + 1), p c.r = true) (h2 : p cs[j].r = true) : ∀ c ∈ cs.drop j, p c.r = true := by
  intro c hc
  rw [List.drop_eq_getElem_cons hj] at hc
  rcases List.mem_cons.1 hc with rfl | hc
  · exact h2
  · exact h1 c hc

theorem dropWhile_all {α : Type} {p : α → Bool} : ∀ {l : List α}, (∀ x ∈ l, p x = true) → l.dropWhile p = []
  | [], _ => rfl
  | x :: l, h => by rw [List.dropWhile_cons, if_pos (h x (List.mem_cons_self ..))]; exact dropWhile_all fun y hy => h y (List.mem_cons_of_mem _ hy)

theorem dropWhile_append_all {α : Type} {p : α → Bool} : ∀ {l m : List α}, (∀ x ∈ l, p x = true) → (l ++ m).dropWhile p = m.dropWhile p
  | [], _, _ => rfl
  | x :: l, m, h => by rw [List.cons_append, List.dropWhile_cons, if_pos (h x (List.mem_cons_self ..))]; exact dropWhile_append_all fun y hy => h y (List.mem_cons_of_mem _ hy)

theorem trimR_none (p : Int → Bool) (cs : List Ch) (h : ∀ c ∈ cs, p c.r = true) : trimR p cs = [] := by
  unfold trimR
  rw [dropWhile_all (fun c hc => h c (List.mem_reverse.1 hc))]; rfl

theorem trimR_at (p : Int → Bool) (cs : List Ch) (j : Nat) (hj : j < cs.length) (h1 : ∀ c ∈ cs.drop (j + 1), p c.r = true) (h2 : p cs[j].r = false) : trimR p cs = cs.take (j + 1) := by
  unfold trimR
  have e : cs.reverse = (cs.drop (j + 1)).reverse ++ (cs.take (j + 1)).reverse := by rw [← List.reverse_append, List.take_append_drop]
  rw [e, dropWhile_append_all (fun c hc => h1 c (List.mem_reverse.1 hc)), List.take_succ_eq_append_getElem hj, List.reverse_append]
  simp [h2]

theorem place_end (cs : List Ch) (j : Nat) (hj : j < cs.length) : placeOf cs j + cs[j].bs.length = placeOf cs (j + 1) := by
  unfold placeOf
  rw [List.take_succ_eq_append_getElem hj, glue_append, List.length_append, glue_cons, glue_nil, List.append_nil]

theorem placeOf_le (cs : List Ch) (j : Nat) : placeOf cs j ≤ (glue cs).length := by
  have := List.take_append_drop j cs
  have h := congrArg (fun x => (glue x).length) this
  simp only [glue_append, List.length_append] at h
  unfold placeOf
  omega

theorem glue_take (cs : List Ch) (j : Nat) : glue (cs.take j) = (glue cs).take (placeOf cs j) := by
  have := congrArg glue (List.take_append_drop j cs)
  rw [glue_append] at this
  rw [← this]
  unfold placeOf
  rw [List.take_left]

theorem glue_drop (cs : List Ch) (j : Nat) : glue (cs.drop j) = (glue cs).drop (placeOf cs j) := by
  have := congrArg glue (List.take_append_drop j cs)
  rw [glue_append] at this
  rw [← this]
  unfold placeOf
  rw [List.drop_left]

end Go.Proofs.YtiahholgpbjjfaaDoor
