/- Plain theory: lines without their line feeds, the empty ones left out, are the fields between line feeds. No program is in sight. -/
import Derived.Test.YtlbaoghebjaliaaDoorLinesJ
import Derived.Test.YtlbaoghebjaliaaDoorPlainB
import Derived.Test.YtlbaoghebjaliaaDoorMapP
namespace Go.Proofs.YtlbaoghebjaliaaDoor

theorem chunks_lf (a r : List UInt8) : chunks (a ++ 10 :: r) = chunks a ++ ⟨[10], 10, true⟩ :: chunks r := by
  obtain ⟨cs, ds, h1, h2, h3⟩ := boundary (a ++ 10 :: r) a.length (by simp) (fun _ => by simp [List.getD]; decide)
  rw [List.take_left' rfl] at h2
  rw [List.drop_left' rfl] at h3
  have e1 := chunks_pre cs ds _ h1
  have e2 := chunks_post cs ds _ h1
  rw [h2] at e1
  rw [h3] at e2
  rw [h1, ← e1, ← e2, chunks_cons (l := 10 :: r) (by simp), dec_ascii 10 r (by decide)]
  simp [decOk]

theorem chunk_no_lf {l : List UInt8} (h : ∀ b ∈ l, b ≠ 10) : ∀ c ∈ chunks l, holdsT [10] false c.r = false := by
  intro c hc
  by_cases he : c.r = 10
  · exfalso
    have hk := chunks_ok l c hc
    have hb : c.bs = [10] := by
      cases ho : c.ok with
      | false => have := (hk.bad ho).1; omega
      | true => rw [hk.good ho, he]; decide
    have hm : (10 : UInt8) ∈ glue (chunks l) := List.mem_flatten.2 ⟨c.bs, List.mem_map.2 ⟨c, hc, rfl⟩, by rw [hb]; simp⟩
    rw [glue_chunks] at hm
    exact h 10 hm rfl
  · have : ¬ ((c.r : Int) = 10) := by omega
    simp [holdsT, this]

theorem runsA_some_none (p : Int → Bool) : ∀ (cs r X : List Ch), (∀ c ∈ cs, p c.r = false) → runsA p (some r) (cs ++ X) = runsA p (some (r ++ cs)) X
  | [], r, X, _ => by simp
  | c :: cs, r, X, h => by
    rw [List.cons_append, runsA, if_neg (by rw [h c (List.mem_cons_self ..)]; simp), runsA_some_none p cs (r ++ [c]) X (fun x hx => h x (List.mem_cons_of_mem _ hx))]
    simp
theorem runsA_none_none (p : Int → Bool) (cs X : List Ch) (hn : cs ≠ []) (h : ∀ c ∈ cs, p c.r = false) : runsA p none (cs ++ X) = runsA p (some cs) X := by
  cases cs with
  | nil => exact absurd rfl hn
  | cons c cs =>
    rw [List.cons_append, runsA, if_neg (by rw [h c (List.mem_cons_self ..)]; simp), runsA_some_none p cs [c] X (fun x hx => h x (List.mem_cons_of_mem _ hx))]
    rfl

def oneOf (a : List UInt8) : List (List UInt8) := if a = [] then [] else [a]

theorem chunks_ne {a : List UInt8} (h : a ≠ []) : chunks a ≠ [] := fun e => h (by rw [← glue_chunks a, e]; rfl)

theorem fields_no_lf {a : List UInt8} (h : ∀ b ∈ a, b ≠ 10) : fieldsB (holdsT [10] false) a = oneOf a := by
  unfold oneOf
  split
  · rename_i e; subst e; rfl
  · rename_i e
    have := runsA_none_none (holdsT [10] false) (chunks a) [] (chunks_ne e) (chunk_no_lf h)
    rw [List.append_nil] at this
    unfold fieldsB runsC
    rw [this]
    simp [runsA, glue_chunks]

theorem fields_lf {a : List UInt8} (h : ∀ b ∈ a, b ≠ 10) (r : List UInt8) : fieldsB (holdsT [10] false) (a ++ 10 :: r) = oneOf a ++ fieldsB (holdsT [10] false) r := by
  have hp : holdsT [10] false (10 : Nat) = true := by decide
  unfold oneOf fieldsB runsC
  rw [chunks_lf]
  split
  · rename_i e
    subst e
    show (runsA _ none (⟨[10], 10, true⟩ :: chunks r)).map glue = _
    rw [runsA, if_pos hp]
    rfl
  · rename_i e
    rw [runsA_none_none _ _ _ (chunks_ne e) (chunk_no_lf h), runsA, if_pos hp]
    simp [glue_chunks]

theorem cut_no_lf {a : List UInt8} (h : ∀ b ∈ a, b ≠ 10) : cutSuf a [10] = a := by
  refine cutSuf_not ?_
  cases hs : hasSuf a [10] with
  | false => rfl
  | true =>
    obtain ⟨x, hx⟩ := hasSuf_iff.1 hs
    exact absurd rfl (h 10 (by rw [hx]; simp))

/-- What is left of the lines. -/
def bareL (L : List (List UInt8)) : List (List UInt8) := (L.map fun p => cutSuf p [10]).filter fun t => !t.isEmpty
theorem bareL_append (L M : List (List UInt8)) : bareL (L ++ M) = bareL L ++ bareL M := by simp [bareL]
theorem bareL_one (p : List UInt8) : bareL [p] = oneOf (cutSuf p [10]) := by
  unfold bareL oneOf
  cases h : cutSuf p [10] with
  | nil => simp [h]
  | cons x y => simp [h]

theorem lines_fields : ∀ (n : Nat) (l : List UInt8), l.length ≤ n → bareL (linesB l) = fieldsB (holdsT [10] false) l
  | n, l, hn => by
    rcases firstB_split 10 l with ⟨_, hno⟩ | ⟨a, r, e1, hno, _⟩
    · rw [fields_no_lf hno]
      by_cases hl : l = []
      · subst hl; rfl
      · rw [linesB_none hno hl, bareL_one, cut_no_lf hno]
    · have hl : r.length + 1 ≤ l.length := by rw [e1]; simp
      match n, hn with
      | 0, hn => exact absurd hn (by omega)
      | n + 1, hn =>
        rw [e1, linesB_cut hno, fields_lf hno, ← List.singleton_append, bareL_append, bareL_one, cutSuf_sum, lines_fields n r (by omega)]

theorem linesA_len : ∀ (l cur : List UInt8), (linesA cur l).length ≤ l.length + 1
  | [], cur => by rw [linesA]; split <;> simp
  | b :: l, cur => by
    rw [linesA]
    split
    · have := linesA_len l []; simp; omega
    · have := linesA_len l (cur ++ [b]); simp; omega
theorem linesB_len (l : List UInt8) : (linesB l).length ≤ l.length + 1 := linesA_len l []
theorem linesB_each {l x : List UInt8} (h : x ∈ linesB l) : x.length ≤ l.length := by
  have := List.Sublist.length_le (List.sublist_flatten_of_mem h)
  rwa [linesB_flat] at this
end Go.Proofs.YtlbaoghebjaliaaDoor
