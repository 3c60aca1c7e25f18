/- Plain theory of lines: the longest parts up to a line feed, each with its line feed. No program is in sight. -/
import Derived.Test.YtlgoeiofachohaaLs2
namespace Go.Proofs.Ytlgoeiofachohaa

/-- The lines of a text; 'cur': what stands ahead of it in the first one. -/
def linesA : List UInt8 → List UInt8 → List (List UInt8)
  | cur, [] => if cur = [] then [] else [cur]
  | cur, b :: l => if b = 10 then (cur ++ [b]) :: linesA [] l else linesA (cur ++ [b]) l
def linesB (l : List UInt8) : List (List UInt8) := linesA [] l

theorem linesA_none : ∀ (l cur : List UInt8), (∀ b ∈ l, b ≠ 10) → cur ++ l ≠ [] → linesA cur l = [cur ++ l]
  | [], cur, _, h => by
    rw [List.append_nil] at h ⊢
    rw [linesA, if_neg h]
  | b :: l, cur, h, _ => by
    rw [linesA, if_neg (h b (List.mem_cons_self ..)), linesA_none l (cur ++ [b]) (fun x hx => h x (List.mem_cons_of_mem _ hx)) (by simp)]
    simp

theorem linesA_cut : ∀ (a r cur : List UInt8), (∀ b ∈ a, b ≠ 10) → linesA cur (a ++ 10 :: r) = (cur ++ a ++ [10]) :: linesA [] r
  | [], r, cur, _ => by rw [List.nil_append, linesA, if_pos rfl, List.append_nil]
  | b :: a, r, cur, h => by
    rw [List.cons_append, linesA, if_neg (h b (List.mem_cons_self ..)), linesA_cut a r (cur ++ [b]) (fun x hx => h x (List.mem_cons_of_mem _ hx))]
    simp

theorem linesA_flat : ∀ (l cur : List UInt8), (linesA cur l).flatten = cur ++ l
  | [], cur => by
    rw [linesA]
    split
    · rename_i h; rw [h]; rfl
    · simp
  | b :: l, cur => by
    rw [linesA]
    split
    · rw [List.flatten_cons, linesA_flat l []]; simp
    · rw [linesA_flat l (cur ++ [b])]; simp

theorem linesB_nil : linesB [] = [] := rfl
theorem linesB_none {l : List UInt8} (h : ∀ b ∈ l, b ≠ 10) (hn : l ≠ []) : linesB l = [l] := linesA_none l [] h hn
theorem linesB_cut {a r : List UInt8} (h : ∀ b ∈ a, b ≠ 10) : linesB (a ++ 10 :: r) = (a ++ [10]) :: linesB r := linesA_cut a r [] h
theorem linesB_flat (l : List UInt8) : (linesB l).flatten = l := linesA_flat l []
end Go.Proofs.Ytlgoeiofachohaa
