/- Plain theory of lines: how many there are, and how long. No program is in sight. -/
import Derived.Test.YtlgoeiofachohaaLinesP
namespace Go.Proofs.Ytlgoeiofachohaa

theorem linesA_len : ∀ (l cur : List UInt8), (linesA cur l).length ≤ l.length + 1
  | [], cur => by rw [linesA]; split <;> simp
  | b :: l, cur => by
    rw [linesA]
    split
    · have := linesA_len l []; simp; omega
    · have := linesA_len l (cur ++ [b]); simp; omega
theorem linesB_len (l : List UInt8) : (linesB l).length ≤ l.length + 1 := linesA_len l []
theorem linesB_each {l x : List UInt8} (h : x ∈ linesB l) : x.length ≤ l.length := by
  have := List.Sublist.length_le (List.sublist_flatten_of_mem h)
  rwa [linesB_flat] at this
end Go.Proofs.Ytlgoeiofachohaa
