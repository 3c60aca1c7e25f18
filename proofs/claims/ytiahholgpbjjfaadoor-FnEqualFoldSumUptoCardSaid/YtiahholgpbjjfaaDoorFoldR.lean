/- Plain theory of simple case folding of texts put together. No program is in sight. -/
import Derived.Test.YtiahholgpbjjfaaDoorFoldQ
import Derived.Test.YtiahholgpbjjfaaDoorMapP
namespace Go.Proofs.YtiahholgpbjjfaaDoor

theorem eqC_append : ∀ {x x' : List Ch}, eqC x x' = true → ∀ y y' : List Ch, eqC (x ++ y) (x' ++ y') = eqC y y'
  | [], [], _, _, _ => rfl
  | [], _ :: _, h, _, _ => by simp [eqC] at h
  | _ :: _, [], h, _, _ => by simp [eqC] at h
  | c :: x, d :: x', h, y, y' => by
    rw [eqC, Bool.and_eq_true] at h
    rw [List.cons_append, List.cons_append, eqC, h.1, eqC_append h.2]
    rfl
theorem eqC_length : ∀ {x x' : List Ch}, eqC x x' = true → x.length = x'.length
  | [], [], _ => rfl
  | [], _ :: _, h => by simp [eqC] at h
  | _ :: _, [], h => by simp [eqC] at h
  | c :: x, d :: x', h => by
    rw [eqC, Bool.and_eq_true] at h
    simp [eqC_length h.2]

theorem whole_chunks {a : List UInt8} (h : wholeB a = true) : ∀ c ∈ chunks a, c.ok = true := List.all_eq_true.1 h
/-- One code point between two texts. -/
theorem eqfB_mid {a m n : List UInt8} {x y : Ch} (ha : wholeB a = true) (hm : chunks m = [x]) (hn : chunks n = [y]) (hx : x.ok = true) (hy : y.ok = true) (c : List UInt8) : eqfB (a ++ m ++ c) (a ++ n ++ c) = eqR x.r y.r := by
  unfold eqfB
  rw [List.append_assoc, List.append_assoc, chunks_append _ (whole_chunks ha), chunks_append _ (whole_chunks ha), eqC_append (eqC_refl _),
    chunks_append _ (by rw [hm]; simpa using hx), chunks_append _ (by rw [hn]; simpa using hy), hm, hn]
  show (eqR x.r y.r && eqC (chunks c) (chunks c)) = _
  rw [eqC_refl, Bool.and_true]
theorem eqfB_sum {a b c d : List UInt8} (ha : wholeB a = true) (hb : wholeB b = true) (h1 : eqfB a b = true) (h2 : eqfB c d = true) : eqfB (a ++ c) (b ++ d) = true := by
  unfold eqfB at *
  rw [chunks_append _ (whole_chunks ha), chunks_append _ (whole_chunks hb), eqC_append h1, h2]

theorem mid_k {a : List UInt8} (ha : wholeB a = true) (c : List UInt8) : eqfB (a ++ [107] ++ c) (a ++ [75] ++ c) = true ∧ eqfB (a ++ [107] ++ c) (a ++ [226, 132, 170] ++ c) = true ∧ eqfB (a ++ [83] ++ c) (a ++ [197, 191] ++ c) = true ∧
    eqfB (a ++ [195, 165] ++ c) (a ++ [226, 132, 171] ++ c) = true ∧ eqfB (a ++ [107] ++ c) (a ++ [120] ++ c) = false := by
  have h1 : chunks [107] = [⟨[107], 107, true⟩] := by kernel_rfl
  have h2 : chunks [75] = [⟨[75], 75, true⟩] := by kernel_rfl
  have h3 : chunks [226, 132, 170] = [⟨[226, 132, 170], 8490, true⟩] := by kernel_rfl
  have h4 : chunks [83] = [⟨[83], 83, true⟩] := by kernel_rfl
  have h5 : chunks [197, 191] = [⟨[197, 191], 383, true⟩] := by kernel_rfl
  have h6 : chunks [195, 165] = [⟨[195, 165], 229, true⟩] := by kernel_rfl
  have h7 : chunks [226, 132, 171] = [⟨[226, 132, 171], 8491, true⟩] := by kernel_rfl
  have h8 : chunks [120] = [⟨[120], 120, true⟩] := by kernel_rfl
  refine ⟨?_, ?_, ?_, ?_, ?_⟩
  · rw [eqfB_mid ha h1 h2 rfl rfl]; kernel_rfl
  · rw [eqfB_mid ha h1 h3 rfl rfl]; kernel_rfl
  · rw [eqfB_mid ha h4 h5 rfl rfl]; kernel_rfl
  · rw [eqfB_mid ha h6 h7 rfl rfl]; kernel_rfl
  · rw [eqfB_mid ha h1 h8 rfl rfl]; kernel_rfl
end Go.Proofs.YtiahholgpbjjfaaDoor
