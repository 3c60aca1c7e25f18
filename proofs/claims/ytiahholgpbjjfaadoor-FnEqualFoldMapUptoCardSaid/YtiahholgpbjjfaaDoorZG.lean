/- Several texts of this seat, put together: FoldR FoldM. -/
import Derived.Test.YtiahholgpbjjfaaDoorFoldQ
import Derived.Test.YtiahholgpbjjfaaDoorMapP
import Derived.Test.YtiahholgpbjjfaaDoorTable
/- Plain theory of simple case folding of texts put together. No program is in sight. -/
namespace Go.Proofs.YtiahholgpbjjfaaDoor

theorem eqC_append : ∀ {x x' : List Ch}, eqC x x' = true → ∀ y y' : List Ch, eqC (x ++ y) (x' ++ y') = eqC y y'
  | [], [], _, _, _ => rfl
  | [], _ :: _, h, _, _ => by simp [eqC] at h
  | _ :: _, [], h, _, _ => by simp [eqC] at h
  | c :: x, d :: x', h, y, y' => by
    rw [eqC, Bool.and_eq_true] at h
    rw [List.cons_append, List.cons_append, eqC, h.1, eqC_append h.2]
    rfl
theorem eqC_length : ∀ {x x' : List Ch}, eqC x x' = true → x.length = x'.length
  | [], [], _ => rfl
  | [], _ :: _, h => by simp [eqC] at h
  | _ :: _, [], h => by simp [eqC] at h
  | c :: x, d :: x', h => by
    rw [eqC, Bool.and_eq_true] at h
    simp [eqC_length h.2]

theorem whole_chunks {a : List UInt8} (h : wholeB a = true) : ∀ c ∈ chunks a, c.ok = true := List.all_eq_true.1 h
/-- One code point between two texts. -/
theorem eqfB_mid {a m n : List UInt8} {x y : Ch} (ha : wholeB a = true) (hm : chunks m = [x]) (hn : chunks n = [y]) (hx : x.ok = true) (hy : y.ok = true) (c : List UInt8) : eqfB (a ++ m ++ c) (a ++ n ++ c) = eqR x.r y.r := by
  unfold eqfB
  rw [List.append_assoc, List.append_assoc, chunks_append _ (whole_chunks ha), chunks_append _ (whole_chunks ha), eqC_append (eqC_refl _),
    chunks_append _ (by rw [hm]; simpa using hx), chunks_append _ (by rw [hn]; simpa using hy), hm, hn]
  show (eqR x.r y.r && eqC (chunks c) (chunks c)) = _
  rw [eqC_refl, Bool.and_true]
theorem eqfB_sum {a b c d : List UInt8} (ha : wholeB a = true) (hb : wholeB b = true) (h1 : eqfB a b = true) (h2 : eqfB c d = true) : eqfB (a ++ c) (b ++ d) = true := by
  unfold eqfB at *
  rw [chunks_append _ (whole_chunks ha), chunks_append _ (whole_chunks hb), eqC_append h1, h2]

theorem mid_k {a : List UInt8} (ha : wholeB a = true) (c : List UInt8) : eqfB (a ++ [107] ++ c) (a ++ [75] ++ c) = true ∧ eqfB (a ++ [107] ++ c) (a ++ [226, 132, 170] ++ c) = true ∧ eqfB (a ++ [83] ++ c) (a ++ [197, 191] ++ c) = true ∧
    eqfB (a ++ [195, 165] ++ c) (a ++ [226, 132, 171] ++ c) = true ∧ eqfB (a ++ [107] ++ c) (a ++ [120] ++ c) = false := by
  have h1 : chunks [107] = [⟨[107], 107, true⟩] := by kernel_rfl
  have h2 : chunks [75] = [⟨[75], 75, true⟩] := by kernel_rfl
  have h3 : chunks [226, 132, 170] = [⟨[226, 132, 170], 8490, true⟩] := by kernel_rfl
  have h4 : chunks [83] = [⟨[83], 83, true⟩] := by kernel_rfl
  have h5 : chunks [197, 191] = [⟨[197, 191], 383, true⟩] := by kernel_rfl
  have h6 : chunks [195, 165] = [⟨[195, 165], 229, true⟩] := by kernel_rfl
  have h7 : chunks [226, 132, 171] = [⟨[226, 132, 171], 8491, true⟩] := by kernel_rfl
  have h8 : chunks [120] = [⟨[120], 120, true⟩] := by kernel_rfl
  refine ⟨?_, ?_, ?_, ?_, ?_⟩
  · rw [eqfB_mid ha h1 h2 rfl rfl]; kernel_rfl
  · rw [eqfB_mid ha h1 h3 rfl rfl]; kernel_rfl
  · rw [eqfB_mid ha h4 h5 rfl rfl]; kernel_rfl
  · rw [eqfB_mid ha h6 h7 rfl rfl]; kernel_rfl
  · rw [eqfB_mid ha h1 h8 rfl rfl]; kernel_rfl
end Go.Proofs.YtiahholgpbjjfaaDoor

/- Plain theory of simple case folding: the letters from A to Z made small, or great. No program is in sight. -/
namespace Go.Proofs.YtiahholgpbjjfaaDoor

/-- So many letters from 65 on, from 97 on. -/
def lettersG (j : Nat) : List Int := (List.range j).map fun i => ((65 + i : Nat) : Int)
def lettersS (j : Nat) : List Int := (List.range j).map fun i => ((97 + i : Nat) : Int)
theorem lettersG_succ (j : Nat) : lettersG (j + 1) = lettersG j ++ [((65 + j : Nat) : Int)] := by simp [lettersG, List.range_succ]
theorem lettersS_succ (j : Nat) : lettersS (j + 1) = lettersS j ++ [((97 + j : Nat) : Int)] := by simp [lettersS, List.range_succ]
theorem lettersG_length (j : Nat) : (lettersG j).length = j := by simp [lettersG]
theorem lettersS_length (j : Nat) : (lettersS j).length = j := by simp [lettersS]

theorem imageT_miss (r : Int) : ∀ rows : List (Int × Int), (∀ x ∈ rows, x.1 ≠ r) → imageT rows r = r
  | [], _ => rfl
  | x :: xs, h => by
    rw [imageT, if_neg (h x (List.mem_cons_self ..)), imageT_miss r xs (fun y hy => h y (List.mem_cons_of_mem _ hy))]

def rowsD : List (Int × Int) := (lettersG 26).zip (lettersS 26)
def rowsU : List (Int × Int) := (lettersS 26).zip (lettersG 26)
theorem chk_D : ((List.range 26).all fun i => imageT rowsD ((65 + i : Nat) : Int) == ((97 + i : Nat) : Int)) = true := by kernel_rfl
theorem chk_U : ((List.range 26).all fun i => imageT rowsU ((97 + i : Nat) : Int) == ((65 + i : Nat) : Int)) = true := by kernel_rfl
theorem chk_D2 : (rowsD.all fun x => decide (65 ≤ x.1) && decide (x.1 ≤ 90)) = true := by kernel_rfl
theorem chk_U2 : (rowsU.all fun x => decide (97 ≤ x.1) && decide (x.1 ≤ 122)) = true := by kernel_rfl
theorem image_D (r : Int) : imageT rowsD r = if 65 ≤ r ∧ r ≤ 90 then r + 32 else r := by
  by_cases h : 65 ≤ r ∧ r ≤ 90
  · rw [if_pos h]
    have := List.all_eq_true.1 chk_D (r - 65).toNat (List.mem_range.2 (by omega))
    rw [beq_iff_eq, show ((65 + (r - 65).toNat : Nat) : Int) = r by omega, show ((97 + (r - 65).toNat : Nat) : Int) = r + 32 by omega] at this
    exact this
  · rw [if_neg h]
    refine imageT_miss r _ fun x hx e => h ?_
    have := List.all_eq_true.1 chk_D2 x hx
    simp only [Bool.and_eq_true, decide_eq_true_eq] at this
    omega
theorem image_U (r : Int) : imageT rowsU r = if 97 ≤ r ∧ r ≤ 122 then r - 32 else r := by
  by_cases h : 97 ≤ r ∧ r ≤ 122
  · rw [if_pos h]
    have := List.all_eq_true.1 chk_U (r - 97).toNat (List.mem_range.2 (by omega))
    rw [beq_iff_eq, show ((97 + (r - 97).toNat : Nat) : Int) = r by omega, show ((65 + (r - 97).toNat : Nat) : Int) = r - 32 by omega] at this
    exact this
  · rw [if_neg h]
    refine imageT_miss r _ fun x hx e => h ?_
    have := List.all_eq_true.1 chk_U2 x hx
    simp only [Bool.and_eq_true, decide_eq_true_eq] at this
    omega

theorem chk_fold : ((List.range 26).all fun i => eqR ((65 + i : Nat) : Int) ((97 + i : Nat) : Int)) = true := by kernel_rfl
theorem eqR_letter {r : Int} (h : 65 ≤ r ∧ r ≤ 90) : eqR r (r + 32) = true := by
  have := List.all_eq_true.1 chk_fold (r - 65).toNat (List.mem_range.2 (by omega))
  rwa [show ((65 + (r - 65).toNat : Nat) : Int) = r by omega, show ((97 + (r - 65).toNat : Nat) : Int) = r + 32 by omega] at this
theorem eqR_D (r : Int) : eqR r (imageT rowsD r) = true := by
  rw [image_D]
  split
  · exact eqR_letter (by assumption)
  · exact eqR_refl r
theorem eqR_U (r : Int) : eqR r (imageT rowsU r) = true := by
  rw [image_U]
  split
  · rename_i h
    have := eqR_letter (r := r - 32) (by omega)
    rw [show r - 32 + 32 = r by omega] at this
    exact eqR_symm' this
  · exact eqR_refl r
theorem image_le (rows : List (Int × Int)) (h : rows = rowsD ∨ rows = rowsU) : ∀ r : Int, 0 ≤ r → r ≤ 1114111 → imageT rows r ≤ 2147483647 := by
  intro r _ h1
  rcases h with rfl | rfl
  · rw [image_D]; split <;> omega
  · rw [image_U]; split <;> omega

/-- A function on code points that keeps their orbits, and tells code points. -/
structure KeepsC (f : Int → Int) (c : Ch) : Prop where
  pos : 0 ≤ f c.r
  sc : scalarN (f c.r).toNat
  eq : eqR c.r (f c.r) = true
theorem eqC_img {f : Int → Int} : ∀ cs : List Ch, (∀ c ∈ cs, KeepsC f c) → eqC cs (imgC f cs) = true
  | [], _ => rfl
  | c :: cs, h => by
    have hc := h c (List.mem_cons_self ..)
    have hp := hc.pos
    simp only [imgC]
    rw [if_neg (by omega), List.singleton_append, eqC, eqC_img cs (fun d hd => h d (List.mem_cons_of_mem _ hd)), Bool.and_true]
    show eqR c.r ((normN (f c.r).toNat : Nat) : Int) = true
    rw [normN_of hc.sc, Int.toNat_of_nonneg hc.pos]
    exact hc.eq
theorem eqfB_map {f : Int → Int} (l : List UInt8) (h : ∀ c ∈ chunks l, KeepsC f c) : eqfB l (mapB f l) = true := by
  unfold eqfB
  rw [chunks_mapB]
  exact eqC_img _ h
theorem keeps_D (l : List UInt8) : ∀ c ∈ chunks l, KeepsC (imageT rowsD) c := fun c hc => by
  have hs := (chunks_ok l c hc).scalar
  have he := eqR_D c.r
  refine ⟨by rw [image_D]; split <;> omega, ?_, he⟩
  rw [image_D]
  unfold scalarN at *
  split <;> omega
theorem keeps_U (l : List UInt8) : ∀ c ∈ chunks l, KeepsC (imageT rowsU) c := fun c hc => by
  have hs := (chunks_ok l c hc).scalar
  have he := eqR_U c.r
  refine ⟨by rw [image_U]; split <;> omega, ?_, he⟩
  rw [image_U]
  unfold scalarN at *
  split <;> omega

theorem enc_low {n : Nat} (h : n < 128) : (encN n).length = 1 := by
  unfold encN
  rw [normN_of (by unfold scalarN; omega)]
  unfold encS
  rw [if_pos h]
  rfl
/-- Great letters are as long as small ones. -/
theorem map_U_len : ∀ cs : List Ch, (∀ c ∈ cs, ChOk c) → wholeC cs = true → (mapC (imageT rowsU) cs).length = (glue cs).length
  | [], _, _ => rfl
  | c :: cs, hk, hw => by
    have hw' : c.ok = true ∧ wholeC cs = true := by simpa [wholeC] using hw
    have ih := map_U_len cs (fun d hd => hk d (List.mem_cons_of_mem _ hd)) hw'.2
    have hg := (hk c (List.mem_cons_self ..)).good hw'.1
    have hi := image_U c.r
    simp only [mapC]
    rw [glue_cons, List.length_append, List.length_append, ih, hg]
    congr 1
    by_cases h : 97 ≤ (c.r : Int) ∧ (c.r : Int) ≤ 122
    · rw [if_pos h] at hi
      rw [hi, if_neg (by omega), enc_low (n := c.r) (by omega), enc_low (by omega)]
    · rw [if_neg h] at hi
      rw [hi, if_neg (by omega), Int.toNat_natCast]

theorem fold_map (l : List UInt8) (hw : wholeB l = true) : eqfB l (mapB (imageT rowsD) l) = true ∧ eqfB (mapB (imageT rowsU) l) l = true ∧ eqfB (mapB (imageT rowsU) l) (mapB (imageT rowsD) l) = true ∧ (mapB (imageT rowsU) l).length = l.length := by
  have h1 := eqfB_map l (keeps_D l)
  have h2 := eqfB_map l (keeps_U l)
  have h3 : eqfB (mapB (imageT rowsU) l) l = true := by unfold eqfB at *; rw [eqC_symm]; exact h2
  refine ⟨h1, h3, eqC_trans h3 h1, ?_⟩
  have := map_U_len (chunks l) (chunks_ok l) hw
  rw [glue_chunks] at this
  exact this
end Go.Proofs.YtiahholgpbjjfaaDoor
