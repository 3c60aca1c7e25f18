/- The reference model's Lines. -/
import Derived.Test.YtlgoeiofachohaaLinesJ
import Derived.Test.YtlgoeiofachohaaLinesR
import Derived.Test.YtlgoeiofachohaaTexts
import Derived.Deep.DeepCutAuto
namespace Go.Proofs.Ytlgoeiofachohaa
open Go.RowKit

/-- The lines of a text, what is left behind the last line feed among them, empty or not. -/
def linesF : List UInt8 → List UInt8 → List (List UInt8)
  | cur, [] => [cur]
  | cur, b :: l => if b = 10 then (cur ++ [b]) :: linesF [] l else linesF (cur ++ [b]) l

theorem linesF_split : ∀ (l cur : List UInt8), ∃ D r, linesF cur l = D ++ [r] ∧ linesA cur l = D ++ (if r = [] then [] else [r])
  | [], cur => ⟨[], cur, rfl, by rw [linesA]; split <;> simp_all⟩
  | b :: l, cur => by
    rw [linesF, linesA]
    split
    · obtain ⟨D, r, h1, h2⟩ := linesF_split l []
      exact ⟨(cur ++ [b]) :: D, r, by rw [h1]; rfl, by rw [h2]; rfl⟩
    · exact linesF_split l (cur ++ [b])

theorem linesF_size : ∀ (l cur : List UInt8), (linesF cur l).length ≤ l.length + 1
  | [], cur => by simp [linesF]
  | b :: l, cur => by
    rw [linesF]
    split
    · have := linesF_size l []; simp; omega
    · have := linesF_size l (cur ++ [b]); simp; omega

theorem linesB_size (l : List UInt8) : sizeL' (linesB l) ≤ l.length := by
  unfold sizeL'
  rw [← List.length_flatten, linesB_flat]
  exact Nat.le_refl _

set_option maxRecDepth 100000 in
set_option maxHeartbeats 4000000 in
theorem spec_split_lf (s : ByteArray) (w : World) (hs : s.size ≤ 1099511627776) :
    Calls Try.prog 54 #[.string s, .string ⟨#[10]⟩, .bool true, .int .i64 (-1)] w (RetSs w (linesF [] s.data.toList)) := by
  have hsz0 : (⟨#[10]⟩ : ByteArray).size = 1 := rfl
  have hne : (⟨#[10]⟩ : ByteArray).toList.isEmpty = false := by rw [ByteArray.toList_eq]; rfl
  have es : s.data.toList.length = s.size := rfl
  have g0 := owns_empty w.heap.size 9 1 w (Nat.le_refl _)
  have x0 : Ext w (w.alloc (.cells #[] 9)) := Ext.alloc _ _
  go_enter Try.func54, Try.ntmps54
  go_wp2_with fail
  go_loopg [9, 10, 11] s.size (fun k o f i wr => ∃ (j p : Nat) (D : List (List UInt8)), j + k = s.size ∧ p ≤ j ∧ i = .int .i64 (j : Int) ∧ f = .int .i64 (p : Int) ∧ D.length ≤ p ∧ linesF [] s.data.toList = D ++ linesF (part s.data.toList p j) (s.data.toList.drop j) ∧ wr.ownsRow w.heap.size 9 1 o D.length (svals D) ∧ Ext w wr)
  case atStart => exact ⟨0, 0, [], by omega, by omega, rfl, rfl, by simp, by simp [part], g0, x0⟩
  case round =>
    obtain ⟨j, p, D, hj, hpj, rfl, rfl, hDp, hlin, hown, hx⟩ := hrel
    clear g0 x0
    have HJ := Lib.hid hj
    have HO := Lib.hid hown
    have HX := Lib.hid hx
    have hszw : w.heap.size ≤ wr.heap.size := hx.size
    by_cases hlt : j < s.size
    · have hgk : 0 < gk := by omega
      have hlt' : j < s.data.toList.length := hlt
      have e1 : s.data.toList.drop j = s.data.toList[j] :: s.data.toList.drop (j + 1) := List.drop_eq_getElem_cons hlt'
      have e2 : part s.data.toList p j ++ [s.data.toList[j]] = part s.data.toList p (j + 1) := by
        unfold part
        rw [List.take_succ_eq_append_getElem hlt', List.drop_append_of_le_length (by simp; omega)]
      have e3 : (s.extract j (j + 1)).toList = [s.data.toList[j]] := by
        rw [ByteArray.toList_eq, show s.extract j (j + 1) = ⟨(part s.data.toList j (j + 1)).toArray⟩ from ba_part s j (j + 1) (by omega)]
        show part s.data.toList j (j + 1) = _
        unfold part
        rw [List.take_succ_eq_append_getElem hlt', List.drop_left' (by simp; omega)]
      rw [e1, linesF, e2] at hlin
      obtain ⟨x, hxx⟩ : ∃ x, s.data.toList[j] = x := ⟨_, rfl⟩
      rw [hxx] at hlin e3
      have hle : (j : Int) + 1 ≤ (s.size : Int) := by omega
      have HLIN := Lib.hid hlin
      clear e1 e2 hlin hown hx hxx hj
      by_cases h10 : x = 10
      · subst h10
        have hE := Lib.hid (show linesF [] s.data.toList = (D ++ [part s.data.toList p (j + 1)]) ++ linesF [] (s.data.toList.drop (j + 1)) by rw [HLIN.out, if_pos rfl, List.append_assoc]; rfl)
        have e4 : ((s.extract j (j + 1)).toList == [10]) = true := by rw [e3]; rfl
        have O3 := Lib.hid (owns_keep HO.out (Ext.alloc wr (.cells #[.string (s.extract p (j + 1))] 9)))
        have HBP := Lib.hid (ba_part s p (j + 1) (by omega))
        clear HLIN e3
        go_wp2_with (refine wpList_appendV rfl 31 _ _ rfl 9 1 16 _ Try.underlying31 info_string rfl (by omega) w.heap.size _ D.length _ rfl O3.out _ 1 _ [_] rfl rfl (news_alloc _ _ _) (by simp [Value.oneCell']) (by omega) (by omega) (by simp; omega) ?_)
        intro v3 w3 h3 g3
        have B3 := owns_grown O3.out g3 (by simp; omega) (below_ext HX.out.below (Ext.alloc wr _) HX.out.size) (Nat.le_refl _)
        have H3 := Lib.hid h3
        have HB3 := Lib.hid B3
        clear B3 h3 g3
        go_wp2_with fail
        go_roundg (gk - 1)
        case measure => omega
        case rel =>
          refine ⟨j + 1, j + 1, D ++ [part s.data.toList p (j + 1)], by have := HJ.out; omega, Nat.le_refl _, by go_num, by go_num, ?_, ?_, ?_, ⟨HB3.out⟩⟩
          rotate_left
          · rw [hE.out]
            simp [part]
          · have := H3.out
            rw [HBP.out] at this
            rw [List.length_append, List.length_singleton]
            simpa [svals] using this
          · rw [List.length_append, List.length_singleton]; omega
      · have hE := Lib.hid (show linesF [] s.data.toList = D ++ linesF (part s.data.toList p (j + 1)) (s.data.toList.drop (j + 1)) by rw [HLIN.out, if_neg h10])
        have e4 : ((s.extract j (j + 1)).toList == [10]) = false := by rw [e3]; simpa using h10
        clear HLIN e3
        go_wp2_with fail
        go_roundg (gk - 1)
        case measure => omega
        case rel => exact ⟨j + 1, p, D, by have := HJ.out; omega, by omega, by go_num, rfl, hDp, hE.out, HO.out, HX.out⟩
    · have hje : j = s.size := by omega
      have hE := Lib.hid (show linesF [] s.data.toList = D ++ [part s.data.toList p s.size] by
        rw [hlin, hje, List.drop_of_length_le (show s.data.toList.length ≤ s.size from Nat.le_refl _)]; rfl)
      have O3 := Lib.hid (owns_keep hown (Ext.alloc wr (.cells #[.string (s.extract p s.size)] 9)))
      have HBP := Lib.hid (ba_part s p s.size (by omega))
      have hle : ¬ (j : Int) + 1 ≤ (s.size : Int) := by omega
      have hps : p ≤ s.size := by omega
      have hjb : j ≤ 1099511627776 := by omega
      have hDb : D.length ≤ 1099511627776 := by omega
      clear hlin hown hj hje hx
      go_wp2_with (refine wpList_appendV rfl 31 _ _ rfl 9 1 16 _ Try.underlying31 info_string rfl (by omega) w.heap.size _ D.length _ rfl O3.out _ 1 _ [_] rfl rfl (news_alloc _ _ _) (by simp [Value.oneCell']) (by omega) (by omega) (by simp; omega) ?_)
      intro v3 w3 h3 g3
      have B3 := owns_grown O3.out g3 (by simp; omega) (below_ext HX.out.below (Ext.alloc wr _) HX.out.size) (Nat.le_refl _)
      have H3 := Lib.hid h3
      have HB3 := Lib.hid B3
      clear B3 h3 g3
      go_wp2_with fail
      go_ret
      refine ⟨_, rfl, ?_, ⟨HB3.out⟩⟩
      have := vs_of_owns H3.out
      rw [HBP.out] at this
      rw [hE.out]
      unfold Ss
      rw [List.length_append, List.length_singleton]
      simpa [svals] using this

theorem Ss.init {w : World} {a : Option Addr} {c : Nat} {D : List (List UInt8)} {r : List UInt8} (h : Ss w (.slice a (D.length + 1) c) (D ++ [r])) : Ss w (.slice a D.length c) D := by
  obtain ⟨hl, a', c', hv, h1, h2, h3⟩ := h
  injection hv with e1 e2 e3
  subst e1 e3
  refine ⟨by simp [svals], a, c, rfl, by rw [List.length_append, List.length_singleton] at h1; omega, h2, ?_⟩
  rcases h3 with h3 | ⟨b, o, ha, hc⟩
  · rw [svals_append] at h3
    simp [svals] at h3
  · refine .inr ⟨b, o, ha, fun i hi => ?_⟩
    have hi2 : i < (svals (D ++ [r])).length := by rw [svals_append, List.length_append]; omega
    have := hc i hi2
    rw [this]
    congr 1
    simp only [svals_append]
    exact List.getElem_append_left hi

set_option maxRecDepth 100000 in
set_option maxHeartbeats 2000000 in
theorem spec_lines (s : ByteArray) (w : World) (hs : s.size ≤ 1099511627776) :
    Calls Try.prog 46 #[.string s] w (RetSs w (linesB s.data.toList)) := by
  have cS := spec_split_lf s w hs
  have hfs := linesF_size s.data.toList []
  have es : s.data.toList.length = s.size := rfl
  rw [es] at hfs
  obtain ⟨D, r, h1, h2⟩ := linesF_split s.data.toList []
  rw [h1] at cS hfs
  rw [List.length_append, List.length_singleton] at hfs
  have HB := Lib.hid (show linesB s.data.toList = D ++ (if r = [] then [] else [r]) from h2)
  clear h1 h2 es
  go_enter Try.func46, Try.ntmps46
  go_wp2_with (go_at_call 54; refine cS.mono ?_)
  rintro _ w1 ⟨v1, rfl, s1, x1⟩
  obtain ⟨a, c, e1, p1, q1, hc⟩ := s1.raw
  subst e1
  have hc1 : c ≤ 9223372036854775807 := by unfold maxLen at q1; omega
  rw [List.length_append, List.length_singleton] at s1 p1 ⊢
  obtain ⟨b, o, rfl, d0⟩ := hc D.length (by simp)
  have d1 : w1.cell? ⟨b, o + D.length, none⟩ = some (.string ⟨r.toArray⟩) := by
    simpa using d0
  have HS := Lib.hid s1
  clear hc q1 d0 s1
  by_cases hr : r = []
  · have hre : (⟨r.toArray⟩ : ByteArray).toList.isEmpty = true := by rw [ByteArray.toList_eq, hr]; rfl
    have HE := Lib.hid (show linesB s.data.toList = D by rw [HB.out, if_pos hr, List.append_nil])
    obtain ⟨sr, hsr⟩ : ∃ sr, (⟨r.toArray⟩ : ByteArray) = sr := ⟨_, rfl⟩
    rw [hsr] at hre d1
    clear hr hsr
    go_wp2_with fail
    go_ret
    exact ⟨_, rfl, by rw [HE.out]; exact HS.out.init, x1⟩
  · have hre : (⟨r.toArray⟩ : ByteArray).toList.isEmpty = false := by
      rw [ByteArray.toList_eq]
      cases r with
      | nil => exact absurd rfl hr
      | cons x y => rfl
    have HE := Lib.hid (show linesB s.data.toList = D ++ [r] by rw [HB.out, if_neg hr])
    obtain ⟨sr, hsr⟩ : ∃ sr, (⟨r.toArray⟩ : ByteArray) = sr := ⟨_, rfl⟩
    rw [hsr] at hre d1
    clear hr hsr
    go_wp2_with fail
    go_ret
    exact ⟨_, rfl, by rw [HE.out]; exact HS.out, x1⟩

set_option maxRecDepth 100000 in
theorem spec_TextLines (s : ByteArray) (w : World) (hs : s.size ≤ 1099511627776) :
    Calls Try.prog 32 #[.string s] w (RetSs w (linesB s.data.toList)) := by
  go_enter Try.func32, Try.ntmps32
  go_wp2_with (go_at_call 46; refine (spec_lines s w hs).mono ?_)
  rintro _ w1 ⟨v1, rfl, s1, x1⟩
  go_wp2_with fail
  go_ret
  exact ⟨_, rfl, s1, x1⟩

set_option maxRecDepth 100000 in
theorem spec_Lines (v : Value) (l : List UInt8) (w : World) (h : Bs w v l) (hl : l.length ≤ 1099511627775) :
    Calls Try.prog 11 #[v] w (RetOwnL w (linesB l)) := by
  have cT := spec_TextLines ⟨l.toArray⟩ w (by show l.length ≤ _; omega)
  have h1 := linesB_len l
  have h2 : ∀ x ∈ linesB l, x.length ≤ 140737488355328 := fun x hx => by have := linesB_each hx; omega
  go_enter Try.func11, Try.ntmps11
  go_wp2_with (first | refine wpList_toString rfl 22 9 _ rfl 5 Try.underlying22 Try.underlying5 Try.underlying9 _ _ rfl h ?_ | (go_at_call 32; refine cT.mono ?_))
  rintro _ w1 ⟨v1, rfl, s1, x1⟩
  go_wp2_with (go_at_call 31; refine (spec_copies _ _ _ s1 (by show (linesB l).length ≤ _; omega) h2).mono ?_)
  rintro _ w2 ⟨v2, rfl, o2, x2⟩
  go_wp2_with fail
  go_ret
  exact ⟨_, rfl, o2.mono x1.size (Nat.le_refl _), x1.trans x2⟩
end Go.Proofs.Ytlgoeiofachohaa
