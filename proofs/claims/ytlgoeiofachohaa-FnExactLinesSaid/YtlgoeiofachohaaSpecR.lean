/- The walks of spec's functions over code points: turned, trimLeft, points, Size, and those that call them. -/
import Derived.Test.YtlgoeiofachohaaFirst
namespace Go.Proofs.Ytlgoeiofachohaa
open Go.RowKit

theorem holdsT_not (rs : List Int) (nt : Bool) (r : Int) : holdsT rs (!nt) r = !holdsT rs nt r := by
  unfold holdsT
  split <;> simp

theorem firstC_range (p : Int → Bool) : ∀ (cs : List Ch) (o : Nat), firstC p o cs = -1 ∧ (∀ c ∈ cs, p c.r = false) ∨ ∃ i, ∃ h : i < cs.length, firstC p o cs = ((o + placeOf cs i : Nat) : Int) ∧ (∀ c ∈ cs.take i, p c.r = false) ∧ p cs[i].r = true
  | [], _ => .inl ⟨rfl, by simp⟩
  | c :: cs, o => by
    cases hp : p c.r
    · rcases firstC_range p cs (o + c.bs.length) with ⟨e, hn⟩ | ⟨i, hi, e, hn, hi2⟩
      · refine .inl ⟨by rw [firstC, hp, if_neg (by simp), e], ?_⟩
        intro d hd
        rcases List.mem_cons.1 hd with rfl | hd
        · exact hp
        · exact hn d hd
      · refine .inr ⟨i + 1, by simpa using hi, ?_, ?_, by simpa using hi2⟩
        · rw [firstC, hp, if_neg (by simp), e]
          congr 1
          simp [placeOf, List.take_succ_cons, glue_cons]
          omega
        · intro d hd
          rw [List.take_succ_cons] at hd
          rcases List.mem_cons.1 hd with rfl | hd
          · exact hp
          · exact hn d hd
    · exact .inr ⟨0, by simp, by rw [firstC, hp, if_pos rfl]; simp [placeOf, glue], by simp, by simpa using hp⟩

theorem trimL_none (p : Int → Bool) (cs : List Ch) (h : ∀ c ∈ cs, p c.r = true) : trimL p cs = [] := dropWhile_all h
theorem trimL_at (p : Int → Bool) (cs : List Ch) (j : Nat) (hj : j < cs.length) (h1 : ∀ c ∈ cs.take j, p c.r = true) (h2 : p cs[j].r = false) : trimL p cs = cs.drop j := by
  unfold trimL
  have e : cs = cs.take j ++ cs.drop j := (List.take_append_drop j cs).symm
  have e2 : (cs.take j ++ cs.drop j).dropWhile (fun c => p c.r) = cs.drop j := by
    rw [dropWhile_append_all h1, List.drop_eq_getElem_cons hj, List.dropWhile_cons, if_neg (by simp [h2])]
  rw [← e] at e2
  exact e2

end Go.Proofs.Ytlgoeiofachohaa
