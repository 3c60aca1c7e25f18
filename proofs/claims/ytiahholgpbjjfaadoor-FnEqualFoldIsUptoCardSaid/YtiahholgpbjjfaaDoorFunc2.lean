/- The walks of bytes.TrimLeftFunc, TrimRightFunc, TrimFunc. Printed by funcs.py. -/
import Derived.Test.YtiahholgpbjjfaaDoorFunc
namespace Go.Proofs.YtiahholgpbjjfaaDoor
open Go.RowKit

/-- A call's answer: a slice of the bytes l. -/
def RetB (w : World) (l : List UInt8) (e : Ending) (w' : World) : Prop := ∃ v, e = .returned v ∧ Bs w' v l ∧ Ext w w'

theorem lastC_range (p : Int → Bool) : ∀ (cs : List Ch) (o : Nat), lastC p o cs = -1 ∧ (∀ c ∈ cs, p c.r = false) ∨ ∃ i, ∃ h : i < cs.length, lastC p o cs = ((o + placeOf cs i : Nat) : Int) ∧ (∀ c ∈ cs.drop (i + 1), p c.r = false) ∧ p cs[i].r = true
  | [], _ => .inl ⟨rfl, by simp⟩
  | c :: cs, o => by
    rcases lastC_range p cs (o + c.bs.length) with ⟨e, hn⟩ | ⟨i, hi, e, hn, hi2⟩
    · cases hp : p c.r
      · refine .inl ⟨by rw [lastC, e, hp]; simp, ?_⟩
        intro d hd
        rcases List.mem_cons.1 hd with rfl | hd
        · exact hp
        · exact hn d hd
      · exact .inr ⟨0, by simp, by rw [lastC, e, hp]; simp [placeOf, glue], by simpa using hn, by simpa using hp⟩
    · refine .inr ⟨i + 1, by simpa using hi, ?_, by simpa using hn, by simpa using hi2⟩
      rw [lastC, e, if_pos (by omega)]
      congr 1
      simp [placeOf, List.take_succ_cons, glue_cons]
      omega




end Go.Proofs.YtiahholgpbjjfaaDoor
