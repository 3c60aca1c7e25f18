/- The wrappers over the trims by a test: impl, spec. Printed by funcw2.py. -/
import Derived.Test.YtiahholgpbjjfaaDoorFunc2
import Derived.Test.YtiahholgpbjjfaaDoorFuncW
import Derived.Deep.RegionHeld3
namespace Go.Proofs.YtiahholgpbjjfaaDoor
open Go.RowKit

theorem glue_trimL_len (p : Int → Bool) (cs : List Ch) : (glue (trimL p cs)).length ≤ (glue cs).length := by
  unfold trimL
  induction cs with
  | nil => simp
  | cons c cs ih =>
    rw [List.dropWhile_cons]
    split
    · rw [glue_cons, List.length_append]; omega
    · exact Nat.le_refl _
theorem glue_append_len (a b : List Ch) : (glue (a ++ b)).length = (glue a).length + (glue b).length := by rw [glue_append, List.length_append]
theorem glue_trimR_len (p : Int → Bool) (cs : List Ch) : (glue (trimR p cs)).length ≤ (glue cs).length := by
  rcases lastC_range (fun r => !p r) cs 0 with ⟨_, hn⟩ | ⟨i, hi, _, hn, hp⟩
  · rw [trimR_none p cs (fun c hc => by have := hn c hc; simpa using this)]; simp [glue]
  · rw [trimR_at p cs i hi (fun c hc => by have := hn c hc; simpa using this) (by simpa using hp)]
    have e := List.take_append_drop (i + 1) cs
    have := glue_append_len (cs.take (i + 1)) (cs.drop (i + 1))
    rw [e] at this
    omega

def tlB (p : Int → Bool) (l : List UInt8) : List UInt8 := glue (trimL p (chunks l))
def trB (p : Int → Bool) (l : List UInt8) : List UInt8 := glue (trimR p (chunks l))
def tB (p : Int → Bool) (l : List UInt8) : List UInt8 := trB p (tlB p l)
theorem tlB_len (p : Int → Bool) (l : List UInt8) : (tlB p l).length ≤ l.length := by have := glue_trimL_len p (chunks l); rwa [glue_chunks] at this
theorem trB_len (p : Int → Bool) (l : List UInt8) : (trB p l).length ≤ l.length := by have := glue_trimR_len p (chunks l); rwa [glue_chunks] at this
theorem tB_len (p : Int → Bool) (l : List UInt8) : (tB p l).length ≤ l.length := Nat.le_trans (trB_len p _) (tlB_len p l)

end Go.Proofs.YtiahholgpbjjfaaDoor
