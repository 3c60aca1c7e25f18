/- The wrappers over the functions on code points: bytes, impl, spec. Printed by funcw.py. -/
import Derived.Test.YtiahholgpbjjfaaDoorFunc
import Derived.Test.YtiahholgpbjjfaaDoorExactI
namespace Go.Proofs.YtiahholgpbjjfaaDoor
open Go.RowKit

theorem idxC_true (p : Int → Bool) (cs : List Ch) : idxC p true cs = firstC p 0 cs := by unfold idxC; congr 1; funext r; simp
theorem lidxC_true (p : Int → Bool) (cs : List Ch) : lidxC p true cs = lastC p 0 cs := by unfold lidxC; congr 1; funext r; simp
theorem idxC_false (p : Int → Bool) (cs : List Ch) : idxC p false cs = firstC (fun r => !p r) 0 cs := by unfold idxC; congr 1; funext r; simp
theorem lidxC_false (p : Int → Bool) (cs : List Ch) : lidxC p false cs = lastC (fun r => !p r) 0 cs := by unfold lidxC; congr 1; funext r; simp

end Go.Proofs.YtiahholgpbjjfaaDoor
