/- The walks of bytes.indexFunc and its kin, over a function value on code points. Printed by funcs.py. -/
import Derived.Test.YtiahholgpbjjfaaDoorDec
import Derived.Test.YtiahholgpbjjfaaDoorWrapA
namespace Go.Proofs.YtiahholgpbjjfaaDoor
open Go.RowKit

/-- The place of the first code point of which the test says 'truth'. -/
def idxC (p : Int → Bool) (truth : Bool) (cs : List Ch) : Int := firstC (fun r => p r == truth) 0 cs
def lidxC (p : Int → Bool) (truth : Bool) (cs : List Ch) : Int := lastC (fun r => p r == truth) 0 cs




end Go.Proofs.YtiahholgpbjjfaaDoor
