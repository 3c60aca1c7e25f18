/- spec.Points: the code points of a text. -/
import Derived.Test.YthbfdajbajijeaaDoorSpecR
namespace Go.Proofs.YthbfdajbajijeaaDoor
open Go.RowKit

/-- A call's answer: a slice of runes. -/
def RetRs (w : World) (rs : List Int) (e : Ending) (w' : World) : Prop := ∃ v, e = .returned v ∧ Is w' v rs ∧ Ext w w'

end Go.Proofs.YthbfdajbajijeaaDoor
