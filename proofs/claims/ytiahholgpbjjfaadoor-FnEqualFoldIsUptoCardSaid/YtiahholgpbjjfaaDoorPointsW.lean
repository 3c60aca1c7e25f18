/- spec.Points: the code points of a text. -/
import Derived.Test.YtiahholgpbjjfaaDoorSpecR
namespace Go.Proofs.YtiahholgpbjjfaaDoor
open Go.RowKit

/-- A call's answer: a slice of runes. -/
def RetRs (w : World) (rs : List Int) (e : Ending) (w' : World) : Prop := ∃ v, e = .returned v ∧ Is w' v rs ∧ Ext w w'

set_option maxRecDepth 100000 in
theorem spec_PointsR (s : ByteArray) (w : World) (hs : s.size ≤ 1099511627776) :
    Calls Tryd.prog 11 #[.string s] w (RetRs w (runesOf (chunks s.data.toList))) := by
  go_enter Tryd.func11, Tryd.ntmps11
  go_wp2_with (go_at_call 19; refine (spec_points s w hs).mono ?_)
  rintro _ w1 ⟨v1, rfl, i1, x1⟩
  go_wp2_with fail
  go_ret
  exact ⟨_, rfl, vs_of_owns i1, x1⟩
end Go.Proofs.YtiahholgpbjjfaaDoor
