/- The tests of code points: spec.holds and impl.Test's method. -/
import Derived.Test.YtiahholgpbjjfaaDoorVs
import Derived.Test.YtiahholgpbjjfaaDoorChecked
namespace Go.Proofs.YtiahholgpbjjfaaDoor
open Go.RowKit

end Go.Proofs.YtiahholgpbjjfaaDoor
