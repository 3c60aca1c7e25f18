/- The tests of code points: spec.holds and impl.Test's method. -/
import Derived.Test.YtlgoeiofachohaaVs
import Derived.Test.YtlgoeiofachohaaChecked
namespace Go.Proofs.Ytlgoeiofachohaa
open Go.RowKit

end Go.Proofs.Ytlgoeiofachohaa
