/- Contracts of bytes.Compare and of the thin package's Compare: the byte-wise comparison of two lists of bytes. No condition beyond what the slices hold. -/
import Derived.Test.YtlbaoghebjaliaaDoorBase
import Derived.Test.YtlbaoghebjaliaaDoorPlain
import Derived.Test.YtlbaoghebjaliaaDoorRows
namespace Go.Proofs.YtlbaoghebjaliaaDoor
open Go.RowKit



end Go.Proofs.YtlbaoghebjaliaaDoor
