/- Contracts of bytes.Compare and of the thin package's Compare: the byte-wise comparison of two lists of bytes. No condition beyond what the slices hold. -/
import Derived.Test.YtdlobdbclgcogaaDoorBase
import Derived.Test.YtdlobdbclgcogaaDoorPlain
import Derived.Test.YtdlobdbclgcogaaDoorRows
namespace Go.Proofs.YtdlobdbclgcogaaDoor
open Go.RowKit



end Go.Proofs.YtdlobdbclgcogaaDoor
