/- Contracts of bytes.Compare and of the thin package's Compare: the byte-wise comparison of two lists of bytes. No condition beyond what the slices hold. -/
import Derived.Test.YthbfdajbajijeaaDoorBase
import Derived.Test.YthbfdajbajijeaaDoorPlain
import Derived.Test.YthbfdajbajijeaaDoorRows
namespace Go.Proofs.YthbfdajbajijeaaDoor
open Go.RowKit



end Go.Proofs.YthbfdajbajijeaaDoor
