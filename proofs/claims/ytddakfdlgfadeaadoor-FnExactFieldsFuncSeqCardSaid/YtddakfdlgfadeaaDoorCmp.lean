/- Contracts of bytes.Compare and of the thin package's Compare: the byte-wise comparison of two lists of bytes. No condition beyond what the slices hold. -/
import Derived.Test.YtddakfdlgfadeaaDoorBase
import Derived.Test.YtddakfdlgfadeaaDoorPlain
import Derived.Test.YtddakfdlgfadeaaDoorRows
namespace Go.Proofs.YtddakfdlgfadeaaDoor
open Go.RowKit



end Go.Proofs.YtddakfdlgfadeaaDoor
