/- Contracts of bytes.Compare and of the thin package's Compare: the byte-wise comparison of two lists of bytes. No condition beyond what the slices hold. -/
import Derived.Test.YtlgoeiofachohaaBase
import Derived.Test.YtlgoeiofachohaaPlain
import Derived.Test.YtlgoeiofachohaaRows
namespace Go.Proofs.Ytlgoeiofachohaa
open Go.RowKit



end Go.Proofs.Ytlgoeiofachohaa
