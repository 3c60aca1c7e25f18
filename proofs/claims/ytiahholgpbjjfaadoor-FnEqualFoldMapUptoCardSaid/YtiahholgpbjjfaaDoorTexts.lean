/- The walks of laws.texts, laws.same, laws.glued. -/
import Derived.Test.YtiahholgpbjjfaaDoorFieldsS
import Derived.Deep.DeepCutAuto
import Derived.BigQuiet
namespace Go.Proofs.YtiahholgpbjjfaaDoor
open Go.RowKit



end Go.Proofs.YtiahholgpbjjfaaDoor
