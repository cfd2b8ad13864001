/- Slices and sums that come in, opened. -/
import Derived.Test.YtophhppklaofaaaDoorVxFrame
import Derived.Test.YtophhppklaofaaaDoorBase
import Derived.WideShapes
import Derived.ChangeMaps5
import Derived.OpenShut
import Derived.ProofKit
namespace Go.Proofs.YtophhppklaofaaaDoor
open Go.ChangeShapes Go.WideShapes Go.ChangeAt Go.RowKit
set_option linter.unusedVariables false
set_option linter.unusedSimpArgs false
section
variable {H : Type} {enc : TypeId × Value → H} {w : World} {base : Nat}


end
end Go.Proofs.YtophhppklaofaaaDoor
