/- The document's comparison of proofs, by the walker. -/
import Derived.Test.YtcgoaicifjndpaaM14
import Derived.Test.YtcgoaicifjndpaaM11
namespace Go.Proofs.Ytcgoaicifjndpaa.Vx
open Go.RowKit
set_option linter.unusedVariables false
set_option linter.unusedSimpArgs false
/-- A byte of a sum. -/
def hQ (p : List (List Int)) (i j : Nat) : Int := (p.getD i []).getD j 0
attribute [local cbv_opaque] lK lV lI lP lN leafL leafOf stepsL sizedB leavesPre hQ mayAt mayL lightAt lightL deep hsL sumAt hsPre
end Go.Proofs.Ytcgoaicifjndpaa.Vx
