/- The document's comparison of messages, and what may be, by the walker. -/
import Derived.Test.YtcgoaicifjndpaaM17
import Derived.Test.YtcgoaicifjndpaaVSp
namespace Go.Proofs.Ytcgoaicifjndpaa.Vx
open Go.RowKit
set_option linter.unusedVariables false
set_option linter.unusedSimpArgs false
attribute [local cbv_opaque] lK lV lI lP lN pG leafL leafOf stepsL sizedB leavesPre mayAt mayL lightAt lightL deep hsL sumAt hsPre rN plainM lightPkt msgPre lightM lenL nextB between sameM mayM msgOf mayPkt
end Go.Proofs.Ytcgoaicifjndpaa.Vx
