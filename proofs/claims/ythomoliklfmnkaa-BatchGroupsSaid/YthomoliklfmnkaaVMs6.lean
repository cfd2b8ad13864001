/- The document's comparison of messages, and what may be, by the walker. -/
import Derived.Test.YthomoliklfmnkaaM20
import Derived.Test.YthomoliklfmnkaaM19
namespace Go.Proofs.Ythomoliklfmnkaa.Vx
open Go.RowKit
set_option linter.unusedVariables false
set_option linter.unusedSimpArgs false
attribute [local cbv_opaque] lK lV lI lP lN pG leafL leafOf stepsL sizedB leavesPre mayAt mayL lightAt lightL deep hsL sumAt hsPre rN plainM lightPkt msgPre lightM lenL nextB between sameM mayM msgOf mayPkt


end Go.Proofs.Ythomoliklfmnkaa.Vx
