/- The document's comparison of messages, and what may be, by the walker. -/
import Derived.Test.YthomoliklfmnkaaM18
import Derived.Test.YthomoliklfmnkaaM16
namespace Go.Proofs.Ythomoliklfmnkaa.Vx
open Go.RowKit
set_option linter.unusedVariables false
set_option linter.unusedSimpArgs false


end Go.Proofs.Ythomoliklfmnkaa.Vx
