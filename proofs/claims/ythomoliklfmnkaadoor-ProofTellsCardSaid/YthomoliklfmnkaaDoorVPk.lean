/- Packets, by the walker. -/
import Derived.Test.YthomoliklfmnkaaDoorPacket
import Derived.Test.YthomoliklfmnkaaDoorM26
namespace Go.Proofs.YthomoliklfmnkaaDoor
open Go.RowKit
set_option linter.unusedVariables false
set_option linter.unusedSimpArgs false
namespace Vx














end Vx
end Go.Proofs.YthomoliklfmnkaaDoor
