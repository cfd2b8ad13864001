/- Packets, by the walker. -/
import Derived.Test.YtbbpgicoklhheaaDoorPacket
import Derived.Test.YtbbpgicoklhheaaDoorM25
namespace Go.Proofs.YtbbpgicoklhheaaDoor
open Go.RowKit
set_option linter.unusedVariables false
set_option linter.unusedSimpArgs false
namespace Vx














end Vx
end Go.Proofs.YtbbpgicoklhheaaDoor
