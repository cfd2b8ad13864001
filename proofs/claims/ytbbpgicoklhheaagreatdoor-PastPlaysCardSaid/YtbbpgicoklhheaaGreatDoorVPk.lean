/- Packets, by the walker. -/
import Derived.Test.YtbbpgicoklhheaaGreatDoorPacket
import Derived.Test.YtbbpgicoklhheaaGreatDoorM26
namespace Go.Proofs.YtbbpgicoklhheaaGreatDoor
open Go.RowKit
set_option linter.unusedVariables false
set_option linter.unusedSimpArgs false
namespace Vx














end Vx
end Go.Proofs.YtbbpgicoklhheaaGreatDoor
