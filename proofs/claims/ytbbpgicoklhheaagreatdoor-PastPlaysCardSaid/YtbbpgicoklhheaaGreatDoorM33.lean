/- Writers, by the walker. -/
import Derived.Test.YtbbpgicoklhheaaGreatDoorM26
import Derived.Test.YtbbpgicoklhheaaGreatDoorM11
import Derived.Test.YtbbpgicoklhheaaGreatDoorLebWalks
import Derived.Test.YtbbpgicoklhheaaGreatDoorVPk
section
namespace Go.Proofs.YtbbpgicoklhheaaGreatDoor
set_option linter.unusedVariables false
set_option linter.unusedSimpArgs false



namespace Vx











end Vx
end Go.Proofs.YtbbpgicoklhheaaGreatDoor
end

section
/- What packets are written as, by the walker. -/
namespace Go.Proofs.YtbbpgicoklhheaaGreatDoor
open Go.RowKit
set_option linter.unusedVariables false
set_option linter.unusedSimpArgs false




namespace Vx




end Vx
end Go.Proofs.YtbbpgicoklhheaaGreatDoor
end
