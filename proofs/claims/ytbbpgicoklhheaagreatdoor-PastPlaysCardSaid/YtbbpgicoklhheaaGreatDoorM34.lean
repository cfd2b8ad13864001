/- Readers, by the walker. -/
import Derived.Test.YtbbpgicoklhheaaGreatDoorM26
import Derived.Test.YtbbpgicoklhheaaGreatDoorM8
import Derived.Test.YtbbpgicoklhheaaGreatDoorM33
import Derived.Test.YtbbpgicoklhheaaGreatDoorM29
import Derived.Test.YtbbpgicoklhheaaGreatDoorM14
import Derived.Test.YtbbpgicoklhheaaGreatDoorLebWalks
import Derived.Lib.BufferWrite
import Derived.Lib.UnsafeStr
import Derived.Test.YtbbpgicoklhheaaGreatDoorVPk
section
namespace Go.Proofs.YtbbpgicoklhheaaGreatDoor
open Go.RowKit
set_option linter.unusedVariables false
set_option linter.unusedSimpArgs false




namespace Vx























end Vx
end Go.Proofs.YtbbpgicoklhheaaGreatDoor
end

section
/- Packets read, by the walker. -/
namespace Go.Proofs.YtbbpgicoklhheaaGreatDoor
open Go.RowKit
set_option linter.unusedVariables false
set_option linter.unusedSimpArgs false
/-! What is read of the bytes l from a state on: a value, the state. -/
namespace Vx






end Vx
end Go.Proofs.YtbbpgicoklhheaaGreatDoor
end

section
/- What packets are written as is read back, plainly. -/
namespace Go.Proofs.YtbbpgicoklhheaaGreatDoor
open Go.RowKit
set_option linter.unusedVariables false
set_option linter.unusedSimpArgs false



end Go.Proofs.YtbbpgicoklhheaaGreatDoor
end

section
/- The document's own readers, by the walker. -/
namespace Go.Proofs.YtbbpgicoklhheaaGreatDoor
open Go.RowKit
set_option linter.unusedVariables false
set_option linter.unusedSimpArgs false


namespace Vx







end Vx
end Go.Proofs.YtbbpgicoklhheaaGreatDoor
end

section
/- Sums written and read, by the walker (without the place At). -/
namespace Go.Proofs.YtbbpgicoklhheaaGreatDoor.Vx


end Go.Proofs.YtbbpgicoklhheaaGreatDoor.Vx
namespace Go.Proofs.YtbbpgicoklhheaaGreatDoor
open Go.RowKit
set_option linter.unusedVariables false
set_option linter.unusedSimpArgs false

namespace Vx







end Vx
end Go.Proofs.YtbbpgicoklhheaaGreatDoor
end
