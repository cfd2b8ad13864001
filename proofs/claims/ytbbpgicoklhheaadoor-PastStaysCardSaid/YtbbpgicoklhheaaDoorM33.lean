/- Readers, by the walker. -/
import Derived.Test.YtbbpgicoklhheaaDoorM25
import Derived.Test.YtbbpgicoklhheaaDoorM8
import Derived.Test.YtbbpgicoklhheaaDoorM32
import Derived.Test.YtbbpgicoklhheaaDoorM28
import Derived.Test.YtbbpgicoklhheaaDoorM13
import Derived.Test.YtbbpgicoklhheaaDoorLebWalks
import Derived.Lib.BufferWrite
import Derived.Lib.UnsafeStr
import Derived.Test.YtbbpgicoklhheaaDoorVPk
section
namespace Go.Proofs.YtbbpgicoklhheaaDoor
open Go.RowKit
set_option linter.unusedVariables false
set_option linter.unusedSimpArgs false




namespace Vx























end Vx
end Go.Proofs.YtbbpgicoklhheaaDoor
end

section
/- Packets read, by the walker. -/
namespace Go.Proofs.YtbbpgicoklhheaaDoor
open Go.RowKit
set_option linter.unusedVariables false
set_option linter.unusedSimpArgs false
/-! What is read of the bytes l from a state on: a value, the state. -/
namespace Vx






end Vx
end Go.Proofs.YtbbpgicoklhheaaDoor
end

section
/- What packets are written as is read back, plainly. -/
namespace Go.Proofs.YtbbpgicoklhheaaDoor
open Go.RowKit
set_option linter.unusedVariables false
set_option linter.unusedSimpArgs false



end Go.Proofs.YtbbpgicoklhheaaDoor
end

section
/- The document's own readers, by the walker. -/
namespace Go.Proofs.YtbbpgicoklhheaaDoor
open Go.RowKit
set_option linter.unusedVariables false
set_option linter.unusedSimpArgs false


namespace Vx







end Vx
end Go.Proofs.YtbbpgicoklhheaaDoor
end

section
/- Sums written and read, by the walker (without the place At). -/
namespace Go.Proofs.YtbbpgicoklhheaaDoor.Vx


end Go.Proofs.YtbbpgicoklhheaaDoor.Vx
namespace Go.Proofs.YtbbpgicoklhheaaDoor
open Go.RowKit
set_option linter.unusedVariables false
set_option linter.unusedSimpArgs false

namespace Vx







end Vx
end Go.Proofs.YtbbpgicoklhheaaDoor
end
