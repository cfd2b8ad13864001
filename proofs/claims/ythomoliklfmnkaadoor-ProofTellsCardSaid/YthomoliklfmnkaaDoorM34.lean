/- Readers, by the walker. -/
import Derived.Test.YthomoliklfmnkaaDoorM26
import Derived.Test.YthomoliklfmnkaaDoorM8
import Derived.Test.YthomoliklfmnkaaDoorM33
import Derived.Test.YthomoliklfmnkaaDoorM29
import Derived.Test.YthomoliklfmnkaaDoorM14
import Derived.Test.YthomoliklfmnkaaDoorLebWalks
import Derived.Lib.BufferWrite
import Derived.Lib.UnsafeStr
import Derived.Test.YthomoliklfmnkaaDoorVPk
section
namespace Go.Proofs.YthomoliklfmnkaaDoor
open Go.RowKit
set_option linter.unusedVariables false
set_option linter.unusedSimpArgs false




namespace Vx























end Vx
end Go.Proofs.YthomoliklfmnkaaDoor
end

section
/- Packets read, by the walker. -/
namespace Go.Proofs.YthomoliklfmnkaaDoor
open Go.RowKit
set_option linter.unusedVariables false
set_option linter.unusedSimpArgs false
/-! What is read of the bytes l from a state on: a value, the state. -/
namespace Vx






end Vx
end Go.Proofs.YthomoliklfmnkaaDoor
end

section
/- What packets are written as is read back, plainly. -/
namespace Go.Proofs.YthomoliklfmnkaaDoor
open Go.RowKit
set_option linter.unusedVariables false
set_option linter.unusedSimpArgs false



end Go.Proofs.YthomoliklfmnkaaDoor
end

section
/- The document's own readers, by the walker. -/
namespace Go.Proofs.YthomoliklfmnkaaDoor
open Go.RowKit
set_option linter.unusedVariables false
set_option linter.unusedSimpArgs false


namespace Vx







end Vx
end Go.Proofs.YthomoliklfmnkaaDoor
end

section
/- Sums written and read, by the walker (without the place At). -/
namespace Go.Proofs.YthomoliklfmnkaaDoor.Vx


end Go.Proofs.YthomoliklfmnkaaDoor.Vx
namespace Go.Proofs.YthomoliklfmnkaaDoor
open Go.RowKit
set_option linter.unusedVariables false
set_option linter.unusedSimpArgs false

namespace Vx







end Vx
end Go.Proofs.YthomoliklfmnkaaDoor
end
