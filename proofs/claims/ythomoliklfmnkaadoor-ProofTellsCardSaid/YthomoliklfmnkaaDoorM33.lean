/- Writers, by the walker. -/
import Derived.Test.YthomoliklfmnkaaDoorM26
import Derived.Test.YthomoliklfmnkaaDoorM11
import Derived.Test.YthomoliklfmnkaaDoorLebWalks
import Derived.Test.YthomoliklfmnkaaDoorVPk
section
namespace Go.Proofs.YthomoliklfmnkaaDoor
set_option linter.unusedVariables false
set_option linter.unusedSimpArgs false



namespace Vx











end Vx
end Go.Proofs.YthomoliklfmnkaaDoor
end

section
/- What packets are written as, by the walker. -/
namespace Go.Proofs.YthomoliklfmnkaaDoor
open Go.RowKit
set_option linter.unusedVariables false
set_option linter.unusedSimpArgs false




namespace Vx




end Vx
end Go.Proofs.YthomoliklfmnkaaDoor
end
