/- Writers, by the walker. -/
import Derived.Test.YtbbpgicoklhheaaDoorM25
import Derived.Test.YtbbpgicoklhheaaDoorM11
import Derived.Test.YtbbpgicoklhheaaDoorLebWalks
import Derived.Test.YtbbpgicoklhheaaDoorVPk
section
namespace Go.Proofs.YtbbpgicoklhheaaDoor
set_option linter.unusedVariables false
set_option linter.unusedSimpArgs false



namespace Vx











end Vx
end Go.Proofs.YtbbpgicoklhheaaDoor
end

section
/- What packets are written as, by the walker. -/
namespace Go.Proofs.YtbbpgicoklhheaaDoor
open Go.RowKit
set_option linter.unusedVariables false
set_option linter.unusedSimpArgs false




namespace Vx




end Vx
end Go.Proofs.YtbbpgicoklhheaaDoor
end
