/- Slices of messages compared, by the walker. -/
import Derived.Test.YtcgoaicifjndpaaM35
import Derived.Test.YtcgoaicifjndpaaVMs6
namespace Go.Proofs.Ytcgoaicifjndpaa.Vx
open Go.RowKit
set_option linter.unusedVariables false
set_option linter.unusedSimpArgs false


end Go.Proofs.Ytcgoaicifjndpaa.Vx
