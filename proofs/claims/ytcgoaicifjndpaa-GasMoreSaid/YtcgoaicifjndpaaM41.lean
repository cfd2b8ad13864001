/- The document's count, by the walker. -/
import Derived.Test.YtcgoaicifjndpaaM28
import Derived.Test.YtcgoaicifjndpaaM30
import Derived.Test.YtcgoaicifjndpaaM31
import Derived.Test.YtcgoaicifjndpaaM40
section
namespace Go.Proofs.Ytcgoaicifjndpaa
open Go.RowKit
set_option linter.unusedVariables false
set_option linter.unusedSimpArgs false
namespace Vx

end Vx
end Go.Proofs.Ytcgoaicifjndpaa
end

section
/- The document's proofs read, by the walker. -/
namespace Go.Proofs.Ytcgoaicifjndpaa.Vx
open Go.RowKit
set_option linter.unusedVariables false
set_option linter.unusedSimpArgs false


end Go.Proofs.Ytcgoaicifjndpaa.Vx
end

section
/- The document's messages decoded, by the walker. -/
namespace Go.Proofs.Ytcgoaicifjndpaa.Vx
open Go.RowKit
set_option linter.unusedVariables false
set_option linter.unusedSimpArgs false

end Go.Proofs.Ytcgoaicifjndpaa.Vx
end
