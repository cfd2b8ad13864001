/- The document's count, by the walker. -/
import Derived.Test.YthomoliklfmnkaaM22
import Derived.Test.YthomoliklfmnkaaM23
import Derived.Test.YthomoliklfmnkaaM24
section
namespace Go.Proofs.Ythomoliklfmnkaa
open Go.RowKit
set_option linter.unusedVariables false
set_option linter.unusedSimpArgs false
namespace Vx

end Vx
end Go.Proofs.Ythomoliklfmnkaa
end

section
/- The document's proofs read, by the walker. -/
namespace Go.Proofs.Ythomoliklfmnkaa.Vx
open Go.RowKit
set_option linter.unusedVariables false
set_option linter.unusedSimpArgs false


end Go.Proofs.Ythomoliklfmnkaa.Vx
end

section
/- The document's messages decoded, by the walker. -/
namespace Go.Proofs.Ythomoliklfmnkaa.Vx
open Go.RowKit
set_option linter.unusedVariables false
set_option linter.unusedSimpArgs false

end Go.Proofs.Ythomoliklfmnkaa.Vx
end
