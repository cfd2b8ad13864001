/- Proofs that come in, opened: slices whose elements hold slices. -/
import Derived.Test.YthomoliklfmnkaaM14
import Derived.Test.YthomoliklfmnkaaM2
import Derived.Test.YthomoliklfmnkaaM20
import Derived.Test.YthomoliklfmnkaaM19
section
namespace Go.Proofs.Ythomoliklfmnkaa
open Go.ChangeShapes Go.WideShapes Go.ChangeAt Go.RowKit
set_option linter.unusedVariables false
set_option linter.unusedSimpArgs false
set_option maxRecDepth 100000
section
variable {H : Type} {enc : TypeId × Value → H} {w : World} {base : Nat}
end
end Go.Proofs.Ythomoliklfmnkaa
end

section
/- Headers and proofs that come in, opened. -/
namespace Go.Proofs.Ythomoliklfmnkaa
open Go.ChangeShapes Go.WideShapes Go.ChangeAt Go.RowKit
set_option linter.unusedVariables false
set_option linter.unusedSimpArgs false
set_option maxRecDepth 100000
section
variable {H : Type} {enc : TypeId × Value → H} {w : World} {base : Nat}
end
end Go.Proofs.Ythomoliklfmnkaa
end

section
/- Slices of integers and of ranges that come in. -/
namespace Go.Proofs.Ythomoliklfmnkaa
open Go.ChangeShapes Go.WideShapes Go.ChangeAt Go.RowKit
set_option linter.unusedVariables false
set_option linter.unusedSimpArgs false
section
variable {H : Type} {enc : TypeId × Value → H} {w : World} {base : Nat}
end
end Go.Proofs.Ythomoliklfmnkaa
end
