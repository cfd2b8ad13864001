/- The law BatchCuts, by the walker. -/
import Derived.Test.YthomoliklfmnkaaM32
namespace Go.Proofs.Ythomoliklfmnkaa.Vx
open Go.RowKit
set_option linter.unusedVariables false
set_option linter.unusedSimpArgs false


end Go.Proofs.Ythomoliklfmnkaa.Vx
namespace Go.Proofs.Ythomoliklfmnkaa
open Go.RowKit
set_option linter.unusedVariables false
end Go.Proofs.Ythomoliklfmnkaa
