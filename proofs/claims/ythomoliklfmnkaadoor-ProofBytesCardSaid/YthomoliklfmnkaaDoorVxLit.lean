/- A function's walk whose result holds a slice literal of one element with slices: it is handed out as data. -/
import Derived.Test.YthomoliklfmnkaaDoorVxFrame
namespace Go.Proofs.YthomoliklfmnkaaDoor.Vx
open Go.RowKit
set_option linter.unusedVariables false
set_option linter.unusedSimpArgs false
end Go.Proofs.YthomoliklfmnkaaDoor.Vx
