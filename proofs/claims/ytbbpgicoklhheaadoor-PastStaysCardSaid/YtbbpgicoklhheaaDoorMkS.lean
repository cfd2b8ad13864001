/- What the proof of a key shows, plainly. -/
import Derived.Test.YtbbpgicoklhheaaDoorM26
namespace Go.Proofs.YtbbpgicoklhheaaDoor.Vx
open Sha
open Go.RowKit
set_option linter.unusedVariables false
set_option linter.unusedSimpArgs false
end Go.Proofs.YtbbpgicoklhheaaDoor.Vx
