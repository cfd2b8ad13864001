/- Packets: what May, Over, Same and LightPacket return. -/
import Derived.Test.YtbbpgicoklhheaaDoorM13
namespace Go.Proofs.YtbbpgicoklhheaaDoor
open Go.RowKit
set_option linter.unusedVariables false









end Go.Proofs.YtbbpgicoklhheaaDoor
