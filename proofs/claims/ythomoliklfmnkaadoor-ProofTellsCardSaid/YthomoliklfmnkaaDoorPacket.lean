/- Packets: what May, Over, Same and LightPacket return. -/
import Derived.Test.YthomoliklfmnkaaDoorM14
namespace Go.Proofs.YthomoliklfmnkaaDoor
open Go.RowKit
set_option linter.unusedVariables false









end Go.Proofs.YthomoliklfmnkaaDoor
