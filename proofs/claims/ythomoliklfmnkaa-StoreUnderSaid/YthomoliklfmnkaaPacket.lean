/- Packets: what May, Over, Same and LightPacket return. -/
import Derived.Test.YthomoliklfmnkaaM14
namespace Go.Proofs.Ythomoliklfmnkaa
open Go.RowKit
set_option linter.unusedVariables false









end Go.Proofs.Ythomoliklfmnkaa
