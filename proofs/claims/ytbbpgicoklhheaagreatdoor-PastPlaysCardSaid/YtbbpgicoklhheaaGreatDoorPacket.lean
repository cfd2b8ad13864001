/- Packets: what May, Over, Same and LightPacket return. -/
import Derived.Test.YtbbpgicoklhheaaGreatDoorM14
namespace Go.Proofs.YtbbpgicoklhheaaGreatDoor
open Go.RowKit
set_option linter.unusedVariables false









end Go.Proofs.YtbbpgicoklhheaaGreatDoor
