/- The document's transactions read, by the walker. -/
import Derived.Test.YthomoliklfmnkaaM30
import Derived.Test.YthomoliklfmnkaaM28
import Derived.Test.YthomoliklfmnkaaM29
import Derived.Test.YthomoliklfmnkaaM31
import Derived.Test.YthomoliklfmnkaaM2
section
namespace Go.Proofs.Ythomoliklfmnkaa.Vx
open Go.RowKit
set_option linter.unusedVariables false
set_option linter.unusedSimpArgs false
attribute [local cbv_opaque] lK lV lI lP lN pG leafL leafOf leavesPre hsL rN plainM msgPre lenL nextB between sameM mayM msgOf mayPkt wN wT wH wLeaf wPath wLeaves wProof wPk wMsg wMsgPre prWPre hashOf putW numW numBad textW fitNum fitText fitPut fitPk isI64 msgB encMsg bytesW badW Pkt.fits noRt zeroMsg lightM msgPre0 leavesAt0 gM msgsL msgsPre txM txB flatE textB Leb.put

end Go.Proofs.Ythomoliklfmnkaa.Vx
end

section
/- Slices of messages that come in, opened. -/
namespace Go.Proofs.Ythomoliklfmnkaa
open Go.ChangeShapes Go.WideShapes Go.ChangeAt Go.RowKit
set_option linter.unusedVariables false
set_option linter.unusedSimpArgs false
set_option maxRecDepth 100000
section
variable {H : Type} {enc : TypeId × Value → H} {w : World} {base : Nat}
end
end Go.Proofs.Ythomoliklfmnkaa
end

section
/- The law TxTells, by the walker. -/
namespace Go.Proofs.Ythomoliklfmnkaa.Vx
open Go.RowKit
set_option linter.unusedVariables false
set_option linter.unusedSimpArgs false
attribute [local cbv_opaque] lK lV lI lP lN pG leafL leafOf leavesPre hsL rN plainM msgPre lenL nextB between sameM mayM msgOf mayPkt wN wT wH wLeaf wPath wLeaves wProof wPk wMsg wMsgPre prWPre hashOf putW numW numBad textW fitNum fitText fitPut fitPk isI64 msgB encMsg bytesW badW Pkt.fits noRt zeroMsg lightM msgPre0 leavesAt0 gM msgsL msgsPre txM txB flatE textB Leb.put


end Go.Proofs.Ythomoliklfmnkaa.Vx
namespace Go.Proofs.Ythomoliklfmnkaa
open Go.RowKit
set_option linter.unusedVariables false
end Go.Proofs.Ythomoliklfmnkaa
end

section
/- The law BatchMore, by the walker. -/
namespace Go.Proofs.Ythomoliklfmnkaa.Vx
open Go.RowKit
set_option linter.unusedVariables false
set_option linter.unusedSimpArgs false
attribute [local cbv_opaque] lK lV lI lP lN pG leafL leafOf leavesPre hsL rN plainM msgPre lenL nextB between sameM mayM msgOf mayPkt wN wT wH wLeaf wPath wLeaves wProof wPk wMsg wMsgPre prWPre hashOf putW numW numBad textW fitNum fitText fitPut fitPk isI64 msgB encMsg bytesW badW Pkt.fits noRt zeroMsg lightM msgPre0 leavesAt0 gM msgsL msgsPre txM txB flatE textB Leb.put stepsL priceM totalM fitsM skip skStep skOut skPre IsMs mpGet mpSet groupOf iA iL catC pushC inPre rgo placeM skOf cutT oneM txG


end Go.Proofs.Ythomoliklfmnkaa.Vx
namespace Go.Proofs.Ythomoliklfmnkaa
open Go.RowKit
set_option linter.unusedVariables false
end Go.Proofs.Ythomoliklfmnkaa
end

section
/- ligref22.Cut, by the walker. -/
namespace Go.Proofs.Ythomoliklfmnkaa.Vx
open Go.RowKit
set_option linter.unusedVariables false
set_option linter.unusedSimpArgs false
attribute [local cbv_opaque] lK lV lI lP lN pG leafL leafOf leavesPre hsL rN plainM msgPre lenL nextB between sameM mayM msgOf mayPkt wN wT wH wLeaf wPath wLeaves wProof wPk wMsg wMsgPre prWPre hashOf putW numW numBad textW fitNum fitText fitPut fitPk isI64 msgB encMsg bytesW badW Pkt.fits noRt zeroMsg lightM msgPre0 leavesAt0 gM msgsL msgsPre txM txB flatE textB Leb.put stepsL priceM totalM fitsM skip skStep skOut skPre IsMs mpGet mpSet groupOf iA iL catC pushC inPre rgo placeM skOf cutT oneM txG

end Go.Proofs.Ythomoliklfmnkaa.Vx
end
