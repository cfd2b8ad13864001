/- The document's count, by the walker. -/
import Derived.Test.YthomoliklfmnkaaM24
import Derived.Test.YthomoliklfmnkaaM25
import Derived.Test.YthomoliklfmnkaaM26
section
namespace Go.Proofs.Ythomoliklfmnkaa
open Go.RowKit
set_option linter.unusedVariables false
set_option linter.unusedSimpArgs false
namespace Vx

end Vx
end Go.Proofs.Ythomoliklfmnkaa
end

section
/- The document's proofs read, by the walker. -/
namespace Go.Proofs.Ythomoliklfmnkaa.Vx
open Go.RowKit
set_option linter.unusedVariables false
set_option linter.unusedSimpArgs false
attribute [local cbv_opaque] lK lV lI lP lN pG leafL leafOf leavesPre hsL lenL


end Go.Proofs.Ythomoliklfmnkaa.Vx
end

section
/- The document's messages decoded, by the walker. -/
namespace Go.Proofs.Ythomoliklfmnkaa.Vx
open Go.RowKit
set_option linter.unusedVariables false
set_option linter.unusedSimpArgs false
attribute [local cbv_opaque] lK lV lI lP lN pG leafL leafOf leavesPre hsL rN plainM msgPre lenL nextB between sameM mayM msgOf mayPkt wN wT wH wLeaf wPath wLeaves wProof wPk wMsg wMsgPre prWPre hashOf putW numW numBad textW fitNum fitText fitPut fitPk isI64 msgB encMsg bytesW badW Pkt.fits noRt zeroMsg

end Go.Proofs.Ythomoliklfmnkaa.Vx
end
