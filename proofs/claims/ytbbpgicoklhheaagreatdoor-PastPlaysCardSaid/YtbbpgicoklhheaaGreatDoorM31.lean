/- Messages as data: their cells; light ones, plain ones, by the walker. -/
import Derived.Test.YtbbpgicoklhheaaGreatDoorM27
import Derived.Test.YtbbpgicoklhheaaGreatDoorVPk
section
namespace Go.Proofs.YtbbpgicoklhheaaGreatDoor.Vx
open Go.RowKit
set_option linter.unusedVariables false
set_option linter.unusedSimpArgs false
def lenL (l : List PLeaf) : Nat := l.length
attribute [local cbv_opaque] lK lV lI lP lN pG leafL leafOf leavesPre deep hsL sumAt hsPre lenL







end Go.Proofs.YtbbpgicoklhheaaGreatDoor.Vx
end

section
/- Plain messages, of the program, by the walker. -/
namespace Go.Proofs.YtbbpgicoklhheaaGreatDoor.Vx
open Go.RowKit
set_option linter.unusedVariables false
set_option linter.unusedSimpArgs false
attribute [local cbv_opaque] lK lV lI lP lN pG leafL leafOf leavesPre deep hsL sumAt hsPre lenL







end Go.Proofs.YtbbpgicoklhheaaGreatDoor.Vx
end

section
/- Messages compared, by the walker. -/
namespace Go.Proofs.YtbbpgicoklhheaaGreatDoor.Vx
open Go.RowKit
set_option linter.unusedVariables false
set_option linter.unusedSimpArgs false
attribute [local cbv_opaque] lK lV lI lP lN pG leafL leafOf leavesPre deep hsL sumAt hsPre lenL






end Go.Proofs.YtbbpgicoklhheaaGreatDoor.Vx
end

section
/- Messages that may be, by the walker. -/
namespace Go.Proofs.YtbbpgicoklhheaaGreatDoor.Vx
open Go.RowKit
set_option linter.unusedVariables false
set_option linter.unusedSimpArgs false
attribute [local cbv_opaque] lK lV lI lP lN pG leafL leafOf leavesPre deep hsL sumAt hsPre lenL


end Go.Proofs.YtbbpgicoklhheaaGreatDoor.Vx
end
