/- Sums that come in, opened. -/
import Derived.Test.YtophhppklaofaaaDoorM18
import Derived.Test.YtophhppklaofaaaDoorM16
import Derived.Test.YtophhppklaofaaaDoorVShaWalk
section
namespace Go.Proofs.YtophhppklaofaaaDoor
open Go.ChangeShapes Go.WideShapes Go.ChangeAt Go.RowKit
set_option linter.unusedVariables false
set_option linter.unusedSimpArgs false
section
variable {H : Type} {enc : TypeId × Value → H} {w : World} {base : Nat}
end
end Go.Proofs.YtophhppklaofaaaDoor
end

section
/- The laws ShaTells, ShaLess. -/
namespace Go.Proofs.YtophhppklaofaaaDoor
open Go.RowKit Sha
set_option linter.unusedVariables false
set_option linter.unusedSimpArgs false
namespace Vx


/-! ### The order -/


end Vx
end Go.Proofs.YtophhppklaofaaaDoor
end

section
/- A slice that comes in is put beside what is held already. -/
namespace Go.Proofs.YtophhppklaofaaaDoor.Vx
open Go.RowKit
set_option linter.unusedVariables false
set_option linter.unusedSimpArgs false
end Go.Proofs.YtophhppklaofaaaDoor.Vx
end

section
/- The laws ShaTells, ShaLess, from a world in which the sums' words stand. -/
namespace Go.Proofs.YtophhppklaofaaaDoor
open Go.RowKit
set_option linter.unusedVariables false
set_option linter.unusedSimpArgs false
end Go.Proofs.YtophhppklaofaaaDoor
end

section
/- The law ShaHex, by the walker. -/
namespace Go.Proofs.YtophhppklaofaaaDoor
open Go.RowKit Sha
set_option linter.unusedVariables false
set_option linter.unusedSimpArgs false
namespace Vx


end Vx
end Go.Proofs.YtophhppklaofaaaDoor
end

section
/- Records: their heads, by the walker. -/
namespace Go.Proofs.YtophhppklaofaaaDoor.Vx
open Go.RowKit Sha
set_option linter.unusedVariables false
set_option linter.unusedSimpArgs false


/-- A digit of a number, by 256, the greatest first. -/
def d8 (n : Int) (j : Nat) : Int := n / 256 ^ (7 - j) % 256
def eightPre (n : Int) : Prop := 0 ≤ n ∧ n ≤ 72057594037927935
def be8 (n : Int) : List UInt8 := [UInt8.ofNat (d8 n 0).toNat, UInt8.ofNat (d8 n 1).toNat, UInt8.ofNat (d8 n 2).toNat, UInt8.ofNat (d8 n 3).toNat, UInt8.ofNat (d8 n 4).toNat, UInt8.ofNat (d8 n 5).toNat, UInt8.ofNat (d8 n 6).toNat, UInt8.ofNat (d8 n 7).toNat]
theorem wrap_u8 (x : Int) : IntKind.wrap .u8 x = x % 256 := by unfold IntKind.wrap; simp [IntKind.signed, IntKind.bits]








end Go.Proofs.YtophhppklaofaaaDoor.Vx
end
