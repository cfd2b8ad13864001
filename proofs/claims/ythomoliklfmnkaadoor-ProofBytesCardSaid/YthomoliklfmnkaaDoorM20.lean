/- Sums that come in, opened. -/
import Derived.Test.YthomoliklfmnkaaDoorM19
import Derived.Test.YthomoliklfmnkaaDoorM17
import Derived.Test.YthomoliklfmnkaaDoorM18
section
namespace Go.Proofs.YthomoliklfmnkaaDoor
open Go.ChangeShapes Go.WideShapes Go.ChangeAt Go.RowKit
set_option linter.unusedVariables false
set_option linter.unusedSimpArgs false
section
variable {H : Type} {enc : TypeId × Value → H} {w : World} {base : Nat}
/-- A sum's bytes, as values. -/
def hashV (f : Nat → Int) : List Value := (List.range 32).map fun i => .int .u8 (f i)
end
end Go.Proofs.YthomoliklfmnkaaDoor
end

section
/- The laws ShaTells, ShaLess. -/
namespace Go.Proofs.YthomoliklfmnkaaDoor
open Go.RowKit Sha
set_option linter.unusedVariables false
set_option linter.unusedSimpArgs false
namespace Vx


/-! ### The order -/


end Vx
end Go.Proofs.YthomoliklfmnkaaDoor
end

section
/- A slice that comes in is put beside what is held already. -/
namespace Go.Proofs.YthomoliklfmnkaaDoor.Vx
open Go.RowKit
set_option linter.unusedVariables false
set_option linter.unusedSimpArgs false
end Go.Proofs.YthomoliklfmnkaaDoor.Vx
end

section
/- The laws ShaTells, ShaLess, from a world in which the sums' words stand. -/
namespace Go.Proofs.YthomoliklfmnkaaDoor
open Go.RowKit
set_option linter.unusedVariables false
set_option linter.unusedSimpArgs false
end Go.Proofs.YthomoliklfmnkaaDoor
end

section
/- The law ShaHex, by the walker. -/
namespace Go.Proofs.YthomoliklfmnkaaDoor
open Go.RowKit Sha
set_option linter.unusedVariables false
set_option linter.unusedSimpArgs false
namespace Vx


end Vx
end Go.Proofs.YthomoliklfmnkaaDoor
end

section
/- Records: their heads, by the walker. -/
namespace Go.Proofs.YthomoliklfmnkaaDoor.Vx
open Go.RowKit Sha
set_option linter.unusedVariables false
set_option linter.unusedSimpArgs false


/-- A digit of a number, by 256, the greatest first. -/
def d8 (n : Int) (j : Nat) : Int := n / 256 ^ (7 - j) % 256
def eightPre (n : Int) : Prop := 0 ≤ n ∧ n ≤ 72057594037927935
def be8 (n : Int) : List UInt8 := [UInt8.ofNat (d8 n 0).toNat, UInt8.ofNat (d8 n 1).toNat, UInt8.ofNat (d8 n 2).toNat, UInt8.ofNat (d8 n 3).toNat, UInt8.ofNat (d8 n 4).toNat, UInt8.ofNat (d8 n 5).toNat, UInt8.ofNat (d8 n 6).toNat, UInt8.ofNat (d8 n 7).toNat]
theorem wrap_u8 (x : Int) : IntKind.wrap .u8 x = x % 256 := by unfold IntKind.wrap; simp [IntKind.signed, IntKind.bits]








end Go.Proofs.YthomoliklfmnkaaDoor.Vx
end
