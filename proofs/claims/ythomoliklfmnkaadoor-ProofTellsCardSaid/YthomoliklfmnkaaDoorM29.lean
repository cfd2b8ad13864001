/- Numbers in groups of seven bits, and in eight bytes: what they are, and the plain laws on them. No program in sight. -/
import Derived.Below
import GoSem.Op.String
section
namespace Go.Proofs.YthomoliklfmnkaaDoor.Leb
set_option linter.unusedVariables false







































end Go.Proofs.YthomoliklfmnkaaDoor.Leb
end

section
/- What readers answer, plainly. -/
namespace Go.Proofs.YthomoliklfmnkaaDoor
set_option linter.unusedVariables false

/-! What a reader of the bytes l at the place a with the error b answers: a value, the new place, the new error. -/
def cut (l : List UInt8) (a n : Int) : List UInt8 := (l.drop a.toNat).take n.toNat
def endS (l : List UInt8) (a b : Int) : Int := if b = 0 ∧ a < (l.length : Int) then 3 else b








end Go.Proofs.YthomoliklfmnkaaDoor
end

section
/- Readers and what they read back, plainly: one law for each way of putting readers together. -/
namespace Go.Proofs.YthomoliklfmnkaaDoor
set_option linter.unusedVariables false
set_option linter.unusedSimpArgs false







end Go.Proofs.YthomoliklfmnkaaDoor
end

section
/- Lists that are read back; texts that are decoded whole. -/
namespace Go.Proofs.YthomoliklfmnkaaDoor
set_option linter.unusedVariables false
set_option linter.unusedSimpArgs false




/-! ### A text, decoded whole -/
section
variable {α : Type} {r : List UInt8 → Int × Int → α × Int × Int} {E : α → List UInt8} {V : α → Prop} {z : α} {may : α → Bool}
end


/-! ### Readers that stop at an error -/
end Go.Proofs.YthomoliklfmnkaaDoor
end
