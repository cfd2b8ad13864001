/- What all proofs of this seat share: a block of cells that is known whole, and frames. -/
import Derived.Test.YthomoliklfmnkaaDoorRows
import Derived.WalkKit
import Derived.WalkSpells
import Derived.WalkLawsBesides
import Derived.Deep.QuietTactic
import Derived.BigQuiet
import Derived.Lib.Hide
import Derived.ProofKit
import Derived.OpenShut
import Derived.Test.YthomoliklfmnkaaDoorVxFrame
import Derived.Lib.AppendZerosOnto
import Derived.Lib.Overlaps
import Derived.Laws.Externs
import Derived.Laws.CopyRow
import Derived.Deep.AppendSrc
import Derived.Lib.JoinLaws
import Derived.Lib.SliceRun
import Derived.Lib.AppendZeros
import Derived.Deep.RegionLaw
import Derived.Shelf.RegionOpenPlain
import Derived.Test.YthomoliklfmnkaaDoorM7
section
namespace Go.Proofs.YthomoliklfmnkaaDoor
open Go.RowKit
set_option linter.unusedVariables false


section
variable {w w' : World} {g : Nat} {t : TypeId} {cs : Array Value}
end




theorem ret_bool {a b : Bool} (h : a = b) : Ending.returned (.bool a) = .returned (.bool b) := by rw [h]

section
open Go.ChangeShapes Go.WideShapes Go.ChangeAt
variable {H : Type} {enc : TypeId × Value → H} {P : Program} {w : World} {base : Nat}
end










end Go.Proofs.YthomoliklfmnkaaDoor
end

section
/- slices.Insert at pairs: one pair laid in at a place of an own row, by the kit's walker. -/
namespace Go.Proofs.YthomoliklfmnkaaDoor.Vx
open Go.RowKit Go.Lib
set_option linter.unusedVariables false
set_option linter.unusedSimpArgs false
end Go.Proofs.YthomoliklfmnkaaDoor.Vx
end

section
/- slices.Insert at pairs: its contract. -/
namespace Go.Proofs.YthomoliklfmnkaaDoor.Vx
open Go.RowKit
set_option linter.unusedVariables false
set_option linter.unusedSimpArgs false
end Go.Proofs.YthomoliklfmnkaaDoor.Vx
end

section
/- slices.Delete at pairs: one pair taken out of an own row, by the kit's walker; its contract. -/
namespace Go.Proofs.YthomoliklfmnkaaDoor.Vx
open Go.RowKit Go.Lib
set_option linter.unusedVariables false
set_option linter.unusedSimpArgs false
end Go.Proofs.YthomoliklfmnkaaDoor.Vx
end

section
/- More of what all proofs of this seat share. -/
namespace Go.Proofs.YthomoliklfmnkaaDoor
open Go.RowKit
set_option linter.unusedVariables false



end Go.Proofs.YthomoliklfmnkaaDoor
end

section
/- Names and ends: what path.Name, path.May and the document's Name and MayEnd return. -/
namespace Go.Proofs.YthomoliklfmnkaaDoor
open Go.RowKit
set_option linter.unusedVariables false











end Go.Proofs.YthomoliklfmnkaaDoor
end
