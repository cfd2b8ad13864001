/- What all proofs of this seat share: a block of cells that is known whole, and frames. -/
import Derived.Test.YtonkpggnlkkghaaRows
import Derived.WalkKit
import Derived.WalkSpells
import Derived.WalkLawsBesides
import Derived.Deep.QuietTactic
import Derived.BigQuiet
import Derived.Lib.Hide
import Derived.ProofKit
import Derived.OpenShut
namespace Go.Proofs.Ytonkpggnlkkghaa
open Go.RowKit
set_option linter.unusedVariables false


section
variable {w w' : World} {g : Nat} {t : TypeId} {cs : Array Value}
end





section
open Go.ChangeShapes Go.WideShapes Go.ChangeAt
variable {H : Type} {enc : TypeId × Value → H} {P : Program} {w : World} {base : Nat}
end










end Go.Proofs.Ytonkpggnlkkghaa
