/- Slices and sums that come in, opened. -/
import Derived.Test.YthomoliklfmnkaaDoorVxFrame
import Derived.Test.YthomoliklfmnkaaDoorM14
import Derived.WideShapes
import Derived.ChangeMaps5
import Derived.OpenShut
import Derived.ProofKit
import Derived.Test.YthomoliklfmnkaaDoorPacket
section
namespace Go.Proofs.YthomoliklfmnkaaDoor
open Go.ChangeShapes Go.WideShapes Go.ChangeAt Go.RowKit
set_option linter.unusedVariables false
set_option linter.unusedSimpArgs false
/-- The elements of a slice, each as its cells. -/
structure SlIn (w : World) (a : Option Addr) (sz cap : Nat) (xs : List (List Value)) : Prop where
  cap : xs.length ≤ cap
  max : xs.length ≤ maxLen
  lt : 0 < xs.length → ∃ b off, a = some ⟨b, off, none⟩ ∧ b < w.heap.size ∧ ∀ i (h : i < xs.length), ∀ j v, xs[i][j]? = some v → w.cell? ⟨b, off + i * sz + j, none⟩ = some v
section
variable {H : Type} {enc : TypeId × Value → H} {w : World} {base : Nat}


end
end Go.Proofs.YthomoliklfmnkaaDoor
end

section
/- A packet that comes in, opened. -/
namespace Go.Proofs.YthomoliklfmnkaaDoor
open Go.ChangeShapes Go.WideShapes Go.ChangeAt Go.RowKit
set_option linter.unusedVariables false
set_option maxRecDepth 100000
section
variable {H : Type} {enc : TypeId × Value → H} {w : World} {base : Nat}


theorem bytesOf (s : ByteArray) (hs : s.size ≤ maxLen) : ∃ l : List UInt8, s = ⟨l.toArray⟩ ∧ l.length ≤ 9223372036854775807 := by
  refine ⟨s.data.toList, ?_, ?_⟩
  · cases s; simp
  · have : s.size = s.data.toList.length := by rw [Array.length_toList]; rfl
    unfold maxLen at hs
    omega


end
end Go.Proofs.YthomoliklfmnkaaDoor
end

section
/- A slice that comes in is put beside what is held already. -/
namespace Go.Proofs.YthomoliklfmnkaaDoor.Vx
open Go.RowKit
set_option linter.unusedVariables false
set_option linter.unusedSimpArgs false
end Go.Proofs.YthomoliklfmnkaaDoor.Vx
end
