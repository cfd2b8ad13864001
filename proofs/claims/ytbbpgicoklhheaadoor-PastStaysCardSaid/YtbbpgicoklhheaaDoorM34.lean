/- What leaves, proofs and messages are read as, and written as, plainly. -/
import Derived.Test.YtbbpgicoklhheaaDoorM28
import Derived.Test.YtbbpgicoklhheaaDoorM30
import Derived.Test.YtbbpgicoklhheaaDoorM33
import Derived.Test.YtbbpgicoklhheaaDoorM26
import Derived.Test.YtbbpgicoklhheaaDoorMkS
section
namespace Go.Proofs.YtbbpgicoklhheaaDoor.Vx
set_option linter.unusedVariables false
set_option linter.unusedSimpArgs false

/-! ### Leaves -/

/-! ### Proofs -/

/-! ### Messages -/

/-! ### Messages that may be are read back -/
end Go.Proofs.YtbbpgicoklhheaaDoor.Vx
end

section
/- Leaves and proofs read, by the walker. -/
namespace Go.Proofs.YtbbpgicoklhheaaDoor.Vx
open Go.RowKit
set_option linter.unusedVariables false
set_option linter.unusedSimpArgs false




end Go.Proofs.YtbbpgicoklhheaaDoor.Vx
end

section
/- Proofs and messages read, by the walker. -/
namespace Go.Proofs.YtbbpgicoklhheaaDoor.Vx
open Go.RowKit
set_option linter.unusedVariables false
set_option linter.unusedSimpArgs false


end Go.Proofs.YtbbpgicoklhheaaDoor.Vx
end

section
/- Make, by the walker. -/
namespace Go.Proofs.YtbbpgicoklhheaaDoor.Vx
open Sha
open Go.RowKit
set_option linter.unusedVariables false
set_option linter.unusedSimpArgs false
theorem es_leq {fr : Bool} {ty sz n n' : Nat} {g g' : Nat → List CV} (hn : n = n') (h : ∀ i, i < n → g i = g' i) : Cell.le (.es fr ty sz n g) (.es fr ty sz n' g') := by
  subst hn
  rintro W D u ⟨a, cap, h1, h2, h3⟩
  refine ⟨a, cap, h1, h2, fun h0 => ?_⟩
  obtain ⟨b, o, h4, h5, h6⟩ := h3 h0
  refine ⟨b, o, h4, h5, fun i hi => ?_⟩
  rw [← h i hi]
  exact h6 i hi


end Go.Proofs.YtbbpgicoklhheaaDoor.Vx
end

section
/- What a proof shows, by the walker. -/
namespace Go.Proofs.YtbbpgicoklhheaaDoor.Vx
open Sha
open Go.RowKit
set_option linter.unusedVariables false
set_option linter.unusedSimpArgs false


end Go.Proofs.YtbbpgicoklhheaaDoor.Vx
end
