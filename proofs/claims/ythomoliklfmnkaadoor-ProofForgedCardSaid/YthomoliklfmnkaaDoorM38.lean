/- StoreProves, by the walker. -/
import Derived.Test.YthomoliklfmnkaaDoorM37
import Derived.Test.YthomoliklfmnkaaDoorM24
import Derived.Test.YthomoliklfmnkaaDoorM36
import Derived.Test.YthomoliklfmnkaaDoorM12
import Derived.Test.YthomoliklfmnkaaDoorM11
section
namespace Go.Proofs.YthomoliklfmnkaaDoor.Vx
open Sha
open Go.RowKit
set_option linter.unusedVariables false
set_option linter.unusedSimpArgs false
theorem rootL_range (R : List PP) (j : Nat) : 0 ≤ rootL R j ∧ rootL R j < 256 := by
  unfold rootL rootF
  split
  · exact ⟨Int.le_refl 0, (by decide : (0 : Int) < 256)⟩
  · exact sumI_range _ j
theorem val_own {R : List PP} {k : List UInt8} (hs : StS R) (hz : AllSz R) (h40 : R.length ≤ 40) : valB (hOf (hashC (rootL R))) (mkC R) (mkL R k) k = findB R k ∧ valV (hOf (hashC (rootL R))) (mkC R) (mkL R k) k = getL R k ∧ lackB (hOf (hashC (rootL R))) (mkC R) (mkL R k) k = !findB R k := by
  have hg : goodL R = true := goodL_iff.2 ⟨hs, hz⟩
  have eC : mkC R = (R.length : Int) := by unfold mkC; rw [if_pos hg]
  rw [eC]
  exact ⟨valB_mk hg h40, valV_mk hg h40, lackB_mk hg h40⟩




end Go.Proofs.YthomoliklfmnkaaDoor.Vx
end

section
/- The document's Make, by the walker. -/
namespace Go.Proofs.YthomoliklfmnkaaDoor.Vx
open Sha
open Go.RowKit
set_option linter.unusedVariables false
set_option linter.unusedSimpArgs false


end Go.Proofs.YthomoliklfmnkaaDoor.Vx
end

section
/- What a proof shows, by the document: stands, Value, Has, Lacks, by the walker. -/
namespace Go.Proofs.YthomoliklfmnkaaDoor.Vx
open Sha
open Go.RowKit
set_option linter.unusedVariables false
set_option linter.unusedSimpArgs false








end Go.Proofs.YthomoliklfmnkaaDoor.Vx
end
