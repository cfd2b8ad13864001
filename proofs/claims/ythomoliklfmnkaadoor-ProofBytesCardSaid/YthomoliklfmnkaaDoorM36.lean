/- The document's sums of pairs and proofs of keys, by the walker. -/
import Derived.Test.YthomoliklfmnkaaDoorM34
import Derived.Test.YthomoliklfmnkaaDoorM24
import Derived.Test.YthomoliklfmnkaaDoorM21
import Derived.Test.YthomoliklfmnkaaDoorM11
import Derived.Test.YthomoliklfmnkaaDoorM35
import Derived.Test.YthomoliklfmnkaaDoorM27
section
namespace Go.Proofs.YthomoliklfmnkaaDoor.Vx
open Sha
open Go.RowKit
set_option linter.unusedVariables false
set_option linter.unusedSimpArgs false
attribute [local cbv_opaque] prK prV prL ltB findI findB szB Lib.compareBytes prPre goodAt goodL KsAt leafF leafPre topG topPre0 sumI hOf HashC kOf u8s lfG sumsPre lK lV lI lP lN pG leafL leafOf leavesPre mayAt mayL lightAt lightL deep leavesAt0 hNm wyL mkLeaf mkL mkC mkFrom mkTo wayG hashesG wayPre0 mkPre lenL sizedB










end Go.Proofs.YthomoliklfmnkaaDoor.Vx
end

section
/- The document's Make, by the walker. -/
namespace Go.Proofs.YthomoliklfmnkaaDoor.Vx
open Sha
open Go.RowKit
set_option linter.unusedVariables false
set_option linter.unusedSimpArgs false
attribute [local cbv_opaque] prK prV prL ltB findI findB szB Lib.compareBytes prPre goodAt goodL KsAt leafF leafPre topG topPre0 sumI hOf HashC kOf u8s lfG sumsPre lK lV lI lP lN pG leafL leafOf leavesPre mayAt mayL lightAt lightL deep leavesAt0 hNm wyL mkLeaf mkL mkC mkFrom mkTo wayG hashesG wayPre0 mkPre lenL sizedB


end Go.Proofs.YthomoliklfmnkaaDoor.Vx
end

section
/- What a proof shows, by the document: stands, Value, Has, Lacks, by the walker. -/
namespace Go.Proofs.YthomoliklfmnkaaDoor.Vx
open Sha
open Go.RowKit
set_option linter.unusedVariables false
set_option linter.unusedSimpArgs false
attribute [local cbv_opaque] prK prV prL ltB findI findB szB Lib.compareBytes prPre goodAt goodL KsAt leafF leafPre topG topPre0 sumI hOf HashC kOf u8s lfG sumsPre lK lV lI lP lN pG leafL leafOf leavesPre mayAt mayL lightAt lightL deep leavesAt0 hNm wyL mkLeaf mkL mkC mkFrom mkTo wayG hashesG wayPre0 mkPre lenL sizedB








end Go.Proofs.YthomoliklfmnkaaDoor.Vx
end

section
/- ProofTells, by the walker. -/
namespace Go.Proofs.YthomoliklfmnkaaDoor.Vx
open Sha
open Go.RowKit
set_option linter.unusedVariables false
set_option linter.unusedSimpArgs false
/-- The sums of a proof that comes in. -/
def RawP (K : List PLeaf) : Prop := ∀ x ∈ K, ∀ h ∈ x.p, h.length = 32 ∧ ∀ b ∈ h, 0 ≤ b ∧ b < 256
theorem light_ok {K : List PLeaf} (h : lightL K = true) (hr : RawP K) : K.length ≤ 5 ∧ ∀ x ∈ K, x.ok := by
  unfold lightL at h
  rw [Bool.and_eq_true, decide_eq_true_iff, List.all_eq_true] at h
  refine ⟨h.1, fun x hx => ?_⟩
  obtain ⟨i, hi, rfl⟩ := List.getElem_of_mem hx
  have hl := lightAt_iff.1 (h.2 i (List.mem_range.2 hi))
  have e : K.getD i .none = K[i] := by simp [List.getD, hi]
  unfold lK lV lN lP at hl
  rw [e] at hl
  exact ⟨by omega, by omega, by omega, hr _ hx⟩
attribute [local cbv_opaque] prK prV prL ltB findI findB szB Lib.compareBytes prPre goodAt goodL KsAt leafF leafPre topG topPre0 sumI hOf HashC kOf u8s lfG sumsPre lK lV lI lP lN pG leafL leafOf leavesPre mayAt mayL lightAt lightL deep leavesAt0 hNm wyL mkLeaf mkL mkC mkFrom mkTo wayG hashesG wayPre0 mkPre lenL sizedB pr0


end Go.Proofs.YthomoliklfmnkaaDoor.Vx
end
