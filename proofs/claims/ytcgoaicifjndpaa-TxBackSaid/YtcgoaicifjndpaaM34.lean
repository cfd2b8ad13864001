/- The document's count, by the walker. -/
import Derived.Test.YtcgoaicifjndpaaM29
import Derived.Test.YtcgoaicifjndpaaM31
import Derived.Test.YtcgoaicifjndpaaM32
import Derived.Test.YtcgoaicifjndpaaM33
section
namespace Go.Proofs.Ytcgoaicifjndpaa
open Go.RowKit
set_option linter.unusedVariables false
set_option linter.unusedSimpArgs false
namespace Vx

end Vx
end Go.Proofs.Ytcgoaicifjndpaa
end

section
/- The document's proofs read, by the walker. -/
namespace Go.Proofs.Ytcgoaicifjndpaa.Vx
open Go.RowKit
set_option linter.unusedVariables false
set_option linter.unusedSimpArgs false


end Go.Proofs.Ytcgoaicifjndpaa.Vx
end

section
/- The document's messages decoded, by the walker. -/
namespace Go.Proofs.Ytcgoaicifjndpaa.Vx
open Go.RowKit
set_option linter.unusedVariables false
set_option linter.unusedSimpArgs false
theorem numS_rng (l : List UInt8) (a b lo hi : Int) : (numS l a b lo hi).1 = 0 ∨ lo ≤ (numS l a b lo hi).1 ∧ (numS l a b lo hi).1 ≤ hi := by
  unfold numS
  split
  · exact Or.inl rfl
  · split
    · exact Or.inl rfl
    · split
      · exact Or.inl rfl
      · exact Or.inr (by dsimp only; omega)

end Go.Proofs.Ytcgoaicifjndpaa.Vx
end
