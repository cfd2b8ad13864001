/- Transactions written, by the walker. -/
import Derived.Test.YtcgoaicifjndpaaVTx2
import Derived.Test.YtcgoaicifjndpaaM40
import Derived.Test.YtcgoaicifjndpaaM34
import Derived.Test.YtcgoaicifjndpaaM31
import Derived.Test.YtcgoaicifjndpaaM41
section
namespace Go.Proofs.Ytcgoaicifjndpaa.Vx
open Go.RowKit
set_option linter.unusedVariables false
set_option linter.unusedSimpArgs false
theorem flatE_le {α : Type} {E : α → List UInt8} {c : Nat} : ∀ {p : List α}, (∀ x ∈ p, (E x).length ≤ c) → (flatE E p).length ≤ c * p.length
  | [], _ => by simp [flatE]
  | x :: p, h => by
    have a := h x (by simp)
    have b := flatE_le (p := p) fun y hy => h y (by simp [hy])
    have e : flatE E (x :: p) = E x ++ flatE E p := by simp [flatE]
    rw [e, List.length_append, List.length_cons, Nat.mul_add]
    omega


end Go.Proofs.Ytcgoaicifjndpaa.Vx
end

section
/- The document's transactions as bytes, by the walker. -/
namespace Go.Proofs.Ytcgoaicifjndpaa.Vx
open Go.RowKit
set_option linter.unusedVariables false
set_option linter.unusedSimpArgs false

end Go.Proofs.Ytcgoaicifjndpaa.Vx
end

section
/- Transactions read, by the walker. -/
namespace Go.Proofs.Ytcgoaicifjndpaa.Vx
open Go.RowKit
set_option linter.unusedVariables false
set_option linter.unusedSimpArgs false


end Go.Proofs.Ytcgoaicifjndpaa.Vx
end
