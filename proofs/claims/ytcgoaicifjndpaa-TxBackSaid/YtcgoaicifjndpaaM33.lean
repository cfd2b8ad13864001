/- The document's proofs as bytes, by the walker. -/
import Derived.Test.YtcgoaicifjndpaaM31
import Derived.Test.YtcgoaicifjndpaaM29
import Derived.Test.YtcgoaicifjndpaaM28
import Derived.Test.YtcgoaicifjndpaaVMs6
import Derived.Test.YtcgoaicifjndpaaM32
section
namespace Go.Proofs.Ytcgoaicifjndpaa.Vx
open Go.RowKit
set_option linter.unusedVariables false
set_option linter.unusedSimpArgs false
theorem flatE_take {α : Type} (E : α → List UInt8) {p : List α} {i : Nat} (h : i < p.length) : flatE E (p.take (i + 1)) = flatE E (p.take i) ++ E p[i] := by
  unfold flatE
  rw [List.take_add_one, List.getElem?_eq_getElem h, List.map_append, List.flatten_append]
  simp


end Go.Proofs.Ytcgoaicifjndpaa.Vx
end

section
/- The document's own readers and writers of packets, by the walker. -/
namespace Go.Proofs.Ytcgoaicifjndpaa
open Go.RowKit
set_option linter.unusedVariables false
set_option linter.unusedSimpArgs false
namespace Vx





end Vx
end Go.Proofs.Ytcgoaicifjndpaa
end

section
/- The document's messages as bytes, by the walker. -/
namespace Go.Proofs.Ytcgoaicifjndpaa.Vx
open Go.RowKit
set_option linter.unusedVariables false
set_option linter.unusedSimpArgs false
theorem Ife.no {b : Bool} {p q : Prop} (h : b = false) (x : q) : Ife b p q := Ife.mk (fun g => by rw [h] at g; cases g) fun _ => x
theorem Ife.yes {b : Bool} {p q : Prop} (h : b = true) (x : p) : Ife b p q := Ife.mk (fun _ => x) fun g => by rw [h] at g; cases g
    

end Go.Proofs.Ytcgoaicifjndpaa.Vx
end
