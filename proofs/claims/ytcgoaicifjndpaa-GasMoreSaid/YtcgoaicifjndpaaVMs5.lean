/- The document's messages, by the walker. -/
import Derived.Test.YtcgoaicifjndpaaM24
namespace Go.Proofs.Ytcgoaicifjndpaa.Vx
open Go.RowKit
set_option linter.unusedVariables false
set_option linter.unusedSimpArgs false
def mayH (a b : Int) : Bool := between a 1 1099511627776 && between b 0 1099511627776
def sMayH : List SV → Option (Prop × SV)
  | [.agg (.int .i64 a :: .int .i64 b :: r)] => some (∃ h, r = h32 (rN h), .c (.bool (mayH a b)))
  | _ => none

set_option maxRecDepth 100000 in
set_option maxHeartbeats 2000000 in
theorem mayHP : Pure Try.prog 96 sMayH := by
  have hC : CtsOk Try.prog [] := CtsOk.nil _
  refine Pure.of (E := tbS) (C := []) [] 0 [] tbS_ok hC (by kernel_rfl) Try.func96 rfl rfl rfl (by kernel_rfl) (by kernel_rfl) ?_ ?_
  · intro args pre r h
    unfold sMayH at h
    split at h
    · cases h; rfl
    · cases h
  · intro args pre r h hp
    unfold sMayH at h
    split at h
    rotate_left
    · cases h
    rename_i a b r
    cases h
    obtain ⟨h, rfl⟩ := hp
    try unfold msgC
    generalize ho0 : @rN = zo0, ho1 : @between = zo1, ho2 : @mayH = zo2
    generalize hA : Arith.std = A
    cbv
    subst hA ho0 ho1 ho2
    simp only [Ife_iff, Need_iff, Arith.std]
    by_cases h1 : 1 ≤ a <;> by_cases h2 : a ≤ 1099511627776 <;> by_cases h3 : 0 ≤ b <;> by_cases h4 : b ≤ 1099511627776 <;> simp [mayH, between, h1, h2, h3, h4]

end Go.Proofs.Ytcgoaicifjndpaa.Vx
