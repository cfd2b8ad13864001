/- The walks of leb and of the document's numbers. -/
import Derived.Test.YtbbpgicoklhheaaGreatDoorM14
import Derived.Test.YtbbpgicoklhheaaGreatDoorM29
namespace Go.Proofs.YtbbpgicoklhheaaGreatDoor
open Go.RowKit
set_option linter.unusedVariables false


set_option maxHeartbeats 400000 in
theorem lebMay (v : Int) (w : World) : Calls Tryz.prog 88 #[.int .i64 v] w fun e w' => e = .returned (.bool (decide (0 ≤ v ∧ v ≤ 72057594037927935))) ∧ w = w' := by
  by_cases h0 : 0 ≤ v
  · by_cases h1 : v ≤ 72057594037927935
    · go_enter Tryz.func88, Tryz.ntmps88
      go_wp2
      go_ret
      exact ⟨ret_bool (by simp [h0, h1]), rfl⟩
    · go_enter Tryz.func88, Tryz.ntmps88
      go_wp2
      go_ret
      exact ⟨ret_bool (by simp; omega), rfl⟩
  · go_enter Tryz.func88, Tryz.ntmps88
    go_wp2
    go_ret
    exact ⟨ret_bool (by simp; omega), rfl⟩









end Go.Proofs.YtbbpgicoklhheaaGreatDoor
