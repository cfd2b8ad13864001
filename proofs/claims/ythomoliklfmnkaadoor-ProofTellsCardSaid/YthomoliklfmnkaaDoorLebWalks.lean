/- The walks of leb and of the document's numbers. -/
import Derived.Test.YthomoliklfmnkaaDoorM14
import Derived.Test.YthomoliklfmnkaaDoorM29
namespace Go.Proofs.YthomoliklfmnkaaDoor
open Go.RowKit
set_option linter.unusedVariables false


set_option maxHeartbeats 400000 in
theorem lebMay (v : Int) (w : World) : Calls Tryd.prog 151 #[.int .i64 v] w fun e w' => e = .returned (.bool (decide (0 ≤ v ∧ v ≤ 72057594037927935))) ∧ w = w' := by
  by_cases h0 : 0 ≤ v
  · by_cases h1 : v ≤ 72057594037927935
    · go_enter Tryd.func151, Tryd.ntmps151
      go_wp2
      go_ret
      exact ⟨ret_bool (by simp [h0, h1]), rfl⟩
    · go_enter Tryd.func151, Tryd.ntmps151
      go_wp2
      go_ret
      exact ⟨ret_bool (by simp; omega), rfl⟩
  · go_enter Tryd.func151, Tryd.ntmps151
    go_wp2
    go_ret
    exact ⟨ret_bool (by simp; omega), rfl⟩









end Go.Proofs.YthomoliklfmnkaaDoor
