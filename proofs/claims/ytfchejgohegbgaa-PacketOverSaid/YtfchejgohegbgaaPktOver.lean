/- Packets: what past and Over return. -/
import Derived.Test.YtfchejgohegbgaaPacket
namespace Go.Proofs.Ytfchejgohegbgaa
open Go.RowKit
set_option linter.unusedVariables false

set_option maxRecDepth 100000 in
set_option maxHeartbeats 1000000 in
theorem pktPast (a v : Int) (w : World) : Calls Try.prog 65 #[.int .i64 a, .int .i64 v] w fun e w' => e = .returned (.bool (pastB a v)) ∧ w = w' := by
  have H : Hid (pastB a v = decide (0 < a ∧ a ≤ v)) := rfl
  generalize pastB a v = r at *
  by_cases h1 : 0 < a
  · by_cases h2 : a ≤ v
    all_goals
      go_enter Try.func65, Try.ntmps65
      go_wp2_with fail
      go_ret
      exact ⟨ret_bool (by rw [H.out]; simp; omega), rfl⟩
  · skip
    go_enter Try.func65, Try.ntmps65
    go_wp2_with fail
    go_ret
    exact ⟨ret_bool (by rw [H.out]; simp; omega), rfl⟩

set_option maxRecDepth 100000 in
set_option maxHeartbeats 1000000 in
theorem pktOver (p : Pkt) (h u : Int) (w : World) : Calls Try.prog 28 #[.agg p.cells, .int .i64 h, .int .i64 u] w fun e w' => e = .returned (.bool (overPkt p h u)) ∧ Below w.heap.size w w' := by
  obtain ⟨sp, sc, dp, dc, seq, data, th, ta⟩ := p
  have H1 : Hid (∀ W, _) := fun W => pktPast th h W
  have H2 : Hid (∀ W, _) := fun W => pktPast ta u W
  have H : Hid (overPkt ⟨sp, sc, dp, dc, seq, data, th, ta⟩ h u = (pastB th h || pastB ta u)) := rfl
  generalize pastB th h = a at *
  generalize pastB ta u = b at *
  generalize overPkt ⟨sp, sc, dp, dc, seq, data, th, ta⟩ h u = r at *
  show Calls Try.prog 28 #[.agg #[.string ⟨sp.toArray⟩, .int .i64 sc, .string ⟨dp.toArray⟩, .int .i64 dc, .int .i64 seq, .string ⟨data.toArray⟩, .int .i64 th, .int .i64 ta], .int .i64 h, .int .i64 u] w _
  cases a
  all_goals
    go_enter Try.func28, Try.ntmps28
    go_wp2_with fail
    refine (H1.out _).mono ?_
    rintro e w2 ⟨rfl, rfl⟩
    go_wp2_with (go_at_call 65; refine (H2.out _).mono ?_; rintro e w2 ⟨rfl, rfl⟩)
    go_ret
    exact ⟨ret_bool (by rw [H.out]; simp), (Below.refl _ _).alloc (Nat.le_refl _) _⟩

end Go.Proofs.Ytfchejgohegbgaa
