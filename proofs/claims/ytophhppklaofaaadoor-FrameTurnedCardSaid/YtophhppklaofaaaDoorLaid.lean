/- What the sums' words are when a call begins: out of the row's own condition. -/
import Derived.Test.YtophhppklaofaaaDoorRows
import Derived.Test.YtophhppklaofaaaDoorSha
import Derived.ProofKit
import Derived.LaidMore
import Derived.LaidHandle
import Derived.OpenShut
import Derived.Stop.Joined
namespace Go.Proofs.YtophhppklaofaaaDoor
set_option linter.unusedSimpArgs false
open Go.ChangeShapes Go.WideShapes Go.ChangeAt Go.RowKit
noncomputable def laidL : List (String × DataW Unit) := [("lighterman/sha.steps", Rows.laid_lighterman_sha_steps)]
theorem gSteps : Tryd.prog.globalNamed "lighterman/sha.steps" = some 0 := by kernel_rfl
theorem tSteps : (Tryd.prog.globals[0]?).map (·.type) = some 90 := by kernel_rfl
/-- The door's own heap meets the condition. -/
theorem door_met (os : Os) (args : Array Value) : laidMetH Tryd.prog laidL ((World.doorLaid Tryd.prog 400 os).forCall (fun _ _ => 0) ⟨#[], args, []⟩).memory :=
  laidMetH_of_parts3 (fuel := 8) (laidMet_of_run' 8 (by kernel_rfl) (by kernel_rfl)) (by kernel_rfl) (by kernel_rfl)
set_option maxRecDepth 100000 in
/-- The variable's cells. -/
theorem of_laid {W : World} (h : laidMetH Tryd.prog laidL W) : ∀ i, i < 64 → W.cell? ⟨0, i, none⟩ = some (.int .u32 (Sha.kOf i)) := by
  rw [MakeChecks.laidMetH_plain _ _ _ (by kernel_rfl)] at h
  obtain ⟨ps, ⟨g0, t0, cs0, f0, p0, q0, hg0, ht0, hv0, hd0, _, _⟩, _⟩ := h
  obtain rfl := Option.some.inj (gSteps.symm.trans hg0)
  obtain rfl := Option.some.inj (tSteps.symm.trans ht0)
  obtain ⟨xs, m1, rfl, hx1, hlen, hn, hel⟩ := DataW.trod_array Tryd.underlying90 hd0
  have c85 : Tryd.prog.cellsOf 85 = 1 := by kernel_rfl
  have c90 : Tryd.prog.cellsOf 90 = 64 := by kernel_rfl
  rw [c90] at hlen
  simp only [Prod.mk.injEq] at hx1
  intro i hi
  have h0 := hel i hi
  rw [c85, Nat.mul_one] at h0
  have hxi : i < xs.length := by rw [hn]; exact hi
  rw [List.getElem?_eq_getElem hxi] at h0
  obtain ⟨k, e1, e2, _⟩ := DataW.trod_int Tryd.underlying85 h0
  have hci : i < cs0.toList.length := by rw [hlen]; exact hi
  have e3 : cs0.toList[i]'hci = .int .u32 k := by
    rw [List.drop_eq_getElem_cons hci] at e1
    simpa using e1
  have e4 : k = Sha.kOf i := by
    have hD : (Rows.laid_lighterman_sha_steps : DataW Unit) = .agg ((List.range 64).map fun i => .lit (.int .u32 (Sha.kOf i))) := by rfl
    have := hx1.1
    have h5 : DataW.agg ((List.range 64).map fun i => DataW.lit (.int .u32 (Sha.kOf i))) = DataW.agg (xs.map (·.1)) := hD.symm.trans this
    have h6 := congrArg (fun d => match d with | DataW.agg l => l[i]? | _ => none) h5
    simp only [List.getElem?_map, List.getElem?_range hi, List.getElem?_eq_getElem hxi, Option.map_some, Option.some.injEq] at h6
    rw [e2] at h6
    simpa using h6.symm
  have := World.var?_cell hg0 hv0 i
  rw [this, ← e4, ← e3]
  simp [hci]
end Go.Proofs.YtophhppklaofaaaDoor
