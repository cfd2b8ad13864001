/- The law ShaCuts, from a world in which the sums' words stand. -/
import Derived.Test.YtophhppklaofaaaDoorM16
namespace Go.Proofs.YtophhppklaofaaaDoor
open Go.RowKit
set_option linter.unusedVariables false
namespace Vx
theorem relGlob {w : World} (hk : ∀ i, i < 64 → w.cell? ⟨0, i, none⟩ = some (.int .u32 (Sha.kOf i))) :
    Rel w (Gs.all []) [⟨0, undef, 0⟩] [.glob 0 1 64 (fun i => [.int .u32 (Sha.kOf i)])] w := by
  have hlt : 0 < w.heap.size := World.block_lt_of_cell? w _ (hk 0 (by decide))
  have h0 : ∀ {k : Nat} {e : Ent}, [Ent.glob 0 1 64 (fun i => [CV.int .u32 (Sha.kOf i)])][k]? = some e → k = 0 ∧ e = .glob 0 1 64 (fun i => [.int .u32 (Sha.kOf i)]) := fun {k e} h => by
    cases k with
    | zero => simp at h; exact ⟨rfl, h.symm⟩
    | succ k => simp at h
  have hf : ∀ {k c : Nat}, fp [⟨0, undef, 0⟩] [Ent.glob 0 1 64 (fun i => [CV.int .u32 (Sha.kOf i)])] k = some c → False := fun {k c} h => by
    obtain ⟨e, p, he, hp, hx⟩ := fp_some h
    obtain ⟨rfl, rfl⟩ := h0 he
    cases hx
  refine ⟨rfl, fun k e p he hp => ?_, fun k c h => (hf h).elim, fun j k c h1 h2 => (hf h1).elim, fun _ _ _ => rfl, fun k e p he hp => ?_, rfl, rfl, rfl, Nat.le_refl _⟩
  · obtain ⟨rfl, rfl⟩ := h0 he
    simp at hp
    subst hp
    refine ⟨⟨rfl, rfl⟩, fun i hi => ⟨[.int .u32 (Sha.kOf i)], rfl, fun j v hv => ?_⟩⟩
    cases j with
    | zero =>
      simp at hv
      rw [← hv]
      have := hk i hi
      simpa using this
    | succ j => simp at hv
  · obtain ⟨rfl, rfl⟩ := h0 he
    simp at hp
    subst hp
    exact fun _ => Or.inl ⟨hlt, by simp, trivial⟩
end Vx
end Go.Proofs.YtophhppklaofaaaDoor
