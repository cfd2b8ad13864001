/- The law ShaCuts, from a world in which the sums' words stand. -/
import Derived.Test.YtophhppklaofaaaDoorM11
namespace Go.Proofs.YtophhppklaofaaaDoor
open Go.RowKit
set_option linter.unusedVariables false
namespace Vx
theorem relGlob {w : World} (hk : ∀ i, i < 64 → w.cell? ⟨0, i, none⟩ = some (.int .u32 (Sha.kOf i))) :
    Rel w [] [⟨0, undef, 0⟩] [.glob 0 1 64 (fun i => [.int .u32 (Sha.kOf i)])] w := by
  have hlt : 0 < w.heap.size := World.block_lt_of_cell? w _ (hk 0 (by decide))
  have h0 : ∀ {k : Nat} {e : Ent}, [Ent.glob 0 1 64 (fun i => [CV.int .u32 (Sha.kOf i)])][k]? = some e → k = 0 ∧ e = .glob 0 1 64 (fun i => [.int .u32 (Sha.kOf i)]) := fun {k e} h => by
    cases k with
    | zero => simp at h; exact ⟨rfl, h.symm⟩
    | succ k => simp at h
  have hf : ∀ {k c : Nat}, fp [⟨0, undef, 0⟩] [Ent.glob 0 1 64 (fun i => [CV.int .u32 (Sha.kOf i)])] k = some c → False := fun {k c} h => by
    obtain ⟨e, p, he, hp, hx⟩ := fp_some h
    obtain ⟨rfl, rfl⟩ := h0 he
    cases hx
  refine ⟨rfl, fun k e p he hp => ?_, fun k c h => (hf h).elim, fun j k c h1 h2 => (hf h1).elim, fun _ _ _ => rfl, fun k e p c he hp g1 g2 => ?_, rfl, rfl, rfl, Nat.le_refl _⟩
  · obtain ⟨rfl, rfl⟩ := h0 he
    simp at hp
    subst hp
    refine ⟨⟨rfl, rfl⟩, fun i hi => ⟨[.int .u32 (Sha.kOf i)], rfl, fun j v hv => ?_⟩⟩
    cases j with
    | zero =>
      simp at hv
      rw [← hv]
      have := hk i hi
      simpa using this
    | succ j => simp at hv
  · obtain ⟨rfl, rfl⟩ := h0 he
    simp at hp
    subst hp
    simp only [Ent.dep] at g2
    split at g2
    · cases g2
      exact ⟨hlt, by simp⟩
    · cases g2
end Vx
theorem shaCutsWalk (w : World) (hk : ∀ i, i < 64 → w.cell? ⟨0, i, none⟩ = some (.int .u32 (Sha.kOf i))) (s : ByteArray) (hs : s.size ≤ maxLen) (a : Int) (ha : -9223372036854775808 ≤ a ∧ a ≤ 9223372036854775807) (b : Int) (hb : -9223372036854775808 ≤ b ∧ b ≤ 9223372036854775807) :
    Calls Tryd.prog 3 #[.string s, .int .i64 a, .int .i64 b] w fun e w' => e = .returned (.bool true) ∧ Below w.heap.size w w' := by
  obtain ⟨l, rfl⟩ : ∃ l : List UInt8, s = ⟨l.toArray⟩ := ⟨s.data.toList, by cases s; simp⟩
  refine Calls.mono (Vx.cutsP.run [.c (.str l), .c (.int .i64 a), .c (.int .i64 b)] [.glob 0 1 64 (fun i => [.int .u32 (Sha.kOf i)])] _ _ _ rfl Vx.ksAt_self [⟨0, undef, 0⟩] w _ (Vx.relGlob hk) ⟨_, _, rfl, rfl, _, _, rfl, rfl, _, _, rfl, rfl, rfl⟩) fun e W' he => ?_
  obtain ⟨u, ρ', rfl, hu, hr⟩ := he
  obtain rfl : .bool true = u := Option.some.inj hu
  exact ⟨rfl, Vx.Rel.toBelow hr⟩
end Go.Proofs.YtophhppklaofaaaDoor
