/- The laws ShaTells, ShaLess, from a world in which the sums' words stand. -/
import Derived.Test.YtophhppklaofaaaDoorVShaLaw3
import Derived.Test.YtophhppklaofaaaDoorVRo
namespace Go.Proofs.YtophhppklaofaaaDoor
open Go.RowKit
set_option linter.unusedVariables false
set_option linter.unusedSimpArgs false
theorem shaTellsWalk (w : World) (hk : ∀ i, i < 64 → w.cell? ⟨0, i, none⟩ = some (.int .u32 (Sha.kOf i))) (a : Option Addr) (cap : Nat) (ls : List (List UInt8)) (hs : SlIn w a 1 cap (ls.map fun l => [.string ⟨l.toArray⟩])) :
    Calls Tryd.prog 4 #[.slice a ls.length cap] w fun e w' => e = .returned (.bool true) ∧ Below w.heap.size w w' := by
  obtain ⟨p, hp, g⟩ := hs.good (get := fun i => [.str (ls.getD i [])]) (fun i hi => by
    have hi' : i < ls.length := by simpa using hi
    simp [Vx.IsL, Vx.CV.den, hi', Vx.one])
  have hm := hs.max
  simp only [List.length_map] at hp g hm
  rw [← hp]
  refine Calls.mono (Vx.tellsP.run [.c (.row 1)] [.glob 0 1 64 (fun i => [.int .u32 (Sha.kOf i)]), .elems 9 1 ls.length (fun i => [.str (ls.getD i [])])] _ _ _ rfl
    ⟨Vx.ksAt_self, rfl, rfl, fun i hi => ⟨_, rfl⟩, Nat.le_trans hm (by decide)⟩ [⟨0, undef, 0⟩, p] w _ (Vx.Rel.addView (Vx.relGlob hk) 9 g) ⟨_, _, rfl, (by obtain ⟨a', cap', e, _⟩ := g.sl; simp [Vx.SV.is, Vx.CV.den, e, Vx.one] : Vx.SV.is [⟨0, undef, 0⟩, p] (.c (.row 1)) p.v), rfl⟩) fun e W' he => ?_
  obtain ⟨u, ρ', rfl, hu, hr⟩ := he
  obtain rfl : .bool true = u := Option.some.inj hu
  exact ⟨rfl, Vx.Rel.toBelow hr⟩
theorem shaLessWalk (w : World) (hk : ∀ i, i < 64 → w.cell? ⟨0, i, none⟩ = some (.int .u32 (Sha.kOf i))) (f : Nat → Int) (hf : ∀ i, 0 ≤ f i ∧ f i < 256) (g : Nat → Int) (hg : ∀ i, 0 ≤ g i ∧ g i < 256) (h : Nat → Int) (hh : ∀ i, 0 ≤ h i ∧ h i < 256) :
    Calls Tryd.prog 5 #[.agg (hashV f).toArray, .agg (hashV g).toArray, .agg (hashV h).toArray] w fun e w' => e = .returned (.bool true) ∧ Below w.heap.size w w' := by
  refine Calls.mono (Vx.lessLP.run [.agg (Vx.hashC f), .agg (Vx.hashC g), .agg (Vx.hashC h)] [.glob 0 1 64 (fun i => [.int .u32 (Sha.kOf i)])] _ _ _ rfl
    ⟨Vx.ksAt_self, ⟨_, rfl, hf⟩, ⟨_, rfl, hg⟩, ⟨_, rfl, hh⟩⟩ [⟨0, undef, 0⟩] w _ (Vx.relGlob hk) ⟨_, _, rfl, ⟨_, hashC_is f _, rfl⟩, _, _, rfl, ⟨_, hashC_is g _, rfl⟩, _, _, rfl, ⟨_, hashC_is h _, rfl⟩, rfl⟩) fun e W' he => ?_
  obtain ⟨u, ρ', rfl, hu, hr⟩ := he
  obtain rfl : .bool true = u := Option.some.inj hu
  exact ⟨rfl, Vx.Rel.toBelow hr⟩
end Go.Proofs.YtophhppklaofaaaDoor
