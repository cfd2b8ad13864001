/- A slice that comes in is put beside what is held already. -/
import Derived.Test.YtonkpggnlkkghaaVxFrame
import Derived.Test.YtonkpggnlkkghaaOpenSl
namespace Go.Proofs.Ytonkpggnlkkghaa.Vx
open Go.RowKit
set_option linter.unusedVariables false
set_option linter.unusedSimpArgs false
theorem Rel.addV {w : World} {ρ : List Pl} {h : List Ent} (r : Rel w [] ρ h w) {sz : Nat} {v : View} {q0 : Pl} (ty : TypeId) (g : Good w sz v q0) : Rel w [] (ρ ++ [q0]) (h ++ [viewE ty sz v]) w := by
  have hpl : ∀ j q, (ρ ++ [q0])[j]? = some q → (j < h.length → ρ[j]? = some q) ∧ (j = h.length → q = q0) := fun j q hq => by
    rcases getElem?_snoc hq with ⟨h1, h2⟩ | ⟨h1, h2⟩
    · exact ⟨fun _ => h2, fun e => by rw [r.len] at h1; omega⟩
    · exact ⟨fun h3 => by rw [r.len] at h1; omega, fun _ => h2⟩
  have hfp : ∀ j b, fp (ρ ++ [q0]) (h ++ [viewE ty sz v]) j = some b → fp ρ h j = some b := fun j b hf => by
    obtain ⟨x, q, hx, hq, hb⟩ := fp_some hf
    rcases getElem?_snoc hx with ⟨h1, h2⟩ | ⟨h1, rfl⟩
    · rw [fp_mk h2 ((hpl j q hq).1 h1)]; exact hb
    · cases hb
  refine ⟨by simp [r.len], fun j x q hx hq => ?_, fun j b hf => r.own j b (hfp j b hf), fun i j b hi hj => r.dis i j b (hfp i b hi) (hfp j b hj), r.kept, fun j x q b hx hq h1 h2 => ?_, r.os, r.tape, r.output, r.size⟩
  · rcases getElem?_snoc hx with ⟨h1, h2⟩ | ⟨h1, rfl⟩
    · exact Ent.ok_app (r.ok j x q h2 ((hpl j q hq).1 h1)) _
    · rw [(hpl j q hq).2 h1]
      exact ⟨g.sl, g.get⟩
  · rcases getElem?_snoc hx with ⟨g1, g2⟩ | ⟨g1, rfl⟩
    · exact r.ro j x q b g2 ((hpl j q hq).1 g1) h1 h2
    · rw [(hpl j q hq).2 g1] at h2
      simp only [viewE, Ent.dep] at h2
      split at h2
      · rename_i hn
        cases h2
        exact ⟨g.lt hn, by simp⟩
      · cases h2
end Go.Proofs.Ytonkpggnlkkghaa.Vx
