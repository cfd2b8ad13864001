/- Slices and sums that come in, opened. -/
import Derived.Test.YtcgoaicifjndpaaVxFrame
import Derived.Test.YtcgoaicifjndpaaBase
import Derived.WideShapes
import Derived.ChangeMaps5
import Derived.OpenShut
import Derived.ProofKit
section
namespace Go.Proofs.Ytcgoaicifjndpaa
open Go.ChangeShapes Go.WideShapes Go.ChangeAt Go.RowKit
set_option linter.unusedVariables false
set_option linter.unusedSimpArgs false
/-- The elements of a slice, each as its cells. -/
structure SlIn (w : World) (a : Option Addr) (sz cap : Nat) (xs : List (List Value)) : Prop where
  cap : xs.length ≤ cap
  max : xs.length ≤ maxLen
  lt : 0 < xs.length → ∃ b off, a = some ⟨b, off, none⟩ ∧ b < w.heap.size ∧ ∀ i (h : i < xs.length), ∀ j v, xs[i][j]? = some v → w.cell? ⟨b, off + i * sz + j, none⟩ = some v
section
variable {H : Type} {enc : TypeId × Value → H} {w : World} {base : Nat}
set_option maxRecDepth 100000 in
theorem open_slice {t e sz : Nat} {P : List Value → Prop} (hpos : 0 < sz) (ht : Try.prog.underlying t = some (.slice e)) (hsz : Try.prog.cellsOf e = sz)
    (hP : ∀ (fuel : Nat) (l : List Value) (x : DataW H × List MemPlace), DataW.trod enc Try.prog w 0 (fun _ => true) true fuel e l = some x → l.length = sz ∧ P l)
    {v : Value} {d : DataW H} {p : List MemPlace} (hv : Value.okWide Try.prog w .any base t v) (h : DataW.Trod enc Try.prog w 0 (fun _ => true) true t v d p) :
    ∃ (a : Option Addr) (cap : Nat) (xs : List (List Value)), v = .slice a xs.length cap ∧ SlIn w a sz cap xs ∧ ∀ x ∈ xs, x.length = sz ∧ P x := by
  obtain ⟨a, len, cap, rfl⟩ := okWide_slice ht hv
  obtain ⟨fuel, hf⟩ := h
  simp only [Value.cells] at hf
  rcases DataW.trod_slice ht hf with ⟨e0, _⟩ | ⟨a2, len2, cap2, elems, rest, n, _, e0, _, hb, hl, hm, hlen, hel, hsp, hns⟩
  · simp at e0
    obtain ⟨rfl, rfl, rfl⟩ := e0
    exact ⟨none, 0, [], rfl, ⟨Nat.le_refl _, Nat.zero_le _, fun h => absurd h (by simp)⟩, fun x hx => absurd hx (by simp)⟩
  · simp at e0
    obtain ⟨rfl, rfl, rfl⟩ := e0
    have each : ∀ i, i < len → ∃ cs, w.cells? 0 (a2.add (i * sz)) sz = some cs ∧ cs.length = sz ∧ P cs := fun i hi => by
      have h := hel i hi
      simp only [hsz] at h
      have e := List.getElem?_eq_getElem (l := elems) (i := i) (by omega)
      rw [e] at h
      obtain ⟨cs, h1, h2⟩ := Option.bind_eq_some_iff.1 h
      obtain ⟨h3, h4⟩ := hP _ _ _ h2
      exact ⟨cs, h1, h3, h4⟩
    obtain ⟨f, hf⟩ : ∃ f : Nat → List Value, ∀ i, i < len → w.cells? 0 (a2.add (i * sz)) sz = some (f i) ∧ (f i).length = sz ∧ P (f i) := by
      refine ⟨fun i => if h : i < len then Classical.choose (each i h) else [], fun i hi => ?_⟩
      dsimp only
      rw [dif_pos hi]
      exact Classical.choose_spec (each i hi)
    refine ⟨some a2, cap, (List.range len).map f, by simp, ⟨by simp; omega, by simp; omega, fun h0 => ?_⟩, fun x hx => ?_⟩
    rotate_left
    · obtain ⟨i, hi, rfl⟩ := List.mem_map.1 hx
      exact (hf i (by simpa using hi)).2
    simp only [List.length_map, List.length_range] at h0 ⊢
    obtain ⟨b, off, spot⟩ := a2
    have h1 := World.cells?_some (hf 0 h0).1
    have hl0 : 0 < (f 0).length := by rw [(hf 0 h0).2.1]; exact hpos
    have h2 := h1.2.2 0 (by first | exact hl0 | exact hpos)
    have hspot : spot = none := by
      have h3 : ∃ v, w.cell? (((⟨b, off, spot⟩ : Addr).add (0 * sz)).add 0) = some v := ⟨_, h2.trans (List.getElem?_eq_getElem hl0)⟩
      obtain ⟨v, h3⟩ := h3
      simpa [Addr.add] using World.cell?_spot h3
    subst hspot
    have ha : ∀ i j : Nat, (((⟨b, off, none⟩ : Addr).add (i * sz)).add j) = ⟨b, off + i * sz + j, none⟩ := fun i j => by
      rw [Vx.addr_add, Vx.addr_add]
    refine ⟨b, off, rfl, ?_, fun i hi j v hv => ?_⟩
    · rw [ha, List.getElem?_eq_getElem hl0] at h2
      exact World.block_lt_of_cell? w _ h2
    · have hfi := hf i hi
      have hj : j < (f i).length := by
        have := (List.getElem?_eq_some_iff.1 hv).1
        simpa using this
      have h3 := (World.cells?_some hfi.1).2.2 j (by first | exact hj | (rw [← hfi.2.1]; exact hj))
      rw [ha] at h3
      rw [h3]
      simpa using hv
set_option maxRecDepth 100000 in
theorem SlIn.good {a : Option Addr} {sz cap : Nat} {xs : List (List Value)} (h : SlIn w a sz cap xs) {get : Nat → List Vx.CV} (hg : ∀ i (hi : i < xs.length), Vx.IsL [] (get i) xs[i]) : ∃ p : Vx.Pl, p.v = .slice a xs.length cap ∧ Vx.Good w sz (xs.length, get) p := by
  by_cases h0 : 0 < xs.length
  · obtain ⟨b, off, rfl, hb, hc⟩ := h.lt h0
    exact ⟨⟨b, .slice (some ⟨b, off, none⟩) xs.length cap, off⟩, rfl, ⟨_, _, rfl, h.cap, fun _ => rfl⟩, fun _ => hb, fun i hi => ⟨xs[i], hg i hi, fun j v hv => hc i hi j v hv⟩⟩
  · exact ⟨⟨0, .slice a xs.length cap, 0⟩, rfl, ⟨_, _, rfl, h.cap, fun h => absurd h h0⟩, fun h => absurd h h0, fun i hi => absurd (Nat.lt_of_le_of_lt (Nat.zero_le _) hi) h0⟩


end
end Go.Proofs.Ytcgoaicifjndpaa
end

section
/- A slice that comes in is put beside what is held already. -/
namespace Go.Proofs.Ytcgoaicifjndpaa.Vx
open Go.RowKit
set_option linter.unusedVariables false
set_option linter.unusedSimpArgs false
theorem Rel.addV {w : World} {ρ : List Pl} {h : List Ent} (r : Rel w (Gs.all []) ρ h w) {sz : Nat} {v : View} {q0 : Pl} (ty : TypeId) (g : Good w sz v q0) : Rel w (Gs.all []) (ρ ++ [q0]) (h ++ [viewE ty sz v]) w := by
  have hpl : ∀ j q, (ρ ++ [q0])[j]? = some q → (j < h.length → ρ[j]? = some q) ∧ (j = h.length → q = q0) := fun j q hq => by
    rcases getElem?_snoc hq with ⟨h1, h2⟩ | ⟨h1, h2⟩
    · exact ⟨fun _ => h2, fun e => by rw [r.len] at h1; omega⟩
    · exact ⟨fun h3 => by rw [r.len] at h1; omega, fun _ => h2⟩
  have hfp : ∀ j b, fp (ρ ++ [q0]) (h ++ [viewE ty sz v]) j = some b → fp ρ h j = some b := fun j b hf => by
    obtain ⟨x, q, hx, hq, hb⟩ := fp_some hf
    rcases getElem?_snoc hx with ⟨h1, h2⟩ | ⟨h1, rfl⟩
    · rw [fp_mk h2 ((hpl j q hq).1 h1)]; exact hb
    · cases hb
  refine ⟨by simp [r.len], fun j x q hx hq => ?_, fun j b hf => r.own j b (hfp j b hf), fun i j b hi hj => r.dis i j b (hfp i b hi) (hfp j b hj), r.kept, fun j x q hx hq => ?_, r.os, r.tape, r.output, r.size⟩
  · rcases getElem?_snoc hx with ⟨h1, h2⟩ | ⟨h1, rfl⟩
    · exact Ent.ok_app (r.ok j x q h2 ((hpl j q hq).1 h1)) _
    · rw [(hpl j q hq).2 h1]
      exact ⟨g.sl, g.get⟩
  · rcases getElem?_snoc hx with ⟨g1, g2⟩ | ⟨g1, rfl⟩
    · exact Ent.dat_mono (r.dat j x q g2 ((hpl j q hq).1 g1)) (r.datStep (Nat.le_refl _) (fun i b hf => Or.inl ⟨i, hfp i b hf⟩) fun _ _ _ _ => rfl) fun _ _ => rfl
    · rw [(hpl j q hq).2 g1]
      exact fun hn => Or.inl ⟨g.lt hn, by simp, trivial⟩
end Go.Proofs.Ytcgoaicifjndpaa.Vx
end
