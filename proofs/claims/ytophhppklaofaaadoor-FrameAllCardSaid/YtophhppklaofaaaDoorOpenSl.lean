/- Slices and sums that come in, opened. -/
import Derived.Test.YtophhppklaofaaaDoorVxFrame
import Derived.Test.YtophhppklaofaaaDoorBase
import Derived.WideShapes
import Derived.ChangeMaps5
import Derived.OpenShut
import Derived.ProofKit
namespace Go.Proofs.YtophhppklaofaaaDoor
open Go.ChangeShapes Go.WideShapes Go.ChangeAt Go.RowKit
set_option linter.unusedVariables false
set_option linter.unusedSimpArgs false
/-- The elements of a slice, each as its cells. -/
structure SlIn (w : World) (a : Option Addr) (sz cap : Nat) (xs : List (List Value)) : Prop where
  cap : xs.length ≤ cap
  max : xs.length ≤ maxLen
  lt : 0 < xs.length → ∃ b off, a = some ⟨b, off, none⟩ ∧ b < w.heap.size ∧ ∀ i (h : i < xs.length), ∀ j v, xs[i][j]? = some v → w.cell? ⟨b, off + i * sz + j, none⟩ = some v
section
variable {H : Type} {enc : TypeId × Value → H} {w : World} {base : Nat}
set_option maxRecDepth 100000 in
theorem open_slice {t e sz : Nat} {P : List Value → Prop} (hpos : 0 < sz) (ht : Tryd.prog.underlying t = some (.slice e)) (hsz : Tryd.prog.cellsOf e = sz)
    (hP : ∀ (fuel : Nat) (l : List Value) (x : DataW H × List MemPlace), DataW.trod enc Tryd.prog w 0 (fun _ => true) true fuel e l = some x → l.length = sz ∧ P l)
    {v : Value} {d : DataW H} {p : List MemPlace} (hv : Value.okWide Tryd.prog w .any base t v) (h : DataW.Trod enc Tryd.prog w 0 (fun _ => true) true t v d p) :
    ∃ (a : Option Addr) (cap : Nat) (xs : List (List Value)), v = .slice a xs.length cap ∧ SlIn w a sz cap xs ∧ ∀ x ∈ xs, x.length = sz ∧ P x := by
  obtain ⟨a, len, cap, rfl⟩ := okWide_slice ht hv
  obtain ⟨fuel, hf⟩ := h
  simp only [Value.cells] at hf
  rcases DataW.trod_slice ht hf with ⟨e0, _⟩ | ⟨a2, len2, cap2, elems, rest, n, _, e0, _, hb, hl, hm, hlen, hel, hsp, hns⟩
  · simp at e0
    obtain ⟨rfl, rfl, rfl⟩ := e0
    exact ⟨none, 0, [], rfl, ⟨Nat.le_refl _, Nat.zero_le _, fun h => absurd h (by simp)⟩, fun x hx => absurd hx (by simp)⟩
  · simp at e0
    obtain ⟨rfl, rfl, rfl⟩ := e0
    have each : ∀ i, i < len → ∃ cs, w.cells? 0 (a2.add (i * sz)) sz = some cs ∧ cs.length = sz ∧ P cs := fun i hi => by
      have h := hel i hi
      simp only [hsz] at h
      have e := List.getElem?_eq_getElem (l := elems) (i := i) (by omega)
      rw [e] at h
      obtain ⟨cs, h1, h2⟩ := Option.bind_eq_some_iff.1 h
      obtain ⟨h3, h4⟩ := hP _ _ _ h2
      exact ⟨cs, h1, h3, h4⟩
    obtain ⟨f, hf⟩ : ∃ f : Nat → List Value, ∀ i, i < len → w.cells? 0 (a2.add (i * sz)) sz = some (f i) ∧ (f i).length = sz ∧ P (f i) := by
      refine ⟨fun i => if h : i < len then Classical.choose (each i h) else [], fun i hi => ?_⟩
      dsimp only
      rw [dif_pos hi]
      exact Classical.choose_spec (each i hi)
    refine ⟨some a2, cap, (List.range len).map f, by simp, ⟨by simp; omega, by simp; omega, fun h0 => ?_⟩, fun x hx => ?_⟩
    rotate_left
    · obtain ⟨i, hi, rfl⟩ := List.mem_map.1 hx
      exact (hf i (by simpa using hi)).2
    simp only [List.length_map, List.length_range] at h0 ⊢
    obtain ⟨b, off, spot⟩ := a2
    have h1 := World.cells?_some (hf 0 h0).1
    have hl0 : 0 < (f 0).length := by rw [(hf 0 h0).2.1]; exact hpos
    have h2 := h1.2.2 0 (by first | exact hl0 | exact hpos)
    have hspot : spot = none := by
      have h3 : ∃ v, w.cell? (((⟨b, off, spot⟩ : Addr).add (0 * sz)).add 0) = some v := ⟨_, h2.trans (List.getElem?_eq_getElem hl0)⟩
      obtain ⟨v, h3⟩ := h3
      simpa [Addr.add] using World.cell?_spot h3
    subst hspot
    have ha : ∀ i j : Nat, (((⟨b, off, none⟩ : Addr).add (i * sz)).add j) = ⟨b, off + i * sz + j, none⟩ := fun i j => by
      rw [Vx.addr_add, Vx.addr_add]
    refine ⟨b, off, rfl, ?_, fun i hi j v hv => ?_⟩
    · rw [ha, List.getElem?_eq_getElem hl0] at h2
      exact World.block_lt_of_cell? w _ h2
    · have hfi := hf i hi
      have hj : j < (f i).length := by
        have := (List.getElem?_eq_some_iff.1 hv).1
        simpa using this
      have h3 := (World.cells?_some hfi.1).2.2 j (by first | exact hj | (rw [← hfi.2.1]; exact hj))
      rw [ha] at h3
      rw [h3]
      simpa using hv
set_option maxRecDepth 100000 in
theorem SlIn.good {a : Option Addr} {sz cap : Nat} {xs : List (List Value)} (h : SlIn w a sz cap xs) {get : Nat → List Vx.CV} (hg : ∀ i (hi : i < xs.length), Vx.IsL [] (get i) xs[i]) : ∃ p : Vx.Pl, p.v = .slice a xs.length cap ∧ Vx.Good w sz (xs.length, get) p := by
  by_cases h0 : 0 < xs.length
  · obtain ⟨b, off, rfl, hb, hc⟩ := h.lt h0
    exact ⟨⟨b, .slice (some ⟨b, off, none⟩) xs.length cap, off⟩, rfl, ⟨_, _, rfl, h.cap, fun _ => rfl⟩, fun _ => hb, fun i hi => ⟨xs[i], hg i hi, fun j v hv => hc i hi j v hv⟩⟩
  · exact ⟨⟨0, .slice a xs.length cap, 0⟩, rfl, ⟨_, _, rfl, h.cap, fun h => absurd h h0⟩, fun h => absurd h h0, fun i hi => absurd (Nat.lt_of_le_of_lt (Nat.zero_le _) hi) h0⟩

theorem cellsG_str : Tryd.prog.cellsOf 9 = 1 := by kernel_rfl
set_option maxRecDepth 100000 in
theorem open_Strs {v : Value} {d : DataW H} {p : List MemPlace} (hv : Value.okWide Tryd.prog w .any base 27 v) (h : DataW.Trod enc Tryd.prog w 0 (fun _ => true) true 27 v d p) :
    ∃ (a : Option Addr) (cap : Nat) (ls : List (List UInt8)), v = .slice a ls.length cap ∧ SlIn w a 1 cap (ls.map fun l => [.string ⟨l.toArray⟩]) := by
  obtain ⟨a, cap, xs, rfl, hs, hx⟩ := open_slice (sz := 1) (P := fun l => ∃ s : List UInt8, l = [.string ⟨s.toArray⟩]) (by decide) Tryd.underlying27 cellsG_str (fun fuel l x hl => by
    obtain ⟨s, e, _, hm⟩ := DataW.trod_string Tryd.underlying9 hl
    refine ⟨by rw [e]; rfl, s.data.toList, ?_⟩
    rw [e]) hv h
  obtain ⟨f, hf⟩ : ∃ f : Nat → List UInt8, ∀ i (hi : i < xs.length), xs[i] = [.string ⟨(f i).toArray⟩] := by
    refine ⟨fun i => if h : i < xs.length then Classical.choose (hx xs[i] (List.getElem_mem h)).2 else [], fun i hi => ?_⟩
    dsimp only
    rw [dif_pos hi]
    exact Classical.choose_spec (hx xs[i] (List.getElem_mem hi)).2
  have e : xs = ((List.range xs.length).map f).map fun l => [.string ⟨l.toArray⟩] := by
    apply List.ext_getElem
    · simp
    · intro i h1 h2
      rw [hf i h1]
      simp
  refine ⟨a, cap, (List.range xs.length).map f, by simp, ?_⟩
  rw [← e]
  exact hs

end
end Go.Proofs.YtophhppklaofaaaDoor
