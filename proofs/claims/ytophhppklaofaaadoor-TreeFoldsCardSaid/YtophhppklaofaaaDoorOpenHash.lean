/- Sums that come in, opened. -/
import Derived.Test.YtophhppklaofaaaDoorOpenSl
import Derived.Test.YtophhppklaofaaaDoorVHex
namespace Go.Proofs.YtophhppklaofaaaDoor
open Go.ChangeShapes Go.WideShapes Go.ChangeAt Go.RowKit
set_option linter.unusedVariables false
set_option linter.unusedSimpArgs false
section
variable {H : Type} {enc : TypeId × Value → H} {w : World} {base : Nat}
theorem cellsG_u8 : Tryd.prog.cellsOf 5 = 1 := by kernel_rfl
theorem cellsG_Hash : Tryd.prog.cellsOf 24 = 32 := by kernel_rfl
/-- A sum's bytes, as values. -/
def hashV (f : Nat → Int) : List Value := (List.range 32).map fun i => .int .u8 (f i)
theorem hashC_is (f : Nat → Int) (ρ : List Vx.Pl) : Vx.IsL ρ (Vx.hashC f) (hashV f) := rfl
set_option maxRecDepth 100000 in
theorem trod_Hash {spare : Nat → Bool} {held : Bool} {b0 fuel : Nat} {l : List Value} {x : DataW H × List MemPlace} (hf : DataW.trod enc Tryd.prog w b0 spare held fuel 24 l = some x) :
    l.length = 32 ∧ ∃ f : Nat → Int, l = hashV f ∧ ∀ i, 0 ≤ f i ∧ f i < 256 := by
  obtain ⟨xs, m, _, _, hl, hlen, hff⟩ := DataW.trod_array Tryd.underlying24 hf
  rw [cellsG_Hash] at hl
  have each : ∀ i (h : i < 32), ∃ n : Int, l[i]'(by omega) = .int .u8 n ∧ 0 ≤ n ∧ n < 256 := fun i h => by
    have f := hff i h
    rw [cellsG_u8] at f
    have e := List.getElem?_eq_getElem (l := xs) (i := i) (by omega)
    rw [e] at f
    obtain ⟨n, e1, _, hw⟩ := DataW.trod_int Tryd.underlying5 f
    have hb : 0 ≤ n ∧ n ≤ 255 := bounds_u8 hw
    have e2 : (List.drop (i * 1) l).take 1 = [l[i]'(by omega)] := by
      rw [Nat.mul_one, List.drop_eq_getElem_cons (by omega)]
      rfl
    rw [e2] at e1
    exact ⟨n, by simpa using e1, hb.1, by omega⟩
  refine ⟨hl, fun i => if h : i < 32 then Classical.choose (each i h) else 0, ?_, fun i => ?_⟩
  · apply List.ext_getElem
    · simp [hashV, hl]
    · intro i h1 h2
      simp only [hashV, List.length_map, List.length_range] at h2
      simp only [hashV, List.getElem_map, List.getElem_range]
      rw [dif_pos h2]
      exact (Classical.choose_spec (each i h2)).1
  · dsimp only
    split
    · rename_i h
      exact (Classical.choose_spec (each i h)).2
    · omega
set_option maxRecDepth 100000 in
theorem open_Hash {spare : Nat → Bool} {held : Bool} {v : Value} {d : DataW H} {p : List MemPlace} (hv : Value.okWide Tryd.prog w .any base 24 v) (h : DataW.Trod enc Tryd.prog w 0 spare held 24 v d p) :
    ∃ f : Nat → Int, v = .agg (hashV f).toArray ∧ ∀ i, 0 ≤ f i ∧ f i < 256 := by
  simp only [Value.okWide, Tryd.underlying24] at hv
  obtain ⟨cs, rfl, hz⟩ := hv
  obtain ⟨fuel, hf⟩ := h
  obtain ⟨_, f, e, hr⟩ := trod_Hash hf
  refine ⟨f, ?_, hr⟩
  have : cs = (hashV f).toArray := by
    have e' : cs.toList = hashV f := e
    rw [← e']
  rw [this]
end
end Go.Proofs.YtophhppklaofaaaDoor
