/- Messages as data: their cells; light ones, plain ones, by the walker. -/
import Derived.Test.YthomoliklfmnkaaDoorM28
import Derived.Test.YthomoliklfmnkaaDoorVPk
import Derived.Test.YthomoliklfmnkaaDoorM19
section
namespace Go.Proofs.YthomoliklfmnkaaDoor.Vx
open Go.RowKit
set_option linter.unusedVariables false
set_option linter.unusedSimpArgs false
def lenL (l : List PLeaf) : Nat := l.length







end Go.Proofs.YthomoliklfmnkaaDoor.Vx
end

section
/- Plain messages, of the program, by the walker. -/
namespace Go.Proofs.YthomoliklfmnkaaDoor.Vx
open Go.RowKit
set_option linter.unusedVariables false
set_option linter.unusedSimpArgs false







end Go.Proofs.YthomoliklfmnkaaDoor.Vx
end

section
/- Messages compared, by the walker. -/
namespace Go.Proofs.YthomoliklfmnkaaDoor.Vx
open Go.RowKit
set_option linter.unusedVariables false
set_option linter.unusedSimpArgs false






end Go.Proofs.YthomoliklfmnkaaDoor.Vx
end

section
/- Messages that may be, by the walker. -/
namespace Go.Proofs.YthomoliklfmnkaaDoor.Vx
open Go.RowKit
set_option linter.unusedVariables false
set_option linter.unusedSimpArgs false


end Go.Proofs.YthomoliklfmnkaaDoor.Vx
end

section
/- Proofs that come in, opened: slices whose elements hold slices. -/
namespace Go.Proofs.YthomoliklfmnkaaDoor
open Go.ChangeShapes Go.WideShapes Go.ChangeAt Go.RowKit
set_option linter.unusedVariables false
set_option linter.unusedSimpArgs false
set_option maxRecDepth 100000
section
variable {H : Type} {enc : TypeId × Value → H} {w : World} {base : Nat}
theorem cellsM_u8 : Tryd.prog.cellsOf 5 = 1 := by kernel_rfl
theorem cellsM_int : Tryd.prog.cellsOf 3 = 1 := by kernel_rfl
theorem cellsM_str : Tryd.prog.cellsOf 9 = 1 := by kernel_rfl
theorem cellsM_Hash : Tryd.prog.cellsOf 24 = 32 := by kernel_rfl
theorem cellsM_Hashes : Tryd.prog.cellsOf 113 = 1 := by kernel_rfl
theorem cellsM_Leaf : Tryd.prog.cellsOf 115 = 4 := by kernel_rfl
/-- A slice, of its one cell. -/
theorem trod_sl {t e sz : Nat} {P : List Value → Prop} (hpos : 0 < sz) (ht : Tryd.prog.underlying t = some (.slice e)) (hsz : Tryd.prog.cellsOf e = sz)
    (hP : ∀ (fuel : Nat) (l : List Value) (x : DataW H × List MemPlace), DataW.trod enc Tryd.prog w 0 (fun _ => true) true fuel e l = some x → l.length = sz ∧ P l)
    {fuel : Nat} {l : List Value} {x : DataW H × List MemPlace} (hf : DataW.trod enc Tryd.prog w 0 (fun _ => true) true fuel t l = some x) :
    ∃ (a : Option Addr) (cap : Nat) (xs : List (List Value)), l = [.slice a xs.length cap] ∧ SlIn w a sz cap xs ∧ ∀ x ∈ xs, x.length = sz ∧ P x := by
  rcases DataW.trod_slice ht hf with ⟨e0, _⟩ | ⟨a2, len, cap, elems, rest, n, _, e0, _, hb, hl, hm, hlen, hel, hsp, hns⟩
  · exact ⟨none, 0, [], by simpa using e0, ⟨Nat.le_refl _, Nat.zero_le _, fun h => absurd h (by simp)⟩, fun x hx => absurd hx (by simp)⟩
  · have each : ∀ i, i < len → ∃ cs, w.cells? 0 (a2.add (i * sz)) sz = some cs ∧ cs.length = sz ∧ P cs := fun i hi => by
      have h := hel i hi
      simp only [hsz] at h
      have e := List.getElem?_eq_getElem (l := elems) (i := i) (by omega)
      rw [e] at h
      obtain ⟨cs, h1, h2⟩ := Option.bind_eq_some_iff.1 h
      obtain ⟨h3, h4⟩ := hP _ _ _ h2
      exact ⟨cs, h1, h3, h4⟩
    obtain ⟨f, hf⟩ : ∃ f : Nat → List Value, ∀ i, i < len → w.cells? 0 (a2.add (i * sz)) sz = some (f i) ∧ (f i).length = sz ∧ P (f i) := by
      refine ⟨fun i => if h : i < len then Classical.choose (each i h) else [], fun i hi => ?_⟩
      dsimp only
      rw [dif_pos hi]
      exact Classical.choose_spec (each i hi)
    refine ⟨some a2, cap, (List.range len).map f, by simpa using e0, ⟨by simp; omega, by simp; omega, fun h0 => ?_⟩, fun x hx => ?_⟩
    rotate_left
    · obtain ⟨i, hi, rfl⟩ := List.mem_map.1 hx
      exact (hf i (by simpa using hi)).2
    simp only [List.length_map, List.length_range] at h0 ⊢
    obtain ⟨b, off, spot⟩ := a2
    have h1 := World.cells?_some (hf 0 h0).1
    have hl0 : 0 < (f 0).length := by rw [(hf 0 h0).2.1]; exact hpos
    have h2 := h1.2.2 0 (by first | exact hl0 | exact hpos)
    have hspot : spot = none := by
      have h3 : ∃ v, w.cell? (((⟨b, off, spot⟩ : Addr).add (0 * sz)).add 0) = some v := ⟨_, h2.trans (List.getElem?_eq_getElem hl0)⟩
      obtain ⟨v, h3⟩ := h3
      simpa [Addr.add] using World.cell?_spot h3
    subst hspot
    have ha : ∀ i j : Nat, (((⟨b, off, none⟩ : Addr).add (i * sz)).add j) = ⟨b, off + i * sz + j, none⟩ := fun i j => by
      rw [Vx.addr_add, Vx.addr_add]
    refine ⟨b, off, rfl, ?_, fun i hi j v hv => ?_⟩
    · rw [ha, List.getElem?_eq_getElem hl0] at h2
      exact World.block_lt_of_cell? w _ h2
    · have hfi := hf i hi
      have hj : j < (f i).length := by
        have := (List.getElem?_eq_some_iff.1 hv).1
        simpa using this
      have h3 := (World.cells?_some hfi.1).2.2 j (by first | exact hj | (rw [← hfi.2.1]; exact hj))
      rw [ha] at h3
      rw [h3]
      simpa using hv
/-- A sum, by its 32 numbers. -/
theorem trod_H32 {spare : Nat → Bool} {held : Bool} {b0 fuel : Nat} {l : List Value} {x : DataW H × List MemPlace} (hf : DataW.trod enc Tryd.prog w b0 spare held fuel 24 l = some x) :
    l.length = 32 ∧ ∃ h : List Int, h.length = 32 ∧ (∀ b ∈ h, 0 ≤ b ∧ b < 256) ∧ l = h.map (Value.int .u8) := by
  obtain ⟨xs, m, _, _, hl, hlen, hff⟩ := DataW.trod_array Tryd.underlying24 hf
  rw [cellsM_Hash] at hl
  have each : ∀ i (h : i < 32), ∃ n : Int, l[i]'(by omega) = .int .u8 n ∧ 0 ≤ n ∧ n < 256 := fun i h => by
    have f := hff i h
    rw [cellsM_u8] at f
    have e := List.getElem?_eq_getElem (l := xs) (i := i) (by omega)
    rw [e] at f
    obtain ⟨n, e1, _, hw⟩ := DataW.trod_int Tryd.underlying5 f
    have hb : 0 ≤ n ∧ n ≤ 255 := bounds_u8 hw
    have e2 : (List.drop (i * 1) l).take 1 = [l[i]'(by omega)] := by
      rw [Nat.mul_one, List.drop_eq_getElem_cons (by omega)]
      rfl
    rw [e2] at e1
    exact ⟨n, by simpa using e1, hb.1, by omega⟩
  obtain ⟨f, hf⟩ : ∃ f : Nat → Int, ∀ i (h : i < 32), l[i]'(by omega) = .int .u8 (f i) ∧ 0 ≤ f i ∧ f i < 256 := by
    refine ⟨fun i => if h : i < 32 then Classical.choose (each i h) else 0, fun i hi => ?_⟩
    dsimp only
    rw [dif_pos hi]
    exact Classical.choose_spec (each i hi)
  refine ⟨hl, (List.range 32).map f, by simp, fun b hb => ?_, ?_⟩
  · obtain ⟨i, hi, rfl⟩ := List.mem_map.1 hb
    exact (hf i (by simpa using hi)).2
  · apply List.ext_getElem
    · simp [hl]
    · intro i h1 h2
      rw [(hf i (by omega)).1]
      simp
/-- The cells of a leaf that comes in. -/
def LeafIn (w : World) (l : List Value) (x : Vx.PLeaf) : Prop :=
  ∃ a cap, l = [.string ⟨x.k.toArray⟩, .string ⟨x.v.toArray⟩, .int .i64 x.i, .slice a x.p.length cap] ∧ SlIn w a 32 cap (x.p.map fun h => h.map (Value.int .u8)) ∧ x.k.length ≤ maxLen ∧ x.v.length ≤ maxLen ∧ ∀ h ∈ x.p, h.length = 32 ∧ ∀ b ∈ h, 0 ≤ b ∧ b < 256
theorem trod_Leaf {fuel : Nat} {l : List Value} {x : DataW H × List MemPlace} (hf : DataW.trod enc Tryd.prog w 0 (fun _ => true) true fuel 115 l = some x) :
    l.length = 4 ∧ ∃ y, LeafIn w l y := by
  obtain ⟨xs, m, _, _, hl, hlen, hff⟩ := DataW.trod_struct Tryd.underlying115 hf
  rw [cellsM_Leaf] at hl
  refine ⟨hl, ?_⟩
  match l, hl with
  | [c0, c1, c2, c3], _ =>
    match xs, hlen with
    | [y0, y1, y2, y3], _ =>
      have f0 := hff 0 _ rfl
      have f1 := hff 1 _ rfl
      have f2 := hff 2 _ rfl
      have f3 := hff 3 _ rfl
      simp [cellsM_int, cellsM_str, cellsM_Hashes] at f0 f1 f2 f3
      obtain ⟨s0, e0, _, hs0⟩ := DataW.trod_string Tryd.underlying9 f0
      obtain ⟨s1, e1, _, hs1⟩ := DataW.trod_string Tryd.underlying9 f1
      obtain ⟨n2, e2, _, _⟩ := DataW.trod_int Tryd.underlying3 f2
      obtain ⟨a, cap, hs, e3, hsl, hx⟩ := trod_sl (sz := 32) (P := fun l => ∃ h : List Int, h.length = 32 ∧ (∀ b ∈ h, 0 ≤ b ∧ b < 256) ∧ l = h.map (Value.int .u8)) (by decide) Tryd.underlying113 cellsM_Hash (fun fuel l x hl => trod_H32 hl) f3
      obtain ⟨f, hf⟩ : ∃ f : Nat → List Int, ∀ i (hi : i < hs.length), (f i).length = 32 ∧ (∀ b ∈ f i, 0 ≤ b ∧ b < 256) ∧ hs[i] = (f i).map (Value.int .u8) := by
        refine ⟨fun i => if h : i < hs.length then Classical.choose (hx hs[i] (List.getElem_mem h)).2 else [], fun i hi => ?_⟩
        dsimp only
        rw [dif_pos hi]
        exact Classical.choose_spec (hx hs[i] (List.getElem_mem hi)).2
      have e : ((List.range hs.length).map f).map (fun h => h.map (Value.int .u8)) = hs := by
        apply List.ext_getElem
        · simp
        · intro i h1 h2
          rw [(hf i h2).2.2]
          simp
      obtain ⟨b0, hb0⟩ : ∃ b : List UInt8, b = s0.data.toList := ⟨_, rfl⟩
      obtain ⟨b1, hb1⟩ : ∃ b : List UInt8, b = s1.data.toList := ⟨_, rfl⟩
      refine ⟨⟨b0, b1, n2, (List.range hs.length).map f⟩, a, cap, ?_, ?_, ?_, ?_, ?_⟩
      · simp at e0 e1 e2 e3
        rw [e0, e1, e2, e3, hb0, hb1]
        simp
      · show SlIn w a 32 cap (((List.range hs.length).map f).map fun h => h.map (Value.int .u8))
        rw [e]; exact hsl
      · show b0.length ≤ maxLen
        rw [hb0]
        have : s0.size = s0.data.toList.length := by rw [Array.length_toList]; rfl
        omega
      · show b1.length ≤ maxLen
        rw [hb1]
        have : s1.size = s1.data.toList.length := by rw [Array.length_toList]; rfl
        omega
      · intro h hh
        obtain ⟨i, hi, rfl⟩ := List.mem_map.1 hh
        have := hf i (by simpa using hi)
        exact ⟨this.1, this.2.1⟩
theorem isL_h32 {h : List Int} (hl : h.length = 32) : Vx.IsL [] (Vx.h32 fun j => h.getD j 0) (h.map (Value.int .u8)) := by
  have e : (Vx.h32 fun j => h.getD j 0) = (List.range 32).map fun j => Vx.CV.int .u8 (h.getD j 0) := rfl
  unfold Vx.IsL
  rw [e]
  apply List.ext_getElem
  · simp [hl]
  · intro i h1 h2
    have hi : i < 32 := by simpa using h1
    simp [Vx.CV.den, List.getD, hl, hi]
theorem leaf_at {n : Nat} {f : Nat → Vx.PLeaf} {i : Nat} (hi : i < n) : ((List.range n).map f).getD i .none = f i := by simp [List.getD, hi]
/-- Leaves that come in, as data. -/
theorem trod_Leaves {fuel : Nat} {l : List Value} {x : DataW H × List MemPlace} (hf : DataW.trod enc Tryd.prog w 0 (fun _ => true) true fuel 25 l = some x) :
    ∃ (v : Value) (L : List Vx.PLeaf), l = [v] ∧ (Vx.Cell.ns false 115 4 L.length (Vx.leafG false L)).shows w (fun _ b => b < w.heap.size) v ∧ L.length ≤ maxLen ∧ ∀ y ∈ L, y.k.length ≤ maxLen ∧ y.v.length ≤ maxLen ∧ ∀ h ∈ y.p, h.length = 32 ∧ ∀ b ∈ h, 0 ≤ b ∧ b < 256 := by
  obtain ⟨a, cap, xs, e, hsl, hx⟩ := trod_sl (sz := 4) (P := fun l => ∃ y, LeafIn w l y) (by decide) Tryd.underlying25 cellsM_Leaf (fun fuel l x hl => trod_Leaf hl) hf
  obtain ⟨f, hf⟩ : ∃ f : Nat → Vx.PLeaf, ∀ i (hi : i < xs.length), LeafIn w xs[i] (f i) := by
    refine ⟨fun i => if h : i < xs.length then Classical.choose (hx xs[i] (List.getElem_mem h)).2 else .none, fun i hi => ?_⟩
    dsimp only
    rw [dif_pos hi]
    exact Classical.choose_spec (hx xs[i] (List.getElem_mem hi)).2
  refine ⟨_, (List.range xs.length).map f, e, ⟨a, cap, by simp, by simpa using hsl.cap, fun h0 => ?_⟩, by simpa using hsl.max, fun y hy => ?_⟩
  rotate_left
  · obtain ⟨i, hi, rfl⟩ := List.mem_map.1 hy
    obtain ⟨a2, cap2, _, _, h3, h4, h5⟩ := hf i (by simpa using hi)
    exact ⟨h3, h4, h5⟩
  obtain ⟨b, off, ha, hb, hc⟩ := hsl.lt (by simpa using h0)
  refine ⟨b, off, ha, hb, fun i j hi hj => ?_⟩
  have hi' : i < xs.length := by simpa using hi
  obtain ⟨a2, cap2, ex, hs2, _, _, hh⟩ := hf i hi'
  have el := leaf_at (f := f) hi'
  rcases Vx.four hj with rfl | rfl | rfl | rfl
  · refine ⟨_, hc i hi' 0 (.string ⟨(f i).k.toArray⟩) (by rw [ex]; rfl), ?_⟩
    show Vx.CV.den [] (.str (Vx.lK _ i)) = _
    unfold Vx.lK
    rw [el]; rfl
  · refine ⟨_, hc i hi' 1 (.string ⟨(f i).v.toArray⟩) (by rw [ex]; rfl), ?_⟩
    show Vx.CV.den [] (.str (Vx.lV _ i)) = _
    unfold Vx.lV
    rw [el]; rfl
  · refine ⟨_, hc i hi' 2 (.int .i64 (f i).i) (by rw [ex]; rfl), ?_⟩
    show Vx.CV.den [] (.int .i64 (Vx.lI _ i)) = _
    unfold Vx.lI
    rw [el]; rfl
  · refine ⟨_, hc i hi' 3 (.slice a2 (f i).p.length cap2) (by rw [ex]; rfl), ?_⟩
    show (Vx.Cell.es false _ 32 (Vx.lN _ i) (Vx.pG (Vx.lP _ i))).shows _ _ _
    unfold Vx.lN Vx.lP
    rw [el]
    refine ⟨a2, cap2, rfl, by simpa using hs2.cap, fun h1 => ?_⟩
    obtain ⟨b2, o2, hb2, hl2, hc2⟩ := hs2.lt (by simpa using h1)
    refine ⟨b2, o2, hb2, hl2, fun q hq => ?_⟩
    have hq' : q < ((f i).p.map fun h => h.map (Value.int .u8)).length := by simpa using hq
    refine ⟨_, ?_, fun r v hv => hc2 q hq' r v hv⟩
    unfold Vx.pG
    rw [show (f i).p.getD q [] = (f i).p[q] by simp [List.getD, hq], List.getElem_map]
    exact isL_h32 (hh _ (List.getElem_mem hq)).1
end
end Go.Proofs.YthomoliklfmnkaaDoor
end

section
/- Headers and proofs that come in, opened. -/
namespace Go.Proofs.YthomoliklfmnkaaDoor
open Go.ChangeShapes Go.WideShapes Go.ChangeAt Go.RowKit
set_option linter.unusedVariables false
set_option linter.unusedSimpArgs false
set_option maxRecDepth 100000
section
variable {H : Type} {enc : TypeId × Value → H} {w : World} {base : Nat}
theorem cellsM_Proof : Tryd.prog.cellsOf 27 = 2 := by kernel_rfl
theorem cellsM_Leaves : Tryd.prog.cellsOf 25 = 1 := by kernel_rfl
theorem trod_Proof {fuel : Nat} {l : List Value} {x : DataW H × List MemPlace} (hf : DataW.trod enc Tryd.prog w 0 (fun _ => true) true fuel 27 l = some x) :
    ∃ (c : Int) (v : Value) (L : List Vx.PLeaf), l = [.int .i64 c, v] ∧ (Vx.Cell.ns false 115 4 L.length (Vx.leafG false L)).shows w (fun _ b => b < w.heap.size) v ∧ L.length ≤ maxLen ∧ ∀ y ∈ L, y.k.length ≤ maxLen ∧ y.v.length ≤ maxLen ∧ ∀ h ∈ y.p, h.length = 32 ∧ ∀ b ∈ h, 0 ≤ b ∧ b < 256 := by
  obtain ⟨xs, m, _, _, hl, hlen, hff⟩ := DataW.trod_struct Tryd.underlying27 hf
  rw [cellsM_Proof] at hl
  match l, hl with
  | [c0, c1], _ =>
    match xs, hlen with
    | [y0, y1], _ =>
      have f0 := hff 0 _ rfl
      have f1 := hff 1 _ rfl
      simp [cellsM_int, cellsM_Leaves] at f0 f1
      obtain ⟨n0, e0, _, _⟩ := DataW.trod_int Tryd.underlying3 f0
      obtain ⟨v, L, e1, h1, h2, h3⟩ := trod_Leaves f1
      simp at e0 e1
      exact ⟨n0, v, L, by rw [e0, e1], h1, h2, h3⟩
/-- Leaves that came in, as an entry of a law's start. -/
theorem Vx.Rel.addLeaves {ρ : List Vx.Pl} {h : List Vx.Ent} (r : Vx.Rel w (Vx.Gs.all []) ρ h w) {L : List Vx.PLeaf} {v : Value} (hs : (Vx.Cell.ns false 115 4 L.length (Vx.leafG false L)).shows w (fun _ b => b < w.heap.size) v) :
    ∃ q : Vx.Pl, q.v = v ∧ Vx.Rel w (Vx.Gs.all []) (ρ ++ [q]) (h ++ [.data false 115 4 L.length (Vx.leafG false L)]) w := by
  have old : ∀ D' : Bool → Nat → Prop, (∀ b, b < w.heap.size → D' false b) → (Vx.Cell.ns false 115 4 L.length (Vx.leafG false L)).shows w D' v := fun D' hD => by
    have e : (Vx.Cell.ns false 115 4 L.length (Vx.leafG false L)).old = .ns false 115 4 L.length (Vx.leafG false L) := by
      show Vx.Cell.ns false _ _ _ (fun i j => (Vx.leafG false L i j).old) = _
      congr 1
      funext i j
      exact Vx.leafG_old
    have := Vx.Cell.shows_old (D' := D') (fun fr b hb => ⟨hD b hb, rfl⟩) hs
    rwa [e] at this
  have hs0 := hs
  obtain ⟨a, cap, h1, h2, h3⟩ := hs0
  by_cases hn : 0 < L.length
  · obtain ⟨b, o, ha, _, _⟩ := h3 hn
    exact ⟨⟨b, v, o⟩, rfl, r.addS (en := .data false _ 4 L.length (Vx.leafG false L)) (q := ⟨b, v, o⟩) rfl ⟨a, cap, h1, h2, fun _ => ha⟩ fun _ => old _ fun b hb => Or.inl ⟨hb, by simp, trivial⟩⟩
  · exact ⟨⟨0, v, 0⟩, rfl, r.addS (en := .data false _ 4 L.length (Vx.leafG false L)) (q := ⟨0, v, 0⟩) rfl ⟨a, cap, h1, h2, fun h => absurd h hn⟩ fun _ => old _ fun b hb => Or.inl ⟨hb, by simp, trivial⟩⟩
end
end Go.Proofs.YthomoliklfmnkaaDoor
end
