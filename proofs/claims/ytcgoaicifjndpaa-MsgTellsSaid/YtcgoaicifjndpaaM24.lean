/- Slices and sums that come in, opened. -/
import Derived.Test.YtcgoaicifjndpaaM9
import Derived.Test.YtcgoaicifjndpaaM15
import Derived.WideShapes
import Derived.ChangeMaps5
import Derived.OpenShut
import Derived.ProofKit
section
namespace Go.Proofs.Ytcgoaicifjndpaa
open Go.ChangeShapes Go.WideShapes Go.ChangeAt Go.RowKit
set_option linter.unusedVariables false
set_option linter.unusedSimpArgs false
/-- The elements of a slice, each as its cells. -/
structure SlIn (w : World) (a : Option Addr) (sz cap : Nat) (xs : List (List Value)) : Prop where
  cap : xs.length ≤ cap
  max : xs.length ≤ maxLen
  lt : 0 < xs.length → ∃ b off, a = some ⟨b, off, none⟩ ∧ b < w.heap.size ∧ ∀ i (h : i < xs.length), ∀ j v, xs[i][j]? = some v → w.cell? ⟨b, off + i * sz + j, none⟩ = some v
section
variable {H : Type} {enc : TypeId × Value → H} {w : World} {base : Nat}
set_option maxRecDepth 100000 in
theorem open_slice {t e sz : Nat} {P : List Value → Prop} (hpos : 0 < sz) (ht : Try.prog.underlying t = some (.slice e)) (hsz : Try.prog.cellsOf e = sz)
    (hP : ∀ (fuel : Nat) (l : List Value) (x : DataW H × List MemPlace), DataW.trod enc Try.prog w 0 (fun _ => true) true fuel e l = some x → l.length = sz ∧ P l)
    {v : Value} {d : DataW H} {p : List MemPlace} (hv : Value.okWide Try.prog w .any base t v) (h : DataW.Trod enc Try.prog w 0 (fun _ => true) true t v d p) :
    ∃ (a : Option Addr) (cap : Nat) (xs : List (List Value)), v = .slice a xs.length cap ∧ SlIn w a sz cap xs ∧ ∀ x ∈ xs, x.length = sz ∧ P x := by
  obtain ⟨a, len, cap, rfl⟩ := okWide_slice ht hv
  obtain ⟨fuel, hf⟩ := h
  simp only [Value.cells] at hf
  rcases DataW.trod_slice ht hf with ⟨e0, _⟩ | ⟨a2, len2, cap2, elems, rest, n, _, e0, _, hb, hl, hm, hlen, hel, hsp, hns⟩
  · simp at e0
    obtain ⟨rfl, rfl, rfl⟩ := e0
    exact ⟨none, 0, [], rfl, ⟨Nat.le_refl _, Nat.zero_le _, fun h => absurd h (by simp)⟩, fun x hx => absurd hx (by simp)⟩
  · simp at e0
    obtain ⟨rfl, rfl, rfl⟩ := e0
    have each : ∀ i, i < len → ∃ cs, w.cells? 0 (a2.add (i * sz)) sz = some cs ∧ cs.length = sz ∧ P cs := fun i hi => by
      have h := hel i hi
      simp only [hsz] at h
      have e := List.getElem?_eq_getElem (l := elems) (i := i) (by omega)
      rw [e] at h
      obtain ⟨cs, h1, h2⟩ := Option.bind_eq_some_iff.1 h
      obtain ⟨h3, h4⟩ := hP _ _ _ h2
      exact ⟨cs, h1, h3, h4⟩
    obtain ⟨f, hf⟩ : ∃ f : Nat → List Value, ∀ i, i < len → w.cells? 0 (a2.add (i * sz)) sz = some (f i) ∧ (f i).length = sz ∧ P (f i) := by
      refine ⟨fun i => if h : i < len then Classical.choose (each i h) else [], fun i hi => ?_⟩
      dsimp only
      rw [dif_pos hi]
      exact Classical.choose_spec (each i hi)
    refine ⟨some a2, cap, (List.range len).map f, by simp, ⟨by simp; omega, by simp; omega, fun h0 => ?_⟩, fun x hx => ?_⟩
    rotate_left
    · obtain ⟨i, hi, rfl⟩ := List.mem_map.1 hx
      exact (hf i (by simpa using hi)).2
    simp only [List.length_map, List.length_range] at h0 ⊢
    obtain ⟨b, off, spot⟩ := a2
    have h1 := World.cells?_some (hf 0 h0).1
    have hl0 : 0 < (f 0).length := by rw [(hf 0 h0).2.1]; exact hpos
    have h2 := h1.2.2 0 (by first | exact hl0 | exact hpos)
    have hspot : spot = none := by
      have h3 : ∃ v, w.cell? (((⟨b, off, spot⟩ : Addr).add (0 * sz)).add 0) = some v := ⟨_, h2.trans (List.getElem?_eq_getElem hl0)⟩
      obtain ⟨v, h3⟩ := h3
      simpa [Addr.add] using World.cell?_spot h3
    subst hspot
    have ha : ∀ i j : Nat, (((⟨b, off, none⟩ : Addr).add (i * sz)).add j) = ⟨b, off + i * sz + j, none⟩ := fun i j => by
      rw [Vx.addr_add, Vx.addr_add]
    refine ⟨b, off, rfl, ?_, fun i hi j v hv => ?_⟩
    · rw [ha, List.getElem?_eq_getElem hl0] at h2
      exact World.block_lt_of_cell? w _ h2
    · have hfi := hf i hi
      have hj : j < (f i).length := by
        have := (List.getElem?_eq_some_iff.1 hv).1
        simpa using this
      have h3 := (World.cells?_some hfi.1).2.2 j (by first | exact hj | (rw [← hfi.2.1]; exact hj))
      rw [ha] at h3
      rw [h3]
      simpa using hv
set_option maxRecDepth 100000 in
theorem SlIn.good {a : Option Addr} {sz cap : Nat} {xs : List (List Value)} (h : SlIn w a sz cap xs) {get : Nat → List Vx.CV} (hg : ∀ i (hi : i < xs.length), Vx.IsL [] (get i) xs[i]) : ∃ p : Vx.Pl, p.v = .slice a xs.length cap ∧ Vx.Good w sz (xs.length, get) p := by
  by_cases h0 : 0 < xs.length
  · obtain ⟨b, off, rfl, hb, hc⟩ := h.lt h0
    exact ⟨⟨b, .slice (some ⟨b, off, none⟩) xs.length cap, off⟩, rfl, ⟨_, _, rfl, h.cap, fun _ => rfl⟩, fun _ => hb, fun i hi => ⟨xs[i], hg i hi, fun j v hv => hc i hi j v hv⟩⟩
  · exact ⟨⟨0, .slice a xs.length cap, 0⟩, rfl, ⟨_, _, rfl, h.cap, fun h => absurd h h0⟩, fun h => absurd h h0, fun i hi => absurd (Nat.lt_of_le_of_lt (Nat.zero_le _) hi) h0⟩


end
end Go.Proofs.Ytcgoaicifjndpaa
end

section
/- A packet that comes in, opened. -/
namespace Go.Proofs.Ytcgoaicifjndpaa
open Go.ChangeShapes Go.WideShapes Go.ChangeAt Go.RowKit
set_option linter.unusedVariables false
set_option maxRecDepth 100000
section
variable {H : Type} {enc : TypeId × Value → H} {w : World} {base : Nat}

theorem cells_End : Try.prog.cellsOf 67 = 2 := by kernel_rfl
theorem cells_Packet : Try.prog.cellsOf 69 = 8 := by kernel_rfl
theorem cells_int : Try.prog.cellsOf 3 = 1 := by kernel_rfl
theorem cells_string : Try.prog.cellsOf 9 = 1 := by kernel_rfl

theorem bytesOf (s : ByteArray) (hs : s.size ≤ maxLen) : ∃ l : List UInt8, s = ⟨l.toArray⟩ ∧ l.length ≤ 9223372036854775807 := by
  refine ⟨s.data.toList, ?_, ?_⟩
  · cases s; simp
  · have : s.size = s.data.toList.length := by rw [Array.length_toList]; rfl
    unfold maxLen at hs
    omega

theorem trod_End {spare : Nat → Bool} {held : Bool} {fuel : Nat} {cs : List Value} {x : DataW H × List MemPlace} (h : DataW.trod enc Try.prog w base spare held fuel 67 cs = some x) :
    ∃ (s : ByteArray) (n : Int), cs = [.string s, .int .i64 n] ∧ s.size ≤ maxLen ∧ (Lit.int .i64 n).wf = true := by
  obtain ⟨y0, y1, m, _, hl, h0, h1⟩ := trod_struct2 Try.underlying67 h
  rw [cells_End] at hl
  match cs, hl with
  | [a, b], _ =>
    simp only [cells_int, cells_string] at h0 h1
    obtain ⟨s, e0, _, hs⟩ := DataW.trod_string Try.underlying9 h0
    obtain ⟨n, e1, _, hn⟩ := DataW.trod_int Try.underlying3 h1
    simp at e0 e1
    exact ⟨s, n, by rw [e0, e1], hs, hn⟩

theorem open_Pkt {spare : Nat → Bool} {held : Bool} {v : Value} {d : DataW H} {p : List MemPlace} (hv : Value.okWide Try.prog w .any base 69 v) (h : DataW.Trod enc Try.prog w 0 spare held 69 v d p) :
    ∃ q : Pkt, v = .agg q.cells ∧ q.fits := by
  obtain ⟨cs, rfl, hz⟩ := okWide_struct Try.underlying69 hv
  obtain ⟨fuel, hf⟩ := h
  obtain ⟨xs, m, _, _, hl, hlen, hff⟩ := DataW.trod_struct Try.underlying69 hf
  obtain ⟨l, rfl⟩ : ∃ l : List Value, cs = l.toArray := ⟨cs.toList, by simp⟩
  simp only [Value.cells] at hff hl
  rw [cells_Packet] at hl
  match l, hl with
  | [c0, c1, c2, c3, c4, c5, c6, c7], _ =>
    match xs, hlen with
    | [y0, y1, y2, y3, y4, y5], _ =>
      have f0 := hff 0 _ rfl
      have f1 := hff 1 _ rfl
      have f2 := hff 2 _ rfl
      have f3 := hff 3 _ rfl
      have f4 := hff 4 _ rfl
      have f5 := hff 5 _ rfl
      simp [cells_End, cells_int, cells_string] at f0 f1 f2 f3 f4 f5
      obtain ⟨s0, n0, e0, hs0, _⟩ := trod_End f0
      obtain ⟨s1, n1, e1, hs1, _⟩ := trod_End f1
      obtain ⟨n2, e2, _, _⟩ := DataW.trod_int Try.underlying3 f2
      obtain ⟨s3, e3, _, hs3⟩ := DataW.trod_string Try.underlying9 f3
      obtain ⟨n4, e4, _, _⟩ := DataW.trod_int Try.underlying3 f4
      obtain ⟨n5, e5, _, _⟩ := DataW.trod_int Try.underlying3 f5
      simp at e0 e1 e2 e3 e4 e5
      obtain ⟨l0, rfl, b0⟩ := bytesOf s0 hs0
      obtain ⟨l1, rfl, b1⟩ := bytesOf s1 hs1
      obtain ⟨l3, rfl, b3⟩ := bytesOf s3 hs3
      refine ⟨⟨l0, n0, l1, n1, n2, l3, n4, n5⟩, ?_, ⟨b0, b1, b3⟩⟩
      simp [Pkt.cells, e0, e1, e2, e3, e4, e5]
end
end Go.Proofs.Ytcgoaicifjndpaa
end
