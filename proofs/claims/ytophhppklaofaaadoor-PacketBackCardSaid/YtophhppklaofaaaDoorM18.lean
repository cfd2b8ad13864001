/- Slices and sums that come in, opened. -/
import Derived.Test.YtophhppklaofaaaDoorVxFrame
import Derived.Test.YtophhppklaofaaaDoorM13
import Derived.WideShapes
import Derived.ChangeMaps5
import Derived.OpenShut
import Derived.ProofKit
section
namespace Go.Proofs.YtophhppklaofaaaDoor
open Go.ChangeShapes Go.WideShapes Go.ChangeAt Go.RowKit
set_option linter.unusedVariables false
set_option linter.unusedSimpArgs false
section
variable {H : Type} {enc : TypeId × Value → H} {w : World} {base : Nat}


end
end Go.Proofs.YtophhppklaofaaaDoor
end

section
/- A packet that comes in, opened. -/
namespace Go.Proofs.YtophhppklaofaaaDoor
open Go.ChangeShapes Go.WideShapes Go.ChangeAt Go.RowKit
set_option linter.unusedVariables false
set_option maxRecDepth 100000
section
variable {H : Type} {enc : TypeId × Value → H} {w : World} {base : Nat}

theorem cells_End : Tryd.prog.cellsOf 54 = 2 := by kernel_rfl
theorem cells_Packet : Tryd.prog.cellsOf 56 = 8 := by kernel_rfl
theorem cells_int : Tryd.prog.cellsOf 3 = 1 := by kernel_rfl
theorem cells_string : Tryd.prog.cellsOf 9 = 1 := by kernel_rfl

theorem bytesOf (s : ByteArray) (hs : s.size ≤ maxLen) : ∃ l : List UInt8, s = ⟨l.toArray⟩ ∧ l.length ≤ 9223372036854775807 := by
  refine ⟨s.data.toList, ?_, ?_⟩
  · cases s; simp
  · have : s.size = s.data.toList.length := by rw [Array.length_toList]; rfl
    unfold maxLen at hs
    omega

theorem trod_End {spare : Nat → Bool} {held : Bool} {fuel : Nat} {cs : List Value} {x : DataW H × List MemPlace} (h : DataW.trod enc Tryd.prog w base spare held fuel 54 cs = some x) :
    ∃ (s : ByteArray) (n : Int), cs = [.string s, .int .i64 n] ∧ s.size ≤ maxLen ∧ (Lit.int .i64 n).wf = true := by
  obtain ⟨y0, y1, m, _, hl, h0, h1⟩ := trod_struct2 Tryd.underlying54 h
  rw [cells_End] at hl
  match cs, hl with
  | [a, b], _ =>
    simp only [cells_int, cells_string] at h0 h1
    obtain ⟨s, e0, _, hs⟩ := DataW.trod_string Tryd.underlying9 h0
    obtain ⟨n, e1, _, hn⟩ := DataW.trod_int Tryd.underlying3 h1
    simp at e0 e1
    exact ⟨s, n, by rw [e0, e1], hs, hn⟩

theorem open_Pkt {spare : Nat → Bool} {held : Bool} {v : Value} {d : DataW H} {p : List MemPlace} (hv : Value.okWide Tryd.prog w .any base 56 v) (h : DataW.Trod enc Tryd.prog w 0 spare held 56 v d p) :
    ∃ q : Pkt, v = .agg q.cells ∧ q.fits := by
  obtain ⟨cs, rfl, hz⟩ := okWide_struct Tryd.underlying56 hv
  obtain ⟨fuel, hf⟩ := h
  obtain ⟨xs, m, _, _, hl, hlen, hff⟩ := DataW.trod_struct Tryd.underlying56 hf
  obtain ⟨l, rfl⟩ : ∃ l : List Value, cs = l.toArray := ⟨cs.toList, by simp⟩
  simp only [Value.cells] at hff hl
  rw [cells_Packet] at hl
  match l, hl with
  | [c0, c1, c2, c3, c4, c5, c6, c7], _ =>
    match xs, hlen with
    | [y0, y1, y2, y3, y4, y5], _ =>
      have f0 := hff 0 _ rfl
      have f1 := hff 1 _ rfl
      have f2 := hff 2 _ rfl
      have f3 := hff 3 _ rfl
      have f4 := hff 4 _ rfl
      have f5 := hff 5 _ rfl
      simp [cells_End, cells_int, cells_string] at f0 f1 f2 f3 f4 f5
      obtain ⟨s0, n0, e0, hs0, _⟩ := trod_End f0
      obtain ⟨s1, n1, e1, hs1, _⟩ := trod_End f1
      obtain ⟨n2, e2, _, _⟩ := DataW.trod_int Tryd.underlying3 f2
      obtain ⟨s3, e3, _, hs3⟩ := DataW.trod_string Tryd.underlying9 f3
      obtain ⟨n4, e4, _, _⟩ := DataW.trod_int Tryd.underlying3 f4
      obtain ⟨n5, e5, _, _⟩ := DataW.trod_int Tryd.underlying3 f5
      simp at e0 e1 e2 e3 e4 e5
      obtain ⟨l0, rfl, b0⟩ := bytesOf s0 hs0
      obtain ⟨l1, rfl, b1⟩ := bytesOf s1 hs1
      obtain ⟨l3, rfl, b3⟩ := bytesOf s3 hs3
      refine ⟨⟨l0, n0, l1, n1, n2, l3, n4, n5⟩, ?_, ⟨b0, b1, b3⟩⟩
      simp [Pkt.cells, e0, e1, e2, e3, e4, e5]
end
end Go.Proofs.YtophhppklaofaaaDoor
end
