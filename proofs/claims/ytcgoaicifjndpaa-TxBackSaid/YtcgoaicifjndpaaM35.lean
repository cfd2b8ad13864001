/- Slices and sums that come in, opened. -/
import Derived.Test.YtcgoaicifjndpaaVxFrame
import Derived.Test.YtcgoaicifjndpaaM21
import Derived.WideShapes
import Derived.ChangeMaps5
import Derived.OpenShut
import Derived.ProofKit
import Derived.Test.YtcgoaicifjndpaaPacket
section
namespace Go.Proofs.Ytcgoaicifjndpaa
open Go.ChangeShapes Go.WideShapes Go.ChangeAt Go.RowKit
set_option linter.unusedVariables false
set_option linter.unusedSimpArgs false
/-- The elements of a slice, each as its cells. -/
structure SlIn (w : World) (a : Option Addr) (sz cap : Nat) (xs : List (List Value)) : Prop where
  cap : xs.length ≤ cap
  max : xs.length ≤ maxLen
  lt : 0 < xs.length → ∃ b off, a = some ⟨b, off, none⟩ ∧ b < w.heap.size ∧ ∀ i (h : i < xs.length), ∀ j v, xs[i][j]? = some v → w.cell? ⟨b, off + i * sz + j, none⟩ = some v
section
variable {H : Type} {enc : TypeId × Value → H} {w : World} {base : Nat}


end
end Go.Proofs.Ytcgoaicifjndpaa
end

section
/- A packet that comes in, opened. -/
namespace Go.Proofs.Ytcgoaicifjndpaa
open Go.ChangeShapes Go.WideShapes Go.ChangeAt Go.RowKit
set_option linter.unusedVariables false
set_option maxRecDepth 100000
section
variable {H : Type} {enc : TypeId × Value → H} {w : World} {base : Nat}

theorem cells_End : Try.prog.cellsOf 67 = 2 := by kernel_rfl
theorem cells_int : Try.prog.cellsOf 3 = 1 := by kernel_rfl
theorem cells_string : Try.prog.cellsOf 9 = 1 := by kernel_rfl

theorem bytesOf (s : ByteArray) (hs : s.size ≤ maxLen) : ∃ l : List UInt8, s = ⟨l.toArray⟩ ∧ l.length ≤ 9223372036854775807 := by
  refine ⟨s.data.toList, ?_, ?_⟩
  · cases s; simp
  · have : s.size = s.data.toList.length := by rw [Array.length_toList]; rfl
    unfold maxLen at hs
    omega

theorem trod_End {spare : Nat → Bool} {held : Bool} {fuel : Nat} {cs : List Value} {x : DataW H × List MemPlace} (h : DataW.trod enc Try.prog w base spare held fuel 67 cs = some x) :
    ∃ (s : ByteArray) (n : Int), cs = [.string s, .int .i64 n] ∧ s.size ≤ maxLen ∧ (Lit.int .i64 n).wf = true := by
  obtain ⟨y0, y1, m, _, hl, h0, h1⟩ := trod_struct2 Try.underlying67 h
  rw [cells_End] at hl
  match cs, hl with
  | [a, b], _ =>
    simp only [cells_int, cells_string] at h0 h1
    obtain ⟨s, e0, _, hs⟩ := DataW.trod_string Try.underlying9 h0
    obtain ⟨n, e1, _, hn⟩ := DataW.trod_int Try.underlying3 h1
    simp at e0 e1
    exact ⟨s, n, by rw [e0, e1], hs, hn⟩

end
end Go.Proofs.Ytcgoaicifjndpaa
end
