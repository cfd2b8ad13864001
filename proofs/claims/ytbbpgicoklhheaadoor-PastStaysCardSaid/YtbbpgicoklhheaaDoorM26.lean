/- Proofs that may be; light proofs, by the walker. -/
import Derived.Test.YtbbpgicoklhheaaDoorM25
import Derived.Test.YtbbpgicoklhheaaDoorM21
import Derived.Test.YtbbpgicoklhheaaDoorM24
section
namespace Go.Proofs.YtbbpgicoklhheaaDoor.Vx
open Go.RowKit
set_option linter.unusedVariables false
set_option linter.unusedSimpArgs false
/-- So far all is well. -/
structure LIx (n : Nat) (P : Nat → Bool) where
  i : Int
  h0 : 0 ≤ i
  h1 : i ≤ (n : Int)
  h2 : ∀ k, k < i.toNat → P k = true
theorem all_no {n : Nat} {P : Nat → Bool} {i : Nat} (hi : i < n) (h : ¬ P i = true) : (List.range n).all P = false := by
  rw [Bool.eq_false_iff]
  intro h2
  exact h (List.all_eq_true.1 h2 i (List.mem_range.2 hi))
theorem all_yes {n : Nat} {P : Nat → Bool} {j : Nat} (h : ∀ k, k < j → P k = true) (hj : n ≤ j) : (List.range n).all P = true := List.all_eq_true.2 fun k hk => h k (by have := List.mem_range.1 hk; omega)
theorem lix_next {P : Nat → Bool} {i : Int} (h0 : 0 ≤ i) (h : ∀ k, k < i.toNat → P k = true) (hi : P i.toNat = true) : ∀ k, k < (i + 1).toNat → P k = true := fun k hk => by
  rcases Nat.lt_or_ge k i.toNat with h1 | h1
  · exact h k h1
  · rw [show k = i.toNat by omega]; exact hi





end Go.Proofs.YtbbpgicoklhheaaDoor.Vx
end

section
/- The proof of a key in a list of pairs, plainly. -/
namespace Go.Proofs.YtbbpgicoklhheaaDoor.Vx
open Sha
open Go.RowKit
set_option linter.unusedVariables false
set_option linter.unusedSimpArgs false
/-- The 32 numbers of a sum. -/
def hNm (f : Nat → Int) : List Int := (List.range 32).map f
/-- The sums beside the way up from a pair. -/
def wyL (L : List PP) (i : Nat) : List (List Int) := (wayG (lfG L) L.length (i : Int)).map hNm
def mkLeaf (L : List PP) (i : Nat) : PLeaf := ⟨prK L i, prV L i, (i : Int), wyL L i⟩
/-- The leaves of the proof of a key. -/
def mkL (L : List PP) (k : List UInt8) : List PLeaf := if goodL L = true then (if findB L k = true then [mkLeaf L (findI L k)] else (if 0 < findI L k then [mkLeaf L (findI L k - 1)] else []) ++ (if findI L k < L.length then [mkLeaf L (findI L k)] else [])) else []
def mkC (L : List PP) : Int := if goodL L = true then (L.length : Int) else 0
end Go.Proofs.YtbbpgicoklhheaaDoor.Vx
end

section
/- The search for a key's place, by the walker. -/
namespace Go.Proofs.YtbbpgicoklhheaaDoor.Vx
open Sha
open Go.RowKit
set_option linter.unusedVariables false
set_option linter.unusedSimpArgs false






end Go.Proofs.YtbbpgicoklhheaaDoor.Vx
end

section
/- Proofs compared; copies of leaves and of sums, by the walker. -/
namespace Go.Proofs.YtbbpgicoklhheaaDoor.Vx
open Go.RowKit
set_option linter.unusedVariables false
set_option linter.unusedSimpArgs false
/-- Sums, of their cells. -/
def hsL (n : Nat) (get : Nat → List CV) : List (List Int) := (List.range n).map fun i => (get i).map vInt












end Go.Proofs.YtbbpgicoklhheaaDoor.Vx
end

section
/- Copies of leaves: elements that hold slices, as values that are not looked into. -/
namespace Go.Proofs.YtbbpgicoklhheaaDoor.Vx
open Go.RowKit
set_option linter.unusedVariables false
set_option linter.unusedSimpArgs false





end Go.Proofs.YtbbpgicoklhheaaDoor.Vx
end

section
/- Proofs copied, by the walker. -/
namespace Go.Proofs.YtbbpgicoklhheaaDoor.Vx
open Go.RowKit
set_option linter.unusedVariables false
set_option linter.unusedSimpArgs false


end Go.Proofs.YtbbpgicoklhheaaDoor.Vx
end
