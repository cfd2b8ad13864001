/- What leaves, proofs and messages are read as, and written as, plainly. -/
import Derived.Test.YthomoliklfmnkaaDoorM29
import Derived.Test.YthomoliklfmnkaaDoorM31
import Derived.Test.YthomoliklfmnkaaDoorM34
section
namespace Go.Proofs.YthomoliklfmnkaaDoor.Vx
set_option linter.unusedVariables false
set_option linter.unusedSimpArgs false

/-! ### Leaves -/

/-! ### Proofs -/

/-! ### Messages -/

/-! ### Messages that may be are read back -/
end Go.Proofs.YthomoliklfmnkaaDoor.Vx
end

section
/- Leaves and proofs read, by the walker. -/
namespace Go.Proofs.YthomoliklfmnkaaDoor.Vx
open Go.RowKit
set_option linter.unusedVariables false
set_option linter.unusedSimpArgs false


/-- How many sums there are; the evaluation does not go into it. -/
def lenH (p : List (List Int)) : Nat := p.length


end Go.Proofs.YthomoliklfmnkaaDoor.Vx
end

section
/- Proofs and messages read, by the walker. -/
namespace Go.Proofs.YthomoliklfmnkaaDoor.Vx
open Go.RowKit
set_option linter.unusedVariables false
set_option linter.unusedSimpArgs false
theorem leafG_left {fr : Bool} {p : List PLeaf} {x : PLeaf} {i j : Nat} (h : i < p.length) : leafG fr (p ++ [x]) i j = leafG fr p i j := by
  have e : (p ++ [x]).getD i .none = p.getD i .none := by
    rw [List.getD_eq_getElem?_getD, List.getD_eq_getElem?_getD, List.getElem?_append_left h]
  unfold leafG leafGP lK lV lI lN lP
  rw [e]
theorem leafG_last {fr : Bool} {p : List PLeaf} {x : PLeaf} {j : Nat} : leafG fr (p ++ [x]) p.length j = match j with
    | 0 => .pl (.str x.k)
    | 1 => .pl (.str x.v)
    | 2 => .pl (.int .i64 x.i)
    | _ => .es fr 24 32 x.p.length (pG x.p) := by
  have e : (p ++ [x]).getD p.length .none = x := by simp [List.getD]
  unfold leafG leafGP lK lV lI lN lP
  rw [e]
  cases j with
  | zero => rfl
  | succ j => cases j with
    | zero => rfl
    | succ j => cases j with
      | zero => rfl
      | succ j => rfl
theorem leafG_push {p : List PLeaf} {n : Nat} (hn : p.length = n) (x : PLeaf) : ∀ i j, i < n + 1 → j < 4 → Cell.le (pushC n (leafG true p) [.pl (.str x.k), .pl (.str x.v), .pl (.int .i64 x.i), .es true 24 32 (lenH x.p) (pG x.p)] i j) (leafG true (p ++ [x]) i j) := fun i j hi hj => by
  subst hn
  unfold pushC
  cases hb : Nat.blt i p.length with
  | true =>
    rw [Nat.blt_eq] at hb
    rw [leafG_left hb]
    exact Cell.le_refl _
  | false =>
    have hb : ¬ i < p.length := fun h => by rw [← Nat.blt_eq, hb] at h; cases h
    obtain rfl : i = p.length := by omega
    rw [leafG_last]
    rcases four hj with rfl | rfl | rfl | rfl <;> exact Cell.le_refl _


end Go.Proofs.YthomoliklfmnkaaDoor.Vx
end
