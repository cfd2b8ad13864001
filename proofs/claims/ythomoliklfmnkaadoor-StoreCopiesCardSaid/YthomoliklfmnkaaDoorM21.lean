/- Lists of sums compared. -/
import Derived.Test.YthomoliklfmnkaaDoorM20
section
namespace Go.Proofs.YthomoliklfmnkaaDoor.Vx
open Go.RowKit Sha
set_option linter.unusedVariables false
set_option linter.unusedSimpArgs false


end Go.Proofs.YthomoliklfmnkaaDoor.Vx
end

section
/- Trees: a leaf and its way come to the top: plain laws. -/
namespace Go.Proofs.YthomoliklfmnkaaDoor.Vx
open Go.RowKit Sha
set_option linter.unusedVariables false
set_option linter.unusedSimpArgs false
end Go.Proofs.YthomoliklfmnkaaDoor.Vx
end

section
/- The law TreeFolds, by the walker. -/
namespace Go.Proofs.YthomoliklfmnkaaDoor.Vx
open Go.RowKit Sha
set_option linter.unusedVariables false
set_option linter.unusedSimpArgs false


end Go.Proofs.YthomoliklfmnkaaDoor.Vx
namespace Go.Proofs.YthomoliklfmnkaaDoor
open Go.RowKit
set_option linter.unusedVariables false
end Go.Proofs.YthomoliklfmnkaaDoor
end

section
/- Trees: leaves; the document's nodes, tops, depths, by the walker. -/
namespace Go.Proofs.YthomoliklfmnkaaDoor.Vx
open Go.RowKit Sha
set_option linter.unusedVariables false
set_option linter.unusedSimpArgs false
/-- The sum of a key and its value. -/
def leafF (k v : List UInt8) : Nat → Int := sumI ([0] ++ be8 k.length ++ k ++ v)
def leafPre (gg sz n : Nat) (get : Nat → List CV) (k v : List UInt8) : Prop := KsAt gg sz n get ∧ k.length ≤ 1000000000 ∧ v.length ≤ 1000000000
def sLeaf : SpecF
  | [.c (.str k), .c (.str v)], [.glob gg sz n get] => some (leafPre gg sz n get k v, .agg (hashC (leafF k v)), [.dead])
  | _, _ => none

set_option maxRecDepth 100000 in
set_option maxHeartbeats 4000000 in
theorem leafP : Fn Tryd.prog 123 [0] [] sLeaf := by
  have hC : CtsOk Tryd.prog [(119, appPure sEight), (118, appFn [0] [(9, 1)] sSum)] := CtsOk.cons (Pure.ct leightP) <| CtsOk.cons (Fn.ct sumP) <| CtsOk.nil _
  refine Fn.of (E := tbT) [0] 0 [] tbT_ok hC (by kernel_rfl) Tryd.func123 rfl rfl rfl (by kernel_rfl) (by kernel_rfl) 1 5 1 ?_ ?_
  · intro args h pre r h' hs
    unfold sLeaf at hs
    split at hs
    · cases hs; exact ⟨rfl, rfl, Nat.le_of_ble_eq_true rfl⟩
    · cases hs
  · intro args h pre r h' hs hp
    unfold sLeaf at hs
    split at hs
    rotate_left
    · cases hs
    rename_i k v gg sz n get
    cases hs
    obtain ⟨hK, hk, hv⟩ := hp
    refine ⟨_, hK.same, ?_⟩
    clear hK
    unfold sSum sEight
    generalize hg0 : (List.length : List UInt8 → Nat) = g0
    generalize ho0 : @sumPre = zo0, ho1 : @joinG = zo1, ho2 : @cutC = zo2, ho3 : @sumI = zo3, ho4 : @be8 = zo4, ho5 : @eightPre = zo5, ho6 : @leafF = zo6, ho7 : @leafPre = zo7
    generalize hA : Arith.std = A
    cbv
    subst hA hg0 ho0 ho1 ho2 ho3 ho4 ho5 ho6 ho7
    have j1 := (strs_cut [[0], be8 k.length, k, v]).2
    have l8 : (be8 k.length).length = 8 := rfl
    have f1 : [[0], be8 k.length, k, v].flatten = [0] ++ be8 k.length ++ k ++ v := by simp
    have p1 := sumPre_cut [[0], be8 k.length, k, v] (by rw [f1, List.length_append, List.length_append, List.length_append, l8]; show 1 + 8 + k.length + v.length ≤ _; omega) (by show 4 ≤ 1000; decide)
    refine Need.mk (show eightPre (k.length : Int) from ⟨by omega, by omega⟩) fun _ => Need.mk p1 fun _ => ?_
    show ∃ σ, LeftF _ _ _ σ (.agg (hashC (sumI (joinG 4 (cutC 1 ([[0], be8 k.length, k, v].map CV.str) 0))))) _ (.agg (hashC (leafF k v))) _
    rw [show joinG 4 (cutC 1 ([[0], be8 k.length, k, v].map CV.str) 0) = [0] ++ be8 k.length ++ k ++ v from j1.trans f1]
    exact ⟨[0], ⟨rfl, by repeat' (first | exact trivial | exact rfl | apply And.intro), by decide, rfl, by repeat' (first | exact trivial | exact rfl | apply And.intro)⟩⟩










end Go.Proofs.YthomoliklfmnkaaDoor.Vx
end
