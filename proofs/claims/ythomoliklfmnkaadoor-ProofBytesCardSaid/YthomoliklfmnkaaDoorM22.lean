/- Lists of sums compared. -/
import Derived.Test.YthomoliklfmnkaaDoorM21
section
namespace Go.Proofs.YthomoliklfmnkaaDoor.Vx
open Go.RowKit Sha
set_option linter.unusedVariables false
set_option linter.unusedSimpArgs false


end Go.Proofs.YthomoliklfmnkaaDoor.Vx
end

section
/- Trees: a leaf and its way come to the top: plain laws. -/
namespace Go.Proofs.YthomoliklfmnkaaDoor.Vx
open Go.RowKit Sha
set_option linter.unusedVariables false
set_option linter.unusedSimpArgs false
theorem way_one (h : Nat → Nat → Int) (lo : Nat) (i : Int) (n : Nat) (hn : ¬ (1 < n ∧ n ≤ 1073741824 ∧ 0 ≤ i ∧ i < (n : Int))) : wayR h lo n i = [] := by rw [wayR, dif_neg hn]
theorem way_lo (h : Nat → Nat → Int) (lo : Nat) (i : Int) (n : Nat) (hc : 1 < n ∧ n ≤ 1073741824 ∧ 0 ≤ i ∧ i < (n : Int)) (hi : i < hf n) : wayR h lo n i = wayR h lo (hf n).toNat i ++ [topR h (lo + (hf n).toNat) (n - (hf n).toNat)] := by rw [wayR, dif_pos hc, if_pos hi]
theorem way_hi (h : Nat → Nat → Int) (lo : Nat) (i : Int) (n : Nat) (hc : 1 < n ∧ n ≤ 1073741824 ∧ 0 ≤ i ∧ i < (n : Int)) (hi : ¬ i < hf n) : wayR h lo n i = wayR h (lo + (hf n).toNat) (n - (hf n).toNat) (i - hf n) ++ [topR h lo (hf n).toNat] := by rw [wayR, dif_pos hc, if_neg hi]
theorem way_len (h : Nat → Nat → Int) : ∀ (n lo : Nat) (i : Int), n ≤ 1073741824 → ((wayR h lo n i).length : Int) = deep n i := by
  intro n
  induction n using Nat.strongRecOn with
  | ind n ih =>
    intro lo i hn
    by_cases hc : 1 < n ∧ n ≤ 1073741824 ∧ 0 ≤ i ∧ i < (n : Int)
    · have hh := hf_lt (n := (n : Int)) (by omega) (by omega)
      have hc' : 1 < (n : Int) ∧ (n : Int) ≤ 1073741824 ∧ 0 ≤ i ∧ i < (n : Int) := by omega
      by_cases hi : i < hf n
      · have e := ih (hf n).toNat (by omega) lo i (by omega)
        rw [show (((hf (n : Int)).toNat : Nat) : Int) = hf n by omega] at e
        rw [way_lo h lo i n hc hi, deep_lo hc' hi, List.length_append, List.length_singleton, ← e]
        omega
      · have e := ih (n - (hf n).toNat) (by omega) (lo + (hf n).toNat) (i - hf n) (by omega)
        rw [show ((n - (hf (n : Int)).toNat : Nat) : Int) = (n : Int) - hf n by omega] at e
        rw [way_hi h lo i n hc hi, deep_hi hc' hi, List.length_append, List.length_singleton, ← e]
        omega
    · rw [way_one h lo i n hc, deep_out (by omega)]
      rfl
end Go.Proofs.YthomoliklfmnkaaDoor.Vx
end

section
/- The law TreeFolds, by the walker. -/
namespace Go.Proofs.YthomoliklfmnkaaDoor.Vx
open Go.RowKit Sha
set_option linter.unusedVariables false
set_option linter.unusedSimpArgs false


end Go.Proofs.YthomoliklfmnkaaDoor.Vx
namespace Go.Proofs.YthomoliklfmnkaaDoor
open Go.RowKit
set_option linter.unusedVariables false
end Go.Proofs.YthomoliklfmnkaaDoor
end

section
/- Trees: leaves; the document's nodes, tops, depths, by the walker. -/
namespace Go.Proofs.YthomoliklfmnkaaDoor.Vx
open Go.RowKit Sha
set_option linter.unusedVariables false
set_option linter.unusedSimpArgs false
/-- The sum of a key and its value. -/
def leafF (k v : List UInt8) : Nat → Int := sumI ([0] ++ be8 k.length ++ k ++ v)
def leafPre (gg sz n : Nat) (get : Nat → List CV) (k v : List UInt8) : Prop := KsAt gg sz n get ∧ k.length ≤ 1000000000 ∧ v.length ≤ 1000000000
def sLeaf : SpecF
  | [.c (.str k), .c (.str v)], [.glob gg sz n get] => some (leafPre gg sz n get k v, .agg (hashC (leafF k v)), [.dead])
  | _, _ => none

set_option maxRecDepth 100000 in
set_option maxHeartbeats 4000000 in
theorem leafP : Fn Tryd.prog 123 [0] [] sLeaf := by
  have hC : CtsOk Tryd.prog [(119, appPure sEight), (118, appFn [0] [(9, 1)] sSum)] := CtsOk.cons (Pure.ct leightP) <| CtsOk.cons (Fn.ct sumP) <| CtsOk.nil _
  refine Fn.of (E := tbT) [0] 0 [] tbT_ok hC (by kernel_rfl) Tryd.func123 rfl rfl rfl (by kernel_rfl) (by kernel_rfl) 1 5 1 ?_ ?_
  · intro args h pre r h' hs
    unfold sLeaf at hs
    split at hs
    · cases hs; exact ⟨rfl, rfl, Nat.le_of_ble_eq_true rfl⟩
    · cases hs
  · intro args h pre r h' hs hp
    unfold sLeaf at hs
    split at hs
    rotate_left
    · cases hs
    rename_i k v gg sz n get
    cases hs
    obtain ⟨hK, hk, hv⟩ := hp
    refine ⟨_, hK.same, ?_⟩
    clear hK
    unfold sSum sEight
    generalize hg0 : (List.length : List UInt8 → Nat) = g0
    generalize ho0 : @sumPre = zo0, ho1 : @joinG = zo1, ho2 : @cutC = zo2, ho3 : @sumI = zo3, ho4 : @be8 = zo4, ho5 : @eightPre = zo5, ho6 : @leafF = zo6, ho7 : @leafPre = zo7
    generalize hA : Arith.std = A
    cbv
    subst hA hg0 ho0 ho1 ho2 ho3 ho4 ho5 ho6 ho7
    have j1 := (strs_cut [[0], be8 k.length, k, v]).2
    have l8 : (be8 k.length).length = 8 := rfl
    have f1 : [[0], be8 k.length, k, v].flatten = [0] ++ be8 k.length ++ k ++ v := by simp
    have p1 := sumPre_cut [[0], be8 k.length, k, v] (by rw [f1, List.length_append, List.length_append, List.length_append, l8]; show 1 + 8 + k.length + v.length ≤ _; omega) (by show 4 ≤ 1000; decide)
    refine Need.mk (show eightPre (k.length : Int) from ⟨by omega, by omega⟩) fun _ => Need.mk p1 fun _ => ?_
    show ∃ σ, LeftF _ _ _ σ (.agg (hashC (sumI (joinG 4 (cutC 1 ([[0], be8 k.length, k, v].map CV.str) 0))))) _ (.agg (hashC (leafF k v))) _
    rw [show joinG 4 (cutC 1 ([[0], be8 k.length, k, v].map CV.str) 0) = [0] ++ be8 k.length ++ k ++ v from j1.trans f1]
    exact ⟨[0], ⟨rfl, by repeat' (first | exact trivial | exact rfl | apply And.intro), by decide, rfl, by repeat' (first | exact trivial | exact rfl | apply And.intro)⟩⟩





structure LDr (n0 i0 : Int) where
  n : Int
  i : Int
  d : Int
  h0 : 0 ≤ d
  h1 : deep n0 i0 = d + deep n i
  h2 : 0 ≤ i
  h3 : i < n
  h4 : n ≤ 1073741824
def sRDeep : List SV → Option (Prop × SV)
  | [.c (.int .i64 n), .c (.int .i64 i)] => some (True, .c (.int .i64 (deep n i)))
  | _ => none

set_option maxRecDepth 100000 in
set_option maxHeartbeats 2000000 in
theorem rdeepP : Pure Tryd.prog 105 sRDeep := by
  have hC : CtsOk Tryd.prog [(124, appPure sRHalf)] := CtsOk.cons (Pure.ct rhalfP) <| CtsOk.nil _
  refine Pure.of (E := tbT) (C := [(124, appPure sRHalf)]) [] 0 [] tbT_ok hC (by kernel_rfl) Tryd.func105 rfl rfl rfl (by kernel_rfl) (by kernel_rfl) ?_ ?_
  · intro args pre r h
    unfold sRDeep at h
    split at h
    · cases h; rfl
    · cases h
  · intro args pre r h hp
    unfold sRDeep at h
    split at h
    rotate_left
    · cases h
    rename_i n i
    cases h
    have hle : deep n i ≤ 30 := deep_30 n i
    unfold sRHalf
    generalize hg0 : hf = g0
    generalize hg1 : deep = g1
    generalize hL : lft Tryd.prog _ = L
    generalize ho0 : @hf = zo0
    generalize hA : Arith.std = A
    cbv
    subst hA hg0 hg1 hL ho0
    refine Ife.mk (fun h => ?_) (fun h1 => ?_)
    · have h : i < 0 := of_decide_eq_true (p := i < 0) h
      exact (deep_out (by omega)).symm
    replace h1 : ¬ i < 0 := of_decide_eq_false (p := i < 0) h1
    refine Ife.mk (fun h => ?_) (fun h2 => ?_)
    · have h : n ≤ i := of_decide_eq_true (p := n ≤ i) h
      exact (deep_out (by omega)).symm
    replace h2 : ¬ n ≤ i := of_decide_eq_false (p := n ≤ i) h2
    refine Ife.mk (fun h => ?_) (fun h3 => ?_)
    · have h : 1073741824 < n := of_decide_eq_true (p := 1073741824 < n) h
      exact (deep_out (by omega)).symm
    replace h3 : ¬ 1073741824 < n := of_decide_eq_false (p := 1073741824 < n) h3
    show Runs Tryd.prog 0 (.loop _) _ _
    refine loop_ruleR (N := env (lft Tryd.prog 0) 0 .std tbT [(124, appPure sRHalf)] []) rfl tbT_ok hC (fun c st K _ h => h) (by kernel_rfl) [] (X := LDr n i)
      (S := fun x => ⟨[.c (.int .i64 x.n), .c (.int .i64 x.i), .any, .any, .any, .c (.int .i64 x.d)] ++ List.replicate 29 .any, []⟩) (μ := fun x => x.n.toNat) ⟨n, i, 0, by omega, by omega, by omega, by omega, by omega⟩ (by kernel_rfl) [] ?_ ?_
    · refine ⟨rfl, by decide, ?_, ?_⟩ <;> repeat' (first | exact trivial | exact rfl | apply And.intro)
    rintro ⟨m, j, d, hd0, hd, hj0, hj1, hm⟩
    unfold sRHalf
    generalize hg0 : hf = g0
    generalize hg1 : deep = g1
    generalize hL : lft Tryd.prog _ = L
    try dsimp only
    generalize ho0 : @hf = zo0
    generalize hA : Arith.std = A
    cbv
    subst hA hg0 hg1 hL ho0
    replace hd : deep n i = d + deep m j := hd
    have hdn := deep_nonneg m j
    refine Ife.mk (fun h1 => ?_) (fun h1 => ?_)
    · replace h1 : 1 < m := of_decide_eq_true (p := (1 : Int) < m) h1
      have hh := hf_lt (n := m) (by omega) (by omega)
      have hin : 1 < m ∧ m ≤ 1073741824 ∧ 0 ≤ j ∧ j < m := ⟨h1, by omega, by omega, by omega⟩
      refine Need.mk trivial fun _ => ?_
      refine Ife.mk (fun h2 => ?_) (fun h2 => ?_)
      · replace h2 : j < hf m := of_decide_eq_true (p := j < hf m) h2
        refine Need.mk (by show fitStd .i64 (d + 1); unfold fitStd; omega) fun _ => ?_
        refine ⟨⟨hf m, j, d + 1, by omega, by rw [hd, deep_lo hin h2]; omega, by omega, by omega, by omega⟩, [], (by show (hf m).toNat < m.toNat; omega), ?_⟩
        refine ⟨rfl, by decide, ?_, ?_⟩ <;> repeat' (first | exact trivial | exact rfl | apply And.intro)
      · replace h2 : ¬ j < hf m := of_decide_eq_false (p := j < hf m) h2
        refine Need.mk (by show fitStd .i64 (m - hf m); unfold fitStd; omega) fun _ => Need.mk (by show fitStd .i64 (j - hf m); unfold fitStd; omega) fun _ => Need.mk (by show fitStd .i64 (d + 1); unfold fitStd; omega) fun _ => ?_
        refine ⟨⟨m - hf m, j - hf m, d + 1, by omega, by rw [hd, deep_hi hin h2]; omega, by omega, by omega, by omega⟩, [], (by show (m - hf m).toNat < m.toNat; omega), ?_⟩
        refine ⟨rfl, by decide, ?_, ?_⟩ <;> repeat' (first | exact trivial | exact rfl | apply And.intro)
    · replace h1 : ¬ 1 < m := of_decide_eq_false (p := (1 : Int) < m) h1
      show d = deep n i
      rw [hd, deep_out (n := m) (by omega)]
      omega




end Go.Proofs.YthomoliklfmnkaaDoor.Vx
end

section
/- Depths of trees (a seat with sums has them in its trees; old/XVDp.plainseat is for seats without sums). -/
end

section
/- Trees: the document's ways and folds, by the walker. -/
namespace Go.Proofs.YthomoliklfmnkaaDoor.Vx
open Go.RowKit Sha
set_option linter.unusedVariables false
set_option linter.unusedSimpArgs false





end Go.Proofs.YthomoliklfmnkaaDoor.Vx
end
