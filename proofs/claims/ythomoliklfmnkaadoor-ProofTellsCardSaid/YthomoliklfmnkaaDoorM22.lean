/- Lists of sums compared. -/
import Derived.Test.YthomoliklfmnkaaDoorM21
section
namespace Go.Proofs.YthomoliklfmnkaaDoor.Vx
open Go.RowKit Sha
set_option linter.unusedVariables false
set_option linter.unusedSimpArgs false


end Go.Proofs.YthomoliklfmnkaaDoor.Vx
end

section
/- Trees: a leaf and its way come to the top: plain laws. -/
namespace Go.Proofs.YthomoliklfmnkaaDoor.Vx
open Go.RowKit Sha
set_option linter.unusedVariables false
set_option linter.unusedSimpArgs false
theorem way_one (h : Nat → Nat → Int) (lo : Nat) (i : Int) (n : Nat) (hn : ¬ (1 < n ∧ n ≤ 1073741824 ∧ 0 ≤ i ∧ i < (n : Int))) : wayR h lo n i = [] := by rw [wayR, dif_neg hn]
theorem way_lo (h : Nat → Nat → Int) (lo : Nat) (i : Int) (n : Nat) (hc : 1 < n ∧ n ≤ 1073741824 ∧ 0 ≤ i ∧ i < (n : Int)) (hi : i < hf n) : wayR h lo n i = wayR h lo (hf n).toNat i ++ [topR h (lo + (hf n).toNat) (n - (hf n).toNat)] := by rw [wayR, dif_pos hc, if_pos hi]
theorem way_hi (h : Nat → Nat → Int) (lo : Nat) (i : Int) (n : Nat) (hc : 1 < n ∧ n ≤ 1073741824 ∧ 0 ≤ i ∧ i < (n : Int)) (hi : ¬ i < hf n) : wayR h lo n i = wayR h (lo + (hf n).toNat) (n - (hf n).toNat) (i - hf n) ++ [topR h lo (hf n).toNat] := by rw [wayR, dif_pos hc, if_neg hi]
theorem way_len (h : Nat → Nat → Int) : ∀ (n lo : Nat) (i : Int), n ≤ 1073741824 → ((wayR h lo n i).length : Int) = deep n i := by
  intro n
  induction n using Nat.strongRecOn with
  | ind n ih =>
    intro lo i hn
    by_cases hc : 1 < n ∧ n ≤ 1073741824 ∧ 0 ≤ i ∧ i < (n : Int)
    · have hh := hf_lt (n := (n : Int)) (by omega) (by omega)
      have hc' : 1 < (n : Int) ∧ (n : Int) ≤ 1073741824 ∧ 0 ≤ i ∧ i < (n : Int) := by omega
      by_cases hi : i < hf n
      · have e := ih (hf n).toNat (by omega) lo i (by omega)
        rw [show (((hf (n : Int)).toNat : Nat) : Int) = hf n by omega] at e
        rw [way_lo h lo i n hc hi, deep_lo hc' hi, List.length_append, List.length_singleton, ← e]
        omega
      · have e := ih (n - (hf n).toNat) (by omega) (lo + (hf n).toNat) (i - hf n) (by omega)
        rw [show ((n - (hf (n : Int)).toNat : Nat) : Int) = (n : Int) - hf n by omega] at e
        rw [way_hi h lo i n hc hi, deep_hi hc' hi, List.length_append, List.length_singleton, ← e]
        omega
    · rw [way_one h lo i n hc, deep_out (by omega)]
      rfl
end Go.Proofs.YthomoliklfmnkaaDoor.Vx
end

section
/- The law TreeFolds, by the walker. -/
namespace Go.Proofs.YthomoliklfmnkaaDoor.Vx
open Go.RowKit Sha
set_option linter.unusedVariables false
set_option linter.unusedSimpArgs false
theorem way_hashes {h : Nat → Nat → Int} {m : Nat} {i : Int} (hr : ∀ j, 0 ≤ j → j < m → ∀ k, 0 ≤ h j k ∧ h j k < 256) : HashesAt (wayR h 0 m i).length (hashesG (wayR h 0 m i)) := by
  have key : ∀ (n lo : Nat) (i : Int), lo + n ≤ m → ∀ f ∈ wayR h lo n i, ∀ k, 0 ≤ f k ∧ f k < 256 := by
    intro n
    induction n using Nat.strongRecOn with
    | ind n ih =>
      intro lo i hm f hf_
      by_cases hc : 1 < n ∧ n ≤ 1073741824 ∧ 0 ≤ i ∧ i < (n : Int)
      · have hh := hf_lt (n := (n : Int)) (by omega) (by omega)
        by_cases hi : i < hf n
        · rw [way_lo h lo i n hc hi] at hf_
          rcases List.mem_append.1 hf_ with h1 | h1
          · exact ih (hf n).toNat (by omega) lo i (by omega) f h1
          · rw [List.mem_singleton.1 h1]
            exact topR_range _ _ fun j a b => hr j (by omega) (by omega)
        · rw [way_hi h lo i n hc hi] at hf_
          rcases List.mem_append.1 hf_ with h1 | h1
          · exact ih (n - (hf n).toNat) (by omega) (lo + (hf n).toNat) (i - hf n) (by omega) f h1
          · rw [List.mem_singleton.1 h1]
            exact topR_range _ _ fun j a b => hr j (by omega) (by omega)
      · rw [way_one h lo i n hc] at hf_
        cases hf_
  intro j hj
  refine ⟨_, rfl, ?_⟩
  rw [List.getD_eq_getElem?_getD, List.getElem?_eq_getElem hj]
  exact key m 0 i (by omega) _ (List.getElem_mem hj)


end Go.Proofs.YthomoliklfmnkaaDoor.Vx
namespace Go.Proofs.YthomoliklfmnkaaDoor
open Go.RowKit
set_option linter.unusedVariables false
end Go.Proofs.YthomoliklfmnkaaDoor
end

section
/- Trees: leaves; the document's nodes, tops, depths, by the walker. -/
namespace Go.Proofs.YthomoliklfmnkaaDoor.Vx
open Go.RowKit Sha
set_option linter.unusedVariables false
set_option linter.unusedSimpArgs false
/-- The sum of a key and its value. -/
def leafF (k v : List UInt8) : Nat → Int := sumI ([0] ++ be8 k.length ++ k ++ v)
def leafPre (gg sz n : Nat) (get : Nat → List CV) (k v : List UInt8) : Prop := KsAt gg sz n get ∧ k.length ≤ 1000000000 ∧ v.length ≤ 1000000000
def rleafPre (k v : List UInt8) : Prop := k.length ≤ 1000000000 ∧ v.length ≤ 1000000000
def rnodePre (xs ys : List CV) : Prop := HashC xs ∧ HashC ys
def sLeaf : SpecF
  | [.c (.str k), .c (.str v)], [.glob gg sz n get] => some (leafPre gg sz n get k v, .agg (hashC (leafF k v)), [.dead])
  | _, _ => none

set_option maxRecDepth 100000 in
set_option maxHeartbeats 4000000 in
theorem leafP : Fn Tryd.prog 123 [0] [] sLeaf := by
  have hC : CtsOk Tryd.prog [(119, appPure sEight), (118, appFn [0] [(9, 1)] sSum)] := CtsOk.cons (Pure.ct leightP) <| CtsOk.cons (Fn.ct sumP) <| CtsOk.nil _
  refine Fn.of (E := tbT) [0] 0 [] tbT_ok hC (by kernel_rfl) Tryd.func123 rfl rfl rfl (by kernel_rfl) (by kernel_rfl) 1 5 1 ?_ ?_
  · intro args h pre r h' hs
    unfold sLeaf at hs
    split at hs
    · cases hs; exact ⟨rfl, rfl, Nat.le_of_ble_eq_true rfl⟩
    · cases hs
  · intro args h pre r h' hs hp
    unfold sLeaf at hs
    split at hs
    rotate_left
    · cases hs
    rename_i k v gg sz n get
    cases hs
    obtain ⟨hK, hk, hv⟩ := hp
    refine ⟨_, hK.same, ?_⟩
    clear hK
    unfold sSum sEight
    generalize hg0 : (List.length : List UInt8 → Nat) = g0
    generalize ho0 : @sumPre = zo0, ho1 : @joinG = zo1, ho2 : @cutC = zo2, ho3 : @sumI = zo3, ho4 : @be8 = zo4, ho5 : @eightPre = zo5, ho6 : @leafF = zo6, ho7 : @leafPre = zo7
    generalize hA : Arith.std = A
    cbv
    subst hA hg0 ho0 ho1 ho2 ho3 ho4 ho5 ho6 ho7
    have j1 := (strs_cut [[0], be8 k.length, k, v]).2
    have l8 : (be8 k.length).length = 8 := rfl
    have f1 : [[0], be8 k.length, k, v].flatten = [0] ++ be8 k.length ++ k ++ v := by simp
    have p1 := sumPre_cut [[0], be8 k.length, k, v] (by rw [f1, List.length_append, List.length_append, List.length_append, l8]; show 1 + 8 + k.length + v.length ≤ _; omega) (by show 4 ≤ 1000; decide)
    refine Need.mk (show eightPre (k.length : Int) from ⟨by omega, by omega⟩) fun _ => Need.mk p1 fun _ => ?_
    show ∃ σ, LeftF _ _ _ σ (.agg (hashC (sumI (joinG 4 (cutC 1 ([[0], be8 k.length, k, v].map CV.str) 0))))) _ (.agg (hashC (leafF k v))) _
    rw [show joinG 4 (cutC 1 ([[0], be8 k.length, k, v].map CV.str) 0) = [0] ++ be8 k.length ++ k ++ v from j1.trans f1]
    exact ⟨[0], ⟨rfl, by repeat' (first | exact trivial | exact rfl | apply And.intro), by decide, rfl, by repeat' (first | exact trivial | exact rfl | apply And.intro)⟩⟩

def sRLeaf : List SV → Option (Prop × SV)
  | [.c (.str k), .c (.str v)] => some (rleafPre k v, .agg (hashC (leafF k v)))
  | _ => none

set_option maxRecDepth 100000 in
set_option maxHeartbeats 4000000 in
theorem rleafP : Pure Tryd.prog 94 sRLeaf := by
  have hC : CtsOk Tryd.prog [(93, appPure sREight), (92, appPure sRSum)] := CtsOk.cons (Pure.ct eightP) <| CtsOk.cons (Pure.ct rsumP) <| CtsOk.nil _
  refine Pure.of (E := tbT) (C := [(93, appPure sREight), (92, appPure sRSum)]) [] 0 [] tbT_ok hC (by kernel_rfl) Tryd.func94 rfl rfl rfl (by kernel_rfl) (by kernel_rfl) ?_ ?_
  · intro args pre r h
    unfold sRLeaf at h
    split at h
    · cases h; rfl
    · cases h
  · intro args pre r h hp
    unfold sRLeaf at h
    split at h
    rotate_left
    · cases h
    rename_i k v
    cases h
    obtain ⟨hk, hv⟩ := hp
    unfold sREight sRSum
    generalize hg0 : (List.length : List UInt8 → Nat) = g0
    generalize ho0 : @sumI = zo0, ho1 : @be8 = zo1, ho2 : @eightPre = zo2, ho3 : @rsumPre = zo3, ho4 : @leafF = zo4, ho5 : @rleafPre = zo5
    generalize hA : Arith.std = A
    cbv
    subst hA hg0 ho0 ho1 ho2 ho3 ho4 ho5
    have l8 : (be8 k.length).length = 8 := rfl
    have f0 : ([0] ++ be8 k.length).length = 9 := rfl
    have f1 : ([0] ++ be8 k.length ++ k).length = 9 + k.length := by rw [List.length_append, f0]
    have f2 : ([0] ++ be8 k.length ++ k ++ v).length = 9 + k.length + v.length := by rw [List.length_append, f1]
    refine Need.mk (show eightPre (k.length : Int) from ⟨by omega, by omega⟩) fun _ => Need.mk (by show (([(0 : UInt8)].length : Nat) : Int) + ((be8 k.length).length : Nat) ≤ 9223372036854775807; rw [l8]; decide) fun _ => Need.mk (by show ((([0] ++ be8 k.length).length : Nat) : Int) + (k.length : Nat) ≤ 9223372036854775807; rw [f0]; omega) fun _ => Need.mk (by show ((([0] ++ be8 k.length ++ k).length : Nat) : Int) + (v.length : Nat) ≤ 9223372036854775807; rw [f1]; omega) fun _ => Need.mk (by show ([0] ++ be8 k.length ++ k ++ v).length ≤ 140737488350000; rw [f2]; omega) fun _ => ?_
    repeat' (first | exact trivial | exact rfl | apply And.intro)

def sRNode : List SV → Option (Prop × SV)
  | [.agg xs, .agg ys] => some (rnodePre xs ys, .agg (hashC (nodeF (u8s xs) (u8s ys))))
  | _ => none

set_option maxRecDepth 100000 in
set_option maxHeartbeats 4000000 in
theorem rnodeP : Pure Tryd.prog 125 sRNode := by
  have hC : CtsOk Tryd.prog [(92, appPure sRSum), (96, appPure sText)] := CtsOk.cons (Pure.ct rsumP) <| CtsOk.cons (Pure.ct rtextP) <| CtsOk.nil _
  refine Pure.of (E := tbT) (C := [(92, appPure sRSum), (96, appPure sText)]) [] 0 [(1, [(2002, false), (0, true), (3, true), (1, false), (2, true), (4, false), (5, true), (6, false), (7, false)])] tbT_ok hC (by kernel_rfl) Tryd.func125 rfl rfl rfl (by kernel_rfl) (by kernel_rfl) ?_ ?_
  · intro args pre r h
    unfold sRNode at h
    split at h
    · cases h; rfl
    · cases h
  · intro args pre r h hp
    unfold sRNode at h
    split at h
    rotate_left
    · cases h
    rename_i xs ys
    cases h
    obtain ⟨⟨f, rfl, hf⟩, ⟨g, rfl, hg⟩⟩ := hp
    unfold hashC
    unfold sRSum sText
    generalize hg0 : (List.length : List UInt8 → Nat) = g0
    generalize ho0 : @hf = zo0, ho1 : @sumI = zo1, ho2 : @HashC = zo2, ho3 : @u8s = zo3, ho4 : @nodeF = zo4, ho5 : @rsumPre = zo5, ho6 : @rnodePre = zo6
    generalize hA : Arith.std = A
    cbv
    subst hA hg0 ho0 ho1 ho2 ho3 ho4 ho5 ho6
    refine Need.mk ⟨f, rfl, hf⟩ fun _ => Need.mk (by show (1 : Int) + 32 ≤ 9223372036854775807; decide) fun _ => Need.mk ⟨g, rfl, hg⟩ fun _ => Need.mk (by show (33 : Int) + 32 ≤ 9223372036854775807; decide) fun _ => Need.mk (by show 1 + 32 + 32 ≤ 140737488350000; decide) fun _ => ?_
    repeat' (first | exact trivial | exact rfl | apply And.intro)

structure LDr (n0 i0 : Int) where
  n : Int
  i : Int
  d : Int
  h0 : 0 ≤ d
  h1 : deep n0 i0 = d + deep n i
  h2 : 0 ≤ i
  h3 : i < n
  h4 : n ≤ 1073741824
def sRDeep : List SV → Option (Prop × SV)
  | [.c (.int .i64 n), .c (.int .i64 i)] => some (True, .c (.int .i64 (deep n i)))
  | _ => none

set_option maxRecDepth 100000 in
set_option maxHeartbeats 2000000 in
theorem rdeepP : Pure Tryd.prog 105 sRDeep := by
  have hC : CtsOk Tryd.prog [(124, appPure sRHalf)] := CtsOk.cons (Pure.ct rhalfP) <| CtsOk.nil _
  refine Pure.of (E := tbT) (C := [(124, appPure sRHalf)]) [] 0 [] tbT_ok hC (by kernel_rfl) Tryd.func105 rfl rfl rfl (by kernel_rfl) (by kernel_rfl) ?_ ?_
  · intro args pre r h
    unfold sRDeep at h
    split at h
    · cases h; rfl
    · cases h
  · intro args pre r h hp
    unfold sRDeep at h
    split at h
    rotate_left
    · cases h
    rename_i n i
    cases h
    have hle : deep n i ≤ 30 := deep_30 n i
    unfold sRHalf
    generalize hg0 : hf = g0
    generalize hg1 : deep = g1
    generalize hL : lft Tryd.prog _ = L
    generalize ho0 : @hf = zo0
    generalize hA : Arith.std = A
    cbv
    subst hA hg0 hg1 hL ho0
    refine Ife.mk (fun h => ?_) (fun h1 => ?_)
    · have h : i < 0 := of_decide_eq_true (p := i < 0) h
      exact (deep_out (by omega)).symm
    replace h1 : ¬ i < 0 := of_decide_eq_false (p := i < 0) h1
    refine Ife.mk (fun h => ?_) (fun h2 => ?_)
    · have h : n ≤ i := of_decide_eq_true (p := n ≤ i) h
      exact (deep_out (by omega)).symm
    replace h2 : ¬ n ≤ i := of_decide_eq_false (p := n ≤ i) h2
    refine Ife.mk (fun h => ?_) (fun h3 => ?_)
    · have h : 1073741824 < n := of_decide_eq_true (p := 1073741824 < n) h
      exact (deep_out (by omega)).symm
    replace h3 : ¬ 1073741824 < n := of_decide_eq_false (p := 1073741824 < n) h3
    show Runs Tryd.prog 0 (.loop _) _ _
    refine loop_ruleR (N := env (lft Tryd.prog 0) 0 .std tbT [(124, appPure sRHalf)] []) rfl tbT_ok hC (fun c st K _ h => h) (by kernel_rfl) [] (X := LDr n i)
      (S := fun x => ⟨[.c (.int .i64 x.n), .c (.int .i64 x.i), .any, .any, .any, .c (.int .i64 x.d)] ++ List.replicate 29 .any, []⟩) (μ := fun x => x.n.toNat) ⟨n, i, 0, by omega, by omega, by omega, by omega, by omega⟩ (by kernel_rfl) [] ?_ ?_
    · refine ⟨rfl, by decide, ?_, ?_⟩ <;> repeat' (first | exact trivial | exact rfl | apply And.intro)
    rintro ⟨m, j, d, hd0, hd, hj0, hj1, hm⟩
    unfold sRHalf
    generalize hg0 : hf = g0
    generalize hg1 : deep = g1
    generalize hL : lft Tryd.prog _ = L
    try dsimp only
    generalize ho0 : @hf = zo0
    generalize hA : Arith.std = A
    cbv
    subst hA hg0 hg1 hL ho0
    replace hd : deep n i = d + deep m j := hd
    have hdn := deep_nonneg m j
    refine Ife.mk (fun h1 => ?_) (fun h1 => ?_)
    · replace h1 : 1 < m := of_decide_eq_true (p := (1 : Int) < m) h1
      have hh := hf_lt (n := m) (by omega) (by omega)
      have hin : 1 < m ∧ m ≤ 1073741824 ∧ 0 ≤ j ∧ j < m := ⟨h1, by omega, by omega, by omega⟩
      refine Need.mk trivial fun _ => ?_
      refine Ife.mk (fun h2 => ?_) (fun h2 => ?_)
      · replace h2 : j < hf m := of_decide_eq_true (p := j < hf m) h2
        refine Need.mk (by show fitStd .i64 (d + 1); unfold fitStd; omega) fun _ => ?_
        refine ⟨⟨hf m, j, d + 1, by omega, by rw [hd, deep_lo hin h2]; omega, by omega, by omega, by omega⟩, [], (by show (hf m).toNat < m.toNat; omega), ?_⟩
        refine ⟨rfl, by decide, ?_, ?_⟩ <;> repeat' (first | exact trivial | exact rfl | apply And.intro)
      · replace h2 : ¬ j < hf m := of_decide_eq_false (p := j < hf m) h2
        refine Need.mk (by show fitStd .i64 (m - hf m); unfold fitStd; omega) fun _ => Need.mk (by show fitStd .i64 (j - hf m); unfold fitStd; omega) fun _ => Need.mk (by show fitStd .i64 (d + 1); unfold fitStd; omega) fun _ => ?_
        refine ⟨⟨m - hf m, j - hf m, d + 1, by omega, by rw [hd, deep_hi hin h2]; omega, by omega, by omega, by omega⟩, [], (by show (m - hf m).toNat < m.toNat; omega), ?_⟩
        refine ⟨rfl, by decide, ?_, ?_⟩ <;> repeat' (first | exact trivial | exact rfl | apply And.intro)
    · replace h1 : ¬ 1 < m := of_decide_eq_false (p := (1 : Int) < m) h1
      show d = deep n i
      rw [hd, deep_out (n := m) (by omega)]
      omega

def rtopPre (N : Nat) (ty one m : Nat) (gets : Nat → List CV) : Prop := ty = 24 ∧ one = 32 ∧ HashesAt m gets ∧ m < N ∧ m ≤ 1073741824
def sRTopN (N : Nat) : SpecF
  | [.c (.row 0)], [.elems ty one m gets] => some (rtopPre N ty one m gets, .agg (hashC (topG gets m)), [.dead])
  | _, _ => none

set_option maxRecDepth 100000 in
set_option maxHeartbeats 8000000 in
theorem rtopStep (N : Nat) (ih : Fn Tryd.prog 81 [] [(24, 32)] (sRTopN N)) : Fn Tryd.prog 81 [] [(24, 32)] (sRTopN (N + 1)) := by
  have hC : CtsOk Tryd.prog [(124, appPure sRHalf), (81, appFn [] [(24, 32)] (sRTopN N)), (125, appPure sRNode)] := CtsOk.cons (Pure.ct rhalfP) <| CtsOk.cons (Fn.ct ih) <| CtsOk.cons (Pure.ct rnodeP) <| CtsOk.nil _
  refine Fn.of (E := tbH) [] 0 [(6, [(2001, false), (0, true), (1, true), (2, true), (4, true), (5, true), (6, true), (3, false), (7, false), (8, false), (9, false)])] tbH_ok hC (by kernel_rfl) Tryd.func81 rfl rfl rfl (by kernel_rfl) (by kernel_rfl) 1 5 1 ?_ ?_
  · intro args h pre r h' hs
    unfold sRTopN at hs
    split at hs
    · cases hs; exact ⟨rfl, rfl, Nat.le_of_ble_eq_true rfl⟩
    · cases hs
  · intro args h pre r h' hs hp
    unfold sRTopN at hs
    split at hs
    rotate_left
    · cases hs
    rename_i ty one m gets
    cases hs
    obtain ⟨rfl, rfl, hst, hlt, hm⟩ := hp
    refine ⟨[.elems 24 32 m (fun i => hashC (hOf (gets i)))], ⟨hst.same.1, trivial⟩, ?_⟩
    unfold sRTopN sRNode sRHalf
    generalize ho0 : @hf = zo0, ho1 : @hOf = zo1, ho2 : @topG = zo2, ho3 : @cutC = zo3, ho4 : @HashC = zo4, ho5 : @u8s = zo5, ho6 : @nodeF = zo6, ho7 : @rnodePre = zo7, ho8 : @rtopPre = zo8
    generalize hA : Arith.std = A
    cbv
    subst hA ho0 ho1 ho2 ho3 ho4 ho5 ho6 ho7 ho8
    refine Ife.mk (fun h => ?_) (fun h => ?_)
    · have h : (m : Int) = 0 := of_decide_eq_true (p := (m : Int) = 0) h
      obtain rfl : m = 0 := by omega
      rw [topG_zero]
      exact ⟨[0], ⟨rfl, by repeat' (first | exact trivial | exact rfl | apply And.intro), by decide, rfl, by repeat' (first | exact trivial | exact rfl | apply And.intro)⟩⟩
    have h0 : ¬ (m : Int) = 0 := of_decide_eq_false (p := (m : Int) = 0) h
    refine Ife.mk (fun h => ?_) (fun h => ?_)
    · have h : (m : Int) = 1 := of_decide_eq_true (p := (m : Int) = 1) h
      obtain rfl : m = 1 := by omega
      rw [topG_one]
      refine Need.mk (by show (0 : Int) ≤ 0 ∧ (0 : Int) < ((1 : Nat) : Int); decide) fun _ => Need.mk (by show (0 : Int).toNat < 1; decide) fun _ => ?_
      exact ⟨[0], ⟨rfl, by repeat' (first | exact trivial | exact rfl | apply And.intro), by decide, rfl, by repeat' (first | exact trivial | exact rfl | apply And.intro)⟩⟩
    have h1 : ¬ (m : Int) = 1 := of_decide_eq_false (p := (m : Int) = 1) h
    have hh := hf_lt (n := (m : Int)) (by omega) (by omega)
    have e1 : topG (fun i => hashC (hOf (gets (0 + i)))) (hf (m : Int) - 0).toNat = topR (fun i => hOf (gets i)) 0 (hf (m : Int)).toNat := by
      rw [show (hf (m : Int) - 0).toNat = (hf (m : Int)).toNat by omega]
      exact topG_cut hst 0 _ (by omega)
    have e2 : topG (fun i => hashC (hOf (gets ((hf (m : Int)).toNat + i)))) ((m : Int) - hf (m : Int)).toNat = topR (fun i => hOf (gets i)) (hf (m : Int)).toNat (m - (hf (m : Int)).toNat) := by
      rw [show ((m : Int) - hf (m : Int)).toNat = m - (hf (m : Int)).toNat by omega]
      exact topG_cut hst _ _ (by omega)
    refine Need.mk trivial fun _ => Need.mk (by show (0 : Int) ≤ 0 ∧ 0 ≤ hf (m : Int) ∧ hf (m : Int) ≤ (m : Int); omega) fun _ => Need.mk (by show 0 ≤ hf (m : Int) ∧ hf (m : Int) ≤ (m : Int) ∧ (m : Int) ≤ (m : Int); omega) fun _ => ?_
    refine Need.mk ⟨rfl, rfl, hst.cut 0 (hf (m : Int) - 0).toNat (by omega), (by show (hf (m : Int) - 0).toNat < N; omega), (by show (hf (m : Int) - 0).toNat ≤ 1073741824; omega)⟩ fun _ => ?_
    refine Need.mk ⟨rfl, rfl, hst.cut (hf (m : Int)).toNat ((m : Int) - hf (m : Int)).toNat (by omega), (by show ((m : Int) - hf (m : Int)).toNat < N; omega), (by show ((m : Int) - hf (m : Int)).toNat ≤ 1073741824; omega)⟩ fun _ => ?_
    refine Need.mk ⟨(show HashC (hashC (topG (fun i => hashC (hOf (gets (0 + i)))) (hf (m : Int) - 0).toNat)) from by rw [e1]; exact topG_hash hst 0 _ (by omega)), (show HashC (hashC (topG (fun i => hashC (hOf (gets ((hf (m : Int)).toNat + i)))) ((m : Int) - hf (m : Int)).toNat)) from by rw [e2]; exact topG_hash hst _ _ (by omega))⟩ fun _ => ?_
    show ∃ σ, LeftF _ _ _ σ (.agg (hashC (nodeF (u8s (hashC (topG (fun i => hashC (hOf (gets (0 + i)))) (hf (m : Int) - 0).toNat))) (u8s (hashC (topG (fun i => hashC (hOf (gets ((hf (m : Int)).toNat + i)))) ((m : Int) - hf (m : Int)).toNat)))))) _ (.agg (hashC (topG gets m))) _
    rw [e1, e2, topG_two (by omega) hm, u8s_hash, u8s_hash]
    exact ⟨[0], ⟨rfl, by repeat' (first | exact trivial | exact rfl | apply And.intro), by decide, rfl, by repeat' (first | exact trivial | exact rfl | apply And.intro)⟩⟩

theorem rtopAll (N : Nat) : Fn Tryd.prog 81 [] [(24, 32)] (sRTopN N) := by
  induction N with
  | zero =>
    refine Fn.plain (by kernel_rfl) (fun args h pre res h' hs => ?_) fun args h pre res h' hs hp ρ W us rel hus => ?_
    · unfold sRTopN at hs
      split at hs
      · cases hs; exact ⟨rfl, Nat.le_refl _⟩
      · cases hs
    · unfold sRTopN at hs
      split at hs
      · cases hs; exact absurd hp.2.2.2.1 (Nat.not_lt_zero _)
      · cases hs
  | succ N ih => exact rtopStep N ih
def rtopPre0 (ty one m : Nat) (gets : Nat → List CV) : Prop := ty = 24 ∧ one = 32 ∧ HashesAt m gets ∧ m ≤ 1073741824
def sRTop : SpecF
  | [.c (.row 0)], [.elems ty one m gets] => some (rtopPre0 ty one m gets, .agg (hashC (topG gets m)), [.dead])
  | _, _ => none

theorem rtopP : Fn Tryd.prog 81 [] [(24, 32)] sRTop := by
  refine Fn.plain (by kernel_rfl) (fun args h pre res h' hs => ?_) fun args h pre res h' hs hp ρ W us rel hus => ?_
  · unfold sRTop at hs
    split at hs
    · cases hs; exact ⟨rfl, Nat.le_refl _⟩
    · cases hs
  · unfold sRTop at hs
    split at hs
    rotate_left
    · cases hs
    rename_i ty one m gets
    cases hs
    obtain ⟨h1, h2, h3, h4⟩ := hp
    exact (rtopAll (m + 1)).run _ _ _ _ _ rfl ⟨h1, h2, h3, Nat.lt_succ_self m, h4⟩ ρ W us rel hus
end Go.Proofs.YthomoliklfmnkaaDoor.Vx
end

section
/- Depths of trees (a seat with sums has them in its trees; old/XVDp.plainseat is for seats without sums). -/
end

section
/- Trees: the document's ways and folds, by the walker. -/
namespace Go.Proofs.YthomoliklfmnkaaDoor.Vx
open Go.RowKit Sha
set_option linter.unusedVariables false
set_option linter.unusedSimpArgs false
def rwayPre (N : Nat) (ty one m : Nat) (gets : Nat → List CV) : Prop := ty = 24 ∧ one = 32 ∧ HashesAt m gets ∧ m < N ∧ m ≤ 1000000
def sRWayN (N : Nat) : SpecF
  | [.c (.row 0), .c (.int .i64 i)], [.elems ty one m gets] => some (rwayPre N ty one m gets, .c (.row 1), [.dead, .row 24 32 (wayG gets m i).length (hashesG (wayG gets m i))])
  | _, _ => none

set_option maxRecDepth 100000 in
set_option maxHeartbeats 8000000 in
theorem rwayStep (N : Nat) (ih : Fn Tryd.prog 126 [] [(24, 32)] (sRWayN N)) : Fn Tryd.prog 126 [] [(24, 32)] (sRWayN (N + 1)) := by
  have hC : CtsOk Tryd.prog [(124, appPure sRHalf), (126, appFn [] [(24, 32)] (sRWayN N)), (81, appFn [] [(24, 32)] sRTop)] := CtsOk.cons (Pure.ct rhalfP) <| CtsOk.cons (Fn.ct ih) <| CtsOk.cons (Fn.ct rtopP) <| CtsOk.nil _
  refine Fn.of (E := tbH) [] 0 [(5, [(2001, false), (2002, false), (2003, false), (2004, false), (0, true), (1, true), (2, true), (3, true), (5, true), (6, true), (7, true), (4, false), (8, false), (9, false), (10, false), (11, true)]), (6, [(2001, false), (2002, false), (2003, false), (2004, false), (0, true), (1, true), (2, true), (3, true), (4, true), (5, true), (7, true), (8, true), (9, true), (6, false), (10, false), (11, false), (12, false), (13, true)])] tbH_ok hC (by kernel_rfl) Tryd.func126 rfl rfl rfl (by kernel_rfl) (by kernel_rfl) 1 24 32 ?_ ?_
  · intro args h pre r h' hs
    unfold sRWayN at hs
    split at hs
    · cases hs; exact ⟨rfl, rfl, Nat.le_of_ble_eq_true rfl⟩
    · cases hs
  · intro args h pre r h' hs hp
    unfold sRWayN at hs
    split at hs
    rotate_left
    · cases hs
    rename_i i ty one m gets
    cases hs
    obtain ⟨rfl, rfl, hst, hlt, hm⟩ := hp
    refine ⟨[.elems 24 32 m (fun i => hashC (hOf (gets i)))], ⟨hst.same.1, trivial⟩, ?_⟩
    unfold sRWayN sRTop sRHalf
    generalize hg0 : (List.length : List (Nat → Int) → Nat) = g0
    generalize ho0 : @hf = zo0, ho1 : @hOf = zo1, ho2 : @topG = zo2, ho3 : @HashesAt = zo3, ho4 : @cutC = zo4, ho5 : @nodeF = zo5, ho6 : @wayG = zo6, ho7 : @hashesG = zo7, ho8 : @rtopPre0 = zo8, ho9 : @inN = zo9, ho10 : @rwayPre = zo10
    generalize hA : Arith.std = A
    cbv
    subst hA hg0 ho0 ho1 ho2 ho3 ho4 ho5 ho6 ho7 ho8 ho9 ho10
    refine Ife.mk (fun h => ?_) (fun h => ?_)
    · have h : i < 0 := of_decide_eq_true (p := i < 0) h
      rw [wayG_out (by omega)]
      exact ⟨[0, 1], ⟨rfl, rfl, (by show List.Nodup [1]; decide), rfl, by repeat' (first | exact trivial | exact rfl | apply And.intro | (intro i hi; rfl) | (intro i hi; exact absurd hi (Nat.not_lt_zero _)))⟩⟩
    have h0 : ¬ i < 0 := of_decide_eq_false (p := i < 0) h
    refine Ife.mk (fun h => ?_) (fun h => ?_)
    · have h : (m : Int) ≤ i := of_decide_eq_true (p := (m : Int) ≤ i) h
      rw [wayG_out (by omega)]
      exact ⟨[0, 1], ⟨rfl, rfl, (by show List.Nodup [1]; decide), rfl, by repeat' (first | exact trivial | exact rfl | apply And.intro | (intro i hi; rfl) | (intro i hi; exact absurd hi (Nat.not_lt_zero _)))⟩⟩
    have h1 : ¬ (m : Int) ≤ i := of_decide_eq_false (p := (m : Int) ≤ i) h
    refine Ife.mk (fun h => ?_) (fun h => ?_)
    · have h : (m : Int) < 2 := of_decide_eq_true (p := (m : Int) < 2) h
      rw [wayG_out (by omega)]
      exact ⟨[0, 1], ⟨rfl, rfl, (by show List.Nodup [1]; decide), rfl, by repeat' (first | exact trivial | exact rfl | apply And.intro | (intro i hi; rfl) | (intro i hi; exact absurd hi (Nat.not_lt_zero _)))⟩⟩
    have h2 : ¬ (m : Int) < 2 := of_decide_eq_false (p := (m : Int) < 2) h
    have hh := hf_lt (n := (m : Int)) (by omega) (by omega)
    have hc : 1 < m ∧ m ≤ 1073741824 ∧ 0 ≤ i ∧ i < (m : Int) := by omega
    have k1 : (hf (m : Int) - 0).toNat = (hf (m : Int)).toNat := by omega
    have k2 : ((m : Int) - hf (m : Int)).toNat = m - (hf (m : Int)).toNat := by omega
    have e1 : topG (fun i => hashC (hOf (gets (0 + i)))) (hf (m : Int) - 0).toNat = topR (fun i => hOf (gets i)) 0 (hf (m : Int)).toNat := by rw [k1]; exact topG_cut hst 0 _ (by omega)
    have e2 : topG (fun i => hashC (hOf (gets ((hf (m : Int)).toNat + i)))) ((m : Int) - hf (m : Int)).toNat = topR (fun i => hOf (gets i)) (hf (m : Int)).toNat (m - (hf (m : Int)).toNat) := by rw [k2]; exact topG_cut hst _ _ (by omega)
    have f1 : wayG (fun i => hashC (hOf (gets (0 + i)))) (hf (m : Int) - 0).toNat i = wayR (fun i => hOf (gets i)) 0 (hf (m : Int)).toNat i := by rw [k1]; exact wayG_cut hst 0 _ i (by omega)
    have f2 : wayG (fun i => hashC (hOf (gets ((hf (m : Int)).toNat + i)))) ((m : Int) - hf (m : Int)).toNat (i - hf (m : Int)) = wayR (fun i => hOf (gets i)) (hf (m : Int)).toNat (m - (hf (m : Int)).toNat) (i - hf (m : Int)) := by rw [k2]; exact wayG_cut hst _ _ _ (by omega)
    have c1 : HashesAt (hf (m : Int) - 0).toNat (fun i => hashC (hOf (gets (0 + i)))) := hst.cut 0 _ (by omega)
    have c2 : HashesAt ((m : Int) - hf (m : Int)).toNat (fun i => hashC (hOf (gets ((hf (m : Int)).toNat + i)))) := hst.cut _ _ (by omega)
    have s1 : (0 : Int) ≤ 0 ∧ 0 ≤ hf (m : Int) ∧ hf (m : Int) ≤ (m : Int) := by omega
    have s2 : 0 ≤ hf (m : Int) ∧ hf (m : Int) ≤ (m : Int) ∧ (m : Int) ≤ (m : Int) := by omega
    have z1 := wayR_len (fun i => hOf (gets i)) (hf (m : Int)).toNat 0 i
    have z2 := wayR_len (fun i => hOf (gets i)) (m - (hf (m : Int)).toNat) (hf (m : Int)).toNat (i - hf (m : Int))
    refine Need.mk trivial fun _ => ?_
    refine Ife.mk (fun h => ?_) (fun h => ?_)
    · have h : i < hf (m : Int) := of_decide_eq_true (p := i < hf (m : Int)) h
      refine Need.mk s1 fun _ => Need.mk s2 fun _ => Need.mk ⟨rfl, rfl, c1, (by show (hf (m : Int) - 0).toNat < N; omega), (by show (hf (m : Int) - 0).toNat ≤ 1000000; omega)⟩ fun _ => Need.mk ⟨rfl, rfl, c2, (by show ((m : Int) - hf (m : Int)).toNat ≤ 1073741824; omega)⟩ fun _ => ?_
      refine Need.mk (by show (wayG (fun i => hashC (hOf (gets (0 + i)))) (hf (m : Int) - 0).toNat i).length + 1 ≤ maxLen ∧ ((wayG (fun i => hashC (hOf (gets (0 + i)))) (hf (m : Int) - 0).toNat i).length + 1) * 32 ≤ 140737488355328; rw [f1]; unfold maxLen; omega) fun _ => ?_
      rw [wayG_lo hc h, ← f1, ← e2]
      exact ⟨[0, 5], ⟨rfl, rfl, (by show List.Nodup [5]; decide), rfl, by
        repeat' (first | exact trivial | exact rfl | apply And.intro)
        · refine Eq.trans ?_ List.length_append.symm
          rfl
        · intro j hj
          exact hashesG_push _ _ j (Nat.lt_of_lt_of_eq hj List.length_append)⟩⟩
    · have h : ¬ i < hf (m : Int) := of_decide_eq_false (p := i < hf (m : Int)) h
      refine Need.mk s2 fun _ => Need.mk (by show fitStd .i64 (i - hf (m : Int)); unfold fitStd; omega) fun _ => Need.mk s1 fun _ => Need.mk ⟨rfl, rfl, c2, (by show ((m : Int) - hf (m : Int)).toNat < N; omega), (by show ((m : Int) - hf (m : Int)).toNat ≤ 1000000; omega)⟩ fun _ => Need.mk ⟨rfl, rfl, c1, (by show (hf (m : Int) - 0).toNat ≤ 1073741824; omega)⟩ fun _ => ?_
      refine Need.mk (by show (wayG (fun i => hashC (hOf (gets ((hf (m : Int)).toNat + i)))) ((m : Int) - hf (m : Int)).toNat (i - hf (m : Int))).length + 1 ≤ maxLen ∧ ((wayG (fun i => hashC (hOf (gets ((hf (m : Int)).toNat + i)))) ((m : Int) - hf (m : Int)).toNat (i - hf (m : Int))).length + 1) * 32 ≤ 140737488355328; rw [f2]; unfold maxLen; omega) fun _ => ?_
      rw [wayG_hi hc h, ← f2, ← e1]
      exact ⟨[0, 5], ⟨rfl, rfl, (by show List.Nodup [5]; decide), rfl, by
        repeat' (first | exact trivial | exact rfl | apply And.intro)
        · refine Eq.trans ?_ List.length_append.symm
          rfl
        · intro j hj
          exact hashesG_push _ _ j (Nat.lt_of_lt_of_eq hj List.length_append)⟩⟩

theorem rwayAll (N : Nat) : Fn Tryd.prog 126 [] [(24, 32)] (sRWayN N) := by
  induction N with
  | zero =>
    refine Fn.plain (by kernel_rfl) (fun args h pre res h' hs => ?_) fun args h pre res h' hs hp ρ W us rel hus => ?_
    · unfold sRWayN at hs
      split at hs
      · cases hs; exact ⟨rfl, Nat.le_of_ble_eq_true rfl⟩
      · cases hs
    · unfold sRWayN at hs
      split at hs
      · cases hs; exact absurd hp.2.2.2.1 (Nat.not_lt_zero _)
      · cases hs
  | succ N ih => exact rwayStep N ih
def rwayPre0 (ty one m : Nat) (gets : Nat → List CV) : Prop := ty = 24 ∧ one = 32 ∧ HashesAt m gets ∧ m ≤ 1000000
def sRWay : SpecF
  | [.c (.row 0), .c (.int .i64 i)], [.elems ty one m gets] => some (rwayPre0 ty one m gets, .c (.row 1), [.dead, .row 24 32 (wayG gets m i).length (hashesG (wayG gets m i))])
  | _, _ => none

theorem rwayP : Fn Tryd.prog 126 [] [(24, 32)] sRWay := by
  refine Fn.plain (by kernel_rfl) (fun args h pre res h' hs => ?_) fun args h pre res h' hs hp ρ W us rel hus => ?_
  · unfold sRWay at hs
    split at hs
    · cases hs; exact ⟨rfl, Nat.le_of_ble_eq_true rfl⟩
    · cases hs
  · unfold sRWay at hs
    split at hs
    rotate_left
    · cases hs
    rename_i i ty one m gets
    cases hs
    obtain ⟨h1, h2, h3, h4⟩ := hp
    exact (rwayAll (m + 1)).run _ _ _ _ _ rfl ⟨h1, h2, h3, Nat.lt_succ_self m, h4⟩ ρ W us rel hus
def rfdPre (K : Nat) (ty one m : Nat) (gets : Nat → List CV) (leaf : List CV) : Prop := ty = 24 ∧ one = 32 ∧ HashesAt m gets ∧ HashC leaf ∧ m < K ∧ m ≤ 1000000
def sRFdN (K : Nat) : SpecF
  | [.c (.int .i64 a), .c (.int .i64 i), .agg leaf, .c (.row 0)], [.elems ty one m gets] => some (rfdPre K ty one m gets leaf, .tup [(none, hashC (fdH gets leaf m a i)), (some (.bool (fdB m a i)), [])], [.dead])
  | _, _ => none
theorem fdB_iff {m : Nat} {a i : Int} : fdB m a i = true ↔ (a ≤ 1073741824 ∧ 0 ≤ i ∧ i < a) ∧ (m : Int) = deep a i := by
  unfold fdB
  rw [Bool.and_eq_true, decide_eq_true_iff, inN_iff]
theorem fd_out {gets : Nat → List CV} {leaf : List CV} {m : Nat} {a i : Int} (h : ¬ ((a ≤ 1073741824 ∧ 0 ≤ i ∧ i < a) ∧ (m : Int) = deep a i)) : fdB m a i = false ∧ fdH gets leaf m a i = fun _ => 0 := by
  have e : fdB m a i = false := by
    rw [Bool.eq_false_iff]
    exact fun h2 => h (fdB_iff.1 h2)
  refine ⟨e, ?_⟩
  unfold fdH
  rw [e]
  rfl
set_option maxRecDepth 100000 in
set_option maxHeartbeats 8000000 in
theorem rfdStep (K : Nat) (ih : Fn Tryd.prog 128 [] [(24, 32)] (sRFdN K)) : Fn Tryd.prog 128 [] [(24, 32)] (sRFdN (K + 1)) := by
  have hC : CtsOk Tryd.prog [(124, appPure sRHalf), (128, appFn [] [(24, 32)] (sRFdN K)), (125, appPure sRNode), (105, appPure sRDeep)] := CtsOk.cons (Pure.ct rhalfP) <| CtsOk.cons (Fn.ct ih) <| CtsOk.cons (Pure.ct rnodeP) <| CtsOk.cons (Pure.ct rdeepP) <| CtsOk.nil _
  refine Fn.of (E := tbH) [] 0 [(7, [(9999, true), (0, true), (1, true), (2, true), (3, true), (4, true), (5, true), (3006, false), (7, true), (8, true), (9, true), (10, false), (11, false), (12, true), (2999, false), (10, false), (6, false), (7, true), (8, true), (9, true), (11, false), (12, true), (2999, false)]), (8, [(2002, false), (0, true), (1, true), (2, true), (3, true), (4, true), (5, false), (6, false), (7, true)]), (9, [(9999, true), (0, true), (1, true), (2, true), (3, true), (4, true), (5, true), (6, true), (7, true), (8, true), (9, true), (3010, false), (11, true), (12, true), (13, true), (14, false), (15, false), (16, true), (2999, false), (14, false), (10, false), (11, true), (12, true), (13, true), (15, false), (16, true), (2999, false)]), (10, [(2002, false), (0, true), (1, true), (2, true), (3, true), (4, true), (5, false), (6, false), (7, true)])] tbH_ok hC (by kernel_rfl) Tryd.func128 rfl rfl rfl (by kernel_rfl) (by kernel_rfl) 1 5 1 ?_ ?_
  · intro args h pre r h' hs
    unfold sRFdN at hs
    split at hs
    · cases hs; exact ⟨rfl, rfl, Nat.le_of_ble_eq_true rfl⟩
    · cases hs
  · intro args h pre r h' hs hp
    unfold sRFdN at hs
    split at hs
    rotate_left
    · cases hs
    rename_i a i leaf ty one m gets
    cases hs
    obtain ⟨rfl, rfl, hst, ⟨f, rfl, hf_⟩, hlt, hm⟩ := hp
    refine ⟨[.elems 24 32 m (fun i => hashC (hOf (gets i)))], ⟨hst.same.1, trivial⟩, ?_⟩
    unfold hashC
    unfold sRFdN sRNode sRDeep
    generalize hg0 : appPure sRHalf = g0
    generalize ho0 : @hf = zo0, ho1 : @hOf = zo1, ho2 : @HashesAt = zo2, ho3 : @cutC = zo3, ho4 : @HashC = zo4, ho5 : @u8s = zo5, ho6 : @nodeF = zo6, ho7 : @rnodePre = zo7, ho8 : @fdB = zo8, ho9 : @fdH = zo9, ho10 : @deep = zo10, ho11 : @inN = zo11, ho12 : @foldG = zo12, ho13 : @rfdPre = zo13
    generalize hA : Arith.std = A
    cbv
    subst hA hg0 ho0 ho1 ho2 ho3 ho4 ho5 ho6 ho7 ho8 ho9 ho10 ho11 ho12 ho13
    have hL : HashC (hashC f) := ⟨_, rfl, hf_⟩
    refine Ife.mk (fun h => ?_) (fun h => ?_)
    · have h : a < 1 := of_decide_eq_true (p := a < 1) h
      have e := fd_out (gets := gets) (leaf := hashC f) (m := m) (a := a) (i := i) (by omega)
      show ∃ σ, LeftF _ _ _ σ _ _ (.tup [(none, hashC (fdH gets (hashC f) m a i)), (some (.bool (fdB m a i)), [])]) _
      rw [e.1, e.2]
      exact ⟨[0], ⟨rfl, by repeat' (first | exact trivial | exact rfl | apply And.intro), by decide, rfl, by repeat' (first | exact trivial | exact rfl | apply And.intro)⟩⟩
    have c1 : ¬ a < 1 := of_decide_eq_false (p := a < 1) h
    refine Ife.mk (fun h => ?_) (fun h => ?_)
    · have h : 1073741824 < a := of_decide_eq_true (p := 1073741824 < a) h
      have e := fd_out (gets := gets) (leaf := hashC f) (m := m) (a := a) (i := i) (by omega)
      show ∃ σ, LeftF _ _ _ σ _ _ (.tup [(none, hashC (fdH gets (hashC f) m a i)), (some (.bool (fdB m a i)), [])]) _
      rw [e.1, e.2]
      exact ⟨[0], ⟨rfl, by repeat' (first | exact trivial | exact rfl | apply And.intro), by decide, rfl, by repeat' (first | exact trivial | exact rfl | apply And.intro)⟩⟩
    have c2 : ¬ 1073741824 < a := of_decide_eq_false (p := 1073741824 < a) h
    refine Ife.mk (fun h => ?_) (fun h => ?_)
    · have h : i < 0 := of_decide_eq_true (p := i < 0) h
      have e := fd_out (gets := gets) (leaf := hashC f) (m := m) (a := a) (i := i) (by omega)
      show ∃ σ, LeftF _ _ _ σ _ _ (.tup [(none, hashC (fdH gets (hashC f) m a i)), (some (.bool (fdB m a i)), [])]) _
      rw [e.1, e.2]
      exact ⟨[0], ⟨rfl, by repeat' (first | exact trivial | exact rfl | apply And.intro), by decide, rfl, by repeat' (first | exact trivial | exact rfl | apply And.intro)⟩⟩
    have c3 : ¬ i < 0 := of_decide_eq_false (p := i < 0) h
    refine Ife.mk (fun h => ?_) (fun h => ?_)
    · have h : a ≤ i := of_decide_eq_true (p := a ≤ i) h
      have e := fd_out (gets := gets) (leaf := hashC f) (m := m) (a := a) (i := i) (by omega)
      show ∃ σ, LeftF _ _ _ σ _ _ (.tup [(none, hashC (fdH gets (hashC f) m a i)), (some (.bool (fdB m a i)), [])]) _
      rw [e.1, e.2]
      exact ⟨[0], ⟨rfl, by repeat' (first | exact trivial | exact rfl | apply And.intro), by decide, rfl, by repeat' (first | exact trivial | exact rfl | apply And.intro)⟩⟩
    have c4 : ¬ a ≤ i := of_decide_eq_false (p := a ≤ i) h
    refine Need.mk trivial fun _ => ?_
    refine Ife.mk (fun h => ?_) (fun h => ?_)
    · have h : ¬ (m : Int) = deep a i := by
        have h6 : (!decide ((m : Int) = deep a i)) = true := h
        simpa using h6
      have e := fd_out (gets := gets) (leaf := hashC f) (m := m) (a := a) (i := i) (by omega)
      show ∃ σ, LeftF _ _ _ σ _ _ (.tup [(none, hashC (fdH gets (hashC f) m a i)), (some (.bool (fdB m a i)), [])]) _
      rw [e.1, e.2]
      exact ⟨[0], ⟨rfl, by repeat' (first | exact trivial | exact rfl | apply And.intro), by decide, rfl, by repeat' (first | exact trivial | exact rfl | apply And.intro)⟩⟩
    have c5 : (m : Int) = deep a i := by
      have h6 : (!decide ((m : Int) = deep a i)) = false := h
      simpa using h6
    have eB : fdB m a i = true := fdB_iff.2 ⟨by omega, c5⟩
    refine Ife.mk (fun h => ?_) (fun h => ?_)
    · have h : a = 1 := of_decide_eq_true (p := a = 1) h
      subst h
      have h0 : m = 0 := by rw [deep_out (by omega)] at c5; omega
      subst h0
      have e2 : fdH gets (hashC f) 0 1 i = hOf (hashC f) := by unfold fdH; rw [eB]; rfl
      show ∃ σ, LeftF _ _ _ σ _ _ (.tup [(none, hashC (fdH gets (hashC f) 0 1 i)), (some (.bool (fdB 0 1 i)), [])]) _
      rw [e2, eB]
      exact ⟨[0], ⟨rfl, by repeat' (first | exact trivial | exact rfl | apply And.intro), by decide, rfl, by repeat' (first | exact trivial | exact rfl | apply And.intro)⟩⟩
    have c6 : ¬ a = 1 := of_decide_eq_false (p := a = 1) h
    unfold sRHalf
    generalize ho0 : @hf = zo0, ho1 : @hOf = zo1, ho2 : @HashesAt = zo2, ho3 : @cutC = zo3, ho4 : @HashC = zo4, ho5 : @u8s = zo5, ho6 : @nodeF = zo6, ho7 : @rnodePre = zo7, ho8 : @fdB = zo8, ho9 : @fdH = zo9, ho10 : @deep = zo10, ho11 : @inN = zo11, ho12 : @foldG = zo12, ho13 : @rfdPre = zo13
    generalize hA : Arith.std = A
    cbv
    subst hA ho0 ho1 ho2 ho3 ho4 ho5 ho6 ho7 ho8 ho9 ho10 ho11 ho12 ho13
    replace c5 : (@Nat.cast Int instNatCastInt m) = deep a i := c5
    have hin : 1 < a ∧ a ≤ 1073741824 ∧ 0 ≤ i ∧ i < a := by omega
    have hh := hf_lt (n := a) (by omega) (by omega)
    obtain ⟨k, rfl⟩ : ∃ k, m = k + 1 := by
      refine ⟨m - 1, ?_⟩
      have d1 : 1 ≤ deep a i := by
        by_cases hi : i < hf a
        · rw [deep_lo hin hi]; have := deep_nonneg (hf a) i; omega
        · rw [deep_hi hin hi]; have := deep_nonneg (a - hf a) (i - hf a); omega
      omega
    have kk : (((k + 1 : Nat) : Int) - 1 - 0).toNat = k := by omega
    have kl : (((k + 1 : Nat) : Int) - 1).toNat = k := by omega
    have cg : ∀ n j : Int, fdB k n j = true → fdH (fun j => hashC (hOf (gets (0 + j)))) (hashC f) (((k + 1 : Nat) : Int) - 1 - 0).toNat n j = foldR (fun j => hOf (gets j)) (hOf (hashC f)) k n j := fun n j hb => by
      rw [kk]
      unfold fdH
      rw [hb, if_pos rfl]
      unfold foldG
      refine foldR_congr _ k n j fun j hj => ?_
      show hOf (hashC (hOf (gets (0 + j)))) = hOf (gets j)
      rw [Nat.zero_add]
      exact hOf_idem (hst j (by omega))
    have z1 : HashesAt (((k + 1 : Nat) : Int) - 1 - 0).toNat (fun j => hashC (hOf (gets (0 + j)))) := hst.cut 0 _ (by omega)
    have rg : ∀ n j : Int, HashC (hashC (foldR (fun j => hOf (gets j)) (hOf (hashC f)) k n j)) := fun n j => ⟨_, rfl, foldR_range (fun j => hOf_range hL j) k n j⟩
    have rk : HashC (hashC (hOf (gets (((k + 1 : Nat) : Int) - 1).toNat))) := ⟨_, rfl, fun j => hOf_range (hst _ (by omega)) j⟩
    have fl : fitStd .i64 (((k + 1 : Nat) : Int) - 1) := by unfold fitStd; omega
    have n1 : (0 : Int) ≤ 0 ∧ (0 : Int) ≤ ((k + 1 : Nat) : Int) - 1 ∧ ((k + 1 : Nat) : Int) - 1 ≤ ((k + 1 : Nat) : Int) := by omega
    have n2 : (0 : Int) ≤ ((k + 1 : Nat) : Int) - 1 ∧ ((k + 1 : Nat) : Int) - 1 < ((k + 1 : Nat) : Int) := by omega
    have n3 : (((k + 1 : Nat) : Int) - 1).toNat < k + 1 := by omega
    have p1 : rfdPre K 24 32 (((k + 1 : Nat) : Int) - 1 - 0).toNat (fun j => hashC (hOf (gets (0 + j)))) (hashC f) := ⟨rfl, rfl, z1, hL, by omega, by omega⟩
    refine Need.mk trivial fun _ => Need.mk fl fun _ => ?_
    refine Ife.mk (fun h => ?_) (fun h => ?_)
    · have h : i < hf a := of_decide_eq_true (p := i < hf a) h
      have hb : fdB k (hf a) i = true := fdB_iff.2 ⟨by omega, by rw [deep_lo hin h] at c5; omega⟩
      have eF : fdH gets (hashC f) (k + 1) a i = nodeF (hashB (foldR (fun j => hOf (gets j)) (hOf (hashC f)) k (hf a) i)) (hashB (hOf (gets k))) := by
        unfold fdH; rw [eB, if_pos rfl]; unfold foldG; rw [foldR, if_pos h]
      have q1 : rnodePre (hashC (fdH (fun j => hashC (hOf (gets (0 + j)))) (hashC f) (((k + 1 : Nat) : Int) - 1 - 0).toNat (hf a) i)) (hashC (hOf (gets (((k + 1 : Nat) : Int) - 1).toNat))) := by
        rw [cg _ _ hb]; exact ⟨rg _ _, rk⟩
      repeat' (first | refine Both.mk ?_ ?_ | refine Need.mk n1 fun _ => ?_ | refine Need.mk n2 fun _ => ?_ | refine Need.mk n3 fun _ => ?_ | refine Need.mk p1 fun _ => ?_ | refine Need.mk q1 fun _ => ?_)
      all_goals
        show ∃ σ, LeftF _ _ _ σ (.tup [(none, hashC (nodeF (u8s (hashC (fdH (fun j => hashC (hOf (gets (0 + j)))) (hashC f) (((k + 1 : Nat) : Int) - 1 - 0).toNat (hf a) i))) (u8s (hashC (hOf (gets (((k + 1 : Nat) : Int) - 1).toNat)))))), (some .tt, [])]) _ (.tup [(none, hashC (fdH gets (hashC f) (k + 1) a i)), (some (.bool (fdB (k + 1) a i)), [])]) _
        rw [cg _ _ hb, kl, eF, eB, u8s_hash, u8s_hash]
        exact ⟨[0], ⟨rfl, by repeat' (first | exact trivial | exact rfl | apply And.intro), by decide, rfl, by repeat' (first | exact trivial | exact rfl | apply And.intro)⟩⟩
    · have h : ¬ i < hf a := of_decide_eq_false (p := i < hf a) h
      have hb : fdB k (a - hf a) (i - hf a) = true := fdB_iff.2 ⟨by omega, by rw [deep_hi hin h] at c5; omega⟩
      have n4 : fitStd .i64 (a - hf a) := by unfold fitStd; omega
      have n5 : fitStd .i64 (i - hf a) := by unfold fitStd; omega
      have eF : fdH gets (hashC f) (k + 1) a i = nodeF (hashB (hOf (gets k))) (hashB (foldR (fun j => hOf (gets j)) (hOf (hashC f)) k (a - hf a) (i - hf a))) := by
        unfold fdH; rw [eB, if_pos rfl]; unfold foldG; rw [foldR, if_neg h]
      have q1 : rnodePre (hashC (hOf (gets (((k + 1 : Nat) : Int) - 1).toNat))) (hashC (fdH (fun j => hashC (hOf (gets (0 + j)))) (hashC f) (((k + 1 : Nat) : Int) - 1 - 0).toNat (a - hf a) (i - hf a))) := by
        rw [cg _ _ hb]; exact ⟨rk, rg _ _⟩
      repeat' (first | refine Both.mk ?_ ?_ | refine Need.mk n1 fun _ => ?_ | refine Need.mk n2 fun _ => ?_ | refine Need.mk n3 fun _ => ?_ | refine Need.mk n4 fun _ => ?_ | refine Need.mk n5 fun _ => ?_ | refine Need.mk p1 fun _ => ?_ | refine Need.mk q1 fun _ => ?_)
      all_goals
        show ∃ σ, LeftF _ _ _ σ (.tup [(none, hashC (nodeF (u8s (hashC (hOf (gets (((k + 1 : Nat) : Int) - 1).toNat)))) (u8s (hashC (fdH (fun j => hashC (hOf (gets (0 + j)))) (hashC f) (((k + 1 : Nat) : Int) - 1 - 0).toNat (a - hf a) (i - hf a)))))), (some .tt, [])]) _ (.tup [(none, hashC (fdH gets (hashC f) (k + 1) a i)), (some (.bool (fdB (k + 1) a i)), [])]) _
        rw [cg _ _ hb, kl, eF, eB, u8s_hash, u8s_hash]
        exact ⟨[0], ⟨rfl, by repeat' (first | exact trivial | exact rfl | apply And.intro), by decide, rfl, by repeat' (first | exact trivial | exact rfl | apply And.intro)⟩⟩

theorem rfdAll (K : Nat) : Fn Tryd.prog 128 [] [(24, 32)] (sRFdN K) := by
  induction K with
  | zero =>
    refine Fn.plain (by kernel_rfl) (fun args h pre res h' hs => ?_) fun args h pre res h' hs hp ρ W us rel hus => ?_
    · unfold sRFdN at hs
      split at hs
      · cases hs; exact ⟨rfl, Nat.le_refl _⟩
      · cases hs
    · unfold sRFdN at hs
      split at hs
      · cases hs; exact absurd hp.2.2.2.2.1 (Nat.not_lt_zero _)
      · cases hs
  | succ K ih => exact rfdStep K ih
def rfdPre0 (ty one m : Nat) (gets : Nat → List CV) (leaf : List CV) : Prop := ty = 24 ∧ one = 32 ∧ HashesAt m gets ∧ HashC leaf ∧ m ≤ 1000000
def sRFd : SpecF
  | [.c (.int .i64 a), .c (.int .i64 i), .agg leaf, .c (.row 0)], [.elems ty one m gets] => some (rfdPre0 ty one m gets leaf, .tup [(none, hashC (fdH gets leaf m a i)), (some (.bool (fdB m a i)), [])], [.dead])
  | _, _ => none

theorem rfdP : Fn Tryd.prog 128 [] [(24, 32)] sRFd := by
  refine Fn.plain (by kernel_rfl) (fun args h pre res h' hs => ?_) fun args h pre res h' hs hp ρ W us rel hus => ?_
  · unfold sRFd at hs
    split at hs
    · cases hs; exact ⟨rfl, Nat.le_refl _⟩
    · cases hs
  · unfold sRFd at hs
    split at hs
    rotate_left
    · cases hs
    rename_i a i leaf ty one m gets
    cases hs
    obtain ⟨h1, h2, h3, h4, h5⟩ := hp
    exact (rfdAll (m + 1)).run _ _ _ _ _ rfl ⟨h1, h2, h3, h4, Nat.lt_succ_self m, h5⟩ ρ W us rel hus
end Go.Proofs.YthomoliklfmnkaaDoor.Vx
end
