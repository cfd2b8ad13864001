/- Lists of sums compared. -/
import Derived.Test.YthomoliklfmnkaaDoorM21
section
namespace Go.Proofs.YthomoliklfmnkaaDoor.Vx
open Go.RowKit Sha
set_option linter.unusedVariables false
set_option linter.unusedSimpArgs false


end Go.Proofs.YthomoliklfmnkaaDoor.Vx
end

section
/- Trees: a leaf and its way come to the top: plain laws. -/
namespace Go.Proofs.YthomoliklfmnkaaDoor.Vx
open Go.RowKit Sha
set_option linter.unusedVariables false
set_option linter.unusedSimpArgs false
theorem way_one (h : Nat → Nat → Int) (lo : Nat) (i : Int) (n : Nat) (hn : ¬ (1 < n ∧ n ≤ 1073741824 ∧ 0 ≤ i ∧ i < (n : Int))) : wayR h lo n i = [] := by rw [wayR, dif_neg hn]
theorem way_lo (h : Nat → Nat → Int) (lo : Nat) (i : Int) (n : Nat) (hc : 1 < n ∧ n ≤ 1073741824 ∧ 0 ≤ i ∧ i < (n : Int)) (hi : i < hf n) : wayR h lo n i = wayR h lo (hf n).toNat i ++ [topR h (lo + (hf n).toNat) (n - (hf n).toNat)] := by rw [wayR, dif_pos hc, if_pos hi]
theorem way_hi (h : Nat → Nat → Int) (lo : Nat) (i : Int) (n : Nat) (hc : 1 < n ∧ n ≤ 1073741824 ∧ 0 ≤ i ∧ i < (n : Int)) (hi : ¬ i < hf n) : wayR h lo n i = wayR h (lo + (hf n).toNat) (n - (hf n).toNat) (i - hf n) ++ [topR h lo (hf n).toNat] := by rw [wayR, dif_pos hc, if_neg hi]
theorem top_two (h : Nat → Nat → Int) (lo n : Nat) (h2 : 2 ≤ n) (h3 : n ≤ 1073741824) : topR h lo n = nodeF (hashB (topR h lo (hf n).toNat)) (hashB (topR h (lo + (hf n).toNat) (n - (hf n).toNat))) := by rw [topR, dif_neg (by omega)]
theorem way_len (h : Nat → Nat → Int) : ∀ (n lo : Nat) (i : Int), n ≤ 1073741824 → ((wayR h lo n i).length : Int) = deep n i := by
  intro n
  induction n using Nat.strongRecOn with
  | ind n ih =>
    intro lo i hn
    by_cases hc : 1 < n ∧ n ≤ 1073741824 ∧ 0 ≤ i ∧ i < (n : Int)
    · have hh := hf_lt (n := (n : Int)) (by omega) (by omega)
      have hc' : 1 < (n : Int) ∧ (n : Int) ≤ 1073741824 ∧ 0 ≤ i ∧ i < (n : Int) := by omega
      by_cases hi : i < hf n
      · have e := ih (hf n).toNat (by omega) lo i (by omega)
        rw [show (((hf (n : Int)).toNat : Nat) : Int) = hf n by omega] at e
        rw [way_lo h lo i n hc hi, deep_lo hc' hi, List.length_append, List.length_singleton, ← e]
        omega
      · have e := ih (n - (hf n).toNat) (by omega) (lo + (hf n).toNat) (i - hf n) (by omega)
        rw [show ((n - (hf (n : Int)).toNat : Nat) : Int) = (n : Int) - hf n by omega] at e
        rw [way_hi h lo i n hc hi, deep_hi hc' hi, List.length_append, List.length_singleton, ← e]
        omega
    · rw [way_one h lo i n hc, deep_out (by omega)]
      rfl
theorem getD_lt {l : List (Nat → Int)} {x d : Nat → Int} {j : Nat} (h : j < l.length) : (l ++ [x]).getD j d = l.getD j d := by simp [List.getD, List.getElem?_append_left h]
theorem getD_end (l : List (Nat → Int)) (x d : Nat → Int) : (l ++ [x]).getD l.length d = x := by simp [List.getD]
/-- A leaf and its way come to the top of the list with that leaf. -/
theorem fold_way (h : Nat → Nat → Int) (leaf : Nat → Int) : ∀ (n lo : Nat) (i : Int), 0 ≤ i → i < (n : Int) → n ≤ 1073741824 →
    foldR (fun j => (wayR h lo n i).getD j fun _ => 0) leaf (wayR h lo n i).length n i = topR (fun j => if j = lo + i.toNat then leaf else h j) lo n := by
  intro n
  induction n using Nat.strongRecOn with
  | ind n ih =>
    intro lo i h0 h1 h2
    by_cases hn : n < 2
    · rw [way_one h lo i n (by omega), topR, dif_pos (Or.inl hn), if_neg (by omega)]
      show leaf = if lo = lo + i.toNat then leaf else h lo
      rw [if_pos (by omega)]
    · have hh := hf_lt (n := (n : Int)) (by omega) (by omega)
      have hc : 1 < n ∧ n ≤ 1073741824 ∧ 0 ≤ i ∧ i < (n : Int) := by omega
      by_cases hi : i < hf n
      · rw [way_lo h lo i n hc hi, List.length_append, List.length_singleton, top_two _ lo n (by omega) h2]
        rw [show foldR (fun j => (wayR h lo (hf n).toNat i ++ [topR h (lo + (hf n).toNat) (n - (hf n).toNat)]).getD j fun _ => 0) leaf ((wayR h lo (hf n).toNat i).length + 1) n i =
          nodeF (hashB (foldR (fun j => (wayR h lo (hf n).toNat i ++ [topR h (lo + (hf n).toNat) (n - (hf n).toNat)]).getD j fun _ => 0) leaf (wayR h lo (hf n).toNat i).length (hf n) i)) (hashB ((wayR h lo (hf n).toNat i ++ [topR h (lo + (hf n).toNat) (n - (hf n).toNat)]).getD (wayR h lo (hf n).toNat i).length fun _ => 0)) by
            rw [foldR, if_pos hi]]
        rw [getD_end, foldR_congr leaf _ _ _ (fun j hj => getD_lt hj)]
        have e := ih (hf n).toNat (by omega) lo i h0 (by omega) (by omega)
        rw [show (((hf (n : Int)).toNat : Nat) : Int) = hf n by omega] at e
        rw [e]
        congr 2
        refine topR_congr _ _ fun j hj1 hj2 => ?_
        rw [if_neg (by omega)]
      · rw [way_hi h lo i n hc hi, List.length_append, List.length_singleton, top_two _ lo n (by omega) h2]
        rw [show foldR (fun j => (wayR h (lo + (hf n).toNat) (n - (hf n).toNat) (i - hf n) ++ [topR h lo (hf n).toNat]).getD j fun _ => 0) leaf ((wayR h (lo + (hf n).toNat) (n - (hf n).toNat) (i - hf n)).length + 1) n i =
          nodeF (hashB ((wayR h (lo + (hf n).toNat) (n - (hf n).toNat) (i - hf n) ++ [topR h lo (hf n).toNat]).getD (wayR h (lo + (hf n).toNat) (n - (hf n).toNat) (i - hf n)).length fun _ => 0)) (hashB (foldR (fun j => (wayR h (lo + (hf n).toNat) (n - (hf n).toNat) (i - hf n) ++ [topR h lo (hf n).toNat]).getD j fun _ => 0) leaf (wayR h (lo + (hf n).toNat) (n - (hf n).toNat) (i - hf n)).length (n - hf n) (i - hf n))) by
            rw [foldR, if_neg hi]]
        rw [getD_end, foldR_congr leaf _ _ _ (fun j hj => getD_lt hj)]
        have e := ih (n - (hf n).toNat) (by omega) (lo + (hf n).toNat) (i - hf n) (by omega) (by omega) (by omega)
        rw [show ((n - (hf (n : Int)).toNat : Nat) : Int) = (n : Int) - hf n by omega] at e
        rw [e, show lo + (hf (n : Int)).toNat + (i - hf (n : Int)).toNat = lo + i.toNat by omega]
        congr 2
        refine topR_congr _ _ fun j hj1 hj2 => ?_
        rw [if_neg (by omega)]
/-- The way does not hang on the leaf. -/
theorem way_other (h h' : Nat → Nat → Int) : ∀ (n lo : Nat) (i : Int), (∀ j, lo ≤ j → j < lo + n → j ≠ lo + i.toNat → h j = h' j) → wayR h lo n i = wayR h' lo n i := by
  intro n
  induction n using Nat.strongRecOn with
  | ind n ih =>
    intro lo i hj
    by_cases hc : 1 < n ∧ n ≤ 1073741824 ∧ 0 ≤ i ∧ i < (n : Int)
    · have hh := hf_lt (n := (n : Int)) (by omega) (by omega)
      by_cases hi : i < hf n
      · rw [way_lo h lo i n hc hi, way_lo h' lo i n hc hi, ih (hf n).toNat (by omega) lo i (fun j a b c => hj j a (by omega) c), topR_congr (h := h) (h' := h') _ _ (fun j a b => hj j (by omega) (by omega) (by omega))]
      · rw [way_hi h lo i n hc hi, way_hi h' lo i n hc hi, ih (n - (hf n).toNat) (by omega) (lo + (hf n).toNat) (i - hf n) (fun j a b c => hj j (by omega) (by omega) (by omega)), topR_congr (h := h) (h' := h') _ _ (fun j a b => hj j (by omega) (by omega) (by omega))]
    · rw [way_one h lo i n hc, way_one h' lo i n hc]
end Go.Proofs.YthomoliklfmnkaaDoor.Vx
end

section
/- The law TreeFolds, by the walker. -/
namespace Go.Proofs.YthomoliklfmnkaaDoor.Vx
open Go.RowKit Sha
set_option linter.unusedVariables false
set_option linter.unusedSimpArgs false
theorem hashB_hOf (g : Nat → Int) : hashB (hOf (hashC g)) = hashB g := by
  unfold hashB
  refine List.map_congr_left fun j hj => ?_
  rw [hOf_at, if_pos (List.mem_range.1 hj)]
theorem foldR_congrB {W W' : Nat → Nat → Int} (leaf : Nat → Int) : ∀ (k : Nat) (n i : Int), (∀ j, j < k → hashB (W j) = hashB (W' j)) → foldR W leaf k n i = foldR W' leaf k n i
  | 0, _, _, _ => rfl
  | k + 1, n, i, h => by
    unfold foldR
    rw [foldR_congrB leaf k (hf n) i (fun j hj => h j (by omega)), foldR_congrB leaf k (n - hf n) (i - hf n) (fun j hj => h j (by omega)), h k (by omega)]
theorem way_hashes {h : Nat → Nat → Int} {m : Nat} {i : Int} (hr : ∀ j, 0 ≤ j → j < m → ∀ k, 0 ≤ h j k ∧ h j k < 256) : HashesAt (wayR h 0 m i).length (hashesG (wayR h 0 m i)) := by
  have key : ∀ (n lo : Nat) (i : Int), lo + n ≤ m → ∀ f ∈ wayR h lo n i, ∀ k, 0 ≤ f k ∧ f k < 256 := by
    intro n
    induction n using Nat.strongRecOn with
    | ind n ih =>
      intro lo i hm f hf_
      by_cases hc : 1 < n ∧ n ≤ 1073741824 ∧ 0 ≤ i ∧ i < (n : Int)
      · have hh := hf_lt (n := (n : Int)) (by omega) (by omega)
        by_cases hi : i < hf n
        · rw [way_lo h lo i n hc hi] at hf_
          rcases List.mem_append.1 hf_ with h1 | h1
          · exact ih (hf n).toNat (by omega) lo i (by omega) f h1
          · rw [List.mem_singleton.1 h1]
            exact topR_range _ _ fun j a b => hr j (by omega) (by omega)
        · rw [way_hi h lo i n hc hi] at hf_
          rcases List.mem_append.1 hf_ with h1 | h1
          · exact ih (n - (hf n).toNat) (by omega) (lo + (hf n).toNat) (i - hf n) (by omega) f h1
          · rw [List.mem_singleton.1 h1]
            exact topR_range _ _ fun j a b => hr j (by omega) (by omega)
      · rw [way_one h lo i n hc] at hf_
        cases hf_
  intro j hj
  refine ⟨_, rfl, ?_⟩
  rw [List.getD_eq_getElem?_getD, List.getElem?_eq_getElem hj]
  exact key m 0 i (by omega) _ (List.getElem_mem hj)
structure FoldsFacts (m : Nat) (gets : Nat → List CV) (i : Int) (f : Nat → Int) (U : Nat → List CV) : Prop where
  q1 : eqH (fdH (hashesG (wayG (fun i => hashC (hOf (gets i))) m i)) (hashC (hOf (gets i.toNat))) (wayG (fun i => hashC (hOf (gets i))) m i).length m i) (topG (fun i => hashC (hOf (gets i))) m) = true
  q2 : eqH (fdH (hashesG (wayG (fun i => hashC (hOf (gets i))) m i)) (hashC f) (wayG (fun i => hashC (hOf (gets i))) m i).length m i) (topG U m) = true
  cU : HashesAt m U
  eWU : wayG U m i = wayG (fun i => hashC (hOf (gets i))) m i
  lW : ((wayG (fun i => hashC (hOf (gets i))) m i).length : Int) = deep m i
  lW2 : (wayG (fun i => hashC (hOf (gets i))) m i).length ≤ m
  hB : fdB (wayG (fun i => hashC (hOf (gets i))) m i).length m i = true
  cW : HashesAt (wayG (fun i => hashC (hOf (gets i))) m i).length (hashesG (wayG (fun i => hashC (hOf (gets i))) m i))
theorem foldsFacts {m : Nat} {gets : Nat → List CV} {i : Int} {f : Nat → Int} (hst : HashesAt m gets) (hf_ : ∀ j, 0 ≤ f j ∧ f j < 256) (h0 : 0 ≤ i) (hi : i < (m : Int)) (hm : m ≤ 40) {U : Nat → List CV} (uAt : ∀ j, j < m → U j = if j = i.toNat then hashC f else hashC (hOf (gets j))) : FoldsFacts m gets i f U := by
  have hL : HashC (hashC f) := ⟨_, rfl, hf_⟩
  have cG : HashesAt m (fun i => hashC (hOf (gets i))) := fun j hj => ⟨_, rfl, hOf_range (hst j hj)⟩
  have eW : wayG (fun i => hashC (hOf (gets i))) m i = wayR (fun i => hOf (gets i)) 0 m i := by
    unfold wayG
    exact wayR_congr m 0 i fun j _ hj => hOf_idem (hst j (by omega))
  have lW : ((wayG (fun i => hashC (hOf (gets i))) m i).length : Int) = deep m i := by rw [eW]; exact way_len _ m 0 i (by omega)
  have lW2 : (wayG (fun i => hashC (hOf (gets i))) m i).length ≤ m := by rw [eW]; exact wayR_len _ m 0 i
  have hB : fdB (wayG (fun i => hashC (hOf (gets i))) m i).length m i = true := by
    unfold fdB
    rw [decide_eq_true lW, inN_iff.2 ⟨by omega, by omega, by omega⟩]
    rfl
  have cW : HashesAt (wayG (fun i => hashC (hOf (gets i))) m i).length (hashesG (wayG (fun i => hashC (hOf (gets i))) m i)) := by
    rw [eW]
    exact way_hashes (fun j a b => fun k => hOf_range (hst j (by omega)) k)
  have uH : ∀ j, j < m → hOf (U j) = if j = 0 + i.toNat then hOf (hashC f) else hOf (gets j) := fun j hj => by
    rw [uAt j hj, Nat.zero_add]
    by_cases hji : j = i.toNat
    · rw [if_pos hji, if_pos hji]
    · rw [if_neg hji, if_neg hji, hOf_idem (hst j hj)]
  have cU : HashesAt m U := fun j hj => by
    rw [uAt j hj]
    by_cases hji : j = i.toNat
    · rw [if_pos hji]; exact hL
    · rw [if_neg hji]; exact cG j hj
  have eG : topG (fun i => hashC (hOf (gets i))) m = topR (fun j => hOf (gets j)) 0 m := by
    unfold topG
    exact topR_congr m 0 fun j _ hj => hOf_idem (hst j (by omega))
  have eU : topG U m = topR (fun j => if j = 0 + i.toNat then hOf (hashC f) else hOf (gets j)) 0 m := by
    unfold topG
    exact topR_congr m 0 fun j _ hj => uH j (by omega)
  have eWU : wayG U m i = wayG (fun i => hashC (hOf (gets i))) m i := by
    rw [eW]
    unfold wayG
    refine way_other _ _ m 0 i fun j _ hj hne => ?_
    show hOf (U j) = _
    rw [uH j (by omega), if_neg hne]
  have hF : ∀ leaf : List CV, HashC leaf → fdH (hashesG (wayG (fun i => hashC (hOf (gets i))) m i)) leaf (wayG (fun i => hashC (hOf (gets i))) m i).length m i = topR (fun j => if j = 0 + i.toNat then hOf leaf else hOf (gets j)) 0 m := fun leaf hl => by
    unfold fdH
    rw [hB, if_pos rfl, eW]
    have e := fold_way (fun j => hOf (gets j)) (hOf leaf) m 0 i (by omega) (by omega) (by omega)
    rw [← e]
    unfold foldG
    refine foldR_congrB _ _ _ _ fun j hj => ?_
    exact hashB_hOf _
  refine ⟨?_, ?_, cU, eWU, lW, lW2, hB, cW⟩
  · rw [hF _ (cG i.toNat (by omega)), eG]
    have e : topR (fun j => if j = 0 + i.toNat then hOf (hashC (hOf (gets i.toNat))) else hOf (gets j)) 0 m = topR (fun j => hOf (gets j)) 0 m := topR_congr m 0 fun j _ hj => by
      by_cases hji : j = 0 + i.toNat
      · rw [if_pos hji, hOf_idem (hst i.toNat (by omega)), hji, Nat.zero_add]
      · rw [if_neg hji]
    rw [e]
    exact eqH_self _
  · rw [hF _ hL, eU]
    exact eqH_self _


end Go.Proofs.YthomoliklfmnkaaDoor.Vx
namespace Go.Proofs.YthomoliklfmnkaaDoor
open Go.RowKit
set_option linter.unusedVariables false
end Go.Proofs.YthomoliklfmnkaaDoor
end

section
/- Trees: leaves; the document's nodes, tops, depths, by the walker. -/
namespace Go.Proofs.YthomoliklfmnkaaDoor.Vx
open Go.RowKit Sha
set_option linter.unusedVariables false
set_option linter.unusedSimpArgs false
/-- The sum of a key and its value. -/
def leafF (k v : List UInt8) : Nat → Int := sumI ([0] ++ be8 k.length ++ k ++ v)
def leafPre (gg sz n : Nat) (get : Nat → List CV) (k v : List UInt8) : Prop := KsAt gg sz n get ∧ k.length ≤ 1000000000 ∧ v.length ≤ 1000000000
def rleafPre (k v : List UInt8) : Prop := k.length ≤ 1000000000 ∧ v.length ≤ 1000000000
def sLeaf : SpecF
  | [.c (.str k), .c (.str v)], [.glob gg sz n get] => some (leafPre gg sz n get k v, .agg (hashC (leafF k v)), [.dead])
  | _, _ => none

set_option maxRecDepth 100000 in
set_option maxHeartbeats 4000000 in
theorem leafP : Fn Tryd.prog 123 [0] [] sLeaf := by
  have hC : CtsOk Tryd.prog [(119, appPure sEight), (118, appFn [0] [(9, 1)] sSum)] := CtsOk.cons (Pure.ct leightP) <| CtsOk.cons (Fn.ct sumP) <| CtsOk.nil _
  refine Fn.of (E := tbT) [0] 0 [] tbT_ok hC (by kernel_rfl) Tryd.func123 rfl rfl rfl (by kernel_rfl) (by kernel_rfl) 1 5 1 ?_ ?_
  · intro args h pre r h' hs
    unfold sLeaf at hs
    split at hs
    · cases hs; exact ⟨rfl, rfl, Nat.le_of_ble_eq_true rfl⟩
    · cases hs
  · intro args h pre r h' hs hp
    unfold sLeaf at hs
    split at hs
    rotate_left
    · cases hs
    rename_i k v gg sz n get
    cases hs
    obtain ⟨hK, hk, hv⟩ := hp
    refine ⟨_, hK.same, ?_⟩
    clear hK
    unfold sSum sEight
    generalize hg0 : (List.length : List UInt8 → Nat) = g0
    generalize ho0 : @sumPre = zo0, ho1 : @joinG = zo1, ho2 : @cutC = zo2, ho3 : @sumI = zo3, ho4 : @be8 = zo4, ho5 : @eightPre = zo5, ho6 : @leafF = zo6, ho7 : @leafPre = zo7
    generalize hA : Arith.std = A
    cbv
    subst hA hg0 ho0 ho1 ho2 ho3 ho4 ho5 ho6 ho7
    have j1 := (strs_cut [[0], be8 k.length, k, v]).2
    have l8 : (be8 k.length).length = 8 := rfl
    have f1 : [[0], be8 k.length, k, v].flatten = [0] ++ be8 k.length ++ k ++ v := by simp
    have p1 := sumPre_cut [[0], be8 k.length, k, v] (by rw [f1, List.length_append, List.length_append, List.length_append, l8]; show 1 + 8 + k.length + v.length ≤ _; omega) (by show 4 ≤ 1000; decide)
    refine Need.mk (show eightPre (k.length : Int) from ⟨by omega, by omega⟩) fun _ => Need.mk p1 fun _ => ?_
    show ∃ σ, LeftF _ _ _ σ (.agg (hashC (sumI (joinG 4 (cutC 1 ([[0], be8 k.length, k, v].map CV.str) 0))))) _ (.agg (hashC (leafF k v))) _
    rw [show joinG 4 (cutC 1 ([[0], be8 k.length, k, v].map CV.str) 0) = [0] ++ be8 k.length ++ k ++ v from j1.trans f1]
    exact ⟨[0], ⟨rfl, by repeat' (first | exact trivial | exact rfl | apply And.intro), by decide, rfl, by repeat' (first | exact trivial | exact rfl | apply And.intro)⟩⟩

def sRLeaf : List SV → Option (Prop × SV)
  | [.c (.str k), .c (.str v)] => some (rleafPre k v, .agg (hashC (leafF k v)))
  | _ => none

set_option maxRecDepth 100000 in
set_option maxHeartbeats 4000000 in
theorem rleafP : Pure Tryd.prog 94 sRLeaf := by
  have hC : CtsOk Tryd.prog [(93, appPure sREight), (92, appPure sRSum)] := CtsOk.cons (Pure.ct eightP) <| CtsOk.cons (Pure.ct rsumP) <| CtsOk.nil _
  refine Pure.of (E := tbT) (C := [(93, appPure sREight), (92, appPure sRSum)]) [] 0 [] tbT_ok hC (by kernel_rfl) Tryd.func94 rfl rfl rfl (by kernel_rfl) (by kernel_rfl) ?_ ?_
  · intro args pre r h
    unfold sRLeaf at h
    split at h
    · cases h; rfl
    · cases h
  · intro args pre r h hp
    unfold sRLeaf at h
    split at h
    rotate_left
    · cases h
    rename_i k v
    cases h
    obtain ⟨hk, hv⟩ := hp
    unfold sREight sRSum
    generalize hg0 : (List.length : List UInt8 → Nat) = g0
    generalize ho0 : @sumI = zo0, ho1 : @be8 = zo1, ho2 : @eightPre = zo2, ho3 : @rsumPre = zo3, ho4 : @leafF = zo4, ho5 : @rleafPre = zo5
    generalize hA : Arith.std = A
    cbv
    subst hA hg0 ho0 ho1 ho2 ho3 ho4 ho5
    have l8 : (be8 k.length).length = 8 := rfl
    have f0 : ([0] ++ be8 k.length).length = 9 := rfl
    have f1 : ([0] ++ be8 k.length ++ k).length = 9 + k.length := by rw [List.length_append, f0]
    have f2 : ([0] ++ be8 k.length ++ k ++ v).length = 9 + k.length + v.length := by rw [List.length_append, f1]
    refine Need.mk (show eightPre (k.length : Int) from ⟨by omega, by omega⟩) fun _ => Need.mk (by show (([(0 : UInt8)].length : Nat) : Int) + ((be8 k.length).length : Nat) ≤ 9223372036854775807; rw [l8]; decide) fun _ => Need.mk (by show ((([0] ++ be8 k.length).length : Nat) : Int) + (k.length : Nat) ≤ 9223372036854775807; rw [f0]; omega) fun _ => Need.mk (by show ((([0] ++ be8 k.length ++ k).length : Nat) : Int) + (v.length : Nat) ≤ 9223372036854775807; rw [f1]; omega) fun _ => Need.mk (by show ([0] ++ be8 k.length ++ k ++ v).length ≤ 140737488350000; rw [f2]; omega) fun _ => ?_
    repeat' (first | exact trivial | exact rfl | apply And.intro)



structure LDr (n0 i0 : Int) where
  n : Int
  i : Int
  d : Int
  h0 : 0 ≤ d
  h1 : deep n0 i0 = d + deep n i
  h2 : 0 ≤ i
  h3 : i < n
  h4 : n ≤ 1073741824
def sRDeep : List SV → Option (Prop × SV)
  | [.c (.int .i64 n), .c (.int .i64 i)] => some (True, .c (.int .i64 (deep n i)))
  | _ => none

set_option maxRecDepth 100000 in
set_option maxHeartbeats 2000000 in
theorem rdeepP : Pure Tryd.prog 105 sRDeep := by
  have hC : CtsOk Tryd.prog [(124, appPure sRHalf)] := CtsOk.cons (Pure.ct rhalfP) <| CtsOk.nil _
  refine Pure.of (E := tbT) (C := [(124, appPure sRHalf)]) [] 0 [] tbT_ok hC (by kernel_rfl) Tryd.func105 rfl rfl rfl (by kernel_rfl) (by kernel_rfl) ?_ ?_
  · intro args pre r h
    unfold sRDeep at h
    split at h
    · cases h; rfl
    · cases h
  · intro args pre r h hp
    unfold sRDeep at h
    split at h
    rotate_left
    · cases h
    rename_i n i
    cases h
    have hle : deep n i ≤ 30 := deep_30 n i
    unfold sRHalf
    generalize hg0 : hf = g0
    generalize hg1 : deep = g1
    generalize hL : lft Tryd.prog _ = L
    generalize ho0 : @hf = zo0
    generalize hA : Arith.std = A
    cbv
    subst hA hg0 hg1 hL ho0
    refine Ife.mk (fun h => ?_) (fun h1 => ?_)
    · have h : i < 0 := of_decide_eq_true (p := i < 0) h
      exact (deep_out (by omega)).symm
    replace h1 : ¬ i < 0 := of_decide_eq_false (p := i < 0) h1
    refine Ife.mk (fun h => ?_) (fun h2 => ?_)
    · have h : n ≤ i := of_decide_eq_true (p := n ≤ i) h
      exact (deep_out (by omega)).symm
    replace h2 : ¬ n ≤ i := of_decide_eq_false (p := n ≤ i) h2
    refine Ife.mk (fun h => ?_) (fun h3 => ?_)
    · have h : 1073741824 < n := of_decide_eq_true (p := 1073741824 < n) h
      exact (deep_out (by omega)).symm
    replace h3 : ¬ 1073741824 < n := of_decide_eq_false (p := 1073741824 < n) h3
    show Runs Tryd.prog 0 (.loop _) _ _
    refine loop_ruleR (N := env (lft Tryd.prog 0) 0 .std tbT [(124, appPure sRHalf)] []) rfl tbT_ok hC (fun c st K _ h => h) (by kernel_rfl) [] (X := LDr n i)
      (S := fun x => ⟨[.c (.int .i64 x.n), .c (.int .i64 x.i), .any, .any, .any, .c (.int .i64 x.d)] ++ List.replicate 29 .any, []⟩) (μ := fun x => x.n.toNat) ⟨n, i, 0, by omega, by omega, by omega, by omega, by omega⟩ (by kernel_rfl) [] ?_ ?_
    · refine ⟨rfl, by decide, ?_, ?_⟩ <;> repeat' (first | exact trivial | exact rfl | apply And.intro)
    rintro ⟨m, j, d, hd0, hd, hj0, hj1, hm⟩
    unfold sRHalf
    generalize hg0 : hf = g0
    generalize hg1 : deep = g1
    generalize hL : lft Tryd.prog _ = L
    try dsimp only
    generalize ho0 : @hf = zo0
    generalize hA : Arith.std = A
    cbv
    subst hA hg0 hg1 hL ho0
    replace hd : deep n i = d + deep m j := hd
    have hdn := deep_nonneg m j
    refine Ife.mk (fun h1 => ?_) (fun h1 => ?_)
    · replace h1 : 1 < m := of_decide_eq_true (p := (1 : Int) < m) h1
      have hh := hf_lt (n := m) (by omega) (by omega)
      have hin : 1 < m ∧ m ≤ 1073741824 ∧ 0 ≤ j ∧ j < m := ⟨h1, by omega, by omega, by omega⟩
      refine Need.mk trivial fun _ => ?_
      refine Ife.mk (fun h2 => ?_) (fun h2 => ?_)
      · replace h2 : j < hf m := of_decide_eq_true (p := j < hf m) h2
        refine Need.mk (by show fitStd .i64 (d + 1); unfold fitStd; omega) fun _ => ?_
        refine ⟨⟨hf m, j, d + 1, by omega, by rw [hd, deep_lo hin h2]; omega, by omega, by omega, by omega⟩, [], (by show (hf m).toNat < m.toNat; omega), ?_⟩
        refine ⟨rfl, by decide, ?_, ?_⟩ <;> repeat' (first | exact trivial | exact rfl | apply And.intro)
      · replace h2 : ¬ j < hf m := of_decide_eq_false (p := j < hf m) h2
        refine Need.mk (by show fitStd .i64 (m - hf m); unfold fitStd; omega) fun _ => Need.mk (by show fitStd .i64 (j - hf m); unfold fitStd; omega) fun _ => Need.mk (by show fitStd .i64 (d + 1); unfold fitStd; omega) fun _ => ?_
        refine ⟨⟨m - hf m, j - hf m, d + 1, by omega, by rw [hd, deep_hi hin h2]; omega, by omega, by omega, by omega⟩, [], (by show (m - hf m).toNat < m.toNat; omega), ?_⟩
        refine ⟨rfl, by decide, ?_, ?_⟩ <;> repeat' (first | exact trivial | exact rfl | apply And.intro)
    · replace h1 : ¬ 1 < m := of_decide_eq_false (p := (1 : Int) < m) h1
      show d = deep n i
      rw [hd, deep_out (n := m) (by omega)]
      omega




end Go.Proofs.YthomoliklfmnkaaDoor.Vx
end

section
/- Depths of trees (a seat with sums has them in its trees; old/XVDp.plainseat is for seats without sums). -/
end

section
/- Trees: the document's ways and folds, by the walker. -/
namespace Go.Proofs.YthomoliklfmnkaaDoor.Vx
open Go.RowKit Sha
set_option linter.unusedVariables false
set_option linter.unusedSimpArgs false



theorem fdB_iff {m : Nat} {a i : Int} : fdB m a i = true ↔ (a ≤ 1073741824 ∧ 0 ≤ i ∧ i < a) ∧ (m : Int) = deep a i := by
  unfold fdB
  rw [Bool.and_eq_true, decide_eq_true_iff, inN_iff]


end Go.Proofs.YthomoliklfmnkaaDoor.Vx
end
