/- Trees: a leaf and its way come to the top: plain laws. -/
import Derived.Test.YtophhppklaofaaaDoorVTree7
namespace Go.Proofs.YtophhppklaofaaaDoor.Vx
open Go.RowKit Sha
set_option linter.unusedVariables false
set_option linter.unusedSimpArgs false
theorem way_one (h : Nat → Nat → Int) (lo : Nat) (i : Int) (n : Nat) (hn : ¬ (1 < n ∧ n ≤ 1073741824 ∧ 0 ≤ i ∧ i < (n : Int))) : wayR h lo n i = [] := by rw [wayR, dif_neg hn]
theorem way_lo (h : Nat → Nat → Int) (lo : Nat) (i : Int) (n : Nat) (hc : 1 < n ∧ n ≤ 1073741824 ∧ 0 ≤ i ∧ i < (n : Int)) (hi : i < hf n) : wayR h lo n i = wayR h lo (hf n).toNat i ++ [topR h (lo + (hf n).toNat) (n - (hf n).toNat)] := by rw [wayR, dif_pos hc, if_pos hi]
theorem way_hi (h : Nat → Nat → Int) (lo : Nat) (i : Int) (n : Nat) (hc : 1 < n ∧ n ≤ 1073741824 ∧ 0 ≤ i ∧ i < (n : Int)) (hi : ¬ i < hf n) : wayR h lo n i = wayR h (lo + (hf n).toNat) (n - (hf n).toNat) (i - hf n) ++ [topR h lo (hf n).toNat] := by rw [wayR, dif_pos hc, if_neg hi]
theorem top_two (h : Nat → Nat → Int) (lo n : Nat) (h2 : 2 ≤ n) (h3 : n ≤ 1073741824) : topR h lo n = nodeF (hashB (topR h lo (hf n).toNat)) (hashB (topR h (lo + (hf n).toNat) (n - (hf n).toNat))) := by rw [topR, dif_neg (by omega)]
theorem way_len (h : Nat → Nat → Int) : ∀ (n lo : Nat) (i : Int), n ≤ 1073741824 → ((wayR h lo n i).length : Int) = deep n i := by
  intro n
  induction n using Nat.strongRecOn with
  | ind n ih =>
    intro lo i hn
    by_cases hc : 1 < n ∧ n ≤ 1073741824 ∧ 0 ≤ i ∧ i < (n : Int)
    · have hh := hf_lt (n := (n : Int)) (by omega) (by omega)
      have hc' : 1 < (n : Int) ∧ (n : Int) ≤ 1073741824 ∧ 0 ≤ i ∧ i < (n : Int) := by omega
      by_cases hi : i < hf n
      · have e := ih (hf n).toNat (by omega) lo i (by omega)
        rw [show (((hf (n : Int)).toNat : Nat) : Int) = hf n by omega] at e
        rw [way_lo h lo i n hc hi, deep_lo hc' hi, List.length_append, List.length_singleton, ← e]
        omega
      · have e := ih (n - (hf n).toNat) (by omega) (lo + (hf n).toNat) (i - hf n) (by omega)
        rw [show ((n - (hf (n : Int)).toNat : Nat) : Int) = (n : Int) - hf n by omega] at e
        rw [way_hi h lo i n hc hi, deep_hi hc' hi, List.length_append, List.length_singleton, ← e]
        omega
    · rw [way_one h lo i n hc, deep_out (by omega)]
      rfl
theorem getD_lt {l : List (Nat → Int)} {x d : Nat → Int} {j : Nat} (h : j < l.length) : (l ++ [x]).getD j d = l.getD j d := by simp [List.getD, List.getElem?_append_left h]
theorem getD_end (l : List (Nat → Int)) (x d : Nat → Int) : (l ++ [x]).getD l.length d = x := by simp [List.getD]
/-- A leaf and its way come to the top of the list with that leaf. -/
theorem fold_way (h : Nat → Nat → Int) (leaf : Nat → Int) : ∀ (n lo : Nat) (i : Int), 0 ≤ i → i < (n : Int) → n ≤ 1073741824 →
    foldR (fun j => (wayR h lo n i).getD j fun _ => 0) leaf (wayR h lo n i).length n i = topR (fun j => if j = lo + i.toNat then leaf else h j) lo n := by
  intro n
  induction n using Nat.strongRecOn with
  | ind n ih =>
    intro lo i h0 h1 h2
    by_cases hn : n < 2
    · rw [way_one h lo i n (by omega), topR, dif_pos (Or.inl hn), if_neg (by omega)]
      show leaf = if lo = lo + i.toNat then leaf else h lo
      rw [if_pos (by omega)]
    · have hh := hf_lt (n := (n : Int)) (by omega) (by omega)
      have hc : 1 < n ∧ n ≤ 1073741824 ∧ 0 ≤ i ∧ i < (n : Int) := by omega
      by_cases hi : i < hf n
      · rw [way_lo h lo i n hc hi, List.length_append, List.length_singleton, top_two _ lo n (by omega) h2]
        rw [show foldR (fun j => (wayR h lo (hf n).toNat i ++ [topR h (lo + (hf n).toNat) (n - (hf n).toNat)]).getD j fun _ => 0) leaf ((wayR h lo (hf n).toNat i).length + 1) n i =
          nodeF (hashB (foldR (fun j => (wayR h lo (hf n).toNat i ++ [topR h (lo + (hf n).toNat) (n - (hf n).toNat)]).getD j fun _ => 0) leaf (wayR h lo (hf n).toNat i).length (hf n) i)) (hashB ((wayR h lo (hf n).toNat i ++ [topR h (lo + (hf n).toNat) (n - (hf n).toNat)]).getD (wayR h lo (hf n).toNat i).length fun _ => 0)) by
            rw [foldR, if_pos hi]]
        rw [getD_end, foldR_congr leaf _ _ _ (fun j hj => getD_lt hj)]
        have e := ih (hf n).toNat (by omega) lo i h0 (by omega) (by omega)
        rw [show (((hf (n : Int)).toNat : Nat) : Int) = hf n by omega] at e
        rw [e]
        congr 2
        refine topR_congr _ _ fun j hj1 hj2 => ?_
        rw [if_neg (by omega)]
      · rw [way_hi h lo i n hc hi, List.length_append, List.length_singleton, top_two _ lo n (by omega) h2]
        rw [show foldR (fun j => (wayR h (lo + (hf n).toNat) (n - (hf n).toNat) (i - hf n) ++ [topR h lo (hf n).toNat]).getD j fun _ => 0) leaf ((wayR h (lo + (hf n).toNat) (n - (hf n).toNat) (i - hf n)).length + 1) n i =
          nodeF (hashB ((wayR h (lo + (hf n).toNat) (n - (hf n).toNat) (i - hf n) ++ [topR h lo (hf n).toNat]).getD (wayR h (lo + (hf n).toNat) (n - (hf n).toNat) (i - hf n)).length fun _ => 0)) (hashB (foldR (fun j => (wayR h (lo + (hf n).toNat) (n - (hf n).toNat) (i - hf n) ++ [topR h lo (hf n).toNat]).getD j fun _ => 0) leaf (wayR h (lo + (hf n).toNat) (n - (hf n).toNat) (i - hf n)).length (n - hf n) (i - hf n))) by
            rw [foldR, if_neg hi]]
        rw [getD_end, foldR_congr leaf _ _ _ (fun j hj => getD_lt hj)]
        have e := ih (n - (hf n).toNat) (by omega) (lo + (hf n).toNat) (i - hf n) (by omega) (by omega) (by omega)
        rw [show ((n - (hf (n : Int)).toNat : Nat) : Int) = (n : Int) - hf n by omega] at e
        rw [e, show lo + (hf (n : Int)).toNat + (i - hf (n : Int)).toNat = lo + i.toNat by omega]
        congr 2
        refine topR_congr _ _ fun j hj1 hj2 => ?_
        rw [if_neg (by omega)]
/-- The way does not hang on the leaf. -/
theorem way_other (h h' : Nat → Nat → Int) : ∀ (n lo : Nat) (i : Int), (∀ j, lo ≤ j → j < lo + n → j ≠ lo + i.toNat → h j = h' j) → wayR h lo n i = wayR h' lo n i := by
  intro n
  induction n using Nat.strongRecOn with
  | ind n ih =>
    intro lo i hj
    by_cases hc : 1 < n ∧ n ≤ 1073741824 ∧ 0 ≤ i ∧ i < (n : Int)
    · have hh := hf_lt (n := (n : Int)) (by omega) (by omega)
      by_cases hi : i < hf n
      · rw [way_lo h lo i n hc hi, way_lo h' lo i n hc hi, ih (hf n).toNat (by omega) lo i (fun j a b c => hj j a (by omega) c), topR_congr (h := h) (h' := h') _ _ (fun j a b => hj j (by omega) (by omega) (by omega))]
      · rw [way_hi h lo i n hc hi, way_hi h' lo i n hc hi, ih (n - (hf n).toNat) (by omega) (lo + (hf n).toNat) (i - hf n) (fun j a b c => hj j (by omega) (by omega) (by omega)), topR_congr (h := h) (h' := h') _ _ (fun j a b => hj j (by omega) (by omega) (by omega))]
    · rw [way_one h lo i n hc, way_one h' lo i n hc]
end Go.Proofs.YtophhppklaofaaaDoor.Vx
