/- ProofShows, by the walker. -/
import Derived.Test.YthomoliklfmnkaaDoorM37
import Derived.Test.YthomoliklfmnkaaDoorM25
import Derived.Test.YthomoliklfmnkaaDoorM38
import Derived.Test.YthomoliklfmnkaaDoorM11
import Derived.Test.YthomoliklfmnkaaDoorM39
section
namespace Go.Proofs.YthomoliklfmnkaaDoor.Vx
open Sha
open Go.RowKit
set_option linter.unusedVariables false
set_option linter.unusedSimpArgs false
theorem find_at {L : List PP} (hs : StS L) {i : Nat} (hi : i < L.length) : findB L (prK L i) = true ∧ getL L (prK L i) = prV L i := by
  have h := mem_findB hs (List.getElem_mem hi)
  rw [← prK_eq hi] at h
  refine ⟨h.1, ?_⟩
  unfold getL
  rw [if_pos h.1]
  have e : findI L (prK L i) = i := findI_uniq hs (by omega) (fun j hj => hs.at hj hi) fun j h1 h2 => by
    rcases Nat.eq_or_lt_of_le h1 with h3 | h3
    · subst h3; exact lt_irr _
    · exact lt_asym (hs.at h3 h2)
  rw [e]
structure LSh (L : List PP) (k : List UInt8) (n : Nat) where
  i : Nat
  h1 : i ≤ n


end Go.Proofs.YthomoliklfmnkaaDoor.Vx
end

section
/- Proofs that are accepted at the root of a list are those that are made, or two unlike texts have one sum: the whole, plainly. -/
namespace Go.Proofs.YthomoliklfmnkaaDoor.Vx
open Sha
open Go.RowKit
set_option linter.unusedVariables false
set_option linter.unusedSimpArgs false
theorem mkL_found {R : List PP} {k : List UInt8} (hg : goodL R = true) {i : Nat} (hi : i < R.length) (hk : prK R i = k) : mkL R k = [mkLeaf R i] := by
  obtain ⟨hs, hz⟩ := goodL_iff.1 hg
  have e : findI R k = i := findI_uniq hs (by omega) (fun j hj => by rw [← hk]; exact hs.at hj hi) fun j h1 h2 => by
    rw [← hk]
    rcases Nat.eq_or_lt_of_le h1 with h3 | h3
    · subst h3; exact lt_irr _
    · exact lt_asym (hs.at h3 h2)
  have hf : findB R k = true := by unfold findB; rw [e, decide_eq_true hi, decide_eq_true hk]; rfl
  unfold mkL
  rw [if_pos hg, if_pos hf, e]
theorem findB_no {R : List PP} {k : List UInt8} {i : Nat} (e : findI R k = i) (h : i < R.length → prK R i ≠ k) : ¬ findB R k = true := fun q => by
  obtain ⟨h1, h2⟩ := findB_eq q
  rw [e] at h1 h2
  exact h h1 h2
theorem mkL_first {R : List PP} {k : List UInt8} (hg : goodL R = true) (hi : 0 < R.length) (hk : ltB k (prK R 0) = true) : mkL R k = [mkLeaf R 0] := by
  obtain ⟨hs, hz⟩ := goodL_iff.1 hg
  have e : findI R k = 0 := findI_uniq hs (Nat.zero_le _) (fun j hj => absurd hj (Nat.not_lt_zero j)) fun j h1 h2 => by
    rcases Nat.eq_zero_or_pos j with h3 | h3
    · subst h3; exact lt_asym hk
    · exact lt_asym (lt_trans hk (hs.at h3 h2))
  have hf := findB_no e fun _ h => by rw [h, lt_irr] at hk; cases hk
  unfold mkL
  rw [if_pos hg, if_neg hf, e, if_neg (by omega), if_pos hi]
  rfl
theorem mkL_last {R : List PP} {k : List UInt8} (hg : goodL R = true) {i : Nat} (hi : i + 1 = R.length) (hk : ltB (prK R i) k = true) : mkL R k = [mkLeaf R i] := by
  obtain ⟨hs, hz⟩ := goodL_iff.1 hg
  have e : findI R k = R.length := findI_uniq hs (Nat.le_refl _) (fun j hj => by
    rcases Nat.eq_or_lt_of_le (show j ≤ i by omega) with h3 | h3
    · subst h3; exact hk
    · exact lt_trans (hs.at h3 (by omega)) hk) fun j h1 h2 => by omega
  have hf := findB_no e fun h _ => by omega
  unfold mkL
  rw [if_pos hg, if_neg hf, e, if_pos (by omega), if_neg (by omega), show R.length - 1 = i by omega]
  rfl
theorem mkL_mid {R : List PP} {k : List UInt8} (hg : goodL R = true) {i : Nat} (hi : i + 1 < R.length) (hk : ltB (prK R i) k = true) (hk2 : ltB k (prK R (i + 1)) = true) : mkL R k = [mkLeaf R i, mkLeaf R (i + 1)] := by
  obtain ⟨hs, hz⟩ := goodL_iff.1 hg
  have e : findI R k = i + 1 := findI_uniq hs (by omega) (fun j hj => by
    rcases Nat.eq_or_lt_of_le (show j ≤ i by omega) with h3 | h3
    · subst h3; exact hk
    · exact lt_trans (hs.at h3 (by omega)) hk) fun j h1 h2 => by
      rcases Nat.eq_or_lt_of_le h1 with h3 | h3
      · subst h3; exact lt_asym hk2
      · exact lt_asym (lt_trans hk2 (hs.at h3 h2))
  have hf := findB_no e fun _ h => by rw [h, lt_irr] at hk2; cases hk2
  unfold mkL
  rw [if_pos hg, if_neg hf, e, if_pos (by omega), if_pos hi]
  rfl
theorem forged {R : List PP} {c : Int} {K : List PLeaf} {key : List UInt8} (hs : StS R) (hz : AllSz R) (hm : R.length ≤ 1000000) (hraw : RawP K) (hv : valB (rootL R) c K key = true ∨ lackB (rootL R) c K key = true) (hT : NoClash (inpT R ++ shwT c K)) : c = R.length ∧ K = mkL R key := by
  have hg : goodL R = true := goodL_iff.2 ⟨hs, hz⟩
  have hmay : mayL c K = true := by
    rcases hv with h | h
    · unfold valB at h; rw [Bool.and_eq_true] at h; exact h.1
    · unfold lackB at h; rw [Bool.and_eq_true] at h; exact h.1
  have hun : underB (rootL R) c K = true := by
    rcases hv with h | h
    · unfold valB at h; simp only [Bool.and_eq_true] at h; exact h.2.2.2
    · unfold lackB at h; simp only [Bool.and_eq_true] at h; exact h.2.1
  obtain ⟨⟨hc0, hc1, hl2⟩, hma⟩ := mayL_all hmay
  have all : ∀ x ∈ K, c = R.length ∧ ∃ i, i < R.length ∧ x = mkLeaf R i := fun x hx => by
    obtain ⟨j, hj, e⟩ := List.getElem_of_mem hx
    have e2 : K.getD j .none = x := by simp [List.getD, hj, e]
    have hst := List.all_eq_true.1 hun j (List.mem_range.2 hj)
    unfold stAt at hst
    rw [e2] at hst
    have hA := mayAt_iff.1 (hma j hj)
    unfold lK at hA
    rw [e2] at hA
    refine forged_leaf hT hz hm (fun t ht => List.mem_append_left _ ht) (fun t ht => List.mem_append_right _ ?_) (by omega) (fun h hh => hraw x hx h hh) hst
    unfold shwT
    rw [if_pos hmay]
    exact List.mem_append_right _ (List.mem_flatMap.2 ⟨x, hx, ht⟩)
  match K, all, hv, hl2 with
  | [], _, hv, _ =>
    have hlk : lackE (rootL R) c [] key = true := by
      rcases hv with h | h
      · unfold valB at h; simp at h
      · unfold lackB at h; simp only [Bool.and_eq_true] at h; exact h.2.2
    unfold lackE at hlk
    rw [if_pos (show ([] : List PLeaf).length = 0 from rfl), Bool.and_eq_true, decide_eq_true_iff] at hlk
    obtain ⟨h1, h2⟩ := hlk
    have eR : rootL R = rootF R.length (hashB (topG (lfG R) R.length)) := rfl
    rw [eR, rootF_t _ (by omega), rootF_t _ (by omega)] at h2
    have e1 := hT _ (List.mem_append_left _ (by unfold inpT; simp)) _ (List.mem_append_right _ (by unfold shwT; simp)) h2
    have hn := be8_inj ⟨by omega, by omega⟩ ⟨by omega, by omega⟩ (tRoot_inj e1).1
    have hR : R = [] := List.length_eq_zero_iff.1 (by omega)
    subst hR
    exact ⟨h1, rfl⟩
  | [x], all, hv, _ =>
    obtain ⟨hcn, i, hi, rfl⟩ := all x (by simp)
    refine ⟨hcn, ?_⟩
    rcases hv with h | h
    · unfold valB at h
      simp only [Bool.and_eq_true, decide_eq_true_iff] at h
      exact (mkL_found hg hi h.2.2.1).symm
    · unfold lackB at h
      simp only [Bool.and_eq_true] at h
      have h3 := h.2.2
      unfold lackE at h3
      rw [if_neg (show ¬ [mkLeaf R i].length = 0 from Nat.one_ne_zero), if_pos (show [mkLeaf R i].length = 1 from rfl), Bool.or_eq_true, Bool.and_eq_true, Bool.and_eq_true, decide_eq_true_iff, decide_eq_true_iff] at h3
      rcases h3 with ⟨h4, h5⟩ | ⟨h4, h5⟩
      · have h4 : (i : Int) = 0 := h4
        obtain rfl : i = 0 := by omega
        exact (mkL_first hg hi h5).symm
      · have h4 : (i : Int) = c - 1 := h4
        exact (mkL_last hg (by omega) h5).symm
  | [x, y], all, hv, _ =>
    obtain ⟨hcn, i, hi, rfl⟩ := all x (by simp)
    obtain ⟨_, j, hj, rfl⟩ := all y (by simp)
    refine ⟨hcn, ?_⟩
    have hlk : lackE (rootL R) c [mkLeaf R i, mkLeaf R j] key = true := by
      rcases hv with h | h
      · unfold valB at h; simp at h
      · unfold lackB at h; simp only [Bool.and_eq_true] at h; exact h.2.2
    unfold lackE at hlk
    rw [if_neg (by simp), if_neg (by simp), Bool.and_eq_true, Bool.and_eq_true, decide_eq_true_iff] at hlk
    obtain ⟨h4, h5, h6⟩ := hlk
    have h4 : (j : Int) - (i : Int) = 1 := h4
    obtain rfl : j = i + 1 := by omega
    exact (mkL_mid hg hj h5 h6).symm
  | x :: y :: z :: r, _, _, h => simp at h
/-- Has a list a clash? As the program looks for it. -/
def clashB (T : List (List UInt8)) : Bool := (List.range T.length).any fun i => (List.range i).any fun k => eqH (sumI (T.getD k [])) (sumI (T.getD i [])) && !decide (T.getD k [] = T.getD i [])
theorem clashB_no {T : List (List UInt8)} (h : clashB T = false) : NoClash T := by
  intro a ha b hb e
  obtain ⟨i, hi, rfl⟩ := List.getElem_of_mem ha
  obtain ⟨j, hj, rfl⟩ := List.getElem_of_mem hb
  apply Classical.byContradiction
  intro hne
  have look : ∀ p q : Nat, (hp : p < T.length) → (hq : q < T.length) → p < q → eqH (sumI T[p]) (sumI T[q]) = true → T[p] = T[q] := fun p q hp hq hpq he => by
    apply Classical.byContradiction
    intro hn
    have : clashB T = true := by
      unfold clashB
      rw [List.any_eq_true]
      refine ⟨q, List.mem_range.2 hq, ?_⟩
      rw [List.any_eq_true]
      refine ⟨p, List.mem_range.2 hpq, ?_⟩
      rw [show T.getD p [] = T[p] by simp [List.getD, hp], show T.getD q [] = T[q] by simp [List.getD, hq], he, decide_eq_false hn]
      rfl
    rw [this] at h
    cases h
  rcases Nat.lt_trichotomy i j with h1 | h1 | h1
  · exact hne (look i j hi hj h1 e)
  · subst h1; exact hne rfl
  · refine hne (look j i hj hi h1 ?_).symm
    rw [eqH_iff] at e ⊢
    exact fun m hm => (e m hm).symm
theorem forged_clash {R : List PP} {c : Int} {K : List PLeaf} {key : List UInt8} (hs : StS R) (hz : AllSz R) (hm : R.length ≤ 1000000) (hraw : RawP K) (hv : valB (rootL R) c K key = true ∨ lackB (rootL R) c K key = true) (hne : ¬ (c = mkC R ∧ K = mkL R key)) : clashB (inpT R ++ shwT c K) = true := by
  cases h : clashB (inpT R ++ shwT c K) with
  | true => rfl
  | false =>
    obtain ⟨h1, h2⟩ := forged hs hz hm hraw hv (clashB_no h)
    exact absurd ⟨by unfold mkC; rw [if_pos (goodL_iff.2 ⟨hs, hz⟩)]; exact h1, h2⟩ hne
end Go.Proofs.YthomoliklfmnkaaDoor.Vx
end

section
/- Have two unlike texts one sum? By the walker. -/
namespace Go.Proofs.YthomoliklfmnkaaDoor.Vx
open Sha
open Go.RowKit
set_option linter.unusedVariables false
set_option linter.unusedSimpArgs false
def stOf : List CV → List UInt8
  | [.str s] => s
  | _ => []
/-- The texts that cells hold. -/
def stL (n : Nat) (get : Nat → List CV) : List (List UInt8) := (List.range n).map fun i => stOf (get i)
theorem stL_len {n : Nat} {get : Nat → List CV} : (stL n get).length = n := by simp [stL]
theorem stL_st (T : List (List UInt8)) : stL T.length (stG T) = T := by
  apply List.ext_getElem
  · exact stL_len
  · intro i h1 h2
    simp [stL, stG, stOf, List.getD, h2]
def SmAt (T : List (List UInt8)) : Prop := ∀ t ∈ T, t.length ≤ 100000
def clPre (ty one n : Nat) (get : Nat → List CV) : Prop := ty = 9 ∧ one = 1 ∧ (∀ i, i < n → get i = stG (stL n get) i) ∧ SmAt (stL n get) ∧ n ≤ 1000000
def txA (T : List (List UInt8)) (i : Nat) : List UInt8 := T.getD i []
def sTGP (zp0 : type_of% @txA) (T : List (List UInt8)) (i : Nat) : List CV := [.str (zp0 T i)]
@[reducible] def sTG := sTGP txA
theorem sm_at {T : List (List UInt8)} (h : SmAt T) (i : Nat) : (txA T i).length ≤ 100000 := by
  unfold txA
  by_cases hi : i < T.length
  · rw [List.getD_eq_getElem?_getD, List.getElem?_eq_getElem hi]
    exact h _ (List.getElem_mem hi)
  · rw [List.getD_eq_getElem?_getD, List.getElem?_eq_none (by omega)]
    exact Nat.zero_le _
/-- The sums of texts, as cells. -/
def hsGP (zp0 : type_of% @sumI) (zp1 : type_of% @txA) (T : List (List UInt8)) (i : Nat) : List CV := hashC (zp0 (zp1 T i))
@[reducible] def hsG := hsGP sumI txA
theorem hs_push (T : List (List UInt8)) (j i : Nat) (h : i < j + 1) : pushG j (hsG T) (hashC (sumI (txA T j))) i = hsG T i := by
  unfold pushG
  by_cases hi : i < j
  · rw [show Nat.blt i j = true by rw [Nat.blt_eq]; exact hi]
  · rw [show Nat.blt i j = false by rw [Bool.eq_false_iff]; intro h2; rw [Nat.blt_eq] at h2; exact hi h2]
    obtain rfl : i = j := by omega
    rfl
def clAt (T : List (List UInt8)) (i k : Nat) : Bool := eqH (sumI (txA T k)) (sumI (txA T i)) && !decide (txA T k = txA T i)
theorem clash_yes {T : List (List UInt8)} {i k : Nat} (hi : i < T.length) (hk : k < i) (h : clAt T i k = true) : clashB T = true := by
  unfold clashB
  rw [List.any_eq_true]
  refine ⟨i, List.mem_range.2 hi, ?_⟩
  rw [List.any_eq_true]
  exact ⟨k, List.mem_range.2 hk, h⟩
theorem clash_none {T : List (List UInt8)} (h : ∀ i, i < T.length → ∀ k, k < i → clAt T i k = false) : clashB T = false := by
  cases hb : clashB T with
  | false => rfl
  | true =>
    unfold clashB at hb
    rw [List.any_eq_true] at hb
    obtain ⟨i, hi, h2⟩ := hb
    rw [List.any_eq_true] at h2
    obtain ⟨k, hk, h3⟩ := h2
    have := h i (List.mem_range.1 hi) k (List.mem_range.1 hk)
    rw [show clAt T i k = true from h3] at this
    cases this
structure LCl (T : List (List UInt8)) (n : Nat) where
  j : Nat
  h1 : j ≤ n
  h2 : ∀ i, i < j → ∀ k, k < i → clAt T i k = false
structure LCk (T : List (List UInt8)) (j : Nat) where
  k : Nat
  h1 : k ≤ j
  h2 : ∀ i, i < k → clAt T j i = false
def tbFc : Tbl where
  T :=
    (3, ⟨1, false, [.int .i64 (0)], .int .i64, 8⟩) ::
    (4, ⟨1, false, [.ff], .bool, 1⟩) ::
    (9, ⟨1, false, [.str []], .str, 16⟩) ::
    (49, ⟨1, false, [.val (.slice none 0 0)], .slice 9, 24⟩) ::
    (5, ⟨1, false, [.int .u8 (0)], .int .u8, 1⟩) ::
    (24, ⟨32, true, [.int .u8 (0), .int .u8 (0), .int .u8 (0), .int .u8 (0), .int .u8 (0), .int .u8 (0), .int .u8 (0), .int .u8 (0), .int .u8 (0), .int .u8 (0), .int .u8 (0), .int .u8 (0), .int .u8 (0), .int .u8 (0), .int .u8 (0), .int .u8 (0), .int .u8 (0), .int .u8 (0), .int .u8 (0), .int .u8 (0), .int .u8 (0), .int .u8 (0), .int .u8 (0), .int .u8 (0), .int .u8 (0), .int .u8 (0), .int .u8 (0), .int .u8 (0), .int .u8 (0), .int .u8 (0), .int .u8 (0), .int .u8 (0)], .array 32 5, 32⟩) ::
    (113, ⟨1, false, [.val (.slice none 0 0)], .slice 24, 24⟩) ::
    []
  F :=
    (24, [0, 0, 0, 0, 0, 0, 0, 0, 0, 0, 0, 0, 0, 0, 0, 0, 0, 0, 0, 0, 0, 0, 0, 0, 0, 0, 0, 0, 0, 0, 0, 0]) ::
    []

theorem tbFc_ok : tbFc.Ok Tryd.prog where
  T :=
    TblOk.cons (by kernel_rfl) <|
    TblOk.cons (by kernel_rfl) <|
    TblOk.cons (by kernel_rfl) <|
    TblOk.cons (by kernel_rfl) <|
    TblOk.cons (by kernel_rfl) <|
    TblOk.cons (by kernel_rfl) <|
    TblOk.cons (by kernel_rfl) <|
    TblOk.nil _
  F :=
    FlatsOk.cons (FlatOk.of (D := .array 32 5) 6 (by decide) (by kernel_rfl) (by kernel_rfl) rfl (by kernel_rfl)) <|
    FlatsOk.nil _

def sClash : SpecF
  | [.c (.row 0)], [.elems ty one n get] => some (clPre ty one n get, .c (.bool (clashB (stL n get))), [.dead])
  | _, _ => none

set_option maxRecDepth 100000 in
set_option maxHeartbeats 16000000 in
theorem clashP : Fn Tryd.prog 33 [] [(9, 1)] sClash := by
  have hC : CtsOk Tryd.prog [(92, appPure sRSum)] := CtsOk.cons (Pure.ct rsumP) <| CtsOk.nil _
  refine Fn.of (E := tbFc) [] 0 [(9, [(0, true), (1, true), (2, true), (3, true), (4, true), (5, true), (6, true), (7, true), (8, true), (9, true), (10, true), (11, true), (12, true), (13, true), (14, true), (15, true), (16, true), (17, true), (18, true), (19, true)])] tbFc_ok hC (by kernel_rfl) Tryd.func33 rfl rfl rfl (by kernel_rfl) (by kernel_rfl) 1 24 32 ?_ ?_
  · intro args h pre r h' hs
    unfold sClash at hs
    split at hs
    · cases hs; exact ⟨rfl, rfl, Nat.le_of_ble_eq_true rfl⟩
    · cases hs
  · intro args h pre r h' hs hp
    unfold sClash at hs
    split at hs
    rotate_left
    · cases hs
    rename_i ty one n get
    cases hs
    obtain ⟨rfl, rfl, hst, hsm, hm⟩ := hp
    refine ⟨[.elems 9 1 n (sTG (stL n get))], ⟨⟨rfl, rfl, rfl, fun i hi => hst i hi⟩, trivial⟩, ?_⟩
    have hL : (stL n get).length = n := stL_len
    generalize stL n get = T at hL hsm ⊢
    unfold sRSum
    generalize hg0 : (List.length : List UInt8 → Nat) = g0
    generalize hL : lft Tryd.prog _ = L
    try unfold sTG
    try unfold hsG
    generalize ho0 : @sumI = zo0, ho1 : @eqH = zo1, ho2 : @rsumPre = zo2, ho3 : @stL = zo3, ho4 : @clPre = zo4, ho5 : @clAt = zo5, ho6 : @clashB = zo6, ho7 : @txA = zo7
    generalize hA : Arith.std = A
    cbv
    subst hA hg0 hL ho0 ho1 ho2 ho3 ho4 ho5 ho6 ho7
    refine Runs.nilTmp 3 24 32 (hsG T) rfl ?_
    show Runs Tryd.prog 1 (.loop _) _ _
    refine loop_ruleR (N := env (lft Tryd.prog 1) 0 .std tbFc [(92, appPure sRSum)] [(9, [(0, true), (1, true), (2, true), (3, true), (4, true), (5, true), (6, true), (7, true), (8, true), (9, true), (10, true), (11, true), (12, true), (13, true), (14, true), (15, true), (16, true), (17, true), (18, true), (19, true)])]) rfl tbFc_ok hC (fun c st K _ h => h) (by kernel_rfl) [] (X := LCl T n)
      (S := fun x => ⟨[.c (.row 0), .any, .any, .c (.row 1), .c (.int .i64 (x.j : Int))] ++ List.replicate 40 .any, [.elems 9 1 n (sTG T), .row 24 32 x.j (hsG T)]⟩) (μ := fun x => n - x.j) ⟨0, Nat.zero_le _, fun i hi => absurd hi (Nat.not_lt_zero _)⟩ (by kernel_rfl) [0, 1] ?h0 ?rd
    case h0 =>
      refine ⟨rfl, by decide, ?_, ?_⟩ <;> repeat' (first | exact trivial | exact rfl | apply And.intro | exact (fun _ _ _ _ => Cell.le_refl _) | (intro i hi; rfl) | (intro i hi; exact absurd hi (Nat.not_lt_zero _)))
    case rd =>
      rintro ⟨j, hjn, hno⟩
      unfold sRSum
      generalize hg0 : (List.length : List UInt8 → Nat) = g0
      generalize hL : lft Tryd.prog _ = L
      try dsimp only
      try unfold sTG
      try unfold hsG
      generalize ho0 : @sumI = zo0, ho1 : @eqH = zo1, ho2 : @rsumPre = zo2, ho3 : @stL = zo3, ho4 : @clPre = zo4, ho5 : @clAt = zo5, ho6 : @clashB = zo6, ho7 : @txA = zo7
      generalize hA : Arith.std = A
      cbv
      subst hA hg0 hL ho0 ho1 ho2 ho3 ho4 ho5 ho6 ho7
      refine Ife.mk (fun h => ?_) (fun h => ?_)
      · have h : (j : Int) < (@Nat.cast Int instNatCastInt n) := of_decide_eq_true (p := (j : Int) < (n : Int)) h
        have hj2 : j < n := Int.ofNat_lt.mp h
        have hp := hs_push T j
        have s1 := sm_at hsm j
        refine Need.mk (by show 0 ≤ (j : Int) ∧ (j : Int) < (n : Int); omega) fun _ => Need.mk (by show (j : Int).toNat < n; omega) fun _ => Need.mk (by show (txA T j).length ≤ 140737488350000; omega) fun _ => Need.mk (by show j + 1 ≤ maxLen ∧ (j + 1) * 32 ≤ 140737488355328; unfold maxLen; omega) fun _ => ?_
        show Runs Tryd.prog 1 (.loop _) _ _
        refine loop_ruleR (N := env (lft Tryd.prog 1) 0 .std tbFc [(92, appPure sRSum)] [(9, [(0, true), (1, true), (2, true), (3, true), (4, true), (5, true), (6, true), (7, true), (8, true), (9, true), (10, true), (11, true), (12, true), (13, true), (14, true), (15, true), (16, true), (17, true), (18, true), (19, true)])]) rfl tbFc_ok hC (fun c st K _ h => h) (by kernel_rfl) [] (X := LCk T j)
          (S := fun x => ⟨[.c (.row 0), .any, .any, .c (.row 1), .c (.int .i64 (j : Int)), .c (.int .i64 (x.k : Int))] ++ List.replicate 39 .any, [.elems 9 1 n (sTG T), .row 24 32 (j + 1) (hsG T)]⟩) (μ := fun x => j - x.k) ⟨0, Nat.zero_le _, fun i hi => absurd hi (Nat.not_lt_zero _)⟩ (by kernel_rfl) [0, 3] ?g0 ?rd2
        case g0 =>
          refine ⟨rfl, by decide, ?_, ?_⟩ <;> repeat' (first | exact trivial | exact hp | exact rfl | apply And.intro | exact (fun _ _ _ _ => Cell.le_refl _) | (intro i hi; rfl) | (intro i hi; exact absurd hi (Nat.not_lt_zero _)))
        case rd2 =>
          rintro ⟨k, hkj, hnk⟩
          unfold sRSum
          generalize hg0 : (List.length : List UInt8 → Nat) = g0
          generalize hL : lft Tryd.prog _ = L
          try dsimp only
          try unfold sTG
          try unfold hsG
          generalize ho0 : @sumI = zo0, ho1 : @eqH = zo1, ho2 : @rsumPre = zo2, ho3 : @stL = zo3, ho4 : @clPre = zo4, ho5 : @clAt = zo5, ho6 : @clashB = zo6, ho7 : @txA = zo7
          generalize hA : Arith.std = A
          cbv
          subst hA hg0 hL ho0 ho1 ho2 ho3 ho4 ho5 ho6 ho7
          refine Ife.mk (fun h => ?_) (fun h => ?_)
          · have h : (k : Int) < (j : Int) := of_decide_eq_true (p := (k : Int) < (j : Int)) h
            have hk2 : k < j := Int.ofNat_lt.mp h
            refine Need.mk (by show 0 ≤ (k : Int) ∧ (k : Int) < ((j + 1 : Nat) : Int); omega) fun _ => Need.mk (by show (k : Int).toNat < j + 1; omega) fun _ => Need.mk (by show 0 ≤ (j : Int) ∧ (j : Int) < ((j + 1 : Nat) : Int); omega) fun _ => Need.mk (by show (j : Int).toNat < j + 1; omega) fun _ => ?_
            have nx : clAt T j k = false → ∀ i, i < k + 1 → clAt T j i = false := fun hc i hi => by
              by_cases hik : i = k
              · rw [hik]; exact hc
              · exact hnk i (by omega)
            refine Ife.mk (fun hq => ?_) (fun hq => ?_)
            · have hq : eqH (sumI (txA T k)) (sumI (txA T j)) = true := hq
              refine Need.mk (by show 0 ≤ (k : Int) ∧ (k : Int) < (n : Int); omega) fun _ => Need.mk (by show (k : Int).toNat < n; omega) fun _ => Need.mk (by show 0 ≤ (j : Int) ∧ (j : Int) < (n : Int); omega) fun _ => Need.mk (by show (j : Int).toNat < n; omega) fun _ => ?_
              refine Ife.mk (fun hn => ?_) (fun hn => ?_)
              · have hn : (!decide (txA T k = txA T j)) = true := hn
                rw [clash_yes (i := j) (k := k) (by omega) hk2 (by unfold clAt; rw [hq, hn]; rfl)]
                exact ⟨[0], ⟨rfl, (by repeat' (first | exact trivial | exact rfl | apply And.intro | exact (fun _ _ _ _ => Cell.le_refl _) | (intro i hi; rfl) | (intro i hi; exact absurd hi (Nat.not_lt_zero _)))), (by decide), rfl, by repeat' (first | exact trivial | exact rfl | apply And.intro | exact (fun _ _ _ _ => Cell.le_refl _) | (intro i hi; rfl) | (intro i hi; exact absurd hi (Nat.not_lt_zero _)))⟩⟩
              · have hn : (!decide (txA T k = txA T j)) = false := hn
                refine Need.mk (by show fitStd .i64 ((k : Int) + 1); unfold fitStd; omega) fun _ => ?_
                refine ⟨⟨k + 1, by omega, nx (by unfold clAt; rw [hq, hn]; rfl)⟩, [0, 1], (by show j - (k + 1) < j - k; omega), ?_⟩
                refine ⟨rfl, (by decide), ?_, ?_⟩ <;> repeat' (first | exact trivial | exact rfl | apply And.intro | exact (fun _ _ _ _ => Cell.le_refl _) | (intro i hi; rfl) | (intro i hi; exact absurd hi (Nat.not_lt_zero _)))
            · have hq : eqH (sumI (txA T k)) (sumI (txA T j)) = false := hq
              refine Need.mk (by show fitStd .i64 ((k : Int) + 1); unfold fitStd; omega) fun _ => ?_
              refine ⟨⟨k + 1, by omega, nx (by unfold clAt; rw [hq]; rfl)⟩, [0, 1], (by show j - (k + 1) < j - k; omega), ?_⟩
              refine ⟨rfl, (by decide), ?_, ?_⟩ <;> repeat' (first | exact trivial | exact rfl | apply And.intro | exact (fun _ _ _ _ => Cell.le_refl _) | (intro i hi; rfl) | (intro i hi; exact absurd hi (Nat.not_lt_zero _)))
          · have h : ¬ (k : Int) < (j : Int) := of_decide_eq_false (p := (k : Int) < (j : Int)) h
            obtain rfl : k = j := by have : ¬ k < j := fun q => h (Int.ofNat_lt.mpr q)
                                     omega
            refine Need.mk (by show fitStd .i64 ((k : Int) + 1); unfold fitStd; omega) fun _ => ?_
            refine ⟨⟨k + 1, by omega, fun i hi => ?_⟩, [0, 1], (by show n - (k + 1) < n - k; omega), ?_⟩
            · by_cases hik : i = k
              · rw [hik]; exact hnk
              · exact hno i (by omega)
            refine ⟨rfl, (by decide), ?_, ?_⟩ <;> repeat' (first | exact trivial | exact rfl | apply And.intro | exact (fun _ _ _ _ => Cell.le_refl _) | (intro i hi; rfl) | (intro i hi; exact absurd hi (Nat.not_lt_zero _)))
      · have h : ¬ (j : Int) < (@Nat.cast Int instNatCastInt n) := of_decide_eq_false (p := (j : Int) < (n : Int)) h
        obtain rfl : j = n := by have : ¬ j < n := fun q => h (Int.ofNat_lt.mpr q)
                                 omega
        rw [clash_none (fun i hi k hk => hno i (by omega) k hk)]
        exact ⟨[0], ⟨rfl, (by repeat' (first | exact trivial | exact rfl | apply And.intro | exact (fun _ _ _ _ => Cell.le_refl _) | (intro i hi; rfl) | (intro i hi; exact absurd hi (Nat.not_lt_zero _)))), (by decide), rfl, by repeat' (first | exact trivial | exact rfl | apply And.intro | exact (fun _ _ _ _ => Cell.le_refl _) | (intro i hi; rfl) | (intro i hi; exact absurd hi (Nat.not_lt_zero _)))⟩⟩

end Go.Proofs.YthomoliklfmnkaaDoor.Vx
end
