/- Proofs that may be; light proofs, by the walker. -/
import Derived.Test.YthomoliklfmnkaaDoorM26
import Derived.Test.YthomoliklfmnkaaDoorM22
import Derived.Test.YthomoliklfmnkaaDoorM25
section
namespace Go.Proofs.YthomoliklfmnkaaDoor.Vx
open Go.RowKit
set_option linter.unusedVariables false
set_option linter.unusedSimpArgs false
/-- So far all is well. -/
structure LIx (n : Nat) (P : Nat → Bool) where
  i : Int
  h0 : 0 ≤ i
  h1 : i ≤ (n : Int)
  h2 : ∀ k, k < i.toNat → P k = true
theorem all_no {n : Nat} {P : Nat → Bool} {i : Nat} (hi : i < n) (h : ¬ P i = true) : (List.range n).all P = false := by
  rw [Bool.eq_false_iff]
  intro h2
  exact h (List.all_eq_true.1 h2 i (List.mem_range.2 hi))
theorem all_yes {n : Nat} {P : Nat → Bool} {j : Nat} (h : ∀ k, k < j → P k = true) (hj : n ≤ j) : (List.range n).all P = true := List.all_eq_true.2 fun k hk => h k (by have := List.mem_range.1 hk; omega)
theorem lix_next {P : Nat → Bool} {i : Int} (h0 : 0 ≤ i) (h : ∀ k, k < i.toNat → P k = true) (hi : P i.toNat = true) : ∀ k, k < (i + 1).toNat → P k = true := fun k hk => by
  rcases Nat.lt_or_ge k i.toNat with h1 | h1
  · exact h k h1
  · rw [show k = i.toNat by omega]; exact hi
def mayAt (c : Int) (L : List PLeaf) (i : Nat) : Bool := sizedB (lK L i) (lV L i) && (decide (0 ≤ lI L i) && (decide (lI L i < c) && decide ((lN L i : Int) = deep c (lI L i))))
def mayL (c : Int) (L : List PLeaf) : Bool := decide (0 ≤ c) && (decide (c ≤ 1073741824) && (decide (L.length ≤ 2) && (List.range L.length).all (mayAt c L)))
theorem sizedB_iff {k v : List UInt8} : sizedB k v = true ↔ (1 ≤ k.length ∧ k.length ≤ 160) ∧ 1 ≤ v.length ∧ v.length ≤ 64 := by simp [sizedB]
theorem mayAt_iff {c : Int} {L : List PLeaf} {i : Nat} : mayAt c L i = true ↔ ((1 ≤ (lK L i).length ∧ (lK L i).length ≤ 160) ∧ 1 ≤ (lV L i).length ∧ (lV L i).length ≤ 64) ∧ 0 ≤ lI L i ∧ lI L i < c ∧ (lN L i : Int) = deep c (lI L i) := by
  unfold mayAt
  rw [Bool.and_eq_true, sizedB_iff]
  simp only [Bool.and_eq_true, decide_eq_true_iff]
theorem mayL_no {c : Int} {L : List PLeaf} (h : ¬ (0 ≤ c ∧ c ≤ 1073741824 ∧ L.length ≤ 2)) : mayL c L = false := by
  rw [Bool.eq_false_iff]
  intro h2
  simp only [mayL, Bool.and_eq_true, decide_eq_true_iff] at h2
  exact h ⟨h2.1, h2.2.1, h2.2.2.1⟩
theorem mayL_at {c : Int} {L : List PLeaf} {i : Nat} (hi : i < L.length) (h : ¬ mayAt c L i = true) : mayL c L = false := by
  unfold mayL
  rw [all_no hi h]
  simp
theorem mayL_yes {c : Int} {L : List PLeaf} (h : 0 ≤ c ∧ c ≤ 1073741824 ∧ L.length ≤ 2) {j : Nat} (h2 : ∀ k, k < j → mayAt c L k = true) (hj : L.length ≤ j) : mayL c L = true := by
  unfold mayL
  rw [all_yes h2 hj]
  simp only [Bool.and_eq_true, decide_eq_true_iff, and_true]
  exact h
def lightAt (L : List PLeaf) (i : Nat) : Bool := decide ((lK L i).length ≤ 400) && (decide ((lV L i).length ≤ 400) && decide (lN L i ≤ 40))
theorem lightAt_iff {L : List PLeaf} {i : Nat} : lightAt L i = true ↔ (lK L i).length ≤ 400 ∧ (lV L i).length ≤ 400 ∧ lN L i ≤ 40 := by simp [lightAt]
def lightL (l : List PLeaf) : Bool := decide (l.length ≤ 5) && (List.range l.length).all (lightAt l)
theorem lightL_at {L : List PLeaf} {i : Nat} (hi : i < L.length) (h : ¬ lightAt L i = true) : lightL L = false := by
  unfold lightL
  rw [all_no hi h]
  simp
theorem lightL_yes {L : List PLeaf} (h : L.length ≤ 5) {j : Nat} (h2 : ∀ k, k < j → lightAt L k = true) (hj : L.length ≤ j) : lightL L = true := by
  unfold lightL
  rw [all_yes h2 hj]
  simpa using h
/-- Leaves of any size. -/
def leavesAt0 (ty sz n : Nat) (get : Nat → Nat → Cell) : Prop := ty = 115 ∧ sz = 4 ∧ LeavesAt n get
theorem leafL_congr {n : Nat} {g k : Nat → Nat → Cell} (h : ∀ i j, i < n → j < 4 → g i j = k i j) : leafL n g = leafL n k := by
  unfold leafL
  apply List.map_congr_left
  intro i hi
  have hi : i < n := by simpa using hi
  unfold leafOf
  rw [h i 0 hi (by omega), h i 1 hi (by omega), h i 2 hi (by omega), h i 3 hi (by omega)]
theorem leaves0 {n : Nat} {get : Nat → Nat → Cell} (h : LeavesAt n get) : leafL n (fun i j => (leafG false (leafL n get) i j).old) = leafL n get := leafL_congr fun i j hi hj => by rw [leafG_old, ← h i j hi hj]
theorem leavesAt0_of {n : Nat} {L : List PLeaf} (h : leafL n (fun i j => (leafG false L i j).old) = L) : leavesAt0 115 4 n fun i j => (leafG false L i j).old := ⟨rfl, rfl, fun i j hi hj => by rw [h]; exact leafG_old⟩
def sLightPr : SpecF
  | [.agg [.int .i64 c, .row 0]], [.data fr ty sz n get] => some (leavesAt0 ty sz n get, .c (.bool (lightL (leafL n get))), [.dead])
  | _, _ => none

set_option maxRecDepth 100000 in
set_option maxHeartbeats 4000000 in
theorem lightPrP : Fn Tryd.prog 15 [] [(115, 204)] sLightPr := by
  have hC : CtsOk Tryd.prog [] := CtsOk.nil _
  refine Fn.of (E := tbP) [] 0 [] tbP_ok hC (by kernel_rfl) Tryd.func15 rfl rfl rfl (by kernel_rfl) (by kernel_rfl) 1 5 1 ?_ ?_
  · intro args h pre r h' hs
    unfold sLightPr at hs
    split at hs
    · cases hs; exact ⟨rfl, rfl, Nat.le_of_ble_eq_true rfl⟩
    · cases hs
  · intro args h pre r h' hs hp
    unfold sLightPr at hs
    split at hs
    rotate_left
    · cases hs
    rename_i c fr ty sz n get
    cases hs
    obtain ⟨rfl, rfl, hst⟩ := hp
    refine ⟨[.data fr 115 4 n (leafG false (leafL n get))], ⟨⟨rfl, rfl, rfl, rfl, fun i j hi hj => by rw [hst i j hi hj]; exact Cell.le_refl _⟩, trivial⟩, ?_⟩
    have hL : (leafL n get).length = n := leafL_len
    generalize leafL n get = L at hL ⊢
    generalize hg0 : (List.length : List UInt8 → Nat) = g0
    generalize hL : lft Tryd.prog _ = L
    try unfold leafG
    generalize ho0 : @lK = zo0, ho1 : @lV = zo1, ho2 : @lI = zo2, ho3 : @lP = zo3, ho4 : @lN = zo4, ho5 : @pG = zo5, ho6 : @leafL = zo6, ho7 : @lightAt = zo7, ho8 : @lightL = zo8, ho9 : @leavesAt0 = zo9
    generalize hA : Arith.std = A
    cbv
    subst hA hg0 hL ho0 ho1 ho2 ho3 ho4 ho5 ho6 ho7 ho8 ho9
    refine Ife.mk (fun h => ?_) (fun h => ?_)
    · have h : (5 : Int) < (@Nat.cast Int instNatCastInt n) := of_decide_eq_true (p := (5 : Int) < (n : Int)) h
      rw [show lightL L = false by unfold lightL; rw [decide_eq_false (by omega)]; rfl]
      exact ⟨[0], ⟨rfl, by repeat' (first | exact trivial | exact rfl | apply And.intro | exact (fun _ _ _ _ => Cell.le_refl _) | (intro i hi; rfl) | (intro i hi; exact absurd hi (Nat.not_lt_zero _))), by decide, rfl, by repeat' (first | exact trivial | exact rfl | apply And.intro | exact (fun _ _ _ _ => Cell.le_refl _) | (intro i hi; rfl) | (intro i hi; exact absurd hi (Nat.not_lt_zero _)))⟩⟩
    have h : ¬ ((5 : Int) < (@Nat.cast Int instNatCastInt n)) := of_decide_eq_false (p := (5 : Int) < (n : Int)) h
    replace h := And.intro h trivial
    obtain ⟨hc0, _⟩ := h
    show Runs Tryd.prog 1 (.loop _) _ _
    refine loop_ruleR (N := env (lft Tryd.prog 1) 0 .std tbP [] []) rfl tbP_ok hC (fun c st K _ h => h) (by kernel_rfl) [] (X := LIx n (lightAt L))
      (S := fun x => ⟨[.any, .c (.ptr 1 0), .any, .c (.int .i64 x.i)] ++ List.replicate 33 .any, [.data fr 115 4 n (leafG false L), .cells 27 [.int .i64 c, .row 0]]⟩) (μ := fun x => n - x.i.toNat) ⟨0, by omega, by omega, fun k hk => absurd hk (by omega)⟩ (by kernel_rfl) [0, 1] ?_ ?_
    · refine ⟨rfl, by decide, ?_, ?_⟩ <;> repeat' (first | exact trivial | exact rfl | apply And.intro | exact (fun _ _ _ _ => Cell.le_refl _) | (intro i hi; rfl) | (intro i hi; exact absurd hi (Nat.not_lt_zero _)))
    rintro ⟨i, hi0, hin, hP⟩
    generalize hg0 : (List.length : List UInt8 → Nat) = g0
    generalize hL : lft Tryd.prog _ = L
    try dsimp only
    try unfold leafG
    generalize ho0 : @lK = zo0, ho1 : @lV = zo1, ho2 : @lI = zo2, ho3 : @lP = zo3, ho4 : @lN = zo4, ho5 : @pG = zo5, ho6 : @leafL = zo6, ho7 : @lightAt = zo7, ho8 : @lightL = zo8, ho9 : @leavesAt0 = zo9
    generalize hA : Arith.std = A
    cbv
    subst hA hg0 hL ho0 ho1 ho2 ho3 ho4 ho5 ho6 ho7 ho8 ho9
    try replace hc0 : ¬ ((5 : Int) < (@Nat.cast Int instNatCastInt n)) := hc0
    replace hi0 : 0 ≤ i := hi0
    replace hin : i ≤ @Nat.cast Int instNatCastInt n := hin
    replace hP : ∀ k, k < i.toNat → lightAt L k = true := hP
    refine Ife.mk (fun hlt => ?_) (fun hlt => ?_)
    · replace hlt : i < @Nat.cast Int instNatCastInt n := of_decide_eq_true (p := i < (n : Int)) hlt
      have hiL : i.toNat < L.length := by omega
      refine Need.mk (by show 0 ≤ i ∧ i < (n : Int); omega) fun _ => Need.mk (by show i.toNat < n; omega) fun _ => ?_
      refine Ife.mk (fun h => ?_) (fun h => ?_)
      · have h : (400 : Int) < ((lK L i.toNat).length : Int) := of_decide_eq_true (p := (400 : Int) < ((lK L i.toNat).length : Int)) h
        rw [show lightL L = false from lightL_at hiL fun hh => by have hh := lightAt_iff.1 hh; omega]
        exact ⟨[0], ⟨rfl, by repeat' (first | exact trivial | exact rfl | apply And.intro | exact (fun _ _ _ _ => Cell.le_refl _) | (intro i hi; rfl) | (intro i hi; exact absurd hi (Nat.not_lt_zero _))), by decide, rfl, by repeat' (first | exact trivial | exact rfl | apply And.intro | exact (fun _ _ _ _ => Cell.le_refl _) | (intro i hi; rfl) | (intro i hi; exact absurd hi (Nat.not_lt_zero _)))⟩⟩
      have h : ¬ ((400 : Int) < ((lK L i.toNat).length : Int)) := of_decide_eq_false (p := (400 : Int) < ((lK L i.toNat).length : Int)) h
      replace h := And.intro h trivial
      obtain ⟨hd0, _⟩ := h
      refine Ife.mk (fun h => ?_) (fun h => ?_)
      · have h : (400 : Int) < ((lV L i.toNat).length : Int) := of_decide_eq_true (p := (400 : Int) < ((lV L i.toNat).length : Int)) h
        rw [show lightL L = false from lightL_at hiL fun hh => by have hh := lightAt_iff.1 hh; omega]
        exact ⟨[0], ⟨rfl, by repeat' (first | exact trivial | exact rfl | apply And.intro | exact (fun _ _ _ _ => Cell.le_refl _) | (intro i hi; rfl) | (intro i hi; exact absurd hi (Nat.not_lt_zero _))), by decide, rfl, by repeat' (first | exact trivial | exact rfl | apply And.intro | exact (fun _ _ _ _ => Cell.le_refl _) | (intro i hi; rfl) | (intro i hi; exact absurd hi (Nat.not_lt_zero _)))⟩⟩
      have h : ¬ ((400 : Int) < ((lV L i.toNat).length : Int)) := of_decide_eq_false (p := (400 : Int) < ((lV L i.toNat).length : Int)) h
      replace h := And.intro h trivial
      obtain ⟨hd1, _⟩ := h
      refine Ife.mk (fun h => ?_) (fun h => ?_)
      · have h : (40 : Int) < ((lN L i.toNat : Nat) : Int) := of_decide_eq_true (p := (40 : Int) < ((lN L i.toNat : Nat) : Int)) h
        rw [show lightL L = false from lightL_at hiL fun hh => by have hh := lightAt_iff.1 hh; omega]
        exact ⟨[0], ⟨rfl, by repeat' (first | exact trivial | exact rfl | apply And.intro | exact (fun _ _ _ _ => Cell.le_refl _) | (intro i hi; rfl) | (intro i hi; exact absurd hi (Nat.not_lt_zero _))), by decide, rfl, by repeat' (first | exact trivial | exact rfl | apply And.intro | exact (fun _ _ _ _ => Cell.le_refl _) | (intro i hi; rfl) | (intro i hi; exact absurd hi (Nat.not_lt_zero _)))⟩⟩
      have h : ¬ ((40 : Int) < ((lN L i.toNat : Nat) : Int)) := of_decide_eq_false (p := (40 : Int) < ((lN L i.toNat : Nat) : Int)) h
      replace h := And.intro h trivial
      obtain ⟨hd2, _⟩ := h
      refine Need.mk (by show fitStd .i64 (i + 1); unfold fitStd; omega) fun _ => ?_
      refine ⟨⟨i + 1, by omega, by omega, lix_next hi0 hP (lightAt_iff.2 (by omega))⟩, [0, 1], (by show n - (i + 1).toNat < n - i.toNat; omega), ?_⟩
      refine ⟨rfl, by decide, ?_, ?_⟩ <;> repeat' (first | exact trivial | exact rfl | apply And.intro | exact (fun _ _ _ _ => Cell.le_refl _) | (intro i hi; rfl) | (intro i hi; exact absurd hi (Nat.not_lt_zero _)))
    · replace hlt : ¬ i < @Nat.cast Int instNatCastInt n := of_decide_eq_false (p := i < (n : Int)) hlt
      rw [lightL_yes (by omega) hP (by omega)]
      exact ⟨[0], ⟨rfl, by repeat' (first | exact trivial | exact rfl | apply And.intro | exact (fun _ _ _ _ => Cell.le_refl _) | (intro i hi; rfl) | (intro i hi; exact absurd hi (Nat.not_lt_zero _))), by decide, rfl, by repeat' (first | exact trivial | exact rfl | apply And.intro | exact (fun _ _ _ _ => Cell.le_refl _) | (intro i hi; rfl) | (intro i hi; exact absurd hi (Nat.not_lt_zero _)))⟩⟩

def sMayPr : SpecF
  | [.agg [.int .i64 c, .row 0]], [.data fr ty sz n get] => some (leavesPre ty sz n get, .c (.bool (mayL c (leafL n get))), [.dead])
  | _, _ => none

set_option maxRecDepth 100000 in
set_option maxHeartbeats 8000000 in
theorem mayPrP : Fn Tryd.prog 31 [] [(115, 204)] sMayPr := by
  have hC : CtsOk Tryd.prog [(76, appPure sSized), (89, appPure sDeep)] := CtsOk.cons (Pure.ct sizedP) <| CtsOk.cons (Pure.ct deepP) <| CtsOk.nil _
  refine Fn.of (E := tbP) [] 0 [(6, [(0, true), (1, true), (2, true), (3, true), (4, false), (5, true), (6, true), (7, true), (8, true), (9, true), (10, true), (11, true), (12, true), (13, true), (14, true), (15, true), (16, true), (17, true), (18, true), (19, true), (20, true), (21, true), (22, true), (23, true), (24, true), (25, true), (26, false), (27, true), (28, true)])] tbP_ok hC (by kernel_rfl) Tryd.func31 rfl rfl rfl (by kernel_rfl) (by kernel_rfl) 1 5 1 ?_ ?_
  · intro args h pre r h' hs
    unfold sMayPr at hs
    split at hs
    · cases hs; exact ⟨rfl, rfl, Nat.le_of_ble_eq_true rfl⟩
    · cases hs
  · intro args h pre r h' hs hp
    unfold sMayPr at hs
    split at hs
    rotate_left
    · cases hs
    rename_i c fr ty sz n get
    cases hs
    obtain ⟨rfl, rfl, hst, hok, hm⟩ := hp
    refine ⟨[.data fr 115 4 n (leafG false (leafL n get))], ⟨⟨rfl, rfl, rfl, rfl, fun i j hi hj => by rw [hst i j hi hj]; exact Cell.le_refl _⟩, trivial⟩, ?_⟩
    have hL : (leafL n get).length = n := leafL_len
    generalize leafL n get = L at hL hok ⊢
    unfold sSized sDeep
    generalize hg0 : (List.length : List UInt8 → Nat) = g0
    generalize hL : lft Tryd.prog _ = L
    try unfold leafG
    generalize ho0 : @lK = zo0, ho1 : @lV = zo1, ho2 : @lI = zo2, ho3 : @lP = zo3, ho4 : @lN = zo4, ho5 : @pG = zo5, ho6 : @leafL = zo6, ho7 : @sizedB = zo7, ho8 : @leavesPre = zo8, ho9 : @mayAt = zo9, ho10 : @mayL = zo10, ho11 : @deep = zo11
    generalize hA : Arith.std = A
    cbv
    subst hA hg0 hL ho0 ho1 ho2 ho3 ho4 ho5 ho6 ho7 ho8 ho9 ho10 ho11
    refine Ife.mk (fun h => ?_) (fun h => ?_)
    · have h : c < 0 := of_decide_eq_true (p := c < 0) h
      rw [mayL_no (by omega)]
      exact ⟨[0], ⟨rfl, by repeat' (first | exact trivial | exact rfl | apply And.intro | exact (fun _ _ _ _ => Cell.le_refl _) | (intro i hi; rfl) | (intro i hi; exact absurd hi (Nat.not_lt_zero _))), by decide, rfl, by repeat' (first | exact trivial | exact rfl | apply And.intro | exact (fun _ _ _ _ => Cell.le_refl _) | (intro i hi; rfl) | (intro i hi; exact absurd hi (Nat.not_lt_zero _)))⟩⟩
    have h : ¬ (c < 0) := of_decide_eq_false (p := c < 0) h
    replace h := And.intro h trivial
    obtain ⟨hc0, _⟩ := h
    refine Ife.mk (fun h => ?_) (fun h => ?_)
    · have h : (1073741824 : Int) < c := of_decide_eq_true (p := (1073741824 : Int) < c) h
      rw [mayL_no (by omega)]
      exact ⟨[0], ⟨rfl, by repeat' (first | exact trivial | exact rfl | apply And.intro | exact (fun _ _ _ _ => Cell.le_refl _) | (intro i hi; rfl) | (intro i hi; exact absurd hi (Nat.not_lt_zero _))), by decide, rfl, by repeat' (first | exact trivial | exact rfl | apply And.intro | exact (fun _ _ _ _ => Cell.le_refl _) | (intro i hi; rfl) | (intro i hi; exact absurd hi (Nat.not_lt_zero _)))⟩⟩
    have h : ¬ ((1073741824 : Int) < c) := of_decide_eq_false (p := (1073741824 : Int) < c) h
    replace h := And.intro h trivial
    obtain ⟨hc1, _⟩ := h
    refine Ife.mk (fun h => ?_) (fun h => ?_)
    · have h : (2 : Int) < (@Nat.cast Int instNatCastInt n) := of_decide_eq_true (p := (2 : Int) < (n : Int)) h
      rw [mayL_no (by omega)]
      exact ⟨[0], ⟨rfl, by repeat' (first | exact trivial | exact rfl | apply And.intro | exact (fun _ _ _ _ => Cell.le_refl _) | (intro i hi; rfl) | (intro i hi; exact absurd hi (Nat.not_lt_zero _))), by decide, rfl, by repeat' (first | exact trivial | exact rfl | apply And.intro | exact (fun _ _ _ _ => Cell.le_refl _) | (intro i hi; rfl) | (intro i hi; exact absurd hi (Nat.not_lt_zero _)))⟩⟩
    have h : ¬ ((2 : Int) < (@Nat.cast Int instNatCastInt n)) := of_decide_eq_false (p := (2 : Int) < (n : Int)) h
    replace h := And.intro h trivial
    obtain ⟨hc2, _⟩ := h
    show Runs Tryd.prog 1 (.loop _) _ _
    refine loop_ruleR (N := env (lft Tryd.prog 1) 0 .std tbP [(76, appPure sSized), (89, appPure sDeep)] [(6, [(0, true), (1, true), (2, true), (3, true), (4, false), (5, true), (6, true), (7, true), (8, true), (9, true), (10, true), (11, true), (12, true), (13, true), (14, true), (15, true), (16, true), (17, true), (18, true), (19, true), (20, true), (21, true), (22, true), (23, true), (24, true), (25, true), (26, false), (27, true), (28, true)])]) rfl tbP_ok hC (fun c st K _ h => h) (by kernel_rfl) [] (X := LIx n (mayAt c L))
      (S := fun x => ⟨[.any, .c (.ptr 1 0), .any, .any, .any, .any, .any, .any, .any, .any, .any, .any, .any, .any, .any, .any, .any, .any, .any, .any, .c (.row 0), .c (.int .i64 n), .c (.int .i64 x.i)] ++ List.replicate 33 .any, [.data fr 115 4 n (leafG false L), .cells 27 [.int .i64 c, .row 0]]⟩) (μ := fun x => n - x.i.toNat) ⟨0, by omega, by omega, fun k hk => absurd hk (by omega)⟩ (by kernel_rfl) [0, 1] ?_ ?_
    · refine ⟨rfl, by decide, ?_, ?_⟩ <;> repeat' (first | exact trivial | exact rfl | apply And.intro | exact (fun _ _ _ _ => Cell.le_refl _) | (intro i hi; rfl) | (intro i hi; exact absurd hi (Nat.not_lt_zero _)))
    rintro ⟨i, hi0, hin, hP⟩
    unfold sSized sDeep
    generalize hg0 : (List.length : List UInt8 → Nat) = g0
    generalize hL : lft Tryd.prog _ = L
    try dsimp only
    try unfold leafG
    generalize ho0 : @lK = zo0, ho1 : @lV = zo1, ho2 : @lI = zo2, ho3 : @lP = zo3, ho4 : @lN = zo4, ho5 : @pG = zo5, ho6 : @leafL = zo6, ho7 : @sizedB = zo7, ho8 : @leavesPre = zo8, ho9 : @mayAt = zo9, ho10 : @mayL = zo10, ho11 : @deep = zo11
    generalize hA : Arith.std = A
    cbv
    subst hA hg0 hL ho0 ho1 ho2 ho3 ho4 ho5 ho6 ho7 ho8 ho9 ho10 ho11
    try replace hc2 : ¬ ((2 : Int) < (@Nat.cast Int instNatCastInt n)) := hc2
    replace hi0 : 0 ≤ i := hi0
    replace hin : i ≤ @Nat.cast Int instNatCastInt n := hin
    replace hP : ∀ k, k < i.toNat → mayAt c L k = true := hP
    refine Ife.mk (fun hlt => ?_) (fun hlt => ?_)
    · replace hlt : i < @Nat.cast Int instNatCastInt n := of_decide_eq_true (p := i < (n : Int)) hlt
      have hiL : i.toNat < L.length := by omega
      refine Need.mk (by show 0 ≤ i ∧ i < (n : Int); omega) fun _ => Need.mk (by show i.toNat < n; omega) fun _ => ?_
      refine Need.mk trivial fun _ => ?_
      refine Ife.mk (fun h => ?_) (fun h => ?_)
      · have h : (sizedB (lK L i.toNat) (lV L i.toNat)) = false := by simpa using (show (!(sizedB (lK L i.toNat) (lV L i.toNat))) = true from h)
        rw [show mayL c L = false from mayL_at hiL fun hh => by have hz := sizedB_iff.2 (mayAt_iff.1 hh).1; rw [h] at hz; cases hz]
        exact ⟨[0], ⟨rfl, by repeat' (first | exact trivial | exact rfl | apply And.intro | exact (fun _ _ _ _ => Cell.le_refl _) | (intro i hi; rfl) | (intro i hi; exact absurd hi (Nat.not_lt_zero _))), by decide, rfl, by repeat' (first | exact trivial | exact rfl | apply And.intro | exact (fun _ _ _ _ => Cell.le_refl _) | (intro i hi; rfl) | (intro i hi; exact absurd hi (Nat.not_lt_zero _)))⟩⟩
      have h : (sizedB (lK L i.toNat) (lV L i.toNat)) = true := by simpa using (show (!(sizedB (lK L i.toNat) (lV L i.toNat))) = false from h)
      replace h := And.intro h trivial
      obtain ⟨hs0, _⟩ := h
      have hsz := sizedB_iff.1 hs0
      refine Ife.mk (fun h => ?_) (fun h => ?_)
      · have h : lI L i.toNat < 0 := of_decide_eq_true (p := lI L i.toNat < 0) h
        rw [show mayL c L = false from mayL_at hiL fun hh => by have hh := mayAt_iff.1 hh; omega]
        exact ⟨[0], ⟨rfl, by repeat' (first | exact trivial | exact rfl | apply And.intro | exact (fun _ _ _ _ => Cell.le_refl _) | (intro i hi; rfl) | (intro i hi; exact absurd hi (Nat.not_lt_zero _))), by decide, rfl, by repeat' (first | exact trivial | exact rfl | apply And.intro | exact (fun _ _ _ _ => Cell.le_refl _) | (intro i hi; rfl) | (intro i hi; exact absurd hi (Nat.not_lt_zero _)))⟩⟩
      have h : ¬ (lI L i.toNat < 0) := of_decide_eq_false (p := lI L i.toNat < 0) h
      replace h := And.intro h trivial
      obtain ⟨hd0, _⟩ := h
      refine Ife.mk (fun h => ?_) (fun h => ?_)
      · have h : c ≤ lI L i.toNat := of_decide_eq_true (p := c ≤ lI L i.toNat) h
        rw [show mayL c L = false from mayL_at hiL fun hh => by have hh := mayAt_iff.1 hh; omega]
        exact ⟨[0], ⟨rfl, by repeat' (first | exact trivial | exact rfl | apply And.intro | exact (fun _ _ _ _ => Cell.le_refl _) | (intro i hi; rfl) | (intro i hi; exact absurd hi (Nat.not_lt_zero _))), by decide, rfl, by repeat' (first | exact trivial | exact rfl | apply And.intro | exact (fun _ _ _ _ => Cell.le_refl _) | (intro i hi; rfl) | (intro i hi; exact absurd hi (Nat.not_lt_zero _)))⟩⟩
      have h : ¬ (c ≤ lI L i.toNat) := of_decide_eq_false (p := c ≤ lI L i.toNat) h
      replace h := And.intro h trivial
      obtain ⟨hd1, _⟩ := h
      refine Need.mk trivial fun _ => ?_
      refine Ife.mk (fun h => ?_) (fun h => ?_)
      · have h : ¬ (((lN L i.toNat : Nat) : Int) = deep c (lI L i.toNat)) := by simpa using (show (!decide (((lN L i.toNat : Nat) : Int) = deep c (lI L i.toNat))) = true from h)
        rw [show mayL c L = false from mayL_at hiL fun hh => by have hh := mayAt_iff.1 hh; omega]
        exact ⟨[0], ⟨rfl, by repeat' (first | exact trivial | exact rfl | apply And.intro | exact (fun _ _ _ _ => Cell.le_refl _) | (intro i hi; rfl) | (intro i hi; exact absurd hi (Nat.not_lt_zero _))), by decide, rfl, by repeat' (first | exact trivial | exact rfl | apply And.intro | exact (fun _ _ _ _ => Cell.le_refl _) | (intro i hi; rfl) | (intro i hi; exact absurd hi (Nat.not_lt_zero _)))⟩⟩
      have h : (((lN L i.toNat : Nat) : Int) = deep c (lI L i.toNat)) := by simpa using (show (!decide (((lN L i.toNat : Nat) : Int) = deep c (lI L i.toNat))) = false from h)
      replace h := And.intro h trivial
      obtain ⟨hd2, _⟩ := h
      refine Need.mk (by show fitStd .i64 (i + 1); unfold fitStd; omega) fun _ => ?_
      refine ⟨⟨i + 1, by omega, by omega, lix_next hi0 hP (mayAt_iff.2 (by omega))⟩, [0, 1], (by show n - (i + 1).toNat < n - i.toNat; omega), ?_⟩
      refine ⟨rfl, by decide, ?_, ?_⟩ <;> repeat' (first | exact trivial | exact rfl | apply And.intro | exact (fun _ _ _ _ => Cell.le_refl _) | (intro i hi; rfl) | (intro i hi; exact absurd hi (Nat.not_lt_zero _)))
    · replace hlt : ¬ i < @Nat.cast Int instNatCastInt n := of_decide_eq_false (p := i < (n : Int)) hlt
      rw [mayL_yes (by omega) hP (by omega)]
      exact ⟨[0], ⟨rfl, by repeat' (first | exact trivial | exact rfl | apply And.intro | exact (fun _ _ _ _ => Cell.le_refl _) | (intro i hi; rfl) | (intro i hi; exact absurd hi (Nat.not_lt_zero _))), by decide, rfl, by repeat' (first | exact trivial | exact rfl | apply And.intro | exact (fun _ _ _ _ => Cell.le_refl _) | (intro i hi; rfl) | (intro i hi; exact absurd hi (Nat.not_lt_zero _)))⟩⟩

set_option maxRecDepth 100000 in
set_option maxHeartbeats 8000000 in
theorem rmayPrP : Fn Tryd.prog 62 [] [(115, 204)] sMayPr := by
  have hC : CtsOk Tryd.prog [(105, appPure sRDeep)] := CtsOk.cons (Pure.ct rdeepP) <| CtsOk.nil _
  refine Fn.of (E := tbP) [] 0 [(7, [(0, true), (1, true), (2, true), (3, true), (4, true), (5, true), (6, true), (7, true), (8, true), (9, true), (10, true), (11, true), (12, true), (13, true), (14, true), (15, true), (16, true), (17, true), (18, true), (19, true), (20, true), (21, true), (22, true), (23, true), (24, true), (25, true), (26, true), (27, true), (28, true), (29, true), (30, true), (31, true), (32, true), (33, true), (34, true), (35, true), (36, true), (37, true), (38, true), (39, true), (40, true), (41, true), (42, false), (43, true), (44, true)])] tbP_ok hC (by kernel_rfl) Tryd.func62 rfl rfl rfl (by kernel_rfl) (by kernel_rfl) 1 5 1 ?_ ?_
  · intro args h pre r h' hs
    unfold sMayPr at hs
    split at hs
    · cases hs; exact ⟨rfl, rfl, Nat.le_of_ble_eq_true rfl⟩
    · cases hs
  · intro args h pre r h' hs hp
    unfold sMayPr at hs
    split at hs
    rotate_left
    · cases hs
    rename_i c fr ty sz n get
    cases hs
    obtain ⟨rfl, rfl, hst, hok, hm⟩ := hp
    refine ⟨[.data fr 115 4 n (leafG false (leafL n get))], ⟨⟨rfl, rfl, rfl, rfl, fun i j hi hj => by rw [hst i j hi hj]; exact Cell.le_refl _⟩, trivial⟩, ?_⟩
    have hL : (leafL n get).length = n := leafL_len
    generalize leafL n get = L at hL hok ⊢
    unfold sRDeep
    generalize hg0 : (List.length : List UInt8 → Nat) = g0
    generalize hL : lft Tryd.prog _ = L
    try unfold leafG
    generalize ho0 : @lK = zo0, ho1 : @lV = zo1, ho2 : @lI = zo2, ho3 : @lP = zo3, ho4 : @lN = zo4, ho5 : @pG = zo5, ho6 : @leafL = zo6, ho7 : @leavesPre = zo7, ho8 : @mayAt = zo8, ho9 : @mayL = zo9, ho10 : @deep = zo10
    generalize hA : Arith.std = A
    cbv
    subst hA hg0 hL ho0 ho1 ho2 ho3 ho4 ho5 ho6 ho7 ho8 ho9 ho10
    refine Ife.mk (fun h => ?_) (fun h => ?_)
    · have h : c < 0 := of_decide_eq_true (p := c < 0) h
      rw [mayL_no (by omega)]
      exact ⟨[0], ⟨rfl, by repeat' (first | exact trivial | exact rfl | apply And.intro | exact (fun _ _ _ _ => Cell.le_refl _) | (intro i hi; rfl) | (intro i hi; exact absurd hi (Nat.not_lt_zero _))), by decide, rfl, by repeat' (first | exact trivial | exact rfl | apply And.intro | exact (fun _ _ _ _ => Cell.le_refl _) | (intro i hi; rfl) | (intro i hi; exact absurd hi (Nat.not_lt_zero _)))⟩⟩
    have h : ¬ (c < 0) := of_decide_eq_false (p := c < 0) h
    replace h := And.intro h trivial
    obtain ⟨hc0, _⟩ := h
    refine Ife.mk (fun h => ?_) (fun h => ?_)
    · have h : (1073741824 : Int) < c := of_decide_eq_true (p := (1073741824 : Int) < c) h
      rw [mayL_no (by omega)]
      exact ⟨[0], ⟨rfl, by repeat' (first | exact trivial | exact rfl | apply And.intro | exact (fun _ _ _ _ => Cell.le_refl _) | (intro i hi; rfl) | (intro i hi; exact absurd hi (Nat.not_lt_zero _))), by decide, rfl, by repeat' (first | exact trivial | exact rfl | apply And.intro | exact (fun _ _ _ _ => Cell.le_refl _) | (intro i hi; rfl) | (intro i hi; exact absurd hi (Nat.not_lt_zero _)))⟩⟩
    have h : ¬ ((1073741824 : Int) < c) := of_decide_eq_false (p := (1073741824 : Int) < c) h
    replace h := And.intro h trivial
    obtain ⟨hc1, _⟩ := h
    refine Ife.mk (fun h => ?_) (fun h => ?_)
    · have h : (2 : Int) < (@Nat.cast Int instNatCastInt n) := of_decide_eq_true (p := (2 : Int) < (n : Int)) h
      rw [mayL_no (by omega)]
      exact ⟨[0], ⟨rfl, by repeat' (first | exact trivial | exact rfl | apply And.intro | exact (fun _ _ _ _ => Cell.le_refl _) | (intro i hi; rfl) | (intro i hi; exact absurd hi (Nat.not_lt_zero _))), by decide, rfl, by repeat' (first | exact trivial | exact rfl | apply And.intro | exact (fun _ _ _ _ => Cell.le_refl _) | (intro i hi; rfl) | (intro i hi; exact absurd hi (Nat.not_lt_zero _)))⟩⟩
    have h : ¬ ((2 : Int) < (@Nat.cast Int instNatCastInt n)) := of_decide_eq_false (p := (2 : Int) < (n : Int)) h
    replace h := And.intro h trivial
    obtain ⟨hc2, _⟩ := h
    show Runs Tryd.prog 1 (.loop _) _ _
    refine loop_ruleR (N := env (lft Tryd.prog 1) 0 .std tbP [(105, appPure sRDeep)] [(7, [(0, true), (1, true), (2, true), (3, true), (4, true), (5, true), (6, true), (7, true), (8, true), (9, true), (10, true), (11, true), (12, true), (13, true), (14, true), (15, true), (16, true), (17, true), (18, true), (19, true), (20, true), (21, true), (22, true), (23, true), (24, true), (25, true), (26, true), (27, true), (28, true), (29, true), (30, true), (31, true), (32, true), (33, true), (34, true), (35, true), (36, true), (37, true), (38, true), (39, true), (40, true), (41, true), (42, false), (43, true), (44, true)])]) rfl tbP_ok hC (fun c st K _ h => h) (by kernel_rfl) [] (X := LIx n (mayAt c L))
      (S := fun x => ⟨[.any, .c (.ptr 1 0), .any, .c (.int .i64 x.i)] ++ List.replicate 72 .any, [.data fr 115 4 n (leafG false L), .cells 27 [.int .i64 c, .row 0]]⟩) (μ := fun x => n - x.i.toNat) ⟨0, by omega, by omega, fun k hk => absurd hk (by omega)⟩ (by kernel_rfl) [0, 1] ?_ ?_
    · refine ⟨rfl, by decide, ?_, ?_⟩ <;> repeat' (first | exact trivial | exact rfl | apply And.intro | exact (fun _ _ _ _ => Cell.le_refl _) | (intro i hi; rfl) | (intro i hi; exact absurd hi (Nat.not_lt_zero _)))
    rintro ⟨i, hi0, hin, hP⟩
    unfold sRDeep
    generalize hg0 : (List.length : List UInt8 → Nat) = g0
    generalize hL : lft Tryd.prog _ = L
    try dsimp only
    try unfold leafG
    generalize ho0 : @lK = zo0, ho1 : @lV = zo1, ho2 : @lI = zo2, ho3 : @lP = zo3, ho4 : @lN = zo4, ho5 : @pG = zo5, ho6 : @leafL = zo6, ho7 : @leavesPre = zo7, ho8 : @mayAt = zo8, ho9 : @mayL = zo9, ho10 : @deep = zo10
    generalize hA : Arith.std = A
    cbv
    subst hA hg0 hL ho0 ho1 ho2 ho3 ho4 ho5 ho6 ho7 ho8 ho9 ho10
    try replace hc2 : ¬ ((2 : Int) < (@Nat.cast Int instNatCastInt n)) := hc2
    replace hi0 : 0 ≤ i := hi0
    replace hin : i ≤ @Nat.cast Int instNatCastInt n := hin
    replace hP : ∀ k, k < i.toNat → mayAt c L k = true := hP
    refine Ife.mk (fun hlt => ?_) (fun hlt => ?_)
    · replace hlt : i < @Nat.cast Int instNatCastInt n := of_decide_eq_true (p := i < (n : Int)) hlt
      have hiL : i.toNat < L.length := by omega
      refine Need.mk (by show 0 ≤ i ∧ i < (n : Int); omega) fun _ => Need.mk (by show i.toNat < n; omega) fun _ => ?_
      refine Ife.mk (fun h => ?_) (fun h => ?_)
      · have h : ((lK L i.toNat).length : Int) < 1 := of_decide_eq_true (p := ((lK L i.toNat).length : Int) < 1) h
        rw [show mayL c L = false from mayL_at hiL fun hh => by have hh := mayAt_iff.1 hh; omega]
        exact ⟨[0], ⟨rfl, by repeat' (first | exact trivial | exact rfl | apply And.intro | exact (fun _ _ _ _ => Cell.le_refl _) | (intro i hi; rfl) | (intro i hi; exact absurd hi (Nat.not_lt_zero _))), by decide, rfl, by repeat' (first | exact trivial | exact rfl | apply And.intro | exact (fun _ _ _ _ => Cell.le_refl _) | (intro i hi; rfl) | (intro i hi; exact absurd hi (Nat.not_lt_zero _)))⟩⟩
      have h : ¬ (((lK L i.toNat).length : Int) < 1) := of_decide_eq_false (p := ((lK L i.toNat).length : Int) < 1) h
      replace h := And.intro h trivial
      obtain ⟨hd0, _⟩ := h
      refine Ife.mk (fun h => ?_) (fun h => ?_)
      · have h : (160 : Int) < ((lK L i.toNat).length : Int) := of_decide_eq_true (p := (160 : Int) < ((lK L i.toNat).length : Int)) h
        rw [show mayL c L = false from mayL_at hiL fun hh => by have hh := mayAt_iff.1 hh; omega]
        exact ⟨[0], ⟨rfl, by repeat' (first | exact trivial | exact rfl | apply And.intro | exact (fun _ _ _ _ => Cell.le_refl _) | (intro i hi; rfl) | (intro i hi; exact absurd hi (Nat.not_lt_zero _))), by decide, rfl, by repeat' (first | exact trivial | exact rfl | apply And.intro | exact (fun _ _ _ _ => Cell.le_refl _) | (intro i hi; rfl) | (intro i hi; exact absurd hi (Nat.not_lt_zero _)))⟩⟩
      have h : ¬ ((160 : Int) < ((lK L i.toNat).length : Int)) := of_decide_eq_false (p := (160 : Int) < ((lK L i.toNat).length : Int)) h
      replace h := And.intro h trivial
      obtain ⟨hd1, _⟩ := h
      refine Ife.mk (fun h => ?_) (fun h => ?_)
      · have h : ((lV L i.toNat).length : Int) < 1 := of_decide_eq_true (p := ((lV L i.toNat).length : Int) < 1) h
        rw [show mayL c L = false from mayL_at hiL fun hh => by have hh := mayAt_iff.1 hh; omega]
        exact ⟨[0], ⟨rfl, by repeat' (first | exact trivial | exact rfl | apply And.intro | exact (fun _ _ _ _ => Cell.le_refl _) | (intro i hi; rfl) | (intro i hi; exact absurd hi (Nat.not_lt_zero _))), by decide, rfl, by repeat' (first | exact trivial | exact rfl | apply And.intro | exact (fun _ _ _ _ => Cell.le_refl _) | (intro i hi; rfl) | (intro i hi; exact absurd hi (Nat.not_lt_zero _)))⟩⟩
      have h : ¬ (((lV L i.toNat).length : Int) < 1) := of_decide_eq_false (p := ((lV L i.toNat).length : Int) < 1) h
      replace h := And.intro h trivial
      obtain ⟨hd2, _⟩ := h
      refine Ife.mk (fun h => ?_) (fun h => ?_)
      · have h : (64 : Int) < ((lV L i.toNat).length : Int) := of_decide_eq_true (p := (64 : Int) < ((lV L i.toNat).length : Int)) h
        rw [show mayL c L = false from mayL_at hiL fun hh => by have hh := mayAt_iff.1 hh; omega]
        exact ⟨[0], ⟨rfl, by repeat' (first | exact trivial | exact rfl | apply And.intro | exact (fun _ _ _ _ => Cell.le_refl _) | (intro i hi; rfl) | (intro i hi; exact absurd hi (Nat.not_lt_zero _))), by decide, rfl, by repeat' (first | exact trivial | exact rfl | apply And.intro | exact (fun _ _ _ _ => Cell.le_refl _) | (intro i hi; rfl) | (intro i hi; exact absurd hi (Nat.not_lt_zero _)))⟩⟩
      have h : ¬ ((64 : Int) < ((lV L i.toNat).length : Int)) := of_decide_eq_false (p := (64 : Int) < ((lV L i.toNat).length : Int)) h
      replace h := And.intro h trivial
      obtain ⟨hd3, _⟩ := h
      refine Ife.mk (fun h => ?_) (fun h => ?_)
      · have h : lI L i.toNat < 0 := of_decide_eq_true (p := lI L i.toNat < 0) h
        rw [show mayL c L = false from mayL_at hiL fun hh => by have hh := mayAt_iff.1 hh; omega]
        exact ⟨[0], ⟨rfl, by repeat' (first | exact trivial | exact rfl | apply And.intro | exact (fun _ _ _ _ => Cell.le_refl _) | (intro i hi; rfl) | (intro i hi; exact absurd hi (Nat.not_lt_zero _))), by decide, rfl, by repeat' (first | exact trivial | exact rfl | apply And.intro | exact (fun _ _ _ _ => Cell.le_refl _) | (intro i hi; rfl) | (intro i hi; exact absurd hi (Nat.not_lt_zero _)))⟩⟩
      have h : ¬ (lI L i.toNat < 0) := of_decide_eq_false (p := lI L i.toNat < 0) h
      replace h := And.intro h trivial
      obtain ⟨hd4, _⟩ := h
      refine Ife.mk (fun h => ?_) (fun h => ?_)
      · have h : c ≤ lI L i.toNat := of_decide_eq_true (p := c ≤ lI L i.toNat) h
        rw [show mayL c L = false from mayL_at hiL fun hh => by have hh := mayAt_iff.1 hh; omega]
        exact ⟨[0], ⟨rfl, by repeat' (first | exact trivial | exact rfl | apply And.intro | exact (fun _ _ _ _ => Cell.le_refl _) | (intro i hi; rfl) | (intro i hi; exact absurd hi (Nat.not_lt_zero _))), by decide, rfl, by repeat' (first | exact trivial | exact rfl | apply And.intro | exact (fun _ _ _ _ => Cell.le_refl _) | (intro i hi; rfl) | (intro i hi; exact absurd hi (Nat.not_lt_zero _)))⟩⟩
      have h : ¬ (c ≤ lI L i.toNat) := of_decide_eq_false (p := c ≤ lI L i.toNat) h
      replace h := And.intro h trivial
      obtain ⟨hd5, _⟩ := h
      refine Need.mk trivial fun _ => ?_
      refine Ife.mk (fun h => ?_) (fun h => ?_)
      · have h : ¬ (((lN L i.toNat : Nat) : Int) = deep c (lI L i.toNat)) := by simpa using (show (!decide (((lN L i.toNat : Nat) : Int) = deep c (lI L i.toNat))) = true from h)
        rw [show mayL c L = false from mayL_at hiL fun hh => by have hh := mayAt_iff.1 hh; omega]
        exact ⟨[0], ⟨rfl, by repeat' (first | exact trivial | exact rfl | apply And.intro | exact (fun _ _ _ _ => Cell.le_refl _) | (intro i hi; rfl) | (intro i hi; exact absurd hi (Nat.not_lt_zero _))), by decide, rfl, by repeat' (first | exact trivial | exact rfl | apply And.intro | exact (fun _ _ _ _ => Cell.le_refl _) | (intro i hi; rfl) | (intro i hi; exact absurd hi (Nat.not_lt_zero _)))⟩⟩
      have h : (((lN L i.toNat : Nat) : Int) = deep c (lI L i.toNat)) := by simpa using (show (!decide (((lN L i.toNat : Nat) : Int) = deep c (lI L i.toNat))) = false from h)
      replace h := And.intro h trivial
      obtain ⟨hd6, _⟩ := h
      refine Need.mk (by show fitStd .i64 (i + 1); unfold fitStd; omega) fun _ => ?_
      refine ⟨⟨i + 1, by omega, by omega, lix_next hi0 hP (mayAt_iff.2 (by omega))⟩, [0, 1], (by show n - (i + 1).toNat < n - i.toNat; omega), ?_⟩
      refine ⟨rfl, by decide, ?_, ?_⟩ <;> repeat' (first | exact trivial | exact rfl | apply And.intro | exact (fun _ _ _ _ => Cell.le_refl _) | (intro i hi; rfl) | (intro i hi; exact absurd hi (Nat.not_lt_zero _)))
    · replace hlt : ¬ i < @Nat.cast Int instNatCastInt n := of_decide_eq_false (p := i < (n : Int)) hlt
      rw [mayL_yes (by omega) hP (by omega)]
      exact ⟨[0], ⟨rfl, by repeat' (first | exact trivial | exact rfl | apply And.intro | exact (fun _ _ _ _ => Cell.le_refl _) | (intro i hi; rfl) | (intro i hi; exact absurd hi (Nat.not_lt_zero _))), by decide, rfl, by repeat' (first | exact trivial | exact rfl | apply And.intro | exact (fun _ _ _ _ => Cell.le_refl _) | (intro i hi; rfl) | (intro i hi; exact absurd hi (Nat.not_lt_zero _)))⟩⟩

end Go.Proofs.YthomoliklfmnkaaDoor.Vx
end

section
/- The proof of a key in a list of pairs, plainly. -/
namespace Go.Proofs.YthomoliklfmnkaaDoor.Vx
open Sha
open Go.RowKit
set_option linter.unusedVariables false
set_option linter.unusedSimpArgs false
/-- The 32 numbers of a sum. -/
def hNm (f : Nat → Int) : List Int := (List.range 32).map f
theorem hNm_get (f : Nat → Int) {j : Nat} (h : j < 32) : (hNm f).getD j 0 = f j := by simp [hNm, List.getD, List.getElem?_map, List.getElem?_range h]
theorem hNm_len (f : Nat → Int) : (hNm f).length = 32 := by simp [hNm]
theorem h32_hNm (f : Nat → Int) : (h32 fun j => (hNm f).getD j 0) = hashC f := by
  unfold h32 hashC
  simp only [hNm_get f (show 0 < 32 by decide), hNm_get f (show 1 < 32 by decide), hNm_get f (show 2 < 32 by decide), hNm_get f (show 3 < 32 by decide), hNm_get f (show 4 < 32 by decide), hNm_get f (show 5 < 32 by decide), hNm_get f (show 6 < 32 by decide), hNm_get f (show 7 < 32 by decide), hNm_get f (show 8 < 32 by decide), hNm_get f (show 9 < 32 by decide), hNm_get f (show 10 < 32 by decide), hNm_get f (show 11 < 32 by decide), hNm_get f (show 12 < 32 by decide), hNm_get f (show 13 < 32 by decide), hNm_get f (show 14 < 32 by decide), hNm_get f (show 15 < 32 by decide), hNm_get f (show 16 < 32 by decide), hNm_get f (show 17 < 32 by decide), hNm_get f (show 18 < 32 by decide), hNm_get f (show 19 < 32 by decide), hNm_get f (show 20 < 32 by decide), hNm_get f (show 21 < 32 by decide), hNm_get f (show 22 < 32 by decide), hNm_get f (show 23 < 32 by decide), hNm_get f (show 24 < 32 by decide), hNm_get f (show 25 < 32 by decide), hNm_get f (show 26 < 32 by decide), hNm_get f (show 27 < 32 by decide), hNm_get f (show 28 < 32 by decide), hNm_get f (show 29 < 32 by decide), hNm_get f (show 30 < 32 by decide), hNm_get f (show 31 < 32 by decide)]
/-- The sums beside the way up from a pair. -/
def wyL (L : List PP) (i : Nat) : List (List Int) := (wayG (lfG L) L.length (i : Int)).map hNm
theorem wyL_len (L : List PP) (i : Nat) : (wyL L i).length = (wayG (lfG L) L.length (i : Int)).length := by simp [wyL]
theorem pG_map {W : List (Nat → Int)} {j : Nat} (h : j < W.length) : pG (W.map hNm) j = hashesG W j := by
  unfold pG hashesG
  rw [show (W.map hNm).getD j [] = hNm W[j] by simp [List.getD, h], h32_hNm, List.getD_eq_getElem?_getD, List.getElem?_eq_getElem h]
  rfl
theorem pG_way {L : List PP} {i j : Nat} (h : j < (wayG (lfG L) L.length (i : Int)).length) : pG (wyL L i) j = hashesG (wayG (lfG L) L.length (i : Int)) j := pG_map h
def mkLeaf (L : List PP) (i : Nat) : PLeaf := ⟨prK L i, prV L i, (i : Int), wyL L i⟩
/-- The leaves of the proof of a key. -/
def mkL (L : List PP) (k : List UInt8) : List PLeaf := if goodL L = true then (if findB L k = true then [mkLeaf L (findI L k)] else (if 0 < findI L k then [mkLeaf L (findI L k - 1)] else []) ++ (if findI L k < L.length then [mkLeaf L (findI L k)] else [])) else []
def mkC (L : List PP) : Int := if goodL L = true then (L.length : Int) else 0
theorem mkL_len {L : List PP} {k : List UInt8} : (mkL L k).length ≤ 2 := by
  unfold mkL
  split
  · split
    · simp
    · split <;> split <;> simp
  · simp
theorem goodAt_iff {L : List PP} {i : Nat} : goodAt L i = true ↔ szB (prK L i) (prV L i) = true ∧ (i = 0 ∨ ltB (prK L (i - 1)) (prK L i) = true) := by
  unfold goodAt
  rw [Bool.and_eq_true, Bool.or_eq_true, decide_eq_true_iff]
theorem goodL_iff {L : List PP} : goodL L = true ↔ StS L ∧ AllSz L := by
  constructor
  · intro h
    have ha : ∀ i, i < L.length → goodAt L i = true := fun i hi => List.all_eq_true.1 h i (List.mem_range.2 hi)
    refine ⟨?_, fun p hp => ?_⟩
    · have key : ∀ d i, i + 1 + d < L.length → ltB (prK L i) (prK L (i + 1 + d)) = true := by
        intro d
        induction d with
        | zero =>
          intro i hi
          rcases (goodAt_iff.1 (ha (i + 1) hi)).2 with h1 | h1
          · omega
          · exact h1
        | succ d ih =>
          intro i hi
          refine lt_trans (ih i (by omega)) ?_
          rcases (goodAt_iff.1 (ha (i + 1 + (d + 1)) hi)).2 with h1 | h1
          · omega
          · exact h1
      refine List.pairwise_iff_getElem.2 fun i j hi hj hij => ?_
      have := key (j - i - 1) i (by omega)
      rw [show i + 1 + (j - i - 1) = j by omega, prK_eq hi, prK_eq hj] at this
      exact this
    · obtain ⟨i, hi, rfl⟩ := List.getElem_of_mem hp
      have := (goodAt_iff.1 (ha i hi)).1
      rwa [prK_eq hi, prV_eq hi] at this
  · rintro ⟨hs, hz⟩
    refine goodL_yes fun i hi => goodAt_iff.2 ⟨hz.at hi, ?_⟩
    by_cases h0 : i = 0
    · exact Or.inl h0
    · exact Or.inr (hs.at (by omega) hi)
theorem wayG_le (L : List PP) (i : Nat) : (wayG (lfG L) L.length (i : Int)).length ≤ L.length := wayR_len _ _ 0 _
theorem lfR (L : List PP) (j k : Nat) : 0 ≤ hOf (lfG L j) k ∧ hOf (lfG L j) k < 256 := hOf_range (hashC_sum _) k
theorem wayG_hashes (L : List PP) (i : Nat) : HashesAt (wayG (lfG L) L.length (i : Int)).length (hashesG (wayG (lfG L) L.length (i : Int))) := way_hashes (fun j _ _ k => lfR L j k)
theorem wayG_mem {L : List PP} {i : Nat} {f : Nat → Int} (h : f ∈ wayG (lfG L) L.length (i : Int)) : ∀ k, k < 32 → 0 ≤ f k ∧ f k < 256 := by
  obtain ⟨j, hj, rfl⟩ := List.getElem_of_mem h
  obtain ⟨g, e, hg⟩ := wayG_hashes L i j hj
  intro k hk
  have e2 : hashesG (wayG (lfG L) L.length (i : Int)) j = hashC (wayG (lfG L) L.length (i : Int))[j] := by
    unfold hashesG
    rw [List.getD_eq_getElem?_getD, List.getElem?_eq_getElem hj]
    rfl
  rw [e2] at e
  have e3 : hOf (hashC (wayG (lfG L) L.length (i : Int))[j]) k = hOf (hashC g) k := by rw [e]
  rw [hOf_at, hOf_at, if_pos hk, if_pos hk] at e3
  rw [e3]
  exact hg k
theorem mkLeaf_ok {L : List PP} {i : Nat} (hz : AllSz L) (hi : i < L.length) (hm : L.length ≤ 1000000) : (mkLeaf L i).ok := by
  have hsz := szB_iff.1 (hz.at hi)
  refine ⟨by show (prK L i).length ≤ _; omega, by show (prV L i).length ≤ _; omega, by show (wyL L i).length ≤ _; rw [wyL_len]; have := wayG_le L i; omega, fun h hh => ?_⟩
  obtain ⟨f, hf, rfl⟩ := List.mem_map.1 (show h ∈ (wayG (lfG L) L.length (i : Int)).map hNm from hh)
  refine ⟨hNm_len f, fun b hb => ?_⟩
  obtain ⟨k, hk, rfl⟩ := List.mem_map.1 (show b ∈ (List.range 32).map f from hb)
  exact wayG_mem hf k (List.mem_range.1 hk)
theorem mkL_mem {L : List PP} {k : List UInt8} {x : PLeaf} (h : x ∈ mkL L k) : goodL L = true ∧ ∃ i, i < L.length ∧ x = mkLeaf L i := by
  unfold mkL at h
  split at h
  · rename_i hg
    refine ⟨hg, ?_⟩
    split at h
    · rename_i hf
      exact ⟨_, (findB_eq hf).1, by simpa using h⟩
    · have hle := findI_le (L := L) (k := k)
      rcases List.mem_append.1 h with h1 | h1
      · split at h1
        · exact ⟨findI L k - 1, by omega, by simpa using h1⟩
        · cases h1
      · split at h1
        · exact ⟨findI L k, by omega, by simpa using h1⟩
        · cases h1
  · cases h
theorem mkL_ok {L : List PP} {k : List UInt8} (hm : L.length ≤ 1000000) : ∀ x ∈ mkL L k, x.ok := fun x hx => by
  obtain ⟨hg, i, hi, rfl⟩ := mkL_mem hx
  exact mkLeaf_ok (goodL_iff.1 hg).2 hi hm
/-- From where to where the leaves go. -/
def mkFrom (L : List PP) (k : List UInt8) : Nat := if findB L k = true then findI L k else findI L k - 1
def mkTo (L : List PP) (k : List UInt8) : Nat := min (findI L k + 1) L.length
theorem mkL_range {L : List PP} {k : List UInt8} (hg : goodL L = true) : mkL L k = (List.range' (mkFrom L k) (mkTo L k - mkFrom L k)).map (mkLeaf L) := by
  have hle := findI_le (L := L) (k := k)
  unfold mkL mkFrom mkTo
  rw [if_pos hg]
  by_cases hf : findB L k = true
  · have := (findB_eq hf).1
    rw [if_pos hf, if_pos hf, show min (findI L k + 1) L.length - findI L k = 1 by omega]
    rfl
  · rw [if_neg hf, if_neg hf]
    by_cases h0 : 0 < findI L k
    · rw [if_pos h0]
      by_cases h1 : findI L k < L.length
      · rw [if_pos h1, show min (findI L k + 1) L.length - (findI L k - 1) = 2 by omega]
        show [mkLeaf L (findI L k - 1)] ++ [mkLeaf L (findI L k)] = [mkLeaf L (findI L k - 1), mkLeaf L (findI L k - 1 + 1)]
        rw [show findI L k - 1 + 1 = findI L k by omega]
        rfl
      · rw [if_neg h1, show min (findI L k + 1) L.length - (findI L k - 1) = 1 by omega]
        rfl
    · rw [if_neg h0]
      by_cases h1 : findI L k < L.length
      · rw [if_pos h1, show min (findI L k + 1) L.length - (findI L k - 1) = 1 by omega, show findI L k - 1 = findI L k by omega]
        rfl
      · rw [if_neg h1, show min (findI L k + 1) L.length - (findI L k - 1) = 0 by omega]
        rfl
theorem mkFrom_le {L : List PP} {k : List UInt8} : mkFrom L k ≤ mkTo L k ∧ mkTo L k ≤ L.length := by
  have hle := findI_le (L := L) (k := k)
  unfold mkFrom mkTo
  by_cases hf : findB L k = true
  · have := (findB_eq hf).1
    rw [if_pos hf]
    omega
  · rw [if_neg hf]
    omega
end Go.Proofs.YthomoliklfmnkaaDoor.Vx
end

section
/- The search for a key's place, by the walker. -/
namespace Go.Proofs.YthomoliklfmnkaaDoor.Vx
open Sha
open Go.RowKit
set_option linter.unusedVariables false
set_option linter.unusedSimpArgs false
def mkFPre (tA tB ty one n : Nat) (get : Nat → List CV) (i : Int) : Prop := tA = 31 ∧ tB = 9 ∧ prPre ty one n get ∧ 0 ≤ i ∧ i < (n : Int)
def tbMk : Tbl where
  T :=
    (3, ⟨1, false, [.int .i64 (0)], .int .i64, 8⟩) ::
    (166, ⟨1, false, [.int .u64 (0)], .int .u64, 8⟩) ::
    (5, ⟨1, false, [.int .u8 (0)], .int .u8, 1⟩) ::
    (4, ⟨1, false, [.ff], .bool, 1⟩) ::
    (9, ⟨1, false, [.str []], .str, 16⟩) ::
    (63, ⟨2, true, [.str [], .str []], .struct [(0, (1, false)), (1, (1, false))], 32⟩) ::
    (31, ⟨1, false, [.val (.slice none 0 0)], .slice 63, 24⟩) ::
    (115, ⟨4, true, [.str [], .str [], .int .i64 (0), .val (.slice none 0 0)], .struct [(0, (1, false)), (1, (1, false)), (2, (1, false)), (3, (1, false))], 64⟩) ::
    (25, ⟨1, false, [.val (.slice none 0 0)], .slice 115, 24⟩) ::
    (27, ⟨2, true, [.int .i64 (0), .val (.slice none 0 0)], .struct [(0, (1, false)), (1, (1, false))], 32⟩) ::
    (24, ⟨32, true, [.int .u8 (0), .int .u8 (0), .int .u8 (0), .int .u8 (0), .int .u8 (0), .int .u8 (0), .int .u8 (0), .int .u8 (0), .int .u8 (0), .int .u8 (0), .int .u8 (0), .int .u8 (0), .int .u8 (0), .int .u8 (0), .int .u8 (0), .int .u8 (0), .int .u8 (0), .int .u8 (0), .int .u8 (0), .int .u8 (0), .int .u8 (0), .int .u8 (0), .int .u8 (0), .int .u8 (0), .int .u8 (0), .int .u8 (0), .int .u8 (0), .int .u8 (0), .int .u8 (0), .int .u8 (0), .int .u8 (0), .int .u8 (0)], .array 32 5, 32⟩) ::
    (113, ⟨1, false, [.val (.slice none 0 0)], .slice 24, 24⟩) ::
    (137, ⟨1, true, [.val (.slice none 0 0)], .struct [(0, (1, false))], 24⟩) ::
    (53, ⟨1, false, [.val (.pointer none)], .ptr 137, 8⟩) ::
    []
  F :=
    (24, [0, 0, 0, 0, 0, 0, 0, 0, 0, 0, 0, 0, 0, 0, 0, 0, 0, 0, 0, 0, 0, 0, 0, 0, 0, 0, 0, 0, 0, 0, 0, 0]) ::
    []

theorem tbMk_ok : tbMk.Ok Tryd.prog where
  T :=
    TblOk.cons (by kernel_rfl) <|
    TblOk.cons (by kernel_rfl) <|
    TblOk.cons (by kernel_rfl) <|
    TblOk.cons (by kernel_rfl) <|
    TblOk.cons (by kernel_rfl) <|
    TblOk.cons (by kernel_rfl) <|
    TblOk.cons (by kernel_rfl) <|
    TblOk.cons (by kernel_rfl) <|
    TblOk.cons (by kernel_rfl) <|
    TblOk.cons (by kernel_rfl) <|
    TblOk.cons (by kernel_rfl) <|
    TblOk.cons (by kernel_rfl) <|
    TblOk.cons (by kernel_rfl) <|
    TblOk.cons (by kernel_rfl) <|
    TblOk.nil _
  F :=
    FlatsOk.cons (FlatOk.of (D := .array 32 5) 6 (by decide) (by kernel_rfl) (by kernel_rfl) rfl (by kernel_rfl)) <|
    FlatsOk.nil _

def sMkF : SpecF
  | [.c (.int .i64 i), .c (.ptr 0 0), .c (.ptr 1 0)], [.cells tA [.row 2], .cells tB [.str k], .elems ty one n get] => some (mkFPre tA tB ty one n get i, .c (.bool (!ltB (prK (prL n get) i.toNat) k)), [.cells 31 [.row 2], .cells 9 [.str k], .dead])
  | _, _ => none

set_option maxRecDepth 100000 in
set_option maxHeartbeats 4000000 in
theorem mkFP : Fn Tryd.prog 84 [] [] sMkF := by
  have hC : CtsOk Tryd.prog [] := CtsOk.nil _
  refine Fn.of (E := tbMk) [] 0 [(1, [(0, true), (1, true), (2, true), (3, true), (4, true), (5, true), (6, true), (7, true)])] tbMk_ok hC (by kernel_rfl) Tryd.func84 rfl rfl rfl (by kernel_rfl) (by kernel_rfl) 3 63 2 ?_ ?_
  · intro args h pre r h' hs
    unfold sMkF at hs
    split at hs
    · cases hs; exact ⟨rfl, rfl, Nat.le_of_ble_eq_true rfl⟩
    · cases hs
  · intro args h pre r h' hs hp
    unfold sMkF at hs
    split at hs
    rotate_left
    · cases hs
    rename_i i tA tB k ty one n get
    cases hs
    obtain ⟨rfl, rfl, ⟨rfl, rfl, hst, hm⟩, hq⟩ := hp
    refine ⟨[.cells 31 [.row 2], .cells 9 [.str k], .elems 63 2 n (prG (prL n get))], ⟨rfl, rfl, ⟨rfl, rfl, rfl, fun i hi => hst.eq hi⟩, trivial⟩, ?_⟩
    have hL : (prL n get).length = n := prL_len
    have ePR : prL n (prG (prL n get)) = prL n get := by
      have := prL_prG (prL n get)
      rwa [hL] at this
    generalize prL n get = L at hL ePR ⊢
    generalize hg0 : (List.length : List PP → Nat) = g0
    try unfold prG
    generalize ho0 : @prK = zo0, ho1 : @prV = zo1, ho2 : @prL = zo2, ho3 : @ltB = zo3, ho4 : @mkFPre = zo4
    generalize hA : Arith.std = A
    cbv
    subst hA hg0 ho0 ho1 ho2 ho3 ho4
    have hq2 : i < (n : Int) := hq.2
    refine Need.mk (by show 0 ≤ i ∧ i < (n : Int); exact hq) fun _ => Need.mk (by show i.toNat < n; omega) fun _ => ?_
    exact ⟨[0, 1, 2], ⟨rfl, (by repeat' (first | exact trivial | exact rfl | apply And.intro | exact (fun _ _ _ _ => Cell.le_refl _) | (intro i hi; rfl) | (intro i hi; exact absurd hi (Nat.not_lt_zero _)))), (by show List.Nodup [0, 1]; decide), rfl, by repeat' (first | exact trivial | exact rfl | apply And.intro | exact (fun _ _ _ _ => Cell.le_refl _) | (intro i hi; rfl) | (intro i hi; exact absurd hi (Nat.not_lt_zero _)))⟩⟩

def sSea : SpecF
  | [.c (.int .i64 n0), .fn f [.ptr 0 0, .ptr 1 0]], [.cells tA [.row 2], .cells tB [.str k], .elems ty one n get] => some (n0 = (n : Int) ∧ f = 84 ∧ tA = 31 ∧ tB = 9 ∧ prPre ty one n get ∧ StS (prL n get), .c (.int .i64 (findI (prL n get) k : Int)), [.cells 31 [.row 2], .cells 9 [.str k], .dead])
  | _, _ => none

set_option maxRecDepth 100000 in
set_option maxHeartbeats 8000000 in
theorem seaP : Fn Tryd.prog 83 [] [] sSea := by
  have hC : CtsOk Tryd.prog [(84, appFn [] [] sMkF)] := CtsOk.cons (Fn.ct mkFP) <| CtsOk.nil _
  refine Fn.of (E := tbMk) [] 0 [] tbMk_ok hC (by kernel_rfl) Tryd.func83 rfl rfl rfl (by kernel_rfl) (by kernel_rfl) 3 63 2 ?_ ?_
  · intro args h pre r h' hs
    unfold sSea at hs
    split at hs
    · cases hs; exact ⟨rfl, rfl, Nat.le_of_ble_eq_true rfl⟩
    · cases hs
  · intro args h pre r h' hs hp
    unfold sSea at hs
    split at hs
    rotate_left
    · cases hs
    rename_i n0 f tA tB k ty one n get
    cases hs
    obtain ⟨rfl, rfl, rfl, rfl, ⟨rfl, rfl, hst, hm⟩, hs⟩ := hp
    refine ⟨[.cells 31 [.row 2], .cells 9 [.str k], .elems 63 2 n (prG (prL n get))], ⟨rfl, rfl, ⟨rfl, rfl, rfl, fun i hi => hst.eq hi⟩, trivial⟩, ?_⟩
    have hL : (prL n get).length = n := prL_len
    have ePR : prL n (prG (prL n get)) = prL n get := by
      have := prL_prG (prL n get)
      rwa [hL] at this
    generalize prL n get = L at hL ePR hs ⊢
    unfold sMkF
    generalize hg0 : (List.length : List PP → Nat) = g0
    generalize hL : lft Tryd.prog _ = L
    try unfold prG
    generalize ho0 : @prK = zo0, ho1 : @prV = zo1, ho2 : @prL = zo2, ho3 : @ltB = zo3, ho4 : @findI = zo4, ho5 : @prPre = zo5, ho6 : @mkFPre = zo6
    generalize hA : Arith.std = A
    cbv
    subst hA hg0 hL ho0 ho1 ho2 ho3 ho4 ho5 ho6
    show Runs Tryd.prog 3 (.loop _) _ _
    refine loop_ruleR (N := env (lft Tryd.prog 3) 0 .std tbMk [(84, appFn [] [] sMkF)] []) rfl tbMk_ok hC (fun c st K _ h => h) (by kernel_rfl) [] (X := LBs L k n)
      (S := fun x => ⟨[.c (.int .i64 n), .fn 84 [.ptr 0 0, .ptr 1 0], .any, .any, .any, .c (.int .i64 x.i), .c (.int .i64 x.j)] ++ List.replicate 19 .any, [.cells 31 [.row 2], .cells 9 [.str k], .elems 63 2 n (prG L)]⟩) (μ := fun x => (x.j - x.i).toNat) ⟨0, n, by omega, by omega, by omega, by omega, by have := findI_le (L := L) (k := k); omega⟩ (by kernel_rfl) [0, 1, 2] ?_ ?_
    · refine ⟨rfl, by decide, ?_, ?_⟩ <;> repeat' (first | exact trivial | exact rfl | apply And.intro | exact (fun _ _ _ _ => Cell.le_refl _) | (intro i hi; rfl) | (intro i hi; exact absurd hi (Nat.not_lt_zero _)))
    rintro ⟨i, j, hi0, hij, hjn, hlo, hhi⟩
    unfold sMkF
    generalize hg0 : (List.length : List PP → Nat) = g0
    generalize hL : lft Tryd.prog _ = L
    try dsimp only
    try unfold prG
    generalize ho0 : @prK = zo0, ho1 : @prV = zo1, ho2 : @prL = zo2, ho3 : @ltB = zo3, ho4 : @findI = zo4, ho5 : @prPre = zo5, ho6 : @mkFPre = zo6
    generalize hA : Arith.std = A
    cbv
    subst hA hg0 hL ho0 ho1 ho2 ho3 ho4 ho5 ho6
    replace hjn : j ≤ @Nat.cast Int instNatCastInt n := hjn
    replace hlo : i ≤ @Nat.cast Int instNatCastInt (findI L k) := hlo
    replace hhi : @Nat.cast Int instNatCastInt (findI L k) ≤ j := hhi
    have eM : (Arith.std.wrap .i64 (Arith.std.shr .u64 (Arith.std.wrap .u64 (Arith.std.add i j)) 1)) = (i + j) / 2 := by
      show IntKind.wrap .i64 (Int.fdiv (IntKind.wrap .u64 (i + j)) (2 ^ (min (1 : Int).toNat IntKind.u64.bits))) = _
      rw [show (2 : Int) ^ (min (1 : Int).toNat IntKind.u64.bits) = 2 from rfl, IntKind.wrap_u64, Int.fdiv_eq_ediv_of_nonneg _ (by decide), Int.emod_eq_of_lt (by omega) (by omega)]
      exact fitStd_wrap (by unfold fitStd; omega)
    refine Ife.mk (fun hlt => ?_) (fun hlt => ?_)
    · replace hlt : i < j := of_decide_eq_true (p := i < j) hlt
      have hm1 : i ≤ (i + j) / 2 := by omega
      have hm2 : (i + j) / 2 < j := by omega
      refine Need.mk (by show fitStd .i64 (i + j); unfold fitStd; omega) fun _ => Need.mk (by show (0 : Int) ≤ 1; decide) fun _ => ?_
      refine Need.mk ⟨rfl, rfl, ⟨rfl, rfl, prAt_prG n L, hm⟩, by show 0 ≤ (Arith.std.wrap .i64 (Arith.std.shr .u64 (Arith.std.wrap .u64 (Arith.std.add i j)) 1)); rw [eM]; omega, by show (Arith.std.wrap .i64 (Arith.std.shr .u64 (Arith.std.wrap .u64 (Arith.std.add i j)) 1)) < (n : Int); rw [eM]; omega⟩ fun _ => ?_
      refine Ife.mk (fun h => ?_) (fun h => ?_)
      · have h : (!!ltB (prK (prL n (prG L)) ((Arith.std.wrap .i64 (Arith.std.shr .u64 (Arith.std.wrap .u64 (Arith.std.add i j)) 1))).toNat) k) = true := h
        rw [ePR, eM, Bool.not_not] at h
        have hlo2 : (i + j) / 2 + 1 ≤ (findI L k : Int) := by
          apply Classical.byContradiction
          intro hno
          have := findI_ge hs (k := k) (i := ((i + j) / 2).toNat) (by omega) (by omega)
          rw [h] at this
          cases this
        refine Need.mk (by show fitStd .i64 ((Arith.std.wrap .i64 (Arith.std.shr .u64 (Arith.std.wrap .u64 (Arith.std.add i j)) 1)) + 1); rw [eM]; unfold fitStd; omega) fun _ => ?_
        refine ⟨⟨(Arith.std.wrap .i64 (Arith.std.shr .u64 (Arith.std.wrap .u64 (Arith.std.add i j)) 1)) + 1, j, by rw [eM]; omega, by rw [eM]; omega, hjn, by rw [eM]; exact hlo2, hhi⟩, [0, 1, 2], (by show (j - ((Arith.std.wrap .i64 (Arith.std.shr .u64 (Arith.std.wrap .u64 (Arith.std.add i j)) 1)) + 1)).toNat < (j - i).toNat; rw [eM]; omega), ?_⟩
        refine ⟨rfl, by decide, ?_, ?_⟩ <;> repeat' (first | exact trivial | exact rfl | apply And.intro | exact (fun _ _ _ _ => Cell.le_refl _) | (intro i hi; rfl) | (intro i hi; exact absurd hi (Nat.not_lt_zero _)))
      · have h : (!!ltB (prK (prL n (prG L)) ((Arith.std.wrap .i64 (Arith.std.shr .u64 (Arith.std.wrap .u64 (Arith.std.add i j)) 1))).toNat) k) = false := h
        rw [ePR, eM, Bool.not_not] at h
        have hhi2 : (findI L k : Int) ≤ (i + j) / 2 := by
          apply Classical.byContradiction
          intro hno
          have := findI_lt (L := L) (k := k) (i := ((i + j) / 2).toNat) (by omega)
          rw [h] at this
          cases this
        refine ⟨⟨i, (Arith.std.wrap .i64 (Arith.std.shr .u64 (Arith.std.wrap .u64 (Arith.std.add i j)) 1)), hi0, by rw [eM]; omega, by rw [eM]; omega, hlo, by rw [eM]; exact hhi2⟩, [0, 1, 2], (by show ((Arith.std.wrap .i64 (Arith.std.shr .u64 (Arith.std.wrap .u64 (Arith.std.add i j)) 1)) - i).toNat < (j - i).toNat; rw [eM]; omega), ?_⟩
        refine ⟨rfl, by decide, ?_, ?_⟩ <;> repeat' (first | exact trivial | exact rfl | apply And.intro | exact (fun _ _ _ _ => Cell.le_refl _) | (intro i hi; rfl) | (intro i hi; exact absurd hi (Nat.not_lt_zero _)))
    · replace hlt : ¬ i < j := of_decide_eq_false (p := i < j) hlt
      have ei : i = (findI L k : Int) := by omega
      exact ⟨[0, 1, 2], ⟨rfl, (by repeat' (first | exact trivial | exact ei | exact rfl | apply And.intro)), (by show List.Nodup [0, 1]; decide), rfl, by repeat' (first | exact trivial | exact rfl | apply And.intro | exact (fun _ _ _ _ => Cell.le_refl _) | (intro i hi; rfl) | (intro i hi; exact absurd hi (Nat.not_lt_zero _)))⟩⟩

end Go.Proofs.YthomoliklfmnkaaDoor.Vx
end

section
/- Proofs compared; copies of leaves and of sums, by the walker. -/
namespace Go.Proofs.YthomoliklfmnkaaDoor.Vx
open Go.RowKit
set_option linter.unusedVariables false
set_option linter.unusedSimpArgs false
/-- Sums, of their cells. -/
def hsL (n : Nat) (get : Nat → List CV) : List (List Int) := (List.range n).map fun i => (get i).map vInt
structure HsOk (p : List (List Int)) : Prop where
  len : p.length ≤ 1000000000
  hs : ∀ h ∈ p, h.length = 32 ∧ ∀ b ∈ h, 0 ≤ b ∧ b < 256
def HsAt (n : Nat) (get : Nat → List CV) : Prop := ∀ i, i < n → get i = pG (hsL n get) i
def hsPre (ty sz n : Nat) (get : Nat → List CV) : Prop := ty = 24 ∧ sz = 32 ∧ HsAt n get ∧ HsOk (hsL n get)
theorem PLeaf.ok.hsOk {x : PLeaf} (h : x.ok) : HsOk x.p := ⟨h.ps, h.hs⟩
theorem lP_ok {L : List PLeaf} (hok : ∀ x ∈ L, x.ok) {i : Nat} : HsOk (lP L i) := by
  unfold lP
  by_cases hi : i < L.length
  · rw [show L.getD i .none = L[i] by simp [List.getD, hi]]
    exact (hok _ (List.getElem_mem hi)).hsOk
  · rw [List.getD_eq_getElem?_getD, List.getElem?_eq_none (by omega)]
    exact ⟨by simp [PLeaf.none], fun h hh => by simp [PLeaf.none] at hh⟩
def sumAt (p q : List (List Int)) (i : Nat) : Bool := decide (p.getD i [] = q.getD i [])
def e32 (f g : Nat → Int) : Bool := decide (f 0 = g 0) && (decide (f 1 = g 1) && (decide (f 2 = g 2) && (decide (f 3 = g 3) && (decide (f 4 = g 4) && (decide (f 5 = g 5) && (decide (f 6 = g 6) && (decide (f 7 = g 7) && (decide (f 8 = g 8) && (decide (f 9 = g 9) && (decide (f 10 = g 10) && (decide (f 11 = g 11) && (decide (f 12 = g 12) && (decide (f 13 = g 13) && (decide (f 14 = g 14) && (decide (f 15 = g 15) && (decide (f 16 = g 16) && (decide (f 17 = g 17) && (decide (f 18 = g 18) && (decide (f 19 = g 19) && (decide (f 20 = g 20) && (decide (f 21 = g 21) && (decide (f 22 = g 22) && (decide (f 23 = g 23) && (decide (f 24 = g 24) && (decide (f 25 = g 25) && (decide (f 26 = g 26) && (decide (f 27 = g 27) && (decide (f 28 = g 28) && (decide (f 29 = g 29) && (decide (f 30 = g 30) && (decide (f 31 = g 31) && true)))))))))))))))))))))))))))))))
theorem e32_iff {f g : Nat → Int} : e32 f g = true ↔ ∀ i, i < 32 → f i = g i := by
  constructor
  · intro h i hi
    simp only [e32, Bool.and_eq_true, decide_eq_true_iff, and_true] at h
    have : i = 0 ∨ i = 1 ∨ i = 2 ∨ i = 3 ∨ i = 4 ∨ i = 5 ∨ i = 6 ∨ i = 7 ∨ i = 8 ∨ i = 9 ∨ i = 10 ∨ i = 11 ∨ i = 12 ∨ i = 13 ∨ i = 14 ∨ i = 15 ∨ i = 16 ∨ i = 17 ∨ i = 18 ∨ i = 19 ∨ i = 20 ∨ i = 21 ∨ i = 22 ∨ i = 23 ∨ i = 24 ∨ i = 25 ∨ i = 26 ∨ i = 27 ∨ i = 28 ∨ i = 29 ∨ i = 30 ∨ i = 31 := by omega
    rcases this with rfl | rfl | rfl | rfl | rfl | rfl | rfl | rfl | rfl | rfl | rfl | rfl | rfl | rfl | rfl | rfl | rfl | rfl | rfl | rfl | rfl | rfl | rfl | rfl | rfl | rfl | rfl | rfl | rfl | rfl | rfl | rfl <;> simp [h]
  · intro h
    simp only [e32, Bool.and_eq_true, decide_eq_true_iff, and_true]
    refine ⟨h 0 (by omega), h 1 (by omega), h 2 (by omega), h 3 (by omega), h 4 (by omega), h 5 (by omega), h 6 (by omega), h 7 (by omega), h 8 (by omega), h 9 (by omega), h 10 (by omega), h 11 (by omega), h 12 (by omega), h 13 (by omega), h 14 (by omega), h 15 (by omega), h 16 (by omega), h 17 (by omega), h 18 (by omega), h 19 (by omega), h 20 (by omega), h 21 (by omega), h 22 (by omega), h 23 (by omega), h 24 (by omega), h 25 (by omega), h 26 (by omega), h 27 (by omega), h 28 (by omega), h 29 (by omega), h 30 (by omega), h 31 (by omega)⟩
theorem e32_sum {p q : List (List Int)} (hp : HsOk p) (hq : HsOk q) {i : Nat} (h1 : i < p.length) (h2 : i < q.length) : e32 (fun j => (p.getD i []).getD j 0) (fun j => (q.getD i []).getD j 0) = sumAt p q i := by
  unfold sumAt
  rw [show p.getD i [] = p[i] by simp [List.getD, h1], show q.getD i [] = q[i] by simp [List.getD, h2]]
  have l1 := (hp.hs _ (List.getElem_mem h1)).1
  have l2 := (hq.hs _ (List.getElem_mem h2)).1
  rw [Bool.eq_iff_iff, e32_iff, decide_eq_true_iff]
  constructor
  · intro h
    apply List.ext_getElem (by omega)
    intro j k1 k2
    have := h j (by omega)
    simpa [List.getD, k1, k2] using this
  · intro h j hj
    rw [h]
theorem list_eq {α : Type} {l m : List α} (d : α) (hl : l.length = m.length) {j : Nat} (hj : l.length ≤ j) (h : ∀ k, k < j → l.getD k d = m.getD k d) : l = m := by
  apply List.ext_getElem hl
  intro i h1 h2
  have := h i (by omega)
  simpa [List.getD, h1, h2] using this
theorem list_ne {α : Type} {l m : List α} (d : α) {i : Nat} (h : ¬ l.getD i d = m.getD i d) : ¬ l = m := fun e => h (by rw [e])
def tbQ : Tbl where
  T :=
    (3, ⟨1, false, [.int .i64 (0)], .int .i64, 8⟩) ::
    (4, ⟨1, false, [.ff], .bool, 1⟩) ::
    (9, ⟨1, false, [.str []], .str, 16⟩) ::
    (115, ⟨4, true, [.str [], .str [], .int .i64 (0), .val (.slice none 0 0)], .struct [(0, (1, false)), (1, (1, false)), (2, (1, false)), (3, (1, false))], 64⟩) ::
    (25, ⟨1, false, [.val (.slice none 0 0)], .slice 115, 24⟩) ::
    (27, ⟨2, true, [.int .i64 (0), .val (.slice none 0 0)], .struct [(0, (1, false)), (1, (1, false))], 32⟩) ::
    (24, ⟨32, true, [.int .u8 (0), .int .u8 (0), .int .u8 (0), .int .u8 (0), .int .u8 (0), .int .u8 (0), .int .u8 (0), .int .u8 (0), .int .u8 (0), .int .u8 (0), .int .u8 (0), .int .u8 (0), .int .u8 (0), .int .u8 (0), .int .u8 (0), .int .u8 (0), .int .u8 (0), .int .u8 (0), .int .u8 (0), .int .u8 (0), .int .u8 (0), .int .u8 (0), .int .u8 (0), .int .u8 (0), .int .u8 (0), .int .u8 (0), .int .u8 (0), .int .u8 (0), .int .u8 (0), .int .u8 (0), .int .u8 (0), .int .u8 (0)], .array 32 5, 32⟩) ::
    (113, ⟨1, false, [.val (.slice none 0 0)], .slice 24, 24⟩) ::
    (5, ⟨1, false, [.int .u8 (0)], .int .u8, 1⟩) ::
    []
  F :=
    (24, [0, 0, 0, 0, 0, 0, 0, 0, 0, 0, 0, 0, 0, 0, 0, 0, 0, 0, 0, 0, 0, 0, 0, 0, 0, 0, 0, 0, 0, 0, 0, 0]) ::
    []

theorem tbQ_ok : tbQ.Ok Tryd.prog where
  T :=
    TblOk.cons (by kernel_rfl) <|
    TblOk.cons (by kernel_rfl) <|
    TblOk.cons (by kernel_rfl) <|
    TblOk.cons (by kernel_rfl) <|
    TblOk.cons (by kernel_rfl) <|
    TblOk.cons (by kernel_rfl) <|
    TblOk.cons (by kernel_rfl) <|
    TblOk.cons (by kernel_rfl) <|
    TblOk.cons (by kernel_rfl) <|
    TblOk.nil _
  F :=
    FlatsOk.cons (FlatOk.of (D := .array 32 5) 6 (by decide) (by kernel_rfl) (by kernel_rfl) rfl (by kernel_rfl)) <|
    FlatsOk.nil _

def sEqH : SpecF
  | [.c (.row 0), .c (.row 1)], [.elems ty sz n get, .elems ty' sz' n' get'] => some (hsPre ty sz n get ∧ hsPre ty' sz' n' get', .c (.bool (decide (hsL n get = hsL n' get'))), [.dead, .dead])
  | _, _ => none


def sAlike : SpecF
  | [.agg [.str k, .str v, .int .i64 i, .row 0], .agg [.str k', .str v', .int .i64 i', .row 1]], [.elems ty sz n get, .elems ty' sz' n' get'] => some (hsPre ty sz n get ∧ hsPre ty' sz' n' get', .c (.bool (decide ((⟨k, v, i, hsL n get⟩ : PLeaf) = ⟨k', v', i', hsL n' get'⟩))), [.dead, .dead])
  | _, _ => none


def sEqF : SpecF
  | [.c (.row 0), .c (.row 1), .fn f []], [.data fr ty sz n get, .data fr' ty' sz' n' get'] => some (f = 91 ∧ leavesPre ty sz n get ∧ leavesPre ty' sz' n' get', .c (.bool (decide (leafL n get = leafL n' get'))), [.dead, .dead])
  | _, _ => none


def sSamePr : SpecF
  | [.agg [.int .i64 c, .row 0], .agg [.int .i64 c', .row 1]], [.data fr ty sz n get, .data fr' ty' sz' n' get'] => some (leavesPre ty sz n get ∧ leavesPre ty' sz' n' get', .c (.bool (decide (c = c') && decide (leafL n get = leafL n' get'))), [.dead, .dead])
  | _, _ => none




end Go.Proofs.YthomoliklfmnkaaDoor.Vx
end

section
/- Copies of leaves: elements that hold slices, as values that are not looked into. -/
namespace Go.Proofs.YthomoliklfmnkaaDoor.Vx
open Go.RowKit
set_option linter.unusedVariables false
set_option linter.unusedSimpArgs false





end Go.Proofs.YthomoliklfmnkaaDoor.Vx
end
