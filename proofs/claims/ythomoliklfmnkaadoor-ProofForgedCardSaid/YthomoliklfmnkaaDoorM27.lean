/- Proofs that may be; light proofs, by the walker. -/
import Derived.Test.YthomoliklfmnkaaDoorM26
import Derived.Test.YthomoliklfmnkaaDoorM22
import Derived.Test.YthomoliklfmnkaaDoorM25
import Derived.Test.YthomoliklfmnkaaDoorM20
section
namespace Go.Proofs.YthomoliklfmnkaaDoor.Vx
open Go.RowKit
set_option linter.unusedVariables false
set_option linter.unusedSimpArgs false
/-- So far all is well. -/
structure LIx (n : Nat) (P : Nat → Bool) where
  i : Int
  h0 : 0 ≤ i
  h1 : i ≤ (n : Int)
  h2 : ∀ k, k < i.toNat → P k = true
theorem all_no {n : Nat} {P : Nat → Bool} {i : Nat} (hi : i < n) (h : ¬ P i = true) : (List.range n).all P = false := by
  rw [Bool.eq_false_iff]
  intro h2
  exact h (List.all_eq_true.1 h2 i (List.mem_range.2 hi))
theorem all_yes {n : Nat} {P : Nat → Bool} {j : Nat} (h : ∀ k, k < j → P k = true) (hj : n ≤ j) : (List.range n).all P = true := List.all_eq_true.2 fun k hk => h k (by have := List.mem_range.1 hk; omega)
theorem lix_next {P : Nat → Bool} {i : Int} (h0 : 0 ≤ i) (h : ∀ k, k < i.toNat → P k = true) (hi : P i.toNat = true) : ∀ k, k < (i + 1).toNat → P k = true := fun k hk => by
  rcases Nat.lt_or_ge k i.toNat with h1 | h1
  · exact h k h1
  · rw [show k = i.toNat by omega]; exact hi
def mayAt (c : Int) (L : List PLeaf) (i : Nat) : Bool := sizedB (lK L i) (lV L i) && (decide (0 ≤ lI L i) && (decide (lI L i < c) && decide ((lN L i : Int) = deep c (lI L i))))
def mayL (c : Int) (L : List PLeaf) : Bool := decide (0 ≤ c) && (decide (c ≤ 1073741824) && (decide (L.length ≤ 2) && (List.range L.length).all (mayAt c L)))
theorem sizedB_iff {k v : List UInt8} : sizedB k v = true ↔ (1 ≤ k.length ∧ k.length ≤ 160) ∧ 1 ≤ v.length ∧ v.length ≤ 64 := by simp [sizedB]
theorem mayAt_iff {c : Int} {L : List PLeaf} {i : Nat} : mayAt c L i = true ↔ ((1 ≤ (lK L i).length ∧ (lK L i).length ≤ 160) ∧ 1 ≤ (lV L i).length ∧ (lV L i).length ≤ 64) ∧ 0 ≤ lI L i ∧ lI L i < c ∧ (lN L i : Int) = deep c (lI L i) := by
  unfold mayAt
  rw [Bool.and_eq_true, sizedB_iff]
  simp only [Bool.and_eq_true, decide_eq_true_iff]
theorem mayL_no {c : Int} {L : List PLeaf} (h : ¬ (0 ≤ c ∧ c ≤ 1073741824 ∧ L.length ≤ 2)) : mayL c L = false := by
  rw [Bool.eq_false_iff]
  intro h2
  simp only [mayL, Bool.and_eq_true, decide_eq_true_iff] at h2
  exact h ⟨h2.1, h2.2.1, h2.2.2.1⟩
theorem mayL_at {c : Int} {L : List PLeaf} {i : Nat} (hi : i < L.length) (h : ¬ mayAt c L i = true) : mayL c L = false := by
  unfold mayL
  rw [all_no hi h]
  simp
theorem mayL_yes {c : Int} {L : List PLeaf} (h : 0 ≤ c ∧ c ≤ 1073741824 ∧ L.length ≤ 2) {j : Nat} (h2 : ∀ k, k < j → mayAt c L k = true) (hj : L.length ≤ j) : mayL c L = true := by
  unfold mayL
  rw [all_yes h2 hj]
  simp only [Bool.and_eq_true, decide_eq_true_iff, and_true]
  exact h
def lightAt (L : List PLeaf) (i : Nat) : Bool := decide ((lK L i).length ≤ 400) && (decide ((lV L i).length ≤ 400) && decide (lN L i ≤ 40))
theorem lightAt_iff {L : List PLeaf} {i : Nat} : lightAt L i = true ↔ (lK L i).length ≤ 400 ∧ (lV L i).length ≤ 400 ∧ lN L i ≤ 40 := by simp [lightAt]
def lightL (l : List PLeaf) : Bool := decide (l.length ≤ 5) && (List.range l.length).all (lightAt l)
theorem lightL_at {L : List PLeaf} {i : Nat} (hi : i < L.length) (h : ¬ lightAt L i = true) : lightL L = false := by
  unfold lightL
  rw [all_no hi h]
  simp
theorem lightL_yes {L : List PLeaf} (h : L.length ≤ 5) {j : Nat} (h2 : ∀ k, k < j → lightAt L k = true) (hj : L.length ≤ j) : lightL L = true := by
  unfold lightL
  rw [all_yes h2 hj]
  simpa using h
/-- Leaves of any size. -/
def leavesAt0 (ty sz n : Nat) (get : Nat → Nat → Cell) : Prop := ty = 115 ∧ sz = 4 ∧ LeavesAt n get
theorem leafL_congr {n : Nat} {g k : Nat → Nat → Cell} (h : ∀ i j, i < n → j < 4 → g i j = k i j) : leafL n g = leafL n k := by
  unfold leafL
  apply List.map_congr_left
  intro i hi
  have hi : i < n := by simpa using hi
  unfold leafOf
  rw [h i 0 hi (by omega), h i 1 hi (by omega), h i 2 hi (by omega), h i 3 hi (by omega)]
theorem leaves0 {n : Nat} {get : Nat → Nat → Cell} (h : LeavesAt n get) : leafL n (fun i j => (leafG false (leafL n get) i j).old) = leafL n get := leafL_congr fun i j hi hj => by rw [leafG_old, ← h i j hi hj]
theorem leavesAt0_of {n : Nat} {L : List PLeaf} (h : leafL n (fun i j => (leafG false L i j).old) = L) : leavesAt0 115 4 n fun i j => (leafG false L i j).old := ⟨rfl, rfl, fun i j hi hj => by rw [h]; exact leafG_old⟩
def sLightPr : SpecF
  | [.agg [.int .i64 c, .row 0]], [.data fr ty sz n get] => some (leavesAt0 ty sz n get, .c (.bool (lightL (leafL n get))), [.dead])
  | _, _ => none

set_option maxRecDepth 100000 in
set_option maxHeartbeats 4000000 in
theorem lightPrP : Fn Tryd.prog 15 [] [(115, 204)] sLightPr := by
  have hC : CtsOk Tryd.prog [] := CtsOk.nil _
  refine Fn.of (E := tbP) [] 0 [] tbP_ok hC (by kernel_rfl) Tryd.func15 rfl rfl rfl (by kernel_rfl) (by kernel_rfl) 1 5 1 ?_ ?_
  · intro args h pre r h' hs
    unfold sLightPr at hs
    split at hs
    · cases hs; exact ⟨rfl, rfl, Nat.le_of_ble_eq_true rfl⟩
    · cases hs
  · intro args h pre r h' hs hp
    unfold sLightPr at hs
    split at hs
    rotate_left
    · cases hs
    rename_i c fr ty sz n get
    cases hs
    obtain ⟨rfl, rfl, hst⟩ := hp
    refine ⟨[.data fr 115 4 n (leafG false (leafL n get))], ⟨⟨rfl, rfl, rfl, rfl, fun i j hi hj => by rw [hst i j hi hj]; exact Cell.le_refl _⟩, trivial⟩, ?_⟩
    have hL : (leafL n get).length = n := leafL_len
    generalize leafL n get = L at hL ⊢
    generalize hg0 : (List.length : List UInt8 → Nat) = g0
    generalize hL : lft Tryd.prog _ = L
    try unfold leafG
    generalize ho0 : @lK = zo0, ho1 : @lV = zo1, ho2 : @lI = zo2, ho3 : @lP = zo3, ho4 : @lN = zo4, ho5 : @pG = zo5, ho6 : @leafL = zo6, ho7 : @lightAt = zo7, ho8 : @lightL = zo8, ho9 : @leavesAt0 = zo9
    generalize hA : Arith.std = A
    cbv
    subst hA hg0 hL ho0 ho1 ho2 ho3 ho4 ho5 ho6 ho7 ho8 ho9
    refine Ife.mk (fun h => ?_) (fun h => ?_)
    · have h : (5 : Int) < (@Nat.cast Int instNatCastInt n) := of_decide_eq_true (p := (5 : Int) < (n : Int)) h
      rw [show lightL L = false by unfold lightL; rw [decide_eq_false (by omega)]; rfl]
      exact ⟨[0], ⟨rfl, by repeat' (first | exact trivial | exact rfl | apply And.intro | exact (fun _ _ _ _ => Cell.le_refl _) | (intro i hi; rfl) | (intro i hi; exact absurd hi (Nat.not_lt_zero _))), by decide, rfl, by repeat' (first | exact trivial | exact rfl | apply And.intro | exact (fun _ _ _ _ => Cell.le_refl _) | (intro i hi; rfl) | (intro i hi; exact absurd hi (Nat.not_lt_zero _)))⟩⟩
    have h : ¬ ((5 : Int) < (@Nat.cast Int instNatCastInt n)) := of_decide_eq_false (p := (5 : Int) < (n : Int)) h
    replace h := And.intro h trivial
    obtain ⟨hc0, _⟩ := h
    show Runs Tryd.prog 1 (.loop _) _ _
    refine loop_ruleR (N := env (lft Tryd.prog 1) 0 .std tbP [] []) rfl tbP_ok hC (fun c st K _ h => h) (by kernel_rfl) [] (X := LIx n (lightAt L))
      (S := fun x => ⟨[.any, .c (.ptr 1 0), .any, .c (.int .i64 x.i)] ++ List.replicate 33 .any, [.data fr 115 4 n (leafG false L), .cells 27 [.int .i64 c, .row 0]]⟩) (μ := fun x => n - x.i.toNat) ⟨0, by omega, by omega, fun k hk => absurd hk (by omega)⟩ (by kernel_rfl) [0, 1] ?_ ?_
    · refine ⟨rfl, by decide, ?_, ?_⟩ <;> repeat' (first | exact trivial | exact rfl | apply And.intro | exact (fun _ _ _ _ => Cell.le_refl _) | (intro i hi; rfl) | (intro i hi; exact absurd hi (Nat.not_lt_zero _)))
    rintro ⟨i, hi0, hin, hP⟩
    generalize hg0 : (List.length : List UInt8 → Nat) = g0
    generalize hL : lft Tryd.prog _ = L
    try dsimp only
    try unfold leafG
    generalize ho0 : @lK = zo0, ho1 : @lV = zo1, ho2 : @lI = zo2, ho3 : @lP = zo3, ho4 : @lN = zo4, ho5 : @pG = zo5, ho6 : @leafL = zo6, ho7 : @lightAt = zo7, ho8 : @lightL = zo8, ho9 : @leavesAt0 = zo9
    generalize hA : Arith.std = A
    cbv
    subst hA hg0 hL ho0 ho1 ho2 ho3 ho4 ho5 ho6 ho7 ho8 ho9
    try replace hc0 : ¬ ((5 : Int) < (@Nat.cast Int instNatCastInt n)) := hc0
    replace hi0 : 0 ≤ i := hi0
    replace hin : i ≤ @Nat.cast Int instNatCastInt n := hin
    replace hP : ∀ k, k < i.toNat → lightAt L k = true := hP
    refine Ife.mk (fun hlt => ?_) (fun hlt => ?_)
    · replace hlt : i < @Nat.cast Int instNatCastInt n := of_decide_eq_true (p := i < (n : Int)) hlt
      have hiL : i.toNat < L.length := by omega
      refine Need.mk (by show 0 ≤ i ∧ i < (n : Int); omega) fun _ => Need.mk (by show i.toNat < n; omega) fun _ => ?_
      refine Ife.mk (fun h => ?_) (fun h => ?_)
      · have h : (400 : Int) < ((lK L i.toNat).length : Int) := of_decide_eq_true (p := (400 : Int) < ((lK L i.toNat).length : Int)) h
        rw [show lightL L = false from lightL_at hiL fun hh => by have hh := lightAt_iff.1 hh; omega]
        exact ⟨[0], ⟨rfl, by repeat' (first | exact trivial | exact rfl | apply And.intro | exact (fun _ _ _ _ => Cell.le_refl _) | (intro i hi; rfl) | (intro i hi; exact absurd hi (Nat.not_lt_zero _))), by decide, rfl, by repeat' (first | exact trivial | exact rfl | apply And.intro | exact (fun _ _ _ _ => Cell.le_refl _) | (intro i hi; rfl) | (intro i hi; exact absurd hi (Nat.not_lt_zero _)))⟩⟩
      have h : ¬ ((400 : Int) < ((lK L i.toNat).length : Int)) := of_decide_eq_false (p := (400 : Int) < ((lK L i.toNat).length : Int)) h
      replace h := And.intro h trivial
      obtain ⟨hd0, _⟩ := h
      refine Ife.mk (fun h => ?_) (fun h => ?_)
      · have h : (400 : Int) < ((lV L i.toNat).length : Int) := of_decide_eq_true (p := (400 : Int) < ((lV L i.toNat).length : Int)) h
        rw [show lightL L = false from lightL_at hiL fun hh => by have hh := lightAt_iff.1 hh; omega]
        exact ⟨[0], ⟨rfl, by repeat' (first | exact trivial | exact rfl | apply And.intro | exact (fun _ _ _ _ => Cell.le_refl _) | (intro i hi; rfl) | (intro i hi; exact absurd hi (Nat.not_lt_zero _))), by decide, rfl, by repeat' (first | exact trivial | exact rfl | apply And.intro | exact (fun _ _ _ _ => Cell.le_refl _) | (intro i hi; rfl) | (intro i hi; exact absurd hi (Nat.not_lt_zero _)))⟩⟩
      have h : ¬ ((400 : Int) < ((lV L i.toNat).length : Int)) := of_decide_eq_false (p := (400 : Int) < ((lV L i.toNat).length : Int)) h
      replace h := And.intro h trivial
      obtain ⟨hd1, _⟩ := h
      refine Ife.mk (fun h => ?_) (fun h => ?_)
      · have h : (40 : Int) < ((lN L i.toNat : Nat) : Int) := of_decide_eq_true (p := (40 : Int) < ((lN L i.toNat : Nat) : Int)) h
        rw [show lightL L = false from lightL_at hiL fun hh => by have hh := lightAt_iff.1 hh; omega]
        exact ⟨[0], ⟨rfl, by repeat' (first | exact trivial | exact rfl | apply And.intro | exact (fun _ _ _ _ => Cell.le_refl _) | (intro i hi; rfl) | (intro i hi; exact absurd hi (Nat.not_lt_zero _))), by decide, rfl, by repeat' (first | exact trivial | exact rfl | apply And.intro | exact (fun _ _ _ _ => Cell.le_refl _) | (intro i hi; rfl) | (intro i hi; exact absurd hi (Nat.not_lt_zero _)))⟩⟩
      have h : ¬ ((40 : Int) < ((lN L i.toNat : Nat) : Int)) := of_decide_eq_false (p := (40 : Int) < ((lN L i.toNat : Nat) : Int)) h
      replace h := And.intro h trivial
      obtain ⟨hd2, _⟩ := h
      refine Need.mk (by show fitStd .i64 (i + 1); unfold fitStd; omega) fun _ => ?_
      refine ⟨⟨i + 1, by omega, by omega, lix_next hi0 hP (lightAt_iff.2 (by omega))⟩, [0, 1], (by show n - (i + 1).toNat < n - i.toNat; omega), ?_⟩
      refine ⟨rfl, by decide, ?_, ?_⟩ <;> repeat' (first | exact trivial | exact rfl | apply And.intro | exact (fun _ _ _ _ => Cell.le_refl _) | (intro i hi; rfl) | (intro i hi; exact absurd hi (Nat.not_lt_zero _)))
    · replace hlt : ¬ i < @Nat.cast Int instNatCastInt n := of_decide_eq_false (p := i < (n : Int)) hlt
      rw [lightL_yes (by omega) hP (by omega)]
      exact ⟨[0], ⟨rfl, by repeat' (first | exact trivial | exact rfl | apply And.intro | exact (fun _ _ _ _ => Cell.le_refl _) | (intro i hi; rfl) | (intro i hi; exact absurd hi (Nat.not_lt_zero _))), by decide, rfl, by repeat' (first | exact trivial | exact rfl | apply And.intro | exact (fun _ _ _ _ => Cell.le_refl _) | (intro i hi; rfl) | (intro i hi; exact absurd hi (Nat.not_lt_zero _)))⟩⟩

def sMayPr : SpecF
  | [.agg [.int .i64 c, .row 0]], [.data fr ty sz n get] => some (leavesPre ty sz n get, .c (.bool (mayL c (leafL n get))), [.dead])
  | _, _ => none

set_option maxRecDepth 100000 in
set_option maxHeartbeats 8000000 in
theorem mayPrP : Fn Tryd.prog 31 [] [(115, 204)] sMayPr := by
  have hC : CtsOk Tryd.prog [(76, appPure sSized), (89, appPure sDeep)] := CtsOk.cons (Pure.ct sizedP) <| CtsOk.cons (Pure.ct deepP) <| CtsOk.nil _
  refine Fn.of (E := tbP) [] 0 [(6, [(0, true), (1, true), (2, true), (3, true), (4, false), (5, true), (6, true), (7, true), (8, true), (9, true), (10, true), (11, true), (12, true), (13, true), (14, true), (15, true), (16, true), (17, true), (18, true), (19, true), (20, true), (21, true), (22, true), (23, true), (24, true), (25, true), (26, false), (27, true), (28, true)])] tbP_ok hC (by kernel_rfl) Tryd.func31 rfl rfl rfl (by kernel_rfl) (by kernel_rfl) 1 5 1 ?_ ?_
  · intro args h pre r h' hs
    unfold sMayPr at hs
    split at hs
    · cases hs; exact ⟨rfl, rfl, Nat.le_of_ble_eq_true rfl⟩
    · cases hs
  · intro args h pre r h' hs hp
    unfold sMayPr at hs
    split at hs
    rotate_left
    · cases hs
    rename_i c fr ty sz n get
    cases hs
    obtain ⟨rfl, rfl, hst, hok, hm⟩ := hp
    refine ⟨[.data fr 115 4 n (leafG false (leafL n get))], ⟨⟨rfl, rfl, rfl, rfl, fun i j hi hj => by rw [hst i j hi hj]; exact Cell.le_refl _⟩, trivial⟩, ?_⟩
    have hL : (leafL n get).length = n := leafL_len
    generalize leafL n get = L at hL hok ⊢
    unfold sSized sDeep
    generalize hg0 : (List.length : List UInt8 → Nat) = g0
    generalize hL : lft Tryd.prog _ = L
    try unfold leafG
    generalize ho0 : @lK = zo0, ho1 : @lV = zo1, ho2 : @lI = zo2, ho3 : @lP = zo3, ho4 : @lN = zo4, ho5 : @pG = zo5, ho6 : @leafL = zo6, ho7 : @sizedB = zo7, ho8 : @leavesPre = zo8, ho9 : @mayAt = zo9, ho10 : @mayL = zo10, ho11 : @deep = zo11
    generalize hA : Arith.std = A
    cbv
    subst hA hg0 hL ho0 ho1 ho2 ho3 ho4 ho5 ho6 ho7 ho8 ho9 ho10 ho11
    refine Ife.mk (fun h => ?_) (fun h => ?_)
    · have h : c < 0 := of_decide_eq_true (p := c < 0) h
      rw [mayL_no (by omega)]
      exact ⟨[0], ⟨rfl, by repeat' (first | exact trivial | exact rfl | apply And.intro | exact (fun _ _ _ _ => Cell.le_refl _) | (intro i hi; rfl) | (intro i hi; exact absurd hi (Nat.not_lt_zero _))), by decide, rfl, by repeat' (first | exact trivial | exact rfl | apply And.intro | exact (fun _ _ _ _ => Cell.le_refl _) | (intro i hi; rfl) | (intro i hi; exact absurd hi (Nat.not_lt_zero _)))⟩⟩
    have h : ¬ (c < 0) := of_decide_eq_false (p := c < 0) h
    replace h := And.intro h trivial
    obtain ⟨hc0, _⟩ := h
    refine Ife.mk (fun h => ?_) (fun h => ?_)
    · have h : (1073741824 : Int) < c := of_decide_eq_true (p := (1073741824 : Int) < c) h
      rw [mayL_no (by omega)]
      exact ⟨[0], ⟨rfl, by repeat' (first | exact trivial | exact rfl | apply And.intro | exact (fun _ _ _ _ => Cell.le_refl _) | (intro i hi; rfl) | (intro i hi; exact absurd hi (Nat.not_lt_zero _))), by decide, rfl, by repeat' (first | exact trivial | exact rfl | apply And.intro | exact (fun _ _ _ _ => Cell.le_refl _) | (intro i hi; rfl) | (intro i hi; exact absurd hi (Nat.not_lt_zero _)))⟩⟩
    have h : ¬ ((1073741824 : Int) < c) := of_decide_eq_false (p := (1073741824 : Int) < c) h
    replace h := And.intro h trivial
    obtain ⟨hc1, _⟩ := h
    refine Ife.mk (fun h => ?_) (fun h => ?_)
    · have h : (2 : Int) < (@Nat.cast Int instNatCastInt n) := of_decide_eq_true (p := (2 : Int) < (n : Int)) h
      rw [mayL_no (by omega)]
      exact ⟨[0], ⟨rfl, by repeat' (first | exact trivial | exact rfl | apply And.intro | exact (fun _ _ _ _ => Cell.le_refl _) | (intro i hi; rfl) | (intro i hi; exact absurd hi (Nat.not_lt_zero _))), by decide, rfl, by repeat' (first | exact trivial | exact rfl | apply And.intro | exact (fun _ _ _ _ => Cell.le_refl _) | (intro i hi; rfl) | (intro i hi; exact absurd hi (Nat.not_lt_zero _)))⟩⟩
    have h : ¬ ((2 : Int) < (@Nat.cast Int instNatCastInt n)) := of_decide_eq_false (p := (2 : Int) < (n : Int)) h
    replace h := And.intro h trivial
    obtain ⟨hc2, _⟩ := h
    show Runs Tryd.prog 1 (.loop _) _ _
    refine loop_ruleR (N := env (lft Tryd.prog 1) 0 .std tbP [(76, appPure sSized), (89, appPure sDeep)] [(6, [(0, true), (1, true), (2, true), (3, true), (4, false), (5, true), (6, true), (7, true), (8, true), (9, true), (10, true), (11, true), (12, true), (13, true), (14, true), (15, true), (16, true), (17, true), (18, true), (19, true), (20, true), (21, true), (22, true), (23, true), (24, true), (25, true), (26, false), (27, true), (28, true)])]) rfl tbP_ok hC (fun c st K _ h => h) (by kernel_rfl) [] (X := LIx n (mayAt c L))
      (S := fun x => ⟨[.any, .c (.ptr 1 0), .any, .any, .any, .any, .any, .any, .any, .any, .any, .any, .any, .any, .any, .any, .any, .any, .any, .any, .c (.row 0), .c (.int .i64 n), .c (.int .i64 x.i)] ++ List.replicate 33 .any, [.data fr 115 4 n (leafG false L), .cells 27 [.int .i64 c, .row 0]]⟩) (μ := fun x => n - x.i.toNat) ⟨0, by omega, by omega, fun k hk => absurd hk (by omega)⟩ (by kernel_rfl) [0, 1] ?_ ?_
    · refine ⟨rfl, by decide, ?_, ?_⟩ <;> repeat' (first | exact trivial | exact rfl | apply And.intro | exact (fun _ _ _ _ => Cell.le_refl _) | (intro i hi; rfl) | (intro i hi; exact absurd hi (Nat.not_lt_zero _)))
    rintro ⟨i, hi0, hin, hP⟩
    unfold sSized sDeep
    generalize hg0 : (List.length : List UInt8 → Nat) = g0
    generalize hL : lft Tryd.prog _ = L
    try dsimp only
    try unfold leafG
    generalize ho0 : @lK = zo0, ho1 : @lV = zo1, ho2 : @lI = zo2, ho3 : @lP = zo3, ho4 : @lN = zo4, ho5 : @pG = zo5, ho6 : @leafL = zo6, ho7 : @sizedB = zo7, ho8 : @leavesPre = zo8, ho9 : @mayAt = zo9, ho10 : @mayL = zo10, ho11 : @deep = zo11
    generalize hA : Arith.std = A
    cbv
    subst hA hg0 hL ho0 ho1 ho2 ho3 ho4 ho5 ho6 ho7 ho8 ho9 ho10 ho11
    try replace hc2 : ¬ ((2 : Int) < (@Nat.cast Int instNatCastInt n)) := hc2
    replace hi0 : 0 ≤ i := hi0
    replace hin : i ≤ @Nat.cast Int instNatCastInt n := hin
    replace hP : ∀ k, k < i.toNat → mayAt c L k = true := hP
    refine Ife.mk (fun hlt => ?_) (fun hlt => ?_)
    · replace hlt : i < @Nat.cast Int instNatCastInt n := of_decide_eq_true (p := i < (n : Int)) hlt
      have hiL : i.toNat < L.length := by omega
      refine Need.mk (by show 0 ≤ i ∧ i < (n : Int); omega) fun _ => Need.mk (by show i.toNat < n; omega) fun _ => ?_
      refine Need.mk trivial fun _ => ?_
      refine Ife.mk (fun h => ?_) (fun h => ?_)
      · have h : (sizedB (lK L i.toNat) (lV L i.toNat)) = false := by simpa using (show (!(sizedB (lK L i.toNat) (lV L i.toNat))) = true from h)
        rw [show mayL c L = false from mayL_at hiL fun hh => by have hz := sizedB_iff.2 (mayAt_iff.1 hh).1; rw [h] at hz; cases hz]
        exact ⟨[0], ⟨rfl, by repeat' (first | exact trivial | exact rfl | apply And.intro | exact (fun _ _ _ _ => Cell.le_refl _) | (intro i hi; rfl) | (intro i hi; exact absurd hi (Nat.not_lt_zero _))), by decide, rfl, by repeat' (first | exact trivial | exact rfl | apply And.intro | exact (fun _ _ _ _ => Cell.le_refl _) | (intro i hi; rfl) | (intro i hi; exact absurd hi (Nat.not_lt_zero _)))⟩⟩
      have h : (sizedB (lK L i.toNat) (lV L i.toNat)) = true := by simpa using (show (!(sizedB (lK L i.toNat) (lV L i.toNat))) = false from h)
      replace h := And.intro h trivial
      obtain ⟨hs0, _⟩ := h
      have hsz := sizedB_iff.1 hs0
      refine Ife.mk (fun h => ?_) (fun h => ?_)
      · have h : lI L i.toNat < 0 := of_decide_eq_true (p := lI L i.toNat < 0) h
        rw [show mayL c L = false from mayL_at hiL fun hh => by have hh := mayAt_iff.1 hh; omega]
        exact ⟨[0], ⟨rfl, by repeat' (first | exact trivial | exact rfl | apply And.intro | exact (fun _ _ _ _ => Cell.le_refl _) | (intro i hi; rfl) | (intro i hi; exact absurd hi (Nat.not_lt_zero _))), by decide, rfl, by repeat' (first | exact trivial | exact rfl | apply And.intro | exact (fun _ _ _ _ => Cell.le_refl _) | (intro i hi; rfl) | (intro i hi; exact absurd hi (Nat.not_lt_zero _)))⟩⟩
      have h : ¬ (lI L i.toNat < 0) := of_decide_eq_false (p := lI L i.toNat < 0) h
      replace h := And.intro h trivial
      obtain ⟨hd0, _⟩ := h
      refine Ife.mk (fun h => ?_) (fun h => ?_)
      · have h : c ≤ lI L i.toNat := of_decide_eq_true (p := c ≤ lI L i.toNat) h
        rw [show mayL c L = false from mayL_at hiL fun hh => by have hh := mayAt_iff.1 hh; omega]
        exact ⟨[0], ⟨rfl, by repeat' (first | exact trivial | exact rfl | apply And.intro | exact (fun _ _ _ _ => Cell.le_refl _) | (intro i hi; rfl) | (intro i hi; exact absurd hi (Nat.not_lt_zero _))), by decide, rfl, by repeat' (first | exact trivial | exact rfl | apply And.intro | exact (fun _ _ _ _ => Cell.le_refl _) | (intro i hi; rfl) | (intro i hi; exact absurd hi (Nat.not_lt_zero _)))⟩⟩
      have h : ¬ (c ≤ lI L i.toNat) := of_decide_eq_false (p := c ≤ lI L i.toNat) h
      replace h := And.intro h trivial
      obtain ⟨hd1, _⟩ := h
      refine Need.mk trivial fun _ => ?_
      refine Ife.mk (fun h => ?_) (fun h => ?_)
      · have h : ¬ (((lN L i.toNat : Nat) : Int) = deep c (lI L i.toNat)) := by simpa using (show (!decide (((lN L i.toNat : Nat) : Int) = deep c (lI L i.toNat))) = true from h)
        rw [show mayL c L = false from mayL_at hiL fun hh => by have hh := mayAt_iff.1 hh; omega]
        exact ⟨[0], ⟨rfl, by repeat' (first | exact trivial | exact rfl | apply And.intro | exact (fun _ _ _ _ => Cell.le_refl _) | (intro i hi; rfl) | (intro i hi; exact absurd hi (Nat.not_lt_zero _))), by decide, rfl, by repeat' (first | exact trivial | exact rfl | apply And.intro | exact (fun _ _ _ _ => Cell.le_refl _) | (intro i hi; rfl) | (intro i hi; exact absurd hi (Nat.not_lt_zero _)))⟩⟩
      have h : (((lN L i.toNat : Nat) : Int) = deep c (lI L i.toNat)) := by simpa using (show (!decide (((lN L i.toNat : Nat) : Int) = deep c (lI L i.toNat))) = false from h)
      replace h := And.intro h trivial
      obtain ⟨hd2, _⟩ := h
      refine Need.mk (by show fitStd .i64 (i + 1); unfold fitStd; omega) fun _ => ?_
      refine ⟨⟨i + 1, by omega, by omega, lix_next hi0 hP (mayAt_iff.2 (by omega))⟩, [0, 1], (by show n - (i + 1).toNat < n - i.toNat; omega), ?_⟩
      refine ⟨rfl, by decide, ?_, ?_⟩ <;> repeat' (first | exact trivial | exact rfl | apply And.intro | exact (fun _ _ _ _ => Cell.le_refl _) | (intro i hi; rfl) | (intro i hi; exact absurd hi (Nat.not_lt_zero _)))
    · replace hlt : ¬ i < @Nat.cast Int instNatCastInt n := of_decide_eq_false (p := i < (n : Int)) hlt
      rw [mayL_yes (by omega) hP (by omega)]
      exact ⟨[0], ⟨rfl, by repeat' (first | exact trivial | exact rfl | apply And.intro | exact (fun _ _ _ _ => Cell.le_refl _) | (intro i hi; rfl) | (intro i hi; exact absurd hi (Nat.not_lt_zero _))), by decide, rfl, by repeat' (first | exact trivial | exact rfl | apply And.intro | exact (fun _ _ _ _ => Cell.le_refl _) | (intro i hi; rfl) | (intro i hi; exact absurd hi (Nat.not_lt_zero _)))⟩⟩

set_option maxRecDepth 100000 in
set_option maxHeartbeats 8000000 in
theorem rmayPrP : Fn Tryd.prog 62 [] [(115, 204)] sMayPr := by
  have hC : CtsOk Tryd.prog [(105, appPure sRDeep)] := CtsOk.cons (Pure.ct rdeepP) <| CtsOk.nil _
  refine Fn.of (E := tbP) [] 0 [(7, [(0, true), (1, true), (2, true), (3, true), (4, true), (5, true), (6, true), (7, true), (8, true), (9, true), (10, true), (11, true), (12, true), (13, true), (14, true), (15, true), (16, true), (17, true), (18, true), (19, true), (20, true), (21, true), (22, true), (23, true), (24, true), (25, true), (26, true), (27, true), (28, true), (29, true), (30, true), (31, true), (32, true), (33, true), (34, true), (35, true), (36, true), (37, true), (38, true), (39, true), (40, true), (41, true), (42, false), (43, true), (44, true)])] tbP_ok hC (by kernel_rfl) Tryd.func62 rfl rfl rfl (by kernel_rfl) (by kernel_rfl) 1 5 1 ?_ ?_
  · intro args h pre r h' hs
    unfold sMayPr at hs
    split at hs
    · cases hs; exact ⟨rfl, rfl, Nat.le_of_ble_eq_true rfl⟩
    · cases hs
  · intro args h pre r h' hs hp
    unfold sMayPr at hs
    split at hs
    rotate_left
    · cases hs
    rename_i c fr ty sz n get
    cases hs
    obtain ⟨rfl, rfl, hst, hok, hm⟩ := hp
    refine ⟨[.data fr 115 4 n (leafG false (leafL n get))], ⟨⟨rfl, rfl, rfl, rfl, fun i j hi hj => by rw [hst i j hi hj]; exact Cell.le_refl _⟩, trivial⟩, ?_⟩
    have hL : (leafL n get).length = n := leafL_len
    generalize leafL n get = L at hL hok ⊢
    unfold sRDeep
    generalize hg0 : (List.length : List UInt8 → Nat) = g0
    generalize hL : lft Tryd.prog _ = L
    try unfold leafG
    generalize ho0 : @lK = zo0, ho1 : @lV = zo1, ho2 : @lI = zo2, ho3 : @lP = zo3, ho4 : @lN = zo4, ho5 : @pG = zo5, ho6 : @leafL = zo6, ho7 : @leavesPre = zo7, ho8 : @mayAt = zo8, ho9 : @mayL = zo9, ho10 : @deep = zo10
    generalize hA : Arith.std = A
    cbv
    subst hA hg0 hL ho0 ho1 ho2 ho3 ho4 ho5 ho6 ho7 ho8 ho9 ho10
    refine Ife.mk (fun h => ?_) (fun h => ?_)
    · have h : c < 0 := of_decide_eq_true (p := c < 0) h
      rw [mayL_no (by omega)]
      exact ⟨[0], ⟨rfl, by repeat' (first | exact trivial | exact rfl | apply And.intro | exact (fun _ _ _ _ => Cell.le_refl _) | (intro i hi; rfl) | (intro i hi; exact absurd hi (Nat.not_lt_zero _))), by decide, rfl, by repeat' (first | exact trivial | exact rfl | apply And.intro | exact (fun _ _ _ _ => Cell.le_refl _) | (intro i hi; rfl) | (intro i hi; exact absurd hi (Nat.not_lt_zero _)))⟩⟩
    have h : ¬ (c < 0) := of_decide_eq_false (p := c < 0) h
    replace h := And.intro h trivial
    obtain ⟨hc0, _⟩ := h
    refine Ife.mk (fun h => ?_) (fun h => ?_)
    · have h : (1073741824 : Int) < c := of_decide_eq_true (p := (1073741824 : Int) < c) h
      rw [mayL_no (by omega)]
      exact ⟨[0], ⟨rfl, by repeat' (first | exact trivial | exact rfl | apply And.intro | exact (fun _ _ _ _ => Cell.le_refl _) | (intro i hi; rfl) | (intro i hi; exact absurd hi (Nat.not_lt_zero _))), by decide, rfl, by repeat' (first | exact trivial | exact rfl | apply And.intro | exact (fun _ _ _ _ => Cell.le_refl _) | (intro i hi; rfl) | (intro i hi; exact absurd hi (Nat.not_lt_zero _)))⟩⟩
    have h : ¬ ((1073741824 : Int) < c) := of_decide_eq_false (p := (1073741824 : Int) < c) h
    replace h := And.intro h trivial
    obtain ⟨hc1, _⟩ := h
    refine Ife.mk (fun h => ?_) (fun h => ?_)
    · have h : (2 : Int) < (@Nat.cast Int instNatCastInt n) := of_decide_eq_true (p := (2 : Int) < (n : Int)) h
      rw [mayL_no (by omega)]
      exact ⟨[0], ⟨rfl, by repeat' (first | exact trivial | exact rfl | apply And.intro | exact (fun _ _ _ _ => Cell.le_refl _) | (intro i hi; rfl) | (intro i hi; exact absurd hi (Nat.not_lt_zero _))), by decide, rfl, by repeat' (first | exact trivial | exact rfl | apply And.intro | exact (fun _ _ _ _ => Cell.le_refl _) | (intro i hi; rfl) | (intro i hi; exact absurd hi (Nat.not_lt_zero _)))⟩⟩
    have h : ¬ ((2 : Int) < (@Nat.cast Int instNatCastInt n)) := of_decide_eq_false (p := (2 : Int) < (n : Int)) h
    replace h := And.intro h trivial
    obtain ⟨hc2, _⟩ := h
    show Runs Tryd.prog 1 (.loop _) _ _
    refine loop_ruleR (N := env (lft Tryd.prog 1) 0 .std tbP [(105, appPure sRDeep)] [(7, [(0, true), (1, true), (2, true), (3, true), (4, true), (5, true), (6, true), (7, true), (8, true), (9, true), (10, true), (11, true), (12, true), (13, true), (14, true), (15, true), (16, true), (17, true), (18, true), (19, true), (20, true), (21, true), (22, true), (23, true), (24, true), (25, true), (26, true), (27, true), (28, true), (29, true), (30, true), (31, true), (32, true), (33, true), (34, true), (35, true), (36, true), (37, true), (38, true), (39, true), (40, true), (41, true), (42, false), (43, true), (44, true)])]) rfl tbP_ok hC (fun c st K _ h => h) (by kernel_rfl) [] (X := LIx n (mayAt c L))
      (S := fun x => ⟨[.any, .c (.ptr 1 0), .any, .c (.int .i64 x.i)] ++ List.replicate 72 .any, [.data fr 115 4 n (leafG false L), .cells 27 [.int .i64 c, .row 0]]⟩) (μ := fun x => n - x.i.toNat) ⟨0, by omega, by omega, fun k hk => absurd hk (by omega)⟩ (by kernel_rfl) [0, 1] ?_ ?_
    · refine ⟨rfl, by decide, ?_, ?_⟩ <;> repeat' (first | exact trivial | exact rfl | apply And.intro | exact (fun _ _ _ _ => Cell.le_refl _) | (intro i hi; rfl) | (intro i hi; exact absurd hi (Nat.not_lt_zero _)))
    rintro ⟨i, hi0, hin, hP⟩
    unfold sRDeep
    generalize hg0 : (List.length : List UInt8 → Nat) = g0
    generalize hL : lft Tryd.prog _ = L
    try dsimp only
    try unfold leafG
    generalize ho0 : @lK = zo0, ho1 : @lV = zo1, ho2 : @lI = zo2, ho3 : @lP = zo3, ho4 : @lN = zo4, ho5 : @pG = zo5, ho6 : @leafL = zo6, ho7 : @leavesPre = zo7, ho8 : @mayAt = zo8, ho9 : @mayL = zo9, ho10 : @deep = zo10
    generalize hA : Arith.std = A
    cbv
    subst hA hg0 hL ho0 ho1 ho2 ho3 ho4 ho5 ho6 ho7 ho8 ho9 ho10
    try replace hc2 : ¬ ((2 : Int) < (@Nat.cast Int instNatCastInt n)) := hc2
    replace hi0 : 0 ≤ i := hi0
    replace hin : i ≤ @Nat.cast Int instNatCastInt n := hin
    replace hP : ∀ k, k < i.toNat → mayAt c L k = true := hP
    refine Ife.mk (fun hlt => ?_) (fun hlt => ?_)
    · replace hlt : i < @Nat.cast Int instNatCastInt n := of_decide_eq_true (p := i < (n : Int)) hlt
      have hiL : i.toNat < L.length := by omega
      refine Need.mk (by show 0 ≤ i ∧ i < (n : Int); omega) fun _ => Need.mk (by show i.toNat < n; omega) fun _ => ?_
      refine Ife.mk (fun h => ?_) (fun h => ?_)
      · have h : ((lK L i.toNat).length : Int) < 1 := of_decide_eq_true (p := ((lK L i.toNat).length : Int) < 1) h
        rw [show mayL c L = false from mayL_at hiL fun hh => by have hh := mayAt_iff.1 hh; omega]
        exact ⟨[0], ⟨rfl, by repeat' (first | exact trivial | exact rfl | apply And.intro | exact (fun _ _ _ _ => Cell.le_refl _) | (intro i hi; rfl) | (intro i hi; exact absurd hi (Nat.not_lt_zero _))), by decide, rfl, by repeat' (first | exact trivial | exact rfl | apply And.intro | exact (fun _ _ _ _ => Cell.le_refl _) | (intro i hi; rfl) | (intro i hi; exact absurd hi (Nat.not_lt_zero _)))⟩⟩
      have h : ¬ (((lK L i.toNat).length : Int) < 1) := of_decide_eq_false (p := ((lK L i.toNat).length : Int) < 1) h
      replace h := And.intro h trivial
      obtain ⟨hd0, _⟩ := h
      refine Ife.mk (fun h => ?_) (fun h => ?_)
      · have h : (160 : Int) < ((lK L i.toNat).length : Int) := of_decide_eq_true (p := (160 : Int) < ((lK L i.toNat).length : Int)) h
        rw [show mayL c L = false from mayL_at hiL fun hh => by have hh := mayAt_iff.1 hh; omega]
        exact ⟨[0], ⟨rfl, by repeat' (first | exact trivial | exact rfl | apply And.intro | exact (fun _ _ _ _ => Cell.le_refl _) | (intro i hi; rfl) | (intro i hi; exact absurd hi (Nat.not_lt_zero _))), by decide, rfl, by repeat' (first | exact trivial | exact rfl | apply And.intro | exact (fun _ _ _ _ => Cell.le_refl _) | (intro i hi; rfl) | (intro i hi; exact absurd hi (Nat.not_lt_zero _)))⟩⟩
      have h : ¬ ((160 : Int) < ((lK L i.toNat).length : Int)) := of_decide_eq_false (p := (160 : Int) < ((lK L i.toNat).length : Int)) h
      replace h := And.intro h trivial
      obtain ⟨hd1, _⟩ := h
      refine Ife.mk (fun h => ?_) (fun h => ?_)
      · have h : ((lV L i.toNat).length : Int) < 1 := of_decide_eq_true (p := ((lV L i.toNat).length : Int) < 1) h
        rw [show mayL c L = false from mayL_at hiL fun hh => by have hh := mayAt_iff.1 hh; omega]
        exact ⟨[0], ⟨rfl, by repeat' (first | exact trivial | exact rfl | apply And.intro | exact (fun _ _ _ _ => Cell.le_refl _) | (intro i hi; rfl) | (intro i hi; exact absurd hi (Nat.not_lt_zero _))), by decide, rfl, by repeat' (first | exact trivial | exact rfl | apply And.intro | exact (fun _ _ _ _ => Cell.le_refl _) | (intro i hi; rfl) | (intro i hi; exact absurd hi (Nat.not_lt_zero _)))⟩⟩
      have h : ¬ (((lV L i.toNat).length : Int) < 1) := of_decide_eq_false (p := ((lV L i.toNat).length : Int) < 1) h
      replace h := And.intro h trivial
      obtain ⟨hd2, _⟩ := h
      refine Ife.mk (fun h => ?_) (fun h => ?_)
      · have h : (64 : Int) < ((lV L i.toNat).length : Int) := of_decide_eq_true (p := (64 : Int) < ((lV L i.toNat).length : Int)) h
        rw [show mayL c L = false from mayL_at hiL fun hh => by have hh := mayAt_iff.1 hh; omega]
        exact ⟨[0], ⟨rfl, by repeat' (first | exact trivial | exact rfl | apply And.intro | exact (fun _ _ _ _ => Cell.le_refl _) | (intro i hi; rfl) | (intro i hi; exact absurd hi (Nat.not_lt_zero _))), by decide, rfl, by repeat' (first | exact trivial | exact rfl | apply And.intro | exact (fun _ _ _ _ => Cell.le_refl _) | (intro i hi; rfl) | (intro i hi; exact absurd hi (Nat.not_lt_zero _)))⟩⟩
      have h : ¬ ((64 : Int) < ((lV L i.toNat).length : Int)) := of_decide_eq_false (p := (64 : Int) < ((lV L i.toNat).length : Int)) h
      replace h := And.intro h trivial
      obtain ⟨hd3, _⟩ := h
      refine Ife.mk (fun h => ?_) (fun h => ?_)
      · have h : lI L i.toNat < 0 := of_decide_eq_true (p := lI L i.toNat < 0) h
        rw [show mayL c L = false from mayL_at hiL fun hh => by have hh := mayAt_iff.1 hh; omega]
        exact ⟨[0], ⟨rfl, by repeat' (first | exact trivial | exact rfl | apply And.intro | exact (fun _ _ _ _ => Cell.le_refl _) | (intro i hi; rfl) | (intro i hi; exact absurd hi (Nat.not_lt_zero _))), by decide, rfl, by repeat' (first | exact trivial | exact rfl | apply And.intro | exact (fun _ _ _ _ => Cell.le_refl _) | (intro i hi; rfl) | (intro i hi; exact absurd hi (Nat.not_lt_zero _)))⟩⟩
      have h : ¬ (lI L i.toNat < 0) := of_decide_eq_false (p := lI L i.toNat < 0) h
      replace h := And.intro h trivial
      obtain ⟨hd4, _⟩ := h
      refine Ife.mk (fun h => ?_) (fun h => ?_)
      · have h : c ≤ lI L i.toNat := of_decide_eq_true (p := c ≤ lI L i.toNat) h
        rw [show mayL c L = false from mayL_at hiL fun hh => by have hh := mayAt_iff.1 hh; omega]
        exact ⟨[0], ⟨rfl, by repeat' (first | exact trivial | exact rfl | apply And.intro | exact (fun _ _ _ _ => Cell.le_refl _) | (intro i hi; rfl) | (intro i hi; exact absurd hi (Nat.not_lt_zero _))), by decide, rfl, by repeat' (first | exact trivial | exact rfl | apply And.intro | exact (fun _ _ _ _ => Cell.le_refl _) | (intro i hi; rfl) | (intro i hi; exact absurd hi (Nat.not_lt_zero _)))⟩⟩
      have h : ¬ (c ≤ lI L i.toNat) := of_decide_eq_false (p := c ≤ lI L i.toNat) h
      replace h := And.intro h trivial
      obtain ⟨hd5, _⟩ := h
      refine Need.mk trivial fun _ => ?_
      refine Ife.mk (fun h => ?_) (fun h => ?_)
      · have h : ¬ (((lN L i.toNat : Nat) : Int) = deep c (lI L i.toNat)) := by simpa using (show (!decide (((lN L i.toNat : Nat) : Int) = deep c (lI L i.toNat))) = true from h)
        rw [show mayL c L = false from mayL_at hiL fun hh => by have hh := mayAt_iff.1 hh; omega]
        exact ⟨[0], ⟨rfl, by repeat' (first | exact trivial | exact rfl | apply And.intro | exact (fun _ _ _ _ => Cell.le_refl _) | (intro i hi; rfl) | (intro i hi; exact absurd hi (Nat.not_lt_zero _))), by decide, rfl, by repeat' (first | exact trivial | exact rfl | apply And.intro | exact (fun _ _ _ _ => Cell.le_refl _) | (intro i hi; rfl) | (intro i hi; exact absurd hi (Nat.not_lt_zero _)))⟩⟩
      have h : (((lN L i.toNat : Nat) : Int) = deep c (lI L i.toNat)) := by simpa using (show (!decide (((lN L i.toNat : Nat) : Int) = deep c (lI L i.toNat))) = false from h)
      replace h := And.intro h trivial
      obtain ⟨hd6, _⟩ := h
      refine Need.mk (by show fitStd .i64 (i + 1); unfold fitStd; omega) fun _ => ?_
      refine ⟨⟨i + 1, by omega, by omega, lix_next hi0 hP (mayAt_iff.2 (by omega))⟩, [0, 1], (by show n - (i + 1).toNat < n - i.toNat; omega), ?_⟩
      refine ⟨rfl, by decide, ?_, ?_⟩ <;> repeat' (first | exact trivial | exact rfl | apply And.intro | exact (fun _ _ _ _ => Cell.le_refl _) | (intro i hi; rfl) | (intro i hi; exact absurd hi (Nat.not_lt_zero _)))
    · replace hlt : ¬ i < @Nat.cast Int instNatCastInt n := of_decide_eq_false (p := i < (n : Int)) hlt
      rw [mayL_yes (by omega) hP (by omega)]
      exact ⟨[0], ⟨rfl, by repeat' (first | exact trivial | exact rfl | apply And.intro | exact (fun _ _ _ _ => Cell.le_refl _) | (intro i hi; rfl) | (intro i hi; exact absurd hi (Nat.not_lt_zero _))), by decide, rfl, by repeat' (first | exact trivial | exact rfl | apply And.intro | exact (fun _ _ _ _ => Cell.le_refl _) | (intro i hi; rfl) | (intro i hi; exact absurd hi (Nat.not_lt_zero _)))⟩⟩

end Go.Proofs.YthomoliklfmnkaaDoor.Vx
end

section
/- The proof of a key in a list of pairs, plainly. -/
namespace Go.Proofs.YthomoliklfmnkaaDoor.Vx
open Sha
open Go.RowKit
set_option linter.unusedVariables false
set_option linter.unusedSimpArgs false
/-- The 32 numbers of a sum. -/
def hNm (f : Nat → Int) : List Int := (List.range 32).map f
theorem hNm_get (f : Nat → Int) {j : Nat} (h : j < 32) : (hNm f).getD j 0 = f j := by simp [hNm, List.getD, List.getElem?_map, List.getElem?_range h]
theorem hNm_len (f : Nat → Int) : (hNm f).length = 32 := by simp [hNm]
theorem h32_hNm (f : Nat → Int) : (h32 fun j => (hNm f).getD j 0) = hashC f := by
  unfold h32 hashC
  simp only [hNm_get f (show 0 < 32 by decide), hNm_get f (show 1 < 32 by decide), hNm_get f (show 2 < 32 by decide), hNm_get f (show 3 < 32 by decide), hNm_get f (show 4 < 32 by decide), hNm_get f (show 5 < 32 by decide), hNm_get f (show 6 < 32 by decide), hNm_get f (show 7 < 32 by decide), hNm_get f (show 8 < 32 by decide), hNm_get f (show 9 < 32 by decide), hNm_get f (show 10 < 32 by decide), hNm_get f (show 11 < 32 by decide), hNm_get f (show 12 < 32 by decide), hNm_get f (show 13 < 32 by decide), hNm_get f (show 14 < 32 by decide), hNm_get f (show 15 < 32 by decide), hNm_get f (show 16 < 32 by decide), hNm_get f (show 17 < 32 by decide), hNm_get f (show 18 < 32 by decide), hNm_get f (show 19 < 32 by decide), hNm_get f (show 20 < 32 by decide), hNm_get f (show 21 < 32 by decide), hNm_get f (show 22 < 32 by decide), hNm_get f (show 23 < 32 by decide), hNm_get f (show 24 < 32 by decide), hNm_get f (show 25 < 32 by decide), hNm_get f (show 26 < 32 by decide), hNm_get f (show 27 < 32 by decide), hNm_get f (show 28 < 32 by decide), hNm_get f (show 29 < 32 by decide), hNm_get f (show 30 < 32 by decide), hNm_get f (show 31 < 32 by decide)]
/-- The sums beside the way up from a pair. -/
def wyL (L : List PP) (i : Nat) : List (List Int) := (wayG (lfG L) L.length (i : Int)).map hNm
theorem wyL_len (L : List PP) (i : Nat) : (wyL L i).length = (wayG (lfG L) L.length (i : Int)).length := by simp [wyL]
theorem pG_map {W : List (Nat → Int)} {j : Nat} (h : j < W.length) : pG (W.map hNm) j = hashesG W j := by
  unfold pG hashesG
  rw [show (W.map hNm).getD j [] = hNm W[j] by simp [List.getD, h], h32_hNm, List.getD_eq_getElem?_getD, List.getElem?_eq_getElem h]
  rfl
theorem pG_way {L : List PP} {i j : Nat} (h : j < (wayG (lfG L) L.length (i : Int)).length) : pG (wyL L i) j = hashesG (wayG (lfG L) L.length (i : Int)) j := pG_map h
def mkLeaf (L : List PP) (i : Nat) : PLeaf := ⟨prK L i, prV L i, (i : Int), wyL L i⟩
/-- The leaves of the proof of a key. -/
def mkL (L : List PP) (k : List UInt8) : List PLeaf := if goodL L = true then (if findB L k = true then [mkLeaf L (findI L k)] else (if 0 < findI L k then [mkLeaf L (findI L k - 1)] else []) ++ (if findI L k < L.length then [mkLeaf L (findI L k)] else [])) else []
def mkC (L : List PP) : Int := if goodL L = true then (L.length : Int) else 0
theorem mkL_len {L : List PP} {k : List UInt8} : (mkL L k).length ≤ 2 := by
  unfold mkL
  split
  · split
    · simp
    · split <;> split <;> simp
  · simp
theorem goodAt_iff {L : List PP} {i : Nat} : goodAt L i = true ↔ szB (prK L i) (prV L i) = true ∧ (i = 0 ∨ ltB (prK L (i - 1)) (prK L i) = true) := by
  unfold goodAt
  rw [Bool.and_eq_true, Bool.or_eq_true, decide_eq_true_iff]
theorem goodL_iff {L : List PP} : goodL L = true ↔ StS L ∧ AllSz L := by
  constructor
  · intro h
    have ha : ∀ i, i < L.length → goodAt L i = true := fun i hi => List.all_eq_true.1 h i (List.mem_range.2 hi)
    refine ⟨?_, fun p hp => ?_⟩
    · have key : ∀ d i, i + 1 + d < L.length → ltB (prK L i) (prK L (i + 1 + d)) = true := by
        intro d
        induction d with
        | zero =>
          intro i hi
          rcases (goodAt_iff.1 (ha (i + 1) hi)).2 with h1 | h1
          · omega
          · exact h1
        | succ d ih =>
          intro i hi
          refine lt_trans (ih i (by omega)) ?_
          rcases (goodAt_iff.1 (ha (i + 1 + (d + 1)) hi)).2 with h1 | h1
          · omega
          · exact h1
      refine List.pairwise_iff_getElem.2 fun i j hi hj hij => ?_
      have := key (j - i - 1) i (by omega)
      rw [show i + 1 + (j - i - 1) = j by omega, prK_eq hi, prK_eq hj] at this
      exact this
    · obtain ⟨i, hi, rfl⟩ := List.getElem_of_mem hp
      have := (goodAt_iff.1 (ha i hi)).1
      rwa [prK_eq hi, prV_eq hi] at this
  · rintro ⟨hs, hz⟩
    refine goodL_yes fun i hi => goodAt_iff.2 ⟨hz.at hi, ?_⟩
    by_cases h0 : i = 0
    · exact Or.inl h0
    · exact Or.inr (hs.at (by omega) hi)
theorem wayG_le (L : List PP) (i : Nat) : (wayG (lfG L) L.length (i : Int)).length ≤ L.length := wayR_len _ _ 0 _
theorem lfR (L : List PP) (j k : Nat) : 0 ≤ hOf (lfG L j) k ∧ hOf (lfG L j) k < 256 := hOf_range (hashC_sum _) k
theorem wayG_hashes (L : List PP) (i : Nat) : HashesAt (wayG (lfG L) L.length (i : Int)).length (hashesG (wayG (lfG L) L.length (i : Int))) := way_hashes (fun j _ _ k => lfR L j k)
theorem wayG_mem {L : List PP} {i : Nat} {f : Nat → Int} (h : f ∈ wayG (lfG L) L.length (i : Int)) : ∀ k, k < 32 → 0 ≤ f k ∧ f k < 256 := by
  obtain ⟨j, hj, rfl⟩ := List.getElem_of_mem h
  obtain ⟨g, e, hg⟩ := wayG_hashes L i j hj
  intro k hk
  have e2 : hashesG (wayG (lfG L) L.length (i : Int)) j = hashC (wayG (lfG L) L.length (i : Int))[j] := by
    unfold hashesG
    rw [List.getD_eq_getElem?_getD, List.getElem?_eq_getElem hj]
    rfl
  rw [e2] at e
  have e3 : hOf (hashC (wayG (lfG L) L.length (i : Int))[j]) k = hOf (hashC g) k := by rw [e]
  rw [hOf_at, hOf_at, if_pos hk, if_pos hk] at e3
  rw [e3]
  exact hg k
theorem mkLeaf_ok {L : List PP} {i : Nat} (hz : AllSz L) (hi : i < L.length) (hm : L.length ≤ 1000000) : (mkLeaf L i).ok := by
  have hsz := szB_iff.1 (hz.at hi)
  refine ⟨by show (prK L i).length ≤ _; omega, by show (prV L i).length ≤ _; omega, by show (wyL L i).length ≤ _; rw [wyL_len]; have := wayG_le L i; omega, fun h hh => ?_⟩
  obtain ⟨f, hf, rfl⟩ := List.mem_map.1 (show h ∈ (wayG (lfG L) L.length (i : Int)).map hNm from hh)
  refine ⟨hNm_len f, fun b hb => ?_⟩
  obtain ⟨k, hk, rfl⟩ := List.mem_map.1 (show b ∈ (List.range 32).map f from hb)
  exact wayG_mem hf k (List.mem_range.1 hk)
theorem mkL_mem {L : List PP} {k : List UInt8} {x : PLeaf} (h : x ∈ mkL L k) : goodL L = true ∧ ∃ i, i < L.length ∧ x = mkLeaf L i := by
  unfold mkL at h
  split at h
  · rename_i hg
    refine ⟨hg, ?_⟩
    split at h
    · rename_i hf
      exact ⟨_, (findB_eq hf).1, by simpa using h⟩
    · have hle := findI_le (L := L) (k := k)
      rcases List.mem_append.1 h with h1 | h1
      · split at h1
        · exact ⟨findI L k - 1, by omega, by simpa using h1⟩
        · cases h1
      · split at h1
        · exact ⟨findI L k, by omega, by simpa using h1⟩
        · cases h1
  · cases h
theorem mkL_ok {L : List PP} {k : List UInt8} (hm : L.length ≤ 1000000) : ∀ x ∈ mkL L k, x.ok := fun x hx => by
  obtain ⟨hg, i, hi, rfl⟩ := mkL_mem hx
  exact mkLeaf_ok (goodL_iff.1 hg).2 hi hm
/-- From where to where the leaves go. -/
def mkFrom (L : List PP) (k : List UInt8) : Nat := if findB L k = true then findI L k else findI L k - 1
def mkTo (L : List PP) (k : List UInt8) : Nat := min (findI L k + 1) L.length
theorem mkL_range {L : List PP} {k : List UInt8} (hg : goodL L = true) : mkL L k = (List.range' (mkFrom L k) (mkTo L k - mkFrom L k)).map (mkLeaf L) := by
  have hle := findI_le (L := L) (k := k)
  unfold mkL mkFrom mkTo
  rw [if_pos hg]
  by_cases hf : findB L k = true
  · have := (findB_eq hf).1
    rw [if_pos hf, if_pos hf, show min (findI L k + 1) L.length - findI L k = 1 by omega]
    rfl
  · rw [if_neg hf, if_neg hf]
    by_cases h0 : 0 < findI L k
    · rw [if_pos h0]
      by_cases h1 : findI L k < L.length
      · rw [if_pos h1, show min (findI L k + 1) L.length - (findI L k - 1) = 2 by omega]
        show [mkLeaf L (findI L k - 1)] ++ [mkLeaf L (findI L k)] = [mkLeaf L (findI L k - 1), mkLeaf L (findI L k - 1 + 1)]
        rw [show findI L k - 1 + 1 = findI L k by omega]
        rfl
      · rw [if_neg h1, show min (findI L k + 1) L.length - (findI L k - 1) = 1 by omega]
        rfl
    · rw [if_neg h0]
      by_cases h1 : findI L k < L.length
      · rw [if_pos h1, show min (findI L k + 1) L.length - (findI L k - 1) = 1 by omega, show findI L k - 1 = findI L k by omega]
        rfl
      · rw [if_neg h1, show min (findI L k + 1) L.length - (findI L k - 1) = 0 by omega]
        rfl
theorem mkFrom_le {L : List PP} {k : List UInt8} : mkFrom L k ≤ mkTo L k ∧ mkTo L k ≤ L.length := by
  have hle := findI_le (L := L) (k := k)
  unfold mkFrom mkTo
  by_cases hf : findB L k = true
  · have := (findB_eq hf).1
    rw [if_pos hf]
    omega
  · rw [if_neg hf]
    omega
end Go.Proofs.YthomoliklfmnkaaDoor.Vx
end

section
/- What the proof of a key shows, plainly. -/
namespace Go.Proofs.YthomoliklfmnkaaDoor.Vx
open Sha
open Go.RowKit
set_option linter.unusedVariables false
set_option linter.unusedSimpArgs false
/-- Does a leaf of a proof stand under a root? -/
def stX (f : Nat → Int) (c : Int) (x : PLeaf) : Bool := fdB x.p.length c x.i && eqH (rootF c (hashB (fdH (pG x.p) (hashC (leafF x.k x.v)) x.p.length c x.i))) f
def stAt (f : Nat → Int) (c : Int) (L : List PLeaf) (i : Nat) : Bool := stX f c (L.getD i .none)
def underB (f : Nat → Int) (c : Int) (L : List PLeaf) : Bool := (List.range L.length).all (stAt f c L)
def valB (f : Nat → Int) (c : Int) (L : List PLeaf) (k : List UInt8) : Bool := mayL c L && (decide (L.length = 1) && (decide (lK L 0 = k) && underB f c L))
def valV (f : Nat → Int) (c : Int) (L : List PLeaf) (k : List UInt8) : List UInt8 := if valB f c L k = true then lV L 0 else []
def lackE (f : Nat → Int) (c : Int) (L : List PLeaf) (k : List UInt8) : Bool :=
  if L.length = 0 then decide (c = 0) && eqH f (rootF 0 (hashB fun _ => 0))
  else if L.length = 1 then (decide (lI L 0 = 0) && ltB k (lK L 0)) || (decide (lI L 0 = c - 1) && ltB (lK L 0) k)
  else decide (lI L 1 - lI L 0 = 1) && (ltB (lK L 0) k && ltB k (lK L 1))
def lackB (f : Nat → Int) (c : Int) (L : List PLeaf) (k : List UInt8) : Bool := mayL c L && (underB f c L && lackE f c L k)
theorem hashB_eqH {f g : Nat → Int} (h : eqH f g = true) : hashB f = hashB g := by
  unfold hashB
  exact List.map_congr_left fun j hj => by rw [eqH_iff.1 h j (List.mem_range.1 hj)]
theorem fdH_way {L : List PP} {i : Nat} {leaf : List CV} {c j : Int} : fdH (pG (wyL L i)) leaf (wyL L i).length c j = fdH (hashesG (wayG (lfG L) L.length (i : Int))) leaf (wayG (lfG L) L.length (i : Int)).length c j := by
  rw [wyL_len]
  unfold fdH
  split
  · unfold foldG
    exact foldR_congr _ _ _ _ fun m hm => by rw [pG_way hm]
  · rfl
theorem lfG_hOf (L : List PP) : (fun i => hashC (hOf (lfG L i))) = lfG L := rfl
/-- A leaf that was made stands under the root. -/
theorem stX_mk {L : List PP} (h40 : L.length ≤ 40) {i : Nat} (hi : i < L.length) : stX (rootL L) L.length (mkLeaf L i) = true := by
  obtain ⟨q1, _, _, _, _, _, hB, _⟩ := foldsFacts (m := L.length) (gets := lfG L) (i := (i : Int)) (f := fun _ => 0) (U := fun j => if j = i then hashC (fun _ => 0) else hashC (hOf (lfG L j))) (lfG_hash L L.length) (fun _ => by omega) (by omega) (by omega) h40 (fun j _ => by rw [Int.toNat_natCast])
  rw [lfG_hOf] at q1 hB
  unfold stX
  rw [Bool.and_eq_true]
  refine ⟨by show fdB (wyL L i).length _ _ = true; rw [wyL_len]; exact hB, eqH_of ?_⟩
  show rootF _ (hashB (fdH (pG (wyL L i)) (hashC (leafF (prK L i) (prV L i))) (wyL L i).length _ _)) = _
  rw [fdH_way]
  have e : hashB (fdH (hashesG (wayG (lfG L) L.length (i : Int))) (hashC (leafF (prK L i) (prV L i))) (wayG (lfG L) L.length (i : Int)).length L.length (i : Int)) = hashB (topG (lfG L) L.length) := hashB_eqH q1
  exact (congrArg (rootF L.length) e).trans rfl
theorem mkL_leaves {L : List PP} {k : List UInt8} {j : Nat} (hj : j < (mkL L k).length) : ∃ i, i < L.length ∧ (mkL L k).getD j .none = mkLeaf L i := by
  obtain ⟨_, i, hi, e⟩ := mkL_mem (List.getElem_mem hj)
  exact ⟨i, hi, by rw [List.getD_eq_getElem?_getD, List.getElem?_eq_getElem hj]; exact e⟩
theorem under_mk {L : List PP} {k : List UInt8} (h40 : L.length ≤ 40) : underB (rootL L) L.length (mkL L k) = true := by
  unfold underB
  rw [List.all_eq_true]
  intro j hj
  obtain ⟨i, hi, e⟩ := mkL_leaves (List.mem_range.1 hj)
  unfold stAt
  rw [e]
  exact stX_mk h40 hi
theorem wyL_deep {L : List PP} {i : Nat} (hm : L.length ≤ 1000000) : ((wyL L i).length : Int) = deep L.length i := by
  rw [wyL_len]
  exact way_len _ _ 0 _ (by omega)
theorem may_mk {L : List PP} {k : List UInt8} (hm : L.length ≤ 1000000) : mayL L.length (mkL L k) = true := by
  refine mayL_yes (j := (mkL L k).length) ⟨by omega, by omega, mkL_len⟩ (fun j hj => ?_) (Nat.le_refl _)
  obtain ⟨i, hi, e⟩ := mkL_leaves hj
  have hz := (goodL_iff.1 (mkL_mem (List.getElem_mem hj)).1).2
  have hsz := szB_iff.1 (hz.at hi)
  have e1 : lK (mkL L k) j = prK L i := by unfold lK; rw [e]; rfl
  have e2 : lV (mkL L k) j = prV L i := by unfold lV; rw [e]; rfl
  have e3 : lI (mkL L k) j = (i : Int) := by unfold lI; rw [e]; rfl
  have e4 : lN (mkL L k) j = (wyL L i).length := by unfold lN lP; rw [e]; rfl
  refine mayAt_iff.2 ?_
  rw [e1, e2, e3, e4, wyL_deep hm]
  exact ⟨hsz, by omega, by omega, rfl⟩
theorem valB_mk {L : List PP} {k : List UInt8} (hg : goodL L = true) (h40 : L.length ≤ 40) : valB (rootL L) L.length (mkL L k) k = findB L k := by
  unfold valB
  rw [may_mk (by omega), under_mk h40, Bool.true_and, Bool.and_true]
  cases hf : findB L k with
  | true =>
    have e : mkL L k = [mkLeaf L (findI L k)] := by unfold mkL; rw [if_pos hg, if_pos hf]
    rw [e]
    have h2 := (findB_eq hf).2
    show (decide (1 = 1) && decide (prK L (findI L k) = k)) = true
    rw [h2]
    simp
  | false =>
    rw [Bool.and_eq_false_iff]
    by_cases h1 : (mkL L k).length = 1
    · refine Or.inr (decide_eq_false ?_)
      intro h3
      have hle := findI_le (L := L) (k := k)
      have key : ∀ i, i < L.length → prK L i ≠ k := fun i hi hk => by
        have hmem := mem_findB (goodL_iff.1 hg).1 (List.getElem_mem hi)
        rw [← prK_eq hi, hk, hf] at hmem
        cases hmem.1
      obtain ⟨i, hi, e⟩ := mkL_leaves (L := L) (k := k) (j := 0) (by omega)
      have e1 : lK (mkL L k) 0 = prK L i := by unfold lK; rw [e]; rfl
      exact key i hi (e1 ▸ h3)
    · exact Or.inl (decide_eq_false h1)
theorem valV_mk {L : List PP} {k : List UInt8} (hg : goodL L = true) (h40 : L.length ≤ 40) : valV (rootL L) L.length (mkL L k) k = getL L k := by
  unfold valV getL
  rw [valB_mk hg h40]
  cases hf : findB L k with
  | true =>
    have e : mkL L k = [mkLeaf L (findI L k)] := by unfold mkL; rw [if_pos hg, if_pos hf]
    rw [e]
    rfl
  | false => rfl
theorem lackB_mk {L : List PP} {k : List UInt8} (hg : goodL L = true) (h40 : L.length ≤ 40) : lackB (rootL L) L.length (mkL L k) k = !findB L k := by
  have hle := findI_le (L := L) (k := k)
  unfold lackB
  rw [may_mk (by omega), under_mk h40, Bool.true_and, Bool.true_and]
  cases hf : findB L k with
  | true =>
    have e : mkL L k = [mkLeaf L (findI L k)] := by unfold mkL; rw [if_pos hg, if_pos hf]
    have h2 := (findB_eq hf).2
    rw [e]
    unfold lackE
    rw [if_neg (show ¬ [mkLeaf L (findI L k)].length = 0 from Nat.one_ne_zero), if_pos (show [mkLeaf L (findI L k)].length = 1 from rfl)]
    show (decide ((findI L k : Int) = 0) && ltB k (prK L (findI L k)) || decide ((findI L k : Int) = L.length - 1) && ltB (prK L (findI L k)) k) = false
    rw [h2, lt_irr]
    simp
  | false =>
    have hst : findI L k < L.length → ltB k (prK L (findI L k)) = true := fun hi => by
      cases h : ltB k (prK L (findI L k)) with
      | true => rfl
      | false =>
        have h2 := lt_total h (findI_stop hi)
        unfold findB at hf
        rw [decide_eq_true hi, decide_eq_true h2.symm] at hf
        cases hf
    show lackE _ _ _ _ = true
    unfold mkL
    rw [if_pos hg, hf, if_neg (by simp)]
    by_cases h0 : 0 < findI L k
    · rw [if_pos h0]
      have hlo := findI_lt (L := L) (k := k) (i := findI L k - 1) (by omega)
      by_cases h1 : findI L k < L.length
      · rw [if_pos h1]
        unfold lackE
        rw [if_neg (by simp), if_neg (by simp)]
        show (decide ((findI L k : Int) - ((findI L k - 1 : Nat) : Int) = 1) && (ltB (prK L (findI L k - 1)) k && ltB k (prK L (findI L k)))) = true
        rw [hlo, hst h1, decide_eq_true (by omega)]
        rfl
      · rw [if_neg h1]
        unfold lackE
        rw [if_neg (by simp), if_pos (by simp)]
        show (decide (((findI L k - 1 : Nat) : Int) = 0) && ltB k (prK L (findI L k - 1)) || decide (((findI L k - 1 : Nat) : Int) = L.length - 1) && ltB (prK L (findI L k - 1)) k) = true
        rw [hlo, decide_eq_true (p := ((findI L k - 1 : Nat) : Int) = L.length - 1) (by omega)]
        simp
    · rw [if_neg h0]
      have e0 : findI L k = 0 := by omega
      by_cases h1 : findI L k < L.length
      · rw [if_pos h1]
        unfold lackE
        rw [if_neg (by simp), if_pos (by simp)]
        show (decide ((findI L k : Int) = 0) && ltB k (prK L (findI L k)) || decide ((findI L k : Int) = L.length - 1) && ltB (prK L (findI L k)) k) = true
        rw [hst h1, decide_eq_true (p := (findI L k : Int) = 0) (by omega)]
        simp
      · rw [if_neg h1]
        unfold lackE
        have hn : L.length = 0 := by omega
        rw [if_pos (by simp), decide_eq_true (by omega), Bool.true_and]
        refine eqH_of ?_
        unfold rootL
        rw [hn, u8s_hash, topG_zero]
        rfl
end Go.Proofs.YthomoliklfmnkaaDoor.Vx
end

section
/- Proofs that are accepted at the root of a list are those that are made, or two unlike texts have one sum: plainly. -/
namespace Go.Proofs.YthomoliklfmnkaaDoor.Vx
open Sha
open Go.RowKit
set_option linter.unusedVariables false
set_option linter.unusedSimpArgs false
def tLeaf (k v : List UInt8) : List UInt8 := [0] ++ be8 k.length ++ k ++ v
def tNode (f g : Nat → Int) : List UInt8 := [1] ++ hashB f ++ hashB g
def tRoot (n : Int) (f : Nat → Int) : List UInt8 := [2] ++ be8 n ++ hashB f
theorem rootF_t {n : Int} (f : Nat → Int) (h : ¬ (n < 0 ∨ 1073741824 < n)) : rootF n (hashB f) = sumI (tRoot n f) := rootF_in _ h
/-- The texts whose sums are taken above leaves. -/
def topT (h : Nat → Nat → Int) (lo n : Nat) : List (List UInt8) :=
  if hn : n < 2 ∨ 1073741824 < n then []
  else topT h lo (hf n).toNat ++ topT h (lo + (hf n).toNat) (n - (hf n).toNat) ++ [tNode (topR h lo (hf n).toNat) (topR h (lo + (hf n).toNat) (n - (hf n).toNat))]
termination_by n
decreasing_by
  · have := hf_lt (n := (n : Int)) (by omega) (by omega); omega
  · have := hf_lt (n := (n : Int)) (by omega) (by omega); omega
/-- The texts whose sums are taken on the way up from a leaf. -/
def wayT (W : Nat → Nat → Int) (leaf : Nat → Int) : Nat → Int → Int → List (List UInt8)
  | 0, _, _ => []
  | k + 1, n, i => if i < hf n then wayT W leaf k (hf n) i ++ [tNode (foldR W leaf k (hf n) i) (W k)] else wayT W leaf k (n - hf n) (i - hf n) ++ [tNode (W k) (foldR W leaf k (n - hf n) (i - hf n))]
/-- No two unlike texts among these have one sum. -/
def NoClash (T : List (List UInt8)) : Prop := ∀ a ∈ T, ∀ b ∈ T, eqH (sumI a) (sumI b) = true → a = b
theorem hashB_inj {f g : Nat → Int} (hf_ : ∀ j, j < 32 → 0 ≤ f j ∧ f j < 256) (hg : ∀ j, j < 32 → 0 ≤ g j ∧ g j < 256) (h : hashB f = hashB g) : eqH f g = true := by
  rw [eqH_iff]
  intro j hj
  have e : (hashB f)[j]? = (hashB g)[j]? := by rw [h]
  unfold hashB at e
  rw [List.getElem?_map, List.getElem?_map, List.getElem?_range hj] at e
  have e := Option.some.inj e
  have e2 := congrArg UInt8.toNat e
  rw [UInt8.toNat_ofNat_of_lt' (by have := hf_ j hj; show (f j).toNat < 256; omega), UInt8.toNat_ofNat_of_lt' (by have := hg j hj; show (g j).toNat < 256; omega)] at e2
  have := hf_ j hj
  have := hg j hj
  omega
theorem sum_eqH {a b : List UInt8} (h : hashB (sumI a) = hashB (sumI b)) : eqH (sumI a) (sumI b) = true := hashB_inj (fun j _ => sumI_range a j) (fun j _ => sumI_range b j) h
theorem NoClash.use {T : List (List UInt8)} (h : NoClash T) {a b : List UInt8} (ha : a ∈ T) (hb : b ∈ T) (e : hashB (sumI a) = hashB (sumI b)) : a = b := h a ha b hb (sum_eqH e)
theorem tNode_inj {f g f' g' : Nat → Int} (h : tNode f g = tNode f' g') : hashB f = hashB f' ∧ hashB g = hashB g' := by
  unfold tNode at h
  rw [List.append_assoc, List.append_assoc] at h
  have h1 := List.append_cancel_left h
  exact List.append_inj h1 (by rw [hashB_len, hashB_len])
theorem be8_len (n : Int) : (be8 n).length = 8 := rfl
theorem tRoot_inj {n m : Int} {f g : Nat → Int} (h : tRoot n f = tRoot m g) : be8 n = be8 m ∧ hashB f = hashB g := by
  unfold tRoot at h
  rw [List.append_assoc, List.append_assoc] at h
  exact List.append_inj (List.append_cancel_left h) (by rw [be8_len, be8_len])
theorem be8_inj {n m : Int} (hn : 0 ≤ n ∧ n ≤ 1073741824) (hm : 0 ≤ m ∧ m ≤ 1073741824) (h : be8 n = be8 m) : n = m := by
  have key : ∀ j, j < 8 → (be8 n)[j]? = (be8 m)[j]? := fun j _ => by rw [h]
  have dig : ∀ a b : Int, 0 ≤ a ∧ a < 256 → 0 ≤ b ∧ b < 256 → some (UInt8.ofNat a.toNat) = some (UInt8.ofNat b.toNat) → a = b := fun a b ha hb e => by
    have e2 := congrArg UInt8.toNat (Option.some.inj e)
    rw [UInt8.toNat_ofNat_of_lt' (by show a.toNat < 256; omega), UInt8.toNat_ofNat_of_lt' (by show b.toNat < 256; omega)] at e2
    omega
  have k4 := dig _ _ (d8_range n 4) (d8_range m 4) (key 4 (by decide))
  have k5 := dig _ _ (d8_range n 5) (d8_range m 5) (key 5 (by decide))
  have k6 := dig _ _ (d8_range n 6) (d8_range m 6) (key 6 (by decide))
  have k7 := dig _ _ (d8_range n 7) (d8_range m 7) (key 7 (by decide))
  unfold d8 at k4 k5 k6 k7
  simp only [show (256 : Int) ^ (7 - 4) = 16777216 from rfl, show (256 : Int) ^ (7 - 5) = 65536 from rfl, show (256 : Int) ^ (7 - 6) = 256 from rfl, show (256 : Int) ^ (7 - 7) = 1 from rfl] at k4 k5 k6 k7
  omega
theorem tLeaf_inj {k v k' v' : List UInt8} (hk : k.length ≤ 1000) (hk' : k'.length ≤ 1000) (h : tLeaf k v = tLeaf k' v') : k = k' ∧ v = v' := by
  unfold tLeaf at h
  rw [List.append_assoc, List.append_assoc, List.append_assoc, List.append_assoc] at h
  have h1 := List.append_cancel_left h
  obtain ⟨h2, h3⟩ := List.append_inj h1 (by rw [be8_len, be8_len])
  have h4 := be8_inj (by omega) (by omega) h2
  exact List.append_inj h3 (by omega)
theorem topR_one {h : Nat → Nat → Int} {lo : Nat} : topR h lo 1 = h lo := by
  rw [topR, dif_pos (Or.inl (by omega)), if_neg (by omega)]
theorem topR_more {h : Nat → Nat → Int} {lo n : Nat} (hn : ¬ (n < 2 ∨ 1073741824 < n)) : topR h lo n = sumI (tNode (topR h lo (hf n).toNat) (topR h (lo + (hf n).toNat) (n - (hf n).toNat))) := by
  rw [topR, dif_neg hn]
  rfl
theorem topT_more {h : Nat → Nat → Int} {lo n : Nat} (hn : ¬ (n < 2 ∨ 1073741824 < n)) : topT h lo n = topT h lo (hf n).toNat ++ topT h (lo + (hf n).toNat) (n - (hf n).toNat) ++ [tNode (topR h lo (hf n).toNat) (topR h (lo + (hf n).toNat) (n - (hf n).toNat))] := by
  rw [topT, dif_neg hn]
theorem foldR_hash {W : Nat → Nat → Int} {leaf : Nat → Int} (k : Nat) (n i : Int) : foldR W leaf (k + 1) n i = if i < hf n then sumI (tNode (foldR W leaf k (hf n) i) (W k)) else sumI (tNode (W k) (foldR W leaf k (n - hf n) (i - hf n))) := by
  rw [foldR]
  split <;> rfl
/-- Down from the root: what lies on the way is what lies in the tree. -/
theorem descend {T : List (List UInt8)} (hT : NoClash T) {h W : Nat → Nat → Int} {leaf : Nat → Int} : ∀ (k n lo : Nat) (i : Int), (k : Int) = deep n i → 0 ≤ i → i < (n : Int) → n ≤ 1073741824 → (∀ t ∈ wayT W leaf k n i, t ∈ T) → (∀ t ∈ topT h lo n, t ∈ T) → hashB (foldR W leaf k n i) = hashB (topR h lo n) →
    hashB leaf = hashB (h (lo + i.toNat)) ∧ (wayR h lo n i).length = k ∧ ∀ j, j < k → hashB (W j) = hashB ((wayR h lo n i).getD j fun _ => 0)
  | 0, n, lo, i, hk, h0, hi, hm, _, _, e => by
    have hn : n = 1 := by
      by_cases h2 : 1 < n
      · exfalso
        have hh := hf_lt (n := (n : Int)) (by omega) (by omega)
        by_cases hc : i < hf n
        · rw [deep_lo (by omega) hc] at hk
          have := deep_nonneg (hf n) i
          omega
        · rw [deep_hi (by omega) hc] at hk
          have := deep_nonneg (n - hf n) (i - hf n)
          omega
      · omega
    subst hn
    have hi0 : i = 0 := by omega
    subst hi0
    rw [topR_one] at e
    exact ⟨e, by rw [way_one _ _ _ _ (by omega)]; rfl, fun j hj => absurd hj (Nat.not_lt_zero j)⟩
  | k + 1, n, lo, i, hk, h0, hi, hm, hw, ht, e => by
    have h2 : 1 < n := by
      by_cases h2 : 1 < n
      · exact h2
      · exfalso
        rw [deep_out (by omega)] at hk
        omega
    have hh := hf_lt (n := (n : Int)) (by omega) (by omega)
    have hno : ¬ (n < 2 ∨ 1073741824 < n) := by omega
    rw [topR_more hno] at e
    rw [topT_more hno] at ht
    have hmid : tNode (topR h lo (hf n).toNat) (topR h (lo + (hf n).toNat) (n - (hf n).toNat)) ∈ T := ht _ (by simp)
    rw [foldR_hash] at e
    by_cases hc : i < hf n
    · rw [if_pos hc] at e
      rw [wayT, if_pos hc] at hw
      have e2 := hT.use (hw _ (by simp)) hmid e
      obtain ⟨e3, e4⟩ := tNode_inj e2
      have hc2 : (((hf n).toNat : Nat) : Int) = hf n := by omega
      have hd := deep_lo (n := (n : Int)) (i := i) (by omega) hc
      have ih := descend hT k (hf n).toNat lo i (by rw [hc2]; omega) h0 (by omega) (by omega) (fun t h5 => hw t (List.mem_append_left _ (by rw [hc2] at h5; exact h5))) (fun t h5 => ht t (List.mem_append_left _ (List.mem_append_left _ h5))) (by rw [hc2]; exact e3)
      obtain ⟨i1, i2, i3⟩ := ih
      refine ⟨i1, ?_, fun j hj => ?_⟩
      · rw [way_lo h lo i n (by omega) hc, List.length_append, i2]; rfl
      · rw [way_lo h lo i n (by omega) hc]
        rcases Nat.lt_or_ge j k with h6 | h6
        · rw [List.getD_eq_getElem?_getD, List.getElem?_append_left (by omega), ← List.getD_eq_getElem?_getD]
          exact i3 j h6
        · obtain rfl : j = k := by omega
          rw [List.getD_eq_getElem?_getD, List.getElem?_append_right (by omega), i2, Nat.sub_self]
          exact e4
    · rw [if_neg hc] at e
      rw [wayT, if_neg hc] at hw
      have e2 := hT.use (hw _ (by simp)) hmid e
      obtain ⟨e3, e4⟩ := tNode_inj e2
      have hc2 : (((hf n).toNat : Nat) : Int) = hf n := by omega
      have hc3 : ((n - (hf n).toNat : Nat) : Int) = n - hf n := by omega
      have hd := deep_hi (n := (n : Int)) (i := i) (by omega) hc
      have ih := descend hT k (n - (hf n).toNat) (lo + (hf n).toNat) (i - hf n) (by rw [hc3]; omega) (by omega) (by omega) (by omega) (fun t h5 => hw t (List.mem_append_left _ (by rw [hc3] at h5; exact h5))) (fun t h5 => ht t (List.mem_append_left _ (List.mem_append_right _ h5))) (by rw [hc3]; exact e4)
      obtain ⟨i1, i2, i3⟩ := ih
      refine ⟨?_, ?_, fun j hj => ?_⟩
      · rw [i1]
        congr 2
        omega
      · rw [way_hi h lo i n (by omega) hc, List.length_append, i2]; rfl
      · rw [way_hi h lo i n (by omega) hc]
        rcases Nat.lt_or_ge j k with h6 | h6
        · rw [List.getD_eq_getElem?_getD, List.getElem?_append_left (by omega), ← List.getD_eq_getElem?_getD]
          exact i3 j h6
        · obtain rfl : j = k := by omega
          rw [List.getD_eq_getElem?_getD, List.getElem?_append_right (by omega), i2, Nat.sub_self]
          exact e3
end Go.Proofs.YthomoliklfmnkaaDoor.Vx
end

section
/- The search for a key's place, by the walker. -/
namespace Go.Proofs.YthomoliklfmnkaaDoor.Vx
open Sha
open Go.RowKit
set_option linter.unusedVariables false
set_option linter.unusedSimpArgs false
def mkFPre (tA tB ty one n : Nat) (get : Nat → List CV) (i : Int) : Prop := tA = 31 ∧ tB = 9 ∧ prPre ty one n get ∧ 0 ≤ i ∧ i < (n : Int)
def tbMk : Tbl where
  T :=
    (3, ⟨1, false, [.int .i64 (0)], .int .i64, 8⟩) ::
    (166, ⟨1, false, [.int .u64 (0)], .int .u64, 8⟩) ::
    (5, ⟨1, false, [.int .u8 (0)], .int .u8, 1⟩) ::
    (4, ⟨1, false, [.ff], .bool, 1⟩) ::
    (9, ⟨1, false, [.str []], .str, 16⟩) ::
    (63, ⟨2, true, [.str [], .str []], .struct [(0, (1, false)), (1, (1, false))], 32⟩) ::
    (31, ⟨1, false, [.val (.slice none 0 0)], .slice 63, 24⟩) ::
    (115, ⟨4, true, [.str [], .str [], .int .i64 (0), .val (.slice none 0 0)], .struct [(0, (1, false)), (1, (1, false)), (2, (1, false)), (3, (1, false))], 64⟩) ::
    (25, ⟨1, false, [.val (.slice none 0 0)], .slice 115, 24⟩) ::
    (27, ⟨2, true, [.int .i64 (0), .val (.slice none 0 0)], .struct [(0, (1, false)), (1, (1, false))], 32⟩) ::
    (24, ⟨32, true, [.int .u8 (0), .int .u8 (0), .int .u8 (0), .int .u8 (0), .int .u8 (0), .int .u8 (0), .int .u8 (0), .int .u8 (0), .int .u8 (0), .int .u8 (0), .int .u8 (0), .int .u8 (0), .int .u8 (0), .int .u8 (0), .int .u8 (0), .int .u8 (0), .int .u8 (0), .int .u8 (0), .int .u8 (0), .int .u8 (0), .int .u8 (0), .int .u8 (0), .int .u8 (0), .int .u8 (0), .int .u8 (0), .int .u8 (0), .int .u8 (0), .int .u8 (0), .int .u8 (0), .int .u8 (0), .int .u8 (0), .int .u8 (0)], .array 32 5, 32⟩) ::
    (113, ⟨1, false, [.val (.slice none 0 0)], .slice 24, 24⟩) ::
    (137, ⟨1, true, [.val (.slice none 0 0)], .struct [(0, (1, false))], 24⟩) ::
    (53, ⟨1, false, [.val (.pointer none)], .ptr 137, 8⟩) ::
    []
  F :=
    (24, [0, 0, 0, 0, 0, 0, 0, 0, 0, 0, 0, 0, 0, 0, 0, 0, 0, 0, 0, 0, 0, 0, 0, 0, 0, 0, 0, 0, 0, 0, 0, 0]) ::
    []

theorem tbMk_ok : tbMk.Ok Tryd.prog where
  T :=
    TblOk.cons (by kernel_rfl) <|
    TblOk.cons (by kernel_rfl) <|
    TblOk.cons (by kernel_rfl) <|
    TblOk.cons (by kernel_rfl) <|
    TblOk.cons (by kernel_rfl) <|
    TblOk.cons (by kernel_rfl) <|
    TblOk.cons (by kernel_rfl) <|
    TblOk.cons (by kernel_rfl) <|
    TblOk.cons (by kernel_rfl) <|
    TblOk.cons (by kernel_rfl) <|
    TblOk.cons (by kernel_rfl) <|
    TblOk.cons (by kernel_rfl) <|
    TblOk.cons (by kernel_rfl) <|
    TblOk.cons (by kernel_rfl) <|
    TblOk.nil _
  F :=
    FlatsOk.cons (FlatOk.of (D := .array 32 5) 6 (by decide) (by kernel_rfl) (by kernel_rfl) rfl (by kernel_rfl)) <|
    FlatsOk.nil _

def sMkF : SpecF
  | [.c (.int .i64 i), .c (.ptr 0 0), .c (.ptr 1 0)], [.cells tA [.row 2], .cells tB [.str k], .elems ty one n get] => some (mkFPre tA tB ty one n get i, .c (.bool (!ltB (prK (prL n get) i.toNat) k)), [.cells 31 [.row 2], .cells 9 [.str k], .dead])
  | _, _ => none

set_option maxRecDepth 100000 in
set_option maxHeartbeats 4000000 in
theorem mkFP : Fn Tryd.prog 84 [] [] sMkF := by
  have hC : CtsOk Tryd.prog [] := CtsOk.nil _
  refine Fn.of (E := tbMk) [] 0 [(1, [(0, true), (1, true), (2, true), (3, true), (4, true), (5, true), (6, true), (7, true)])] tbMk_ok hC (by kernel_rfl) Tryd.func84 rfl rfl rfl (by kernel_rfl) (by kernel_rfl) 3 63 2 ?_ ?_
  · intro args h pre r h' hs
    unfold sMkF at hs
    split at hs
    · cases hs; exact ⟨rfl, rfl, Nat.le_of_ble_eq_true rfl⟩
    · cases hs
  · intro args h pre r h' hs hp
    unfold sMkF at hs
    split at hs
    rotate_left
    · cases hs
    rename_i i tA tB k ty one n get
    cases hs
    obtain ⟨rfl, rfl, ⟨rfl, rfl, hst, hm⟩, hq⟩ := hp
    refine ⟨[.cells 31 [.row 2], .cells 9 [.str k], .elems 63 2 n (prG (prL n get))], ⟨rfl, rfl, ⟨rfl, rfl, rfl, fun i hi => hst.eq hi⟩, trivial⟩, ?_⟩
    have hL : (prL n get).length = n := prL_len
    have ePR : prL n (prG (prL n get)) = prL n get := by
      have := prL_prG (prL n get)
      rwa [hL] at this
    generalize prL n get = L at hL ePR ⊢
    generalize hg0 : (List.length : List PP → Nat) = g0
    try unfold prG
    generalize ho0 : @prK = zo0, ho1 : @prV = zo1, ho2 : @prL = zo2, ho3 : @ltB = zo3, ho4 : @mkFPre = zo4
    generalize hA : Arith.std = A
    cbv
    subst hA hg0 ho0 ho1 ho2 ho3 ho4
    have hq2 : i < (n : Int) := hq.2
    refine Need.mk (by show 0 ≤ i ∧ i < (n : Int); exact hq) fun _ => Need.mk (by show i.toNat < n; omega) fun _ => ?_
    exact ⟨[0, 1, 2], ⟨rfl, (by repeat' (first | exact trivial | exact rfl | apply And.intro | exact (fun _ _ _ _ => Cell.le_refl _) | (intro i hi; rfl) | (intro i hi; exact absurd hi (Nat.not_lt_zero _)))), (by show List.Nodup [0, 1]; decide), rfl, by repeat' (first | exact trivial | exact rfl | apply And.intro | exact (fun _ _ _ _ => Cell.le_refl _) | (intro i hi; rfl) | (intro i hi; exact absurd hi (Nat.not_lt_zero _)))⟩⟩

def sSea : SpecF
  | [.c (.int .i64 n0), .fn f [.ptr 0 0, .ptr 1 0]], [.cells tA [.row 2], .cells tB [.str k], .elems ty one n get] => some (n0 = (n : Int) ∧ f = 84 ∧ tA = 31 ∧ tB = 9 ∧ prPre ty one n get ∧ StS (prL n get), .c (.int .i64 (findI (prL n get) k : Int)), [.cells 31 [.row 2], .cells 9 [.str k], .dead])
  | _, _ => none

set_option maxRecDepth 100000 in
set_option maxHeartbeats 8000000 in
theorem seaP : Fn Tryd.prog 83 [] [] sSea := by
  have hC : CtsOk Tryd.prog [(84, appFn [] [] sMkF)] := CtsOk.cons (Fn.ct mkFP) <| CtsOk.nil _
  refine Fn.of (E := tbMk) [] 0 [] tbMk_ok hC (by kernel_rfl) Tryd.func83 rfl rfl rfl (by kernel_rfl) (by kernel_rfl) 3 63 2 ?_ ?_
  · intro args h pre r h' hs
    unfold sSea at hs
    split at hs
    · cases hs; exact ⟨rfl, rfl, Nat.le_of_ble_eq_true rfl⟩
    · cases hs
  · intro args h pre r h' hs hp
    unfold sSea at hs
    split at hs
    rotate_left
    · cases hs
    rename_i n0 f tA tB k ty one n get
    cases hs
    obtain ⟨rfl, rfl, rfl, rfl, ⟨rfl, rfl, hst, hm⟩, hs⟩ := hp
    refine ⟨[.cells 31 [.row 2], .cells 9 [.str k], .elems 63 2 n (prG (prL n get))], ⟨rfl, rfl, ⟨rfl, rfl, rfl, fun i hi => hst.eq hi⟩, trivial⟩, ?_⟩
    have hL : (prL n get).length = n := prL_len
    have ePR : prL n (prG (prL n get)) = prL n get := by
      have := prL_prG (prL n get)
      rwa [hL] at this
    generalize prL n get = L at hL ePR hs ⊢
    unfold sMkF
    generalize hg0 : (List.length : List PP → Nat) = g0
    generalize hL : lft Tryd.prog _ = L
    try unfold prG
    generalize ho0 : @prK = zo0, ho1 : @prV = zo1, ho2 : @prL = zo2, ho3 : @ltB = zo3, ho4 : @findI = zo4, ho5 : @prPre = zo5, ho6 : @mkFPre = zo6
    generalize hA : Arith.std = A
    cbv
    subst hA hg0 hL ho0 ho1 ho2 ho3 ho4 ho5 ho6
    show Runs Tryd.prog 3 (.loop _) _ _
    refine loop_ruleR (N := env (lft Tryd.prog 3) 0 .std tbMk [(84, appFn [] [] sMkF)] []) rfl tbMk_ok hC (fun c st K _ h => h) (by kernel_rfl) [] (X := LBs L k n)
      (S := fun x => ⟨[.c (.int .i64 n), .fn 84 [.ptr 0 0, .ptr 1 0], .any, .any, .any, .c (.int .i64 x.i), .c (.int .i64 x.j)] ++ List.replicate 19 .any, [.cells 31 [.row 2], .cells 9 [.str k], .elems 63 2 n (prG L)]⟩) (μ := fun x => (x.j - x.i).toNat) ⟨0, n, by omega, by omega, by omega, by omega, by have := findI_le (L := L) (k := k); omega⟩ (by kernel_rfl) [0, 1, 2] ?_ ?_
    · refine ⟨rfl, by decide, ?_, ?_⟩ <;> repeat' (first | exact trivial | exact rfl | apply And.intro | exact (fun _ _ _ _ => Cell.le_refl _) | (intro i hi; rfl) | (intro i hi; exact absurd hi (Nat.not_lt_zero _)))
    rintro ⟨i, j, hi0, hij, hjn, hlo, hhi⟩
    unfold sMkF
    generalize hg0 : (List.length : List PP → Nat) = g0
    generalize hL : lft Tryd.prog _ = L
    try dsimp only
    try unfold prG
    generalize ho0 : @prK = zo0, ho1 : @prV = zo1, ho2 : @prL = zo2, ho3 : @ltB = zo3, ho4 : @findI = zo4, ho5 : @prPre = zo5, ho6 : @mkFPre = zo6
    generalize hA : Arith.std = A
    cbv
    subst hA hg0 hL ho0 ho1 ho2 ho3 ho4 ho5 ho6
    replace hjn : j ≤ @Nat.cast Int instNatCastInt n := hjn
    replace hlo : i ≤ @Nat.cast Int instNatCastInt (findI L k) := hlo
    replace hhi : @Nat.cast Int instNatCastInt (findI L k) ≤ j := hhi
    have eM : (Arith.std.wrap .i64 (Arith.std.shr .u64 (Arith.std.wrap .u64 (Arith.std.add i j)) 1)) = (i + j) / 2 := by
      show IntKind.wrap .i64 (Int.fdiv (IntKind.wrap .u64 (i + j)) (2 ^ (min (1 : Int).toNat IntKind.u64.bits))) = _
      rw [show (2 : Int) ^ (min (1 : Int).toNat IntKind.u64.bits) = 2 from rfl, IntKind.wrap_u64, Int.fdiv_eq_ediv_of_nonneg _ (by decide), Int.emod_eq_of_lt (by omega) (by omega)]
      exact fitStd_wrap (by unfold fitStd; omega)
    refine Ife.mk (fun hlt => ?_) (fun hlt => ?_)
    · replace hlt : i < j := of_decide_eq_true (p := i < j) hlt
      have hm1 : i ≤ (i + j) / 2 := by omega
      have hm2 : (i + j) / 2 < j := by omega
      refine Need.mk (by show fitStd .i64 (i + j); unfold fitStd; omega) fun _ => Need.mk (by show (0 : Int) ≤ 1; decide) fun _ => ?_
      refine Need.mk ⟨rfl, rfl, ⟨rfl, rfl, prAt_prG n L, hm⟩, by show 0 ≤ (Arith.std.wrap .i64 (Arith.std.shr .u64 (Arith.std.wrap .u64 (Arith.std.add i j)) 1)); rw [eM]; omega, by show (Arith.std.wrap .i64 (Arith.std.shr .u64 (Arith.std.wrap .u64 (Arith.std.add i j)) 1)) < (n : Int); rw [eM]; omega⟩ fun _ => ?_
      refine Ife.mk (fun h => ?_) (fun h => ?_)
      · have h : (!!ltB (prK (prL n (prG L)) ((Arith.std.wrap .i64 (Arith.std.shr .u64 (Arith.std.wrap .u64 (Arith.std.add i j)) 1))).toNat) k) = true := h
        rw [ePR, eM, Bool.not_not] at h
        have hlo2 : (i + j) / 2 + 1 ≤ (findI L k : Int) := by
          apply Classical.byContradiction
          intro hno
          have := findI_ge hs (k := k) (i := ((i + j) / 2).toNat) (by omega) (by omega)
          rw [h] at this
          cases this
        refine Need.mk (by show fitStd .i64 ((Arith.std.wrap .i64 (Arith.std.shr .u64 (Arith.std.wrap .u64 (Arith.std.add i j)) 1)) + 1); rw [eM]; unfold fitStd; omega) fun _ => ?_
        refine ⟨⟨(Arith.std.wrap .i64 (Arith.std.shr .u64 (Arith.std.wrap .u64 (Arith.std.add i j)) 1)) + 1, j, by rw [eM]; omega, by rw [eM]; omega, hjn, by rw [eM]; exact hlo2, hhi⟩, [0, 1, 2], (by show (j - ((Arith.std.wrap .i64 (Arith.std.shr .u64 (Arith.std.wrap .u64 (Arith.std.add i j)) 1)) + 1)).toNat < (j - i).toNat; rw [eM]; omega), ?_⟩
        refine ⟨rfl, by decide, ?_, ?_⟩ <;> repeat' (first | exact trivial | exact rfl | apply And.intro | exact (fun _ _ _ _ => Cell.le_refl _) | (intro i hi; rfl) | (intro i hi; exact absurd hi (Nat.not_lt_zero _)))
      · have h : (!!ltB (prK (prL n (prG L)) ((Arith.std.wrap .i64 (Arith.std.shr .u64 (Arith.std.wrap .u64 (Arith.std.add i j)) 1))).toNat) k) = false := h
        rw [ePR, eM, Bool.not_not] at h
        have hhi2 : (findI L k : Int) ≤ (i + j) / 2 := by
          apply Classical.byContradiction
          intro hno
          have := findI_lt (L := L) (k := k) (i := ((i + j) / 2).toNat) (by omega)
          rw [h] at this
          cases this
        refine ⟨⟨i, (Arith.std.wrap .i64 (Arith.std.shr .u64 (Arith.std.wrap .u64 (Arith.std.add i j)) 1)), hi0, by rw [eM]; omega, by rw [eM]; omega, hlo, by rw [eM]; exact hhi2⟩, [0, 1, 2], (by show ((Arith.std.wrap .i64 (Arith.std.shr .u64 (Arith.std.wrap .u64 (Arith.std.add i j)) 1)) - i).toNat < (j - i).toNat; rw [eM]; omega), ?_⟩
        refine ⟨rfl, by decide, ?_, ?_⟩ <;> repeat' (first | exact trivial | exact rfl | apply And.intro | exact (fun _ _ _ _ => Cell.le_refl _) | (intro i hi; rfl) | (intro i hi; exact absurd hi (Nat.not_lt_zero _)))
    · replace hlt : ¬ i < j := of_decide_eq_false (p := i < j) hlt
      have ei : i = (findI L k : Int) := by omega
      exact ⟨[0, 1, 2], ⟨rfl, (by repeat' (first | exact trivial | exact ei | exact rfl | apply And.intro)), (by show List.Nodup [0, 1]; decide), rfl, by repeat' (first | exact trivial | exact rfl | apply And.intro | exact (fun _ _ _ _ => Cell.le_refl _) | (intro i hi; rfl) | (intro i hi; exact absurd hi (Nat.not_lt_zero _)))⟩⟩

end Go.Proofs.YthomoliklfmnkaaDoor.Vx
end
