/- Proofs that may be; light proofs, by the walker. -/
import Derived.Test.YtcgoaicifjndpaaM17
namespace Go.Proofs.Ytcgoaicifjndpaa.Vx
open Go.RowKit
set_option linter.unusedVariables false
set_option linter.unusedSimpArgs false
/-- So far all is well. -/
structure LIx (n : Nat) (P : Nat → Bool) where
  i : Int
  h0 : 0 ≤ i
  h1 : i ≤ (n : Int)
  h2 : ∀ k, k < i.toNat → P k = true
theorem all_no {n : Nat} {P : Nat → Bool} {i : Nat} (hi : i < n) (h : ¬ P i = true) : (List.range n).all P = false := by
  rw [Bool.eq_false_iff]
  intro h2
  exact h (List.all_eq_true.1 h2 i (List.mem_range.2 hi))
theorem all_yes {n : Nat} {P : Nat → Bool} {j : Nat} (h : ∀ k, k < j → P k = true) (hj : n ≤ j) : (List.range n).all P = true := List.all_eq_true.2 fun k hk => h k (by have := List.mem_range.1 hk; omega)
theorem lix_next {P : Nat → Bool} {i : Int} (h0 : 0 ≤ i) (h : ∀ k, k < i.toNat → P k = true) (hi : P i.toNat = true) : ∀ k, k < (i + 1).toNat → P k = true := fun k hk => by
  rcases Nat.lt_or_ge k i.toNat with h1 | h1
  · exact h k h1
  · rw [show k = i.toNat by omega]; exact hi
def mayAt (c : Int) (L : List PLeaf) (i : Nat) : Bool := sizedB (lK L i) (lV L i) && (decide (0 ≤ lI L i) && (decide (lI L i < c) && decide ((lN L i : Int) = deep c (lI L i))))
def mayL (c : Int) (L : List PLeaf) : Bool := decide (0 ≤ c) && (decide (c ≤ 1073741824) && (decide (L.length ≤ 2) && (List.range L.length).all (mayAt c L)))
theorem sizedB_iff {k v : List UInt8} : sizedB k v = true ↔ (1 ≤ k.length ∧ k.length ≤ 160) ∧ 1 ≤ v.length ∧ v.length ≤ 64 := by simp [sizedB]
theorem mayAt_iff {c : Int} {L : List PLeaf} {i : Nat} : mayAt c L i = true ↔ ((1 ≤ (lK L i).length ∧ (lK L i).length ≤ 160) ∧ 1 ≤ (lV L i).length ∧ (lV L i).length ≤ 64) ∧ 0 ≤ lI L i ∧ lI L i < c ∧ (lN L i : Int) = deep c (lI L i) := by
  unfold mayAt
  rw [Bool.and_eq_true, sizedB_iff]
  simp only [Bool.and_eq_true, decide_eq_true_iff]
theorem mayL_no {c : Int} {L : List PLeaf} (h : ¬ (0 ≤ c ∧ c ≤ 1073741824 ∧ L.length ≤ 2)) : mayL c L = false := by
  rw [Bool.eq_false_iff]
  intro h2
  simp only [mayL, Bool.and_eq_true, decide_eq_true_iff] at h2
  exact h ⟨h2.1, h2.2.1, h2.2.2.1⟩
theorem mayL_at {c : Int} {L : List PLeaf} {i : Nat} (hi : i < L.length) (h : ¬ mayAt c L i = true) : mayL c L = false := by
  unfold mayL
  rw [all_no hi h]
  simp
theorem mayL_yes {c : Int} {L : List PLeaf} (h : 0 ≤ c ∧ c ≤ 1073741824 ∧ L.length ≤ 2) {j : Nat} (h2 : ∀ k, k < j → mayAt c L k = true) (hj : L.length ≤ j) : mayL c L = true := by
  unfold mayL
  rw [all_yes h2 hj]
  simp only [Bool.and_eq_true, decide_eq_true_iff, and_true]
  exact h
def lightAt (L : List PLeaf) (i : Nat) : Bool := decide ((lK L i).length ≤ 400) && (decide ((lV L i).length ≤ 400) && decide (lN L i ≤ 40))
theorem lightAt_iff {L : List PLeaf} {i : Nat} : lightAt L i = true ↔ (lK L i).length ≤ 400 ∧ (lV L i).length ≤ 400 ∧ lN L i ≤ 40 := by simp [lightAt]
def lightL (l : List PLeaf) : Bool := decide (l.length ≤ 5) && (List.range l.length).all (lightAt l)
theorem lightL_at {L : List PLeaf} {i : Nat} (hi : i < L.length) (h : ¬ lightAt L i = true) : lightL L = false := by
  unfold lightL
  rw [all_no hi h]
  simp
theorem lightL_yes {L : List PLeaf} (h : L.length ≤ 5) {j : Nat} (h2 : ∀ k, k < j → lightAt L k = true) (hj : L.length ≤ j) : lightL L = true := by
  unfold lightL
  rw [all_yes h2 hj]
  simpa using h
/-- Leaves of any size. -/
def leavesAt0 (ty sz n : Nat) (get : Nat → Nat → Cell) : Prop := ty = 140 ∧ sz = 4 ∧ LeavesAt n get
theorem leafL_congr {n : Nat} {g k : Nat → Nat → Cell} (h : ∀ i j, i < n → j < 4 → g i j = k i j) : leafL n g = leafL n k := by
  unfold leafL
  apply List.map_congr_left
  intro i hi
  have hi : i < n := by simpa using hi
  unfold leafOf
  rw [h i 0 hi (by omega), h i 1 hi (by omega), h i 2 hi (by omega), h i 3 hi (by omega)]
theorem leaves0 {n : Nat} {get : Nat → Nat → Cell} (h : LeavesAt n get) : leafL n (fun i j => (leafG false (leafL n get) i j).old) = leafL n get := leafL_congr fun i j hi hj => by rw [leafG_old, ← h i j hi hj]
theorem leavesAt0_of {n : Nat} {L : List PLeaf} (h : leafL n (fun i j => (leafG false L i j).old) = L) : leavesAt0 140 4 n fun i j => (leafG false L i j).old := ⟨rfl, rfl, fun i j hi hj => by rw [h]; exact leafG_old⟩
def sLightPr : SpecF
  | [.agg [.int .i64 c, .row 0]], [.data fr ty sz n get] => some (leavesAt0 ty sz n get, .c (.bool (lightL (leafL n get))), [.dead])
  | _, _ => none

set_option maxRecDepth 100000 in
set_option maxHeartbeats 4000000 in
theorem lightPrP : Fn Try.prog 100 [] [(140, 204)] sLightPr := by
  have hC : CtsOk Try.prog [] := CtsOk.nil _
  refine Fn.of (E := tbP) [] 0 [] tbP_ok hC (by kernel_rfl) Try.func100 rfl rfl rfl (by kernel_rfl) (by kernel_rfl) 1 5 1 ?_ ?_
  · intro args h pre r h' hs
    unfold sLightPr at hs
    split at hs
    · cases hs; exact ⟨rfl, rfl, Nat.le_of_ble_eq_true rfl⟩
    · cases hs
  · intro args h pre r h' hs hp
    unfold sLightPr at hs
    split at hs
    rotate_left
    · cases hs
    rename_i c fr ty sz n get
    cases hs
    obtain ⟨rfl, rfl, hst⟩ := hp
    refine ⟨[.data fr 140 4 n (leafG false (leafL n get))], ⟨⟨rfl, rfl, rfl, rfl, fun i j hi hj => by rw [hst i j hi hj]; exact Cell.le_refl _⟩, trivial⟩, ?_⟩
    have hL : (leafL n get).length = n := leafL_len
    generalize leafL n get = L at hL ⊢
    generalize hg0 : (List.length : List UInt8 → Nat) = g0
    generalize hL : lft Try.prog _ = L
    try unfold leafG
    generalize ho0 : @lK = zo0, ho1 : @lV = zo1, ho2 : @lI = zo2, ho3 : @lP = zo3, ho4 : @lN = zo4, ho5 : @pG = zo5, ho6 : @leafL = zo6, ho7 : @lightAt = zo7, ho8 : @lightL = zo8, ho9 : @leavesAt0 = zo9
    generalize hA : Arith.std = A
    cbv
    subst hA hg0 hL ho0 ho1 ho2 ho3 ho4 ho5 ho6 ho7 ho8 ho9
    refine Ife.mk (fun h => ?_) (fun h => ?_)
    · have h : (5 : Int) < (@Nat.cast Int instNatCastInt n) := of_decide_eq_true (p := (5 : Int) < (n : Int)) h
      rw [show lightL L = false by unfold lightL; rw [decide_eq_false (by omega)]; rfl]
      exact ⟨[0], ⟨rfl, by repeat' (first | exact trivial | exact rfl | apply And.intro | exact (fun _ _ _ _ => Cell.le_refl _) | (intro i hi; rfl) | (intro i hi; exact absurd hi (Nat.not_lt_zero _))), by decide, rfl, by repeat' (first | exact trivial | exact rfl | apply And.intro | exact (fun _ _ _ _ => Cell.le_refl _) | (intro i hi; rfl) | (intro i hi; exact absurd hi (Nat.not_lt_zero _)))⟩⟩
    have h : ¬ ((5 : Int) < (@Nat.cast Int instNatCastInt n)) := of_decide_eq_false (p := (5 : Int) < (n : Int)) h
    replace h := And.intro h trivial
    obtain ⟨hc0, _⟩ := h
    show Runs Try.prog 1 (.loop _) _ _
    refine loop_ruleR (N := env (lft Try.prog 1) 0 .std tbP [] []) rfl tbP_ok hC (fun c st K _ h => h) (by kernel_rfl) [] (X := LIx n (lightAt L))
      (S := fun x => ⟨[.any, .c (.ptr 1 0), .any, .c (.int .i64 x.i)] ++ List.replicate 33 .any, [.data fr 140 4 n (leafG false L), .cells 72 [.int .i64 c, .row 0]]⟩) (μ := fun x => n - x.i.toNat) ⟨0, by omega, by omega, fun k hk => absurd hk (by omega)⟩ (by kernel_rfl) [0, 1] ?_ ?_
    · refine ⟨rfl, by decide, ?_, ?_⟩ <;> repeat' (first | exact trivial | exact rfl | apply And.intro | exact (fun _ _ _ _ => Cell.le_refl _) | (intro i hi; rfl) | (intro i hi; exact absurd hi (Nat.not_lt_zero _)))
    rintro ⟨i, hi0, hin, hP⟩
    generalize hg0 : (List.length : List UInt8 → Nat) = g0
    generalize hL : lft Try.prog _ = L
    try dsimp only
    try unfold leafG
    generalize ho0 : @lK = zo0, ho1 : @lV = zo1, ho2 : @lI = zo2, ho3 : @lP = zo3, ho4 : @lN = zo4, ho5 : @pG = zo5, ho6 : @leafL = zo6, ho7 : @lightAt = zo7, ho8 : @lightL = zo8, ho9 : @leavesAt0 = zo9
    generalize hA : Arith.std = A
    cbv
    subst hA hg0 hL ho0 ho1 ho2 ho3 ho4 ho5 ho6 ho7 ho8 ho9
    try replace hc0 : ¬ ((5 : Int) < (@Nat.cast Int instNatCastInt n)) := hc0
    replace hi0 : 0 ≤ i := hi0
    replace hin : i ≤ @Nat.cast Int instNatCastInt n := hin
    replace hP : ∀ k, k < i.toNat → lightAt L k = true := hP
    refine Ife.mk (fun hlt => ?_) (fun hlt => ?_)
    · replace hlt : i < @Nat.cast Int instNatCastInt n := of_decide_eq_true (p := i < (n : Int)) hlt
      have hiL : i.toNat < L.length := by omega
      refine Need.mk (by show 0 ≤ i ∧ i < (n : Int); omega) fun _ => Need.mk (by show i.toNat < n; omega) fun _ => ?_
      refine Ife.mk (fun h => ?_) (fun h => ?_)
      · have h : (400 : Int) < ((lK L i.toNat).length : Int) := of_decide_eq_true (p := (400 : Int) < ((lK L i.toNat).length : Int)) h
        rw [show lightL L = false from lightL_at hiL fun hh => by have hh := lightAt_iff.1 hh; omega]
        exact ⟨[0], ⟨rfl, by repeat' (first | exact trivial | exact rfl | apply And.intro | exact (fun _ _ _ _ => Cell.le_refl _) | (intro i hi; rfl) | (intro i hi; exact absurd hi (Nat.not_lt_zero _))), by decide, rfl, by repeat' (first | exact trivial | exact rfl | apply And.intro | exact (fun _ _ _ _ => Cell.le_refl _) | (intro i hi; rfl) | (intro i hi; exact absurd hi (Nat.not_lt_zero _)))⟩⟩
      have h : ¬ ((400 : Int) < ((lK L i.toNat).length : Int)) := of_decide_eq_false (p := (400 : Int) < ((lK L i.toNat).length : Int)) h
      replace h := And.intro h trivial
      obtain ⟨hd0, _⟩ := h
      refine Ife.mk (fun h => ?_) (fun h => ?_)
      · have h : (400 : Int) < ((lV L i.toNat).length : Int) := of_decide_eq_true (p := (400 : Int) < ((lV L i.toNat).length : Int)) h
        rw [show lightL L = false from lightL_at hiL fun hh => by have hh := lightAt_iff.1 hh; omega]
        exact ⟨[0], ⟨rfl, by repeat' (first | exact trivial | exact rfl | apply And.intro | exact (fun _ _ _ _ => Cell.le_refl _) | (intro i hi; rfl) | (intro i hi; exact absurd hi (Nat.not_lt_zero _))), by decide, rfl, by repeat' (first | exact trivial | exact rfl | apply And.intro | exact (fun _ _ _ _ => Cell.le_refl _) | (intro i hi; rfl) | (intro i hi; exact absurd hi (Nat.not_lt_zero _)))⟩⟩
      have h : ¬ ((400 : Int) < ((lV L i.toNat).length : Int)) := of_decide_eq_false (p := (400 : Int) < ((lV L i.toNat).length : Int)) h
      replace h := And.intro h trivial
      obtain ⟨hd1, _⟩ := h
      refine Ife.mk (fun h => ?_) (fun h => ?_)
      · have h : (40 : Int) < ((lN L i.toNat : Nat) : Int) := of_decide_eq_true (p := (40 : Int) < ((lN L i.toNat : Nat) : Int)) h
        rw [show lightL L = false from lightL_at hiL fun hh => by have hh := lightAt_iff.1 hh; omega]
        exact ⟨[0], ⟨rfl, by repeat' (first | exact trivial | exact rfl | apply And.intro | exact (fun _ _ _ _ => Cell.le_refl _) | (intro i hi; rfl) | (intro i hi; exact absurd hi (Nat.not_lt_zero _))), by decide, rfl, by repeat' (first | exact trivial | exact rfl | apply And.intro | exact (fun _ _ _ _ => Cell.le_refl _) | (intro i hi; rfl) | (intro i hi; exact absurd hi (Nat.not_lt_zero _)))⟩⟩
      have h : ¬ ((40 : Int) < ((lN L i.toNat : Nat) : Int)) := of_decide_eq_false (p := (40 : Int) < ((lN L i.toNat : Nat) : Int)) h
      replace h := And.intro h trivial
      obtain ⟨hd2, _⟩ := h
      refine Need.mk (by show fitStd .i64 (i + 1); unfold fitStd; omega) fun _ => ?_
      refine ⟨⟨i + 1, by omega, by omega, lix_next hi0 hP (lightAt_iff.2 (by omega))⟩, [0, 1], (by show n - (i + 1).toNat < n - i.toNat; omega), ?_⟩
      refine ⟨rfl, by decide, ?_, ?_⟩ <;> repeat' (first | exact trivial | exact rfl | apply And.intro | exact (fun _ _ _ _ => Cell.le_refl _) | (intro i hi; rfl) | (intro i hi; exact absurd hi (Nat.not_lt_zero _)))
    · replace hlt : ¬ i < @Nat.cast Int instNatCastInt n := of_decide_eq_false (p := i < (n : Int)) hlt
      rw [lightL_yes (by omega) hP (by omega)]
      exact ⟨[0], ⟨rfl, by repeat' (first | exact trivial | exact rfl | apply And.intro | exact (fun _ _ _ _ => Cell.le_refl _) | (intro i hi; rfl) | (intro i hi; exact absurd hi (Nat.not_lt_zero _))), by decide, rfl, by repeat' (first | exact trivial | exact rfl | apply And.intro | exact (fun _ _ _ _ => Cell.le_refl _) | (intro i hi; rfl) | (intro i hi; exact absurd hi (Nat.not_lt_zero _)))⟩⟩

def sMayPr : SpecF
  | [.agg [.int .i64 c, .row 0]], [.data fr ty sz n get] => some (leavesPre ty sz n get, .c (.bool (mayL c (leafL n get))), [.dead])
  | _, _ => none

set_option maxRecDepth 100000 in
set_option maxHeartbeats 8000000 in
theorem mayPrP : Fn Try.prog 104 [] [(140, 204)] sMayPr := by
  have hC : CtsOk Try.prog [(143, appPure sSized), (154, appPure sDeep)] := CtsOk.cons (Pure.ct sizedP) <| CtsOk.cons (Pure.ct deepP) <| CtsOk.nil _
  refine Fn.of (E := tbP) [] 0 [(6, [(0, true), (1, true), (2, true), (3, true), (4, false), (5, true), (6, true), (7, true), (8, true), (9, true), (10, true), (11, true), (12, true), (13, true), (14, true), (15, true), (16, true), (17, true), (18, true), (19, true), (20, true), (21, true), (22, true), (23, true), (24, true), (25, true), (26, false), (27, true), (28, true)])] tbP_ok hC (by kernel_rfl) Try.func104 rfl rfl rfl (by kernel_rfl) (by kernel_rfl) 1 5 1 ?_ ?_
  · intro args h pre r h' hs
    unfold sMayPr at hs
    split at hs
    · cases hs; exact ⟨rfl, rfl, Nat.le_of_ble_eq_true rfl⟩
    · cases hs
  · intro args h pre r h' hs hp
    unfold sMayPr at hs
    split at hs
    rotate_left
    · cases hs
    rename_i c fr ty sz n get
    cases hs
    obtain ⟨rfl, rfl, hst, hok, hm⟩ := hp
    refine ⟨[.data fr 140 4 n (leafG false (leafL n get))], ⟨⟨rfl, rfl, rfl, rfl, fun i j hi hj => by rw [hst i j hi hj]; exact Cell.le_refl _⟩, trivial⟩, ?_⟩
    have hL : (leafL n get).length = n := leafL_len
    generalize leafL n get = L at hL hok ⊢
    unfold sSized sDeep
    generalize hg0 : (List.length : List UInt8 → Nat) = g0
    generalize hL : lft Try.prog _ = L
    try unfold leafG
    generalize ho0 : @lK = zo0, ho1 : @lV = zo1, ho2 : @lI = zo2, ho3 : @lP = zo3, ho4 : @lN = zo4, ho5 : @pG = zo5, ho6 : @leafL = zo6, ho7 : @sizedB = zo7, ho8 : @leavesPre = zo8, ho9 : @mayAt = zo9, ho10 : @mayL = zo10, ho11 : @deep = zo11
    generalize hA : Arith.std = A
    cbv
    subst hA hg0 hL ho0 ho1 ho2 ho3 ho4 ho5 ho6 ho7 ho8 ho9 ho10 ho11
    refine Ife.mk (fun h => ?_) (fun h => ?_)
    · have h : c < 0 := of_decide_eq_true (p := c < 0) h
      rw [mayL_no (by omega)]
      exact ⟨[0], ⟨rfl, by repeat' (first | exact trivial | exact rfl | apply And.intro | exact (fun _ _ _ _ => Cell.le_refl _) | (intro i hi; rfl) | (intro i hi; exact absurd hi (Nat.not_lt_zero _))), by decide, rfl, by repeat' (first | exact trivial | exact rfl | apply And.intro | exact (fun _ _ _ _ => Cell.le_refl _) | (intro i hi; rfl) | (intro i hi; exact absurd hi (Nat.not_lt_zero _)))⟩⟩
    have h : ¬ (c < 0) := of_decide_eq_false (p := c < 0) h
    replace h := And.intro h trivial
    obtain ⟨hc0, _⟩ := h
    refine Ife.mk (fun h => ?_) (fun h => ?_)
    · have h : (1073741824 : Int) < c := of_decide_eq_true (p := (1073741824 : Int) < c) h
      rw [mayL_no (by omega)]
      exact ⟨[0], ⟨rfl, by repeat' (first | exact trivial | exact rfl | apply And.intro | exact (fun _ _ _ _ => Cell.le_refl _) | (intro i hi; rfl) | (intro i hi; exact absurd hi (Nat.not_lt_zero _))), by decide, rfl, by repeat' (first | exact trivial | exact rfl | apply And.intro | exact (fun _ _ _ _ => Cell.le_refl _) | (intro i hi; rfl) | (intro i hi; exact absurd hi (Nat.not_lt_zero _)))⟩⟩
    have h : ¬ ((1073741824 : Int) < c) := of_decide_eq_false (p := (1073741824 : Int) < c) h
    replace h := And.intro h trivial
    obtain ⟨hc1, _⟩ := h
    refine Ife.mk (fun h => ?_) (fun h => ?_)
    · have h : (2 : Int) < (@Nat.cast Int instNatCastInt n) := of_decide_eq_true (p := (2 : Int) < (n : Int)) h
      rw [mayL_no (by omega)]
      exact ⟨[0], ⟨rfl, by repeat' (first | exact trivial | exact rfl | apply And.intro | exact (fun _ _ _ _ => Cell.le_refl _) | (intro i hi; rfl) | (intro i hi; exact absurd hi (Nat.not_lt_zero _))), by decide, rfl, by repeat' (first | exact trivial | exact rfl | apply And.intro | exact (fun _ _ _ _ => Cell.le_refl _) | (intro i hi; rfl) | (intro i hi; exact absurd hi (Nat.not_lt_zero _)))⟩⟩
    have h : ¬ ((2 : Int) < (@Nat.cast Int instNatCastInt n)) := of_decide_eq_false (p := (2 : Int) < (n : Int)) h
    replace h := And.intro h trivial
    obtain ⟨hc2, _⟩ := h
    show Runs Try.prog 1 (.loop _) _ _
    refine loop_ruleR (N := env (lft Try.prog 1) 0 .std tbP [(143, appPure sSized), (154, appPure sDeep)] [(6, [(0, true), (1, true), (2, true), (3, true), (4, false), (5, true), (6, true), (7, true), (8, true), (9, true), (10, true), (11, true), (12, true), (13, true), (14, true), (15, true), (16, true), (17, true), (18, true), (19, true), (20, true), (21, true), (22, true), (23, true), (24, true), (25, true), (26, false), (27, true), (28, true)])]) rfl tbP_ok hC (fun c st K _ h => h) (by kernel_rfl) [] (X := LIx n (mayAt c L))
      (S := fun x => ⟨[.any, .c (.ptr 1 0), .any, .any, .any, .any, .any, .any, .any, .any, .any, .any, .any, .any, .any, .any, .any, .any, .any, .any, .c (.row 0), .c (.int .i64 n), .c (.int .i64 x.i)] ++ List.replicate 33 .any, [.data fr 140 4 n (leafG false L), .cells 72 [.int .i64 c, .row 0]]⟩) (μ := fun x => n - x.i.toNat) ⟨0, by omega, by omega, fun k hk => absurd hk (by omega)⟩ (by kernel_rfl) [0, 1] ?_ ?_
    · refine ⟨rfl, by decide, ?_, ?_⟩ <;> repeat' (first | exact trivial | exact rfl | apply And.intro | exact (fun _ _ _ _ => Cell.le_refl _) | (intro i hi; rfl) | (intro i hi; exact absurd hi (Nat.not_lt_zero _)))
    rintro ⟨i, hi0, hin, hP⟩
    unfold sSized sDeep
    generalize hg0 : (List.length : List UInt8 → Nat) = g0
    generalize hL : lft Try.prog _ = L
    try dsimp only
    try unfold leafG
    generalize ho0 : @lK = zo0, ho1 : @lV = zo1, ho2 : @lI = zo2, ho3 : @lP = zo3, ho4 : @lN = zo4, ho5 : @pG = zo5, ho6 : @leafL = zo6, ho7 : @sizedB = zo7, ho8 : @leavesPre = zo8, ho9 : @mayAt = zo9, ho10 : @mayL = zo10, ho11 : @deep = zo11
    generalize hA : Arith.std = A
    cbv
    subst hA hg0 hL ho0 ho1 ho2 ho3 ho4 ho5 ho6 ho7 ho8 ho9 ho10 ho11
    try replace hc2 : ¬ ((2 : Int) < (@Nat.cast Int instNatCastInt n)) := hc2
    replace hi0 : 0 ≤ i := hi0
    replace hin : i ≤ @Nat.cast Int instNatCastInt n := hin
    replace hP : ∀ k, k < i.toNat → mayAt c L k = true := hP
    refine Ife.mk (fun hlt => ?_) (fun hlt => ?_)
    · replace hlt : i < @Nat.cast Int instNatCastInt n := of_decide_eq_true (p := i < (n : Int)) hlt
      have hiL : i.toNat < L.length := by omega
      refine Need.mk (by show 0 ≤ i ∧ i < (n : Int); omega) fun _ => Need.mk (by show i.toNat < n; omega) fun _ => ?_
      refine Need.mk trivial fun _ => ?_
      refine Ife.mk (fun h => ?_) (fun h => ?_)
      · have h : (sizedB (lK L i.toNat) (lV L i.toNat)) = false := by simpa using (show (!(sizedB (lK L i.toNat) (lV L i.toNat))) = true from h)
        rw [show mayL c L = false from mayL_at hiL fun hh => by have hz := sizedB_iff.2 (mayAt_iff.1 hh).1; rw [h] at hz; cases hz]
        exact ⟨[0], ⟨rfl, by repeat' (first | exact trivial | exact rfl | apply And.intro | exact (fun _ _ _ _ => Cell.le_refl _) | (intro i hi; rfl) | (intro i hi; exact absurd hi (Nat.not_lt_zero _))), by decide, rfl, by repeat' (first | exact trivial | exact rfl | apply And.intro | exact (fun _ _ _ _ => Cell.le_refl _) | (intro i hi; rfl) | (intro i hi; exact absurd hi (Nat.not_lt_zero _)))⟩⟩
      have h : (sizedB (lK L i.toNat) (lV L i.toNat)) = true := by simpa using (show (!(sizedB (lK L i.toNat) (lV L i.toNat))) = false from h)
      replace h := And.intro h trivial
      obtain ⟨hs0, _⟩ := h
      have hsz := sizedB_iff.1 hs0
      refine Ife.mk (fun h => ?_) (fun h => ?_)
      · have h : lI L i.toNat < 0 := of_decide_eq_true (p := lI L i.toNat < 0) h
        rw [show mayL c L = false from mayL_at hiL fun hh => by have hh := mayAt_iff.1 hh; omega]
        exact ⟨[0], ⟨rfl, by repeat' (first | exact trivial | exact rfl | apply And.intro | exact (fun _ _ _ _ => Cell.le_refl _) | (intro i hi; rfl) | (intro i hi; exact absurd hi (Nat.not_lt_zero _))), by decide, rfl, by repeat' (first | exact trivial | exact rfl | apply And.intro | exact (fun _ _ _ _ => Cell.le_refl _) | (intro i hi; rfl) | (intro i hi; exact absurd hi (Nat.not_lt_zero _)))⟩⟩
      have h : ¬ (lI L i.toNat < 0) := of_decide_eq_false (p := lI L i.toNat < 0) h
      replace h := And.intro h trivial
      obtain ⟨hd0, _⟩ := h
      refine Ife.mk (fun h => ?_) (fun h => ?_)
      · have h : c ≤ lI L i.toNat := of_decide_eq_true (p := c ≤ lI L i.toNat) h
        rw [show mayL c L = false from mayL_at hiL fun hh => by have hh := mayAt_iff.1 hh; omega]
        exact ⟨[0], ⟨rfl, by repeat' (first | exact trivial | exact rfl | apply And.intro | exact (fun _ _ _ _ => Cell.le_refl _) | (intro i hi; rfl) | (intro i hi; exact absurd hi (Nat.not_lt_zero _))), by decide, rfl, by repeat' (first | exact trivial | exact rfl | apply And.intro | exact (fun _ _ _ _ => Cell.le_refl _) | (intro i hi; rfl) | (intro i hi; exact absurd hi (Nat.not_lt_zero _)))⟩⟩
      have h : ¬ (c ≤ lI L i.toNat) := of_decide_eq_false (p := c ≤ lI L i.toNat) h
      replace h := And.intro h trivial
      obtain ⟨hd1, _⟩ := h
      refine Need.mk trivial fun _ => ?_
      refine Ife.mk (fun h => ?_) (fun h => ?_)
      · have h : ¬ (((lN L i.toNat : Nat) : Int) = deep c (lI L i.toNat)) := by simpa using (show (!decide (((lN L i.toNat : Nat) : Int) = deep c (lI L i.toNat))) = true from h)
        rw [show mayL c L = false from mayL_at hiL fun hh => by have hh := mayAt_iff.1 hh; omega]
        exact ⟨[0], ⟨rfl, by repeat' (first | exact trivial | exact rfl | apply And.intro | exact (fun _ _ _ _ => Cell.le_refl _) | (intro i hi; rfl) | (intro i hi; exact absurd hi (Nat.not_lt_zero _))), by decide, rfl, by repeat' (first | exact trivial | exact rfl | apply And.intro | exact (fun _ _ _ _ => Cell.le_refl _) | (intro i hi; rfl) | (intro i hi; exact absurd hi (Nat.not_lt_zero _)))⟩⟩
      have h : (((lN L i.toNat : Nat) : Int) = deep c (lI L i.toNat)) := by simpa using (show (!decide (((lN L i.toNat : Nat) : Int) = deep c (lI L i.toNat))) = false from h)
      replace h := And.intro h trivial
      obtain ⟨hd2, _⟩ := h
      refine Need.mk (by show fitStd .i64 (i + 1); unfold fitStd; omega) fun _ => ?_
      refine ⟨⟨i + 1, by omega, by omega, lix_next hi0 hP (mayAt_iff.2 (by omega))⟩, [0, 1], (by show n - (i + 1).toNat < n - i.toNat; omega), ?_⟩
      refine ⟨rfl, by decide, ?_, ?_⟩ <;> repeat' (first | exact trivial | exact rfl | apply And.intro | exact (fun _ _ _ _ => Cell.le_refl _) | (intro i hi; rfl) | (intro i hi; exact absurd hi (Nat.not_lt_zero _)))
    · replace hlt : ¬ i < @Nat.cast Int instNatCastInt n := of_decide_eq_false (p := i < (n : Int)) hlt
      rw [mayL_yes (by omega) hP (by omega)]
      exact ⟨[0], ⟨rfl, by repeat' (first | exact trivial | exact rfl | apply And.intro | exact (fun _ _ _ _ => Cell.le_refl _) | (intro i hi; rfl) | (intro i hi; exact absurd hi (Nat.not_lt_zero _))), by decide, rfl, by repeat' (first | exact trivial | exact rfl | apply And.intro | exact (fun _ _ _ _ => Cell.le_refl _) | (intro i hi; rfl) | (intro i hi; exact absurd hi (Nat.not_lt_zero _)))⟩⟩


end Go.Proofs.Ytcgoaicifjndpaa.Vx
