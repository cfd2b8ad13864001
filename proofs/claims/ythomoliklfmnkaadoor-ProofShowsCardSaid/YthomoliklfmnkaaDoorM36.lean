/- Chapter 7: what the examples fix; light pairs; the document's pairs as the program's: by the walker. -/
import Derived.Test.YthomoliklfmnkaaDoorM35
import Derived.Test.YthomoliklfmnkaaDoorM24
import Derived.Test.YthomoliklfmnkaaDoorM23
import Derived.Test.YthomoliklfmnkaaDoorM11
import Derived.Test.YthomoliklfmnkaaDoorM18
section
namespace Go.Proofs.YthomoliklfmnkaaDoor.Vx
open Sha
open Go.RowKit
set_option linter.unusedVariables false
set_option linter.unusedSimpArgs false
/-- The example's pairs. -/
def pr0 : List PP := [([98], [49]), ([100], [50])]
theorem pr0_good : goodL pr0 = true := by decide
theorem pr0_i : findI pr0 [99] = 1 := by decide
theorem pr0_b : findB pr0 [99] = false := by decide
theorem pr0_mk : mkL pr0 [99] = [mkLeaf pr0 0, mkLeaf pr0 1] := by
  unfold mkL
  rw [if_pos pr0_good, pr0_i, if_neg (by rw [pr0_b]; simp), if_pos (by decide), if_pos (by decide)]
  rfl
theorem pr0_c : mkC pr0 = 2 := by unfold mkC; rw [if_pos pr0_good]; rfl
theorem pr0_way : (wyL pr0 1).length = 1 := by
  have h := wyL_deep (L := pr0) (i := 1) (by decide)
  have h2 : deep (pr0.length : Int) ((1 : Nat) : Int) = 1 := by
    show deep 2 1 = 1
    have e : hf 2 = 1 := hf_pow2 0 (by decide)
    rw [deep_hi (by omega) (by rw [e]; omega), e, deep_out (by omega)]
    rfl
  rw [h2] at h
  omega
def ltPrAt (L : List PP) (i : Nat) : Bool := decide ((prK L i).length ≤ 300) && decide ((prV L i).length ≤ 200)
def ltPrB (L : List PP) : Bool := decide (L.length ≤ 40) && (List.range L.length).all (ltPrAt L)
theorem ltPrAt_iff {L : List PP} {i : Nat} : ltPrAt L i = true ↔ (prK L i).length ≤ 300 ∧ (prV L i).length ≤ 200 := by simp [ltPrAt]
theorem ltPrB_iff {L : List PP} : ltPrB L = true ↔ L.length ≤ 40 ∧ ∀ i, i < L.length → (prK L i).length ≤ 300 ∧ (prV L i).length ≤ 200 := by
  unfold ltPrB
  simp only [Bool.and_eq_true, decide_eq_true_iff, List.all_eq_true, List.mem_range, ltPrAt_iff]
def ltPre (ty one n : Nat) (get : Nat → List CV) : Prop := ty = 46 ∧ one = 2 ∧ PrAt n get
theorem pr_push {L : List PP} {m : Nat} (j : Nat) (hj : j < m + 1) : pushG m (prG L) [.str (prK L m), .str (prV L m)] j = prG L j := by
  unfold pushG
  by_cases h : j < m
  · rw [show Nat.blt j m = true by rw [Nat.blt_eq]; exact h]
  · rw [show Nat.blt j m = false by rw [Bool.eq_false_iff]; intro h2; rw [Nat.blt_eq] at h2; exact h h2]
    obtain rfl : j = m := by omega
    rfl
def tbPf : Tbl where
  T :=
    (3, ⟨1, false, [.int .i64 (0)], .int .i64, 8⟩) ::
    (4, ⟨1, false, [.ff], .bool, 1⟩) ::
    (9, ⟨1, false, [.str []], .str, 16⟩) ::
    (5, ⟨1, false, [.int .u8 (0)], .int .u8, 1⟩) ::
    (46, ⟨2, true, [.str [], .str []], .struct [(0, (1, false)), (1, (1, false))], 32⟩) ::
    (22, ⟨1, false, [.val (.slice none 0 0)], .slice 46, 24⟩) ::
    (63, ⟨2, true, [.str [], .str []], .struct [(0, (1, false)), (1, (1, false))], 32⟩) ::
    (31, ⟨1, false, [.val (.slice none 0 0)], .slice 63, 24⟩) ::
    (115, ⟨4, true, [.str [], .str [], .int .i64 (0), .val (.slice none 0 0)], .struct [(0, (1, false)), (1, (1, false)), (2, (1, false)), (3, (1, false))], 64⟩) ::
    (25, ⟨1, false, [.val (.slice none 0 0)], .slice 115, 24⟩) ::
    (27, ⟨2, true, [.int .i64 (0), .val (.slice none 0 0)], .struct [(0, (1, false)), (1, (1, false))], 32⟩) ::
    (24, ⟨32, true, [.int .u8 (0), .int .u8 (0), .int .u8 (0), .int .u8 (0), .int .u8 (0), .int .u8 (0), .int .u8 (0), .int .u8 (0), .int .u8 (0), .int .u8 (0), .int .u8 (0), .int .u8 (0), .int .u8 (0), .int .u8 (0), .int .u8 (0), .int .u8 (0), .int .u8 (0), .int .u8 (0), .int .u8 (0), .int .u8 (0), .int .u8 (0), .int .u8 (0), .int .u8 (0), .int .u8 (0), .int .u8 (0), .int .u8 (0), .int .u8 (0), .int .u8 (0), .int .u8 (0), .int .u8 (0), .int .u8 (0), .int .u8 (0)], .array 32 5, 32⟩) ::
    (113, ⟨1, false, [.val (.slice none 0 0)], .slice 24, 24⟩) ::
    []
  F :=
    (24, [0, 0, 0, 0, 0, 0, 0, 0, 0, 0, 0, 0, 0, 0, 0, 0, 0, 0, 0, 0, 0, 0, 0, 0, 0, 0, 0, 0, 0, 0, 0, 0]) ::
    []

theorem tbPf_ok : tbPf.Ok Tryd.prog where
  T :=
    TblOk.cons (by kernel_rfl) <|
    TblOk.cons (by kernel_rfl) <|
    TblOk.cons (by kernel_rfl) <|
    TblOk.cons (by kernel_rfl) <|
    TblOk.cons (by kernel_rfl) <|
    TblOk.cons (by kernel_rfl) <|
    TblOk.cons (by kernel_rfl) <|
    TblOk.cons (by kernel_rfl) <|
    TblOk.cons (by kernel_rfl) <|
    TblOk.cons (by kernel_rfl) <|
    TblOk.cons (by kernel_rfl) <|
    TblOk.cons (by kernel_rfl) <|
    TblOk.cons (by kernel_rfl) <|
    TblOk.nil _
  F :=
    FlatsOk.cons (FlatOk.of (D := .array 32 5) 6 (by decide) (by kernel_rfl) (by kernel_rfl) rfl (by kernel_rfl)) <|
    FlatsOk.nil _

def sFirst7 : SpecF
  | [], [.glob gg sz0 n0 get0] => some (KsAt gg sz0 n0 get0, .c .tt, [.dead])
  | _, _ => none

set_option maxRecDepth 100000 in
set_option maxHeartbeats 4000000 in
theorem first7P : Fn Tryd.prog 13 [0] [] sFirst7 := by
  have hC : CtsOk Tryd.prog [(22, appFn [0] [(63, 2)] sMake)] := CtsOk.cons (Fn.ct makeP) <| CtsOk.nil _
  refine Fn.of (E := tbPf) [0] 0 [] tbPf_ok hC (by kernel_rfl) Tryd.func13 rfl rfl rfl (by kernel_rfl) (by kernel_rfl) 1 5 1 ?_ ?_
  · intro args h pre r h' hs
    unfold sFirst7 at hs
    split at hs
    · cases hs; exact ⟨rfl, rfl, Nat.le_of_ble_eq_true rfl⟩
    · cases hs
  · intro args h pre r h' hs hp
    unfold sFirst7 at hs
    split at hs
    rotate_left
    · cases hs
    rename_i gg sz0 n0 get0
    cases hs
    have hK := hp
    refine ⟨[.glob 0 1 64 (fun i => [.int .u32 (kOf i)])], ⟨hK.same.1, trivial⟩, ?_⟩
    clear hK
    unfold sMake
    try unfold leafG
    generalize ho0 : @prL = zo0, ho1 : @KsAt = zo1, ho2 : @kOf = zo2, ho3 : @lK = zo3, ho4 : @lV = zo4, ho5 : @lI = zo5, ho6 : @lP = zo6, ho7 : @lN = zo7, ho8 : @pG = zo8, ho9 : @mkLeaf = zo9, ho10 : @mkL = zo10, ho11 : @mkC = zo11, ho12 : @mkPre = zo12, ho13 : @lenL = zo13, ho14 : @pr0 = zo14
    generalize hA : Arith.std = A
    cbv
    subst hA ho0 ho1 ho2 ho3 ho4 ho5 ho6 ho7 ho8 ho9 ho10 ho11 ho12 ho13 ho14
    have eP : prL 2 (cutC 2 [.str [98], .str [49], .str [100], .str [50]] 0) = pr0 := rfl
    refine Need.mk ⟨ksAt_self, rfl, rfl, fun i hi => ?pr, by decide⟩ fun _ => ?_
    case pr =>
      rcases (show i = 0 ∨ i = 1 by omega) with rfl | rfl
      · exact ⟨_, _, rfl⟩
      · exact ⟨_, _, rfl⟩
    simp only [eP, pr0_c, pr0_mk]
    have e2 : lenL [mkLeaf pr0 0, mkLeaf pr0 1] = 2 := rfl
    have e3 : lK [mkLeaf pr0 0, mkLeaf pr0 1] 0 = [98] := rfl
    have e4 : lI [mkLeaf pr0 0, mkLeaf pr0 1] 1 = 1 := rfl
    have e5 : lN [mkLeaf pr0 0, mkLeaf pr0 1] 1 = 1 := pr0_way
    simp only [e2, Arith.std, Int.ofNat_eq_natCast, Int.toNat_natCast]
    refine Ife.mk (fun _ => ?_) (fun h => absurd h (by simp))
    refine Ife.mk (fun _ => ?_) (fun h => absurd h (by simp))
    refine Need.mk (by show (0 : Int) ≤ 0 ∧ (0 : Int) < 2; omega) fun _ => Need.mk (by show (0 : Int).toNat < 2; decide) fun _ => ?_
    refine Ife.mk (fun _ => ?_) (fun h => absurd h (by show ¬ decide (lK [mkLeaf pr0 0, mkLeaf pr0 1] 0 = [98]) = false; rw [e3]; simp))
    refine Need.mk (by show (0 : Int) ≤ 1 ∧ (1 : Int) < 2; omega) fun _ => Need.mk (by show (1 : Int).toNat < 2; decide) fun _ => ?_
    refine Ife.mk (fun _ => ?_) (fun h => absurd h (by show ¬ decide (lI [mkLeaf pr0 0, mkLeaf pr0 1] 1 = 1) = false; rw [e4]; simp))
    refine Need.mk (by show (0 : Int) ≤ 1 ∧ (1 : Int) < 2; omega) fun _ => Need.mk (by show (1 : Int).toNat < 2; decide) fun _ => ?_
    have hT : decide ((lN [mkLeaf pr0 0, mkLeaf pr0 1] 1 : Int) = 1) = true := by rw [e5]; rfl
    exact ⟨[0], ⟨rfl, (by repeat' (first | exact trivial | exact hT | exact rfl | apply And.intro)), (by decide), rfl, by repeat' (first | exact trivial | exact rfl | apply And.intro | exact (fun _ _ _ _ => Cell.le_refl _) | (intro i hi; rfl) | (intro i hi; exact absurd hi (Nat.not_lt_zero _)))⟩⟩

def sLtPr : SpecF
  | [.c (.row 0)], [.elems ty one n get] => some (ltPre ty one n get, .c (.bool (ltPrB (prL n get))), [.dead])
  | _, _ => none

set_option maxRecDepth 100000 in
set_option maxHeartbeats 4000000 in
theorem ltPrP : Fn Tryd.prog 14 [] [(46, 2)] sLtPr := by
  have hC : CtsOk Tryd.prog [] := CtsOk.nil _
  refine Fn.of (E := tbPf) [] 0 [] tbPf_ok hC (by kernel_rfl) Tryd.func14 rfl rfl rfl (by kernel_rfl) (by kernel_rfl) 1 5 1 ?_ ?_
  · intro args h pre r h' hs
    unfold sLtPr at hs
    split at hs
    · cases hs; exact ⟨rfl, rfl, Nat.le_of_ble_eq_true rfl⟩
    · cases hs
  · intro args h pre r h' hs hp
    unfold sLtPr at hs
    split at hs
    rotate_left
    · cases hs
    rename_i ty one n get
    cases hs
    obtain ⟨rfl, rfl, hst⟩ := hp
    refine ⟨[.elems 46 2 n (prG (prL n get))], ⟨⟨rfl, rfl, rfl, fun i hi => hst.eq hi⟩, trivial⟩, ?_⟩
    have hL : (prL n get).length = n := prL_len
    generalize prL n get = L at hL ⊢
    generalize hg0 : (List.length : List UInt8 → Nat) = g0
    generalize hL : lft Tryd.prog _ = L
    try unfold prG
    generalize ho0 : @prK = zo0, ho1 : @prV = zo1, ho2 : @prL = zo2, ho3 : @ltPrAt = zo3, ho4 : @ltPrB = zo4, ho5 : @ltPre = zo5
    generalize hA : Arith.std = A
    cbv
    subst hA hg0 hL ho0 ho1 ho2 ho3 ho4 ho5
    refine Ife.mk (fun h => ?_) (fun h => ?_)
    · have h : (40 : Int) < (@Nat.cast Int instNatCastInt n) := of_decide_eq_true (p := (40 : Int) < (n : Int)) h
      rw [show ltPrB L = false by unfold ltPrB; rw [decide_eq_false (by omega)]; rfl]
      exact ⟨[0], ⟨rfl, by repeat' (first | exact trivial | exact rfl | apply And.intro | exact (fun _ _ _ _ => Cell.le_refl _) | (intro i hi; rfl) | (intro i hi; exact absurd hi (Nat.not_lt_zero _))), by decide, rfl, by repeat' (first | exact trivial | exact rfl | apply And.intro | exact (fun _ _ _ _ => Cell.le_refl _) | (intro i hi; rfl) | (intro i hi; exact absurd hi (Nat.not_lt_zero _)))⟩⟩
    have h : ¬ ((40 : Int) < (@Nat.cast Int instNatCastInt n)) := of_decide_eq_false (p := (40 : Int) < (n : Int)) h
    replace h := And.intro h trivial
    obtain ⟨hc0, _⟩ := h
    show Runs Tryd.prog 1 (.loop _) _ _
    refine loop_ruleR (N := env (lft Tryd.prog 1) 0 .std tbPf [] []) rfl tbPf_ok hC (fun c st K _ h => h) (by kernel_rfl) [] (X := LIx n (ltPrAt L))
      (S := fun x => ⟨[.c (.row 0), .any, .any, .c (.int .i64 x.i)] ++ List.replicate 25 .any, [.elems 46 2 n (prG L)]⟩) (μ := fun x => n - x.i.toNat) ⟨0, by omega, by omega, fun k hk => absurd hk (by omega)⟩ (by kernel_rfl) [0] ?_ ?_
    · refine ⟨rfl, by decide, ?_, ?_⟩ <;> repeat' (first | exact trivial | exact rfl | apply And.intro | exact (fun _ _ _ _ => Cell.le_refl _) | (intro i hi; rfl) | (intro i hi; exact absurd hi (Nat.not_lt_zero _)))
    rintro ⟨i, hi0, hin, hP⟩
    generalize hg0 : (List.length : List UInt8 → Nat) = g0
    generalize hL : lft Tryd.prog _ = L
    try dsimp only
    try unfold prG
    generalize ho0 : @prK = zo0, ho1 : @prV = zo1, ho2 : @prL = zo2, ho3 : @ltPrAt = zo3, ho4 : @ltPrB = zo4, ho5 : @ltPre = zo5
    generalize hA : Arith.std = A
    cbv
    subst hA hg0 hL ho0 ho1 ho2 ho3 ho4 ho5
    try replace hc0 : ¬ ((40 : Int) < (@Nat.cast Int instNatCastInt n)) := hc0
    replace hi0 : 0 ≤ i := hi0
    replace hin : i ≤ @Nat.cast Int instNatCastInt n := hin
    replace hP : ∀ k, k < i.toNat → ltPrAt L k = true := hP
    refine Ife.mk (fun hlt => ?_) (fun hlt => ?_)
    · replace hlt : i < @Nat.cast Int instNatCastInt n := of_decide_eq_true (p := i < (n : Int)) hlt
      have hiL : i.toNat < L.length := by omega
      have no : ¬ ltPrAt L i.toNat = true → ltPrB L = false := fun h => by unfold ltPrB; rw [all_no hiL h, Bool.and_false]
      refine Need.mk (by show 0 ≤ i ∧ i < (n : Int); omega) fun _ => Need.mk (by show i.toNat < n; omega) fun _ => ?_
      refine Ife.mk (fun h => ?_) (fun h => ?_)
      · have h : (300 : Int) < ((prK L i.toNat).length : Int) := of_decide_eq_true (p := (300 : Int) < ((prK L i.toNat).length : Int)) h
        rw [no fun hh => by have hh := ltPrAt_iff.1 hh; omega]
        exact ⟨[0], ⟨rfl, by repeat' (first | exact trivial | exact rfl | apply And.intro | exact (fun _ _ _ _ => Cell.le_refl _) | (intro i hi; rfl) | (intro i hi; exact absurd hi (Nat.not_lt_zero _))), by decide, rfl, by repeat' (first | exact trivial | exact rfl | apply And.intro | exact (fun _ _ _ _ => Cell.le_refl _) | (intro i hi; rfl) | (intro i hi; exact absurd hi (Nat.not_lt_zero _)))⟩⟩
      have h1 : ¬ (300 : Int) < ((prK L i.toNat).length : Int) := of_decide_eq_false (p := (300 : Int) < ((prK L i.toNat).length : Int)) h
      refine Need.mk (by show 0 ≤ i ∧ i < (n : Int); omega) fun _ => Need.mk (by show i.toNat < n; omega) fun _ => ?_
      refine Ife.mk (fun h => ?_) (fun h => ?_)
      · have h : (200 : Int) < ((prV L i.toNat).length : Int) := of_decide_eq_true (p := (200 : Int) < ((prV L i.toNat).length : Int)) h
        rw [no fun hh => by have hh := ltPrAt_iff.1 hh; omega]
        exact ⟨[0], ⟨rfl, by repeat' (first | exact trivial | exact rfl | apply And.intro | exact (fun _ _ _ _ => Cell.le_refl _) | (intro i hi; rfl) | (intro i hi; exact absurd hi (Nat.not_lt_zero _))), by decide, rfl, by repeat' (first | exact trivial | exact rfl | apply And.intro | exact (fun _ _ _ _ => Cell.le_refl _) | (intro i hi; rfl) | (intro i hi; exact absurd hi (Nat.not_lt_zero _)))⟩⟩
      have h2 : ¬ (200 : Int) < ((prV L i.toNat).length : Int) := of_decide_eq_false (p := (200 : Int) < ((prV L i.toNat).length : Int)) h
      refine Need.mk (by show fitStd .i64 (i + 1); unfold fitStd; omega) fun _ => ?_
      refine ⟨⟨i + 1, by omega, by omega, lix_next hi0 hP (ltPrAt_iff.2 (by omega))⟩, [0], (by show n - (i + 1).toNat < n - i.toNat; omega), ?_⟩
      refine ⟨rfl, by decide, ?_, ?_⟩ <;> repeat' (first | exact trivial | exact rfl | apply And.intro | exact (fun _ _ _ _ => Cell.le_refl _) | (intro i hi; rfl) | (intro i hi; exact absurd hi (Nat.not_lt_zero _)))
    · replace hlt : ¬ i < @Nat.cast Int instNatCastInt n := of_decide_eq_false (p := i < (n : Int)) hlt
      rw [show ltPrB L = true by unfold ltPrB; rw [all_yes hP (by omega), decide_eq_true (by omega)]; rfl]
      exact ⟨[0], ⟨rfl, by repeat' (first | exact trivial | exact rfl | apply And.intro | exact (fun _ _ _ _ => Cell.le_refl _) | (intro i hi; rfl) | (intro i hi; exact absurd hi (Nat.not_lt_zero _))), by decide, rfl, by repeat' (first | exact trivial | exact rfl | apply And.intro | exact (fun _ _ _ _ => Cell.le_refl _) | (intro i hi; rfl) | (intro i hi; exact absurd hi (Nat.not_lt_zero _)))⟩⟩

def sOwn : SpecF
  | [.c (.row 0)], [.elems ty one n get] => some (prPreR ty one n get, .c (.row 1), [.dead, .row 63 2 n (prG (prL n get))])
  | _, _ => none

set_option maxRecDepth 100000 in
set_option maxHeartbeats 8000000 in
theorem ownPrP : Fn Tryd.prog 16 [] [(46, 2)] sOwn := by
  have hC : CtsOk Tryd.prog [] := CtsOk.nil _
  refine Fn.of (E := tbPf) [] 0 [(5, [(2001, false), (0, true), (1, true), (2, true), (3, true), (4, true), (5, true), (6, true), (7, true), (8, true), (9, true), (10, true), (11, true), (12, false), (13, false), (14, true)])] tbPf_ok hC (by kernel_rfl) Tryd.func16 rfl rfl rfl (by kernel_rfl) (by kernel_rfl) 1 63 2 ?_ ?_
  · intro args h pre r h' hs
    unfold sOwn at hs
    split at hs
    · cases hs; exact ⟨rfl, rfl, Nat.le_of_ble_eq_true rfl⟩
    · cases hs
  · intro args h pre r h' hs hp
    unfold sOwn at hs
    split at hs
    rotate_left
    · cases hs
    rename_i ty one n get
    cases hs
    obtain ⟨rfl, rfl, hst, hm⟩ := hp
    refine ⟨[.elems 46 2 n (prG (prL n get))], ⟨⟨rfl, rfl, rfl, fun i hi => hst.eq hi⟩, trivial⟩, ?_⟩
    have hL : (prL n get).length = n := prL_len
    have ePR : prL n (prG (prL n get)) = prL n get := by
      have := prL_prG (prL n get)
      rwa [hL] at this
    generalize prL n get = L at hL ePR ⊢
    generalize hg0 : (List.length : List PP → Nat) = g0
    generalize hL : lft Tryd.prog _ = L
    try unfold prG
    generalize ho0 : @prK = zo0, ho1 : @prV = zo1, ho2 : @prL = zo2, ho3 : @prPreR = zo3
    generalize hA : Arith.std = A
    cbv
    subst hA hg0 hL ho0 ho1 ho2 ho3
    refine Runs.nilTmp 3 63 2 (prG L) rfl ?_
    show Runs Tryd.prog 1 (.loop _) _ _
    refine loop_ruleR (N := env (lft Tryd.prog 1) 0 .std tbPf [] [(5, [(2001, false), (0, true), (1, true), (2, true), (3, true), (4, true), (5, true), (6, true), (7, true), (8, true), (9, true), (10, true), (11, true), (12, false), (13, false), (14, true)])]) rfl tbPf_ok hC (fun c st K _ h => h) (by kernel_rfl) [] (X := LSm n)
      (S := fun x => ⟨[.c (.row 0), .any, .any, .c (.row 1), .c (.int .i64 (x.j : Int))] ++ List.replicate 21 .any, [.elems 46 2 n (prG L), .row 63 2 x.j (prG L)]⟩) (μ := fun x => n - x.j) ⟨0, Nat.zero_le _⟩ (by kernel_rfl) [0, 1] ?_ ?_
    · refine ⟨rfl, by decide, ?_, ?_⟩ <;> repeat' (first | exact trivial | exact rfl | apply And.intro | exact (fun _ _ _ _ => Cell.le_refl _) | (intro i hi; rfl) | (intro i hi; exact absurd hi (Nat.not_lt_zero _)))
    rintro ⟨j, hjn⟩
    generalize hg0 : (List.length : List PP → Nat) = g0
    generalize hL : lft Tryd.prog _ = L
    try dsimp only
    try unfold prG
    generalize ho0 : @prK = zo0, ho1 : @prV = zo1, ho2 : @prL = zo2, ho3 : @prPreR = zo3
    generalize hA : Arith.std = A
    cbv
    subst hA hg0 hL ho0 ho1 ho2 ho3
    refine Ife.mk (fun h => ?_) (fun h => ?_)
    · have h : (j : Int) < (@Nat.cast Int instNatCastInt n) := of_decide_eq_true (p := (j : Int) < (n : Int)) h
      have hj2 : j < n := Int.ofNat_lt.mp h
      refine Need.mk (by show 0 ≤ (j : Int) ∧ (j : Int) < (n : Int); omega) fun _ => Need.mk (by show (j : Int).toNat < n; omega) fun _ => Need.mk (by show 0 ≤ (j : Int) ∧ (j : Int) < (n : Int); omega) fun _ => Need.mk (by show (j : Int).toNat < n; omega) fun _ => ?_
      refine Need.mk (by show j + 1 ≤ maxLen ∧ (j + 1) * 32 ≤ 140737488355328; unfold maxLen; omega) fun _ => Need.mk (by show fitStd .i64 ((j : Int) + 1); unfold fitStd; omega) fun _ => ?_
      have hp := pr_push (L := L) (m := j)
      refine ⟨⟨j + 1, by omega⟩, [0, 3], (by show n - (j + 1) < n - j; omega), ?_⟩
      refine ⟨rfl, (by decide), ?_, ?_⟩ <;> repeat' (first | exact trivial | exact hp | exact ej | exact rfl | apply And.intro | exact (fun _ _ _ _ => Cell.le_refl _) | (intro i hi; rfl) | (intro i hi; exact absurd hi (Nat.not_lt_zero _)))
    · have h : ¬ (j : Int) < (@Nat.cast Int instNatCastInt n) := of_decide_eq_false (p := (j : Int) < (n : Int)) h
      have ej : j = n := by have : ¬ j < n := fun q => h (Int.ofNat_lt.mpr q)
                            omega
      exact ⟨[0, 1], ⟨rfl, (by repeat' (first | exact trivial | exact hp | exact ej | exact rfl | apply And.intro | exact (fun _ _ _ _ => Cell.le_refl _) | (intro i hi; rfl) | (intro i hi; exact absurd hi (Nat.not_lt_zero _)))), (by show List.Nodup [1]; decide), rfl, by repeat' (first | exact trivial | exact hp | exact ej | exact rfl | apply And.intro | exact (fun _ _ _ _ => Cell.le_refl _) | (intro i hi; rfl) | (intro i hi; exact absurd hi (Nat.not_lt_zero _)))⟩⟩

end Go.Proofs.YthomoliklfmnkaaDoor.Vx
end

section
/- Acts on a store, by the walker: Few; and the store's Prove. -/
namespace Go.Proofs.YthomoliklfmnkaaDoor.Vx
open Sha
open Go.RowKit
set_option linter.unusedVariables false
set_option linter.unusedSimpArgs false






end Go.Proofs.YthomoliklfmnkaaDoor.Vx
end

section
/- StoreProves, by the walker. -/
namespace Go.Proofs.YthomoliklfmnkaaDoor.Vx
open Sha
open Go.RowKit
set_option linter.unusedVariables false
set_option linter.unusedSimpArgs false
theorem rootL_range (R : List PP) (j : Nat) : 0 ≤ rootL R j ∧ rootL R j < 256 := by
  unfold rootL rootF
  split
  · exact ⟨Int.le_refl 0, (by decide : (0 : Int) < 256)⟩
  · exact sumI_range _ j
theorem val_own {R : List PP} {k : List UInt8} (hs : StS R) (hz : AllSz R) (h40 : R.length ≤ 40) : valB (hOf (hashC (rootL R))) (mkC R) (mkL R k) k = findB R k ∧ valV (hOf (hashC (rootL R))) (mkC R) (mkL R k) k = getL R k ∧ lackB (hOf (hashC (rootL R))) (mkC R) (mkL R k) k = !findB R k := by
  have hg : goodL R = true := goodL_iff.2 ⟨hs, hz⟩
  have eC : mkC R = (R.length : Int) := by unfold mkC; rw [if_pos hg]
  rw [eC]
  exact ⟨valB_mk hg h40, valV_mk hg h40, lackB_mk hg h40⟩




end Go.Proofs.YthomoliklfmnkaaDoor.Vx
end

section
/- ProofShows, by the walker. -/
namespace Go.Proofs.YthomoliklfmnkaaDoor.Vx
open Sha
open Go.RowKit
set_option linter.unusedVariables false
set_option linter.unusedSimpArgs false
/-- Is the key among the first pairs? -/
def amongB (L : List PP) (i : Nat) (k : List UInt8) : Bool := (List.range i).any fun j => decide (prK L j = k)
theorem among_next {L : List PP} {i : Nat} {k : List UInt8} : amongB L (i + 1) k = (amongB L i k || decide (prK L i = k)) := by
  unfold amongB
  rw [List.range_succ, List.any_append]
  simp
theorem among_all {L : List PP} {k : List UInt8} (hs : StS L) : amongB L L.length k = findB L k := by
  rw [Bool.eq_iff_iff]
  unfold amongB
  rw [List.any_eq_true]
  constructor
  · rintro ⟨j, hj, h⟩
    have hj := List.mem_range.1 hj
    have h := of_decide_eq_true h
    have := (mem_findB hs (List.getElem_mem hj)).1
    rwa [← prK_eq hj, h] at this
  · intro h
    obtain ⟨h1, h2⟩ := findB_eq h
    exact ⟨findI L k, List.mem_range.2 h1, decide_eq_true h2⟩
theorem find_at {L : List PP} (hs : StS L) {i : Nat} (hi : i < L.length) : findB L (prK L i) = true ∧ getL L (prK L i) = prV L i := by
  have h := mem_findB hs (List.getElem_mem hi)
  rw [← prK_eq hi] at h
  refine ⟨h.1, ?_⟩
  unfold getL
  rw [if_pos h.1]
  have e : findI L (prK L i) = i := findI_uniq hs (by omega) (fun j hj => hs.at hj hi) fun j h1 h2 => by
    rcases Nat.eq_or_lt_of_le h1 with h3 | h3
    · subst h3; exact lt_irr _
    · exact lt_asym (hs.at h3 h2)
  rw [e]
structure LSh (L : List PP) (k : List UInt8) (n : Nat) where
  i : Nat
  h1 : i ≤ n
def sShows : SpecF
  | [.c (.row 1), .c (.str key)], [.glob gg sz0 n0 get0, .elems ty one n get] => some (orderPre gg sz0 n0 get0 ty one n get, .c .tt, [.dead, .dead])
  | _, _ => none

set_option maxRecDepth 100000 in
set_option maxHeartbeats 32000000 in
theorem proofShowsP : Fn Tryd.prog 4 [0] [(46, 2)] sShows := by
  have hC : CtsOk Tryd.prog [(13, appFn [0] [] sFirst7), (30, appFn [] [(46, 2)] sRise), (14, appFn [] [(46, 2)] sLtPr), (16, appFn [] [(46, 2)] sOwn), (19, appFn [0] [(63, 2)] sPRoot), (22, appFn [0] [(63, 2)] sMake), (24, appFn [0] [(115, 204)] sVal), (26, appFn [0] [(115, 204)] sHas), (28, appFn [0] [(115, 204)] sLacks), (31, appFn [] [(115, 204)] sMayPr)] := CtsOk.cons (Fn.ct first7P) <| CtsOk.cons (Fn.ct riseP) <| CtsOk.cons (Fn.ct ltPrP) <| CtsOk.cons (Fn.ct ownPrP) <| CtsOk.cons (Fn.ct pRootP) <| CtsOk.cons (Fn.ct makeP) <| CtsOk.cons (Fn.ct valPrP) <| CtsOk.cons (Fn.ct hasPrP) <| CtsOk.cons (Fn.ct lacksPrP) <| CtsOk.cons (Fn.ct mayPrP) <| CtsOk.nil _
  refine Fn.of (E := tbPf) [0] 0 [(13, [(0, true), (1, true), (2, true), (3, true), (4, true), (5, true), (6, true), (7, false), (8, true), (9, true), (10, true), (11, true), (12, true)]), (14, [(0, true), (1, true), (2, true), (3, true), (4, true), (5, true), (6, true), (7, true), (8, true), (9, true), (10, true), (11, true), (12, true), (13, true), (14, true), (15, true), (16, true), (17, true), (18, true), (19, true), (20, false), (21, true), (22, true), (23, true), (24, true), (25, true), (26, true), (27, true), (28, true), (29, true), (30, true), (31, true), (32, true), (33, false), (34, true), (35, true), (36, true), (37, true), (38, true), (39, true), (40, true), (41, true), (42, true), (43, false), (44, true), (45, true), (46, true), (47, false), (48, true), (49, true)])] tbPf_ok hC (by kernel_rfl) Tryd.func4 rfl rfl rfl (by kernel_rfl) (by kernel_rfl) 2 5 1 ?_ ?_
  · intro args h pre r h' hs
    unfold sShows at hs
    split at hs
    · cases hs; exact ⟨rfl, rfl, Nat.le_of_ble_eq_true rfl⟩
    · cases hs
  · intro args h pre r h' hs hp
    unfold sShows at hs
    split at hs
    rotate_left
    · cases hs
    rename_i key gg sz0 n0 get0 ty one n get
    cases hs
    obtain ⟨hK, rfl, rfl, hst⟩ := hp
    refine ⟨[.glob 0 1 64 (fun i => [.int .u32 (kOf i)]), .elems 46 2 n (prG (prL n get))], ⟨hK.same.1, ⟨rfl, rfl, rfl, fun i hi => hst.eq hi⟩, trivial⟩, ?_⟩
    clear hK
    have hL : (prL n get).length = n := prL_len
    generalize prL n get = L at hL ⊢
    unfold sFirst7 sRise sLtPr sOwn sPRoot
    generalize hg0 : (List.length : List PP → Nat) = g0
    generalize hg1 : (List.length : List UInt8 → Nat) = g1
    generalize hL : lft Tryd.prog _ = L
    try unfold prG
    try unfold leafG
    generalize ho0 : @prK = zo0, ho1 : @prV = zo1, ho2 : @prL = zo2, ho3 : @ltB = zo3, ho4 : @findB = zo4, ho5 : @szB = zo5, ho6 : @getL = zo6, ho7 : @prPre = zo7, ho8 : @goodL = zo8, ho9 : @prPreR = zo9, ho10 : @riseL = zo10, ho11 : @KsAt = zo11, ho12 : @hOf = zo12, ho13 : @kOf = zo13, ho14 : @rootL = zo14, ho15 : @sumsPre = zo15, ho16 : @lK = zo16, ho17 : @lV = zo17, ho18 : @lI = zo18, ho19 : @lP = zo19, ho20 : @lN = zo20, ho21 : @pG = zo21, ho22 : @leafL = zo22, ho23 : @leavesPre = zo23, ho24 : @mayL = zo24, ho25 : @mkL = zo25, ho26 : @mkC = zo26, ho27 : @mkPre = zo27, ho28 : @lenL = zo28, ho29 : @valB = zo29, ho30 : @valV = zo30, ho31 : @lackB = zo31, ho32 : @vlPre = zo32, ho33 : @ltPrB = zo33, ho34 : @ltPre = zo34, ho35 : @orderPre = zo35, ho36 : @amongB = zo36
    generalize hA : Arith.std = A
    cbv
    subst hA hg0 hg1 hL ho0 ho1 ho2 ho3 ho4 ho5 ho6 ho7 ho8 ho9 ho10 ho11 ho12 ho13 ho14 ho15 ho16 ho17 ho18 ho19 ho20 ho21 ho22 ho23 ho24 ho25 ho26 ho27 ho28 ho29 ho30 ho31 ho32 ho33 ho34 ho35 ho36
    have hmn : ((min (n : Int) 41) - 0).toNat ≤ 41 := by omega
    refine Need.mk ksAt_self fun _ => Need.mk (by show (0 : Int) ≤ 0 ∧ (0 : Int) ≤ min (n : Int) 41 ∧ min (n : Int) 41 ≤ (n : Int); omega) fun _ => ?_
    refine Need.mk ⟨rfl, rfl, fun i hi => ⟨_, _, rfl⟩, (by show ((min (n : Int) 41) - 0).toNat ≤ 1000000; omega)⟩ fun _ => ?_
    simp only [Arith.std, Int.ofNat_eq_natCast, Int.toNat_natCast, prL_prG]
    generalize hR : riseL (prL _ _) = R
    have hRs : StS R := hR ▸ rise_s
    have hRz : AllSz R := hR ▸ rise_sz
    obtain ⟨N, hN⟩ : ∃ N, R.length = N := ⟨_, rfl⟩
    have hg : goodL R = true := goodL_iff.2 ⟨hRs, hRz⟩
    refine Need.mk ⟨rfl, rfl, prAt_prG _ R⟩ fun _ => ?_
    refine Ife.mk (fun h => ?_) (fun h => ?_)
    · refine Need.mk ksAt_self fun _ => ?_
      exact ⟨[0, 1], ⟨rfl, (by repeat' (first | exact trivial | exact hR1 | exact hR2 | exact hR3 | exact hR4 | exact hA1 | exact hA2 | exact hB1 | exact hB2 | exact rfl | apply And.intro | exact (fun _ _ _ _ => Cell.le_refl _) | (intro i hi; rfl) | (intro i hi; exact absurd hi (Nat.not_lt_zero _)))), (by show List.Nodup []; exact List.nodup_nil), rfl, by repeat' (first | exact trivial | exact hR1 | exact hR2 | exact hR3 | exact hR4 | exact hA1 | exact hA2 | exact hB1 | exact hB2 | exact rfl | apply And.intro | exact (fun _ _ _ _ => Cell.le_refl _) | (intro i hi; rfl) | (intro i hi; exact absurd hi (Nat.not_lt_zero _)))⟩⟩
    have hlt : ltPrB R = true := by simpa using h
    clear h
    obtain ⟨hR40, _⟩ := ltPrB_iff.1 hlt
    have hPR : prPre 63 2 R.length (prG R) := ⟨rfl, rfl, prAt_prG _ R, by omega⟩
    have hPRR : prPreR 46 2 R.length (prG R) := ⟨rfl, rfl, prAt_prG _ R, by omega⟩
    have hPRN : prPre 63 2 N (prG R) := ⟨rfl, rfl, prAt_prG _ R, by omega⟩
    refine Ife.mk (fun h => ?_) (fun c1 => ?_)
    · refine Need.mk ksAt_self fun _ => ?_
      exact ⟨[0, 1], ⟨rfl, (by repeat' (first | exact trivial | exact hR1 | exact hR2 | exact hR3 | exact hR4 | exact hA1 | exact hA2 | exact hB1 | exact hB2 | exact rfl | apply And.intro | exact (fun _ _ _ _ => Cell.le_refl _) | (intro i hi; rfl) | (intro i hi; exact absurd hi (Nat.not_lt_zero _)))), (by show List.Nodup []; exact List.nodup_nil), rfl, by repeat' (first | exact trivial | exact hR1 | exact hR2 | exact hR3 | exact hR4 | exact hA1 | exact hA2 | exact hB1 | exact hB2 | exact rfl | apply And.intro | exact (fun _ _ _ _ => Cell.le_refl _) | (intro i hi; rfl) | (intro i hi; exact absurd hi (Nat.not_lt_zero _)))⟩⟩
    refine Ife.mk (fun h => ?_) (fun c2 => ?_)
    · refine Need.mk ksAt_self fun _ => ?_
      exact ⟨[0, 1], ⟨rfl, (by repeat' (first | exact trivial | exact hR1 | exact hR2 | exact hR3 | exact hR4 | exact hA1 | exact hA2 | exact hB1 | exact hB2 | exact rfl | apply And.intro | exact (fun _ _ _ _ => Cell.le_refl _) | (intro i hi; rfl) | (intro i hi; exact absurd hi (Nat.not_lt_zero _)))), (by show List.Nodup []; exact List.nodup_nil), rfl, by repeat' (first | exact trivial | exact hR1 | exact hR2 | exact hR3 | exact hR4 | exact hA1 | exact hA2 | exact hB1 | exact hB2 | exact rfl | apply And.intro | exact (fun _ _ _ _ => Cell.le_refl _) | (intro i hi; rfl) | (intro i hi; exact absurd hi (Nat.not_lt_zero _)))⟩⟩
    refine Need.mk hPRR fun _ => Need.mk ⟨ksAt_self, hPR, by rw [prL_prG]; exact hRz⟩ fun _ => ?_
    have hA2 : R.length = N := hN
    have eN : prL N (prG R) = R := by rw [← hN]; exact prL_prG R
    have hok : ∀ k, ∀ x ∈ mkL R k, x.ok := fun k => mkL_ok (by omega)
    have hkl := fun k => mkL_len (L := R) (k := k)
    have eD : ∀ k, leafL (lenL (mkL R k)) (fun i j => (leafG true (mkL R k) i j).old) = mkL R k := fun k => leaves_old (hok k)
    have q3 : ∀ k, leavesPre 115 4 (lenL (mkL R k)) (fun i j => (leafG true (mkL R k) i j).old) := fun k => leavesPre_old (hok k) (by have := hkl k; omega)
    have hPv : ∀ k, vlPre 0 1 64 (fun i => [.int .u32 (kOf i)]) (hashC (rootL R)) 115 4 (lenL (mkL R k)) (fun i j => (leafG true (mkL R k) i j).old) := fun k => ⟨ksAt_self, ⟨rootL R, rfl, rootL_range R⟩, q3 k⟩
    have v1 : ∀ k, valB (hOf (hashC (rootL R))) (mkC R) (mkL R k) k = findB R k := fun k => (val_own hRs hRz hR40).1
    have v2 : ∀ k, valV (hOf (hashC (rootL R))) (mkC R) (mkL R k) k = getL R k := fun k => (val_own hRs hRz hR40).2.1
    have v3 : ∀ k, lackB (hOf (hashC (rootL R))) (mkC R) (mkL R k) k = !findB R k := fun k => (val_own hRs hRz hR40).2.2
    have eC : mkC R = (R.length : Int) := by unfold mkC; rw [if_pos hg]
    have v4 : ∀ k, mayL (mkC R) (mkL R k) = true := fun k => by rw [eC]; exact may_mk (by omega)
    unfold hashC at v1 v2 v3
    refine Runs.absK fun Q hQ => ?_
    replace hQ := Lib.hid hQ
    show Runs Tryd.prog 2 (.loop _) _ _
    refine loop_ruleR (N := env (lft Tryd.prog 2) 0 .std tbPf [(13, appFn [0] [] sFirst7), (30, appFn [] [(46, 2)] sRise), (14, appFn [] [(46, 2)] sLtPr), (16, appFn [] [(46, 2)] sOwn), (19, appFn [0] [(63, 2)] sPRoot), (22, appFn [0] [(63, 2)] sMake), (24, appFn [0] [(115, 204)] sVal), (26, appFn [0] [(115, 204)] sHas), (28, appFn [0] [(115, 204)] sLacks), (31, appFn [] [(115, 204)] sMayPr)] [(13, [(0, true), (1, true), (2, true), (3, true), (4, true), (5, true), (6, true), (7, false), (8, true), (9, true), (10, true), (11, true), (12, true)]), (14, [(0, true), (1, true), (2, true), (3, true), (4, true), (5, true), (6, true), (7, true), (8, true), (9, true), (10, true), (11, true), (12, true), (13, true), (14, true), (15, true), (16, true), (17, true), (18, true), (19, true), (20, false), (21, true), (22, true), (23, true), (24, true), (25, true), (26, true), (27, true), (28, true), (29, true), (30, true), (31, true), (32, true), (33, false), (34, true), (35, true), (36, true), (37, true), (38, true), (39, true), (40, true), (41, true), (42, true), (43, false), (44, true), (45, true), (46, true), (47, false), (48, true), (49, true)])]) rfl tbPf_ok hC (fun c st K _ h => h) (by kernel_rfl) [0] (X := LSh R key N)
      (S := fun x => ⟨[.c (.row 2), .c (.str key), .any, .any, .any, .c (.row 3), .c (.ptr 4 0), .c (.bool (amongB R x.i key)), .c (.int .i64 (x.i : Int))] ++ List.replicate 149 .any, [.glob 0 1 64 (fun i => [.int .u32 (kOf i)]), .elems 46 2 n (prG L), .row 46 2 N (prG R), .row 63 2 N (prG R), .cells 24 (hashC (rootL R))]⟩) (μ := fun x => N - x.i) ⟨0, Nat.zero_le _⟩ (by kernel_rfl) [0, 1, 3, 6, 8] ?h0 ?rd
    case h0 =>
      refine ⟨rfl, by decide, ?_, ?_⟩ <;> repeat' (first | exact trivial | exact hR1 | exact hR2 | exact hR3 | exact hR4 | exact hA1 | exact hA2 | exact hB1 | exact hB2 | exact rfl | apply And.intro | exact (fun _ _ _ _ => Cell.le_refl _) | (intro i hi; rfl) | (intro i hi; exact absurd hi (Nat.not_lt_zero _)))
    case rd =>
      rintro ⟨i, hi⟩
      unfold sFirst7 sRise sLtPr sOwn sPRoot sMake
      generalize hg0 : (List.length : List PP → Nat) = g0
      generalize hg1 : (List.length : List UInt8 → Nat) = g1
      generalize hL : lft Tryd.prog _ = L
      try dsimp only
      try unfold prG
      try unfold leafG
      generalize ho0 : @prK = zo0, ho1 : @prV = zo1, ho2 : @prL = zo2, ho3 : @ltB = zo3, ho4 : @findB = zo4, ho5 : @szB = zo5, ho6 : @getL = zo6, ho7 : @prPre = zo7, ho8 : @goodL = zo8, ho9 : @prPreR = zo9, ho10 : @riseL = zo10, ho11 : @KsAt = zo11, ho12 : @hOf = zo12, ho13 : @kOf = zo13, ho14 : @rootL = zo14, ho15 : @sumsPre = zo15, ho16 : @lK = zo16, ho17 : @lV = zo17, ho18 : @lI = zo18, ho19 : @lP = zo19, ho20 : @lN = zo20, ho21 : @pG = zo21, ho22 : @leafL = zo22, ho23 : @leavesPre = zo23, ho24 : @mayL = zo24, ho25 : @mkL = zo25, ho26 : @mkC = zo26, ho27 : @mkPre = zo27, ho28 : @lenL = zo28, ho29 : @valB = zo29, ho30 : @valV = zo30, ho31 : @lackB = zo31, ho32 : @vlPre = zo32, ho33 : @ltPrB = zo33, ho34 : @ltPre = zo34, ho35 : @orderPre = zo35, ho36 : @amongB = zo36
      generalize hs0 : @sVal = zs0, hs1 : @sHas = zs1, hs2 : @sLacks = zs2, hs3 : @sMayPr = zs3
      generalize hA : Arith.std = A
      cbv
      subst hA hg0 hg1 hL ho0 ho1 ho2 ho3 ho4 ho5 ho6 ho7 ho8 ho9 ho10 ho11 ho12 ho13 ho14 ho15 ho16 ho17 ho18 ho19 ho20 ho21 ho22 ho23 ho24 ho25 ho26 ho27 ho28 ho29 ho30 ho31 ho32 ho33 ho34 ho35 ho36 hs0 hs1 hs2 hs3
      unfold sVal
      generalize hg0 : (List.length : List PP → Nat) = g0
      generalize hg1 : (List.length : List UInt8 → Nat) = g1
      generalize hL : lft Tryd.prog _ = L
      try unfold prG
      try unfold leafG
      generalize ho0 : @prK = zo0, ho1 : @prV = zo1, ho2 : @prL = zo2, ho3 : @ltB = zo3, ho4 : @findB = zo4, ho5 : @szB = zo5, ho6 : @getL = zo6, ho7 : @prPre = zo7, ho8 : @goodL = zo8, ho9 : @prPreR = zo9, ho10 : @riseL = zo10, ho11 : @KsAt = zo11, ho12 : @hOf = zo12, ho13 : @kOf = zo13, ho14 : @rootL = zo14, ho15 : @sumsPre = zo15, ho16 : @lK = zo16, ho17 : @lV = zo17, ho18 : @lI = zo18, ho19 : @lP = zo19, ho20 : @lN = zo20, ho21 : @pG = zo21, ho22 : @leafL = zo22, ho23 : @leavesPre = zo23, ho24 : @mayL = zo24, ho25 : @mkL = zo25, ho26 : @mkC = zo26, ho27 : @mkPre = zo27, ho28 : @lenL = zo28, ho29 : @valB = zo29, ho30 : @valV = zo30, ho31 : @lackB = zo31, ho32 : @vlPre = zo32, ho33 : @ltPrB = zo33, ho34 : @ltPre = zo34, ho35 : @orderPre = zo35, ho36 : @amongB = zo36
      generalize hs0 : @sHas = zs0, hs1 : @sLacks = zs1, hs2 : @sMayPr = zs2
      generalize hA : Arith.std = A
      cbv
      subst hA hg0 hg1 hL ho0 ho1 ho2 ho3 ho4 ho5 ho6 ho7 ho8 ho9 ho10 ho11 ho12 ho13 ho14 ho15 ho16 ho17 ho18 ho19 ho20 ho21 ho22 ho23 ho24 ho25 ho26 ho27 ho28 ho29 ho30 ho31 ho32 ho33 ho34 ho35 ho36 hs0 hs1 hs2
      unfold sHas
      generalize hg0 : (List.length : List PP → Nat) = g0
      generalize hg1 : (List.length : List UInt8 → Nat) = g1
      generalize hL : lft Tryd.prog _ = L
      try unfold prG
      try unfold leafG
      generalize ho0 : @prK = zo0, ho1 : @prV = zo1, ho2 : @prL = zo2, ho3 : @ltB = zo3, ho4 : @findB = zo4, ho5 : @szB = zo5, ho6 : @getL = zo6, ho7 : @prPre = zo7, ho8 : @goodL = zo8, ho9 : @prPreR = zo9, ho10 : @riseL = zo10, ho11 : @KsAt = zo11, ho12 : @hOf = zo12, ho13 : @kOf = zo13, ho14 : @rootL = zo14, ho15 : @sumsPre = zo15, ho16 : @lK = zo16, ho17 : @lV = zo17, ho18 : @lI = zo18, ho19 : @lP = zo19, ho20 : @lN = zo20, ho21 : @pG = zo21, ho22 : @leafL = zo22, ho23 : @leavesPre = zo23, ho24 : @mayL = zo24, ho25 : @mkL = zo25, ho26 : @mkC = zo26, ho27 : @mkPre = zo27, ho28 : @lenL = zo28, ho29 : @valB = zo29, ho30 : @valV = zo30, ho31 : @lackB = zo31, ho32 : @vlPre = zo32, ho33 : @ltPrB = zo33, ho34 : @ltPre = zo34, ho35 : @orderPre = zo35, ho36 : @amongB = zo36
      generalize hs0 : @sLacks = zs0, hs1 : @sMayPr = zs1
      generalize hA : Arith.std = A
      cbv
      subst hA hg0 hg1 hL ho0 ho1 ho2 ho3 ho4 ho5 ho6 ho7 ho8 ho9 ho10 ho11 ho12 ho13 ho14 ho15 ho16 ho17 ho18 ho19 ho20 ho21 ho22 ho23 ho24 ho25 ho26 ho27 ho28 ho29 ho30 ho31 ho32 ho33 ho34 ho35 ho36 hs0 hs1
      unfold sLacks sMayPr
      generalize hg0 : (List.length : List PP → Nat) = g0
      generalize hg1 : (List.length : List UInt8 → Nat) = g1
      generalize hL : lft Tryd.prog _ = L
      try unfold prG
      try unfold leafG
      generalize ho0 : @prK = zo0, ho1 : @prV = zo1, ho2 : @prL = zo2, ho3 : @ltB = zo3, ho4 : @findB = zo4, ho5 : @szB = zo5, ho6 : @getL = zo6, ho7 : @prPre = zo7, ho8 : @goodL = zo8, ho9 : @prPreR = zo9, ho10 : @riseL = zo10, ho11 : @KsAt = zo11, ho12 : @hOf = zo12, ho13 : @kOf = zo13, ho14 : @rootL = zo14, ho15 : @sumsPre = zo15, ho16 : @lK = zo16, ho17 : @lV = zo17, ho18 : @lI = zo18, ho19 : @lP = zo19, ho20 : @lN = zo20, ho21 : @pG = zo21, ho22 : @leafL = zo22, ho23 : @leavesPre = zo23, ho24 : @mayL = zo24, ho25 : @mkL = zo25, ho26 : @mkC = zo26, ho27 : @mkPre = zo27, ho28 : @lenL = zo28, ho29 : @valB = zo29, ho30 : @valV = zo30, ho31 : @lackB = zo31, ho32 : @vlPre = zo32, ho33 : @ltPrB = zo33, ho34 : @ltPre = zo34, ho35 : @orderPre = zo35, ho36 : @amongB = zo36
      generalize hA : Arith.std = A
      cbv
      subst hA hg0 hg1 hL ho0 ho1 ho2 ho3 ho4 ho5 ho6 ho7 ho8 ho9 ho10 ho11 ho12 ho13 ho14 ho15 ho16 ho17 ho18 ho19 ho20 ho21 ho22 ho23 ho24 ho25 ho26 ho27 ho28 ho29 ho30 ho31 ho32 ho33 ho34 ho35 ho36
      simp only [Arith.std, Int.ofNat_eq_natCast, Int.toNat_natCast, eN, eD, v1, v2, v3, v4]
      refine Ife.mk (fun h => ?_) (fun h => ?_)
      · have h : (i : Int) < (N : Int) := of_decide_eq_true (p := (i : Int) < (N : Int)) h
        have hiN : i < N := Int.ofNat_lt.mp h
        have q1 : 0 ≤ (i : Int) ∧ (i : Int) < (N : Int) := by omega
        have q2 : (i : Int).toNat < N := by omega
        obtain ⟨fa, ga⟩ := find_at hRs (i := i) (by omega)
        have hsz := szB_iff.1 (hRz.at (i := i) (by omega))
        have fl : fitStd .i64 ((i : Int) + 1) := by unfold fitStd; omega
        simp only [fa, ga]
        refine Need.mk q1 fun _ => Need.mk q2 fun _ => Need.mk ⟨ksAt_self, hPRN⟩ fun _ => Need.mk q1 fun _ => Need.mk q2 fun _ => Need.mk (hPv (prK R i)) fun _ => ?_
        refine Ife.mk (fun h5 => absurd h5 (by simp)) (fun _ => ?_)
        refine Need.mk q1 fun _ => Need.mk q2 fun _ => ?_
        refine Ife.mk (fun h5 => absurd h5 (by simp)) (fun _ => ?_)
        refine Need.mk q1 fun _ => Need.mk q2 fun _ => Need.mk (hPv (prK R i)) fun _ => ?_
        refine Ife.mk (fun h5 => absurd h5 (by simp)) (fun _ => ?_)
        refine Need.mk q1 fun _ => Need.mk q2 fun _ => Need.mk (by show ((prV R i).length : Int) + 1 ≤ 9223372036854775807; omega) fun _ => Need.mk (hPv (prK R i)) fun _ => ?_
        refine Ife.mk (fun h5 => absurd h5 (by simp)) (fun _ => ?_)
        refine Need.mk q1 fun _ => Need.mk q2 fun _ => Need.mk (hPv (prK R i)) fun _ => ?_
        refine Ife.mk (fun h5 => absurd h5 (by simp)) (fun _ => ?_)
        refine Need.mk (q3 (prK R i)) fun _ => ?_
        refine Ife.mk (fun h5 => absurd h5 (by simp)) (fun _ => ?_)
        have hn1 := among_next (L := R) (i := i) (k := key)
        refine Ife.mk (fun h2 => ?_) (fun h2 => ?_)
        · have h2 : amongB R i key = true := h2
          rw [h2, Bool.true_or] at hn1
          have hB1 : amongB R (i + 1) key = true := hn1
          have hB2 : true = amongB R (i + 1) key := hn1.symm
          refine Need.mk fl fun _ => ?_
          refine ⟨⟨i + 1, by omega⟩, [0, 1, 2, 3, 4], (by show N - (i + 1) < N - i; omega), ?_⟩
          refine ⟨rfl, (by show List.Nodup [0, 1, 2, 3, 4]; decide), ?_, ?_⟩ <;> repeat' (first | exact trivial | exact hR1 | exact hR2 | exact hR3 | exact hR4 | exact hA1 | exact hA2 | exact hB1 | exact hB2 | exact rfl | apply And.intro | exact (fun _ _ _ _ => Cell.le_refl _) | (intro i hi; rfl) | (intro i hi; exact absurd hi (Nat.not_lt_zero _)))
        · have h2 : amongB R i key = false := h2
          rw [h2, Bool.false_or] at hn1
          have hB1 : decide (prK R i = key) = amongB R (i + 1) key := hn1.symm
          refine Need.mk q1 fun _ => Need.mk q2 fun _ => Need.mk fl fun _ => ?_
          refine ⟨⟨i + 1, by omega⟩, [0, 1, 2, 3, 4], (by show N - (i + 1) < N - i; omega), ?_⟩
          refine ⟨rfl, (by show List.Nodup [0, 1, 2, 3, 4]; decide), ?_, ?_⟩ <;> repeat' (first | exact trivial | exact hR1 | exact hR2 | exact hR3 | exact hR4 | exact hA1 | exact hA2 | exact hB1 | exact hB2 | exact rfl | apply And.intro | exact (fun _ _ _ _ => Cell.le_refl _) | (intro i hi; rfl) | (intro i hi; exact absurd hi (Nat.not_lt_zero _)))
      have h : ¬ (i : Int) < (N : Int) := of_decide_eq_false (p := (i : Int) < (N : Int)) h
      have ei : i = R.length := by omega
      have ham : amongB R i key = findB R key := by rw [ei]; exact among_all hRs
      refine hQ.out _ _ _ ?_
      unfold sMake sVal sLacks sMayPr
      generalize hg0 : (List.length : List PP → Nat) = g0
      generalize hg1 : (List.length : List UInt8 → Nat) = g1
      generalize hL : lft Tryd.prog _ = L
      try unfold prG
      try unfold leafG
      generalize ho0 : @prK = zo0, ho1 : @prV = zo1, ho2 : @prL = zo2, ho3 : @ltB = zo3, ho4 : @findB = zo4, ho5 : @szB = zo5, ho6 : @getL = zo6, ho7 : @prPre = zo7, ho8 : @goodL = zo8, ho9 : @prPreR = zo9, ho10 : @riseL = zo10, ho11 : @KsAt = zo11, ho12 : @hOf = zo12, ho13 : @kOf = zo13, ho14 : @rootL = zo14, ho15 : @sumsPre = zo15, ho16 : @lK = zo16, ho17 : @lV = zo17, ho18 : @lI = zo18, ho19 : @lP = zo19, ho20 : @lN = zo20, ho21 : @pG = zo21, ho22 : @leafL = zo22, ho23 : @leavesPre = zo23, ho24 : @mayL = zo24, ho25 : @mkL = zo25, ho26 : @mkC = zo26, ho27 : @mkPre = zo27, ho28 : @lenL = zo28, ho29 : @valB = zo29, ho30 : @valV = zo30, ho31 : @lackB = zo31, ho32 : @vlPre = zo32, ho33 : @ltPrB = zo33, ho34 : @ltPre = zo34, ho35 : @orderPre = zo35, ho36 : @amongB = zo36
      generalize hA : Arith.std = A
      cbv
      subst hA hg0 hg1 hL ho0 ho1 ho2 ho3 ho4 ho5 ho6 ho7 ho8 ho9 ho10 ho11 ho12 ho13 ho14 ho15 ho16 ho17 ho18 ho19 ho20 ho21 ho22 ho23 ho24 ho25 ho26 ho27 ho28 ho29 ho30 ho31 ho32 ho33 ho34 ho35 ho36
      simp only [Arith.std, Int.ofNat_eq_natCast, Int.toNat_natCast, eN, eD, v1, v2, v3, v4]
      simp only [ham]
      have eCN : mkC R = (N : Int) := by rw [eC, hN]
      refine Need.mk ⟨ksAt_self, hPRN⟩ fun _ => Need.mk (hPv key) fun _ => ?_
      refine Ife.mk (fun _ => ?_) (fun h5 => absurd h5 (by simp))
      refine Need.mk (hPv key) fun _ => ?_
      refine Ife.mk (fun _ => ?_) (fun h5 => absurd h5 (by cases findB R key <;> simp))
      refine Ife.mk (fun _ => ?_) (fun h5 => absurd h5 (by simp [eCN]))
      refine Need.mk (q3 key) fun _ => ?_
      exact ⟨[0, 1], ⟨rfl, (by repeat' (first | exact trivial | exact hR1 | exact hR2 | exact hR3 | exact hR4 | exact hA1 | exact hA2 | exact hB1 | exact hB2 | exact rfl | apply And.intro | exact (fun _ _ _ _ => Cell.le_refl _) | (intro i hi; rfl) | (intro i hi; exact absurd hi (Nat.not_lt_zero _)))), (by show List.Nodup []; exact List.nodup_nil), rfl, by repeat' (first | exact trivial | exact hR1 | exact hR2 | exact hR3 | exact hR4 | exact hA1 | exact hA2 | exact hB1 | exact hB2 | exact rfl | apply And.intro | exact (fun _ _ _ _ => Cell.le_refl _) | (intro i hi; rfl) | (intro i hi; exact absurd hi (Nat.not_lt_zero _)))⟩⟩

end Go.Proofs.YthomoliklfmnkaaDoor.Vx
end

section
/- ProofShows: what a law's call answers. -/
namespace Go.Proofs.YthomoliklfmnkaaDoor
open Go.RowKit
set_option linter.unusedVariables false
theorem proofShowsWalk (w : World) (hk : ∀ i, i < 64 → w.cell? ⟨0, i, none⟩ = some (.int .u32 (Sha.kOf i))) (p : Option Addr) (cap : Nat) (ls : List Vx.PP) (hs : SlIn w p 2 cap (ls.map Vx.prVals)) (s : ByteArray) (hs2 : s.size ≤ maxLen) :
    Calls Tryd.prog 4 #[.slice p ls.length cap, .string s] w fun e w' => e = .returned (.bool true) ∧ Below w.heap.size w w' := by
  obtain ⟨b, rfl, hl⟩ := bytesOf s hs2
  obtain ⟨q, hq, gd⟩ := prs_good hs
  rw [← hq]
  refine Calls.mono (Vx.proofShowsP.run [.c (.row 1), .c (.str b)] [.glob 0 1 64 (fun i => [.int .u32 (Sha.kOf i)]), .elems 46 2 ls.length (Vx.prG ls)] _ _ _ rfl ⟨Vx.ksAt_self, rfl, rfl, Vx.prAt_prG _ _⟩ [⟨0, undef, 0⟩, q] w _ (Vx.Rel.addV (Vx.relGlob hk) 46 gd)
    ⟨_, _, rfl, (by obtain ⟨a', cap', e, _⟩ := gd.sl; simp [Vx.SV.is, Vx.CV.den, e, Vx.one] : Vx.SV.is [⟨0, undef, 0⟩, q] (.c (.row 1)) q.v), _, _, rfl, rfl, rfl⟩) fun e W' he => ?_
  obtain ⟨u, ρ', rfl, hu, hr⟩ := he
  obtain rfl : .bool true = u := Option.some.inj hu
  exact ⟨rfl, Vx.Rel.toBelow hr⟩
end Go.Proofs.YthomoliklfmnkaaDoor
end
