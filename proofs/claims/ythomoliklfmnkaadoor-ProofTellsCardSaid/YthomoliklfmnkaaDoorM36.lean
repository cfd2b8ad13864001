/- The document's sums of pairs and proofs of keys, by the walker. -/
import Derived.Test.YthomoliklfmnkaaDoorM34
import Derived.Test.YthomoliklfmnkaaDoorM24
import Derived.Test.YthomoliklfmnkaaDoorM21
import Derived.Test.YthomoliklfmnkaaDoorM11
import Derived.Test.YthomoliklfmnkaaDoorM35
import Derived.Test.YthomoliklfmnkaaDoorM27
section
namespace Go.Proofs.YthomoliklfmnkaaDoor.Vx
open Sha
open Go.RowKit
set_option linter.unusedVariables false
set_option linter.unusedSimpArgs false
def rlvPre (ty one n : Nat) (get : Nat → List CV) : Prop := prPreR ty one n get ∧ AllSz (prL n get)
def rlaPre (ty one n : Nat) (get : Nat → List CV) (ty' one' n' : Nat) (get' : Nat → List CV) (i : Int) : Prop := prPreR ty one n get ∧ (ty' = 24 ∧ one' = 32 ∧ n' = n ∧ ∀ j, j < n' → get' j = lfG (prL n get) j) ∧ 0 ≤ i ∧ i < (n : Int)
attribute [local cbv_opaque] prK prV prL ltB findI findB szB Lib.compareBytes prPre goodAt goodL prPreR KsAt leafF leafPre topG topPre0 rootF rootPre sumI hOf HashC kOf u8s lfG rootL sumsPre lK lV lI lP lN pG leafL leafOf leavesPre mayAt mayL lightAt lightL deep leavesAt0 hNm wyL mkLeaf mkL mkC mkFrom mkTo wayG hashesG wayPre0 mkPre lenL fdB fdH fdPre eqH sizedB rleafPre rtopPre0 rwayPre0 prPreR rlvPre rlaPre
def tbRf : Tbl where
  T :=
    (3, ⟨1, false, [.int .i64 (0)], .int .i64, 8⟩) ::
    (4, ⟨1, false, [.ff], .bool, 1⟩) ::
    (9, ⟨1, false, [.str []], .str, 16⟩) ::
    (5, ⟨1, false, [.int .u8 (0)], .int .u8, 1⟩) ::
    (46, ⟨2, true, [.str [], .str []], .struct [(0, (1, false)), (1, (1, false))], 32⟩) ::
    (22, ⟨1, false, [.val (.slice none 0 0)], .slice 46, 24⟩) ::
    (115, ⟨4, true, [.str [], .str [], .int .i64 (0), .val (.slice none 0 0)], .struct [(0, (1, false)), (1, (1, false)), (2, (1, false)), (3, (1, false))], 64⟩) ::
    (25, ⟨1, false, [.val (.slice none 0 0)], .slice 115, 24⟩) ::
    (27, ⟨2, true, [.int .i64 (0), .val (.slice none 0 0)], .struct [(0, (1, false)), (1, (1, false))], 32⟩) ::
    (24, ⟨32, true, [.int .u8 (0), .int .u8 (0), .int .u8 (0), .int .u8 (0), .int .u8 (0), .int .u8 (0), .int .u8 (0), .int .u8 (0), .int .u8 (0), .int .u8 (0), .int .u8 (0), .int .u8 (0), .int .u8 (0), .int .u8 (0), .int .u8 (0), .int .u8 (0), .int .u8 (0), .int .u8 (0), .int .u8 (0), .int .u8 (0), .int .u8 (0), .int .u8 (0), .int .u8 (0), .int .u8 (0), .int .u8 (0), .int .u8 (0), .int .u8 (0), .int .u8 (0), .int .u8 (0), .int .u8 (0), .int .u8 (0), .int .u8 (0)], .array 32 5, 32⟩) ::
    (113, ⟨1, false, [.val (.slice none 0 0)], .slice 24, 24⟩) ::
    []
  F :=
    (24, [0, 0, 0, 0, 0, 0, 0, 0, 0, 0, 0, 0, 0, 0, 0, 0, 0, 0, 0, 0, 0, 0, 0, 0, 0, 0, 0, 0, 0, 0, 0, 0]) ::
    []

theorem tbRf_ok : tbRf.Ok Tryd.prog where
  T :=
    TblOk.cons (by kernel_rfl) <|
    TblOk.cons (by kernel_rfl) <|
    TblOk.cons (by kernel_rfl) <|
    TblOk.cons (by kernel_rfl) <|
    TblOk.cons (by kernel_rfl) <|
    TblOk.cons (by kernel_rfl) <|
    TblOk.cons (by kernel_rfl) <|
    TblOk.cons (by kernel_rfl) <|
    TblOk.cons (by kernel_rfl) <|
    TblOk.cons (by kernel_rfl) <|
    TblOk.cons (by kernel_rfl) <|
    TblOk.nil _
  F :=
    FlatsOk.cons (FlatOk.of (D := .array 32 5) 6 (by decide) (by kernel_rfl) (by kernel_rfl) rfl (by kernel_rfl)) <|
    FlatsOk.nil _

def sRGood : SpecF
  | [.c (.row 0)], [.elems ty one n get] => some (prPreR ty one n get, .c (.bool (goodL (prL n get))), [.dead])
  | _, _ => none

set_option maxRecDepth 100000 in
set_option maxHeartbeats 8000000 in
theorem rgoodP : Fn Tryd.prog 17 [] [(46, 2)] sRGood := by
  have hC : CtsOk Tryd.prog [] := CtsOk.nil _
  refine Fn.of (E := tbRf) [] 0 [(4, [(0, true), (1, true), (2, true), (3, true), (4, true), (5, true), (6, true), (7, true), (8, true), (9, true), (10, true), (11, true), (12, true), (13, true), (14, true), (15, true), (16, true), (17, true), (18, true), (19, true), (20, true), (21, true), (22, true), (23, true), (24, true), (25, true), (26, true), (27, true), (28, true), (29, true), (30, true), (31, true), (32, true), (33, true), (34, true), (35, true), (36, true), (37, true), (38, true), (39, true), (40, true), (41, true), (42, true), (43, true), (44, true), (45, true), (46, true), (47, true), (48, true), (49, true), (50, true), (51, true)])] tbRf_ok hC (by kernel_rfl) Tryd.func17 rfl rfl rfl (by kernel_rfl) (by kernel_rfl) 1 46 2 ?_ ?_
  · intro args h pre r h' hs
    unfold sRGood at hs
    split at hs
    · cases hs; exact ⟨rfl, rfl, Nat.le_of_ble_eq_true rfl⟩
    · cases hs
  · intro args h pre r h' hs hp
    unfold sRGood at hs
    split at hs
    rotate_left
    · cases hs
    rename_i ty one n get
    cases hs
    obtain ⟨rfl, rfl, hst, hm⟩ := hp
    refine ⟨[.elems 46 2 n (prG (prL n get))], ⟨⟨rfl, rfl, rfl, fun i hi => hst.eq hi⟩, trivial⟩, ?_⟩
    have hL : (prL n get).length = n := prL_len
    have ePR : prL n (prG (prL n get)) = prL n get := by
      have := prL_prG (prL n get)
      rwa [hL] at this
    generalize prL n get = L at hL ePR ⊢
    show Runs Tryd.prog 1 (.loop _) _ _
    refine loop_ruleR (N := env (lft Tryd.prog 1) 0 .std tbRf [] [(4, [(0, true), (1, true), (2, true), (3, true), (4, true), (5, true), (6, true), (7, true), (8, true), (9, true), (10, true), (11, true), (12, true), (13, true), (14, true), (15, true), (16, true), (17, true), (18, true), (19, true), (20, true), (21, true), (22, true), (23, true), (24, true), (25, true), (26, true), (27, true), (28, true), (29, true), (30, true), (31, true), (32, true), (33, true), (34, true), (35, true), (36, true), (37, true), (38, true), (39, true), (40, true), (41, true), (42, true), (43, true), (44, true), (45, true), (46, true), (47, true), (48, true), (49, true), (50, true), (51, true)])]) rfl tbRf_ok hC (fun c st K _ h => h) (by kernel_rfl) [] (X := LGo L n)
      (S := fun x => ⟨[.c (.row 0), .any, .any, .c (.int .i64 x.i)] ++ List.replicate 58 .any, [.elems 46 2 n (prG L)]⟩) (μ := fun x => n - x.i.toNat) ⟨0, by omega, by omega, fun k hk => absurd hk (by omega)⟩ (by kernel_rfl) [0] ?_ ?_
    · refine ⟨rfl, by decide, ?_, ?_⟩ <;> repeat' (first | exact trivial | exact rfl | apply And.intro | exact (fun _ _ _ _ => Cell.le_refl _) | (intro i hi; rfl) | (intro i hi; exact absurd hi (Nat.not_lt_zero _)))
    rintro ⟨i, hi0, hin, hP⟩
    generalize hg0 : (List.length : List PP → Nat) = g0
    generalize hg1 : (List.length : List UInt8 → Nat) = g1
    generalize hL : lft Tryd.prog _ = L
    generalize hA : Arith.std = A
    set_option cbv.maxSteps 2000000 in cbv
    subst hA hg0 hg1 hL
    replace hin : i ≤ @Nat.cast Int instNatCastInt n := hin
    refine Ife.mk (fun hlt => ?_) (fun hlt => ?_)
    · replace hlt : i < @Nat.cast Int instNatCastInt n := of_decide_eq_true (p := i < (n : Int)) hlt
      have hNO : goodAt L i.toNat = false → goodL L = false := fun h => goodL_no (by omega) h
      have hYES : goodAt L i.toNat = true → ∀ k, k < (i + 1).toNat → goodAt L k = true := fun h k hk => by
        by_cases hki : k = i.toNat
        · rw [hki]; exact h
        · exact hP k (by omega)
      refine Need.mk (by show 0 ≤ i ∧ i < (n : Int); omega) fun _ => Need.mk (by show i.toNat < n; omega) fun _ => ?_
      refine Ife.mk (fun h => ?_) (fun h => ?_)
      · have h : ((prK L i.toNat).length : Int) < 1 := of_decide_eq_true (p := ((prK L i.toNat).length : Int) < 1) h
        rw [hNO (by
          rw [Bool.eq_false_iff]
          intro q
          have q := szB_iff.1 (goodAt_iff.1 q).1
          omega)]
        exact ⟨[0], ⟨rfl, (by repeat' (first | exact trivial | exact rfl | apply And.intro | exact (fun _ _ _ _ => Cell.le_refl _) | (intro i hi; rfl) | (intro i hi; exact absurd hi (Nat.not_lt_zero _)))), by decide, rfl, by repeat' (first | exact trivial | exact rfl | apply And.intro | exact (fun _ _ _ _ => Cell.le_refl _) | (intro i hi; rfl) | (intro i hi; exact absurd hi (Nat.not_lt_zero _)))⟩⟩
      replace h : ¬ ((prK L i.toNat).length : Int) < 1 := of_decide_eq_false (p := ((prK L i.toNat).length : Int) < 1) h
      have z0 := h
      clear h
      refine Need.mk (by show 0 ≤ i ∧ i < (n : Int); omega) fun _ => Need.mk (by show i.toNat < n; omega) fun _ => ?_
      refine Ife.mk (fun h => ?_) (fun h => ?_)
      · have h : (160 : Int) < ((prK L i.toNat).length : Int) := of_decide_eq_true (p := (160 : Int) < ((prK L i.toNat).length : Int)) h
        rw [hNO (by
          rw [Bool.eq_false_iff]
          intro q
          have q := szB_iff.1 (goodAt_iff.1 q).1
          omega)]
        exact ⟨[0], ⟨rfl, (by repeat' (first | exact trivial | exact rfl | apply And.intro | exact (fun _ _ _ _ => Cell.le_refl _) | (intro i hi; rfl) | (intro i hi; exact absurd hi (Nat.not_lt_zero _)))), by decide, rfl, by repeat' (first | exact trivial | exact rfl | apply And.intro | exact (fun _ _ _ _ => Cell.le_refl _) | (intro i hi; rfl) | (intro i hi; exact absurd hi (Nat.not_lt_zero _)))⟩⟩
      replace h : ¬ (160 : Int) < ((prK L i.toNat).length : Int) := of_decide_eq_false (p := (160 : Int) < ((prK L i.toNat).length : Int)) h
      have z1 := h
      clear h
      refine Need.mk (by show 0 ≤ i ∧ i < (n : Int); omega) fun _ => Need.mk (by show i.toNat < n; omega) fun _ => ?_
      refine Ife.mk (fun h => ?_) (fun h => ?_)
      · have h : ((prV L i.toNat).length : Int) < 1 := of_decide_eq_true (p := ((prV L i.toNat).length : Int) < 1) h
        rw [hNO (by
          rw [Bool.eq_false_iff]
          intro q
          have q := szB_iff.1 (goodAt_iff.1 q).1
          omega)]
        exact ⟨[0], ⟨rfl, (by repeat' (first | exact trivial | exact rfl | apply And.intro | exact (fun _ _ _ _ => Cell.le_refl _) | (intro i hi; rfl) | (intro i hi; exact absurd hi (Nat.not_lt_zero _)))), by decide, rfl, by repeat' (first | exact trivial | exact rfl | apply And.intro | exact (fun _ _ _ _ => Cell.le_refl _) | (intro i hi; rfl) | (intro i hi; exact absurd hi (Nat.not_lt_zero _)))⟩⟩
      replace h : ¬ ((prV L i.toNat).length : Int) < 1 := of_decide_eq_false (p := ((prV L i.toNat).length : Int) < 1) h
      have z2 := h
      clear h
      refine Need.mk (by show 0 ≤ i ∧ i < (n : Int); omega) fun _ => Need.mk (by show i.toNat < n; omega) fun _ => ?_
      refine Ife.mk (fun h => ?_) (fun h => ?_)
      · have h : (64 : Int) < ((prV L i.toNat).length : Int) := of_decide_eq_true (p := (64 : Int) < ((prV L i.toNat).length : Int)) h
        rw [hNO (by
          rw [Bool.eq_false_iff]
          intro q
          have q := szB_iff.1 (goodAt_iff.1 q).1
          omega)]
        exact ⟨[0], ⟨rfl, (by repeat' (first | exact trivial | exact rfl | apply And.intro | exact (fun _ _ _ _ => Cell.le_refl _) | (intro i hi; rfl) | (intro i hi; exact absurd hi (Nat.not_lt_zero _)))), by decide, rfl, by repeat' (first | exact trivial | exact rfl | apply And.intro | exact (fun _ _ _ _ => Cell.le_refl _) | (intro i hi; rfl) | (intro i hi; exact absurd hi (Nat.not_lt_zero _)))⟩⟩
      replace h : ¬ (64 : Int) < ((prV L i.toNat).length : Int) := of_decide_eq_false (p := (64 : Int) < ((prV L i.toNat).length : Int)) h
      have z3 := h
      clear h
      have hz : szB (prK L i.toNat) (prV L i.toNat) = true := szB_iff.2 ⟨⟨by omega, by omega⟩, by omega, by omega⟩
      refine Ife.mk (fun h1 => ?_) (fun h1 => ?_)
      · have h1 : 0 < i := of_decide_eq_true (p := 0 < i) h1
        have e3 : (i - 1).toNat = i.toNat - 1 := by omega
        refine Need.mk (by show fitStd .i64 (i - 1); unfold fitStd; omega) fun _ => Need.mk (by show 0 ≤ i - 1 ∧ i - 1 < (n : Int); omega) fun _ => Need.mk (by show (i - 1).toNat < n; omega) fun _ => Need.mk (by show 0 ≤ i ∧ i < (n : Int); omega) fun _ => Need.mk (by show i.toNat < n; omega) fun _ => ?_
        refine Ife.mk (fun h2 => ?_) (fun h2 => ?_)
        · have h2 : (!ltB (prK L (i - 1).toNat) (prK L i.toNat)) = true := h2
          rw [hNO (by unfold goodAt; rw [hz, decide_eq_false (show ¬ i.toNat = 0 by omega), ← e3, show ltB (prK L (i - 1).toNat) (prK L i.toNat) = false by simpa using h2]; rfl)]
          exact ⟨[0], ⟨rfl, (by repeat' (first | exact trivial | exact rfl | apply And.intro | exact (fun _ _ _ _ => Cell.le_refl _) | (intro i hi; rfl) | (intro i hi; exact absurd hi (Nat.not_lt_zero _)))), by decide, rfl, by repeat' (first | exact trivial | exact rfl | apply And.intro | exact (fun _ _ _ _ => Cell.le_refl _) | (intro i hi; rfl) | (intro i hi; exact absurd hi (Nat.not_lt_zero _)))⟩⟩
        · have h2 : (!ltB (prK L (i - 1).toNat) (prK L i.toNat)) = false := h2
          have hg : goodAt L i.toNat = true := by unfold goodAt; rw [hz, ← e3, show ltB (prK L (i - 1).toNat) (prK L i.toNat) = true by simpa using h2]; simp
          refine Need.mk (by show fitStd .i64 (i + 1); unfold fitStd; omega) fun _ => ?_
          refine ⟨⟨i + 1, by omega, by omega, hYES hg⟩, [0], (by show n - (i + 1).toNat < n - i.toNat; omega), ?_⟩
          refine ⟨rfl, by decide, ?_, ?_⟩ <;> repeat' (first | exact trivial | exact rfl | apply And.intro | exact (fun _ _ _ _ => Cell.le_refl _) | (intro i hi; rfl) | (intro i hi; exact absurd hi (Nat.not_lt_zero _)))
      · have h1 : ¬ 0 < i := of_decide_eq_false (p := 0 < i) h1
        have hg : goodAt L i.toNat = true := by unfold goodAt; rw [hz, decide_eq_true (show i.toNat = 0 by omega)]; simp
        refine Need.mk (by show fitStd .i64 (i + 1); unfold fitStd; omega) fun _ => ?_
        refine ⟨⟨i + 1, by omega, by omega, hYES hg⟩, [0], (by show n - (i + 1).toNat < n - i.toNat; omega), ?_⟩
        refine ⟨rfl, by decide, ?_, ?_⟩ <;> repeat' (first | exact trivial | exact rfl | apply And.intro | exact (fun _ _ _ _ => Cell.le_refl _) | (intro i hi; rfl) | (intro i hi; exact absurd hi (Nat.not_lt_zero _)))
    · replace hlt : ¬ i < @Nat.cast Int instNatCastInt n := of_decide_eq_false (p := i < (n : Int)) hlt
      rw [goodL_yes fun k hk => hP k (by omega)]
      exact ⟨[0], ⟨rfl, (by repeat' (first | exact trivial | exact rfl | apply And.intro | exact (fun _ _ _ _ => Cell.le_refl _) | (intro i hi; rfl) | (intro i hi; exact absurd hi (Nat.not_lt_zero _)))), by decide, rfl, by repeat' (first | exact trivial | exact rfl | apply And.intro | exact (fun _ _ _ _ => Cell.le_refl _) | (intro i hi; rfl) | (intro i hi; exact absurd hi (Nat.not_lt_zero _)))⟩⟩

def sRLvs : SpecF
  | [.c (.row 0)], [.elems ty one n get] => some (rlvPre ty one n get, .c (.row 1), [.dead, .row 24 32 n (lfG (prL n get))])
  | _, _ => none

set_option maxRecDepth 100000 in
set_option maxHeartbeats 8000000 in
theorem rlvsP : Fn Tryd.prog 82 [] [(46, 2)] sRLvs := by
  have hC : CtsOk Tryd.prog [(94, appPure sRLeaf)] := CtsOk.cons (Pure.ct rleafP) <| CtsOk.nil _
  refine Fn.of (E := tbRf) [] 0 [(5, [(2001, false), (0, true), (1, true), (2, true), (3, true), (4, true), (5, true), (6, true), (7, true), (8, true), (9, true), (10, true), (11, false), (12, false), (13, false), (14, true)])] tbRf_ok hC (by kernel_rfl) Tryd.func82 rfl rfl rfl (by kernel_rfl) (by kernel_rfl) 1 24 32 ?_ ?_
  · intro args h pre r h' hs
    unfold sRLvs at hs
    split at hs
    · cases hs; exact ⟨rfl, rfl, Nat.le_of_ble_eq_true rfl⟩
    · cases hs
  · intro args h pre r h' hs hp
    unfold sRLvs at hs
    split at hs
    rotate_left
    · cases hs
    rename_i ty one n get
    cases hs
    obtain ⟨⟨rfl, rfl, hst, hm⟩, hz⟩ := hp
    refine ⟨[.elems 46 2 n (prG (prL n get))], ⟨⟨rfl, rfl, rfl, fun i hi => hst.eq hi⟩, trivial⟩, ?_⟩
    have hL : (prL n get).length = n := prL_len
    have ePR : prL n (prG (prL n get)) = prL n get := by
      have := prL_prG (prL n get)
      rwa [hL] at this
    generalize prL n get = L at hL hz ePR ⊢
    generalize hg0 : (List.length : List PP → Nat) = g0
    generalize hL : lft Tryd.prog _ = L
    generalize hA : Arith.std = A
    set_option cbv.maxSteps 2000000 in cbv
    subst hA hg0 hL
    refine Runs.nilTmp 3 24 32 (lfG L) rfl ?_
    show Runs Tryd.prog 1 (.loop _) _ _
    refine loop_ruleR (N := env (lft Tryd.prog 1) 0 .std tbRf [(94, appPure sRLeaf)] [(5, [(2001, false), (0, true), (1, true), (2, true), (3, true), (4, true), (5, true), (6, true), (7, true), (8, true), (9, true), (10, true), (11, false), (12, false), (13, false), (14, true)])]) rfl tbRf_ok hC (fun c st K _ h => h) (by kernel_rfl) [] (X := LSm n)
      (S := fun x => ⟨[.c (.row 0), .any, .any, .c (.row 1), .c (.int .i64 (x.j : Int))] ++ List.replicate 21 .any, [.elems 46 2 n (prG L), .row 24 32 x.j (lfG L)]⟩) (μ := fun x => n - x.j) ⟨0, Nat.zero_le _⟩ (by kernel_rfl) [0, 1] ?_ ?_
    · refine ⟨rfl, by decide, ?_, ?_⟩ <;> repeat' (first | exact trivial | exact rfl | apply And.intro | exact (fun _ _ _ _ => Cell.le_refl _) | (intro i hi; rfl) | (intro i hi; exact absurd hi (Nat.not_lt_zero _)))
    rintro ⟨j, hjn⟩
    unfold sRLeaf
    generalize hg0 : (List.length : List PP → Nat) = g0
    generalize hL : lft Tryd.prog _ = L
    generalize hA : Arith.std = A
    set_option cbv.maxSteps 4000000 in cbv
    subst hA hg0 hL
    refine Ife.mk (fun h => ?_) (fun h => ?_)
    · have h : (j : Int) < (n : Int) := of_decide_eq_true (p := (j : Int) < (n : Int)) h
      have hj2 : j < n := Int.ofNat_lt.mp h
      have hsz := szB_iff.1 (hz.at (i := j) (by omega))
      refine Need.mk (by show 0 ≤ (j : Int) ∧ (j : Int) < (n : Int); omega) fun _ => Need.mk (by show (j : Int).toNat < n; omega) fun _ => Need.mk (by show 0 ≤ (j : Int) ∧ (j : Int) < (n : Int); omega) fun _ => Need.mk (by show (j : Int).toNat < n; omega) fun _ => ?_
      refine Need.mk ⟨by show (prK L j).length ≤ 1000000000; omega, by show (prV L j).length ≤ 1000000000; omega⟩ fun _ => ?_
      refine Need.mk (by show j + 1 ≤ maxLen ∧ (j + 1) * 32 ≤ 140737488355328; unfold maxLen; omega) fun _ => Need.mk (by show fitStd .i64 ((j : Int) + 1); unfold fitStd; omega) fun _ => ?_
      have hp := lf_push (L := L) (m := j)
      refine ⟨⟨j + 1, by omega⟩, [0, 3], (by show n - (j + 1) < n - j; omega), ?_⟩
      refine ⟨rfl, (by decide), ?_, ?_⟩ <;> repeat' (first | exact trivial | exact hp | exact ej | exact rfl | apply And.intro | exact (fun _ _ _ _ => Cell.le_refl _) | (intro i hi; rfl) | (intro i hi; exact absurd hi (Nat.not_lt_zero _)))
    · have h : ¬ (j : Int) < (n : Int) := of_decide_eq_false (p := (j : Int) < (n : Int)) h
      have ej : j = n := by have : ¬ j < n := fun q => h (Int.ofNat_lt.mpr q)
                            omega
      exact ⟨[0, 1], ⟨rfl, (by repeat' (first | exact trivial | exact hp | exact ej | exact rfl | apply And.intro | exact (fun _ _ _ _ => Cell.le_refl _) | (intro i hi; rfl) | (intro i hi; exact absurd hi (Nat.not_lt_zero _)))), (by show List.Nodup [1]; decide), rfl, by repeat' (first | exact trivial | exact hp | exact ej | exact rfl | apply And.intro | exact (fun _ _ _ _ => Cell.le_refl _) | (intro i hi; rfl) | (intro i hi; exact absurd hi (Nat.not_lt_zero _)))⟩⟩

def sRRtOf : SpecF
  | [.c (.row 0)], [.elems ty one n get] => some (rlvPre ty one n get, .agg (hashC (rootL (prL n get))), [.dead])
  | _, _ => none

set_option maxRecDepth 100000 in
set_option maxHeartbeats 8000000 in
theorem rrtOfP : Fn Tryd.prog 20 [] [(46, 2)] sRRtOf := by
  have hC : CtsOk Tryd.prog [(82, appFn [] [(46, 2)] sRLvs), (81, appFn [] [(24, 32)] sRTop), (80, appPure sRRoot)] := CtsOk.cons (Fn.ct rlvsP) <| CtsOk.cons (Fn.ct rtopP) <| CtsOk.cons (Pure.ct rrootP) <| CtsOk.nil _
  refine Fn.of (E := tbRf) [] 0 [] tbRf_ok hC (by kernel_rfl) Tryd.func20 rfl rfl rfl (by kernel_rfl) (by kernel_rfl) 1 24 32 ?_ ?_
  · intro args h pre r h' hs
    unfold sRRtOf at hs
    split at hs
    · cases hs; exact ⟨rfl, rfl, Nat.le_of_ble_eq_true rfl⟩
    · cases hs
  · intro args h pre r h' hs hp
    unfold sRRtOf at hs
    split at hs
    rotate_left
    · cases hs
    rename_i ty one n get
    cases hs
    obtain ⟨⟨rfl, rfl, hst, hm⟩, hz⟩ := hp
    refine ⟨[.elems 46 2 n (prG (prL n get))], ⟨⟨rfl, rfl, rfl, fun i hi => hst.eq hi⟩, trivial⟩, ?_⟩
    have hL : (prL n get).length = n := prL_len
    have ePR : prL n (prG (prL n get)) = prL n get := by
      have := prL_prG (prL n get)
      rwa [hL] at this
    generalize prL n get = L at hL hz ePR ⊢
    unfold sRLvs sRTop sRRoot
    generalize hg0 : (List.length : List PP → Nat) = g0
    generalize hA : Arith.std = A
    set_option cbv.maxSteps 4000000 in cbv
    subst hA hg0
    refine Need.mk ⟨⟨rfl, rfl, prAt_prG _ L, hm⟩, by rw [ePR]; exact hz⟩ fun _ => ?_
    rw [ePR]
    refine Need.mk ⟨rfl, rfl, lfG_hash L n, by show n ≤ 1073741824; omega⟩ fun _ => ?_
    refine Need.mk (topG_hash (lfG_hash L n) 0 n (by omega)) fun _ => ?_
    have eR : rootL L = rootF (n : Int) (u8s (hashC (topG (lfG L) n))) := by unfold rootL; rw [hL]
    rw [eR]
    exact ⟨[0], ⟨rfl, (by repeat' (first | exact trivial | exact rfl | apply And.intro | exact (fun _ _ _ _ => Cell.le_refl _) | (intro i hi; rfl) | (intro i hi; exact absurd hi (Nat.not_lt_zero _)))), (by decide), rfl, by repeat' (first | exact trivial | exact rfl | apply And.intro | exact (fun _ _ _ _ => Cell.le_refl _) | (intro i hi; rfl) | (intro i hi; exact absurd hi (Nat.not_lt_zero _)))⟩⟩

def sRLAt : SpecF
  | [.c (.row 0), .c (.row 1), .c (.int .i64 i)], [.elems ty one n get, .elems ty' one' n' get'] => some (rlaPre ty one n get ty' one' n' get' i, .agg [.str (prK (prL n get) i.toNat), .str (prV (prL n get) i.toNat), .int .i64 i, .row 2], [.dead, .dead, .row 24 32 (wayG (lfG (prL n get)) n i).length (hashesG (wayG (lfG (prL n get)) n i))])
  | _, _ => none

set_option maxRecDepth 100000 in
set_option maxHeartbeats 8000000 in
theorem rlAtP : Fn Tryd.prog 86 [] [(46, 2), (24, 32)] sRLAt := by
  have hC : CtsOk Tryd.prog [(126, appFn [] [(24, 32)] sRWay)] := CtsOk.cons (Fn.ct rwayP) <| CtsOk.nil _
  refine Fn.of (E := tbRf) [] 0 [(1, [(2002, false), (0, true), (1, true), (2, true), (3, true), (4, true), (5, true), (6, true), (7, true), (8, true), (9, true), (10, true), (11, true), (12, true), (13, false), (14, true), (15, false)])] tbRf_ok hC (by kernel_rfl) Tryd.func86 rfl rfl rfl (by kernel_rfl) (by kernel_rfl) 2 24 32 ?_ ?_
  · intro args h pre r h' hs
    unfold sRLAt at hs
    split at hs
    · cases hs; exact ⟨rfl, rfl, Nat.le_of_ble_eq_true rfl⟩
    · cases hs
  · intro args h pre r h' hs hp
    unfold sRLAt at hs
    split at hs
    rotate_left
    · cases hs
    rename_i i ty one n get ty' one' n' get'
    cases hs
    obtain ⟨⟨rfl, rfl, hst, hm⟩, ⟨rfl, rfl, rfl, hgl⟩, hq⟩ := hp
    refine ⟨[.elems 46 2 n' (prG (prL n' get)), .elems 24 32 n' (lfG (prL n' get))], ⟨⟨rfl, rfl, rfl, fun i hi => hst.eq hi⟩, ⟨rfl, rfl, rfl, fun i hi => hgl i hi⟩, trivial⟩, ?_⟩
    have hL : (prL n' get).length = n' := prL_len
    generalize prL n' get = L at hL hgl ⊢
    unfold sRWay
    generalize hg0 : (List.length : List PP → Nat) = g0
    generalize hg1 : (List.length : List (Nat → Int) → Nat) = g1
    generalize hA : Arith.std = A
    set_option cbv.maxSteps 4000000 in cbv
    subst hA hg0 hg1
    have hq2 : i < (n' : Int) := hq.2
    have hq0 : 0 ≤ i := hq.1
    refine Need.mk hq fun _ => Need.mk (by show i.toNat < n'; omega) fun _ => Need.mk hq fun _ => Need.mk (by show i.toNat < n'; omega) fun _ => ?_
    refine Need.mk ⟨rfl, rfl, lfG_hash L n', by omega⟩ fun _ => ?_
    exact ⟨[0, 1, 4], ⟨rfl, (by repeat' (first | exact trivial | exact rfl | apply And.intro | exact (fun _ _ _ _ => Cell.le_refl _) | (intro i hi; rfl) | (intro i hi; exact absurd hi (Nat.not_lt_zero _)))), (by show List.Nodup [4]; decide), rfl, by repeat' (first | exact trivial | exact rfl | apply And.intro | exact (fun _ _ _ _ => Cell.le_refl _) | (intro i hi; rfl) | (intro i hi; exact absurd hi (Nat.not_lt_zero _)))⟩⟩

end Go.Proofs.YthomoliklfmnkaaDoor.Vx
end

section
/- The document's Make, by the walker. -/
namespace Go.Proofs.YthomoliklfmnkaaDoor.Vx
open Sha
open Go.RowKit
set_option linter.unusedVariables false
set_option linter.unusedSimpArgs false
def lfC (L : List PP) (n : Nat) (i : Int) : List Cell := [.pl (.str (prK L i.toNat)), .pl (.str (prV L i.toNat)), .pl (.int .i64 i), .es true 24 32 (wayG (lfG L) n i).length (hashesG (wayG (lfG L) n i))]
theorem leafG_wayI {L : List PP} {n : Nat} (hL : L.length = n) {i : Int} (h0 : 0 ≤ i) (hi : i < (n : Int)) {P : List PLeaf} {m : Nat} (hn : P.length = m) : ∀ a j, a < m + 1 → j < 4 → Cell.le (pushC m (leafG true P) (lfC L n i) a j) (leafG true (P ++ [mkLeaf L i.toNat]) a j) := by
  obtain ⟨k, rfl⟩ : ∃ k : Nat, i = (k : Int) := ⟨i.toNat, by omega⟩
  have := leafG_way (L := L) (i := k) hn (by omega)
  rw [hL] at this
  exact this
theorem leafG_one {L : List PP} {n : Nat} (hL : L.length = n) {i : Int} (h0 : 0 ≤ i) (hi : i < (n : Int)) : ∀ j, j < 4 → Cell.le ((lfC L n i).getD j (.pl .tt)) (leafG true [mkLeaf L i.toNat] 0 j) := fun j hj => leafG_wayI hL h0 hi (P := []) rfl 0 j (by omega) hj
theorem leafG_p1 {L : List PP} {n : Nat} (hL : L.length = n) {i : Int} (h0 : 0 ≤ i) (hi : i < (n : Int)) {g : Nat → Nat → Cell} : ∀ a j, a < 1 → j < 4 → Cell.le (pushC 0 g (lfC L n i) a j) (leafG true [mkLeaf L i.toNat] a j) := fun a j ha hj => by
  obtain rfl : a = 0 := by omega
  exact leafG_one hL h0 hi j hj
theorem leafG_p2 {L : List PP} {n : Nat} (hL : L.length = n) {i i' : Int} (h0 : 0 ≤ i) (hi : i < (n : Int)) (h0' : 0 ≤ i') (hi' : i' < (n : Int)) {g : Nat → Nat → Cell} : ∀ a j, a < 2 → j < 4 → Cell.le (pushC 1 (pushC 0 g (lfC L n i)) (lfC L n i') a j) (leafG true [mkLeaf L i.toNat, mkLeaf L i'.toNat] a j) := fun a j ha hj => by
  rcases (show a = 0 ∨ a = 1 by omega) with rfl | rfl
  · have := leafG_one hL h0 hi j hj
    rw [← leafG_left (x := mkLeaf L i'.toNat) (by simp)] at this
    exact this
  · exact leafG_wayI hL h0' hi' (P := [mkLeaf L i.toNat]) rfl 1 j (by omega) hj
theorem lfC_new {L : List PP} {n : Nat} {i : Int} : ∀ j, j < 4 → ((lfC L n i).getD j (.pl .tt)).isNew := fun j hj => by
  rcases four hj with rfl | rfl | rfl | rfl
  · trivial
  · trivial
  · trivial
  · exact rfl
attribute [local cbv_opaque] prK prV prL ltB findI findB szB Lib.compareBytes prPre goodAt goodL prPreR KsAt leafF leafPre topG topPre0 rootF rootPre sumI hOf HashC kOf u8s lfG rootL sumsPre lK lV lI lP lN pG leafL leafOf leavesPre mayAt mayL lightAt lightL deep leavesAt0 hNm wyL mkLeaf mkL mkC mkFrom mkTo wayG hashesG wayPre0 mkPre lenL fdB fdH fdPre eqH sizedB rleafPre rtopPre0 rwayPre0 prPreR rlvPre rlaPre
def sRMake : SpecF
  | [.c (.row 0), .c (.str k)], [.elems ty one n get] => some (prPreR ty one n get, .agg [.int .i64 (mkC (prL n get)), .row 1], [.dead, .data true 115 4 (lenL (mkL (prL n get) k)) (leafG true (mkL (prL n get) k))])
  | _, _ => none

set_option maxRecDepth 100000 in
set_option maxHeartbeats 32000000 in
theorem rmakeP : Fn Tryd.prog 23 [] [(46, 2)] sRMake := by
  have hC : CtsOk Tryd.prog [(17, appFn [] [(46, 2)] sRGood), (82, appFn [] [(46, 2)] sRLvs), (86, appFn [] [(46, 2), (24, 32)] sRLAt)] := CtsOk.cons (Fn.ct rgoodP) <| CtsOk.cons (Fn.ct rlvsP) <| CtsOk.cons (Fn.ct rlAtP) <| CtsOk.nil _
  refine Fn.ofZL (E := tbRf) [] 0 [(11, [(0, true), (1, true), (2, true), (3, true), (4, true), (5, true), (6, false), (7, false), (8, false), (1009, false), (9, true), (10, false)]), (13, [(2009, false), (0, true), (1, true), (2, true), (3, true), (4, true), (5, false), (6, false), (7, false), (1008, false), (8, true), (9, false)])] tbRf_ok hC (by kernel_rfl) Tryd.func23 rfl rfl rfl (by kernel_rfl) (by kernel_rfl) 1 (.data true 115 4 0 fun _ _ => .pl .tt) rfl ?_ ?_
  · intro args h pre r h' hs
    unfold sRMake at hs
    split at hs
    · cases hs; exact ⟨rfl, rfl, Nat.le_of_ble_eq_true rfl⟩
    · cases hs
  · intro args h pre r h' hs hp
    unfold sRMake at hs
    split at hs
    rotate_left
    · cases hs
    rename_i k ty one n get
    cases hs
    obtain ⟨rfl, rfl, hst, hm⟩ := hp
    refine ⟨[.elems 46 2 n (prG (prL n get))], ⟨⟨rfl, rfl, rfl, fun i hi => hst.eq hi⟩, trivial⟩, ?_⟩
    have hL : (prL n get).length = n := prL_len
    have ePR : prL n (prG (prL n get)) = prL n get := by
      have := prL_prG (prL n get)
      rwa [hL] at this
    generalize prL n get = L at hL ePR ⊢
    unfold sRGood sRLvs sRLAt
    generalize hg0 : (List.length : List PP → Nat) = g0
    generalize hg1 : (List.length : List (Nat → Int) → Nat) = g1
    generalize hL : lft Tryd.prog _ = L
    generalize hA : Arith.std = A
    set_option cbv.maxSteps 8000000 in cbv
    subst hA hg0 hg1 hL
    have hle := findI_le (L := L) (k := k)
    have hPr : prPreR 46 2 n (prG L) := ⟨rfl, rfl, prAt_prG n L, hm⟩
    refine Need.mk hPr fun _ => ?_
    simp only [ePR]
    refine Ife.mk (fun h => ?_) (fun h => ?_)
    · have h : goodL L = false := by simpa using (show (!goodL L) = true from h)
      have e1 : mkL L k = [] := by unfold mkL; rw [if_neg (by rw [h]; simp)]
      have e2 : mkC L = 0 := by unfold mkC; rw [if_neg (by rw [h]; simp)]
      rw [e1, e2]
      have hZ : ∀ (i j : Nat), i < lenL [] → j < 4 → Cell.le (.pl .tt) (leafG true [] i j) := fun i j hi => absurd hi (Nat.not_lt_zero i)
      exact Or.inl ⟨[], [0, 3], ⟨trivial, rfl, by repeat' (first | exact trivial | exact rfl | apply And.intro | exact (fun _ _ _ _ => Cell.le_refl _) | (intro i hi; rfl) | (intro i hi; exact absurd hi (Nat.not_lt_zero _))), (by show List.Nodup []; exact List.nodup_nil), rfl, by repeat' (first | exact trivial | exact rfl | exact hZ | apply And.intro)⟩⟩
    have hg : goodL L = true := by simpa using (show (!goodL L) = false from h)
    clear h
    obtain ⟨hs, hz⟩ := goodL_iff.1 hg
    have eC : mkC L = (n : Int) := by unfold mkC; rw [if_pos hg, hL]
    show Runs Tryd.prog 1 (.loop _) _ _
    refine loop_ruleR (N := env (lft Tryd.prog 1) 0 .std tbRf [(17, appFn [] [(46, 2)] sRGood), (82, appFn [] [(46, 2)] sRLvs), (86, appFn [] [(46, 2), (24, 32)] sRLAt)] [(11, [(0, true), (1, true), (2, true), (3, true), (4, true), (5, true), (6, false), (7, false), (8, false), (1009, false), (9, true), (10, false)]), (13, [(2009, false), (0, true), (1, true), (2, true), (3, true), (4, true), (5, false), (6, false), (7, false), (1008, false), (8, true), (9, false)])]) rfl tbRf_ok hC (fun c st K _ h => h) (by kernel_rfl) [] (X := LPl L k n)
      (S := fun x => ⟨[.c (.row 0), .c (.str k), .any, .any, .c (.ptr 1 0), .c (.int .i64 (x.j : Int))] ++ List.replicate 72 .any, [.elems 46 2 n (prG L), .cells 27 [.int .i64 0, .val (.slice none 0 0)]]⟩) (μ := fun x => n - x.j) ⟨0, by omega, fun q hq => absurd hq (by omega)⟩ (by kernel_rfl) [0, 1] ?h0 ?rd
    case h0 =>
      refine ⟨rfl, by decide, ?_, ?_⟩ <;> repeat' (first | exact trivial | exact rfl | apply And.intro | exact (fun _ _ _ _ => Cell.le_refl _) | (intro i hi; rfl) | (intro i hi; exact absurd hi (Nat.not_lt_zero _)))
    case rd =>
      rintro ⟨j, hjn, hP⟩
      unfold sRGood sRLvs sRLAt
      generalize hg0 : (List.length : List PP → Nat) = g0
      generalize hg1 : (List.length : List (Nat → Int) → Nat) = g1
      generalize hL : lft Tryd.prog _ = L
      generalize hA : Arith.std = A
      set_option cbv.maxSteps 8000000 in cbv
      subst hA hg0 hg1 hL
      have hrl : rlvPre 46 2 n (prG L) := ⟨hPr, by rw [ePR]; exact hz⟩
      have hla : ∀ i : Int, 0 ≤ i → i < (n : Int) → rlaPre 46 2 n (prG L) 24 32 n (lfG L) i := fun i h0 hi => ⟨hPr, ⟨rfl, rfl, rfl, fun j _ => by rw [ePR]⟩, h0, hi⟩
      have n0 : (0 + 1 ≤ maxLen ∧ (0 + 1) * 64 ≤ 140737488355328) ∧ True := ⟨by unfold maxLen; omega, trivial⟩
      have n1 : (1 + 1 ≤ maxLen ∧ (1 + 1) * 64 ≤ 140737488355328) ∧ True := ⟨by unfold maxLen; omega, trivial⟩
      have hED : (j < L.length → ltB (prK L j) k = false) → findI L k = j := fun h2 => findI_at (by omega) hP h2
      simp only [ePR]
      refine Ife.mk (fun h => ?_) (fun h => ?_)
      · have h : (j : Int) < (n : Int) := of_decide_eq_true (p := (j : Int) < (n : Int)) h
        have hj2 : j < n := Int.ofNat_lt.mp h
        have q1 : 0 ≤ (j : Int) ∧ (j : Int) < (n : Int) := by omega
        have q2 : (j : Int).toNat < n := by omega
        refine Need.mk q1 fun _ => Need.mk q2 fun _ => ?_
        refine Ife.mk (fun h2 => ?_) (fun h2 => ?_)
        · have h2 : ltB (prK L j) k = true := h2
          refine Need.mk (by show fitStd .i64 ((j : Int) + 1); unfold fitStd; omega) fun _ => ?_
          refine ⟨⟨j + 1, by omega, fun q h4 => by
            by_cases hq : q = j
            · rw [hq]; exact h2
            · exact hP q (by omega)⟩, [0, 1], (by show n - (j + 1) < n - j; omega), ?_⟩
          refine ⟨rfl, by decide, ?_, ?_⟩ <;> repeat' (first | exact trivial | exact rfl | apply And.intro | exact (fun _ _ _ _ => Cell.le_refl _) | (intro i hi; rfl) | (intro i hi; exact absurd hi (Nat.not_lt_zero _)))
        have h2 : ltB (prK L j) k = false := h2
        have en := hED fun _ => h2
        refine Need.mk hrl fun _ => ?_
        refine Ife.mk (fun _ => ?_) (fun h3 => absurd h (of_decide_eq_false (p := (j : Int) < (n : Int)) h3))
        refine Need.mk q1 fun _ => Need.mk q2 fun _ => ?_
        refine Ife.mk (fun h3 => ?_) (fun h3 => ?_)
        · have h3 : prK L j = k := of_decide_eq_true (p := prK L j = k) h3
          have hfb : findB L k = true := by unfold findB; rw [en, decide_eq_true h3, decide_eq_true (by omega)]; rfl
          have em : mkL L k = [mkLeaf L (j : Int).toNat] := by unfold mkL; rw [if_pos hg, if_pos hfb, en]; rfl
          refine Need.mk (hla _ q1.1 q1.2) fun _ => Or.inr ?_
          rw [em, eC]
          have hW := leafG_one (L := L) hL q1.1 q1.2
          have hW2 : ∀ i c : Nat, i < 1 → c < 4 → Cell.le ((lfC L n (j : Int)).getD c (.pl .tt)) (leafG true [mkLeaf L (j : Int).toNat] i c) := fun i c hi hc => by
            obtain rfl : i = 0 := by omega
            exact hW c hc
          refine ⟨8, [0, 9], ⟨⟨_, 4, _, lfC L n (j : Int), [7], _, rfl, rfl, trivial, rfl, lfC_new, rfl, (by repeat' (first | exact trivial | exact rfl | apply And.intro | exact (fun _ _ _ _ => Cell.le_refl _) | (intro i hi; rfl) | (intro i hi; exact absurd hi (Nat.not_lt_zero _)))), (by repeat' (first | exact trivial | exact rfl | exact hW2 | apply And.intro))⟩, rfl, (by show List.Nodup []; exact List.nodup_nil), rfl⟩⟩
        · have h3 : ¬ prK L j = k := of_decide_eq_false (p := prK L j = k) h3
          have hfb : ¬ findB L k = true := fun q => h3 (by have := (findB_eq q).2; rwa [en] at this)
          refine Ife.mk (fun h4 => ?_) (fun h4 => ?_)
          · have h4 : (0 : Int) < (j : Int) := of_decide_eq_true (p := (0 : Int) < (j : Int)) h4
            have r1 : 0 ≤ (j : Int) - 1 := by omega
            have r2 : (j : Int) - 1 < (n : Int) := by omega
            have em : mkL L k = [mkLeaf L ((j : Int) - 1).toNat, mkLeaf L (j : Int).toNat] := by
              unfold mkL
              rw [if_pos hg, if_neg hfb, en, if_pos (by omega), if_pos (by omega), show ((j : Int) - 1).toNat = j - 1 by omega]
              rfl
            refine Need.mk (by show fitStd .i64 ((j : Int) - 1); unfold fitStd; omega) fun _ => Need.mk (hla _ r1 r2) fun _ => Need.mk n0 fun _ => ?_
            refine Ife.mk (fun _ => ?_) (fun h3 => absurd h (of_decide_eq_false (p := (j : Int) < (n : Int)) h3))
            refine Need.mk (hla _ q1.1 q1.2) fun _ => Need.mk n1 fun _ => Or.inl ?_
            rw [em, eC]
            have hW := leafG_p2 (L := L) hL r1 r2 q1.1 q1.2 (g := fun _ _ => .pl .tt)
            refine ⟨[14], [0, 14], ⟨?fz1, rfl, (by repeat' (first | exact trivial | exact rfl | apply And.intro | exact (fun _ _ _ _ => Cell.le_refl _) | (intro i hi; rfl) | (intro i hi; exact absurd hi (Nat.not_lt_zero _)))), (by show List.Nodup []; exact List.nodup_nil), rfl, (by repeat' (first | exact trivial | exact rfl | exact hW | apply And.intro))⟩⟩
            case fz1 =>
              refine ⟨fun i c hi hc => ?_, trivial⟩
              rcases (show i = 0 ∨ i = 1 by omega) with rfl | rfl
              · exact lfC_new (L := L) (n := n) (i := (j : Int) - 1) c hc
              · exact lfC_new (L := L) (n := n) (i := (j : Int)) c hc
          · have h4 : ¬ (0 : Int) < (j : Int) := of_decide_eq_false (p := (0 : Int) < (j : Int)) h4
            have em : mkL L k = [mkLeaf L (j : Int).toNat] := by
              unfold mkL
              rw [if_pos hg, if_neg hfb, en, if_neg (by omega), if_pos (by omega)]
              rfl
            refine Ife.mk (fun _ => ?_) (fun h3 => absurd h (of_decide_eq_false (p := (j : Int) < (n : Int)) h3))
            refine Need.mk (hla _ q1.1 q1.2) fun _ => Need.mk n0 fun _ => Or.inl ?_
            rw [em, eC]
            have hW := leafG_p1 (L := L) hL q1.1 q1.2 (g := fun _ _ => .pl .tt)
            refine ⟨[9], [0, 9], ⟨?fz2, rfl, (by repeat' (first | exact trivial | exact rfl | apply And.intro | exact (fun _ _ _ _ => Cell.le_refl _) | (intro i hi; rfl) | (intro i hi; exact absurd hi (Nat.not_lt_zero _)))), (by show List.Nodup []; exact List.nodup_nil), rfl, (by repeat' (first | exact trivial | exact rfl | exact hW | apply And.intro))⟩⟩
            case fz2 =>
              refine ⟨fun i c hi hc => ?_, trivial⟩
              obtain rfl : i = 0 := by omega
              exact lfC_new (L := L) (n := n) (i := (j : Int)) c hc
      · have h : ¬ (j : Int) < (n : Int) := of_decide_eq_false (p := (j : Int) < (n : Int)) h
        have en := hED fun h3 => absurd h3 (by omega)
        have hfb : ¬ findB L k = true := fun q => by have := (findB_eq q).1; omega
        refine Need.mk hrl fun _ => ?_
        refine Ife.mk (fun h3 => absurd (of_decide_eq_true (p := (j : Int) < (n : Int)) h3) h) (fun _ => ?_)
        refine Ife.mk (fun h4 => ?_) (fun h4 => ?_)
        · have h4 : (0 : Int) < (j : Int) := of_decide_eq_true (p := (0 : Int) < (j : Int)) h4
          have r1 : 0 ≤ (j : Int) - 1 := by omega
          have r2 : (j : Int) - 1 < (n : Int) := by omega
          have em : mkL L k = [mkLeaf L ((j : Int) - 1).toNat] := by
            unfold mkL
            rw [if_pos hg, if_neg hfb, en, if_pos (by omega), if_neg (by omega), show ((j : Int) - 1).toNat = j - 1 by omega]
            rfl
          refine Need.mk (by show fitStd .i64 ((j : Int) - 1); unfold fitStd; omega) fun _ => Need.mk (hla _ r1 r2) fun _ => Need.mk n0 fun _ => ?_
          refine Ife.mk (fun h3 => absurd (of_decide_eq_true (p := (j : Int) < (n : Int)) h3) h) (fun _ => Or.inl ?_)
          rw [em, eC]
          have hW := leafG_p1 (L := L) hL r1 r2 (g := fun _ _ => .pl .tt)
          refine ⟨[9], [0, 9], ⟨?fz3, rfl, (by repeat' (first | exact trivial | exact rfl | apply And.intro | exact (fun _ _ _ _ => Cell.le_refl _) | (intro i hi; rfl) | (intro i hi; exact absurd hi (Nat.not_lt_zero _)))), (by show List.Nodup []; exact List.nodup_nil), rfl, (by repeat' (first | exact trivial | exact rfl | exact hW | apply And.intro))⟩⟩
          case fz3 =>
            refine ⟨fun i c hi hc => ?_, trivial⟩
            obtain rfl : i = 0 := by omega
            exact lfC_new (L := L) (n := n) (i := (j : Int) - 1) c hc
        · have h4 : ¬ (0 : Int) < (j : Int) := of_decide_eq_false (p := (0 : Int) < (j : Int)) h4
          have em : mkL L k = [] := by
            unfold mkL
            rw [if_pos hg, if_neg hfb, en, if_neg (by omega), if_neg (by omega)]
            rfl
          refine Ife.mk (fun h3 => absurd (of_decide_eq_true (p := (j : Int) < (n : Int)) h3) h) (fun _ => Or.inl ?_)
          rw [em, eC]
          have hZ : ∀ (i j : Nat), i < lenL [] → j < 4 → Cell.le (.pl .tt) (leafG true [] i j) := fun i j hi => absurd hi (Nat.not_lt_zero i)
          exact ⟨[], [0, 5], ⟨trivial, rfl, by repeat' (first | exact trivial | exact rfl | apply And.intro | exact (fun _ _ _ _ => Cell.le_refl _) | (intro i hi; rfl) | (intro i hi; exact absurd hi (Nat.not_lt_zero _))), (by show List.Nodup []; exact List.nodup_nil), rfl, by repeat' (first | exact trivial | exact rfl | exact hZ | apply And.intro)⟩⟩

end Go.Proofs.YthomoliklfmnkaaDoor.Vx
end

section
/- What a proof shows, by the document: stands, Value, Has, Lacks, by the walker. -/
namespace Go.Proofs.YthomoliklfmnkaaDoor.Vx
open Sha
open Go.RowKit
set_option linter.unusedVariables false
set_option linter.unusedSimpArgs false
def rvlPre (root : List CV) (ty sz n : Nat) (get : Nat → Nat → Cell) : Prop := HashC root ∧ leavesPre ty sz n get
def rstPre (root : List CV) (c : Int) (ty sz n : Nat) (get : Nat → Nat → Cell) (i : Int) : Prop := HashC root ∧ leavesPre ty sz n get ∧ mayL c (leafL n get) = true ∧ 0 ≤ i ∧ i < (n : Int)
theorem under_one {f : Nat → Int} {c : Int} {L : List PLeaf} (h : L.length = 1) : underB f c L = stAt f c L 0 := by
  unfold underB
  rw [h]
  simp [List.range_succ]
attribute [local cbv_opaque] prK prV prL ltB findI findB szB Lib.compareBytes prPre goodAt goodL prPreR KsAt leafF leafPre topG topPre0 rootF rootPre sumI hOf HashC kOf u8s lfG rootL sumsPre lK lV lI lP lN pG leafL leafOf leavesPre mayAt mayL lightAt lightL deep leavesAt0 hNm wyL mkLeaf mkL mkC mkFrom mkTo wayG hashesG wayPre0 mkPre lenL stX stAt underB valB valV lackE lackB unPre fdB fdH fdPre eqH vlPre sizedB rleafPre rfdPre0 rstPre rvlPre
def sStnd : SpecF
  | [.agg root, .agg [.int .i64 c, .row 0], .c (.int .i64 i)], [.data fr ty sz n get] => some (rstPre root c ty sz n get i, .c (.bool (stAt (hOf root) c (leafL n get) i.toNat)), [.dead])
  | _, _ => none

set_option maxRecDepth 100000 in
set_option maxHeartbeats 16000000 in
theorem stndP : Fn Tryd.prog 88 [] [(115, 204)] sStnd := by
  have hC : CtsOk Tryd.prog [(94, appPure sRLeaf), (128, appFn [] [(24, 32)] sRFd), (80, appPure sRRoot)] := CtsOk.cons (Pure.ct rleafP) <| CtsOk.cons (Fn.ct rfdP) <| CtsOk.cons (Pure.ct rrootP) <| CtsOk.nil _
  refine Fn.of (E := tbMk) [] 0 [(2, [(9999, true), (0, true), (1, true), (2, true), (3, true), (4, true), (5, true), (6, true), (7, true), (9, true), (10, true), (3008, false), (3011, false), (12, true), (13, true), (14, true), (15, false), (16, false), (17, true), (2999, false), (15, false), (11, false), (12, true), (13, true), (14, true), (16, false), (17, true), (2999, false), (15, false), (8, false), (11, false), (12, true), (13, true), (14, true), (16, false), (17, true), (2999, false)]), (3, [(0, true), (1, true), (2, true), (3, true), (4, true), (6, true), (5, false), (7, true), (8, true), (9, true)])] tbMk_ok hC (by kernel_rfl) Tryd.func88 rfl rfl rfl (by kernel_rfl) (by kernel_rfl) 1 5 1 ?_ ?_
  · intro args h pre r h' hs
    unfold sStnd at hs
    split at hs
    · cases hs; exact ⟨rfl, rfl, Nat.le_of_ble_eq_true rfl⟩
    · cases hs
  · intro args h pre r h' hs hp
    unfold sStnd at hs
    split at hs
    rotate_left
    · cases hs
    rename_i root c i fr ty sz n get
    cases hs
    obtain ⟨⟨f, rfl, hf_⟩, ⟨rfl, rfl, hst, hok, hm⟩, hmay, hi⟩ := hp
    refine ⟨[.data fr 115 4 n (leafG false (leafL n get))], ⟨⟨rfl, rfl, rfl, rfl, fun i j hi hj => by rw [hst i j hi hj]; exact Cell.le_refl _⟩, trivial⟩, ?_⟩
    have hL : (leafL n get).length = n := leafL_len
    generalize leafL n get = L at hL hok hmay ⊢
    generalize hU : stAt (hOf (hashC f)) c L i.toNat = U
    unfold hashC
    unfold sRLeaf sRFd sRRoot
    generalize hg0 : (List.length : List UInt8 → Nat) = g0
    generalize hL : lft Tryd.prog _ = L
    generalize hA : Arith.std = A
    set_option cbv.maxSteps 4000000 in cbv
    subst hA hg0 hL
    obtain ⟨hcr, hma⟩ := mayL_all hmay
    have hi2 : i < (n : Int) := hi.2
    have hi0 : 0 ≤ i := hi.1
    have hiL : i.toNat < L.length := by omega
    have hA := mayAt_iff.1 (hma _ hiL)
    have hd := deep_30 c (lI L i.toNat)
    have hlf : HashC (hashC (leafF (lK L i.toNat) (lV L i.toNat))) := ⟨_, rfl, fun j => sumI_range _ j⟩
    have p0' : i.toNat < n := by omega
    have p1 : rleafPre (lK L i.toNat) (lV L i.toNat) := ⟨by omega, by omega⟩
    have p2 : rfdPre0 24 32 (lN L i.toNat) (pG (lP L i.toNat)) (hashC (leafF (lK L i.toNat) (lV L i.toNat))) := ⟨rfl, rfl, pG_hashes hok hiL, hlf, by omega⟩
    have p3 : HashC (hashC (fdH (pG (lP L i.toNat)) (hashC (leafF (lK L i.toNat) (lV L i.toNat))) (lN L i.toNat) c (lI L i.toNat))) := ⟨_, rfl, fun j => fdH_range hlf _ _ _ j⟩
    have eS : U = (fdB (lN L i.toNat) c (lI L i.toNat) && eqH (rootF c (hashB (fdH (pG (lP L i.toNat)) (hashC (leafF (lK L i.toNat) (lV L i.toNat))) (lN L i.toNat) c (lI L i.toNat)))) (hOf (hashC f))) := hU.symm
    repeat' (first | refine Both.mk ?_ ?_ | refine Need.mk hi fun _ => ?_ | refine Need.mk p0' fun _ => ?_ | refine Need.mk p1 fun _ => ?_ | refine Need.mk p2 fun _ => ?_)
    all_goals
      refine Ife.mk (fun h => ?_) (fun h => ?_)
      · have h : fdB (lN L i.toNat) c (lI L i.toNat) = true := h
        refine Need.mk p3 fun _ => ?_
        rw [eS, h, Bool.true_and]
        exact ⟨[0], ⟨rfl, by repeat' (first | exact trivial | exact rfl | apply And.intro | exact (fun _ _ _ _ => Cell.le_refl _) | (intro i hi; rfl) | (intro i hi; exact absurd hi (Nat.not_lt_zero _))), by decide, rfl, by repeat' (first | exact trivial | exact rfl | apply And.intro | exact (fun _ _ _ _ => Cell.le_refl _) | (intro i hi; rfl) | (intro i hi; exact absurd hi (Nat.not_lt_zero _)))⟩⟩
      · have h : fdB (lN L i.toNat) c (lI L i.toNat) = false := h
        rw [eS, h, Bool.false_and]
        exact ⟨[0], ⟨rfl, by repeat' (first | exact trivial | exact rfl | apply And.intro | exact (fun _ _ _ _ => Cell.le_refl _) | (intro i hi; rfl) | (intro i hi; exact absurd hi (Nat.not_lt_zero _))), by decide, rfl, by repeat' (first | exact trivial | exact rfl | apply And.intro | exact (fun _ _ _ _ => Cell.le_refl _) | (intro i hi; rfl) | (intro i hi; exact absurd hi (Nat.not_lt_zero _)))⟩⟩

def sRVal : SpecF
  | [.agg root, .agg [.int .i64 c, .row 0], .c (.str k)], [.data fr ty sz n get] => some (rvlPre root ty sz n get, .tup [(some (.str (valV (hOf root) c (leafL n get) k)), []), (some (.bool (valB (hOf root) c (leafL n get) k)), [])], [.dead])
  | _, _ => none

set_option maxRecDepth 100000 in
set_option maxHeartbeats 8000000 in
theorem rvalPrP : Fn Tryd.prog 25 [] [(115, 204)] sRVal := by
  have hC : CtsOk Tryd.prog [(62, appFn [] [(115, 204)] sMayPr), (88, appFn [] [(115, 204)] sStnd)] := CtsOk.cons (Fn.ct rmayPrP) <| CtsOk.cons (Fn.ct stndP) <| CtsOk.nil _
  refine Fn.of (E := tbMk) [] 0 [] tbMk_ok hC (by kernel_rfl) Tryd.func25 rfl rfl rfl (by kernel_rfl) (by kernel_rfl) 1 5 1 ?_ ?_
  · intro args h pre r h' hs
    unfold sRVal at hs
    split at hs
    · cases hs; exact ⟨rfl, rfl, Nat.le_of_ble_eq_true rfl⟩
    · cases hs
  · intro args h pre r h' hs hp
    unfold sRVal at hs
    split at hs
    rotate_left
    · cases hs
    rename_i root c k fr ty sz n get
    cases hs
    obtain ⟨⟨f, rfl, hf_⟩, ⟨rfl, rfl, hst, hok, hm⟩⟩ := hp
    refine ⟨[.data fr 115 4 n (leafG false (leafL n get))], ⟨⟨rfl, rfl, rfl, rfl, fun i j hi hj => by rw [hst i j hi hj]; exact Cell.le_refl _⟩, trivial⟩, ?_⟩
    have hL : (leafL n get).length = n := leafL_len
    generalize leafL n get = L at hL hok ⊢
    have q1 : leavesPre 115 4 n (fun i j => (leafG false L i j).old) := by rw [← hL]; exact leavesPre_old hok (by omega)
    have e1 : leafL n (fun i j => (leafG false L i j).old) = L := by rw [← hL]; exact leaves_old hok
    have hR : HashC (hashC f) := ⟨f, rfl, hf_⟩
    have q2 : mayL c L = true → ∀ i : Int, 0 ≤ i → i < (n : Int) → rstPre (hashC f) c 115 4 n (fun i j => (leafG false L i j).old) i := fun h i h0 hi => ⟨hR, q1, by rw [e1]; exact h, h0, hi⟩
    generalize hV : valV (hOf (hashC f)) c L k = V
    generalize hB : valB (hOf (hashC f)) c L k = B
    generalize hU : hOf (hashC f) = F at hV hB
    unfold hashC at hU ⊢
    unfold sMayPr sStnd
    generalize hg0 : (List.length : List UInt8 → Nat) = g0
    generalize hL : lft Tryd.prog _ = L
    generalize hA : Arith.std = A
    set_option cbv.maxSteps 4000000 in cbv
    subst hA hg0 hL
    refine Need.mk q1 fun _ => ?_
    simp only [e1, hU]
    have fl : B = false → V = [] := fun h => by rw [← hV]; unfold valV; rw [hB, h]; rfl
    refine Ife.mk (fun h => ?_) (fun h => ?_)
    · have h : mayL c L = false := by simpa using (show (!mayL c L) = true from h)
      have hb : B = false := by rw [← hB]; unfold valB; rw [h]; rfl
      rw [fl hb, hb]
      exact ⟨[0], ⟨rfl, by repeat' (first | exact trivial | exact rfl | apply And.intro | exact (fun _ _ _ _ => Cell.le_refl _) | (intro i hi; rfl) | (intro i hi; exact absurd hi (Nat.not_lt_zero _))), by decide, rfl, by repeat' (first | exact trivial | exact rfl | apply And.intro | exact (fun _ _ _ _ => Cell.le_refl _) | (intro i hi; rfl) | (intro i hi; exact absurd hi (Nat.not_lt_zero _)))⟩⟩
    have hmay : mayL c L = true := by simpa using (show (!mayL c L) = false from h)
    clear h
    refine Ife.mk (fun h => ?_) (fun h => ?_)
    · have h : ¬ (n : Int) = 1 := by simpa using (show (!decide ((n : Int) = 1)) = true from h)
      have hb : B = false := by rw [← hB]; unfold valB; rw [hmay, decide_eq_false (show ¬ L.length = 1 by omega)]; rfl
      rw [fl hb, hb]
      exact ⟨[0], ⟨rfl, by repeat' (first | exact trivial | exact rfl | apply And.intro | exact (fun _ _ _ _ => Cell.le_refl _) | (intro i hi; rfl) | (intro i hi; exact absurd hi (Nat.not_lt_zero _))), by decide, rfl, by repeat' (first | exact trivial | exact rfl | apply And.intro | exact (fun _ _ _ _ => Cell.le_refl _) | (intro i hi; rfl) | (intro i hi; exact absurd hi (Nat.not_lt_zero _)))⟩⟩
    have hn : (n : Int) = 1 := by simpa using (show (!decide ((n : Int) = 1)) = false from h)
    clear h
    have hL1 : L.length = 1 := by omega
    refine Need.mk (by show (0 : Int) ≤ 0 ∧ (0 : Int) < (n : Int); omega) fun _ => Need.mk (by show (0 : Int).toNat < n; omega) fun _ => ?_
    refine Ife.mk (fun h => ?_) (fun h => ?_)
    · have h : ¬ lK L 0 = k := by simpa using (show (!decide (lK L 0 = k)) = true from h)
      have hb : B = false := by rw [← hB]; unfold valB; rw [hmay, decide_eq_true hL1, decide_eq_false h]; rfl
      rw [fl hb, hb]
      exact ⟨[0], ⟨rfl, by repeat' (first | exact trivial | exact rfl | apply And.intro | exact (fun _ _ _ _ => Cell.le_refl _) | (intro i hi; rfl) | (intro i hi; exact absurd hi (Nat.not_lt_zero _))), by decide, rfl, by repeat' (first | exact trivial | exact rfl | apply And.intro | exact (fun _ _ _ _ => Cell.le_refl _) | (intro i hi; rfl) | (intro i hi; exact absurd hi (Nat.not_lt_zero _)))⟩⟩
    have hk : lK L 0 = k := by simpa using (show (!decide (lK L 0 = k)) = false from h)
    clear h
    have h01 : (0 : Int) < (n : Int) := by rw [hn]; decide
    refine Need.mk (q2 hmay 0 (Int.le_refl 0) h01) fun _ => ?_
    have hbu : B = stAt F c L 0 := by rw [← hB, ← under_one hL1]; unfold valB; rw [hmay, decide_eq_true hL1, decide_eq_true hk]; rfl
    refine Ife.mk (fun h => ?_) (fun h => ?_)
    · have h : stAt F c L 0 = false := by simpa using (show (!stAt F c L 0) = true from h)
      have hb : B = false := by rw [hbu, h]
      rw [fl hb, hb]
      exact ⟨[0], ⟨rfl, by repeat' (first | exact trivial | exact rfl | apply And.intro | exact (fun _ _ _ _ => Cell.le_refl _) | (intro i hi; rfl) | (intro i hi; exact absurd hi (Nat.not_lt_zero _))), by decide, rfl, by repeat' (first | exact trivial | exact rfl | apply And.intro | exact (fun _ _ _ _ => Cell.le_refl _) | (intro i hi; rfl) | (intro i hi; exact absurd hi (Nat.not_lt_zero _)))⟩⟩
    have h : stAt F c L 0 = true := by simpa using (show (!stAt F c L 0) = false from h)
    have hb : B = true := by rw [hbu, h]
    have hv : V = lV L 0 := by rw [← hV]; unfold valV; rw [hB, hb]; rfl
    refine Need.mk (by show (0 : Int) ≤ 0 ∧ (0 : Int) < (n : Int); omega) fun _ => Need.mk (by show (0 : Int).toNat < n; omega) fun _ => ?_
    rw [hv, hb]
    exact ⟨[0], ⟨rfl, by repeat' (first | exact trivial | exact rfl | apply And.intro | exact (fun _ _ _ _ => Cell.le_refl _) | (intro i hi; rfl) | (intro i hi; exact absurd hi (Nat.not_lt_zero _))), by decide, rfl, by repeat' (first | exact trivial | exact rfl | apply And.intro | exact (fun _ _ _ _ => Cell.le_refl _) | (intro i hi; rfl) | (intro i hi; exact absurd hi (Nat.not_lt_zero _)))⟩⟩

def sRHas : SpecF
  | [.agg root, .agg [.int .i64 c, .row 0], .c (.str k), .c (.str v)], [.data fr ty sz n get] => some (rvlPre root ty sz n get, .c (.bool ((valB (hOf root) c (leafL n get) k) && decide ((valV (hOf root) c (leafL n get) k) = v))), [.dead])
  | _, _ => none

set_option maxRecDepth 100000 in
set_option maxHeartbeats 8000000 in
theorem rhasPrP : Fn Tryd.prog 27 [] [(115, 204)] sRHas := by
  have hC : CtsOk Tryd.prog [(25, appFn [] [(115, 204)] sRVal)] := CtsOk.cons (Fn.ct rvalPrP) <| CtsOk.nil _
  refine Fn.of (E := tbMk) [] 0 [] tbMk_ok hC (by kernel_rfl) Tryd.func27 rfl rfl rfl (by kernel_rfl) (by kernel_rfl) 1 5 1 ?_ ?_
  · intro args h pre r h' hs
    unfold sRHas at hs
    split at hs
    · cases hs; exact ⟨rfl, rfl, Nat.le_of_ble_eq_true rfl⟩
    · cases hs
  · intro args h pre r h' hs hp
    unfold sRHas at hs
    split at hs
    rotate_left
    · cases hs
    rename_i root c k v fr ty sz n get
    cases hs
    obtain ⟨⟨f, rfl, hf_⟩, ⟨rfl, rfl, hst, hok, hm⟩⟩ := hp
    refine ⟨[.data fr 115 4 n (leafG false (leafL n get))], ⟨⟨rfl, rfl, rfl, rfl, fun i j hi hj => by rw [hst i j hi hj]; exact Cell.le_refl _⟩, trivial⟩, ?_⟩
    have hL : (leafL n get).length = n := leafL_len
    generalize leafL n get = L at hL hok ⊢
    have q1 : leavesPre 115 4 n (fun i j => (leafG false L i j).old) := by rw [← hL]; exact leavesPre_old hok (by omega)
    have e1 : leafL n (fun i j => (leafG false L i j).old) = L := by rw [← hL]; exact leaves_old hok
    have hR : HashC (hashC f) := ⟨f, rfl, hf_⟩
    have q2 : mayL c L = true → ∀ i : Int, 0 ≤ i → i < (n : Int) → rstPre (hashC f) c 115 4 n (fun i j => (leafG false L i j).old) i := fun h i h0 hi => ⟨hR, q1, by rw [e1]; exact h, h0, hi⟩
    generalize hV : valV (hOf (hashC f)) c L k = V
    generalize hB : valB (hOf (hashC f)) c L k = B
    unfold hashC at hV hB ⊢
    unfold sRVal
    generalize hg0 : (List.length : List UInt8 → Nat) = g0
    generalize hL : lft Tryd.prog _ = L
    generalize hA : Arith.std = A
    set_option cbv.maxSteps 4000000 in cbv
    subst hA hg0 hL
    refine Need.mk ⟨hR, q1⟩ fun _ => ?_
    simp only [e1, hV, hB]
    refine Ife.mk (fun h => ?_) (fun h => ?_)
    · have h : B = true := h
      rw [h, Bool.true_and]
      exact ⟨[0], ⟨rfl, by repeat' (first | exact trivial | exact rfl | apply And.intro | exact (fun _ _ _ _ => Cell.le_refl _) | (intro i hi; rfl) | (intro i hi; exact absurd hi (Nat.not_lt_zero _))), by decide, rfl, by repeat' (first | exact trivial | exact rfl | apply And.intro | exact (fun _ _ _ _ => Cell.le_refl _) | (intro i hi; rfl) | (intro i hi; exact absurd hi (Nat.not_lt_zero _)))⟩⟩
    · have h : B = false := h
      rw [h, Bool.false_and]
      exact ⟨[0], ⟨rfl, by repeat' (first | exact trivial | exact rfl | apply And.intro | exact (fun _ _ _ _ => Cell.le_refl _) | (intro i hi; rfl) | (intro i hi; exact absurd hi (Nat.not_lt_zero _))), by decide, rfl, by repeat' (first | exact trivial | exact rfl | apply And.intro | exact (fun _ _ _ _ => Cell.le_refl _) | (intro i hi; rfl) | (intro i hi; exact absurd hi (Nat.not_lt_zero _)))⟩⟩

def sRLacks : SpecF
  | [.agg root, .agg [.int .i64 c, .row 0], .c (.str k)], [.data fr ty sz n get] => some (rvlPre root ty sz n get, .c (.bool (lackB (hOf root) c (leafL n get) k)), [.dead])
  | _, _ => none

set_option maxRecDepth 100000 in
set_option maxHeartbeats 32000000 in
theorem rlacksPrP : Fn Tryd.prog 29 [] [(115, 204)] sRLacks := by
  have hC : CtsOk Tryd.prog [(62, appFn [] [(115, 204)] sMayPr), (88, appFn [] [(115, 204)] sStnd), (80, appPure sRRoot)] := CtsOk.cons (Fn.ct rmayPrP) <| CtsOk.cons (Fn.ct stndP) <| CtsOk.cons (Pure.ct rrootP) <| CtsOk.nil _
  refine Fn.of (E := tbMk) [] 0 [(10, [(0, true), (1, true), (2, true), (3, true), (4, true), (5, true), (6, false), (7, true), (8, true), (9, true)]), (14, [(9999, true), (0, true), (1, true), (2, true), (4, true), (5, true), (6, true), (3003, false), (3007, false), (3008, false), (9, false), (10, false), (11, false), (2999, false), (9, false), (8, false), (10, false), (11, false), (2999, false), (3008, false), (3007, false), (9, false), (10, false), (11, false), (2999, false), (9, false), (3007, false), (10, false), (11, false), (2999, false), (10, false), (7, false), (11, false), (2999, false), (9, false), (3007, false), (8, false), (10, false), (11, false), (2999, false), (8, false), (3007, false), (10, false), (11, false), (2999, false), (10, false), (7, false), (11, false), (2999, false), (3007, false), (3003, false), (3008, false), (9, false), (10, false), (11, false), (2999, false), (9, false), (8, false), (10, false), (11, false), (2999, false), (3008, false), (3003, false), (9, false), (10, false), (11, false), (2999, false), (9, false), (3, false), (10, false), (11, false), (2999, false), (9, false), (3003, false), (8, false), (10, false), (11, false), (2999, false), (8, false), (3, false), (10, false), (11, false), (2999, false), (3008, false), (3003, false), (3007, false), (9, false), (10, false), (11, false), (2999, false), (9, false), (3007, false), (10, false), (11, false), (2999, false), (10, false), (7, false), (11, false), (2999, false), (3007, false), (3003, false), (9, false), (10, false), (11, false), (2999, false), (9, false), (3, false), (10, false), (11, false), (2999, false), (9, false), (3003, false), (3007, false), (10, false), (11, false), (2999, false), (10, false), (7, false), (11, false), (2999, false), (7, false), (3, false), (10, false), (11, false), (2999, false), (9, false), (3003, false), (3007, false), (8, false), (10, false), (11, false), (2999, false), (8, false), (3007, false), (10, false), (11, false), (2999, false), (10, false), (7, false), (11, false), (2999, false), (3007, false), (3003, false), (8, false), (10, false), (11, false), (2999, false), (8, false), (3, false), (10, false), (11, false), (2999, false), (8, false), (3003, false), (3007, false), (10, false), (11, false), (2999, false), (10, false), (7, false), (11, false), (2999, false), (7, false), (3, false), (10, false), (11, false), (2999, false)])] tbMk_ok hC (by kernel_rfl) Tryd.func29 rfl rfl rfl (by kernel_rfl) (by kernel_rfl) 1 5 1 ?_ ?_
  · intro args h pre r h' hs
    unfold sRLacks at hs
    split at hs
    · cases hs; exact ⟨rfl, rfl, Nat.le_of_ble_eq_true rfl⟩
    · cases hs
  · intro args h pre r h' hs hp
    unfold sRLacks at hs
    split at hs
    rotate_left
    · cases hs
    rename_i root c k fr ty sz n get
    cases hs
    obtain ⟨⟨f, rfl, hf_⟩, ⟨rfl, rfl, hst, hok, hm⟩⟩ := hp
    refine ⟨[.data fr 115 4 n (leafG false (leafL n get))], ⟨⟨rfl, rfl, rfl, rfl, fun i j hi hj => by rw [hst i j hi hj]; exact Cell.le_refl _⟩, trivial⟩, ?_⟩
    have hL : (leafL n get).length = n := leafL_len
    generalize leafL n get = L at hL hok ⊢
    have q1 : leavesPre 115 4 n (fun i j => (leafG false L i j).old) := by rw [← hL]; exact leavesPre_old hok (by omega)
    have e1 : leafL n (fun i j => (leafG false L i j).old) = L := by rw [← hL]; exact leaves_old hok
    have hR : HashC (hashC f) := ⟨f, rfl, hf_⟩
    have q2 : mayL c L = true → ∀ i : Int, 0 ≤ i → i < (n : Int) → rstPre (hashC f) c 115 4 n (fun i j => (leafG false L i j).old) i := fun h i h0 hi => ⟨hR, q1, by rw [e1]; exact h, h0, hi⟩
    generalize hB : lackB (hOf (hashC f)) c L k = B
    generalize hU : hOf (hashC f) = F at hB
    unfold hashC at hU ⊢
    unfold sMayPr sStnd sRRoot
    generalize hg0 : (List.length : List UInt8 → Nat) = g0
    generalize hL : lft Tryd.prog _ = L
    generalize hA : Arith.std = A
    set_option cbv.maxSteps 16000000 in cbv
    subst hA hg0 hL
    refine Need.mk q1 fun _ => ?_
    simp only [e1]
    refine Ife.mk (fun h => ?_) (fun h => ?_)
    · have h : mayL c L = false := by simpa using (show (!mayL c L) = true from h)
      have hb : B = false := by rw [← hB]; unfold lackB; rw [h]; rfl
      rw [hb]
      exact ⟨[0], ⟨rfl, by repeat' (first | exact trivial | exact rfl | apply And.intro | exact (fun _ _ _ _ => Cell.le_refl _) | (intro i hi; rfl) | (intro i hi; exact absurd hi (Nat.not_lt_zero _))), by decide, rfl, by repeat' (first | exact trivial | exact rfl | apply And.intro | exact (fun _ _ _ _ => Cell.le_refl _) | (intro i hi; rfl) | (intro i hi; exact absurd hi (Nat.not_lt_zero _)))⟩⟩
    have hmay : mayL c L = true := by simpa using (show (!mayL c L) = false from h)
    clear h
    show Runs Tryd.prog 1 (.loop _) _ _
    refine loop_ruleR (N := env (lft Tryd.prog 1) 0 .std tbMk [(62, appFn [] [(115, 204)] sMayPr), (88, appFn [] [(115, 204)] sStnd), (80, appPure sRRoot)] [(10, [(0, true), (1, true), (2, true), (3, true), (4, true), (5, true), (6, false), (7, true), (8, true), (9, true)]), (14, [(9999, true), (0, true), (1, true), (2, true), (4, true), (5, true), (6, true), (3003, false), (3007, false), (3008, false), (9, false), (10, false), (11, false), (2999, false), (9, false), (8, false), (10, false), (11, false), (2999, false), (3008, false), (3007, false), (9, false), (10, false), (11, false), (2999, false), (9, false), (3007, false), (10, false), (11, false), (2999, false), (10, false), (7, false), (11, false), (2999, false), (9, false), (3007, false), (8, false), (10, false), (11, false), (2999, false), (8, false), (3007, false), (10, false), (11, false), (2999, false), (10, false), (7, false), (11, false), (2999, false), (3007, false), (3003, false), (3008, false), (9, false), (10, false), (11, false), (2999, false), (9, false), (8, false), (10, false), (11, false), (2999, false), (3008, false), (3003, false), (9, false), (10, false), (11, false), (2999, false), (9, false), (3, false), (10, false), (11, false), (2999, false), (9, false), (3003, false), (8, false), (10, false), (11, false), (2999, false), (8, false), (3, false), (10, false), (11, false), (2999, false), (3008, false), (3003, false), (3007, false), (9, false), (10, false), (11, false), (2999, false), (9, false), (3007, false), (10, false), (11, false), (2999, false), (10, false), (7, false), (11, false), (2999, false), (3007, false), (3003, false), (9, false), (10, false), (11, false), (2999, false), (9, false), (3, false), (10, false), (11, false), (2999, false), (9, false), (3003, false), (3007, false), (10, false), (11, false), (2999, false), (10, false), (7, false), (11, false), (2999, false), (7, false), (3, false), (10, false), (11, false), (2999, false), (9, false), (3003, false), (3007, false), (8, false), (10, false), (11, false), (2999, false), (8, false), (3007, false), (10, false), (11, false), (2999, false), (10, false), (7, false), (11, false), (2999, false), (3007, false), (3003, false), (8, false), (10, false), (11, false), (2999, false), (8, false), (3, false), (10, false), (11, false), (2999, false), (8, false), (3003, false), (3007, false), (10, false), (11, false), (2999, false), (10, false), (7, false), (11, false), (2999, false), (7, false), (3, false), (10, false), (11, false), (2999, false)])]) rfl tbMk_ok hC (fun c st K _ h => h) (by kernel_rfl) [] (X := LIx n (stAt F c L))
      (S := fun x => ⟨[.any, .any, .c (.str k), .c (.ptr 1 0), .c (.ptr 2 0), .any, .any, .c (.int .i64 x.i)] ++ List.replicate 87 .any, [.data fr 115 4 n (leafG false L), .cells 24 [.int .u8 (f 0), .int .u8 (f 1), .int .u8 (f 2), .int .u8 (f 3), .int .u8 (f 4), .int .u8 (f 5), .int .u8 (f 6), .int .u8 (f 7), .int .u8 (f 8), .int .u8 (f 9), .int .u8 (f 10), .int .u8 (f 11), .int .u8 (f 12), .int .u8 (f 13), .int .u8 (f 14), .int .u8 (f 15), .int .u8 (f 16), .int .u8 (f 17), .int .u8 (f 18), .int .u8 (f 19), .int .u8 (f 20), .int .u8 (f 21), .int .u8 (f 22), .int .u8 (f 23), .int .u8 (f 24), .int .u8 (f 25), .int .u8 (f 26), .int .u8 (f 27), .int .u8 (f 28), .int .u8 (f 29), .int .u8 (f 30), .int .u8 (f 31)], .cells 27 [.int .i64 c, .row 0]]⟩) (μ := fun x => n - x.i.toNat) ⟨0, by omega, by omega, fun k hk => absurd hk (by omega)⟩ (by kernel_rfl) [0, 1, 2] ?h0 ?rd
    case h0 =>
      refine ⟨rfl, by decide, ?_, ?_⟩ <;> repeat' (first | exact trivial | exact rfl | apply And.intro | exact (fun _ _ _ _ => Cell.le_refl _) | (intro i hi; rfl) | (intro i hi; exact absurd hi (Nat.not_lt_zero _)))
    case rd =>
      rintro ⟨i, hi0, hin, hP⟩
      unfold sMayPr sStnd sRRoot
      generalize hg0 : (List.length : List UInt8 → Nat) = g0
      generalize hL : lft Tryd.prog _ = L
      generalize hA : Arith.std = A
      set_option cbv.maxSteps 16000000 in cbv
      subst hA hg0 hL
      simp only [e1, hU]
      replace hi0 : 0 ≤ i := hi0
      replace hin : i ≤ @Nat.cast Int instNatCastInt n := hin
      replace hP : ∀ k, k < i.toNat → stAt F c L k = true := hP
      refine Ife.mk (fun hlt => ?_) (fun hlt => ?_)
      · replace hlt : i < @Nat.cast Int instNatCastInt n := of_decide_eq_true (p := i < (n : Int)) hlt
        have hiL : i.toNat < L.length := by omega
        refine Need.mk (q2 hmay i hi0 hlt) fun _ => ?_
        refine Ife.mk (fun h => ?_) (fun h => ?_)
        · have h : stAt F c L i.toNat = false := by simpa using (show (!stAt F c L i.toNat) = true from h)
          have hun : underB F c L = false := all_no hiL (by rw [h]; simp)
          have hb : B = false := by rw [← hB]; unfold lackB; rw [hmay, hun]; rfl
          rw [hb]
          exact ⟨[0], ⟨rfl, by repeat' (first | exact trivial | exact rfl | apply And.intro | exact (fun _ _ _ _ => Cell.le_refl _) | (intro i hi; rfl) | (intro i hi; exact absurd hi (Nat.not_lt_zero _))), by decide, rfl, by repeat' (first | exact trivial | exact rfl | apply And.intro | exact (fun _ _ _ _ => Cell.le_refl _) | (intro i hi; rfl) | (intro i hi; exact absurd hi (Nat.not_lt_zero _)))⟩⟩
        · have h : stAt F c L i.toNat = true := by simpa using (show (!stAt F c L i.toNat) = false from h)
          refine Need.mk (by show fitStd .i64 (i + 1); unfold fitStd; omega) fun _ => ?_
          refine ⟨⟨i + 1, by omega, by omega, lix_next hi0 hP h⟩, [0, 1, 2], (by show n - (i + 1).toNat < n - i.toNat; omega), ?_⟩
          refine ⟨rfl, by decide, ?_, ?_⟩ <;> repeat' (first | exact trivial | exact rfl | apply And.intro | exact (fun _ _ _ _ => Cell.le_refl _) | (intro i hi; rfl) | (intro i hi; exact absurd hi (Nat.not_lt_zero _)))
      replace hlt : ¬ i < @Nat.cast Int instNatCastInt n := of_decide_eq_false (p := i < (n : Int)) hlt
      have hun : underB F c L = true := all_yes hP (by omega)
      have hbe : B = lackE F c L k := by rw [← hB]; unfold lackB; rw [hmay, hun]; rfl
      unfold lackE at hbe
      refine Ife.mk (fun h => ?_) (fun h => ?_)
      · have h : (n : Int) = 0 := of_decide_eq_true (p := (n : Int) = 0) h
        rw [if_pos (by omega)] at hbe
        refine Ife.mk (fun h2 => ?_) (fun h2 => ?_)
        · have h2 : c = 0 := of_decide_eq_true (p := c = 0) h2
          refine Need.mk ⟨fun _ => 0, rfl, fun _ => ⟨Int.le_refl 0, (by decide : (0 : Int) < 256)⟩⟩ fun _ => ?_
          rw [show B = eqH (hOf (hashC f)) (rootF 0 (hashB fun _ => 0)) by rw [hbe, decide_eq_true h2, Bool.true_and, ← hU]; rfl]
          exact ⟨[0], ⟨rfl, by repeat' (first | exact trivial | exact rfl | apply And.intro | exact (fun _ _ _ _ => Cell.le_refl _) | (intro i hi; rfl) | (intro i hi; exact absurd hi (Nat.not_lt_zero _))), by decide, rfl, by repeat' (first | exact trivial | exact rfl | apply And.intro | exact (fun _ _ _ _ => Cell.le_refl _) | (intro i hi; rfl) | (intro i hi; exact absurd hi (Nat.not_lt_zero _)))⟩⟩
        · have h2 : ¬ c = 0 := of_decide_eq_false (p := c = 0) h2
          rw [show B = false by rw [hbe, decide_eq_false h2]; rfl]
          exact ⟨[0], ⟨rfl, by repeat' (first | exact trivial | exact rfl | apply And.intro | exact (fun _ _ _ _ => Cell.le_refl _) | (intro i hi; rfl) | (intro i hi; exact absurd hi (Nat.not_lt_zero _))), by decide, rfl, by repeat' (first | exact trivial | exact rfl | apply And.intro | exact (fun _ _ _ _ => Cell.le_refl _) | (intro i hi; rfl) | (intro i hi; exact absurd hi (Nat.not_lt_zero _)))⟩⟩
      have hn0 : ¬ (n : Int) = 0 := of_decide_eq_false (p := (n : Int) = 0) h
      rw [if_neg (by omega)] at hbe
      refine Ife.mk (fun h => ?_) (fun h => ?_)
      · have h : (n : Int) = 1 := of_decide_eq_true (p := (n : Int) = 1) h
        rw [if_pos (by omega)] at hbe
        have hL1 : L.length = 1 := by omega
        have p0 : (0 : Int) ≤ 0 ∧ (0 : Int) < (n : Int) := by omega
        have p1 : (0 : Int).toNat < n := by omega
        have hcr := (mayL_all hmay).1
        have p2 : fitStd .i64 (c - 1) := by unfold fitStd; omega
        refine Need.mk p0 fun _ => Need.mk p1 fun _ => ?_
        refine Ife.mk (fun h2 => ?_) (fun h2 => ?_)
        · have h2 : lI L 0 = 0 := of_decide_eq_true (p := lI L 0 = 0) h2
          refine Ife.mk (fun h3 => ?_) (fun h3 => ?_)
          · have h3 : ltB k (lK L 0) = true := h3
            rw [show B = true by rw [hbe, decide_eq_true h2, h3]; rfl]
            exact ⟨[0], ⟨rfl, by repeat' (first | exact trivial | exact rfl | apply And.intro | exact (fun _ _ _ _ => Cell.le_refl _) | (intro i hi; rfl) | (intro i hi; exact absurd hi (Nat.not_lt_zero _))), by decide, rfl, by repeat' (first | exact trivial | exact rfl | apply And.intro | exact (fun _ _ _ _ => Cell.le_refl _) | (intro i hi; rfl) | (intro i hi; exact absurd hi (Nat.not_lt_zero _)))⟩⟩
          · have h3 : ltB k (lK L 0) = false := h3
            refine Need.mk p2 fun _ => ?_
            refine Ife.mk (fun h4 => ?_) (fun h4 => ?_)
            · have h4 : lI L 0 = c - 1 := of_decide_eq_true (p := lI L 0 = c - 1) h4
              rw [show B = ltB (lK L 0) k by rw [hbe, decide_eq_true h2, h3, decide_eq_true h4]; rfl]
              exact ⟨[0], ⟨rfl, by repeat' (first | exact trivial | exact rfl | apply And.intro | exact (fun _ _ _ _ => Cell.le_refl _) | (intro i hi; rfl) | (intro i hi; exact absurd hi (Nat.not_lt_zero _))), by decide, rfl, by repeat' (first | exact trivial | exact rfl | apply And.intro | exact (fun _ _ _ _ => Cell.le_refl _) | (intro i hi; rfl) | (intro i hi; exact absurd hi (Nat.not_lt_zero _)))⟩⟩
            · have h4 : ¬ lI L 0 = c - 1 := of_decide_eq_false (p := lI L 0 = c - 1) h4
              rw [show B = false by rw [hbe, decide_eq_true h2, h3, decide_eq_false h4]; rfl]
              exact ⟨[0], ⟨rfl, by repeat' (first | exact trivial | exact rfl | apply And.intro | exact (fun _ _ _ _ => Cell.le_refl _) | (intro i hi; rfl) | (intro i hi; exact absurd hi (Nat.not_lt_zero _))), by decide, rfl, by repeat' (first | exact trivial | exact rfl | apply And.intro | exact (fun _ _ _ _ => Cell.le_refl _) | (intro i hi; rfl) | (intro i hi; exact absurd hi (Nat.not_lt_zero _)))⟩⟩
        · have h2 : ¬ lI L 0 = 0 := of_decide_eq_false (p := lI L 0 = 0) h2
          refine Need.mk p2 fun _ => ?_
          refine Ife.mk (fun h4 => ?_) (fun h4 => ?_)
          · have h4 : lI L 0 = c - 1 := of_decide_eq_true (p := lI L 0 = c - 1) h4
            rw [show B = ltB (lK L 0) k by rw [hbe, decide_eq_false h2, decide_eq_true h4]; rfl]
            exact ⟨[0], ⟨rfl, by repeat' (first | exact trivial | exact rfl | apply And.intro | exact (fun _ _ _ _ => Cell.le_refl _) | (intro i hi; rfl) | (intro i hi; exact absurd hi (Nat.not_lt_zero _))), by decide, rfl, by repeat' (first | exact trivial | exact rfl | apply And.intro | exact (fun _ _ _ _ => Cell.le_refl _) | (intro i hi; rfl) | (intro i hi; exact absurd hi (Nat.not_lt_zero _)))⟩⟩
          · have h4 : ¬ lI L 0 = c - 1 := of_decide_eq_false (p := lI L 0 = c - 1) h4
            rw [show B = false by rw [hbe, decide_eq_false h2, decide_eq_false h4]; rfl]
            exact ⟨[0], ⟨rfl, by repeat' (first | exact trivial | exact rfl | apply And.intro | exact (fun _ _ _ _ => Cell.le_refl _) | (intro i hi; rfl) | (intro i hi; exact absurd hi (Nat.not_lt_zero _))), by decide, rfl, by repeat' (first | exact trivial | exact rfl | apply And.intro | exact (fun _ _ _ _ => Cell.le_refl _) | (intro i hi; rfl) | (intro i hi; exact absurd hi (Nat.not_lt_zero _)))⟩⟩
      have hn1 : ¬ (n : Int) = 1 := of_decide_eq_false (p := (n : Int) = 1) h
      rw [if_neg (by omega)] at hbe
      have hcr := (mayL_all hmay).1
      have p0 : (0 : Int) ≤ 0 ∧ (0 : Int) < (n : Int) := by omega
      have p1 : (0 : Int).toNat < n := by omega
      have q0 : (0 : Int) ≤ 1 ∧ (1 : Int) < (n : Int) := by omega
      have q1' : (1 : Int).toNat < n := by omega
      have m0 := mayAt_iff.1 ((mayL_all hmay).2 0 (by omega))
      have m1 := mayAt_iff.1 ((mayL_all hmay).2 1 (by omega))
      have hfit : fitStd .i64 (lI L 0 + 1) := by unfold fitStd; omega
      have hdd : ∀ b : Bool, (decide (lI L 1 - lI L 0 = 1) && b) = (decide (lI L 1 = lI L 0 + 1) && b) := fun b => by
        congr 1
        rw [Bool.eq_iff_iff, decide_eq_true_iff, decide_eq_true_iff]
        omega
      rw [hdd] at hbe
      repeat' (first | refine Both.mk ?_ ?_ | refine Need.mk p0 fun _ => ?_ | refine Need.mk p1 fun _ => ?_ | refine Need.mk q0 fun _ => ?_ | refine Need.mk q1' fun _ => ?_ | refine Need.mk hfit fun _ => ?_)
      all_goals
        refine Ife.mk (fun h2 => ?_) (fun h2 => ?_)
        · have h2 : lI L 1 = lI L 0 + 1 := of_decide_eq_true (p := lI L 1 = lI L 0 + 1) h2
          refine Ife.mk (fun h3 => ?_) (fun h3 => ?_)
          · have h3 : ltB (lK L 0) k = true := h3
            rw [show B = ltB k (lK L 1) by rw [hbe, decide_eq_true h2, h3]; rfl]
            exact ⟨[0], ⟨rfl, by repeat' (first | exact trivial | exact rfl | apply And.intro | exact (fun _ _ _ _ => Cell.le_refl _) | (intro i hi; rfl) | (intro i hi; exact absurd hi (Nat.not_lt_zero _))), by decide, rfl, by repeat' (first | exact trivial | exact rfl | apply And.intro | exact (fun _ _ _ _ => Cell.le_refl _) | (intro i hi; rfl) | (intro i hi; exact absurd hi (Nat.not_lt_zero _)))⟩⟩
          · have h3 : ltB (lK L 0) k = false := h3
            rw [show B = false by rw [hbe, decide_eq_true h2, h3]; rfl]
            exact ⟨[0], ⟨rfl, by repeat' (first | exact trivial | exact rfl | apply And.intro | exact (fun _ _ _ _ => Cell.le_refl _) | (intro i hi; rfl) | (intro i hi; exact absurd hi (Nat.not_lt_zero _))), by decide, rfl, by repeat' (first | exact trivial | exact rfl | apply And.intro | exact (fun _ _ _ _ => Cell.le_refl _) | (intro i hi; rfl) | (intro i hi; exact absurd hi (Nat.not_lt_zero _)))⟩⟩
        · have h2 : ¬ lI L 1 = lI L 0 + 1 := of_decide_eq_false (p := lI L 1 = lI L 0 + 1) h2
          rw [show B = false by rw [hbe, decide_eq_false h2]; rfl]
          exact ⟨[0], ⟨rfl, by repeat' (first | exact trivial | exact rfl | apply And.intro | exact (fun _ _ _ _ => Cell.le_refl _) | (intro i hi; rfl) | (intro i hi; exact absurd hi (Nat.not_lt_zero _))), by decide, rfl, by repeat' (first | exact trivial | exact rfl | apply And.intro | exact (fun _ _ _ _ => Cell.le_refl _) | (intro i hi; rfl) | (intro i hi; exact absurd hi (Nat.not_lt_zero _)))⟩⟩

end Go.Proofs.YthomoliklfmnkaaDoor.Vx
end

section
/- ProofTells, by the walker. -/
namespace Go.Proofs.YthomoliklfmnkaaDoor.Vx
open Sha
open Go.RowKit
set_option linter.unusedVariables false
set_option linter.unusedSimpArgs false
/-- The sums of a proof that comes in. -/
def RawP (K : List PLeaf) : Prop := ∀ x ∈ K, ∀ h ∈ x.p, h.length = 32 ∧ ∀ b ∈ h, 0 ≤ b ∧ b < 256
def ptPre (gg sz0 n0 : Nat) (get0 : Nat → List CV) (ty one n : Nat) (get : Nat → List CV) (root : List CV) (ty2 sz2 m : Nat) (get2 : Nat → Nat → Cell) : Prop := KsAt gg sz0 n0 get0 ∧ (ty = 46 ∧ one = 2 ∧ PrAt n get) ∧ HashC root ∧ leavesAt0 ty2 sz2 m get2 ∧ RawP (leafL m get2)
theorem light_ok {K : List PLeaf} (h : lightL K = true) (hr : RawP K) : K.length ≤ 5 ∧ ∀ x ∈ K, x.ok := by
  unfold lightL at h
  rw [Bool.and_eq_true, decide_eq_true_iff, List.all_eq_true] at h
  refine ⟨h.1, fun x hx => ?_⟩
  obtain ⟨i, hi, rfl⟩ := List.getElem_of_mem hx
  have hl := lightAt_iff.1 (h.2 i (List.mem_range.2 hi))
  have e : K.getD i .none = K[i] := by simp [List.getD, hi]
  unfold lK lV lN lP at hl
  rw [e] at hl
  exact ⟨by omega, by omega, by omega, hr _ hx⟩
attribute [local cbv_opaque] prK prV prL ltB findI findB szB Lib.compareBytes prPre goodAt goodL prPreR KsAt leafF leafPre topG topPre0 rootF rootPre sumI hOf HashC kOf u8s lfG rootL sumsPre lK lV lI lP lN pG leafL leafOf leavesPre mayAt mayL lightAt lightL deep leavesAt0 hNm wyL mkLeaf mkL mkC mkFrom mkTo wayG hashesG wayPre0 mkPre lenL stX stAt underB valB valV lackE lackB unPre fdB fdH fdPre eqH vlPre sizedB ltPrAt ltPrB ltPre pr0 rlvPre rvlPre ptPre
def sTellsPf : SpecF
  | [.c (.row 1), .c (.str key), .c (.str val), .agg root, .agg [.int .i64 c, .row 2], .c (.bool own)], [.glob gg sz0 n0 get0, .elems ty one n get, .data fr ty2 sz2 m get2] => some (ptPre gg sz0 n0 get0 ty one n get root ty2 sz2 m get2, .c .tt, [.dead, .dead, .dead])
  | _, _ => none

set_option maxRecDepth 100000 in
set_option maxHeartbeats 32000000 in
theorem proofTellsP : Fn Tryd.prog 3 [0] [(46, 2), (115, 204)] sTellsPf := by
  have hC : CtsOk Tryd.prog [(13, appFn [0] [] sFirst7), (14, appFn [] [(46, 2)] sLtPr), (15, appFn [] [(115, 204)] sLightPr), (16, appFn [] [(46, 2)] sOwn), (17, appFn [] [(46, 2)] sRGood), (18, appFn [] [(63, 2)] sGood), (19, appFn [0] [(63, 2)] sPRoot), (20, appFn [] [(46, 2)] sRRtOf), (22, appFn [0] [(63, 2)] sMake), (23, appFn [] [(46, 2)] sRMake), (21, appFn [] [(115, 204), (115, 204)] sSamePr), (24, appFn [0] [(115, 204)] sVal), (25, appFn [] [(115, 204)] sRVal), (26, appFn [0] [(115, 204)] sHas), (27, appFn [] [(115, 204)] sRHas), (28, appFn [0] [(115, 204)] sLacks), (29, appFn [] [(115, 204)] sRLacks)] := CtsOk.cons (Fn.ct first7P) <| CtsOk.cons (Fn.ct ltPrP) <| CtsOk.cons (Fn.ct lightPrP) <| CtsOk.cons (Fn.ct ownPrP) <| CtsOk.cons (Fn.ct rgoodP) <| CtsOk.cons (Fn.ct goodP) <| CtsOk.cons (Fn.ct pRootP) <| CtsOk.cons (Fn.ct rrtOfP) <| CtsOk.cons (Fn.ct makeP) <| CtsOk.cons (Fn.ct rmakeP) <| CtsOk.cons (Fn.ct rsamePrP) <| CtsOk.cons (Fn.ct valPrP) <| CtsOk.cons (Fn.ct rvalPrP) <| CtsOk.cons (Fn.ct hasPrP) <| CtsOk.cons (Fn.ct rhasPrP) <| CtsOk.cons (Fn.ct lacksPrP) <| CtsOk.cons (Fn.ct rlacksPrP) <| CtsOk.nil _
  refine Fn.of (E := tbPf) [0] 0 [(13, [(0, true), (1, true), (2, true), (3, true), (4, true), (5, true), (6, true), (7, true), (8, true), (9, true), (10, true), (11, true), (12, true), (14, true), (15, true), (16, true), (17, true), (13, false), (18, false), (19, true), (20, true), (21, true), (22, true), (23, true), (24, true), (26, true), (27, true), (28, true), (25, false), (29, false), (30, true), (31, true), (32, true)])] tbPf_ok hC (by kernel_rfl) Tryd.func3 rfl rfl rfl (by kernel_rfl) (by kernel_rfl) 3 5 1 ?_ ?_
  · intro args h pre r h' hs
    unfold sTellsPf at hs
    split at hs
    · cases hs; exact ⟨rfl, rfl, Nat.le_of_ble_eq_true rfl⟩
    · cases hs
  · intro args h pre r h' hs hp
    unfold sTellsPf at hs
    split at hs
    rotate_left
    · cases hs
    rename_i key val root c own gg sz0 n0 get0 ty one n get fr ty2 sz2 m get2
    cases hs
    obtain ⟨hK, ⟨rfl, rfl, hst⟩, ⟨f, rfl, hf_⟩, ⟨rfl, rfl, hst2⟩, hraw⟩ := hp
    refine ⟨[.glob 0 1 64 (fun i => [.int .u32 (kOf i)]), .elems 46 2 n (prG (prL n get)), .data fr 115 4 m (leafG false (leafL m get2))], ⟨hK.same.1, ⟨rfl, rfl, rfl, fun i hi => hst.eq hi⟩, ⟨rfl, rfl, rfl, rfl, fun i j hi hj => by rw [hst2 i j hi hj]; exact Cell.le_refl _⟩, trivial⟩, ?_⟩
    clear hK
    have hL : (prL n get).length = n := prL_len
    have ePR : prL n (prG (prL n get)) = prL n get := by
      have := prL_prG (prL n get)
      rwa [hL] at this
    have hKm : (leafL m get2).length = m := leafL_len
    have eK0 : leafL m (fun i j => (leafG false (leafL m get2) i j).old) = leafL m get2 := leaves0 hst2
    generalize prL n get = L at hL ePR ⊢
    generalize leafL m get2 = K at hKm hraw eK0 ⊢
    have hHC : HashC (hashC f) := ⟨f, rfl, hf_⟩
    unfold hashC
    unfold sFirst7 sLtPr sLightPr sOwn sRGood sGood sPRoot sRRtOf sMake sRMake sSamePr sVal sRVal sHas sRHas sLacks sRLacks
    generalize hg0 : (List.length : List PP → Nat) = g0
    generalize hg1 : (List.length : List UInt8 → Nat) = g1
    generalize hL : lft Tryd.prog _ = L
    generalize hA : Arith.std = A
    set_option cbv.maxSteps 16000000 in cbv
    subst hA hg0 hg1 hL
    refine Need.mk ksAt_self fun _ => Need.mk ⟨rfl, rfl, prAt_prG n L⟩ fun _ => ?_
    simp only [Arith.std, Int.ofNat_eq_natCast, Int.toNat_natCast, ePR, eK0]
    refine Ife.mk (fun h => ?_) (fun h => ?_)
    · refine Need.mk ksAt_self fun _ => ?_
      exact ⟨[0, 1, 2], ⟨rfl, (by repeat' (first | exact trivial | exact rfl | apply And.intro | exact (fun _ _ _ _ => Cell.le_refl _) | (intro i hi; rfl) | (intro i hi; exact absurd hi (Nat.not_lt_zero _)))), (by show List.Nodup []; exact List.nodup_nil), rfl, by repeat' (first | exact trivial | exact rfl | apply And.intro | exact (fun _ _ _ _ => Cell.le_refl _) | (intro i hi; rfl) | (intro i hi; exact absurd hi (Nat.not_lt_zero _)))⟩⟩
    have hlt : ltPrB L = true := by simpa using h
    clear h
    obtain ⟨hL40, hlL⟩ := ltPrB_iff.1 hlt
    have hn40 : n ≤ 40 := by omega
    refine Need.mk (leavesAt0_of eK0) fun _ => ?_
    refine Ife.mk (fun h => ?_) (fun h => ?_)
    · refine Need.mk ksAt_self fun _ => ?_
      exact ⟨[0, 1, 2], ⟨rfl, (by repeat' (first | exact trivial | exact rfl | apply And.intro | exact (fun _ _ _ _ => Cell.le_refl _) | (intro i hi; rfl) | (intro i hi; exact absurd hi (Nat.not_lt_zero _)))), (by show List.Nodup []; exact List.nodup_nil), rfl, by repeat' (first | exact trivial | exact rfl | apply And.intro | exact (fun _ _ _ _ => Cell.le_refl _) | (intro i hi; rfl) | (intro i hi; exact absurd hi (Nat.not_lt_zero _)))⟩⟩
    have hlp : lightL K = true := by simpa using h
    clear h
    obtain ⟨hK5, hKok⟩ := light_ok hlp hraw
    refine Ife.mk (fun h => ?_) (fun c1 => ?_)
    · refine Need.mk ksAt_self fun _ => ?_
      exact ⟨[0, 1, 2], ⟨rfl, (by repeat' (first | exact trivial | exact rfl | apply And.intro | exact (fun _ _ _ _ => Cell.le_refl _) | (intro i hi; rfl) | (intro i hi; exact absurd hi (Nat.not_lt_zero _)))), (by show List.Nodup []; exact List.nodup_nil), rfl, by repeat' (first | exact trivial | exact rfl | apply And.intro | exact (fun _ _ _ _ => Cell.le_refl _) | (intro i hi; rfl) | (intro i hi; exact absurd hi (Nat.not_lt_zero _)))⟩⟩
    refine Ife.mk (fun h => ?_) (fun c2 => ?_)
    · refine Need.mk ksAt_self fun _ => ?_
      exact ⟨[0, 1, 2], ⟨rfl, (by repeat' (first | exact trivial | exact rfl | apply And.intro | exact (fun _ _ _ _ => Cell.le_refl _) | (intro i hi; rfl) | (intro i hi; exact absurd hi (Nat.not_lt_zero _)))), (by show List.Nodup []; exact List.nodup_nil), rfl, by repeat' (first | exact trivial | exact rfl | apply And.intro | exact (fun _ _ _ _ => Cell.le_refl _) | (intro i hi; rfl) | (intro i hi; exact absurd hi (Nat.not_lt_zero _)))⟩⟩
    have hPRR : prPreR 46 2 n (prG L) := ⟨rfl, rfl, prAt_prG n L, by omega⟩
    have hPR : prPre 63 2 n (prG L) := ⟨rfl, rfl, prAt_prG n L, by omega⟩
    refine Need.mk hPRR fun _ => Need.mk hPRR fun _ => Need.mk hPR fun _ => ?_
    have q : leavesPre 115 4 m (fun i j => (leafG false K i j).old) := by rw [← hKm]; exact leavesPre_old hKok (by omega)
    have hok : ∀ x ∈ mkL L key, x.ok := mkL_ok (by omega)
    have hkl := mkL_len (L := L) (k := key)
    have qm : leavesPre 115 4 (lenL (mkL L key)) (fun i j => (leafG true (mkL L key) i j).old) := leavesPre_old hok (by omega)
    have hMk : mkPre 0 1 64 (fun i => [.int .u32 (kOf i)]) 63 2 n (prG L) := ⟨ksAt_self, hPR⟩
    refine Ife.mk (fun h5 => absurd h5 (by simp)) (fun _ => ?_)
    refine Ife.mk (fun hg => ?_) (fun hg => ?_)
    · have hg : goodL L = true := hg
      have hz := (goodL_iff.1 hg).2
      have hrl : rlvPre 46 2 n (prG L) := ⟨hPRR, by rw [ePR]; exact hz⟩
      refine Need.mk ⟨ksAt_self, hPR, by rw [ePR]; exact hz⟩ fun _ => Need.mk hrl fun _ => ?_
      refine Ife.mk (fun h5 => absurd h5 (by simp)) (fun _ => ?_)
      refine Need.mk hMk fun _ => Need.mk hPRR fun _ => Need.mk ⟨qm, qm⟩ fun _ => ?_
      refine Ife.mk (fun h5 => absurd h5 (by simp)) (fun _ => ?_)
      refine Ife.mk (fun ho => ?_) (fun ho => ?_)
      · refine Ife.mk (fun _ => ?_) (fun h5 => absurd (hg.symm.trans h5) (by simp))
        refine Need.mk hrl fun _ => ?_
        have hRR : HashC (hashC (rootL L)) := ⟨rootL L, rfl, rootL_range L⟩
        refine Need.mk ⟨ksAt_self, hRR, q⟩ fun _ => Need.mk ⟨hRR, q⟩ fun _ => ?_
        refine Ife.mk (fun _ => ?_) (fun h5 => absurd h5 (by simp))
        refine Ife.mk (fun _ => ?_) (fun h5 => absurd h5 (by simp))
        refine Need.mk ⟨ksAt_self, hRR, q⟩ fun _ => Need.mk ⟨hRR, q⟩ fun _ => ?_
        refine Ife.mk (fun _ => ?_) (fun h5 => absurd h5 (by simp))
        refine Need.mk ⟨ksAt_self, hRR, q⟩ fun _ => Need.mk ⟨hRR, q⟩ fun _ => ?_
        have hbb : ∀ b : Bool, (b == b) = true := fun b => by simp
        exact ⟨[0, 1, 2], ⟨rfl, (by repeat' (first | exact trivial | exact rfl | exact hbb _ | (simp; done) | apply And.intro)), (by show List.Nodup []; exact List.nodup_nil), rfl, by repeat' (first | exact trivial | exact rfl | apply And.intro | exact (fun _ _ _ _ => Cell.le_refl _) | (intro i hi; rfl) | (intro i hi; exact absurd hi (Nat.not_lt_zero _)))⟩⟩
      · skip
        have hRR : HashC (hashC f) := hHC
        refine Need.mk ⟨ksAt_self, hRR, q⟩ fun _ => Need.mk ⟨hRR, q⟩ fun _ => ?_
        refine Ife.mk (fun _ => ?_) (fun h5 => absurd h5 (by simp))
        refine Ife.mk (fun _ => ?_) (fun h5 => absurd h5 (by simp))
        refine Need.mk ⟨ksAt_self, hRR, q⟩ fun _ => Need.mk ⟨hRR, q⟩ fun _ => ?_
        refine Ife.mk (fun _ => ?_) (fun h5 => absurd h5 (by simp))
        refine Need.mk ⟨ksAt_self, hRR, q⟩ fun _ => Need.mk ⟨hRR, q⟩ fun _ => ?_
        have hbb : ∀ b : Bool, (b == b) = true := fun b => by simp
        exact ⟨[0, 1, 2], ⟨rfl, (by repeat' (first | exact trivial | exact rfl | exact hbb _ | (simp; done) | apply And.intro)), (by show List.Nodup []; exact List.nodup_nil), rfl, by repeat' (first | exact trivial | exact rfl | apply And.intro | exact (fun _ _ _ _ => Cell.le_refl _) | (intro i hi; rfl) | (intro i hi; exact absurd hi (Nat.not_lt_zero _)))⟩⟩
    · have hg : goodL L = false := hg
      refine Need.mk hMk fun _ => Need.mk hPRR fun _ => Need.mk ⟨qm, qm⟩ fun _ => ?_
      refine Ife.mk (fun h5 => absurd h5 (by simp)) (fun _ => ?_)
      refine Ife.mk (fun ho => ?_) (fun ho => ?_)
      · refine Ife.mk (fun h5 => absurd (hg.symm.trans h5) (by simp)) (fun _ => ?_)
        have hRR : HashC (hashC f) := hHC
        refine Need.mk ⟨ksAt_self, hRR, q⟩ fun _ => Need.mk ⟨hRR, q⟩ fun _ => ?_
        refine Ife.mk (fun _ => ?_) (fun h5 => absurd h5 (by simp))
        refine Ife.mk (fun _ => ?_) (fun h5 => absurd h5 (by simp))
        refine Need.mk ⟨ksAt_self, hRR, q⟩ fun _ => Need.mk ⟨hRR, q⟩ fun _ => ?_
        refine Ife.mk (fun _ => ?_) (fun h5 => absurd h5 (by simp))
        refine Need.mk ⟨ksAt_self, hRR, q⟩ fun _ => Need.mk ⟨hRR, q⟩ fun _ => ?_
        have hbb : ∀ b : Bool, (b == b) = true := fun b => by simp
        exact ⟨[0, 1, 2], ⟨rfl, (by repeat' (first | exact trivial | exact rfl | exact hbb _ | (simp; done) | apply And.intro)), (by show List.Nodup []; exact List.nodup_nil), rfl, by repeat' (first | exact trivial | exact rfl | apply And.intro | exact (fun _ _ _ _ => Cell.le_refl _) | (intro i hi; rfl) | (intro i hi; exact absurd hi (Nat.not_lt_zero _)))⟩⟩
      · skip
        have hRR : HashC (hashC f) := hHC
        refine Need.mk ⟨ksAt_self, hRR, q⟩ fun _ => Need.mk ⟨hRR, q⟩ fun _ => ?_
        refine Ife.mk (fun _ => ?_) (fun h5 => absurd h5 (by simp))
        refine Ife.mk (fun _ => ?_) (fun h5 => absurd h5 (by simp))
        refine Need.mk ⟨ksAt_self, hRR, q⟩ fun _ => Need.mk ⟨hRR, q⟩ fun _ => ?_
        refine Ife.mk (fun _ => ?_) (fun h5 => absurd h5 (by simp))
        refine Need.mk ⟨ksAt_self, hRR, q⟩ fun _ => Need.mk ⟨hRR, q⟩ fun _ => ?_
        have hbb : ∀ b : Bool, (b == b) = true := fun b => by simp
        exact ⟨[0, 1, 2], ⟨rfl, (by repeat' (first | exact trivial | exact rfl | exact hbb _ | (simp; done) | apply And.intro)), (by show List.Nodup []; exact List.nodup_nil), rfl, by repeat' (first | exact trivial | exact rfl | apply And.intro | exact (fun _ _ _ _ => Cell.le_refl _) | (intro i hi; rfl) | (intro i hi; exact absurd hi (Nat.not_lt_zero _)))⟩⟩

end Go.Proofs.YthomoliklfmnkaaDoor.Vx
end
