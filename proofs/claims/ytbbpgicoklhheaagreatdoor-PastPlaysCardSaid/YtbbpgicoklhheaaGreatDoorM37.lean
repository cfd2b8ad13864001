/- The document's sums of pairs and proofs of keys, by the walker. -/
import Derived.Test.YtbbpgicoklhheaaGreatDoorM35
import Derived.Test.YtbbpgicoklhheaaGreatDoorM25
import Derived.Test.YtbbpgicoklhheaaGreatDoorM22
import Derived.Test.YtbbpgicoklhheaaGreatDoorM12
import Derived.Test.YtbbpgicoklhheaaGreatDoorM36
import Derived.Test.YtbbpgicoklhheaaGreatDoorM11
import Derived.Test.YtbbpgicoklhheaaGreatDoorM24
section
namespace Go.Proofs.YtbbpgicoklhheaaGreatDoor.Vx
open Sha
open Go.RowKit
set_option linter.unusedVariables false
set_option linter.unusedSimpArgs false
def rlvPre (ty one n : Nat) (get : Nat → List CV) : Prop := prPreR ty one n get ∧ AllSz (prL n get)
def rlaPre (ty one n : Nat) (get : Nat → List CV) (ty' one' n' : Nat) (get' : Nat → List CV) (i : Int) : Prop := prPreR ty one n get ∧ (ty' = 41 ∧ one' = 32 ∧ n' = n ∧ ∀ j, j < n' → get' j = lfG (prL n get) j) ∧ 0 ≤ i ∧ i < (n : Int)
attribute [local cbv_opaque] prK prV prL ltB findI findB szB setL putS dropL getL underL underN preB Lib.compareBytes prPre goodAt goodL insG delG insPre delPre prPreR KsAt leafF leafPre topG topPre0 rootF rootPre sumI hOf HashC kOf u8s lfG rootL sumsPre lK lV lI lP lN pG leafL leafOf leavesPre deep hNm wyL mkLeaf mkL mkC mkFrom mkTo wayG hashesG wayPre0 mkPre lenL rleafPre rtopPre0 rwayPre0 prPreR rlvPre rlaPre
def tbRf : Tbl where
  T :=
    (3, ⟨1, false, [.int .i64 (0)], .int .i64, 8⟩) ::
    (4, ⟨1, false, [.ff], .bool, 1⟩) ::
    (9, ⟨1, false, [.str []], .str, 16⟩) ::
    (5, ⟨1, false, [.int .u8 (0)], .int .u8, 1⟩) ::
    (84, ⟨2, true, [.str [], .str []], .struct [(0, (1, false)), (1, (1, false))], 32⟩) ::
    (29, ⟨1, false, [.val (.slice none 0 0)], .slice 84, 24⟩) ::
    (98, ⟨4, true, [.str [], .str [], .int .i64 (0), .val (.slice none 0 0)], .struct [(0, (1, false)), (1, (1, false)), (2, (1, false)), (3, (1, false))], 64⟩) ::
    (52, ⟨1, false, [.val (.slice none 0 0)], .slice 98, 24⟩) ::
    (54, ⟨2, true, [.int .i64 (0), .val (.slice none 0 0)], .struct [(0, (1, false)), (1, (1, false))], 32⟩) ::
    (41, ⟨32, true, [.int .u8 (0), .int .u8 (0), .int .u8 (0), .int .u8 (0), .int .u8 (0), .int .u8 (0), .int .u8 (0), .int .u8 (0), .int .u8 (0), .int .u8 (0), .int .u8 (0), .int .u8 (0), .int .u8 (0), .int .u8 (0), .int .u8 (0), .int .u8 (0), .int .u8 (0), .int .u8 (0), .int .u8 (0), .int .u8 (0), .int .u8 (0), .int .u8 (0), .int .u8 (0), .int .u8 (0), .int .u8 (0), .int .u8 (0), .int .u8 (0), .int .u8 (0), .int .u8 (0), .int .u8 (0), .int .u8 (0), .int .u8 (0)], .array 32 5, 32⟩) ::
    (96, ⟨1, false, [.val (.slice none 0 0)], .slice 41, 24⟩) ::
    []
  F :=
    (41, [0, 0, 0, 0, 0, 0, 0, 0, 0, 0, 0, 0, 0, 0, 0, 0, 0, 0, 0, 0, 0, 0, 0, 0, 0, 0, 0, 0, 0, 0, 0, 0]) ::
    []

theorem tbRf_ok : tbRf.Ok Tryz.prog where
  T :=
    TblOk.cons (by kernel_rfl) <|
    TblOk.cons (by kernel_rfl) <|
    TblOk.cons (by kernel_rfl) <|
    TblOk.cons (by kernel_rfl) <|
    TblOk.cons (by kernel_rfl) <|
    TblOk.cons (by kernel_rfl) <|
    TblOk.cons (by kernel_rfl) <|
    TblOk.cons (by kernel_rfl) <|
    TblOk.cons (by kernel_rfl) <|
    TblOk.cons (by kernel_rfl) <|
    TblOk.cons (by kernel_rfl) <|
    TblOk.nil _
  F :=
    FlatsOk.cons (FlatOk.of (D := .array 32 5) 6 (by decide) (by kernel_rfl) (by kernel_rfl) rfl (by kernel_rfl)) <|
    FlatsOk.nil _

def sRGood : SpecF
  | [.c (.row 0)], [.elems ty one n get] => some (prPreR ty one n get, .c (.bool (goodL (prL n get))), [.dead])
  | _, _ => none

set_option maxRecDepth 100000 in
set_option maxHeartbeats 8000000 in
theorem rgoodP : Fn Tryz.prog 41 [] [(84, 2)] sRGood := by
  have hC : CtsOk Tryz.prog [] := CtsOk.nil _
  refine Fn.of (E := tbRf) [] 0 [(4, [(0, true), (1, true), (2, true), (3, true), (4, true), (5, true), (6, true), (7, true), (8, true), (9, true), (10, true), (11, true), (12, true), (13, true), (14, true), (15, true), (16, true), (17, true), (18, true), (19, true), (20, true), (21, true), (22, true), (23, true), (24, true), (25, true), (26, true), (27, true), (28, true), (29, true), (30, true), (31, true), (32, true), (33, true), (34, true), (35, true), (36, true), (37, true), (38, true), (39, true), (40, true), (41, true), (42, true), (43, true), (44, true), (45, true), (46, true), (47, true), (48, true), (49, true), (50, true), (51, true)])] tbRf_ok hC (by kernel_rfl) Tryz.func41 rfl rfl rfl (by kernel_rfl) (by kernel_rfl) 1 84 2 ?_ ?_
  · intro args h pre r h' hs
    unfold sRGood at hs
    split at hs
    · cases hs; exact ⟨rfl, rfl, Nat.le_of_ble_eq_true rfl⟩
    · cases hs
  · intro args h pre r h' hs hp
    unfold sRGood at hs
    split at hs
    rotate_left
    · cases hs
    rename_i ty one n get
    cases hs
    obtain ⟨rfl, rfl, hst, hm⟩ := hp
    refine ⟨[.elems 84 2 n (prG (prL n get))], ⟨⟨rfl, rfl, rfl, fun i hi => hst.eq hi⟩, trivial⟩, ?_⟩
    have hL : (prL n get).length = n := prL_len
    have ePR : prL n (prG (prL n get)) = prL n get := by
      have := prL_prG (prL n get)
      rwa [hL] at this
    generalize prL n get = L at hL ePR ⊢
    show Runs Tryz.prog 1 (.loop _) _ _
    refine loop_ruleR (N := env (lft Tryz.prog 1) 0 .std tbRf [] [(4, [(0, true), (1, true), (2, true), (3, true), (4, true), (5, true), (6, true), (7, true), (8, true), (9, true), (10, true), (11, true), (12, true), (13, true), (14, true), (15, true), (16, true), (17, true), (18, true), (19, true), (20, true), (21, true), (22, true), (23, true), (24, true), (25, true), (26, true), (27, true), (28, true), (29, true), (30, true), (31, true), (32, true), (33, true), (34, true), (35, true), (36, true), (37, true), (38, true), (39, true), (40, true), (41, true), (42, true), (43, true), (44, true), (45, true), (46, true), (47, true), (48, true), (49, true), (50, true), (51, true)])]) rfl tbRf_ok hC (fun c st K _ h => h) (by kernel_rfl) [] (X := LGo L n)
      (S := fun x => ⟨[.c (.row 0), .any, .any, .c (.int .i64 x.i)] ++ List.replicate 58 .any, [.elems 84 2 n (prG L)]⟩) (μ := fun x => n - x.i.toNat) ⟨0, by omega, by omega, fun k hk => absurd hk (by omega)⟩ (by kernel_rfl) [0] ?_ ?_
    · refine ⟨rfl, by decide, ?_, ?_⟩ <;> repeat' (first | exact trivial | exact rfl | apply And.intro | exact (fun _ _ _ _ => Cell.le_refl _) | (intro i hi; rfl) | (intro i hi; exact absurd hi (Nat.not_lt_zero _)))
    rintro ⟨i, hi0, hin, hP⟩
    generalize hg0 : (List.length : List PP → Nat) = g0
    generalize hg1 : (List.length : List UInt8 → Nat) = g1
    generalize hL : lft Tryz.prog _ = L
    generalize hA : Arith.std = A
    set_option cbv.maxSteps 2000000 in cbv
    subst hA hg0 hg1 hL
    replace hin : i ≤ @Nat.cast Int instNatCastInt n := hin
    refine Ife.mk (fun hlt => ?_) (fun hlt => ?_)
    · replace hlt : i < @Nat.cast Int instNatCastInt n := of_decide_eq_true (p := i < (n : Int)) hlt
      have hNO : goodAt L i.toNat = false → goodL L = false := fun h => goodL_no (by omega) h
      have hYES : goodAt L i.toNat = true → ∀ k, k < (i + 1).toNat → goodAt L k = true := fun h k hk => by
        by_cases hki : k = i.toNat
        · rw [hki]; exact h
        · exact hP k (by omega)
      refine Need.mk (by show 0 ≤ i ∧ i < (n : Int); omega) fun _ => Need.mk (by show i.toNat < n; omega) fun _ => ?_
      refine Ife.mk (fun h => ?_) (fun h => ?_)
      · have h : ((prK L i.toNat).length : Int) < 1 := of_decide_eq_true (p := ((prK L i.toNat).length : Int) < 1) h
        rw [hNO (by
          rw [Bool.eq_false_iff]
          intro q
          have q := szB_iff.1 (goodAt_iff.1 q).1
          omega)]
        exact ⟨[0], ⟨rfl, (by repeat' (first | exact trivial | exact rfl | apply And.intro | exact (fun _ _ _ _ => Cell.le_refl _) | (intro i hi; rfl) | (intro i hi; exact absurd hi (Nat.not_lt_zero _)))), by decide, rfl, by repeat' (first | exact trivial | exact rfl | apply And.intro | exact (fun _ _ _ _ => Cell.le_refl _) | (intro i hi; rfl) | (intro i hi; exact absurd hi (Nat.not_lt_zero _)))⟩⟩
      replace h : ¬ ((prK L i.toNat).length : Int) < 1 := of_decide_eq_false (p := ((prK L i.toNat).length : Int) < 1) h
      have z0 := h
      clear h
      refine Need.mk (by show 0 ≤ i ∧ i < (n : Int); omega) fun _ => Need.mk (by show i.toNat < n; omega) fun _ => ?_
      refine Ife.mk (fun h => ?_) (fun h => ?_)
      · have h : (160 : Int) < ((prK L i.toNat).length : Int) := of_decide_eq_true (p := (160 : Int) < ((prK L i.toNat).length : Int)) h
        rw [hNO (by
          rw [Bool.eq_false_iff]
          intro q
          have q := szB_iff.1 (goodAt_iff.1 q).1
          omega)]
        exact ⟨[0], ⟨rfl, (by repeat' (first | exact trivial | exact rfl | apply And.intro | exact (fun _ _ _ _ => Cell.le_refl _) | (intro i hi; rfl) | (intro i hi; exact absurd hi (Nat.not_lt_zero _)))), by decide, rfl, by repeat' (first | exact trivial | exact rfl | apply And.intro | exact (fun _ _ _ _ => Cell.le_refl _) | (intro i hi; rfl) | (intro i hi; exact absurd hi (Nat.not_lt_zero _)))⟩⟩
      replace h : ¬ (160 : Int) < ((prK L i.toNat).length : Int) := of_decide_eq_false (p := (160 : Int) < ((prK L i.toNat).length : Int)) h
      have z1 := h
      clear h
      refine Need.mk (by show 0 ≤ i ∧ i < (n : Int); omega) fun _ => Need.mk (by show i.toNat < n; omega) fun _ => ?_
      refine Ife.mk (fun h => ?_) (fun h => ?_)
      · have h : ((prV L i.toNat).length : Int) < 1 := of_decide_eq_true (p := ((prV L i.toNat).length : Int) < 1) h
        rw [hNO (by
          rw [Bool.eq_false_iff]
          intro q
          have q := szB_iff.1 (goodAt_iff.1 q).1
          omega)]
        exact ⟨[0], ⟨rfl, (by repeat' (first | exact trivial | exact rfl | apply And.intro | exact (fun _ _ _ _ => Cell.le_refl _) | (intro i hi; rfl) | (intro i hi; exact absurd hi (Nat.not_lt_zero _)))), by decide, rfl, by repeat' (first | exact trivial | exact rfl | apply And.intro | exact (fun _ _ _ _ => Cell.le_refl _) | (intro i hi; rfl) | (intro i hi; exact absurd hi (Nat.not_lt_zero _)))⟩⟩
      replace h : ¬ ((prV L i.toNat).length : Int) < 1 := of_decide_eq_false (p := ((prV L i.toNat).length : Int) < 1) h
      have z2 := h
      clear h
      refine Need.mk (by show 0 ≤ i ∧ i < (n : Int); omega) fun _ => Need.mk (by show i.toNat < n; omega) fun _ => ?_
      refine Ife.mk (fun h => ?_) (fun h => ?_)
      · have h : (64 : Int) < ((prV L i.toNat).length : Int) := of_decide_eq_true (p := (64 : Int) < ((prV L i.toNat).length : Int)) h
        rw [hNO (by
          rw [Bool.eq_false_iff]
          intro q
          have q := szB_iff.1 (goodAt_iff.1 q).1
          omega)]
        exact ⟨[0], ⟨rfl, (by repeat' (first | exact trivial | exact rfl | apply And.intro | exact (fun _ _ _ _ => Cell.le_refl _) | (intro i hi; rfl) | (intro i hi; exact absurd hi (Nat.not_lt_zero _)))), by decide, rfl, by repeat' (first | exact trivial | exact rfl | apply And.intro | exact (fun _ _ _ _ => Cell.le_refl _) | (intro i hi; rfl) | (intro i hi; exact absurd hi (Nat.not_lt_zero _)))⟩⟩
      replace h : ¬ (64 : Int) < ((prV L i.toNat).length : Int) := of_decide_eq_false (p := (64 : Int) < ((prV L i.toNat).length : Int)) h
      have z3 := h
      clear h
      have hz : szB (prK L i.toNat) (prV L i.toNat) = true := szB_iff.2 ⟨⟨by omega, by omega⟩, by omega, by omega⟩
      refine Ife.mk (fun h1 => ?_) (fun h1 => ?_)
      · have h1 : 0 < i := of_decide_eq_true (p := 0 < i) h1
        have e3 : (i - 1).toNat = i.toNat - 1 := by omega
        refine Need.mk (by show fitStd .i64 (i - 1); unfold fitStd; omega) fun _ => Need.mk (by show 0 ≤ i - 1 ∧ i - 1 < (n : Int); omega) fun _ => Need.mk (by show (i - 1).toNat < n; omega) fun _ => Need.mk (by show 0 ≤ i ∧ i < (n : Int); omega) fun _ => Need.mk (by show i.toNat < n; omega) fun _ => ?_
        refine Ife.mk (fun h2 => ?_) (fun h2 => ?_)
        · have h2 : (!ltB (prK L (i - 1).toNat) (prK L i.toNat)) = true := h2
          rw [hNO (by unfold goodAt; rw [hz, decide_eq_false (show ¬ i.toNat = 0 by omega), ← e3, show ltB (prK L (i - 1).toNat) (prK L i.toNat) = false by simpa using h2]; rfl)]
          exact ⟨[0], ⟨rfl, (by repeat' (first | exact trivial | exact rfl | apply And.intro | exact (fun _ _ _ _ => Cell.le_refl _) | (intro i hi; rfl) | (intro i hi; exact absurd hi (Nat.not_lt_zero _)))), by decide, rfl, by repeat' (first | exact trivial | exact rfl | apply And.intro | exact (fun _ _ _ _ => Cell.le_refl _) | (intro i hi; rfl) | (intro i hi; exact absurd hi (Nat.not_lt_zero _)))⟩⟩
        · have h2 : (!ltB (prK L (i - 1).toNat) (prK L i.toNat)) = false := h2
          have hg : goodAt L i.toNat = true := by unfold goodAt; rw [hz, ← e3, show ltB (prK L (i - 1).toNat) (prK L i.toNat) = true by simpa using h2]; simp
          refine Need.mk (by show fitStd .i64 (i + 1); unfold fitStd; omega) fun _ => ?_
          refine ⟨⟨i + 1, by omega, by omega, hYES hg⟩, [0], (by show n - (i + 1).toNat < n - i.toNat; omega), ?_⟩
          refine ⟨rfl, by decide, ?_, ?_⟩ <;> repeat' (first | exact trivial | exact rfl | apply And.intro | exact (fun _ _ _ _ => Cell.le_refl _) | (intro i hi; rfl) | (intro i hi; exact absurd hi (Nat.not_lt_zero _)))
      · have h1 : ¬ 0 < i := of_decide_eq_false (p := 0 < i) h1
        have hg : goodAt L i.toNat = true := by unfold goodAt; rw [hz, decide_eq_true (show i.toNat = 0 by omega)]; simp
        refine Need.mk (by show fitStd .i64 (i + 1); unfold fitStd; omega) fun _ => ?_
        refine ⟨⟨i + 1, by omega, by omega, hYES hg⟩, [0], (by show n - (i + 1).toNat < n - i.toNat; omega), ?_⟩
        refine ⟨rfl, by decide, ?_, ?_⟩ <;> repeat' (first | exact trivial | exact rfl | apply And.intro | exact (fun _ _ _ _ => Cell.le_refl _) | (intro i hi; rfl) | (intro i hi; exact absurd hi (Nat.not_lt_zero _)))
    · replace hlt : ¬ i < @Nat.cast Int instNatCastInt n := of_decide_eq_false (p := i < (n : Int)) hlt
      rw [goodL_yes fun k hk => hP k (by omega)]
      exact ⟨[0], ⟨rfl, (by repeat' (first | exact trivial | exact rfl | apply And.intro | exact (fun _ _ _ _ => Cell.le_refl _) | (intro i hi; rfl) | (intro i hi; exact absurd hi (Nat.not_lt_zero _)))), by decide, rfl, by repeat' (first | exact trivial | exact rfl | apply And.intro | exact (fun _ _ _ _ => Cell.le_refl _) | (intro i hi; rfl) | (intro i hi; exact absurd hi (Nat.not_lt_zero _)))⟩⟩

def sRLvs : SpecF
  | [.c (.row 0)], [.elems ty one n get] => some (rlvPre ty one n get, .c (.row 1), [.dead, .row 41 32 n (lfG (prL n get))])
  | _, _ => none

set_option maxRecDepth 100000 in
set_option maxHeartbeats 8000000 in
theorem rlvsP : Fn Tryz.prog 42 [] [(84, 2)] sRLvs := by
  have hC : CtsOk Tryz.prog [(57, appPure sRLeaf)] := CtsOk.cons (Pure.ct rleafP) <| CtsOk.nil _
  refine Fn.of (E := tbRf) [] 0 [(5, [(2001, false), (0, true), (1, true), (2, true), (3, true), (4, true), (5, true), (6, true), (7, true), (8, true), (9, true), (10, true), (11, false), (12, false), (13, false), (14, true)])] tbRf_ok hC (by kernel_rfl) Tryz.func42 rfl rfl rfl (by kernel_rfl) (by kernel_rfl) 1 41 32 ?_ ?_
  · intro args h pre r h' hs
    unfold sRLvs at hs
    split at hs
    · cases hs; exact ⟨rfl, rfl, Nat.le_of_ble_eq_true rfl⟩
    · cases hs
  · intro args h pre r h' hs hp
    unfold sRLvs at hs
    split at hs
    rotate_left
    · cases hs
    rename_i ty one n get
    cases hs
    obtain ⟨⟨rfl, rfl, hst, hm⟩, hz⟩ := hp
    refine ⟨[.elems 84 2 n (prG (prL n get))], ⟨⟨rfl, rfl, rfl, fun i hi => hst.eq hi⟩, trivial⟩, ?_⟩
    have hL : (prL n get).length = n := prL_len
    have ePR : prL n (prG (prL n get)) = prL n get := by
      have := prL_prG (prL n get)
      rwa [hL] at this
    generalize prL n get = L at hL hz ePR ⊢
    generalize hg0 : (List.length : List PP → Nat) = g0
    generalize hL : lft Tryz.prog _ = L
    generalize hA : Arith.std = A
    set_option cbv.maxSteps 2000000 in cbv
    subst hA hg0 hL
    refine Runs.nilTmp 3 41 32 (lfG L) rfl ?_
    show Runs Tryz.prog 1 (.loop _) _ _
    refine loop_ruleR (N := env (lft Tryz.prog 1) 0 .std tbRf [(57, appPure sRLeaf)] [(5, [(2001, false), (0, true), (1, true), (2, true), (3, true), (4, true), (5, true), (6, true), (7, true), (8, true), (9, true), (10, true), (11, false), (12, false), (13, false), (14, true)])]) rfl tbRf_ok hC (fun c st K _ h => h) (by kernel_rfl) [] (X := LSm n)
      (S := fun x => ⟨[.c (.row 0), .any, .any, .c (.row 1), .c (.int .i64 (x.j : Int))] ++ List.replicate 21 .any, [.elems 84 2 n (prG L), .row 41 32 x.j (lfG L)]⟩) (μ := fun x => n - x.j) ⟨0, Nat.zero_le _⟩ (by kernel_rfl) [0, 1] ?_ ?_
    · refine ⟨rfl, by decide, ?_, ?_⟩ <;> repeat' (first | exact trivial | exact rfl | apply And.intro | exact (fun _ _ _ _ => Cell.le_refl _) | (intro i hi; rfl) | (intro i hi; exact absurd hi (Nat.not_lt_zero _)))
    rintro ⟨j, hjn⟩
    unfold sRLeaf
    generalize hg0 : (List.length : List PP → Nat) = g0
    generalize hL : lft Tryz.prog _ = L
    generalize hA : Arith.std = A
    set_option cbv.maxSteps 4000000 in cbv
    subst hA hg0 hL
    refine Ife.mk (fun h => ?_) (fun h => ?_)
    · have h : (j : Int) < (n : Int) := of_decide_eq_true (p := (j : Int) < (n : Int)) h
      have hj2 : j < n := Int.ofNat_lt.mp h
      have hsz := szB_iff.1 (hz.at (i := j) (by omega))
      refine Need.mk (by show 0 ≤ (j : Int) ∧ (j : Int) < (n : Int); omega) fun _ => Need.mk (by show (j : Int).toNat < n; omega) fun _ => Need.mk (by show 0 ≤ (j : Int) ∧ (j : Int) < (n : Int); omega) fun _ => Need.mk (by show (j : Int).toNat < n; omega) fun _ => ?_
      refine Need.mk ⟨by show (prK L j).length ≤ 1000000000; omega, by show (prV L j).length ≤ 1000000000; omega⟩ fun _ => ?_
      refine Need.mk (by show j + 1 ≤ maxLen ∧ (j + 1) * 32 ≤ 140737488355328; unfold maxLen; omega) fun _ => Need.mk (by show fitStd .i64 ((j : Int) + 1); unfold fitStd; omega) fun _ => ?_
      have hp := lf_push (L := L) (m := j)
      refine ⟨⟨j + 1, by omega⟩, [0, 3], (by show n - (j + 1) < n - j; omega), ?_⟩
      refine ⟨rfl, (by decide), ?_, ?_⟩ <;> repeat' (first | exact trivial | exact hp | exact ej | exact rfl | apply And.intro | exact (fun _ _ _ _ => Cell.le_refl _) | (intro i hi; rfl) | (intro i hi; exact absurd hi (Nat.not_lt_zero _)))
    · have h : ¬ (j : Int) < (n : Int) := of_decide_eq_false (p := (j : Int) < (n : Int)) h
      have ej : j = n := by have : ¬ j < n := fun q => h (Int.ofNat_lt.mpr q)
                            omega
      exact ⟨[0, 1], ⟨rfl, (by repeat' (first | exact trivial | exact hp | exact ej | exact rfl | apply And.intro | exact (fun _ _ _ _ => Cell.le_refl _) | (intro i hi; rfl) | (intro i hi; exact absurd hi (Nat.not_lt_zero _)))), (by show List.Nodup [1]; decide), rfl, by repeat' (first | exact trivial | exact hp | exact ej | exact rfl | apply And.intro | exact (fun _ _ _ _ => Cell.le_refl _) | (intro i hi; rfl) | (intro i hi; exact absurd hi (Nat.not_lt_zero _)))⟩⟩

def sRRtOf : SpecF
  | [.c (.row 0)], [.elems ty one n get] => some (rlvPre ty one n get, .agg (hashC (rootL (prL n get))), [.dead])
  | _, _ => none

set_option maxRecDepth 100000 in
set_option maxHeartbeats 8000000 in
theorem rrtOfP : Fn Tryz.prog 40 [] [(84, 2)] sRRtOf := by
  have hC : CtsOk Tryz.prog [(42, appFn [] [(84, 2)] sRLvs), (56, appFn [] [(41, 32)] sRTop), (55, appPure sRRoot)] := CtsOk.cons (Fn.ct rlvsP) <| CtsOk.cons (Fn.ct rtopP) <| CtsOk.cons (Pure.ct rrootP) <| CtsOk.nil _
  refine Fn.of (E := tbRf) [] 0 [] tbRf_ok hC (by kernel_rfl) Tryz.func40 rfl rfl rfl (by kernel_rfl) (by kernel_rfl) 1 41 32 ?_ ?_
  · intro args h pre r h' hs
    unfold sRRtOf at hs
    split at hs
    · cases hs; exact ⟨rfl, rfl, Nat.le_of_ble_eq_true rfl⟩
    · cases hs
  · intro args h pre r h' hs hp
    unfold sRRtOf at hs
    split at hs
    rotate_left
    · cases hs
    rename_i ty one n get
    cases hs
    obtain ⟨⟨rfl, rfl, hst, hm⟩, hz⟩ := hp
    refine ⟨[.elems 84 2 n (prG (prL n get))], ⟨⟨rfl, rfl, rfl, fun i hi => hst.eq hi⟩, trivial⟩, ?_⟩
    have hL : (prL n get).length = n := prL_len
    have ePR : prL n (prG (prL n get)) = prL n get := by
      have := prL_prG (prL n get)
      rwa [hL] at this
    generalize prL n get = L at hL hz ePR ⊢
    unfold sRLvs sRTop sRRoot
    generalize hg0 : (List.length : List PP → Nat) = g0
    generalize hA : Arith.std = A
    set_option cbv.maxSteps 4000000 in cbv
    subst hA hg0
    refine Need.mk ⟨⟨rfl, rfl, prAt_prG _ L, hm⟩, by rw [ePR]; exact hz⟩ fun _ => ?_
    rw [ePR]
    refine Need.mk ⟨rfl, rfl, lfG_hash L n, by show n ≤ 1073741824; omega⟩ fun _ => ?_
    refine Need.mk (topG_hash (lfG_hash L n) 0 n (by omega)) fun _ => ?_
    have eR : rootL L = rootF (n : Int) (u8s (hashC (topG (lfG L) n))) := by unfold rootL; rw [hL]
    rw [eR]
    exact ⟨[0], ⟨rfl, (by repeat' (first | exact trivial | exact rfl | apply And.intro | exact (fun _ _ _ _ => Cell.le_refl _) | (intro i hi; rfl) | (intro i hi; exact absurd hi (Nat.not_lt_zero _)))), (by decide), rfl, by repeat' (first | exact trivial | exact rfl | apply And.intro | exact (fun _ _ _ _ => Cell.le_refl _) | (intro i hi; rfl) | (intro i hi; exact absurd hi (Nat.not_lt_zero _)))⟩⟩

def sRLAt : SpecF
  | [.c (.row 0), .c (.row 1), .c (.int .i64 i)], [.elems ty one n get, .elems ty' one' n' get'] => some (rlaPre ty one n get ty' one' n' get' i, .agg [.str (prK (prL n get) i.toNat), .str (prV (prL n get) i.toNat), .int .i64 i, .row 2], [.dead, .dead, .row 41 32 (wayG (lfG (prL n get)) n i).length (hashesG (wayG (lfG (prL n get)) n i))])
  | _, _ => none

set_option maxRecDepth 100000 in
set_option maxHeartbeats 8000000 in
theorem rlAtP : Fn Tryz.prog 43 [] [(84, 2), (41, 32)] sRLAt := by
  have hC : CtsOk Tryz.prog [(58, appFn [] [(41, 32)] sRWay)] := CtsOk.cons (Fn.ct rwayP) <| CtsOk.nil _
  refine Fn.of (E := tbRf) [] 0 [(1, [(2002, false), (0, true), (1, true), (2, true), (3, true), (4, true), (5, true), (6, true), (7, true), (8, true), (9, true), (10, true), (11, true), (12, true), (13, false), (14, true), (15, false)])] tbRf_ok hC (by kernel_rfl) Tryz.func43 rfl rfl rfl (by kernel_rfl) (by kernel_rfl) 2 41 32 ?_ ?_
  · intro args h pre r h' hs
    unfold sRLAt at hs
    split at hs
    · cases hs; exact ⟨rfl, rfl, Nat.le_of_ble_eq_true rfl⟩
    · cases hs
  · intro args h pre r h' hs hp
    unfold sRLAt at hs
    split at hs
    rotate_left
    · cases hs
    rename_i i ty one n get ty' one' n' get'
    cases hs
    obtain ⟨⟨rfl, rfl, hst, hm⟩, ⟨rfl, rfl, rfl, hgl⟩, hq⟩ := hp
    refine ⟨[.elems 84 2 n' (prG (prL n' get)), .elems 41 32 n' (lfG (prL n' get))], ⟨⟨rfl, rfl, rfl, fun i hi => hst.eq hi⟩, ⟨rfl, rfl, rfl, fun i hi => hgl i hi⟩, trivial⟩, ?_⟩
    have hL : (prL n' get).length = n' := prL_len
    generalize prL n' get = L at hL hgl ⊢
    unfold sRWay
    generalize hg0 : (List.length : List PP → Nat) = g0
    generalize hg1 : (List.length : List (Nat → Int) → Nat) = g1
    generalize hA : Arith.std = A
    set_option cbv.maxSteps 4000000 in cbv
    subst hA hg0 hg1
    have hq2 : i < (n' : Int) := hq.2
    have hq0 : 0 ≤ i := hq.1
    refine Need.mk hq fun _ => Need.mk (by show i.toNat < n'; omega) fun _ => Need.mk hq fun _ => Need.mk (by show i.toNat < n'; omega) fun _ => ?_
    refine Need.mk ⟨rfl, rfl, lfG_hash L n', by omega⟩ fun _ => ?_
    exact ⟨[0, 1, 4], ⟨rfl, (by repeat' (first | exact trivial | exact rfl | apply And.intro | exact (fun _ _ _ _ => Cell.le_refl _) | (intro i hi; rfl) | (intro i hi; exact absurd hi (Nat.not_lt_zero _)))), (by show List.Nodup [4]; decide), rfl, by repeat' (first | exact trivial | exact rfl | apply And.intro | exact (fun _ _ _ _ => Cell.le_refl _) | (intro i hi; rfl) | (intro i hi; exact absurd hi (Nat.not_lt_zero _)))⟩⟩

end Go.Proofs.YtbbpgicoklhheaaGreatDoor.Vx
end

section
/- The document's Make, by the walker. -/
namespace Go.Proofs.YtbbpgicoklhheaaGreatDoor.Vx
open Sha
open Go.RowKit
set_option linter.unusedVariables false
set_option linter.unusedSimpArgs false
def lfC (L : List PP) (n : Nat) (i : Int) : List Cell := [.pl (.str (prK L i.toNat)), .pl (.str (prV L i.toNat)), .pl (.int .i64 i), .es true 41 32 (wayG (lfG L) n i).length (hashesG (wayG (lfG L) n i))]
theorem leafG_wayI {L : List PP} {n : Nat} (hL : L.length = n) {i : Int} (h0 : 0 ≤ i) (hi : i < (n : Int)) {P : List PLeaf} {m : Nat} (hn : P.length = m) : ∀ a j, a < m + 1 → j < 4 → Cell.le (pushC m (leafG true P) (lfC L n i) a j) (leafG true (P ++ [mkLeaf L i.toNat]) a j) := by
  obtain ⟨k, rfl⟩ : ∃ k : Nat, i = (k : Int) := ⟨i.toNat, by omega⟩
  have := leafG_way (L := L) (i := k) hn (by omega)
  rw [hL] at this
  exact this
theorem leafG_one {L : List PP} {n : Nat} (hL : L.length = n) {i : Int} (h0 : 0 ≤ i) (hi : i < (n : Int)) : ∀ j, j < 4 → Cell.le ((lfC L n i).getD j (.pl .tt)) (leafG true [mkLeaf L i.toNat] 0 j) := fun j hj => leafG_wayI hL h0 hi (P := []) rfl 0 j (by omega) hj
theorem leafG_p1 {L : List PP} {n : Nat} (hL : L.length = n) {i : Int} (h0 : 0 ≤ i) (hi : i < (n : Int)) {g : Nat → Nat → Cell} : ∀ a j, a < 1 → j < 4 → Cell.le (pushC 0 g (lfC L n i) a j) (leafG true [mkLeaf L i.toNat] a j) := fun a j ha hj => by
  obtain rfl : a = 0 := by omega
  exact leafG_one hL h0 hi j hj
theorem leafG_p2 {L : List PP} {n : Nat} (hL : L.length = n) {i i' : Int} (h0 : 0 ≤ i) (hi : i < (n : Int)) (h0' : 0 ≤ i') (hi' : i' < (n : Int)) {g : Nat → Nat → Cell} : ∀ a j, a < 2 → j < 4 → Cell.le (pushC 1 (pushC 0 g (lfC L n i)) (lfC L n i') a j) (leafG true [mkLeaf L i.toNat, mkLeaf L i'.toNat] a j) := fun a j ha hj => by
  rcases (show a = 0 ∨ a = 1 by omega) with rfl | rfl
  · have := leafG_one hL h0 hi j hj
    rw [← leafG_left (x := mkLeaf L i'.toNat) (by simp)] at this
    exact this
  · exact leafG_wayI hL h0' hi' (P := [mkLeaf L i.toNat]) rfl 1 j (by omega) hj
theorem lfC_new {L : List PP} {n : Nat} {i : Int} : ∀ j, j < 4 → ((lfC L n i).getD j (.pl .tt)).isNew := fun j hj => by
  rcases four hj with rfl | rfl | rfl | rfl
  · trivial
  · trivial
  · trivial
  · exact rfl
attribute [local cbv_opaque] prK prV prL ltB findI findB szB setL putS dropL getL underL underN preB Lib.compareBytes prPre goodAt goodL insG delG insPre delPre prPreR KsAt leafF leafPre topG topPre0 rootF rootPre sumI hOf HashC kOf u8s lfG rootL sumsPre lK lV lI lP lN pG leafL leafOf leavesPre deep hNm wyL mkLeaf mkL mkC mkFrom mkTo wayG hashesG wayPre0 mkPre lenL rleafPre rtopPre0 rwayPre0 prPreR rlvPre rlaPre
def sRMake : SpecF
  | [.c (.row 0), .c (.str k)], [.elems ty one n get] => some (prPreR ty one n get, .agg [.int .i64 (mkC (prL n get)), .row 1], [.dead, .data true 98 4 (lenL (mkL (prL n get) k)) (leafG true (mkL (prL n get) k))])
  | _, _ => none

set_option maxRecDepth 100000 in
set_option maxHeartbeats 32000000 in
theorem rmakeP : Fn Tryz.prog 22 [] [(84, 2)] sRMake := by
  have hC : CtsOk Tryz.prog [(41, appFn [] [(84, 2)] sRGood), (42, appFn [] [(84, 2)] sRLvs), (43, appFn [] [(84, 2), (41, 32)] sRLAt)] := CtsOk.cons (Fn.ct rgoodP) <| CtsOk.cons (Fn.ct rlvsP) <| CtsOk.cons (Fn.ct rlAtP) <| CtsOk.nil _
  refine Fn.ofZL (E := tbRf) [] 0 [(11, [(0, true), (1, true), (2, true), (3, true), (4, true), (5, true), (6, false), (7, false), (8, false), (1009, false), (9, true), (10, false)]), (13, [(2009, false), (0, true), (1, true), (2, true), (3, true), (4, true), (5, false), (6, false), (7, false), (1008, false), (8, true), (9, false)])] tbRf_ok hC (by kernel_rfl) Tryz.func22 rfl rfl rfl (by kernel_rfl) (by kernel_rfl) 1 (.data true 98 4 0 fun _ _ => .pl .tt) rfl ?_ ?_
  · intro args h pre r h' hs
    unfold sRMake at hs
    split at hs
    · cases hs; exact ⟨rfl, rfl, Nat.le_of_ble_eq_true rfl⟩
    · cases hs
  · intro args h pre r h' hs hp
    unfold sRMake at hs
    split at hs
    rotate_left
    · cases hs
    rename_i k ty one n get
    cases hs
    obtain ⟨rfl, rfl, hst, hm⟩ := hp
    refine ⟨[.elems 84 2 n (prG (prL n get))], ⟨⟨rfl, rfl, rfl, fun i hi => hst.eq hi⟩, trivial⟩, ?_⟩
    have hL : (prL n get).length = n := prL_len
    have ePR : prL n (prG (prL n get)) = prL n get := by
      have := prL_prG (prL n get)
      rwa [hL] at this
    generalize prL n get = L at hL ePR ⊢
    unfold sRGood sRLvs sRLAt
    generalize hg0 : (List.length : List PP → Nat) = g0
    generalize hg1 : (List.length : List (Nat → Int) → Nat) = g1
    generalize hL : lft Tryz.prog _ = L
    generalize hA : Arith.std = A
    set_option cbv.maxSteps 8000000 in cbv
    subst hA hg0 hg1 hL
    have hle := findI_le (L := L) (k := k)
    have hPr : prPreR 84 2 n (prG L) := ⟨rfl, rfl, prAt_prG n L, hm⟩
    refine Need.mk hPr fun _ => ?_
    simp only [ePR]
    refine Ife.mk (fun h => ?_) (fun h => ?_)
    · have h : goodL L = false := by simpa using (show (!goodL L) = true from h)
      have e1 : mkL L k = [] := by unfold mkL; rw [if_neg (by rw [h]; simp)]
      have e2 : mkC L = 0 := by unfold mkC; rw [if_neg (by rw [h]; simp)]
      rw [e1, e2]
      have hZ : ∀ (i j : Nat), i < lenL [] → j < 4 → Cell.le (.pl .tt) (leafG true [] i j) := fun i j hi => absurd hi (Nat.not_lt_zero i)
      exact Or.inl ⟨[], [0, 3], ⟨trivial, rfl, by repeat' (first | exact trivial | exact rfl | apply And.intro | exact (fun _ _ _ _ => Cell.le_refl _) | (intro i hi; rfl) | (intro i hi; exact absurd hi (Nat.not_lt_zero _))), (by show List.Nodup []; exact List.nodup_nil), rfl, by repeat' (first | exact trivial | exact rfl | exact hZ | apply And.intro)⟩⟩
    have hg : goodL L = true := by simpa using (show (!goodL L) = false from h)
    clear h
    obtain ⟨hs, hz⟩ := goodL_iff.1 hg
    have eC : mkC L = (n : Int) := by unfold mkC; rw [if_pos hg, hL]
    show Runs Tryz.prog 1 (.loop _) _ _
    refine loop_ruleR (N := env (lft Tryz.prog 1) 0 .std tbRf [(41, appFn [] [(84, 2)] sRGood), (42, appFn [] [(84, 2)] sRLvs), (43, appFn [] [(84, 2), (41, 32)] sRLAt)] [(11, [(0, true), (1, true), (2, true), (3, true), (4, true), (5, true), (6, false), (7, false), (8, false), (1009, false), (9, true), (10, false)]), (13, [(2009, false), (0, true), (1, true), (2, true), (3, true), (4, true), (5, false), (6, false), (7, false), (1008, false), (8, true), (9, false)])]) rfl tbRf_ok hC (fun c st K _ h => h) (by kernel_rfl) [] (X := LPl L k n)
      (S := fun x => ⟨[.c (.row 0), .c (.str k), .any, .any, .c (.ptr 1 0), .c (.int .i64 (x.j : Int))] ++ List.replicate 72 .any, [.elems 84 2 n (prG L), .cells 54 [.int .i64 0, .val (.slice none 0 0)]]⟩) (μ := fun x => n - x.j) ⟨0, by omega, fun q hq => absurd hq (by omega)⟩ (by kernel_rfl) [0, 1] ?h0 ?rd
    case h0 =>
      refine ⟨rfl, by decide, ?_, ?_⟩ <;> repeat' (first | exact trivial | exact rfl | apply And.intro | exact (fun _ _ _ _ => Cell.le_refl _) | (intro i hi; rfl) | (intro i hi; exact absurd hi (Nat.not_lt_zero _)))
    case rd =>
      rintro ⟨j, hjn, hP⟩
      unfold sRGood sRLvs sRLAt
      generalize hg0 : (List.length : List PP → Nat) = g0
      generalize hg1 : (List.length : List (Nat → Int) → Nat) = g1
      generalize hL : lft Tryz.prog _ = L
      generalize hA : Arith.std = A
      set_option cbv.maxSteps 8000000 in cbv
      subst hA hg0 hg1 hL
      have hrl : rlvPre 84 2 n (prG L) := ⟨hPr, by rw [ePR]; exact hz⟩
      have hla : ∀ i : Int, 0 ≤ i → i < (n : Int) → rlaPre 84 2 n (prG L) 41 32 n (lfG L) i := fun i h0 hi => ⟨hPr, ⟨rfl, rfl, rfl, fun j _ => by rw [ePR]⟩, h0, hi⟩
      have n0 : (0 + 1 ≤ maxLen ∧ (0 + 1) * 64 ≤ 140737488355328) ∧ True := ⟨by unfold maxLen; omega, trivial⟩
      have n1 : (1 + 1 ≤ maxLen ∧ (1 + 1) * 64 ≤ 140737488355328) ∧ True := ⟨by unfold maxLen; omega, trivial⟩
      have hED : (j < L.length → ltB (prK L j) k = false) → findI L k = j := fun h2 => findI_at (by omega) hP h2
      simp only [ePR]
      refine Ife.mk (fun h => ?_) (fun h => ?_)
      · have h : (j : Int) < (n : Int) := of_decide_eq_true (p := (j : Int) < (n : Int)) h
        have hj2 : j < n := Int.ofNat_lt.mp h
        have q1 : 0 ≤ (j : Int) ∧ (j : Int) < (n : Int) := by omega
        have q2 : (j : Int).toNat < n := by omega
        refine Need.mk q1 fun _ => Need.mk q2 fun _ => ?_
        refine Ife.mk (fun h2 => ?_) (fun h2 => ?_)
        · have h2 : ltB (prK L j) k = true := h2
          refine Need.mk (by show fitStd .i64 ((j : Int) + 1); unfold fitStd; omega) fun _ => ?_
          refine ⟨⟨j + 1, by omega, fun q h4 => by
            by_cases hq : q = j
            · rw [hq]; exact h2
            · exact hP q (by omega)⟩, [0, 1], (by show n - (j + 1) < n - j; omega), ?_⟩
          refine ⟨rfl, by decide, ?_, ?_⟩ <;> repeat' (first | exact trivial | exact rfl | apply And.intro | exact (fun _ _ _ _ => Cell.le_refl _) | (intro i hi; rfl) | (intro i hi; exact absurd hi (Nat.not_lt_zero _)))
        have h2 : ltB (prK L j) k = false := h2
        have en := hED fun _ => h2
        refine Need.mk hrl fun _ => ?_
        refine Ife.mk (fun _ => ?_) (fun h3 => absurd h (of_decide_eq_false (p := (j : Int) < (n : Int)) h3))
        refine Need.mk q1 fun _ => Need.mk q2 fun _ => ?_
        refine Ife.mk (fun h3 => ?_) (fun h3 => ?_)
        · have h3 : prK L j = k := of_decide_eq_true (p := prK L j = k) h3
          have hfb : findB L k = true := by unfold findB; rw [en, decide_eq_true h3, decide_eq_true (by omega)]; rfl
          have em : mkL L k = [mkLeaf L (j : Int).toNat] := by unfold mkL; rw [if_pos hg, if_pos hfb, en]; rfl
          refine Need.mk (hla _ q1.1 q1.2) fun _ => Or.inr ?_
          rw [em, eC]
          have hW := leafG_one (L := L) hL q1.1 q1.2
          have hW2 : ∀ i c : Nat, i < 1 → c < 4 → Cell.le ((lfC L n (j : Int)).getD c (.pl .tt)) (leafG true [mkLeaf L (j : Int).toNat] i c) := fun i c hi hc => by
            obtain rfl : i = 0 := by omega
            exact hW c hc
          refine ⟨8, [0, 9], ⟨⟨_, 4, _, lfC L n (j : Int), [7], _, rfl, rfl, trivial, rfl, lfC_new, rfl, (by repeat' (first | exact trivial | exact rfl | apply And.intro | exact (fun _ _ _ _ => Cell.le_refl _) | (intro i hi; rfl) | (intro i hi; exact absurd hi (Nat.not_lt_zero _)))), (by repeat' (first | exact trivial | exact rfl | exact hW2 | apply And.intro))⟩, rfl, (by show List.Nodup []; exact List.nodup_nil), rfl⟩⟩
        · have h3 : ¬ prK L j = k := of_decide_eq_false (p := prK L j = k) h3
          have hfb : ¬ findB L k = true := fun q => h3 (by have := (findB_eq q).2; rwa [en] at this)
          refine Ife.mk (fun h4 => ?_) (fun h4 => ?_)
          · have h4 : (0 : Int) < (j : Int) := of_decide_eq_true (p := (0 : Int) < (j : Int)) h4
            have r1 : 0 ≤ (j : Int) - 1 := by omega
            have r2 : (j : Int) - 1 < (n : Int) := by omega
            have em : mkL L k = [mkLeaf L ((j : Int) - 1).toNat, mkLeaf L (j : Int).toNat] := by
              unfold mkL
              rw [if_pos hg, if_neg hfb, en, if_pos (by omega), if_pos (by omega), show ((j : Int) - 1).toNat = j - 1 by omega]
              rfl
            refine Need.mk (by show fitStd .i64 ((j : Int) - 1); unfold fitStd; omega) fun _ => Need.mk (hla _ r1 r2) fun _ => Need.mk n0 fun _ => ?_
            refine Ife.mk (fun _ => ?_) (fun h3 => absurd h (of_decide_eq_false (p := (j : Int) < (n : Int)) h3))
            refine Need.mk (hla _ q1.1 q1.2) fun _ => Need.mk n1 fun _ => Or.inl ?_
            rw [em, eC]
            have hW := leafG_p2 (L := L) hL r1 r2 q1.1 q1.2 (g := fun _ _ => .pl .tt)
            refine ⟨[14], [0, 14], ⟨?fz1, rfl, (by repeat' (first | exact trivial | exact rfl | apply And.intro | exact (fun _ _ _ _ => Cell.le_refl _) | (intro i hi; rfl) | (intro i hi; exact absurd hi (Nat.not_lt_zero _)))), (by show List.Nodup []; exact List.nodup_nil), rfl, (by repeat' (first | exact trivial | exact rfl | exact hW | apply And.intro))⟩⟩
            case fz1 =>
              refine ⟨fun i c hi hc => ?_, trivial⟩
              rcases (show i = 0 ∨ i = 1 by omega) with rfl | rfl
              · exact lfC_new (L := L) (n := n) (i := (j : Int) - 1) c hc
              · exact lfC_new (L := L) (n := n) (i := (j : Int)) c hc
          · have h4 : ¬ (0 : Int) < (j : Int) := of_decide_eq_false (p := (0 : Int) < (j : Int)) h4
            have em : mkL L k = [mkLeaf L (j : Int).toNat] := by
              unfold mkL
              rw [if_pos hg, if_neg hfb, en, if_neg (by omega), if_pos (by omega)]
              rfl
            refine Ife.mk (fun _ => ?_) (fun h3 => absurd h (of_decide_eq_false (p := (j : Int) < (n : Int)) h3))
            refine Need.mk (hla _ q1.1 q1.2) fun _ => Need.mk n0 fun _ => Or.inl ?_
            rw [em, eC]
            have hW := leafG_p1 (L := L) hL q1.1 q1.2 (g := fun _ _ => .pl .tt)
            refine ⟨[9], [0, 9], ⟨?fz2, rfl, (by repeat' (first | exact trivial | exact rfl | apply And.intro | exact (fun _ _ _ _ => Cell.le_refl _) | (intro i hi; rfl) | (intro i hi; exact absurd hi (Nat.not_lt_zero _)))), (by show List.Nodup []; exact List.nodup_nil), rfl, (by repeat' (first | exact trivial | exact rfl | exact hW | apply And.intro))⟩⟩
            case fz2 =>
              refine ⟨fun i c hi hc => ?_, trivial⟩
              obtain rfl : i = 0 := by omega
              exact lfC_new (L := L) (n := n) (i := (j : Int)) c hc
      · have h : ¬ (j : Int) < (n : Int) := of_decide_eq_false (p := (j : Int) < (n : Int)) h
        have en := hED fun h3 => absurd h3 (by omega)
        have hfb : ¬ findB L k = true := fun q => by have := (findB_eq q).1; omega
        refine Need.mk hrl fun _ => ?_
        refine Ife.mk (fun h3 => absurd (of_decide_eq_true (p := (j : Int) < (n : Int)) h3) h) (fun _ => ?_)
        refine Ife.mk (fun h4 => ?_) (fun h4 => ?_)
        · have h4 : (0 : Int) < (j : Int) := of_decide_eq_true (p := (0 : Int) < (j : Int)) h4
          have r1 : 0 ≤ (j : Int) - 1 := by omega
          have r2 : (j : Int) - 1 < (n : Int) := by omega
          have em : mkL L k = [mkLeaf L ((j : Int) - 1).toNat] := by
            unfold mkL
            rw [if_pos hg, if_neg hfb, en, if_pos (by omega), if_neg (by omega), show ((j : Int) - 1).toNat = j - 1 by omega]
            rfl
          refine Need.mk (by show fitStd .i64 ((j : Int) - 1); unfold fitStd; omega) fun _ => Need.mk (hla _ r1 r2) fun _ => Need.mk n0 fun _ => ?_
          refine Ife.mk (fun h3 => absurd (of_decide_eq_true (p := (j : Int) < (n : Int)) h3) h) (fun _ => Or.inl ?_)
          rw [em, eC]
          have hW := leafG_p1 (L := L) hL r1 r2 (g := fun _ _ => .pl .tt)
          refine ⟨[9], [0, 9], ⟨?fz3, rfl, (by repeat' (first | exact trivial | exact rfl | apply And.intro | exact (fun _ _ _ _ => Cell.le_refl _) | (intro i hi; rfl) | (intro i hi; exact absurd hi (Nat.not_lt_zero _)))), (by show List.Nodup []; exact List.nodup_nil), rfl, (by repeat' (first | exact trivial | exact rfl | exact hW | apply And.intro))⟩⟩
          case fz3 =>
            refine ⟨fun i c hi hc => ?_, trivial⟩
            obtain rfl : i = 0 := by omega
            exact lfC_new (L := L) (n := n) (i := (j : Int) - 1) c hc
        · have h4 : ¬ (0 : Int) < (j : Int) := of_decide_eq_false (p := (0 : Int) < (j : Int)) h4
          have em : mkL L k = [] := by
            unfold mkL
            rw [if_pos hg, if_neg hfb, en, if_neg (by omega), if_neg (by omega)]
            rfl
          refine Ife.mk (fun h3 => absurd (of_decide_eq_true (p := (j : Int) < (n : Int)) h3) h) (fun _ => Or.inl ?_)
          rw [em, eC]
          have hZ : ∀ (i j : Nat), i < lenL [] → j < 4 → Cell.le (.pl .tt) (leafG true [] i j) := fun i j hi => absurd hi (Nat.not_lt_zero i)
          exact ⟨[], [0, 5], ⟨trivial, rfl, by repeat' (first | exact trivial | exact rfl | apply And.intro | exact (fun _ _ _ _ => Cell.le_refl _) | (intro i hi; rfl) | (intro i hi; exact absurd hi (Nat.not_lt_zero _))), (by show List.Nodup []; exact List.nodup_nil), rfl, by repeat' (first | exact trivial | exact rfl | exact hZ | apply And.intro)⟩⟩

end Go.Proofs.YtbbpgicoklhheaaGreatDoor.Vx
end

section
/- What the document keeps at heights: Snap, At, Header, Headers, Drop, by the walker. -/
namespace Go.Proofs.YtbbpgicoklhheaaGreatDoor.Vx
open Sha
open Go.RowKit
set_option linter.unusedVariables false
set_option linter.unusedSimpArgs false
/-- An own row of elements that hold slices comes to be data: it is written no more. -/
theorem Rel.frzO {w0 : World} {G : Gs} {ρ : List Pl} {h : List Ent} {W : World} (r : Rel w0 G ρ h W) {k : Nat} {ty sz n : Nat} {g : Nat → Nat → Cell} (he : h[k]? = some (.orow ty sz n g)) : Rel w0 G ρ (h.set k (.data false ty sz n fun i j => (g i j).old)) W := by
  obtain ⟨p, hp, hok⟩ := r.place he
  refine r.setS (en := .data false ty sz n fun i j => (g i j).old) he hp (fun b hb => by cases hb) hok.1 fun hst => ?_
  have hd := r.dat k _ p he hp
  obtain ⟨_, hcell⟩ := Ent.dview_ok (e := .orow ty sz n g) rfl hok hd
  obtain ⟨⟨a, cap, h1, h2, h3⟩, h4, h5⟩ := hok
  refine ⟨a, cap, h1, h2, fun h0 => ⟨p.b, p.o, h3 h0, ?_, fun i j hi hj => ?_⟩⟩
  · obtain ⟨vs, h6, _⟩ := hd
    have hb : p.v.ownBlock = some p.b := by
      rcases h6.2 with ⟨_, hn⟩ | ⟨g', cap', cur, hv, _⟩
      · omega
      · rw [hv]
        have := h5 g' (by rw [hv]; rfl)
        rw [← this]; rfl
    have hfp : (Ent.orow ty sz n g).fp p = some p.b := hb
    have ho := r.own k p.b (by rw [fp_mk he hp]; exact hfp)
    refine Dom.weak (fr := true) ⟨ho.2, ho.1, fun j hj => ?_⟩
    obtain ⟨x, q, hx, hq, hxb⟩ := fp_some hj
    by_cases hjk : j = k
    · subst hjk
      rw [List.getElem?_set_self (List.getElem?_eq_some_iff.1 he).1] at hx
      rw [hp] at hq
      cases hx; cases hq
      cases hxb
    · rw [List.getElem?_set_ne (fun e => hjk e.symm)] at hx
      exact hjk (r.dis j k p.b (by rw [fp_mk hx hq]; exact hxb) (by rw [fp_mk he hp]; exact hfp))
  · obtain ⟨v, h6, h7⟩ := hcell i j hi hj
    exact ⟨v, h6, Cell.shows_old (c := g i j) (fun fr b hb => ⟨by cases fr with
      | false => exact hst false b hb
      | true => exact Dom.weak (hst true b hb), rfl⟩) h7⟩
/-- The first argument's row is written no more; then the call. -/
noncomputable def appFrz (app : App) : App := fun args h => match args with
  | .c (.row k) :: _ => match h[k]? with
    | some (.orow ty sz n g) => match app args (h.set k (.data false ty sz n fun i j => (g i j).old)) with
      | some r => some ⟨r.pre, r.res, r.h, k :: r.ms⟩
      | none => none
    | _ => none
  | _ => none
theorem CtOk.frz {P : Program} {f : FuncId} {app : App} (m : CtOk P f app) : CtOk P f (appFrz app) := by
  have hsp : ∀ args h r, appFrz app args h = some r → ∃ k ty sz n g r', h[k]? = some (.orow ty sz n g) ∧ app args (h.set k (.data false ty sz n fun i j => (g i j).old)) = some r' ∧ r = ⟨r'.pre, r'.res, r'.h, k :: r'.ms⟩ := fun args h r hr => by
    unfold appFrz at hr
    split at hr
    · split at hr
      · rename_i h1
        split at hr
        · rename_i h2
          cases hr
          exact ⟨_, _, _, _, _, _, h1, h2, rfl⟩
        · cases hr
      · cases hr
    · cases hr
  refine ⟨m.fn, fun args h r hr => ?_, fun args h r hr hpre w0 G ρ W us rel hs => ?_⟩
  · obtain ⟨k, ty, sz, n, g, r', h1, h2, rfl⟩ := hsp args h r hr
    obtain ⟨h3, h4⟩ := m.le _ _ _ h2
    rw [List.length_set] at h3 h4
    refine ⟨h3, fun j hj hne => ?_⟩
    simp only [List.mem_cons, not_or] at hne
    rw [h4 j hj hne.2, List.getElem?_set_ne (fun e => hne.1 e.symm)]
  · obtain ⟨k, ty, sz, n, g, r', h1, h2, rfl⟩ := hsp args h r hr
    exact m.run _ _ _ h2 hpre w0 G ρ W us (rel.frzO h1) hs
/-- Entries in other words. -/
theorem StT.same {m : Nat} {t : List SV} {h h' : List Ent} (hw : hSame h h') : StT m ⟨t, h⟩ ⟨t, h'⟩ := ⟨fun w0 G ρb ρ1 W us hm r hus => ⟨ρ1, r.same hw, hus⟩⟩
def pT (L : List PaR) (i : Nat) : Int := (L.getD i (0, 0, [])).2.1
def pS (L : List PaR) (i : Nat) : List PP := (L.getD i (0, 0, [])).2.2
def pN (L : List PaR) (i : Nat) : Nat := (pS L i).length
/-- The rest of a Snap's cells. -/
def snZ : List CV := [.int .u8 0, .int .u8 0, .int .u8 0, .int .u8 0, .int .u8 0, .int .u8 0, .int .u8 0, .int .u8 0, .int .u8 0, .int .u8 0, .int .u8 0, .int .u8 0, .int .u8 0, .int .u8 0, .int .u8 0, .int .u8 0, .int .u8 0, .int .u8 0, .int .u8 0, .int .u8 0, .int .u8 0, .int .u8 0, .int .u8 0, .int .u8 0, .int .u8 0, .int .u8 0, .int .u8 0, .int .u8 0, .int .u8 0, .int .u8 0, .int .u8 0, .int .u8 0, .bool false]
/-- What was kept, as cells. -/
def kC (h t : Int) (n : Nat) (g : Nat → List CV) : List Cell := [.pl (.int .i64 h), .pl (.int .i64 t), .es false 84 2 n g, .pl (.int .u8 0), .pl (.int .u8 0), .pl (.int .u8 0), .pl (.int .u8 0), .pl (.int .u8 0), .pl (.int .u8 0), .pl (.int .u8 0), .pl (.int .u8 0), .pl (.int .u8 0), .pl (.int .u8 0), .pl (.int .u8 0), .pl (.int .u8 0), .pl (.int .u8 0), .pl (.int .u8 0), .pl (.int .u8 0), .pl (.int .u8 0), .pl (.int .u8 0), .pl (.int .u8 0), .pl (.int .u8 0), .pl (.int .u8 0), .pl (.int .u8 0), .pl (.int .u8 0), .pl (.int .u8 0), .pl (.int .u8 0), .pl (.int .u8 0), .pl (.int .u8 0), .pl (.int .u8 0), .pl (.int .u8 0), .pl (.int .u8 0), .pl (.int .u8 0), .pl (.int .u8 0), .pl (.int .u8 0), .pl .ff]
def kG (L : List PaR) (i j : Nat) : Cell := (kC (pH L i) (pT L i) (pN L i) (prG (pS L i))).getD j (.pl .tt)
theorem getD_map_old : ∀ (l : List Cell) (j : Nat), (l.getD j (.pl .tt)).old = (l.map Cell.old).getD j (.pl .tt)
  | [], j => by simp [List.getD]; rfl
  | x :: l, 0 => rfl
  | x :: l, j + 1 => by simpa [List.getD] using getD_map_old l j
theorem kG_old (L : List PaR) (i j : Nat) : (kG L i j).old = kG L i j := getD_map_old _ _
def cI : Cell → Int
  | .pl (.int .i64 n) => n
  | _ => 0
def snOf (g : Nat → Cell) : PaR := (cI (g 0), cI (g 1), esL (g 2))
def kL (n : Nat) (get : Nat → Nat → Cell) : List PaR := (List.range n).map fun i => snOf (get i)
theorem kL_len {n : Nat} {get : Nat → Nat → Cell} : (kL n get).length = n := by simp [kL]
theorem kL_kG (L : List PaR) : kL L.length (kG L) = L := by
  apply List.ext_getElem?
  intro i
  by_cases hi : i < L.length
  · have e : snOf (kG L i) = L[i] := by
      show (pH L i, pT L i, prL (pN L i) (prG (pS L i))) = _
      rw [show pN L i = (pS L i).length from rfl, prL_prG]
      simp [pH, pT, pS, List.getD, hi]
    simp [kL, List.getElem?_range hi, hi, e]
  · rw [List.getElem?_eq_none (by simp [kL]; omega), List.getElem?_eq_none (by omega)]
def kPre (ty sz n : Nat) (get : Nat → Nat → Cell) : Prop := ty = 43 ∧ sz = 36 ∧ (∀ i j, i < n → j < 36 → get i j = kG (kL n get) i j) ∧ n ≤ 1000000 ∧ ∀ r ∈ kL n get, r.2.2.length ≤ 1000000 ∧ AllSz r.2.2
theorem kPre_mk {L : List PaR} {get : Nat → Nat → Cell} (hg : get = kG L) (hn : L.length ≤ 1000000) (hr : ∀ r ∈ L, r.2.2.length ≤ 1000000 ∧ AllSz r.2.2) : kPre 43 36 L.length get := by
  subst hg
  refine ⟨rfl, rfl, ?_, hn, ?_⟩ <;> rw [kL_kG]
  · exact fun i j _ _ => rfl
  · exact hr
theorem k_push (P : List PaR) (r : PaR) (i j : Nat) (h : i < P.length + 1) : pushC P.length (kG P) (kC r.1 r.2.1 r.2.2.length (prG r.2.2)) i j = kG (P ++ [r]) i j := by
  unfold pushC
  by_cases hi : i < P.length
  · rw [show Nat.blt i P.length = true by simpa [Nat.blt_eq] using hi]
    simp [kG, pH, pT, pN, pS, List.getD, List.getElem?_append_left hi]
  · rw [show Nat.blt i P.length = false by rw [Bool.eq_false_iff]; intro h2; exact hi (by simpa [Nat.blt_eq] using h2)]
    obtain rfl : i = P.length := by omega
    simp [kG, pH, pT, pN, pS, List.getD]
theorem at_found {L : List PaR} {h : Int} : ∀ {i : Nat}, i < L.length → pH L i = h → (∀ j, j < i → pH L j ≠ h) → paHas L h = true ∧ paRec L h = L.getD i (0, 0, []) := by
  induction L with
  | nil => intro i hi; exact absurd hi (Nat.not_lt_zero _)
  | cons r L ih =>
    intro i hi he hno
    show (if r.1 = h then true else paHas L h) = true ∧ (if r.1 = h then r else paRec L h) = _
    cases i with
    | zero =>
      have he : r.1 = h := he
      rw [if_pos he, if_pos he]
      exact ⟨rfl, rfl⟩
    | succ i =>
      have h0 : ¬ r.1 = h := hno 0 (by omega)
      rw [if_neg h0, if_neg h0]
      exact ih (by simpa using hi) he fun j hj => hno (j + 1) (by omega)
theorem at_none {L : List PaR} {h : Int} (hno : ∀ j, j < L.length → pH L j ≠ h) : paHas L h = false := by
  rw [Bool.eq_false_iff]
  intro hb
  obtain ⟨r, h1, h2⟩ := paHas_mem.1 hb
  obtain ⟨i, hi, rfl⟩ := List.getElem_of_mem h1
  exact hno i hi (by rw [← h2]; simp [pH, List.getD, hi])
theorem pS_mem {L : List PaR} {i : Nat} (hi : i < L.length) : ∃ r ∈ L, r.2.2 = pS L i := ⟨L[i], List.getElem_mem hi, by simp [pS, List.getD, hi]⟩
structure LAt (L : List PaR) (h : Int) (n : Nat) where
  i : Nat
  h1 : i ≤ n
  hno : ∀ j, j < i → pH L j ≠ h
structure LHs (n : Nat) where
  j : Nat
  h1 : j ≤ n
def khPre (ty sz n : Nat) (get : Nat → List CV) (ty2 sz2 n2 : Nat) (get2 : Nat → List CV) : Prop := ty = 47 ∧ sz = 34 ∧ ty2 = 47 ∧ sz2 = 34 ∧ n = n2 ∧ n ≤ 1000000 ∧ ∃ L : List PaR, ∀ i, i < n → get i = pHdG L i ∧ get2 i = pHdG L i
/-- A list without a key, as it lies. -/
def dropN (L : List PP) (n : Nat) (k : List UInt8) : Nat := if findB L k = true then (dropL L k).length else n
def dropG (L : List PP) (n : Nat) (k : List UInt8) : Nat → List CV := if findB L k = true then catG ((findI L k : Int) - 0).toNat (fun i => prG L (0 + i)) (fun i => prG L (((findI L k : Int) + 1).toNat + i)) else prG L
theorem dropN_eq {L : List PP} {k : List UInt8} : dropN L L.length k = (dropL L k).length := by
  unfold dropN
  split
  · rfl
  · rename_i h; unfold dropL; rw [if_neg h]
theorem dropG_eq {L : List PP} {k : List UInt8} {n : Nat} (hn : L.length = n) (i : Nat) (hi : i < (dropL L k).length) : dropG L n k i = prG (dropL L k) i := by
  unfold dropG
  split
  · rename_i h
    obtain ⟨h1, h2⟩ := findB_eq h
    rw [dropL_cat h, show ((findI L k : Int) - 0).toNat = findI L k by omega, show ((findI L k : Int) + 1).toNat = findI L k + 1 by omega]
    exact prG_cat2 (by omega) i
  · rename_i h
    unfold dropL
    rw [if_neg h]
attribute [local cbv_opaque] prK prV prL ltB findI findB szB setL putS dropL getL underL underN preB Lib.compareBytes prPre goodAt goodL insG delG insPre delPre KsAt leafF leafPre topG topPre0 rootF rootPre sumI hOf HashC kOf u8s lfG rootL sumsPre lK lV lI lP lN pG leafL leafOf leavesPre deep hNm wyL mkLeaf mkL mkC mkFrom mkTo wayG hashesG wayPre0 mkPre lenL StS esPre pHdG pQ pL pH pKey pRec mqHas mqNum mqN mqRow mqSet mqRec paHas paRec paL paNum keepE keepL pLast paPre keepPre pNum adK adN adM adS adV adL adPre fewD fewDt pT pS pN kPre rlvPre prPreR khPre kL dropN dropG
def tbPg : Tbl where
  T :=
    (3, ⟨1, false, [.int .i64 (0)], .int .i64, 8⟩) ::
    (4, ⟨1, false, [.ff], .bool, 1⟩) ::
    (9, ⟨1, false, [.str []], .str, 16⟩) ::
    (5, ⟨1, false, [.int .u8 (0)], .int .u8, 1⟩) ::
    (84, ⟨2, true, [.str [], .str []], .struct [(0, (1, false)), (1, (1, false))], 32⟩) ::
    (29, ⟨1, false, [.val (.slice none 0 0)], .slice 84, 24⟩) ::
    (43, ⟨36, true, [.int .i64 (0), .int .i64 (0), .val (.slice none 0 0), .int .u8 (0), .int .u8 (0), .int .u8 (0), .int .u8 (0), .int .u8 (0), .int .u8 (0), .int .u8 (0), .int .u8 (0), .int .u8 (0), .int .u8 (0), .int .u8 (0), .int .u8 (0), .int .u8 (0), .int .u8 (0), .int .u8 (0), .int .u8 (0), .int .u8 (0), .int .u8 (0), .int .u8 (0), .int .u8 (0), .int .u8 (0), .int .u8 (0), .int .u8 (0), .int .u8 (0), .int .u8 (0), .int .u8 (0), .int .u8 (0), .int .u8 (0), .int .u8 (0), .int .u8 (0), .int .u8 (0), .int .u8 (0), .ff], .struct [(0, (1, false)), (1, (1, false)), (2, (1, false)), (3, (32, true)), (35, (1, false))], 80⟩) ::
    (30, ⟨1, false, [.val (.slice none 0 0)], .slice 43, 24⟩) ::
    (41, ⟨32, true, [.int .u8 (0), .int .u8 (0), .int .u8 (0), .int .u8 (0), .int .u8 (0), .int .u8 (0), .int .u8 (0), .int .u8 (0), .int .u8 (0), .int .u8 (0), .int .u8 (0), .int .u8 (0), .int .u8 (0), .int .u8 (0), .int .u8 (0), .int .u8 (0), .int .u8 (0), .int .u8 (0), .int .u8 (0), .int .u8 (0), .int .u8 (0), .int .u8 (0), .int .u8 (0), .int .u8 (0), .int .u8 (0), .int .u8 (0), .int .u8 (0), .int .u8 (0), .int .u8 (0), .int .u8 (0), .int .u8 (0), .int .u8 (0)], .array 32 5, 32⟩) ::
    (47, ⟨34, true, [.int .i64 (0), .int .i64 (0), .int .u8 (0), .int .u8 (0), .int .u8 (0), .int .u8 (0), .int .u8 (0), .int .u8 (0), .int .u8 (0), .int .u8 (0), .int .u8 (0), .int .u8 (0), .int .u8 (0), .int .u8 (0), .int .u8 (0), .int .u8 (0), .int .u8 (0), .int .u8 (0), .int .u8 (0), .int .u8 (0), .int .u8 (0), .int .u8 (0), .int .u8 (0), .int .u8 (0), .int .u8 (0), .int .u8 (0), .int .u8 (0), .int .u8 (0), .int .u8 (0), .int .u8 (0), .int .u8 (0), .int .u8 (0), .int .u8 (0), .int .u8 (0)], .struct [(0, (1, false)), (1, (1, false)), (2, (32, true))], 48⟩) ::
    (66, ⟨1, false, [.val (.slice none 0 0)], .slice 47, 24⟩) ::
    []
  F :=
    (47, [0, 0, 0, 0, 0, 0, 0, 0, 0, 0, 0, 0, 0, 0, 0, 0, 0, 0, 0, 0, 0, 0, 0, 0, 0, 0, 0, 0, 0, 0, 0, 0, 0, 0]) ::
    (41, [0, 0, 0, 0, 0, 0, 0, 0, 0, 0, 0, 0, 0, 0, 0, 0, 0, 0, 0, 0, 0, 0, 0, 0, 0, 0, 0, 0, 0, 0, 0, 0]) ::
    []

theorem tbPg_ok : tbPg.Ok Tryz.prog where
  T :=
    TblOk.cons (by kernel_rfl) <|
    TblOk.cons (by kernel_rfl) <|
    TblOk.cons (by kernel_rfl) <|
    TblOk.cons (by kernel_rfl) <|
    TblOk.cons (by kernel_rfl) <|
    TblOk.cons (by kernel_rfl) <|
    TblOk.cons (by kernel_rfl) <|
    TblOk.cons (by kernel_rfl) <|
    TblOk.cons (by kernel_rfl) <|
    TblOk.cons (by kernel_rfl) <|
    TblOk.cons (by kernel_rfl) <|
    TblOk.nil _
  F :=
    FlatsOk.cons (FlatOk.of (D := .struct (Tryz.prog.fieldsOf 47)) 6 (by decide) (by kernel_rfl) (by kernel_rfl) rfl (by kernel_rfl)) <|
    FlatsOk.cons (FlatOk.of (D := .array 32 5) 6 (by decide) (by kernel_rfl) (by kernel_rfl) rfl (by kernel_rfl)) <|
    FlatsOk.nil _

def sAt : SpecF
  | [.c (.row 0), .c (.int .i64 h)], [.data fr ty sz n get] => some (fr = false ∧ kPre ty sz n get, .tup [(none, [.int .i64 (paRec (kL n get) h).1, .int .i64 (paRec (kL n get) h).2.1, .row 1, .int .u8 0, .int .u8 0, .int .u8 0, .int .u8 0, .int .u8 0, .int .u8 0, .int .u8 0, .int .u8 0, .int .u8 0, .int .u8 0, .int .u8 0, .int .u8 0, .int .u8 0, .int .u8 0, .int .u8 0, .int .u8 0, .int .u8 0, .int .u8 0, .int .u8 0, .int .u8 0, .int .u8 0, .int .u8 0, .int .u8 0, .int .u8 0, .int .u8 0, .int .u8 0, .int .u8 0, .int .u8 0, .int .u8 0, .int .u8 0, .int .u8 0, .int .u8 0, .ff]), (some (.bool (paHas (kL n get) h)), [])], [.dead, .elems 84 2 (paRec (kL n get) h).2.2.length (prG (paRec (kL n get) h).2.2)])
  | _, _ => none

set_option maxRecDepth 100000 in
set_option maxHeartbeats 8000000 in
theorem atP : Fn Tryz.prog 14 [] [(43, 236)] sAt := by
  have hC : CtsOk Tryz.prog [] := CtsOk.nil _
  refine Fn.ofZ (E := tbPg) [] 0 [] tbPg_ok hC (by kernel_rfl) Tryz.func14 rfl rfl rfl (by kernel_rfl) (by kernel_rfl) 1 (.elems 84 2 0 (prG [])) rfl ?_ ?_
  · intro args h pre r h' hs
    unfold sAt at hs
    split at hs
    · cases hs; exact ⟨rfl, rfl, Nat.le_of_ble_eq_true rfl⟩
    · cases hs
  · intro args h pre r h' hs hp
    unfold sAt at hs
    split at hs
    rotate_left
    · cases hs
    rename_i h fr ty sz n get
    cases hs
    obtain ⟨rfl, rfl, rfl, hg, hm, hr⟩ := hp
    refine ⟨[.data false 43 36 n (kG (kL n get))], ⟨⟨rfl, rfl, rfl, rfl, fun i j hi hj => by rw [hg i j hi hj]; exact Cell.le_refl _⟩, trivial⟩, ?_⟩
    have hL : (kL n get).length = n := kL_len
    clear hg
    generalize kL n get = L at hL hr ⊢
    generalize hg0 : (List.length : List PP → Nat) = g0
    generalize hg1 : (List.length : List PaR → Nat) = g1
    generalize hL : lft Tryz.prog _ = L
    generalize hA : Arith.std = A
    set_option cbv.maxSteps 2000000 in cbv
    subst hA hg0 hg1 hL
    show Runs Tryz.prog 1 (.loop _) _ _
    refine loop_ruleR (N := env (lft Tryz.prog 1) 0 .std tbPg [] []) rfl tbPg_ok hC (fun c st K _ h => h) (by kernel_rfl) [] (X := LAt L h n)
      (S := fun x => ⟨[.c (.row 0), .c (.int .i64 h), .any, .any, .c (.ptr 1 0), .any, .c (.int .i64 (x.i : Int))] ++ List.replicate 18 .any, [.data false 43 36 n (kG L), .cells 43 [.int .i64 0, .int .i64 0, .val (.slice none 0 0), .int .u8 0, .int .u8 0, .int .u8 0, .int .u8 0, .int .u8 0, .int .u8 0, .int .u8 0, .int .u8 0, .int .u8 0, .int .u8 0, .int .u8 0, .int .u8 0, .int .u8 0, .int .u8 0, .int .u8 0, .int .u8 0, .int .u8 0, .int .u8 0, .int .u8 0, .int .u8 0, .int .u8 0, .int .u8 0, .int .u8 0, .int .u8 0, .int .u8 0, .int .u8 0, .int .u8 0, .int .u8 0, .int .u8 0, .int .u8 0, .int .u8 0, .int .u8 0, .ff]]⟩) (μ := fun x => n - x.i) ⟨0, Nat.zero_le _, fun j hj => absurd hj (Nat.not_lt_zero _)⟩ (by kernel_rfl) [0, 1] ?_ ?_
    · refine ⟨rfl, (by show List.Nodup [0, 1]; decide), ?_, ?_⟩ <;> repeat' (first | exact trivial | exact rfl | apply And.intro | exact (fun _ _ _ _ => Cell.le_refl _) | (intro i hi; rfl) | (intro i hi; exact absurd hi (Nat.not_lt_zero _)))
    rintro ⟨i, hin, hno⟩
    generalize hg0 : (List.length : List PP → Nat) = g0
    generalize hg1 : (List.length : List PaR → Nat) = g1
    generalize hL : lft Tryz.prog _ = L
    generalize hA : Arith.std = A
    set_option cbv.maxSteps 4000000 in cbv
    subst hA hg0 hg1 hL
    refine Ife.mk (fun g => ?_) (fun g => ?_)
    · have g : (i : Int) < (n : Int) := of_decide_eq_true (p := (i : Int) < (n : Int)) g
      have hiN : i < n := Int.ofNat_lt.mp g
      refine Need.mk (by show 0 ≤ (i : Int) ∧ (i : Int) < (n : Int); omega) fun _ => Need.mk (by show (i : Int).toNat < n; omega) fun _ => ?_
      refine Ife.mk (fun e => ?_) (fun e => ?_)
      · have e : pH L i = h := of_decide_eq_true (p := pH L i = h) e
        obtain ⟨hb, hrc⟩ := at_found (by omega) e hno
        refine Need.mk (by show 0 ≤ (i : Int) ∧ (i : Int) < (n : Int); omega) fun _ => Need.mk (by show (i : Int).toNat < n; omega) fun _ => ?_
        rw [hb, hrc]
        exact ⟨[], [0, 2], ⟨trivial, rfl, (by repeat' (first | exact trivial | exact rfl | apply And.intro | exact (fun _ _ _ _ => Cell.le_refl _) | (intro i hi; rfl) | (intro i hi; exact absurd hi (Nat.not_lt_zero _)))), (by show List.Nodup []; exact List.nodup_nil), rfl, by repeat' (first | exact trivial | exact rfl | apply And.intro | exact (fun _ _ _ _ => Cell.le_refl _) | (intro i hi; rfl) | (intro i hi; exact absurd hi (Nat.not_lt_zero _)))⟩⟩
      · have e : ¬ pH L i = h := of_decide_eq_false (p := pH L i = h) e
        refine Need.mk (by show fitStd .i64 ((i : Int) + 1); unfold fitStd; omega) fun _ => ?_
        refine ⟨⟨i + 1, by omega, fun j hj => by
          rcases Nat.lt_or_ge j i with h3 | h3
          · exact hno j h3
          · rw [show j = i by omega]; exact e⟩, [0, 1], (by show n - (i + 1) < n - i; omega), ?_⟩
        refine ⟨rfl, (by show List.Nodup [0, 1]; decide), ?_, ?_⟩ <;> repeat' (first | exact trivial | exact rfl | apply And.intro | exact (fun _ _ _ _ => Cell.le_refl _) | (intro i hi; rfl) | (intro i hi; exact absurd hi (Nat.not_lt_zero _)))
    · have g : ¬ (i : Int) < (n : Int) := of_decide_eq_false (p := (i : Int) < (n : Int)) g
      have g2 : ¬ i < n := fun q => g (Int.ofNat_lt.mpr q)
      have hb : paHas L h = false := at_none fun j hj => hno j (by omega)
      rw [paL_no hb, hb]
      exact ⟨[], [0, 2], ⟨trivial, rfl, (by repeat' (first | exact trivial | exact rfl | apply And.intro | exact (fun _ _ _ _ => Cell.le_refl _) | (intro i hi; rfl) | (intro i hi; exact absurd hi (Nat.not_lt_zero _)))), (by show List.Nodup []; exact List.nodup_nil), rfl, by repeat' (first | exact trivial | exact rfl | apply And.intro | exact (fun _ _ _ _ => Cell.le_refl _) | (intro i hi; rfl) | (intro i hi; exact absurd hi (Nat.not_lt_zero _)))⟩⟩

def sSnH : SpecF
  | [.agg (.int .i64 h :: .int .i64 t :: .row 0 :: rs)], [.elems ty one n get] => some (rs = snZ ∧ rlvPre ty one n get, .agg (hd34 (pNum (h, t, prL n get))), [.dead])
  | _, _ => none

set_option maxRecDepth 100000 in
set_option maxHeartbeats 8000000 in
theorem snHP : Fn Tryz.prog 20 [] [(84, 2)] sSnH := by
  have hC : CtsOk Tryz.prog [(40, appFn [] [(84, 2)] sRRtOf)] := CtsOk.cons (Fn.ct rrtOfP) <| CtsOk.nil _
  refine Fn.of (E := tbPg) [] 0 [(3, [(0, true), (1, true), (2, true), (3, true), (4, true), (5, true), (6, false), (7, true), (1008, false), (8, false)])] tbPg_ok hC (by kernel_rfl) Tryz.func20 rfl rfl rfl (by kernel_rfl) (by kernel_rfl) 1 5 1 ?_ ?_
  · intro args h pre r h' hs
    unfold sSnH at hs
    split at hs
    · cases hs; exact ⟨rfl, rfl, Nat.le_of_ble_eq_true rfl⟩
    · cases hs
  · intro args h pre r h' hs hp
    unfold sSnH at hs
    split at hs
    rotate_left
    · cases hs
    rename_i h t rs ty one n get
    cases hs
    obtain ⟨rfl, ⟨rfl, rfl, hst, hm⟩, hz⟩ := hp
    refine ⟨[.elems 84 2 n (prG (prL n get))], ⟨⟨rfl, rfl, rfl, fun i hi => hst.eq hi⟩, trivial⟩, ?_⟩
    have hL : (prL n get).length = n := prL_len
    have ePR : prL n (prG (prL n get)) = prL n get := by
      have := prL_prG (prL n get)
      rwa [hL] at this
    generalize prL n get = L at hL hz ePR ⊢
    unfold sRRtOf
    generalize hg0 : (List.length : List PP → Nat) = g0
    generalize hA : Arith.std = A
    set_option cbv.maxSteps 4000000 in cbv
    subst hA hg0
    refine Ife.mk (fun h => absurd h (by decide)) (fun _ => ?_)
    refine Need.mk ⟨⟨rfl, rfl, prAt_prG _ L, hm⟩, by rw [ePR]; exact hz⟩ fun _ => ?_
    rw [ePR]
    exact ⟨[0], ⟨rfl, (by repeat' (first | exact trivial | exact rfl | apply And.intro | exact (fun _ _ _ _ => Cell.le_refl _) | (intro i hi; rfl) | (intro i hi; exact absurd hi (Nat.not_lt_zero _)))), (by decide), rfl, by repeat' (first | exact trivial | exact rfl | apply And.intro | exact (fun _ _ _ _ => Cell.le_refl _) | (intro i hi; rfl) | (intro i hi; exact absurd hi (Nat.not_lt_zero _)))⟩⟩

def sHd12 : SpecF
  | [.c (.row 0)], [.data fr ty sz n get] => some (fr = false ∧ kPre ty sz n get, .c (.row 1), [.dead, .row 47 34 n (pHdG (kL n get))])
  | _, _ => none

set_option maxRecDepth 100000 in
set_option maxHeartbeats 8000000 in
theorem hd12P : Fn Tryz.prog 28 [] [(43, 236)] sHd12 := by
  have hC : CtsOk Tryz.prog [(20, appFn [] [(84, 2)] sSnH)] := CtsOk.cons (Fn.ct snHP) <| CtsOk.nil _
  refine Fn.of (E := tbPg) [] 0 [] tbPg_ok hC (by kernel_rfl) Tryz.func28 rfl rfl rfl (by kernel_rfl) (by kernel_rfl) 1 47 34 ?_ ?_
  · intro args h pre r h' hs
    unfold sHd12 at hs
    split at hs
    · cases hs; exact ⟨rfl, rfl, Nat.le_of_ble_eq_true rfl⟩
    · cases hs
  · intro args h pre r h' hs hp
    unfold sHd12 at hs
    split at hs
    rotate_left
    · cases hs
    rename_i fr ty sz n get
    cases hs
    obtain ⟨rfl, rfl, rfl, hg, hm, hr⟩ := hp
    refine ⟨[.data false 43 36 n (kG (kL n get))], ⟨⟨rfl, rfl, rfl, rfl, fun i j hi hj => by rw [hg i j hi hj]; exact Cell.le_refl _⟩, trivial⟩, ?_⟩
    have hL : (kL n get).length = n := kL_len
    clear hg
    generalize kL n get = L at hL hr ⊢
    generalize hg0 : (List.length : List PP → Nat) = g0
    generalize hg1 : (List.length : List PaR → Nat) = g1
    generalize hL : lft Tryz.prog _ = L
    generalize hA : Arith.std = A
    set_option cbv.maxSteps 2000000 in cbv
    subst hA hg0 hg1 hL
    refine Runs.nilTmp 3 47 34 (pHdG L) rfl ?_
    show Runs Tryz.prog 1 (.loop _) _ _
    refine loop_ruleR (N := env (lft Tryz.prog 1) 0 .std tbPg [(20, appFn [] [(84, 2)] sSnH)] []) rfl tbPg_ok hC (fun c st K _ h => h) (by kernel_rfl) [] (X := LHs n)
      (S := fun x => ⟨[.c (.row 0), .any, .any, .c (.row 1), .c (.int .i64 (x.j : Int))] ++ List.replicate 15 .any, [.data false 43 36 n (kG L), .row 47 34 x.j (pHdG L)]⟩) (μ := fun x => n - x.j) ⟨0, Nat.zero_le _⟩ (by kernel_rfl) [0, 1] ?_ ?_
    · refine ⟨rfl, (by show List.Nodup [0, 1]; decide), ?_, ?_⟩ <;> repeat' (first | exact trivial | exact rfl | apply And.intro | exact (fun _ _ _ _ => Cell.le_refl _) | (intro i hi; rfl) | (intro i hi; exact absurd hi (Nat.not_lt_zero _)))
    rintro ⟨j, hjn⟩
    unfold sSnH
    generalize hg0 : (List.length : List PP → Nat) = g0
    generalize hg1 : (List.length : List PaR → Nat) = g1
    generalize hL : lft Tryz.prog _ = L
    generalize hA : Arith.std = A
    set_option cbv.maxSteps 4000000 in cbv
    subst hA hg0 hg1 hL
    refine Ife.mk (fun h => ?_) (fun h => ?_)
    · have h : (j : Int) < (n : Int) := of_decide_eq_true (p := (j : Int) < (n : Int)) h
      have hj2 : j < n := Int.ofNat_lt.mp h
      obtain ⟨r, hr1, hr2⟩ := pS_mem (L := L) (i := j) (by omega)
      obtain ⟨hr3, hr4⟩ := hr r hr1
      rw [hr2] at hr3 hr4
      refine Need.mk (by show 0 ≤ (j : Int) ∧ (j : Int) < (n : Int); omega) fun _ => Need.mk (by show (j : Int).toNat < n; omega) fun _ => ?_
      refine Need.mk ⟨⟨rfl, rfl, prAt_prG _ _, hr3⟩, by show AllSz (prL (pN L j) (prG (pS L j))); rw [show prL (pN L j) (prG (pS L j)) = pS L j from prL_prG _]; exact hr4⟩ fun _ => ?_
      have hP : ∀ i, i < j + 1 → pushG j (pHdG L) (hd34 (pNum (pH L j, pT L j, prL (pN L j) (prG (pS L j))))) i = pHdG L i := fun i hi => hd_push (by rw [show prL (pN L j) (prG (pS L j)) = pS L j from prL_prG _]; rfl) i hi
      refine Need.mk (by show j + 1 ≤ maxLen ∧ (j + 1) * 48 ≤ 140737488355328; unfold maxLen; omega) fun _ => Need.mk (by show fitStd .i64 ((j : Int) + 1); unfold fitStd; omega) fun _ => ?_
      refine ⟨⟨j + 1, by omega⟩, [0, 5], (by show n - (j + 1) < n - j; omega), ?_⟩
      refine ⟨rfl, (by show List.Nodup [0, 5]; decide), ?_, ?_⟩ <;> repeat' (first | exact trivial | exact hP | exact ej | exact rfl | apply And.intro | exact (fun _ _ _ _ => Cell.le_refl _) | (intro i hi; rfl) | (intro i hi; exact absurd hi (Nat.not_lt_zero _)))
    · have h : ¬ (j : Int) < (n : Int) := of_decide_eq_false (p := (j : Int) < (n : Int)) h
      have ej : j = n := by have : ¬ j < n := fun q => h (Int.ofNat_lt.mpr q)
                            omega
      exact ⟨[0, 1], ⟨rfl, (by repeat' (first | exact trivial | exact hP | exact ej | exact rfl | apply And.intro | exact (fun _ _ _ _ => Cell.le_refl _) | (intro i hi; rfl) | (intro i hi; exact absurd hi (Nat.not_lt_zero _)))), (by show List.Nodup [1]; decide), rfl, by repeat' (first | exact trivial | exact hP | exact ej | exact rfl | apply And.intro | exact (fun _ _ _ _ => Cell.le_refl _) | (intro i hi; rfl) | (intro i hi; exact absurd hi (Nat.not_lt_zero _)))⟩⟩

def sKHd : SpecF
  | [.c (.row 0), .c (.row 1)], [.elems ty sz n get, .elems ty2 sz2 n2 get2] => some (khPre ty sz n get ty2 sz2 n2 get2, .c .tt, [.dead, .dead])
  | _, _ => none

set_option maxRecDepth 100000 in
set_option maxHeartbeats 8000000 in
theorem kHdP : Fn Tryz.prog 26 [] [(47, 34), (47, 34)] sKHd := by
  have hC : CtsOk Tryz.prog [] := CtsOk.nil _
  refine Fn.of (E := tbPg) [] 0 [(6, [(0, true), (1, true), (2, true), (3, true), (4, true), (5, true), (6, true), (7, true), (8, true)])] tbPg_ok hC (by kernel_rfl) Tryz.func26 rfl rfl rfl (by kernel_rfl) (by kernel_rfl) 2 5 1 ?_ ?_
  · intro args h pre r h' hs
    unfold sKHd at hs
    split at hs
    · cases hs; exact ⟨rfl, rfl, Nat.le_of_ble_eq_true rfl⟩
    · cases hs
  · intro args h pre r h' hs hp
    unfold sKHd at hs
    split at hs
    rotate_left
    · cases hs
    rename_i ty sz n get ty2 sz2 n2 get2
    cases hs
    obtain ⟨rfl, rfl, rfl, rfl, rfl, hm, L, hg⟩ := hp
    refine ⟨[.elems 47 34 n (pHdG L), .elems 47 34 n (pHdG L)], ⟨⟨rfl, rfl, rfl, fun i hi => (hg i hi).1⟩, ⟨rfl, rfl, rfl, fun i hi => (hg i hi).2⟩, trivial⟩, ?_⟩
    clear hg
    generalize hg0 : (List.length : List PaR → Nat) = g0
    generalize hL : lft Tryz.prog _ = L
    generalize hA : Arith.std = A
    set_option cbv.maxSteps 2000000 in cbv
    subst hA hg0 hL
    refine Ife.mk (fun h => absurd h (by simp [Arith.std])) (fun _ => ?_)
    show Runs Tryz.prog 2 (.loop _) _ _
    refine loop_ruleR (N := env (lft Tryz.prog 2) 0 .std tbPg [] [(6, [(0, true), (1, true), (2, true), (3, true), (4, true), (5, true), (6, true), (7, true), (8, true)])]) rfl tbPg_ok hC (fun c st K _ h => h) (by kernel_rfl) [] (X := LHs n)
      (S := fun x => ⟨[.c (.row 0), .c (.row 1), .any, .any, .any, .c (.int .i64 (x.j : Int))] ++ List.replicate 20 .any, [.elems 47 34 n (pHdG L), .elems 47 34 n (pHdG L)]⟩) (μ := fun x => n - x.j) ⟨0, Nat.zero_le _⟩ (by kernel_rfl) [0, 1] ?_ ?_
    · refine ⟨rfl, (by show List.Nodup [0, 1]; decide), ?_, ?_⟩ <;> repeat' (first | exact trivial | exact rfl | apply And.intro | exact (fun _ _ _ _ => Cell.le_refl _) | (intro i hi; rfl) | (intro i hi; exact absurd hi (Nat.not_lt_zero _)))
    rintro ⟨j, hjn⟩
    generalize hg0 : (List.length : List PaR → Nat) = g0
    generalize hL : lft Tryz.prog _ = L
    generalize hA : Arith.std = A
    set_option cbv.maxSteps 4000000 in cbv
    subst hA hg0 hL
    refine Ife.mk (fun h => ?_) (fun h => ?_)
    · have h : (j : Int) < (n : Int) := of_decide_eq_true (p := (j : Int) < (n : Int)) h
      have hj2 : j < n := Int.ofNat_lt.mp h
      refine Need.mk (by show 0 ≤ (j : Int) ∧ (j : Int) < (n : Int); omega) fun _ => Need.mk (by show (j : Int).toNat < n; omega) fun _ => ?_
      refine Need.mk (by show 0 ≤ (j : Int) ∧ (j : Int) < (n : Int); omega) fun _ => Need.mk (by show (j : Int).toNat < n; omega) fun _ => ?_
      refine Ife.mk (fun h5 => absurd h5 (by simp [Arith.std])) (fun _ => ?_)
      refine Need.mk (by show fitStd .i64 ((j : Int) + 1); unfold fitStd; omega) fun _ => ?_
      refine ⟨⟨j + 1, by omega⟩, [0, 1], (by show n - (j + 1) < n - j; omega), ?_⟩
      refine ⟨rfl, (by show List.Nodup [0, 1]; decide), ?_, ?_⟩ <;> repeat' (first | exact trivial | exact rfl | apply And.intro | exact (fun _ _ _ _ => Cell.le_refl _) | (intro i hi; rfl) | (intro i hi; exact absurd hi (Nat.not_lt_zero _)))
    · exact ⟨[0, 1], ⟨rfl, (by repeat' (first | exact trivial | exact rfl | apply And.intro | exact (fun _ _ _ _ => Cell.le_refl _) | (intro i hi; rfl) | (intro i hi; exact absurd hi (Nat.not_lt_zero _)))), (by show List.Nodup []; exact List.nodup_nil), rfl, by repeat' (first | exact trivial | exact rfl | apply And.intro | exact (fun _ _ _ _ => Cell.le_refl _) | (intro i hi; rfl) | (intro i hi; exact absurd hi (Nat.not_lt_zero _)))⟩⟩

def sDropE : SpecF
  | [.c (.row 0), .c (.str k)], [.elems ty one n get] => some (prPreR ty one n get, .c (.row 1), [.dead, .elems 84 2 (dropN (prL n get) n k) (dropG (prL n get) n k)])
  | _, _ => none

set_option maxRecDepth 100000 in
set_option maxHeartbeats 4000000 in
theorem dropEP : Fn Tryz.prog 12 [] [(84, 2)] sDropE := by
  have hC : CtsOk Tryz.prog [(33, appFn [] [(84, 2)] sPlace)] := CtsOk.cons (Fn.ct placeP) <| CtsOk.nil _
  refine Fn.ofZ (E := tbPg) [] 0 [(4, [(0, true), (1, true), (2, true), (4, true), (5, true), (6, true), (7, true), (3, false), (8, false), (9, true)])] tbPg_ok hC (by kernel_rfl) Tryz.func12 rfl rfl rfl (by kernel_rfl) (by kernel_rfl) 1 (.elems 84 2 0 (prG [])) rfl ?_ ?_
  · intro args h pre r h' hs
    unfold sDropE at hs
    split at hs
    · cases hs; exact ⟨rfl, rfl, Nat.le_of_ble_eq_true rfl⟩
    · cases hs
  · intro args h pre r h' hs hp
    unfold sDropE at hs
    split at hs
    rotate_left
    · cases hs
    rename_i k ty one n get
    cases hs
    obtain ⟨rfl, rfl, hst, hm⟩ := hp
    refine ⟨[.elems 84 2 n (prG (prL n get))], ⟨⟨rfl, rfl, rfl, fun i hi => hst.eq hi⟩, trivial⟩, ?_⟩
    have hL : (prL n get).length = n := prL_len
    have ePR : prL n (prG (prL n get)) = prL n get := by
      have := prL_prG (prL n get)
      rwa [hL] at this
    generalize prL n get = L at hL ePR ⊢
    unfold sPlace
    generalize hg0 : (List.length : List PP → Nat) = g0
    generalize hA : Arith.std = A
    set_option cbv.maxSteps 4000000 in cbv
    subst hA hg0
    refine Need.mk ⟨rfl, rfl, prAt_prG n L, hm⟩ fun _ => ?_
    simp only [ePR]
    refine Ife.mk (fun h => ?_) (fun h => ?_)
    · have h : findB L k = false := by simpa using (show (!findB L k) = true from h)
      have hR1 : n = dropN L n k := by unfold dropN; rw [if_neg (by rw [h]; simp)]
      have hR2 : prG L = dropG L n k := by unfold dropG; rw [if_neg (by rw [h]; simp)]
      exact ⟨[], [0, 0], ⟨trivial, rfl, (by repeat' (first | exact trivial | exact rfl | apply And.intro | exact (fun _ _ _ _ => Cell.le_refl _) | (intro i hi; rfl) | (intro i hi; exact absurd hi (Nat.not_lt_zero _)))), (by show List.Nodup []; exact List.nodup_nil), rfl, by repeat' (first | exact trivial | exact hR1 | exact hR2 | exact rfl | apply And.intro | exact (fun _ _ _ _ => Cell.le_refl _) | (intro i hi; rfl) | (intro i hi; exact absurd hi (Nat.not_lt_zero _)))⟩⟩
    have h : findB L k = true := by simpa using (show (!findB L k) = false from h)
    obtain ⟨h1, h2⟩ := findB_eq h
    have hlen : ((findI L k : Int) - 0).toNat + ((n : Int) - ((findI L k : Int) + 1)).toNat = (dropL L k).length := by
      rw [dropL_cat h, List.length_append, List.length_take, List.length_drop]; omega
    have hR2 : catG ((findI L k : Int) - 0).toNat (fun i => prG L (0 + i)) (fun i => prG L (((findI L k : Int) + 1).toNat + i)) = dropG L n k := by unfold dropG; rw [if_pos h]
    refine Need.mk (by show (0 : Int) ≤ 0 ∧ (0 : Int) ≤ (findI L k : Int) ∧ (findI L k : Int) ≤ (n : Int); omega) fun _ => ?_
    refine Need.mk (by show fitStd .i64 ((findI L k : Int) + 1); unfold fitStd; omega) fun _ => ?_
    refine Need.mk (by show 0 ≤ (findI L k : Int) + 1 ∧ (findI L k : Int) + 1 ≤ (n : Int) ∧ (n : Int) ≤ (n : Int); omega) fun _ => ?_
    refine Need.mk (by show (0 + ((findI L k : Int) - 0).toNat ≤ maxLen ∧ (0 + ((findI L k : Int) - 0).toNat) * 32 ≤ 140737488355328) ∧ _; refine ⟨?_, fun i _ => rfl⟩; unfold maxLen; omega) fun _ => ?_
    refine Need.mk (by show (((findI L k : Int) - 0).toNat + ((n : Int) - ((findI L k : Int) + 1)).toNat ≤ maxLen ∧ (((findI L k : Int) - 0).toNat + ((n : Int) - ((findI L k : Int) + 1)).toNat) * 32 ≤ 140737488355328) ∧ _; refine ⟨?_, fun i _ => rfl⟩; unfold maxLen; omega) fun _ => ?_
    have hR1 := ((natM ((findI L k : Int) - 0).toNat (((n : Int) - ((findI L k : Int) + 1)).toNat)).trans hlen).trans (show (dropL L k).length = dropN L n k by unfold dropN; rw [if_pos h])
    exact ⟨[3], [0, 3], ⟨trivial, rfl, (by repeat' (first | exact trivial | exact rfl | apply And.intro | exact (fun _ _ _ _ => Cell.le_refl _) | (intro i hi; rfl) | (intro i hi; exact absurd hi (Nat.not_lt_zero _)))), (by show List.Nodup []; exact List.nodup_nil), rfl, by repeat' (first | exact trivial | exact hR1 | exact hR2 | exact rfl | apply And.intro | exact (fun _ _ _ _ => Cell.le_refl _) | (intro i hi; rfl) | (intro i hi; exact absurd hi (Nat.not_lt_zero _)))⟩⟩

end Go.Proofs.YtbbpgicoklhheaaGreatDoor.Vx
end

section
/- StoreProves, by the walker. -/
namespace Go.Proofs.YtbbpgicoklhheaaGreatDoor.Vx
open Sha
open Go.RowKit
set_option linter.unusedVariables false
set_option linter.unusedSimpArgs false
attribute [local cbv_opaque] prK prV prL ltB findI findB szB setL putS dropL getL underL underN preB Lib.compareBytes prPre goodAt goodL insG delG insPre delPre prPreR KsAt leafF leafPre topG topPre0 rootF rootPre sumI hOf HashC kOf u8s lfG rootL sumsPre lK lV lI lP lN pG leafL leafOf leavesPre deep hNm wyL mkLeaf mkL mkC mkFrom mkTo wayG hashesG wayPre0 mkPre lenL




end Go.Proofs.YtbbpgicoklhheaaGreatDoor.Vx
end
