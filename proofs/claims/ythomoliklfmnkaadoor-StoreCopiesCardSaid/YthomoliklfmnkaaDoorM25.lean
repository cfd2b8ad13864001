/- StoreCopies, by the walker. -/
import Derived.Test.YthomoliklfmnkaaDoorM24
import Derived.Test.YthomoliklfmnkaaDoorM18
section
namespace Go.Proofs.YthomoliklfmnkaaDoor.Vx
open Sha
open Go.RowKit
set_option linter.unusedVariables false
set_option linter.unusedSimpArgs false
structure LC1 (R : List PP) (N : Nat) where
  i : Nat
  M : List PP
  h1 : i ≤ N
  h2 : M = R.take i
structure LC2 (m : Nat) where
  i : Nat
  O : List PP
  h1 : i ≤ m
  h2 : O.length = m
def tbY2 : Tbl where
  T :=
    (3, ⟨1, false, [.int .i64 (0)], .int .i64, 8⟩) ::
    (4, ⟨1, false, [.ff], .bool, 1⟩) ::
    (9, ⟨1, false, [.str []], .str, 16⟩) ::
    (46, ⟨2, true, [.str [], .str []], .struct [(0, (1, false)), (1, (1, false))], 32⟩) ::
    (22, ⟨1, false, [.val (.slice none 0 0)], .slice 46, 24⟩) ::
    (63, ⟨2, true, [.str [], .str []], .struct [(0, (1, false)), (1, (1, false))], 32⟩) ::
    (31, ⟨1, false, [.val (.slice none 0 0)], .slice 63, 24⟩) ::
    (137, ⟨1, true, [.val (.slice none 0 0)], .struct [(0, (1, false))], 24⟩) ::
    (53, ⟨1, false, [.val (.pointer none)], .ptr 137, 8⟩) ::
    (55, ⟨1, false, [.int .i64 (0)], .int .i64, 8⟩) ::
    (24, ⟨32, true, [.int .u8 (0), .int .u8 (0), .int .u8 (0), .int .u8 (0), .int .u8 (0), .int .u8 (0), .int .u8 (0), .int .u8 (0), .int .u8 (0), .int .u8 (0), .int .u8 (0), .int .u8 (0), .int .u8 (0), .int .u8 (0), .int .u8 (0), .int .u8 (0), .int .u8 (0), .int .u8 (0), .int .u8 (0), .int .u8 (0), .int .u8 (0), .int .u8 (0), .int .u8 (0), .int .u8 (0), .int .u8 (0), .int .u8 (0), .int .u8 (0), .int .u8 (0), .int .u8 (0), .int .u8 (0), .int .u8 (0), .int .u8 (0)], .array 32 5, 32⟩) ::
    []
  F :=
    (24, [0, 0, 0, 0, 0, 0, 0, 0, 0, 0, 0, 0, 0, 0, 0, 0, 0, 0, 0, 0, 0, 0, 0, 0, 0, 0, 0, 0, 0, 0, 0, 0]) ::
    []

theorem tbY2_ok : tbY2.Ok Tryd.prog where
  T :=
    TblOk.cons (by kernel_rfl) <|
    TblOk.cons (by kernel_rfl) <|
    TblOk.cons (by kernel_rfl) <|
    TblOk.cons (by kernel_rfl) <|
    TblOk.cons (by kernel_rfl) <|
    TblOk.cons (by kernel_rfl) <|
    TblOk.cons (by kernel_rfl) <|
    TblOk.cons (by kernel_rfl) <|
    TblOk.cons (by kernel_rfl) <|
    TblOk.cons (by kernel_rfl) <|
    TblOk.cons (by kernel_rfl) <|
    TblOk.nil _
  F :=
    FlatsOk.cons (FlatOk.of (D := .array 32 5) 6 (by decide) (by kernel_rfl) (by kernel_rfl) rfl (by kernel_rfl)) <|
    FlatsOk.nil _

def sCopies : SpecF
  | [.c (.row 1), .c (.str key), .c (.str val)], [.glob gg sz0 n0 get0, .elems ty one n get] => some (orderPre gg sz0 n0 get0 ty one n get, .c .tt, [.dead, .dead])
  | _, _ => none

set_option maxRecDepth 100000 in
set_option maxHeartbeats 16000000 in
theorem storeCopiesP : Fn Tryd.prog 7 [0] [(46, 2)] sCopies := by
  have hC : CtsOk Tryd.prog [(36, appFn [] [] sFirst12), (30, appFn [] [(46, 2)] sRise), (37, appFn [] [] sNewS), (38, appFn [] [] sSet), (39, appFn [] [] sGet), (40, appFn [] [] sDrop), (42, appFn [] [] sLen), (41, appFn [0] [] sSRoot), (44, appFn [] [] sPairs), (43, appFn [] [] sCopy), (45, appFn [] [(63, 2), (46, 2)] sKPairs)] := CtsOk.cons (Fn.ct first12P) <| CtsOk.cons (Fn.ct riseP) <| CtsOk.cons (Fn.ct newSP) <| CtsOk.cons (Fn.ct setSP) <| CtsOk.cons (Fn.ct getSP) <| CtsOk.cons (Fn.ct dropSP) <| CtsOk.cons (Fn.ct lenSP) <| CtsOk.cons (Fn.ct sRootP) <| CtsOk.cons (Fn.ct pairsP) <| CtsOk.cons (Fn.ct copyP) <| CtsOk.cons (Fn.ct kPairsP) <| CtsOk.nil _
  refine Fn.of (E := tbY2) [0] 0 [(12, [(2004, false), (2005, false), (0, true), (1, true), (2, true), (3, true), (4, true), (5, true), (6, true), (7, true), (8, true), (9, true), (10, true), (11, false)]), (14, [(2006, false), (2007, false), (0, true), (1, true), (2, true), (3, true), (5, true), (4, false), (6, true), (7, true)]), (23, [(2004, false), (2005, false), (0, true), (2, true), (1, false), (3, true), (4, true), (5, true), (7, true), (6, false), (8, false), (9, true), (10, true)])] tbY2_ok hC (by kernel_rfl) Tryd.func7 rfl rfl rfl (by kernel_rfl) (by kernel_rfl) 2 63 2 ?_ ?_
  · intro args h pre r h' hs
    unfold sCopies at hs
    split at hs
    · cases hs; exact ⟨rfl, rfl, Nat.le_of_ble_eq_true rfl⟩
    · cases hs
  · intro args h pre r h' hs hp
    unfold sCopies at hs
    split at hs
    rotate_left
    · cases hs
    rename_i key val gg sz0 n0 get0 ty one n get
    cases hs
    obtain ⟨hK, rfl, rfl, hst⟩ := hp
    refine ⟨[.glob 0 1 64 (fun i => [.int .u32 (kOf i)]), .elems 46 2 n (prG (prL n get))], ⟨hK.same.1, ⟨rfl, rfl, rfl, fun i hi => hst.eq hi⟩, trivial⟩, ?_⟩
    clear hK
    have hL : (prL n get).length = n := prL_len
    generalize prL n get = L at hL ⊢
    unfold sFirst12 sRise sNewS sSet sGet sDrop sLen sSRoot sPairs sCopy sKPairs
    generalize hg0 : (List.length : List PP → Nat) = g0
    generalize hg1 : (List.length : List UInt8 → Nat) = g1
    generalize hL : lft Tryd.prog _ = L
    try unfold prG
    generalize ho0 : @prK = zo0, ho1 : @prV = zo1, ho2 : @prL = zo2, ho3 : @ltB = zo3, ho4 : @findB = zo4, ho5 : @szB = zo5, ho6 : @setL = zo6, ho7 : @putS = zo7, ho8 : @dropL = zo8, ho9 : @getL = zo9, ho10 : @prPre = zo10, ho11 : @prPreR = zo11, ho12 : @riseL = zo12, ho13 : @kOf = zo13, ho14 : @rootL = zo14, ho15 : @sumsPre = zo15, ho16 : @orderPre = zo16
    generalize hA : Arith.std = A
    cbv
    subst hA hg0 hg1 hL ho0 ho1 ho2 ho3 ho4 ho5 ho6 ho7 ho8 ho9 ho10 ho11 ho12 ho13 ho14 ho15 ho16
    have hmn : ((min (n : Int) 30) - 0).toNat ≤ 30 := by omega
    refine Need.mk trivial fun _ => Need.mk (by show (0 : Int) ≤ 0 ∧ (0 : Int) ≤ min (n : Int) 30 ∧ min (n : Int) 30 ≤ (n : Int); omega) fun _ => ?_
    refine Need.mk ⟨rfl, rfl, fun i hi => ⟨_, _, rfl⟩, (by show ((min (n : Int) 30) - 0).toNat ≤ 1000000; omega)⟩ fun _ => ?_
    have hRs : StS (riseL (prL ((min (n : Int) 30) - 0).toNat fun i => prG L (0 + i))) := rise_s
    have hRz : AllSz (riseL (prL ((min (n : Int) 30) - 0).toNat fun i => prG L (0 + i))) := rise_sz
    have hRl : (riseL (prL ((min (n : Int) 30) - 0).toNat fun i => prG L (0 + i))).length ≤ 30 := by
      have h1 := rise_len (L := prL ((min (n : Int) 30) - 0).toNat fun i => prG L (0 + i))
      rw [prL_len] at h1
      omega
    refine Ife.mk (fun h => ?_) (fun c1 => ?_)
    · refine Need.mk trivial fun _ => ?_
      exact ⟨[0, 1], ⟨rfl, (by repeat' (first | exact trivial | exact hR1 | exact hR2 | exact hR3 | exact hR4 | exact hA1 | exact hA2 | exact hB1 | exact hB2 | exact rfl | apply And.intro | exact (fun _ _ _ _ => Cell.le_refl _) | (intro i hi; rfl) | (intro i hi; exact absurd hi (Nat.not_lt_zero _)))), (by show List.Nodup []; exact List.nodup_nil), rfl, by repeat' (first | exact trivial | exact hR1 | exact hR2 | exact hR3 | exact hR4 | exact hA1 | exact hA2 | exact hB1 | exact hB2 | exact rfl | apply And.intro | exact (fun _ _ _ _ => Cell.le_refl _) | (intro i hi; rfl) | (intro i hi; exact absurd hi (Nat.not_lt_zero _)))⟩⟩
    refine Ife.mk (fun h => ?_) (fun c2 => ?_)
    · refine Need.mk trivial fun _ => ?_
      exact ⟨[0, 1], ⟨rfl, (by repeat' (first | exact trivial | exact hR1 | exact hR2 | exact hR3 | exact hR4 | exact hA1 | exact hA2 | exact hB1 | exact hB2 | exact rfl | apply And.intro | exact (fun _ _ _ _ => Cell.le_refl _) | (intro i hi; rfl) | (intro i hi; exact absurd hi (Nat.not_lt_zero _)))), (by show List.Nodup []; exact List.nodup_nil), rfl, by repeat' (first | exact trivial | exact hR1 | exact hR2 | exact hR3 | exact hR4 | exact hA1 | exact hA2 | exact hB1 | exact hB2 | exact rfl | apply And.intro | exact (fun _ _ _ _ => Cell.le_refl _) | (intro i hi; rfl) | (intro i hi; exact absurd hi (Nat.not_lt_zero _)))⟩⟩
    refine Ife.mk (fun h => ?_) (fun c3 => ?_)
    · refine Need.mk trivial fun _ => ?_
      exact ⟨[0, 1], ⟨rfl, (by repeat' (first | exact trivial | exact hR1 | exact hR2 | exact hR3 | exact hR4 | exact hA1 | exact hA2 | exact hB1 | exact hB2 | exact rfl | apply And.intro | exact (fun _ _ _ _ => Cell.le_refl _) | (intro i hi; rfl) | (intro i hi; exact absurd hi (Nat.not_lt_zero _)))), (by show List.Nodup []; exact List.nodup_nil), rfl, by repeat' (first | exact trivial | exact hR1 | exact hR2 | exact hR3 | exact hR4 | exact hA1 | exact hA2 | exact hB1 | exact hB2 | exact rfl | apply And.intro | exact (fun _ _ _ _ => Cell.le_refl _) | (intro i hi; rfl) | (intro i hi; exact absurd hi (Nat.not_lt_zero _)))⟩⟩
    refine Ife.mk (fun h => ?_) (fun c4 => ?_)
    · refine Need.mk trivial fun _ => ?_
      exact ⟨[0, 1], ⟨rfl, (by repeat' (first | exact trivial | exact hR1 | exact hR2 | exact hR3 | exact hR4 | exact hA1 | exact hA2 | exact hB1 | exact hB2 | exact rfl | apply And.intro | exact (fun _ _ _ _ => Cell.le_refl _) | (intro i hi; rfl) | (intro i hi; exact absurd hi (Nat.not_lt_zero _)))), (by show List.Nodup []; exact List.nodup_nil), rfl, by repeat' (first | exact trivial | exact hR1 | exact hR2 | exact hR3 | exact hR4 | exact hA1 | exact hA2 | exact hB1 | exact hB2 | exact rfl | apply And.intro | exact (fun _ _ _ _ => Cell.le_refl _) | (intro i hi; rfl) | (intro i hi; exact absurd hi (Nat.not_lt_zero _)))⟩⟩
    have c1 : ¬ (key.length : Int) < 1 := of_decide_eq_false (p := (key.length : Int) < 1) c1
    have c2 : ¬ (160 : Int) < (key.length : Int) := of_decide_eq_false (p := (160 : Int) < (key.length : Int)) c2
    have c3 : ¬ (val.length : Int) < 1 := of_decide_eq_false (p := (val.length : Int) < 1) c3
    have c4 : ¬ (64 : Int) < (val.length : Int) := of_decide_eq_false (p := (64 : Int) < (val.length : Int)) c4
    have hkv : szB key val = true := szB_iff.2 ⟨⟨by omega, by omega⟩, by omega, by omega⟩
    refine Need.mk trivial fun _ => ?_
    generalize hR : riseL (prL ((min (n : Int) 30) - 0).toNat fun i => prG L (0 + i)) = R at hRs hRz hRl
    obtain ⟨N, hN⟩ : ∃ N, R.length = N := ⟨_, rfl⟩
    have hR1 : (riseL (prL ((min (n : Int) 30) - 0).toNat fun i => prG L (0 + i))).length = N := by rw [hR, hN]
    have hR2 : ∀ i, i < N → prG (riseL (prL ((min (n : Int) 30) - 0).toNat fun i => prG L (0 + i))) i = prG R i := fun i _ => by rw [hR]
    clear hR
    show Runs Tryd.prog 2 (.loop _) _ _
    refine loop_ruleR (N := env (lft Tryd.prog 2) 0 .std tbY2 [(36, appFn [] [] sFirst12), (30, appFn [] [(46, 2)] sRise), (37, appFn [] [] sNewS), (38, appFn [] [] sSet), (39, appFn [] [] sGet), (40, appFn [] [] sDrop), (42, appFn [] [] sLen), (41, appFn [0] [] sSRoot), (44, appFn [] [] sPairs), (43, appFn [] [] sCopy), (45, appFn [] [(63, 2), (46, 2)] sKPairs)] [(12, [(2004, false), (2005, false), (0, true), (1, true), (2, true), (3, true), (4, true), (5, true), (6, true), (7, true), (8, true), (9, true), (10, true), (11, false)]), (14, [(2006, false), (2007, false), (0, true), (1, true), (2, true), (3, true), (5, true), (4, false), (6, true), (7, true)]), (23, [(2004, false), (2005, false), (0, true), (2, true), (1, false), (3, true), (4, true), (5, true), (7, true), (6, false), (8, false), (9, true), (10, true)])]) rfl tbY2_ok hC (fun c st K _ h => h) (by kernel_rfl) [0] (X := LC1 R N)
      (S := fun x => ⟨[.c (.row 3), .c (.str key), .c (.str val), .any, .any, .any, .any, .c (.ptr 4 0), .c (.int .i64 (x.i : Int))] ++ List.replicate 115 .any, [.glob 0 1 64 (fun i => [.int .u32 (kOf i)]), .elems 46 2 n (prG L), .dead, .row 46 2 N (prG R), .cells 137 [.row 5], .row 63 2 x.M.length (prG x.M)]⟩) (μ := fun x => N - x.i) ⟨0, [], Nat.zero_le _, rfl⟩ (by kernel_rfl) [0, 1, 2, 3, 4, 5] ?h0 ?rd
    case h0 =>
      refine ⟨rfl, by decide, ?_, ?_⟩ <;> repeat' (first | exact trivial | exact hR1 | exact hR2 | exact hR3 | exact hR4 | exact hA1 | exact hA2 | exact hB1 | exact hB2 | exact rfl | apply And.intro | exact (fun _ _ _ _ => Cell.le_refl _) | (intro i hi; rfl) | (intro i hi; exact absurd hi (Nat.not_lt_zero _)))
    case rd =>
      rintro ⟨i, M, hi, hM⟩
      unfold sFirst12 sRise sNewS sSet sGet sDrop sLen sSRoot sPairs sCopy sKPairs
      generalize hg0 : (List.length : List PP → Nat) = g0
      generalize hg1 : (List.length : List UInt8 → Nat) = g1
      generalize hL : lft Tryd.prog _ = L
      try dsimp only
      try unfold prG
      generalize ho0 : @prK = zo0, ho1 : @prV = zo1, ho2 : @prL = zo2, ho3 : @ltB = zo3, ho4 : @findB = zo4, ho5 : @szB = zo5, ho6 : @setL = zo6, ho7 : @putS = zo7, ho8 : @dropL = zo8, ho9 : @getL = zo9, ho10 : @prPre = zo10, ho11 : @prPreR = zo11, ho12 : @riseL = zo12, ho13 : @kOf = zo13, ho14 : @rootL = zo14, ho15 : @sumsPre = zo15, ho16 : @orderPre = zo16
      generalize hA : Arith.std = A
      cbv
      subst hA hg0 hg1 hL ho0 ho1 ho2 ho3 ho4 ho5 ho6 ho7 ho8 ho9 ho10 ho11 ho12 ho13 ho14 ho15 ho16
      have hx : prL M.length (prG M) = M := prL_prG M
      have hML : M.length = i := by rw [hM, List.length_take]; omega
      refine Ife.mk (fun h => ?_) (fun h => ?_)
      · have h : (i : Int) < (N : Int) := of_decide_eq_true (p := (i : Int) < (N : Int)) h
        have hiN : i < N := Int.ofNat_lt.mp h
        have hsz := szB_iff.1 (hRz.at (i := i) (by omega))
        refine Need.mk (by show 0 ≤ (i : Int) ∧ (i : Int) < (N : Int); omega) fun _ => Need.mk (by show (i : Int).toNat < N; omega) fun _ => Need.mk (by show 0 ≤ (i : Int) ∧ (i : Int) < (N : Int); omega) fun _ => Need.mk (by show (i : Int).toNat < N; omega) fun _ => ?_
        refine Need.mk ⟨⟨rfl, rfl, prAt_prG _ M, by show M.length ≤ 1000000; omega⟩, by show StS (prL M.length (prG M)); rw [hx, hM]; exact hRs.sublist (List.take_sublist _ _), by show (prK R i).length ≤ 281474976710656; omega, by show (prV R i).length ≤ 281474976710656; omega⟩ fun _ => ?_
        refine Need.mk (by show fitStd .i64 ((i : Int) + 1); unfold fitStd; omega) fun _ => ?_
        have hp := put_snoc hRs hRz (i := i) (by omega)
        rw [← hM] at hp
        have hR3 : (putS (prL M.length (prG M)) (prK R i) (prV R i)).length = (R.take (i + 1)).length := by rw [hx, hp]
        have hR4 : ∀ j, j < (R.take (i + 1)).length → prG (putS (prL M.length (prG M)) (prK R i) (prV R i)) j = prG (R.take (i + 1)) j := fun j _ => by rw [hx, hp]
        refine ⟨⟨i + 1, R.take (i + 1), by omega, rfl⟩, [0, 1, 2, 3, 4, 6], (by show N - (i + 1) < N - i; omega), ?_⟩
        refine ⟨rfl, (by show List.Nodup [0, 1, 2, 3, 4, 6]; decide), ?_, ?_⟩ <;> repeat' (first | exact trivial | exact hR1 | exact hR2 | exact hR3 | exact hR4 | exact hA1 | exact hA2 | exact hB1 | exact hB2 | exact rfl | apply And.intro | exact (fun _ _ _ _ => Cell.le_refl _) | (intro i hi; rfl) | (intro i hi; exact absurd hi (Nat.not_lt_zero _)))
      have h : ¬ (i : Int) < (N : Int) := of_decide_eq_false (p := (i : Int) < (N : Int)) h
      have hiN : i = N := by omega
      have hMR : M = R := by rw [hM, List.take_of_length_le (by omega)]
      have hPR2 : prPre 63 2 R.length (prG R) := ⟨rfl, rfl, prAt_prG _ R, by omega⟩
      try dsimp only
      simp only [hMR, prL_prG]
      refine Need.mk hPR2 fun _ => Need.mk ⟨ksAt_self, hPR2, by rw [prL_prG]; exact hRz⟩ fun _ => Need.mk ⟨ksAt_self, hPR2, by rw [prL_prG]; exact hRz⟩ fun _ => ?_
      refine Ife.mk (fun h5 => absurd h5 (by simp [Arith.std])) (fun _ => ?_)
      have hPl := putS_len (L := R) (k := key) (v := val)
      have hPs := putS_s (k := key) (v := val) hRs
      have hPP : prPre 63 2 (putS R key val).length (prG (putS R key val)) := ⟨rfl, rfl, prAt_prG _ _, by omega⟩
      refine Need.mk ⟨hPR2, hRs, Nat.le_trans (szB_iff.1 hkv).1.2 (by decide), Nat.le_trans (szB_iff.1 hkv).2.2 (by decide)⟩ fun _ => ?_
      refine Need.mk ⟨hPP, hPs⟩ fun _ => Need.mk hPR2 fun _ => ?_
      have hA2 : R.length = N := hN
      show Runs Tryd.prog 2 (.loop _) _ _
      refine loop_ruleR (N := env (lft Tryd.prog 2) 0 .std tbY2 [(36, appFn [] [] sFirst12), (30, appFn [] [(46, 2)] sRise), (37, appFn [] [] sNewS), (38, appFn [] [] sSet), (39, appFn [] [] sGet), (40, appFn [] [] sDrop), (42, appFn [] [] sLen), (41, appFn [0] [] sSRoot), (44, appFn [] [] sPairs), (43, appFn [] [] sCopy), (45, appFn [] [(63, 2), (46, 2)] sKPairs)] [(12, [(2004, false), (2005, false), (0, true), (1, true), (2, true), (3, true), (4, true), (5, true), (6, true), (7, true), (8, true), (9, true), (10, true), (11, false)]), (14, [(2006, false), (2007, false), (0, true), (1, true), (2, true), (3, true), (5, true), (4, false), (6, true), (7, true)]), (23, [(2004, false), (2005, false), (0, true), (2, true), (1, false), (3, true), (4, true), (5, true), (7, true), (6, false), (8, false), (9, true), (10, true)])]) rfl tbY2_ok hC (fun c st K _ h => h) (by kernel_rfl) [0] (X := LC2 N)
        (S := fun x => ⟨[.c (.row 3), .c (.str key), .c (.str val), .any, .any, .any, .any, .c (.ptr 4 0), .any, .c (.ptr 6 0), .c (.ptr 8 0), .c (.row 9), .c (.int .i64 (x.i : Int))] ++ List.replicate 111 .any, [.glob 0 1 64 (fun i => [.int .u32 (kOf i)]), .elems 46 2 n (prG L), .dead, .row 46 2 N (prG R), .cells 137 [.row 5], .row 63 2 R.length (prG R), .cells 137 [.row 7], .row 63 2 (dropL (putS R key val) [97]).length (prG (dropL (putS R key val) [97])), .cells 24 (hashC (rootL R)), .row 63 2 N (prG x.O)]⟩) (μ := fun x => N - x.i) ⟨0, R, Nat.zero_le _, hN⟩ (by kernel_rfl) [0, 1, 2, 3, 4, 5, 6, 10, 8, 11] ?h02 ?rd2
      case h02 =>
        refine ⟨rfl, by decide, ?_, ?_⟩ <;> repeat' (first | exact trivial | exact hR1 | exact hR2 | exact hR3 | exact hR4 | exact hA1 | exact hA2 | exact hB1 | exact hB2 | exact rfl | apply And.intro | exact (fun _ _ _ _ => Cell.le_refl _) | (intro i hi; rfl) | (intro i hi; exact absurd hi (Nat.not_lt_zero _)))
      case rd2 =>
        rintro ⟨i, O, hi, hO⟩
        unfold sFirst12 sRise sNewS sSet sGet sDrop sLen sSRoot sPairs sCopy sKPairs
        generalize hg0 : (List.length : List PP → Nat) = g0
        generalize hg1 : (List.length : List UInt8 → Nat) = g1
        generalize hL : lft Tryd.prog _ = L
        try dsimp only
        try unfold prG
        generalize ho0 : @prK = zo0, ho1 : @prV = zo1, ho2 : @prL = zo2, ho3 : @ltB = zo3, ho4 : @findB = zo4, ho5 : @szB = zo5, ho6 : @setL = zo6, ho7 : @putS = zo7, ho8 : @dropL = zo8, ho9 : @getL = zo9, ho10 : @prPre = zo10, ho11 : @prPreR = zo11, ho12 : @riseL = zo12, ho13 : @kOf = zo13, ho14 : @rootL = zo14, ho15 : @sumsPre = zo15, ho16 : @orderPre = zo16
        generalize hA : Arith.std = A
        cbv
        subst hA hg0 hg1 hL ho0 ho1 ho2 ho3 ho4 ho5 ho6 ho7 ho8 ho9 ho10 ho11 ho12 ho13 ho14 ho15 ho16
        refine Ife.mk (fun h => ?_) (fun h => ?_)
        · have h : (i : Int) < (N : Int) := of_decide_eq_true (p := (i : Int) < (N : Int)) h
          have hiN : i < N := Int.ofNat_lt.mp h
          refine Need.mk (by show 0 ≤ (i : Int) ∧ (i : Int) < (N : Int); omega) fun _ => Need.mk (by show (i : Int).toNat < N; omega) fun _ => ?_
          refine Need.mk (by show fitStd .i64 ((i : Int) + 1); unfold fitStd; omega) fun _ => ?_
          have hA1 : ∀ j, j < N → upG (prG O) (i : Int).toNat 0 [.str [99, 104, 97, 110, 103, 101, 100]] j = prG (O.set i ([99, 104, 97, 110, 103, 101, 100], prV O i)) j := fun j hj => by
            have := prG_key (O := O) (k := [99, 104, 97, 110, 103, 101, 100]) (i := i) (by omega) j (by omega)
            exact this
          refine ⟨⟨i + 1, O.set i ([99, 104, 97, 110, 103, 101, 100], prV O i), by omega, by rw [List.length_set]; exact hO⟩, [0, 1, 2, 3, 4, 5, 6, 7, 8, 9], (by show N - (i + 1) < N - i; omega), ?_⟩
          refine ⟨rfl, (by show List.Nodup [0, 1, 2, 3, 4, 5, 6, 7, 8, 9]; decide), ?_, ?_⟩ <;> repeat' (first | exact trivial | exact hR1 | exact hR2 | exact hR3 | exact hR4 | exact hA1 | exact hA2 | exact hB1 | exact hB2 | exact rfl | apply And.intro | exact (fun _ _ _ _ => Cell.le_refl _) | (intro i hi; rfl) | (intro i hi; exact absurd hi (Nat.not_lt_zero _)))
        try dsimp only
        simp only [prL_prG]
        refine Need.mk ⟨ksAt_self, hPR2, by rw [prL_prG]; exact hRz⟩ fun _ => ?_
        refine Ife.mk (fun h5 => absurd h5 (by simp [Arith.std])) (fun _ => ?_)
        refine Need.mk hPR2 fun _ => ?_
        have eN : prL N (prG R) = R := by rw [← hN]; exact prL_prG R
        have hPR0 : prPreR 46 2 N (prG R) := ⟨rfl, rfl, prAt_prG _ R, by omega⟩
        refine Need.mk ⟨hPR2, hPR0⟩ fun _ => ?_
        simp only [eN]
        refine Ife.mk (fun h5 => absurd h5 (by simp [Arith.std])) (fun _ => ?_)
        have hDl := dropL_len (L := putS R key val) (k := [97])
        have hDs := dropL_s (k := [97]) hPs
        refine Need.mk ⟨⟨rfl, rfl, prAt_prG _ _, by omega⟩, hDs⟩ fun _ => ?_
        have eP : putS R key val = setL R key val := if_pos hkv
        refine Ife.mk (fun h6 => ?_) (fun h6 => ?_)
        · have h6 : key = [97] := of_decide_eq_true (p := key = [97]) h6
          have hf : findB (dropL (putS R key val) [97]) key = false := by rw [eP, h6]; exact copies_a hRs
          refine Ife.mk (fun _ => ?_) (fun h7 => absurd (show (!findB (dropL (putS R key val) [97]) key) = false from h7) (by rw [hf]; simp))
          exact ⟨[0, 1], ⟨rfl, (by repeat' (first | exact trivial | exact hR1 | exact hR2 | exact hR3 | exact hR4 | exact hA1 | exact hA2 | exact hB1 | exact hB2 | exact rfl | apply And.intro | exact (fun _ _ _ _ => Cell.le_refl _) | (intro i hi; rfl) | (intro i hi; exact absurd hi (Nat.not_lt_zero _)))), (by show List.Nodup []; exact List.nodup_nil), rfl, by repeat' (first | exact trivial | exact hR1 | exact hR2 | exact hR3 | exact hR4 | exact hA1 | exact hA2 | exact hB1 | exact hB2 | exact rfl | apply And.intro | exact (fun _ _ _ _ => Cell.le_refl _) | (intro i hi; rfl) | (intro i hi; exact absurd hi (Nat.not_lt_zero _)))⟩⟩
        · have h6 : ¬ key = [97] := of_decide_eq_false (p := key = [97]) h6
          have hf : findB (dropL (putS R key val) [97]) key = true ∧ getL (dropL (putS R key val) [97]) key = val := by rw [eP]; exact copies_b hRs h6
          refine Ife.mk (fun _ => ?_) (fun h7 => absurd (show findB (dropL (putS R key val) [97]) key = false from h7) (by rw [hf.1]; simp))
          have hT : decide (getL (dropL (putS R key val) [97]) key = val) = true := by rw [hf.2]; simp
          exact ⟨[0, 1], ⟨rfl, (by repeat' (first | exact trivial | exact hT | exact rfl | apply And.intro)), (by show List.Nodup []; exact List.nodup_nil), rfl, by repeat' (first | exact trivial | exact hR1 | exact hR2 | exact hR3 | exact hR4 | exact hA1 | exact hA2 | exact hB1 | exact hB2 | exact rfl | apply And.intro | exact (fun _ _ _ _ => Cell.le_refl _) | (intro i hi; rfl) | (intro i hi; exact absurd hi (Nat.not_lt_zero _)))⟩⟩

end Go.Proofs.YthomoliklfmnkaaDoor.Vx
end

section
/- StoreCopies: what a law's call answers. -/
namespace Go.Proofs.YthomoliklfmnkaaDoor
open Go.RowKit
set_option linter.unusedVariables false
theorem storeCopiesWalk (w : World) (hk : ∀ i, i < 64 → w.cell? ⟨0, i, none⟩ = some (.int .u32 (Sha.kOf i))) (p : Option Addr) (cap : Nat) (ls : List Vx.PP) (hs : SlIn w p 2 cap (ls.map Vx.prVals)) (s : ByteArray) (hs2 : s.size ≤ maxLen) (t : ByteArray) (ht2 : t.size ≤ maxLen) :
    Calls Tryd.prog 7 #[.slice p ls.length cap, .string s, .string t] w fun e w' => e = .returned (.bool true) ∧ Below w.heap.size w w' := by
  obtain ⟨b, rfl, hl⟩ := bytesOf s hs2
  obtain ⟨c, rfl, hl2⟩ := bytesOf t ht2
  obtain ⟨q, hq, gd⟩ := prs_good hs
  rw [← hq]
  refine Calls.mono (Vx.storeCopiesP.run [.c (.row 1), .c (.str b), .c (.str c)] [.glob 0 1 64 (fun i => [.int .u32 (Sha.kOf i)]), .elems 46 2 ls.length (Vx.prG ls)] _ _ _ rfl ⟨Vx.ksAt_self, rfl, rfl, Vx.prAt_prG _ _⟩ [⟨0, undef, 0⟩, q] w _ (Vx.Rel.addV (Vx.relGlob hk) 46 gd)
    ⟨_, _, rfl, (by obtain ⟨a', cap', e, _⟩ := gd.sl; simp [Vx.SV.is, Vx.CV.den, e, Vx.one] : Vx.SV.is [⟨0, undef, 0⟩, q] (.c (.row 1)) q.v), _, _, rfl, rfl, _, _, rfl, rfl, rfl⟩) fun e W' he => ?_
  obtain ⟨u, ρ', rfl, hu, hr⟩ := he
  obtain rfl : .bool true = u := Option.some.inj hu
  exact ⟨rfl, Vx.Rel.toBelow hr⟩
end Go.Proofs.YthomoliklfmnkaaDoor
end
