/- PastProves, by the walker. -/
import Derived.Test.YtbbpgicoklhheaaDoorM36
import Derived.Test.YtbbpgicoklhheaaDoorM18
section
namespace Go.Proofs.YtbbpgicoklhheaaDoor.Vx
open Sha
open Go.RowKit
set_option linter.unusedVariables false
set_option linter.unusedSimpArgs false
theorem lastD {n : Nat} {P : List PaR} (h : PaQ P n) : decide (pLast P = (n : Int)) = true := decide_eq_true h.last
def sPpL : SpecF
  | [.c (.row 1), .c (.str key)], [.glob gg sz0 n0 get0, .elems ty one n get] => some (fPre gg sz0 n0 get0 ty one n get, .c .tt, [.dead, .dead])
  | _, _ => none

set_option maxRecDepth 100000 in
set_option maxHeartbeats 16000000 in
theorem pastProvesP : Fn Tryd.prog 4 [1] [(30, 5)] sPpL := by
  have hC : CtsOk Tryd.prog [(5, appFn [1] [] sFirst13), (6, appFn [] [(30, 5)] sFewD), (7, appFn [] [] sPNew), (8, appFn [] [] sNewS), (11, appFn [1] [] sPKeep), (10, appFn [] [] sSet), (9, appFn [] [] sDrop), (12, appFn [] [] sPHdr), (17, appFn [] [] sPGet), (18, appFn [1] [] sPProve), (15, appFn [] [] sPLast), (19, appFn [1] [(87, 204)] sHas), (20, appFn [1] [(87, 204)] sLacks)] := CtsOk.cons (Fn.ct first13P) <| CtsOk.cons (Fn.ct fewDP) <| CtsOk.cons (Fn.ct newPP) <| CtsOk.cons (Fn.ct newSP) <| CtsOk.cons (Fn.ct keepPP) <| CtsOk.cons (Fn.ct setSP) <| CtsOk.cons (Fn.ct dropSP) <| CtsOk.cons (Fn.ct hdrPP) <| CtsOk.cons (Fn.ct getPP) <| CtsOk.cons (Fn.ct provePP) <| CtsOk.cons (Fn.ct lastPP) <| CtsOk.cons (Fn.ct hasPrP) <| CtsOk.cons (Fn.ct lacksPrP) <| CtsOk.nil _
  refine Fn.of (E := tbPd) [0] 0 [(13, [(2005, false), (2006, false), (0, true), (1, true), (2, true), (3, true), (4, true), (5, true), (6, true), (7, true), (8, true), (9, true), (10, true), (11, false)])] tbPd_ok hC (by kernel_rfl) Tryd.func4 rfl rfl rfl (by kernel_rfl) (by kernel_rfl) 2 5 1 ?_ ?_
  · intro args h pre r h' hs
    unfold sPpL at hs
    split at hs
    · cases hs; exact ⟨rfl, rfl, Nat.le_of_ble_eq_true rfl⟩
    · cases hs
  · intro args h pre r h' hs hp
    unfold sPpL at hs
    split at hs
    rotate_left
    · cases hs
    rename_i key gg sz0 n0 get0 ty one n get
    cases hs
    obtain ⟨hK, rfl, rfl, hst⟩ := hp
    refine ⟨[.glob 1 1 64 (fun i => [.int .u32 (kOf i)]), .elems 30 5 n (adG (adL n get))], ⟨hK.same.1, ⟨rfl, rfl, rfl, fun i hi => hst.eq hi⟩, trivial⟩, ?_⟩
    clear hK
    have hL : (adL n get).length = n := adL_len
    have eAD : adL n (adG (adL n get)) = adL n get := by
      have := adL_adG (adL n get)
      rwa [hL] at this
    generalize adL n get = L at hL eAD ⊢
    unfold sFirst13 sFewD sPNew sNewS sPKeep sSet sDrop sPHdr sPGet sPProve sPLast sHas sLacks
    generalize hg0 : (List.length : List PP → Nat) = g0
    generalize hg1 : (List.length : List UInt8 → Nat) = g1
    generalize hg2 : (List.length : List PaR → Nat) = g2
    generalize hg3 : (List.length : List DC → Nat) = g3
    generalize hL : lft Tryd.prog _ = L
    try unfold prG
    try unfold adG
    try unfold mkG
    try unfold leafG
    generalize ho0 : @prK = zo0, ho1 : @prV = zo1, ho2 : @prL = zo2, ho3 : @findB = zo3, ho4 : @szB = zo4, ho5 : @putS = zo5, ho6 : @dropL = zo6, ho7 : @getL = zo7, ho8 : @prPre = zo8, ho9 : @KsAt = zo9, ho10 : @hOf = zo10, ho11 : @kOf = zo11, ho12 : @rootL = zo12, ho13 : @lK = zo13, ho14 : @lV = zo14, ho15 : @lI = zo15, ho16 : @lP = zo16, ho17 : @lN = zo17, ho18 : @pG = zo18, ho19 : @leafL = zo19, ho20 : @mkL = zo20, ho21 : @mkC = zo21, ho22 : @lenL = zo22, ho23 : @valB = zo23, ho24 : @valV = zo24, ho25 : @lackB = zo25, ho26 : @vlPre = zo26, ho27 : @StS = zo27, ho28 : @pQ = zo28, ho29 : @pL = zo29, ho30 : @pH = zo30, ho31 : @paHas = zo31, ho32 : @paL = zo32, ho33 : @paNum = zo33, ho34 : @keepE = zo34, ho35 : @keepL = zo35, ho36 : @pLast = zo36, ho37 : @paPre = zo37, ho38 : @keepPre = zo38, ho39 : @adK = zo39, ho40 : @adN = zo40, ho41 : @adM = zo41, ho42 : @adS = zo42, ho43 : @adV = zo43, ho44 : @adL = zo44, ho45 : @adPre = zo45, ho46 : @fewD = zo46, ho47 : @fPre = zo47
    generalize hA : Arith.std = A
    cbv
    subst hA hg0 hg1 hg2 hg3 hL ho0 ho1 ho2 ho3 ho4 ho5 ho6 ho7 ho8 ho9 ho10 ho11 ho12 ho13 ho14 ho15 ho16 ho17 ho18 ho19 ho20 ho21 ho22 ho23 ho24 ho25 ho26 ho27 ho28 ho29 ho30 ho31 ho32 ho33 ho34 ho35 ho36 ho37 ho38 ho39 ho40 ho41 ho42 ho43 ho44 ho45 ho46 ho47
    try simp only [← mqHas.eq_def, ← mqRec.eq_def, ← mqSet.eq_def]
    refine Need.mk ksAt_self fun _ => ?_
    refine Need.mk ⟨rfl, rfl, adAt_adG n L⟩ fun _ => ?_
    simp only [eAD]
    refine Ife.mk (fun h => ?_) (fun h => ?_)
    · refine Need.mk ksAt_self fun _ => ?_
      exact ⟨[0, 1], ⟨rfl, (by repeat' (first | exact trivial | exact hR1 | exact hR2 | exact hR3 | exact hR4 | exact hA1 | exact hA2 | exact hB1 | exact hB2 | exact rfl | apply And.intro | exact (fun _ _ _ _ => Cell.le_refl _) | (intro i hi; rfl) | (intro i hi; exact absurd hi (Nat.not_lt_zero _)))), (by show List.Nodup []; exact List.nodup_nil), rfl, by repeat' (first | exact trivial | exact hR1 | exact hR2 | exact hR3 | exact hR4 | exact hA1 | exact hA2 | exact hB1 | exact hB2 | exact rfl | apply And.intro | exact (fun _ _ _ _ => Cell.le_refl _) | (intro i hi; rfl) | (intro i hi; exact absurd hi (Nat.not_lt_zero _)))⟩⟩
    have hfew : fewD L = true := by simpa using (show (!fewD L) = false from h)
    clear h
    obtain ⟨hn40, hfl⟩ := fewD_iff.1 hfew
    have hn : n ≤ 40 := by omega
    refine Ife.mk (fun h => ?_) (fun c1 => ?_)
    · refine Need.mk ksAt_self fun _ => ?_
      exact ⟨[0, 1], ⟨rfl, (by repeat' (first | exact trivial | exact hR1 | exact hR2 | exact hR3 | exact hR4 | exact hA1 | exact hA2 | exact hB1 | exact hB2 | exact rfl | apply And.intro | exact (fun _ _ _ _ => Cell.le_refl _) | (intro i hi; rfl) | (intro i hi; exact absurd hi (Nat.not_lt_zero _)))), (by show List.Nodup []; exact List.nodup_nil), rfl, by repeat' (first | exact trivial | exact hR1 | exact hR2 | exact hR3 | exact hR4 | exact hA1 | exact hA2 | exact hB1 | exact hB2 | exact rfl | apply And.intro | exact (fun _ _ _ _ => Cell.le_refl _) | (intro i hi; rfl) | (intro i hi; exact absurd hi (Nat.not_lt_zero _)))⟩⟩
    refine Ife.mk (fun h => ?_) (fun c2 => ?_)
    · refine Need.mk ksAt_self fun _ => ?_
      exact ⟨[0, 1], ⟨rfl, (by repeat' (first | exact trivial | exact hR1 | exact hR2 | exact hR3 | exact hR4 | exact hA1 | exact hA2 | exact hB1 | exact hB2 | exact rfl | apply And.intro | exact (fun _ _ _ _ => Cell.le_refl _) | (intro i hi; rfl) | (intro i hi; exact absurd hi (Nat.not_lt_zero _)))), (by show List.Nodup []; exact List.nodup_nil), rfl, by repeat' (first | exact trivial | exact hR1 | exact hR2 | exact hR3 | exact hR4 | exact hA1 | exact hA2 | exact hB1 | exact hB2 | exact rfl | apply And.intro | exact (fun _ _ _ _ => Cell.le_refl _) | (intro i hi; rfl) | (intro i hi; exact absurd hi (Nat.not_lt_zero _)))⟩⟩
    refine Need.mk trivial fun _ => Need.mk trivial fun _ => ?_
    show Runs Tryd.prog 2 (.loop _) _ _
    refine loop_ruleR (N := env (lft Tryd.prog 2) 0 .std tbPd [(5, appFn [1] [] sFirst13), (6, appFn [] [(30, 5)] sFewD), (7, appFn [] [] sPNew), (8, appFn [] [] sNewS), (11, appFn [1] [] sPKeep), (10, appFn [] [] sSet), (9, appFn [] [] sDrop), (12, appFn [] [] sPHdr), (17, appFn [] [] sPGet), (18, appFn [1] [] sPProve), (15, appFn [] [] sPLast), (19, appFn [1] [(87, 204)] sHas), (20, appFn [1] [(87, 204)] sLacks)] [(13, [(2005, false), (2006, false), (0, true), (1, true), (2, true), (3, true), (4, true), (5, true), (6, true), (7, true), (8, true), (9, true), (10, true), (11, false)])]) rfl tbPd_ok hC (fun c st K _ h => h) (by kernel_rfl) [0] (X := LPp1 n)
      (S := fun x => ⟨[.c (.row 1), .c (.str key), .any, .any, .any, .c (.ptr 2 0), .c (.ptr 5 0), .c (.int .i64 (x.i : Int))] ++ List.replicate 124 .any, [.glob 1 1 64 (fun i => [.int .u32 (kOf i)]), .elems 30 5 n (adG L), .cells 63 [.row 3, .row 4], .mq pMT (pQ x.P), .row 73 1 x.P.length (mkG x.P), .cells 65 [.row 6], .row 44 2 x.R.length (prG x.R)]⟩) (μ := fun x => n - x.i) ⟨0, [], [], Nat.zero_le _, RunD.nil, PaQ.nil⟩ (by kernel_rfl) [0, 1, 3, 4, 5, 6, 7] ?h0 ?rd
    case h0 =>
      refine ⟨rfl, (by show List.Nodup [0, 1, 3, 4, 5, 6, 7]; decide), ?_, ?_⟩ <;> repeat' (first | exact trivial | exact hR1 | exact hR2 | exact hR3 | exact hR4 | exact hA1 | exact hA2 | exact hB1 | exact hB2 | exact rfl | apply And.intro | exact (fun _ _ _ _ => Cell.le_refl _) | (intro i hi; rfl) | (intro i hi; exact absurd hi (Nat.not_lt_zero _)))
    case rd =>
      rintro ⟨i, R, P, hi, hO, hP⟩
      unfold sFirst13 sFewD sPNew sNewS sPKeep sSet sDrop sPHdr sPGet sPProve sPLast sHas sLacks
      generalize hg0 : (List.length : List PP → Nat) = g0
      generalize hg1 : (List.length : List UInt8 → Nat) = g1
      generalize hg2 : (List.length : List PaR → Nat) = g2
      generalize hg3 : (List.length : List DC → Nat) = g3
      generalize hL : lft Tryd.prog _ = L
      try dsimp only
      try unfold prG
      try unfold adG
      try unfold mkG
      try unfold leafG
      generalize ho0 : @prK = zo0, ho1 : @prV = zo1, ho2 : @prL = zo2, ho3 : @findB = zo3, ho4 : @szB = zo4, ho5 : @putS = zo5, ho6 : @dropL = zo6, ho7 : @getL = zo7, ho8 : @prPre = zo8, ho9 : @KsAt = zo9, ho10 : @hOf = zo10, ho11 : @kOf = zo11, ho12 : @rootL = zo12, ho13 : @lK = zo13, ho14 : @lV = zo14, ho15 : @lI = zo15, ho16 : @lP = zo16, ho17 : @lN = zo17, ho18 : @pG = zo18, ho19 : @leafL = zo19, ho20 : @mkL = zo20, ho21 : @mkC = zo21, ho22 : @lenL = zo22, ho23 : @valB = zo23, ho24 : @valV = zo24, ho25 : @lackB = zo25, ho26 : @vlPre = zo26, ho27 : @StS = zo27, ho28 : @pQ = zo28, ho29 : @pL = zo29, ho30 : @pH = zo30, ho31 : @paHas = zo31, ho32 : @paL = zo32, ho33 : @paNum = zo33, ho34 : @keepE = zo34, ho35 : @keepL = zo35, ho36 : @pLast = zo36, ho37 : @paPre = zo37, ho38 : @keepPre = zo38, ho39 : @adK = zo39, ho40 : @adN = zo40, ho41 : @adM = zo41, ho42 : @adS = zo42, ho43 : @adV = zo43, ho44 : @adL = zo44, ho45 : @adPre = zo45, ho46 : @fewD = zo46, ho47 : @fPre = zo47
      generalize hA : Arith.std = A
      cbv
      subst hA hg0 hg1 hg2 hg3 hL ho0 ho1 ho2 ho3 ho4 ho5 ho6 ho7 ho8 ho9 ho10 ho11 ho12 ho13 ho14 ho15 ho16 ho17 ho18 ho19 ho20 ho21 ho22 ho23 ho24 ho25 ho26 ho27 ho28 ho29 ho30 ho31 ho32 ho33 ho34 ho35 ho36 ho37 ho38 ho39 ho40 ho41 ho42 ho43 ho44 ho45 ho46 ho47
      try simp only [← mqHas.eq_def, ← mqRec.eq_def, ← mqSet.eq_def]
      replace hi : i ≤ n := hi
      replace hO : RunD R i := hO
      replace hP : PaQ P i := hP
      have hOl := hO.l
      have hPR : prPre 44 2 R.length (prG R) := ⟨rfl, rfl, prAt_prG _ R, by omega⟩
      have hPl := hP.l
      have hpa := paPre_mk hP.s
      simp only [prL_prG, pL_pQ]
      refine Ife.mk (fun h => ?_) (fun h => ?_)
      · have h : (i : Int) < (@Nat.cast Int instNatCastInt n) := of_decide_eq_true (p := (i : Int) < (n : Int)) h
        have hiN : i < n := Int.ofNat_lt.mp h
        have p0 : 0 ≤ (i : Int) ∧ (i : Int) < (n : Int) := by omega
        have p1 : (i : Int).toNat < n := by omega
        have hsz := hfl i (by omega)
        have fl : fitStd .i64 ((i : Int) + 1) := by unfold fitStd; omega
        have hke := hP.ke (show i < 40 by omega)
        refine Need.mk p0 fun _ => Need.mk p1 fun _ => ?_
        refine Ife.mk (fun hk => ?_) (fun hk => ?_)
        · have hO2 := hO.drop (k := adS L i)
          have hP2 := hP.next hO2 (by omega)
          have hO2l := hO2.l
          refine Need.mk p0 fun _ => Need.mk p1 fun _ => Need.mk ⟨hPR, hO.s⟩ fun _ => ?_
          refine Need.mk fl fun _ => Need.mk ⟨ksAt_self, hpa, by omega, rfl, ⟨rfl, rfl, prAt_prG _ _, Nat.le_trans hO2l (by omega)⟩, by rw [prL_prG]; exact hO2.s, by rw [prL_prG]; exact hO2.z⟩ fun _ => ?_
          refine Ife.mk (fun h5 => absurd h5 (by show ¬ (!decide (keepE P ((i : Int) + 1) 0 = 0)) = true; rw [hke]; decide)) (fun _ => ?_)
          refine Need.mk fl fun _ => ?_
          refine ⟨⟨i + 1, dropL R (adS L i), keepL P ((i : Int) + 1) 0 (dropL R (adS L i)), by omega, hO2, hP2⟩, [0, 1, 2, 3, 8, 5, 7], (by show n - (i + 1) < n - i; omega), ?_⟩
          refine ⟨rfl, (by show List.Nodup [0, 1, 2, 3, 8, 5, 7]; decide), ?_, ?_⟩ <;> repeat' (first | exact trivial | exact hR1 | exact hR2 | exact hR3 | exact hR4 | exact hA1 | exact hA2 | exact hB1 | exact hB2 | exact rfl | apply And.intro | exact (fun _ _ _ _ => Cell.le_refl _) | (intro i hi; rfl) | (intro i hi; exact absurd hi (Nat.not_lt_zero _)))
        · have hO2 := hO.put (k := adS L i) (v := adV L i)
          have hP2 := hP.next hO2 (by omega)
          have hO2l := hO2.l
          refine Need.mk p0 fun _ => Need.mk p1 fun _ => Need.mk p0 fun _ => Need.mk p1 fun _ => Need.mk ⟨hPR, hO.s, Nat.le_trans hsz.1 (by decide), Nat.le_trans hsz.2 (by decide)⟩ fun _ => ?_
          refine Need.mk fl fun _ => Need.mk ⟨ksAt_self, hpa, by omega, rfl, ⟨rfl, rfl, prAt_prG _ _, Nat.le_trans hO2l (by omega)⟩, by rw [prL_prG]; exact hO2.s, by rw [prL_prG]; exact hO2.z⟩ fun _ => ?_
          refine Ife.mk (fun h5 => absurd h5 (by show ¬ (!decide (keepE P ((i : Int) + 1) 0 = 0)) = true; rw [hke]; decide)) (fun _ => ?_)
          refine Need.mk fl fun _ => ?_
          refine ⟨⟨i + 1, putS R (adS L i) (adV L i), keepL P ((i : Int) + 1) 0 (putS R (adS L i) (adV L i)), by omega, hO2, hP2⟩, [0, 1, 2, 3, 8, 5, 7], (by show n - (i + 1) < n - i; omega), ?_⟩
          refine ⟨rfl, (by show List.Nodup [0, 1, 2, 3, 8, 5, 7]; decide), ?_, ?_⟩ <;> repeat' (first | exact trivial | exact hR1 | exact hR2 | exact hR3 | exact hR4 | exact hA1 | exact hA2 | exact hB1 | exact hB2 | exact rfl | apply And.intro | exact (fun _ _ _ _ => Cell.le_refl _) | (intro i hi; rfl) | (intro i hi; exact absurd hi (Nat.not_lt_zero _)))
      · have h : ¬ (i : Int) < (@Nat.cast Int instNatCastInt n) := of_decide_eq_false (p := (i : Int) < (n : Int)) h
        have ei : i = n := by have : ¬ i < n := fun q => h (Int.ofNat_lt.mpr q)
                              omega
        have hPn : PaQ P n := by rw [← ei]; exact hP
        show Runs Tryd.prog 2 (.loop _) _ _
        refine loop_ruleR (N := env (lft Tryd.prog 2) 0 .std tbPd [(5, appFn [1] [] sFirst13), (6, appFn [] [(30, 5)] sFewD), (7, appFn [] [] sPNew), (8, appFn [] [] sNewS), (11, appFn [1] [] sPKeep), (10, appFn [] [] sSet), (9, appFn [] [] sDrop), (12, appFn [] [] sPHdr), (17, appFn [] [] sPGet), (18, appFn [1] [] sPProve), (15, appFn [] [] sPLast), (19, appFn [1] [(87, 204)] sHas), (20, appFn [1] [(87, 204)] sLacks)] [(13, [(2005, false), (2006, false), (0, true), (1, true), (2, true), (3, true), (4, true), (5, true), (6, true), (7, true), (8, true), (9, true), (10, true), (11, false)])]) rfl tbPd_ok hC (fun c st K _ h => h) (by kernel_rfl) [0] (X := LPp2 n)
          (S := fun x => ⟨[.c (.row 1), .c (.str key), .any, .any, .any, .c (.ptr 2 0), .c (.ptr 5 0), .any, .c (.int .i64 (x.h : Int))] ++ List.replicate 123 .any, [.glob 1 1 64 (fun i => [.int .u32 (kOf i)]), .elems 30 5 n (adG L), .cells 63 [.row 3, .row 4], .mq pMT (pQ P), .row 73 1 P.length (mkG P), .cells 65 [.row 6], .row 44 2 R.length (prG R)]⟩) (μ := fun x => n + 1 - x.h) ⟨1, Nat.le_refl 1, by omega⟩ (by kernel_rfl) [0, 1, 2, 3, 4, 5, 6] ?h1 ?re
        case h1 =>
          refine ⟨rfl, (by show List.Nodup [0, 1, 2, 3, 4, 5, 6]; decide), ?_, ?_⟩ <;> repeat' (first | exact trivial | exact hR1 | exact hR2 | exact hR3 | exact hR4 | exact hA1 | exact hA2 | exact hB1 | exact hB2 | exact rfl | apply And.intro | exact (fun _ _ _ _ => Cell.le_refl _) | (intro i hi; rfl) | (intro i hi; exact absurd hi (Nat.not_lt_zero _)))
        case re =>
          rintro ⟨h, hh1, hh2⟩
          unfold sFirst13 sFewD sPNew sNewS sPKeep sSet sDrop sPHdr sPGet sPProve sPLast sHas sLacks
          generalize hg0 : (List.length : List PP → Nat) = g0
          generalize hg1 : (List.length : List UInt8 → Nat) = g1
          generalize hg2 : (List.length : List PaR → Nat) = g2
          generalize hg3 : (List.length : List DC → Nat) = g3
          generalize hL : lft Tryd.prog _ = L
          try dsimp only
          try unfold prG
          try unfold adG
          try unfold mkG
          try unfold leafG
          generalize ho0 : @prK = zo0, ho1 : @prV = zo1, ho2 : @prL = zo2, ho3 : @findB = zo3, ho4 : @szB = zo4, ho5 : @putS = zo5, ho6 : @dropL = zo6, ho7 : @getL = zo7, ho8 : @prPre = zo8, ho9 : @KsAt = zo9, ho10 : @hOf = zo10, ho11 : @kOf = zo11, ho12 : @rootL = zo12, ho13 : @lK = zo13, ho14 : @lV = zo14, ho15 : @lI = zo15, ho16 : @lP = zo16, ho17 : @lN = zo17, ho18 : @pG = zo18, ho19 : @leafL = zo19, ho20 : @mkL = zo20, ho21 : @mkC = zo21, ho22 : @lenL = zo22, ho23 : @valB = zo23, ho24 : @valV = zo24, ho25 : @lackB = zo25, ho26 : @vlPre = zo26, ho27 : @StS = zo27, ho28 : @pQ = zo28, ho29 : @pL = zo29, ho30 : @pH = zo30, ho31 : @paHas = zo31, ho32 : @paL = zo32, ho33 : @paNum = zo33, ho34 : @keepE = zo34, ho35 : @keepL = zo35, ho36 : @pLast = zo36, ho37 : @paPre = zo37, ho38 : @keepPre = zo38, ho39 : @adK = zo39, ho40 : @adN = zo40, ho41 : @adM = zo41, ho42 : @adS = zo42, ho43 : @adV = zo43, ho44 : @adL = zo44, ho45 : @adPre = zo45, ho46 : @fewD = zo46, ho47 : @fPre = zo47
          generalize hA : Arith.std = A
          cbv
          subst hA hg0 hg1 hg2 hg3 hL ho0 ho1 ho2 ho3 ho4 ho5 ho6 ho7 ho8 ho9 ho10 ho11 ho12 ho13 ho14 ho15 ho16 ho17 ho18 ho19 ho20 ho21 ho22 ho23 ho24 ho25 ho26 ho27 ho28 ho29 ho30 ho31 ho32 ho33 ho34 ho35 ho36 ho37 ho38 ho39 ho40 ho41 ho42 ho43 ho44 ho45 ho46 ho47
          try simp only [← mqHas.eq_def, ← mqRec.eq_def, ← mqSet.eq_def]
          replace hh1 : 1 ≤ h := hh1
          replace hh2 : h ≤ n + 1 := hh2
          simp only [prL_prG, pL_pQ, Int.ofNat_eq_natCast]
          refine Ife.mk (fun g => ?_) (fun g => ?_)
          · have g : (h : Int) ≤ (n : Int) := of_decide_eq_true (p := (h : Int) ≤ (n : Int)) g
            have hb := hPn.has h hh1 (Int.ofNat_le.mp g)
            obtain ⟨m1, m2⟩ := paRec_mem hb
            have h40 : (paL P (h : Int)).length ≤ 40 := hPn.short _ m1
            obtain ⟨q1, q2, q3⟩ := hPn.s.at (h : Int)
            obtain ⟨v1, v2, v3⟩ := valD_own (k := key) hb hPn.s h40
            have hPv : vlPre 1 1 64 (fun i => [.int .u32 (kOf i)]) (rt34 (paNum P (h : Int))) 87 4 (lenL (mkL (paL P (h : Int)) key)) (fun i j => (leafG true (mkL (paL P (h : Int)) key) i j).old) := ⟨ksAt_self, ⟨rootL (paL P (h : Int)), rt34_num hb, rootL_range _⟩, leavesPre_old (mkL_ok (by omega)) (by have := mkL_len (L := paL P (h : Int)) (k := key); omega)⟩
            have eD : leafL (lenL (mkL (paL P (h : Int)) key)) (fun i j => (leafG true (mkL (paL P (h : Int)) key) i j).old) = mkL (paL P (h : Int)) key := leaves_old (mkL_ok (by omega))
            unfold rt34 at v1 v2 v3
            refine Need.mk hpa fun _ => Need.mk hpa fun _ => Need.mk ⟨ksAt_self, hpa⟩ fun _ => ?_
            rw [if_pos hb, hb]
            refine Ife.mk (fun h5 => absurd h5 (by show ¬ (!true) = true; decide)) (fun _ => ?_)
            refine Ife.mk (fun h5 => absurd h5 (by show ¬ (!decide ((0 : Int) = 0)) = true; decide)) (fun _ => ?_)
            refine Need.mk hPv fun _ => ?_
            simp only [eD, v1, v2, v3]
            refine Ife.mk (fun h5 => absurd h5 (by cases findB (paL P (h : Int)) key <;> simp [Arith.std])) (fun _ => ?_)
            refine Need.mk hPv fun _ => ?_
            refine Ife.mk (fun h5 => absurd h5 (by cases findB (paL P (h : Int)) key <;> simp [Arith.std])) (fun _ => ?_)
            refine Need.mk (by show fitStd .i64 ((h : Int) + 1); unfold fitStd; omega) fun _ => ?_
            refine ⟨⟨h + 1, by omega, by omega⟩, [0, 1, 2, 3, 4, 5, 6], (by show n + 1 - (h + 1) < n + 1 - h; omega), ?_⟩
            refine ⟨rfl, (by show List.Nodup [0, 1, 2, 3, 4, 5, 6]; decide), ?_, ?_⟩ <;> repeat' (first | exact trivial | exact hR1 | exact hR2 | exact hR3 | exact hR4 | exact hA1 | exact hA2 | exact hB1 | exact hB2 | exact rfl | apply And.intro | exact (fun _ _ _ _ => Cell.le_refl _) | (intro i hi; rfl) | (intro i hi; exact absurd hi (Nat.not_lt_zero _)))
          · have g : ¬ (h : Int) ≤ (n : Int) := of_decide_eq_false (p := (h : Int) ≤ (n : Int)) g
            have hT := lastD hPn
            refine Need.mk hpa fun _ => ?_
            exact ⟨[0, 1], ⟨rfl, (by repeat' (first | exact trivial | exact hT | exact rfl | apply And.intro)), (by show List.Nodup []; exact List.nodup_nil), rfl, by repeat' (first | exact trivial | exact hR1 | exact hR2 | exact hR3 | exact hR4 | exact hA1 | exact hA2 | exact hB1 | exact hB2 | exact rfl | apply And.intro | exact (fun _ _ _ _ => Cell.le_refl _) | (intro i hi; rfl) | (intro i hi; exact absurd hi (Nat.not_lt_zero _)))⟩⟩

end Go.Proofs.YtbbpgicoklhheaaDoor.Vx
end

section
/- Acts that come in, opened. -/
namespace Go.Proofs.YtbbpgicoklhheaaDoor.Vx
/-- An act's values. -/
def adVals (x : DC) : List Value := [.int .i64 x.1, .int .i64 x.2.1, .int .i64 x.2.2.1, .string ⟨x.2.2.2.1.toArray⟩, .string ⟨x.2.2.2.2.toArray⟩]
end Go.Proofs.YtbbpgicoklhheaaDoor.Vx
namespace Go.Proofs.YtbbpgicoklhheaaDoor
open Go.ChangeShapes Go.WideShapes Go.ChangeAt Go.RowKit
set_option linter.unusedVariables false
set_option linter.unusedSimpArgs false
section
variable {H : Type} {enc : TypeId × Value → H} {w : World} {base : Nat}
theorem cells_Ads : Tryd.prog.cellsOf 30 = 5 := by kernel_rfl
set_option maxRecDepth 100000 in
theorem open_Ads {v : Value} {d : DataW H} {p : List MemPlace} (hv : Value.okWide Tryd.prog w .any base 22 v) (h : DataW.Trod enc Tryd.prog w 0 (fun _ => true) true 22 v d p) :
    ∃ (a : Option Addr) (cap : Nat) (ls : List Vx.DC), v = .slice a ls.length cap ∧ SlIn w a 5 cap (ls.map Vx.adVals) := by
  obtain ⟨a, cap, xs, rfl, hs, hx⟩ := open_slice (sz := 5) (P := fun l => ∃ x : Vx.DC, l = Vx.adVals x) (by decide) Tryd.underlying22 cells_Ads (fun fuel l x hl => by
    obtain ⟨ys, m, _, _, hl2, hlen, hff⟩ := DataW.trod_struct Tryd.underlying30 hl
    rw [cells_Ads] at hl2
    match l, hl2 with
    | [c0, c1, c2, c3, c4], _ =>
      match ys, hlen with
      | [y0, y1, y2, y3, y4], _ =>
        have f0 := hff 0 _ rfl
        have f1 := hff 1 _ rfl
        have f2 := hff 2 _ rfl
        have f3 := hff 3 _ rfl
        have f4 := hff 4 _ rfl
        simp [cells_int, cells_string] at f0 f1 f2 f3 f4
        obtain ⟨n0, e0, _, _⟩ := DataW.trod_int Tryd.underlying3 f0
        obtain ⟨n1, e1, _, _⟩ := DataW.trod_int Tryd.underlying3 f1
        obtain ⟨n2, e2, _, _⟩ := DataW.trod_int Tryd.underlying3 f2
        obtain ⟨s3, e3, _, hs3⟩ := DataW.trod_string Tryd.underlying9 f3
        obtain ⟨s4, e4, _, hs4⟩ := DataW.trod_string Tryd.underlying9 f4
        simp at e0 e1 e2 e3 e4
        obtain ⟨n3, rfl, b3⟩ := bytesOf s3 hs3
        obtain ⟨n4, rfl, b4⟩ := bytesOf s4 hs4
        exact ⟨rfl, (n0, n1, n2, n3, n4), by simp [Vx.adVals, e0, e1, e2, e3, e4]⟩) hv h
  obtain ⟨f, hf⟩ : ∃ f : Nat → Vx.DC, ∀ i (hi : i < xs.length), xs[i] = Vx.adVals (f i) := by
    have key : ∀ i, ∃ n : Vx.DC, ∀ hi : i < xs.length, xs[i] = Vx.adVals n := fun i => by
      by_cases hi : i < xs.length
      · obtain ⟨n, e⟩ := (hx _ (List.getElem_mem hi)).2
        exact ⟨n, fun _ => e⟩
      · exact ⟨Vx.adD, fun h => absurd h hi⟩
    exact ⟨fun i => (key i).choose, fun i hi => (key i).choose_spec hi⟩
  have e : xs = ((List.range xs.length).map f).map Vx.adVals := by
    apply List.ext_getElem (by simp)
    intro i h1 h2
    simp [hf i h1]
  refine ⟨a, cap, (List.range xs.length).map f, by simp, ?_⟩
  rw [← e]
  exact hs
theorem Ads_good {w : World} {a : Option Addr} {cap : Nat} {ls : List Vx.DC} (hs : SlIn w a 5 cap (ls.map Vx.adVals)) : ∃ p : Vx.Pl, p.v = .slice a ls.length cap ∧ Vx.Good w 5 (ls.length, Vx.adG ls) p := by
  obtain ⟨p, hp, g⟩ := hs.good (get := Vx.adG ls) (fun i hi => by
    have hi' : i < ls.length := by simpa using hi
    rw [List.getElem_map]
    have e : ls.getD i Vx.adD = ls[i] := by simp [List.getD, hi']
    unfold Vx.adG Vx.adGP Vx.adK Vx.adN Vx.adM Vx.adS Vx.adV
    rw [e]
    rfl)
  simp only [List.length_map] at hp g
  exact ⟨p, hp, g⟩
end
end Go.Proofs.YtbbpgicoklhheaaDoor
end

section
/- PastProves: what a law's call answers. -/
namespace Go.Proofs.YtbbpgicoklhheaaDoor
open Go.RowKit
set_option linter.unusedVariables false
theorem pastProvesWalk (w : World) (hk : ∀ i, i < 64 → w.cell? ⟨1, i, none⟩ = some (.int .u32 (Sha.kOf i))) (p0 : Option Addr) (cap0 : Nat) (ls0 : List Vx.DC) (hs0 : SlIn w p0 5 cap0 (ls0.map Vx.adVals)) (s1 : ByteArray) (hz1 : s1.size ≤ maxLen) :
    Calls Tryd.prog 4 #[.slice p0 ls0.length cap0, .string s1] w fun e w' => e = .returned (.bool true) ∧ Below w.heap.size w w' := by
  obtain ⟨q0, hq0, gd0⟩ := Ads_good hs0
  rw [← hq0]
  obtain ⟨b1, rfl, hl1⟩ := bytesOf s1 hz1
  refine Calls.mono (Vx.pastProvesP.run [.c (.row 1), .c (.str b1)] [.glob 1 1 64 (fun i => [.int .u32 (Sha.kOf i)]), .elems 30 5 ls0.length (Vx.adG ls0)] _ _ _ rfl ⟨Vx.ksAt_self, rfl, rfl, Vx.adAt_adG _ _⟩ [⟨1, undef, 0⟩, q0] w _ (Vx.Rel.addV (Vx.relGlob hk) 30 gd0)
    ⟨_, _, rfl, (by obtain ⟨a', cap', e, _⟩ := gd0.sl; simp [Vx.SV.is, Vx.CV.den, e, Vx.one] : Vx.SV.is [⟨1, undef, 0⟩, q0] (.c (.row 1)) q0.v), ⟨_, _, rfl, rfl, rfl⟩⟩) fun e W' he => ?_
  obtain ⟨u, ρ', rfl, hu, hr⟩ := he
  obtain rfl : .bool true = u := Option.some.inj hu
  exact ⟨rfl, Vx.Rel.toBelow hr⟩
end Go.Proofs.YtbbpgicoklhheaaDoor
end
