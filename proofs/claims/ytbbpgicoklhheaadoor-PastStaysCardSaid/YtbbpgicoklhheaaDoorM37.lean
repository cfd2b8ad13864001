/- PastStays, by the walker. -/
import Derived.Test.YtbbpgicoklhheaaDoorM36
import Derived.Test.YtbbpgicoklhheaaDoorM18
section
namespace Go.Proofs.YtbbpgicoklhheaaDoor.Vx
open Sha
open Go.RowKit
set_option linter.unusedVariables false
set_option linter.unusedSimpArgs false
def gPre (gg sz0 n0 : Nat) (get0 : Nat → List CV) (ty one n : Nat) (get : Nat → List CV) (ty2 one2 n2 : Nat) (get2 : Nat → List CV) : Prop := KsAt gg sz0 n0 get0 ∧ (ty = 30 ∧ one = 5 ∧ AdAt n get) ∧ ty2 = 30 ∧ one2 = 5 ∧ AdAt n2 get2
structure LPz (n c : Nat) where
  i : Nat
  R : List PP
  h1 : i ≤ n
  hO : RunD R (c + i)
structure LPc (n : Nat) where
  i : Nat
  h1 : i ≤ n
def sPzL : SpecF
  | [.c (.row 1), .c (.row 2), .c (.int .i64 tm)], [.glob gg sz0 n0 get0, .elems ty one n get, .elems ty2 one2 n2 get2] => some (gPre gg sz0 n0 get0 ty one n get ty2 one2 n2 get2, .c .tt, [.dead, .dead, .dead])
  | _, _ => none

set_option maxRecDepth 100000 in
set_option maxHeartbeats 16000000 in
theorem pastStaysP : Fn Tryd.prog 3 [1] [(30, 5), (30, 5)] sPzL := by
  have hC : CtsOk Tryd.prog [(5, appFn [1] [] sFirst13), (6, appFn [] [(30, 5)] sFewD), (7, appFn [] [] sPNew), (8, appFn [] [] sNewS), (11, appFn [1] [] sPKeep), (10, appFn [] [] sSet), (9, appFn [] [] sDrop), (12, appFn [] [] sPHdr), (13, appFn [] [] sPUnder), (15, appFn [] [] sPLast), (16, appFn [] [] sPHdrs), (14, appFn [1] [] sSRoot)] := CtsOk.cons (Fn.ct first13P) <| CtsOk.cons (Fn.ct fewDP) <| CtsOk.cons (Fn.ct newPP) <| CtsOk.cons (Fn.ct newSP) <| CtsOk.cons (Fn.ct keepPP) <| CtsOk.cons (Fn.ct setSP) <| CtsOk.cons (Fn.ct dropSP) <| CtsOk.cons (Fn.ct hdrPP) <| CtsOk.cons (Fn.ct underPP) <| CtsOk.cons (Fn.ct lastPP) <| CtsOk.cons (Fn.ct hdrsPP) <| CtsOk.cons (Fn.ct sRootP) <| CtsOk.nil _
  refine Fn.of (E := tbPd) [0] 0 [(13, [(2006, false), (2007, false), (0, true), (1, true), (2, true), (3, true), (4, true), (5, true), (6, true), (7, true), (8, true), (9, true), (10, true), (11, false)]), (23, [(2006, false), (2007, false), (0, true), (1, true), (2, true), (3, true), (4, true), (5, true), (6, true), (7, true), (8, true), (9, true), (10, true), (11, false)]), (33, [(0, true), (1, true), (2, true), (3, true), (4, true), (5, true), (6, true), (7, true), (8, true)]), (36, [(2003, false), (2004, false), (2005, false), (2006, false), (2007, false), (0, true), (1, true), (2, true), (3, true), (4, true), (5, false), (6, true), (7, true), (8, true), (9, true), (10, false), (11, true), (12, true), (13, true), (14, true), (15, false), (16, false), (17, true), (18, true), (19, true)])] tbPd_ok hC (by kernel_rfl) Tryd.func3 rfl rfl rfl (by kernel_rfl) (by kernel_rfl) 3 5 1 ?_ ?_
  · intro args h pre r h' hs
    unfold sPzL at hs
    split at hs
    · cases hs; exact ⟨rfl, rfl, Nat.le_of_ble_eq_true rfl⟩
    · cases hs
  · intro args h pre r h' hs hp
    unfold sPzL at hs
    split at hs
    rotate_left
    · cases hs
    rename_i tm gg sz0 n0 get0 ty one n get ty2 one2 n2 get2
    cases hs
    obtain ⟨hK, ⟨rfl, rfl, hst⟩, rfl, rfl, hst2⟩ := hp
    refine ⟨[.glob 1 1 64 (fun i => [.int .u32 (kOf i)]), .elems 30 5 n (adG (adL n get)), .elems 30 5 n2 (adG (adL n2 get2))], ⟨hK.same.1, ⟨rfl, rfl, rfl, fun i hi => hst.eq hi⟩, ⟨rfl, rfl, rfl, fun i hi => hst2.eq hi⟩, trivial⟩, ?_⟩
    clear hK
    have hL : (adL n get).length = n := adL_len
    have eAD : adL n (adG (adL n get)) = adL n get := by
      have := adL_adG (adL n get)
      rwa [hL] at this
    have hL2 : (adL n2 get2).length = n2 := adL_len
    have eAD2 : adL n2 (adG (adL n2 get2)) = adL n2 get2 := by
      have := adL_adG (adL n2 get2)
      rwa [hL2] at this
    generalize adL n get = L at hL eAD ⊢
    generalize adL n2 get2 = L2 at hL2 eAD2 ⊢
    unfold sFirst13 sFewD sPNew sNewS sPKeep sSet sDrop sPHdr sPUnder sPLast sPHdrs sSRoot
    generalize hg0 : (List.length : List PP → Nat) = g0
    generalize hg1 : (List.length : List UInt8 → Nat) = g1
    generalize hg2 : (List.length : List PaR → Nat) = g2
    generalize hg3 : (List.length : List DC → Nat) = g3
    generalize hL : lft Tryd.prog _ = L
    try unfold prG
    try unfold adG
    try unfold mkG
    generalize ho0 : @prK = zo0, ho1 : @prV = zo1, ho2 : @prL = zo2, ho3 : @findB = zo3, ho4 : @szB = zo4, ho5 : @putS = zo5, ho6 : @dropL = zo6, ho7 : @underL = zo7, ho8 : @prPre = zo8, ho9 : @KsAt = zo9, ho10 : @kOf = zo10, ho11 : @rootL = zo11, ho12 : @sumsPre = zo12, ho13 : @StS = zo13, ho14 : @pHdG = zo14, ho15 : @pQ = zo15, ho16 : @pL = zo16, ho17 : @pH = zo17, ho18 : @paHas = zo18, ho19 : @paL = zo19, ho20 : @paNum = zo20, ho21 : @keepE = zo21, ho22 : @keepL = zo22, ho23 : @pLast = zo23, ho24 : @paPre = zo24, ho25 : @keepPre = zo25, ho26 : @pNum = zo26, ho27 : @adK = zo27, ho28 : @adN = zo28, ho29 : @adM = zo29, ho30 : @adS = zo30, ho31 : @adV = zo31, ho32 : @adL = zo32, ho33 : @adPre = zo33, ho34 : @fewD = zo34, ho35 : @gPre = zo35
    generalize hA : Arith.std = A
    cbv
    subst hA hg0 hg1 hg2 hg3 hL ho0 ho1 ho2 ho3 ho4 ho5 ho6 ho7 ho8 ho9 ho10 ho11 ho12 ho13 ho14 ho15 ho16 ho17 ho18 ho19 ho20 ho21 ho22 ho23 ho24 ho25 ho26 ho27 ho28 ho29 ho30 ho31 ho32 ho33 ho34 ho35
    try simp only [← mqHas.eq_def, ← mqRec.eq_def, ← mqSet.eq_def]
    refine Need.mk ksAt_self fun _ => ?_
    refine Need.mk ⟨rfl, rfl, adAt_adG n L⟩ fun _ => ?_
    simp only [eAD, eAD2]
    refine Ife.mk (fun h => ?_) (fun h => ?_)
    · refine Need.mk ksAt_self fun _ => ?_
      exact ⟨[0, 1, 2], ⟨rfl, (by repeat' (first | exact trivial | exact hR1 | exact hR2 | exact hR3 | exact hR4 | exact hA1 | exact hA2 | exact hB1 | exact hB2 | exact rfl | apply And.intro | exact (fun _ _ _ _ => Cell.le_refl _) | (intro i hi; rfl) | (intro i hi; exact absurd hi (Nat.not_lt_zero _)))), (by show List.Nodup []; exact List.nodup_nil), rfl, by repeat' (first | exact trivial | exact hR1 | exact hR2 | exact hR3 | exact hR4 | exact hA1 | exact hA2 | exact hB1 | exact hB2 | exact rfl | apply And.intro | exact (fun _ _ _ _ => Cell.le_refl _) | (intro i hi; rfl) | (intro i hi; exact absurd hi (Nat.not_lt_zero _)))⟩⟩
    have hfew : fewD L = true := by simpa using (show (!fewD L) = false from h)
    clear h
    obtain ⟨hn40, hfl⟩ := fewD_iff.1 hfew
    have hn : n ≤ 40 := by omega
    refine Need.mk ⟨rfl, rfl, adAt_adG n2 L2⟩ fun _ => ?_
    refine Ife.mk (fun h => ?_) (fun h => ?_)
    · refine Need.mk ksAt_self fun _ => ?_
      exact ⟨[0, 1, 2], ⟨rfl, (by repeat' (first | exact trivial | exact hR1 | exact hR2 | exact hR3 | exact hR4 | exact hA1 | exact hA2 | exact hB1 | exact hB2 | exact rfl | apply And.intro | exact (fun _ _ _ _ => Cell.le_refl _) | (intro i hi; rfl) | (intro i hi; exact absurd hi (Nat.not_lt_zero _)))), (by show List.Nodup []; exact List.nodup_nil), rfl, by repeat' (first | exact trivial | exact hR1 | exact hR2 | exact hR3 | exact hR4 | exact hA1 | exact hA2 | exact hB1 | exact hB2 | exact rfl | apply And.intro | exact (fun _ _ _ _ => Cell.le_refl _) | (intro i hi; rfl) | (intro i hi; exact absurd hi (Nat.not_lt_zero _)))⟩⟩
    have hfew2 : fewD L2 = true := by simpa using (show (!fewD L2) = false from h)
    clear h
    obtain ⟨hn402, hfl2⟩ := fewD_iff.1 hfew2
    have hn2 : n2 ≤ 40 := by omega
    refine Ife.mk (fun h => ?_) (fun c3 => ?_)
    · refine Need.mk ksAt_self fun _ => ?_
      exact ⟨[0, 1, 2], ⟨rfl, (by repeat' (first | exact trivial | exact hR1 | exact hR2 | exact hR3 | exact hR4 | exact hA1 | exact hA2 | exact hB1 | exact hB2 | exact rfl | apply And.intro | exact (fun _ _ _ _ => Cell.le_refl _) | (intro i hi; rfl) | (intro i hi; exact absurd hi (Nat.not_lt_zero _)))), (by show List.Nodup []; exact List.nodup_nil), rfl, by repeat' (first | exact trivial | exact hR1 | exact hR2 | exact hR3 | exact hR4 | exact hA1 | exact hA2 | exact hB1 | exact hB2 | exact rfl | apply And.intro | exact (fun _ _ _ _ => Cell.le_refl _) | (intro i hi; rfl) | (intro i hi; exact absurd hi (Nat.not_lt_zero _)))⟩⟩
    refine Ife.mk (fun h => ?_) (fun c4 => ?_)
    · refine Need.mk ksAt_self fun _ => ?_
      exact ⟨[0, 1, 2], ⟨rfl, (by repeat' (first | exact trivial | exact hR1 | exact hR2 | exact hR3 | exact hR4 | exact hA1 | exact hA2 | exact hB1 | exact hB2 | exact rfl | apply And.intro | exact (fun _ _ _ _ => Cell.le_refl _) | (intro i hi; rfl) | (intro i hi; exact absurd hi (Nat.not_lt_zero _)))), (by show List.Nodup []; exact List.nodup_nil), rfl, by repeat' (first | exact trivial | exact hR1 | exact hR2 | exact hR3 | exact hR4 | exact hA1 | exact hA2 | exact hB1 | exact hB2 | exact rfl | apply And.intro | exact (fun _ _ _ _ => Cell.le_refl _) | (intro i hi; rfl) | (intro i hi; exact absurd hi (Nat.not_lt_zero _)))⟩⟩
    replace c3 : ¬ tm < 0 := of_decide_eq_false (p := tm < 0) c3
    replace c4 : ¬ 1099511627776 < tm := of_decide_eq_false (p := 1099511627776 < tm) c4
    refine Need.mk trivial fun _ => Need.mk trivial fun _ => ?_
    show Runs Tryd.prog 3 (.loop _) _ _
    refine loop_ruleR (N := env (lft Tryd.prog 3) 0 .std tbPd [(5, appFn [1] [] sFirst13), (6, appFn [] [(30, 5)] sFewD), (7, appFn [] [] sPNew), (8, appFn [] [] sNewS), (11, appFn [1] [] sPKeep), (10, appFn [] [] sSet), (9, appFn [] [] sDrop), (12, appFn [] [] sPHdr), (13, appFn [] [] sPUnder), (15, appFn [] [] sPLast), (16, appFn [] [] sPHdrs), (14, appFn [1] [] sSRoot)] [(13, [(2006, false), (2007, false), (0, true), (1, true), (2, true), (3, true), (4, true), (5, true), (6, true), (7, true), (8, true), (9, true), (10, true), (11, false)]), (23, [(2006, false), (2007, false), (0, true), (1, true), (2, true), (3, true), (4, true), (5, true), (6, true), (7, true), (8, true), (9, true), (10, true), (11, false)]), (33, [(0, true), (1, true), (2, true), (3, true), (4, true), (5, true), (6, true), (7, true), (8, true)]), (36, [(2003, false), (2004, false), (2005, false), (2006, false), (2007, false), (0, true), (1, true), (2, true), (3, true), (4, true), (5, false), (6, true), (7, true), (8, true), (9, true), (10, false), (11, true), (12, true), (13, true), (14, true), (15, false), (16, false), (17, true), (18, true), (19, true)])]) rfl tbPd_ok hC (fun c st K _ h => h) (by kernel_rfl) [0] (X := LPz n 0)
      (S := fun x => ⟨[.c (.row 1), .c (.row 2), .c (.int .i64 tm), .any, .any, .any, .any, .c (.ptr 3 0), .c (.ptr 6 0), .c (.int .i64 (x.i : Int))] ++ List.replicate 180 .any, [.glob 1 1 64 (fun i => [.int .u32 (kOf i)]), .elems 30 5 n (adG L), .elems 30 5 n2 (adG L2), .cells 63 [.row 4, .row 5], .mq pMT (pQ ([] : List PaR)), .row 73 1 ([] : List PaR).length (mkG ([] : List PaR)), .cells 65 [.row 7], .row 44 2 x.R.length (prG x.R)]⟩) (μ := fun x => n - x.i) ⟨0, [], Nat.zero_le _, RunD.nil⟩ (by kernel_rfl) [0, 1, 2, 5, 6, 7, 8, 9] ?h0 ?rd
    case h0 =>
      refine ⟨rfl, (by show List.Nodup [0, 1, 2, 5, 6, 7, 8, 9]; decide), ?_, ?_⟩ <;> repeat' (first | exact trivial | exact hR1 | exact hR2 | exact hR3 | exact hR4 | exact hA1 | exact hA2 | exact hB1 | exact hB2 | exact rfl | apply And.intro | exact (fun _ _ _ _ => Cell.le_refl _) | (intro i hi; rfl) | (intro i hi; exact absurd hi (Nat.not_lt_zero _)))
    case rd =>
      rintro ⟨i, R0, hi, hO0⟩
      unfold sFirst13 sFewD sPNew sNewS sPKeep sSet sDrop sPHdr sPUnder sPLast sPHdrs sSRoot
      generalize hg0 : (List.length : List PP → Nat) = g0
      generalize hg1 : (List.length : List UInt8 → Nat) = g1
      generalize hg2 : (List.length : List PaR → Nat) = g2
      generalize hg3 : (List.length : List DC → Nat) = g3
      generalize hL : lft Tryd.prog _ = L
      try dsimp only
      try unfold prG
      try unfold adG
      try unfold mkG
      generalize ho0 : @prK = zo0, ho1 : @prV = zo1, ho2 : @prL = zo2, ho3 : @findB = zo3, ho4 : @szB = zo4, ho5 : @putS = zo5, ho6 : @dropL = zo6, ho7 : @underL = zo7, ho8 : @prPre = zo8, ho9 : @KsAt = zo9, ho10 : @kOf = zo10, ho11 : @rootL = zo11, ho12 : @sumsPre = zo12, ho13 : @StS = zo13, ho14 : @pHdG = zo14, ho15 : @pQ = zo15, ho16 : @pL = zo16, ho17 : @pH = zo17, ho18 : @paHas = zo18, ho19 : @paL = zo19, ho20 : @paNum = zo20, ho21 : @keepE = zo21, ho22 : @keepL = zo22, ho23 : @pLast = zo23, ho24 : @paPre = zo24, ho25 : @keepPre = zo25, ho26 : @pNum = zo26, ho27 : @adK = zo27, ho28 : @adN = zo28, ho29 : @adM = zo29, ho30 : @adS = zo30, ho31 : @adV = zo31, ho32 : @adL = zo32, ho33 : @adPre = zo33, ho34 : @fewD = zo34, ho35 : @gPre = zo35
      generalize hA : Arith.std = A
      cbv
      subst hA hg0 hg1 hg2 hg3 hL ho0 ho1 ho2 ho3 ho4 ho5 ho6 ho7 ho8 ho9 ho10 ho11 ho12 ho13 ho14 ho15 ho16 ho17 ho18 ho19 ho20 ho21 ho22 ho23 ho24 ho25 ho26 ho27 ho28 ho29 ho30 ho31 ho32 ho33 ho34 ho35
      try simp only [← mqHas.eq_def, ← mqRec.eq_def, ← mqSet.eq_def]
      replace hi : i ≤ n := hi
      replace hO0 : RunD R0 (0 + i) := hO0
      have hOl := hO0.l
      have hPR : prPre 44 2 R0.length (prG R0) := ⟨rfl, rfl, prAt_prG _ R0, by omega⟩
      have hpa0 := paPre_mk pas_nil
      simp only [prL_prG, pL_pQ]
      refine Ife.mk (fun h => ?_) (fun h => ?_)
      · have h : (i : Int) < (@Nat.cast Int instNatCastInt n) := of_decide_eq_true (p := (i : Int) < (n : Int)) h
        have hiN : i < n := Int.ofNat_lt.mp h
        have p0 : 0 ≤ (i : Int) ∧ (i : Int) < (n : Int) := by omega
        have p1 : (i : Int).toNat < n := by omega
        have hsz := hfl i (by omega)
        have fl : fitStd .i64 ((i : Int) + 1) := by unfold fitStd; omega
        refine Need.mk p0 fun _ => Need.mk p1 fun _ => ?_
        refine Ife.mk (fun hk => ?_) (fun hk => ?_)
        · refine Need.mk p0 fun _ => Need.mk p1 fun _ => Need.mk ⟨hPR, hO0.s⟩ fun _ => Need.mk fl fun _ => ?_
          refine ⟨⟨i + 1, dropL R0 (adS L i), by omega, hO0.drop⟩, [0, 1, 2, 3, 4, 5, 6, 8], (by show n - (i + 1) < n - i; omega), ?_⟩
          refine ⟨rfl, (by show List.Nodup [0, 1, 2, 3, 4, 5, 6, 8]; decide), ?_, ?_⟩ <;> repeat' (first | exact trivial | exact hR1 | exact hR2 | exact hR3 | exact hR4 | exact hA1 | exact hA2 | exact hB1 | exact hB2 | exact rfl | apply And.intro | exact (fun _ _ _ _ => Cell.le_refl _) | (intro i hi; rfl) | (intro i hi; exact absurd hi (Nat.not_lt_zero _)))
        · refine Need.mk p0 fun _ => Need.mk p1 fun _ => Need.mk p0 fun _ => Need.mk p1 fun _ => Need.mk ⟨hPR, hO0.s, Nat.le_trans hsz.1 (by decide), Nat.le_trans hsz.2 (by decide)⟩ fun _ => Need.mk fl fun _ => ?_
          refine ⟨⟨i + 1, putS R0 (adS L i) (adV L i), by omega, hO0.put⟩, [0, 1, 2, 3, 4, 5, 6, 8], (by show n - (i + 1) < n - i; omega), ?_⟩
          refine ⟨rfl, (by show List.Nodup [0, 1, 2, 3, 4, 5, 6, 8]; decide), ?_, ?_⟩ <;> repeat' (first | exact trivial | exact hR1 | exact hR2 | exact hR3 | exact hR4 | exact hA1 | exact hA2 | exact hB1 | exact hB2 | exact rfl | apply And.intro | exact (fun _ _ _ _ => Cell.le_refl _) | (intro i hi; rfl) | (intro i hi; exact absurd hi (Nat.not_lt_zero _)))
      have hke : keepE [] 7 tm = 0 := keepE_ok (by decide) (by decide) c3 c4 (by decide)
      have e1 : keepL [] 7 tm R0 = [((7 : Int), tm, R0)] := if_pos hke
      have hP1 : PaS [((7 : Int), tm, R0)] := by
        have := keepL_ok (h := 7) (t := tm) (S := R0) pas_nil ⟨hO0.s, hO0.z, by omega⟩ (by decide)
        rwa [e1] at this
      have hb1 : paHas [((7 : Int), tm, R0)] 7 = true := rfl
      have eL1 : paL [((7 : Int), tm, R0)] 7 = R0 := rfl
      have hO40 : RunD R0 (40 + 0) := hO0.le (by omega)
      simp only [e1, hke, hb1, eL1]
      refine Need.mk ⟨ksAt_self, hpa0, by decide, rfl, hPR, by rw [prL_prG]; exact hO0.s, by rw [prL_prG]; exact hO0.z⟩ fun _ => ?_
      refine Ife.mk (fun h5 => absurd h5 (by show ¬ (!decide ((0 : Int) = 0)) = true; decide)) (fun _ => ?_)
      refine Need.mk (paPre_mk hP1) fun _ => Need.mk (paPre_mk hP1) fun _ => ?_
      have hlast1 : pLast [((7 : Int), tm, R0)] = 7 := rfl
      have hlen1 : [((7 : Int), tm, R0)].length = 1 := rfl
      obtain ⟨P1, hPe⟩ : ∃ P1 : List PaR, P1 = [((7 : Int), tm, R0)] := ⟨_, rfl⟩
      simp only [← hPe]
      rw [← hPe] at hP1 hb1 eL1 hlast1 hlen1
      show Runs Tryd.prog 3 (.loop _) _ _
      refine loop_ruleR (N := env (lft Tryd.prog 3) 0 .std tbPd [(5, appFn [1] [] sFirst13), (6, appFn [] [(30, 5)] sFewD), (7, appFn [] [] sPNew), (8, appFn [] [] sNewS), (11, appFn [1] [] sPKeep), (10, appFn [] [] sSet), (9, appFn [] [] sDrop), (12, appFn [] [] sPHdr), (13, appFn [] [] sPUnder), (15, appFn [] [] sPLast), (16, appFn [] [] sPHdrs), (14, appFn [1] [] sSRoot)] [(13, [(2006, false), (2007, false), (0, true), (1, true), (2, true), (3, true), (4, true), (5, true), (6, true), (7, true), (8, true), (9, true), (10, true), (11, false)]), (23, [(2006, false), (2007, false), (0, true), (1, true), (2, true), (3, true), (4, true), (5, true), (6, true), (7, true), (8, true), (9, true), (10, true), (11, false)]), (33, [(0, true), (1, true), (2, true), (3, true), (4, true), (5, true), (6, true), (7, true), (8, true)]), (36, [(2003, false), (2004, false), (2005, false), (2006, false), (2007, false), (0, true), (1, true), (2, true), (3, true), (4, true), (5, false), (6, true), (7, true), (8, true), (9, true), (10, false), (11, true), (12, true), (13, true), (14, true), (15, false), (16, false), (17, true), (18, true), (19, true)])]) rfl tbPd_ok hC (fun c st K _ h => h) (by kernel_rfl) [0] (X := LPz n2 40)
        (S := fun x => ⟨[.c (.row 1), .c (.row 2), .c (.int .i64 tm), .any, .any, .any, .any, .c (.ptr 3 0), .c (.ptr 6 0), .any, .c (.ptr 8 0), .c (.bool true), .c (.row 9), .c (.int .i64 (x.i : Int))] ++ List.replicate 176 .any, [.glob 1 1 64 (fun i => [.int .u32 (kOf i)]), .elems 30 5 n (adG L), .elems 30 5 n2 (adG L2), .cells 63 [.row 4, .row 5], .mq pMT (pQ P1), .row 73 1 P1.length (mkG P1), .cells 65 [.row 7], .row 44 2 x.R.length (prG x.R), .cells 38 (hd34 (paNum P1 7)), .row 44 2 (underL R0 []).length (prG (underL R0 []))]⟩) (μ := fun x => n2 - x.i) ⟨0, R0, Nat.zero_le _, hO40⟩ (by kernel_rfl) [0, 1, 2, 3, 4, 8, 6, 7, 9, 10] ?h1 ?re
      case h1 =>
        refine ⟨rfl, (by show List.Nodup [0, 1, 2, 3, 4, 8, 6, 7, 9, 10]; decide), ?_, ?_⟩ <;> repeat' (first | exact trivial | exact hR1 | exact hR2 | exact hR3 | exact hR4 | exact hA1 | exact hA2 | exact hB1 | exact hB2 | exact rfl | apply And.intro | exact (fun _ _ _ _ => Cell.le_refl _) | (intro i hi; rfl) | (intro i hi; exact absurd hi (Nat.not_lt_zero _)))
      case re =>
        rintro ⟨j, R2, hj, hO2⟩
        unfold sFirst13 sFewD sPNew sNewS sPKeep sSet sDrop sPHdr sPUnder sPLast sPHdrs sSRoot
        generalize hg0 : (List.length : List PP → Nat) = g0
        generalize hg1 : (List.length : List UInt8 → Nat) = g1
        generalize hg2 : (List.length : List PaR → Nat) = g2
        generalize hg3 : (List.length : List DC → Nat) = g3
        generalize hL : lft Tryd.prog _ = L
        try dsimp only
        try unfold prG
        try unfold adG
        try unfold mkG
        generalize ho0 : @prK = zo0, ho1 : @prV = zo1, ho2 : @prL = zo2, ho3 : @findB = zo3, ho4 : @szB = zo4, ho5 : @putS = zo5, ho6 : @dropL = zo6, ho7 : @underL = zo7, ho8 : @prPre = zo8, ho9 : @KsAt = zo9, ho10 : @kOf = zo10, ho11 : @rootL = zo11, ho12 : @sumsPre = zo12, ho13 : @StS = zo13, ho14 : @pHdG = zo14, ho15 : @pQ = zo15, ho16 : @pL = zo16, ho17 : @pH = zo17, ho18 : @paHas = zo18, ho19 : @paL = zo19, ho20 : @paNum = zo20, ho21 : @keepE = zo21, ho22 : @keepL = zo22, ho23 : @pLast = zo23, ho24 : @paPre = zo24, ho25 : @keepPre = zo25, ho26 : @pNum = zo26, ho27 : @adK = zo27, ho28 : @adN = zo28, ho29 : @adM = zo29, ho30 : @adS = zo30, ho31 : @adV = zo31, ho32 : @adL = zo32, ho33 : @adPre = zo33, ho34 : @fewD = zo34, ho35 : @gPre = zo35
        generalize hA : Arith.std = A
        cbv
        subst hA hg0 hg1 hg2 hg3 hL ho0 ho1 ho2 ho3 ho4 ho5 ho6 ho7 ho8 ho9 ho10 ho11 ho12 ho13 ho14 ho15 ho16 ho17 ho18 ho19 ho20 ho21 ho22 ho23 ho24 ho25 ho26 ho27 ho28 ho29 ho30 ho31 ho32 ho33 ho34 ho35
        try simp only [← mqHas.eq_def, ← mqRec.eq_def, ← mqSet.eq_def]
        replace hj : j ≤ n2 := hj
        replace hO2 : RunD R2 (40 + j) := hO2
        have hOl2 := hO2.l
        have hPR2 : prPre 44 2 R2.length (prG R2) := ⟨rfl, rfl, prAt_prG _ R2, by omega⟩
        have hpa1 := paPre_mk hP1
        simp only [prL_prG, pL_pQ]
        refine Ife.mk (fun h => ?_) (fun h => ?_)
        · have h : (j : Int) < (n2 : Int) := of_decide_eq_true (p := (j : Int) < (n2 : Int)) h
          have hiN : j < n2 := Int.ofNat_lt.mp h
          have p0 : 0 ≤ (j : Int) ∧ (j : Int) < (n2 : Int) := by omega
          have p1 : (j : Int).toNat < n2 := by omega
          have hsz := hfl2 j (by omega)
          have fl : fitStd .i64 ((j : Int) + 1) := by unfold fitStd; omega
          refine Need.mk p0 fun _ => Need.mk p1 fun _ => ?_
          refine Ife.mk (fun hk => ?_) (fun hk => ?_)
          · refine Need.mk p0 fun _ => Need.mk p1 fun _ => Need.mk ⟨hPR2, hO2.s⟩ fun _ => Need.mk fl fun _ => ?_
            refine ⟨⟨j + 1, dropL R2 (adS L2 j), by omega, hO2.drop⟩, [0, 1, 2, 3, 4, 5, 6, 10, 8, 9], (by show n2 - (j + 1) < n2 - j; omega), ?_⟩
            refine ⟨rfl, (by show List.Nodup [0, 1, 2, 3, 4, 5, 6, 10, 8, 9]; decide), ?_, ?_⟩ <;> repeat' (first | exact trivial | exact hR1 | exact hR2 | exact hR3 | exact hR4 | exact hA1 | exact hA2 | exact hB1 | exact hB2 | exact rfl | apply And.intro | exact (fun _ _ _ _ => Cell.le_refl _) | (intro i hi; rfl) | (intro i hi; exact absurd hi (Nat.not_lt_zero _)))
          · refine Need.mk p0 fun _ => Need.mk p1 fun _ => Need.mk p0 fun _ => Need.mk p1 fun _ => Need.mk ⟨hPR2, hO2.s, Nat.le_trans hsz.1 (by decide), Nat.le_trans hsz.2 (by decide)⟩ fun _ => Need.mk fl fun _ => ?_
            refine ⟨⟨j + 1, putS R2 (adS L2 j) (adV L2 j), by omega, hO2.put⟩, [0, 1, 2, 3, 4, 5, 6, 10, 8, 9], (by show n2 - (j + 1) < n2 - j; omega), ?_⟩
            refine ⟨rfl, (by show List.Nodup [0, 1, 2, 3, 4, 5, 6, 10, 8, 9]; decide), ?_, ?_⟩ <;> repeat' (first | exact trivial | exact hR1 | exact hR2 | exact hR3 | exact hR4 | exact hA1 | exact hA2 | exact hB1 | exact hB2 | exact rfl | apply And.intro | exact (fun _ _ _ _ => Cell.le_refl _) | (intro i hi; rfl) | (intro i hi; exact absurd hi (Nat.not_lt_zero _)))
        have hke2 : keepE P1 8 tm = 0 := keepE_ok (by decide) (by decide) c3 c4 (by rw [hlast1]; decide)
        have e2 : keepL P1 8 tm R2 = P1 ++ [((8 : Int), tm, R2)] := if_pos hke2
        have hP2 : PaS (P1 ++ [((8 : Int), tm, R2)]) := by
          have := keepL_ok (h := 8) (t := tm) (S := R2) hP1 ⟨hO2.s, hO2.z, by omega⟩ (by omega)
          rwa [e2] at this
        have hb2 : paHas (P1 ++ [((8 : Int), tm, R2)]) 7 = true := by rw [hPe]; rfl
        have hb8 : paHas (P1 ++ [((8 : Int), tm, R2)]) 8 = true := by rw [hPe]; rfl
        have eL2 : paL (P1 ++ [((8 : Int), tm, R2)]) 7 = R0 := by rw [hPe]; rfl
        have eL8 : paL (P1 ++ [((8 : Int), tm, R2)]) 8 = R2 := by rw [hPe]; rfl
        have eN2 : paNum (P1 ++ [((8 : Int), tm, R2)]) 7 = paNum P1 7 := by rw [hPe]; rfl
        have eNum : paNum (P1 ++ [((8 : Int), tm, R2)]) 8 = pNum (8, tm, R2) := by rw [paNum_yes hb8, hPe]; rfl
        have hlast2 : pLast (P1 ++ [((8 : Int), tm, R2)]) = 8 := pLast_app
        have hlen2 : (P1 ++ [((8 : Int), tm, R2)]).length = 2 := by rw [hPe]; rfl
        simp only [e2, hke2, hb2, eL2, eN2]
        refine Need.mk ⟨ksAt_self, hpa1, by omega, rfl, hPR2, by rw [prL_prG]; exact hO2.s, by rw [prL_prG]; exact hO2.z⟩ fun _ => ?_
        refine Ife.mk (fun h5 => absurd h5 (by show ¬ (!decide ((0 : Int) = 0)) = true; decide)) (fun _ => ?_)
        refine Need.mk (paPre_mk hP2) fun _ => Need.mk (paPre_mk hP2) fun _ => ?_
        refine Ife.mk (fun h5 => absurd h5 (by show ¬ (!true) = true; decide)) (fun _ => ?_)
        refine Ife.mk (fun h5 => absurd h5 (by show ¬ (!true) = true; decide)) (fun _ => ?_)
        refine Ife.mk (fun h5 => absurd h5 (by simp [Arith.std])) (fun _ => ?_)
        refine Ife.mk (fun h5 => absurd h5 (by simp [Arith.std])) (fun _ => ?_)
        have hU9 : (underL R0 []).length ≤ 40 := by
          have h1 := underN_le (L := R0) (f := [])
          rw [under_len]
          omega
        obtain ⟨P2, hPe2⟩ : ∃ P2 : List PaR, P2 = P1 ++ [((8 : Int), tm, R2)] := ⟨_, rfl⟩
        obtain ⟨U, hUe⟩ : ∃ U : List PP, U = underL R0 [] := ⟨_, rfl⟩
        obtain ⟨N, hN⟩ : ∃ N : Nat, N = U.length := ⟨_, rfl⟩
        simp only [← hPe2, ← hUe, ← hN]
        rw [← hPe2] at hP2 hb8 eL8 hlast2 hlen2 eNum
        rw [← hUe, ← hN] at hU9
        show Runs Tryd.prog 3 (.loop _) _ _
        refine loop_ruleR (N := env (lft Tryd.prog 3) 0 .std tbPd [(5, appFn [1] [] sFirst13), (6, appFn [] [(30, 5)] sFewD), (7, appFn [] [] sPNew), (8, appFn [] [] sNewS), (11, appFn [1] [] sPKeep), (10, appFn [] [] sSet), (9, appFn [] [] sDrop), (12, appFn [] [] sPHdr), (13, appFn [] [] sPUnder), (15, appFn [] [] sPLast), (16, appFn [] [] sPHdrs), (14, appFn [1] [] sSRoot)] [(13, [(2006, false), (2007, false), (0, true), (1, true), (2, true), (3, true), (4, true), (5, true), (6, true), (7, true), (8, true), (9, true), (10, true), (11, false)]), (23, [(2006, false), (2007, false), (0, true), (1, true), (2, true), (3, true), (4, true), (5, true), (6, true), (7, true), (8, true), (9, true), (10, true), (11, false)]), (33, [(0, true), (1, true), (2, true), (3, true), (4, true), (5, true), (6, true), (7, true), (8, true)]), (36, [(2003, false), (2004, false), (2005, false), (2006, false), (2007, false), (0, true), (1, true), (2, true), (3, true), (4, true), (5, false), (6, true), (7, true), (8, true), (9, true), (10, false), (11, true), (12, true), (13, true), (14, true), (15, false), (16, false), (17, true), (18, true), (19, true)])]) rfl tbPd_ok hC (fun c st K _ h => h) (by kernel_rfl) [0] (X := LPc N)
          (S := fun x => ⟨[.c (.row 1), .c (.row 2), .c (.int .i64 tm), .any, .any, .any, .any, .c (.ptr 3 0), .c (.ptr 6 0), .any, .any, .any, .c (.row 8), .any, .any, .any, .c (.row 9), .c (.int .i64 (x.i : Int))] ++ List.replicate 172 .any, [.glob 1 1 64 (fun i => [.int .u32 (kOf i)]), .elems 30 5 n (adG L), .elems 30 5 n2 (adG L2), .cells 63 [.row 4, .row 5], .mq pMT (pQ P2), .row 73 1 P2.length (mkG P2), .cells 65 [.row 7], .row 44 2 R2.length (prG R2), .row 44 2 N (prG U), .row 44 2 N (prG U)]⟩) (μ := fun x => N - x.i) ⟨0, Nat.zero_le _⟩ (by kernel_rfl) [0, 1, 2, 3, 4, 10, 6, 7, 9, 12] ?h2 ?rf
        case h2 =>
          refine ⟨rfl, (by show List.Nodup [0, 1, 2, 3, 4, 10, 6, 7, 9, 12]; decide), ?_, ?_⟩ <;> repeat' (first | exact trivial | exact hR1 | exact hR2 | exact hR3 | exact hR4 | exact hA1 | exact hA2 | exact hB1 | exact hB2 | exact rfl | apply And.intro | exact (fun _ _ _ _ => Cell.le_refl _) | (intro i hi; rfl) | (intro i hi; exact absurd hi (Nat.not_lt_zero _)))
        case rf =>
          rintro ⟨k, hk⟩
          unfold sFirst13 sFewD sPNew sNewS sPKeep sSet sDrop sPHdr sPUnder sPLast sPHdrs sSRoot
          generalize hg0 : (List.length : List PP → Nat) = g0
          generalize hg1 : (List.length : List UInt8 → Nat) = g1
          generalize hg2 : (List.length : List PaR → Nat) = g2
          generalize hg3 : (List.length : List DC → Nat) = g3
          generalize hL : lft Tryd.prog _ = L
          try dsimp only
          try unfold prG
          try unfold adG
          try unfold mkG
          generalize ho0 : @prK = zo0, ho1 : @prV = zo1, ho2 : @prL = zo2, ho3 : @findB = zo3, ho4 : @szB = zo4, ho5 : @putS = zo5, ho6 : @dropL = zo6, ho7 : @underL = zo7, ho8 : @prPre = zo8, ho9 : @KsAt = zo9, ho10 : @kOf = zo10, ho11 : @rootL = zo11, ho12 : @sumsPre = zo12, ho13 : @StS = zo13, ho14 : @pHdG = zo14, ho15 : @pQ = zo15, ho16 : @pL = zo16, ho17 : @pH = zo17, ho18 : @paHas = zo18, ho19 : @paL = zo19, ho20 : @paNum = zo20, ho21 : @keepE = zo21, ho22 : @keepL = zo22, ho23 : @pLast = zo23, ho24 : @paPre = zo24, ho25 : @keepPre = zo25, ho26 : @pNum = zo26, ho27 : @adK = zo27, ho28 : @adN = zo28, ho29 : @adM = zo29, ho30 : @adS = zo30, ho31 : @adV = zo31, ho32 : @adL = zo32, ho33 : @adPre = zo33, ho34 : @fewD = zo34, ho35 : @gPre = zo35
          generalize hA : Arith.std = A
          cbv
          subst hA hg0 hg1 hg2 hg3 hL ho0 ho1 ho2 ho3 ho4 ho5 ho6 ho7 ho8 ho9 ho10 ho11 ho12 ho13 ho14 ho15 ho16 ho17 ho18 ho19 ho20 ho21 ho22 ho23 ho24 ho25 ho26 ho27 ho28 ho29 ho30 ho31 ho32 ho33 ho34 ho35
          try simp only [← mqHas.eq_def, ← mqRec.eq_def, ← mqSet.eq_def]
          replace hk : k ≤ N := hk
          have hpa2 := paPre_mk hP2
          simp only [prL_prG, pL_pQ, hb8, hlast2]
          refine Ife.mk (fun h => ?_) (fun h => ?_)
          · have h : (k : Int) < (N : Int) := of_decide_eq_true (p := (k : Int) < (N : Int)) h
            have hkN : k < N := Int.ofNat_lt.mp h
            have p0 : 0 ≤ (k : Int) ∧ (k : Int) < (N : Int) := by omega
            have p1 : (k : Int).toNat < N := by omega
            refine Need.mk p0 fun _ => Need.mk p1 fun _ => ?_
            refine Need.mk p0 fun _ => Need.mk p1 fun _ => ?_
            refine Ife.mk (fun h5 => absurd h5 (by simp [Arith.std])) (fun _ => ?_)
            refine Need.mk (by show fitStd .i64 ((k : Int) + 1); unfold fitStd; omega) fun _ => ?_
            refine ⟨⟨k + 1, by omega⟩, [0, 1, 2, 3, 4, 5, 6, 7, 8, 9], (by show N - (k + 1) < N - k; omega), ?_⟩
            refine ⟨rfl, (by show List.Nodup [0, 1, 2, 3, 4, 5, 6, 7, 8, 9]; decide), ?_, ?_⟩ <;> repeat' (first | exact trivial | exact hR1 | exact hR2 | exact hR3 | exact hR4 | exact hA1 | exact hA2 | exact hB1 | exact hB2 | exact rfl | apply And.intro | exact (fun _ _ _ _ => Cell.le_refl _) | (intro i hi; rfl) | (intro i hi; exact absurd hi (Nat.not_lt_zero _)))
          · have hT : decide ((P2.length : Int) = 2) = true := decide_eq_true (by rw [hlen2]; rfl)
            refine Need.mk hpa2 fun _ => ?_
            refine Ife.mk (fun _ => ?_) (fun h5 => absurd h5 (by decide))
            refine Need.mk ⟨ksAt_self, hPR2, by rw [prL_prG]; exact hO2.z⟩ fun _ => ?_
            refine Ife.mk (fun _ => ?_) (fun h5 => absurd h5 (by rw [eNum]; simp [Arith.std, pNum, numL, h34, List.getD]))
            refine Need.mk hpa2 fun _ => ?_
            refine Ife.mk (fun _ => ?_) (fun h5 => absurd h5 (by simp [Arith.std]))
            refine Need.mk hpa2 fun _ => ?_
            exact ⟨[0, 1, 2], ⟨rfl, (by repeat' (first | exact trivial | exact hT | exact rfl | apply And.intro)), (by show List.Nodup []; exact List.nodup_nil), rfl, by repeat' (first | exact trivial | exact hR1 | exact hR2 | exact hR3 | exact hR4 | exact hA1 | exact hA2 | exact hB1 | exact hB2 | exact rfl | apply And.intro | exact (fun _ _ _ _ => Cell.le_refl _) | (intro i hi; rfl) | (intro i hi; exact absurd hi (Nat.not_lt_zero _)))⟩⟩

end Go.Proofs.YtbbpgicoklhheaaDoor.Vx
end

section
/- Acts that come in, opened. -/
namespace Go.Proofs.YtbbpgicoklhheaaDoor.Vx
/-- An act's values. -/
def adVals (x : DC) : List Value := [.int .i64 x.1, .int .i64 x.2.1, .int .i64 x.2.2.1, .string ⟨x.2.2.2.1.toArray⟩, .string ⟨x.2.2.2.2.toArray⟩]
end Go.Proofs.YtbbpgicoklhheaaDoor.Vx
namespace Go.Proofs.YtbbpgicoklhheaaDoor
open Go.ChangeShapes Go.WideShapes Go.ChangeAt Go.RowKit
set_option linter.unusedVariables false
set_option linter.unusedSimpArgs false
section
variable {H : Type} {enc : TypeId × Value → H} {w : World} {base : Nat}
theorem cells_Ads : Tryd.prog.cellsOf 30 = 5 := by kernel_rfl
set_option maxRecDepth 100000 in
theorem open_Ads {v : Value} {d : DataW H} {p : List MemPlace} (hv : Value.okWide Tryd.prog w .any base 22 v) (h : DataW.Trod enc Tryd.prog w 0 (fun _ => true) true 22 v d p) :
    ∃ (a : Option Addr) (cap : Nat) (ls : List Vx.DC), v = .slice a ls.length cap ∧ SlIn w a 5 cap (ls.map Vx.adVals) := by
  obtain ⟨a, cap, xs, rfl, hs, hx⟩ := open_slice (sz := 5) (P := fun l => ∃ x : Vx.DC, l = Vx.adVals x) (by decide) Tryd.underlying22 cells_Ads (fun fuel l x hl => by
    obtain ⟨ys, m, _, _, hl2, hlen, hff⟩ := DataW.trod_struct Tryd.underlying30 hl
    rw [cells_Ads] at hl2
    match l, hl2 with
    | [c0, c1, c2, c3, c4], _ =>
      match ys, hlen with
      | [y0, y1, y2, y3, y4], _ =>
        have f0 := hff 0 _ rfl
        have f1 := hff 1 _ rfl
        have f2 := hff 2 _ rfl
        have f3 := hff 3 _ rfl
        have f4 := hff 4 _ rfl
        simp [cells_int, cells_string] at f0 f1 f2 f3 f4
        obtain ⟨n0, e0, _, _⟩ := DataW.trod_int Tryd.underlying3 f0
        obtain ⟨n1, e1, _, _⟩ := DataW.trod_int Tryd.underlying3 f1
        obtain ⟨n2, e2, _, _⟩ := DataW.trod_int Tryd.underlying3 f2
        obtain ⟨s3, e3, _, hs3⟩ := DataW.trod_string Tryd.underlying9 f3
        obtain ⟨s4, e4, _, hs4⟩ := DataW.trod_string Tryd.underlying9 f4
        simp at e0 e1 e2 e3 e4
        obtain ⟨n3, rfl, b3⟩ := bytesOf s3 hs3
        obtain ⟨n4, rfl, b4⟩ := bytesOf s4 hs4
        exact ⟨rfl, (n0, n1, n2, n3, n4), by simp [Vx.adVals, e0, e1, e2, e3, e4]⟩) hv h
  obtain ⟨f, hf⟩ : ∃ f : Nat → Vx.DC, ∀ i (hi : i < xs.length), xs[i] = Vx.adVals (f i) := by
    have key : ∀ i, ∃ n : Vx.DC, ∀ hi : i < xs.length, xs[i] = Vx.adVals n := fun i => by
      by_cases hi : i < xs.length
      · obtain ⟨n, e⟩ := (hx _ (List.getElem_mem hi)).2
        exact ⟨n, fun _ => e⟩
      · exact ⟨Vx.adD, fun h => absurd h hi⟩
    exact ⟨fun i => (key i).choose, fun i hi => (key i).choose_spec hi⟩
  have e : xs = ((List.range xs.length).map f).map Vx.adVals := by
    apply List.ext_getElem (by simp)
    intro i h1 h2
    simp [hf i h1]
  refine ⟨a, cap, (List.range xs.length).map f, by simp, ?_⟩
  rw [← e]
  exact hs
theorem Ads_good {w : World} {a : Option Addr} {cap : Nat} {ls : List Vx.DC} (hs : SlIn w a 5 cap (ls.map Vx.adVals)) : ∃ p : Vx.Pl, p.v = .slice a ls.length cap ∧ Vx.Good w 5 (ls.length, Vx.adG ls) p := by
  obtain ⟨p, hp, g⟩ := hs.good (get := Vx.adG ls) (fun i hi => by
    have hi' : i < ls.length := by simpa using hi
    rw [List.getElem_map]
    have e : ls.getD i Vx.adD = ls[i] := by simp [List.getD, hi']
    unfold Vx.adG Vx.adGP Vx.adK Vx.adN Vx.adM Vx.adS Vx.adV
    rw [e]
    rfl)
  simp only [List.length_map] at hp g
  exact ⟨p, hp, g⟩
end
end Go.Proofs.YtbbpgicoklhheaaDoor
end

section
/- PastStays: what a law's call answers. -/
namespace Go.Proofs.YtbbpgicoklhheaaDoor
open Go.RowKit
set_option linter.unusedVariables false
theorem pastStaysWalk (w : World) (hk : ∀ i, i < 64 → w.cell? ⟨1, i, none⟩ = some (.int .u32 (Sha.kOf i))) (p0 : Option Addr) (cap0 : Nat) (ls0 : List Vx.DC) (hs0 : SlIn w p0 5 cap0 (ls0.map Vx.adVals)) (p1 : Option Addr) (cap1 : Nat) (ls1 : List Vx.DC) (hs1 : SlIn w p1 5 cap1 (ls1.map Vx.adVals)) (a2 : Int) (ha2 : -9223372036854775808 ≤ a2 ∧ a2 ≤ 9223372036854775807) :
    Calls Tryd.prog 3 #[.slice p0 ls0.length cap0, .slice p1 ls1.length cap1, .int .i64 a2] w fun e w' => e = .returned (.bool true) ∧ Below w.heap.size w w' := by
  obtain ⟨q0, hq0, gd0⟩ := Ads_good hs0
  rw [← hq0]
  obtain ⟨q1, hq1, gd1⟩ := Ads_good hs1
  rw [← hq1]
  refine Calls.mono (Vx.pastStaysP.run [.c (.row 1), .c (.row 2), .c (.int .i64 a2)] [.glob 1 1 64 (fun i => [.int .u32 (Sha.kOf i)]), .elems 30 5 ls0.length (Vx.adG ls0), .elems 30 5 ls1.length (Vx.adG ls1)] _ _ _ rfl ⟨Vx.ksAt_self, ⟨rfl, rfl, Vx.adAt_adG _ _⟩, rfl, rfl, Vx.adAt_adG _ _⟩ [⟨1, undef, 0⟩, q0, q1] w _ (Vx.Rel.addV (Vx.Rel.addV (Vx.relGlob hk) 30 gd0) 30 gd1)
    ⟨_, _, rfl, (by obtain ⟨a', cap', e, _⟩ := gd0.sl; simp [Vx.SV.is, Vx.CV.den, e, Vx.one] : Vx.SV.is [⟨1, undef, 0⟩, q0, q1] (.c (.row 1)) q0.v), ⟨_, _, rfl, (by obtain ⟨a', cap', e, _⟩ := gd1.sl; simp [Vx.SV.is, Vx.CV.den, e, Vx.one] : Vx.SV.is [⟨1, undef, 0⟩, q0, q1] (.c (.row 2)) q1.v), ⟨_, _, rfl, rfl, rfl⟩⟩⟩) fun e W' he => ?_
  obtain ⟨u, ρ', rfl, hu, hr⟩ := he
  obtain rfl : .bool true = u := Option.some.inj hu
  exact ⟨rfl, Vx.Rel.toBelow hr⟩
end Go.Proofs.YtbbpgicoklhheaaDoor
end
