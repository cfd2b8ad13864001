/- StorePlays, by the walker. -/
import Derived.Test.YthomoliklfmnkaaDoorM37
import Derived.Test.YthomoliklfmnkaaDoorM25
import Derived.Test.YthomoliklfmnkaaDoorM28
import Derived.Test.YthomoliklfmnkaaDoorM19
section
namespace Go.Proofs.YthomoliklfmnkaaDoor.Vx
open Sha
open Go.RowKit
set_option linter.unusedVariables false
set_option linter.unusedSimpArgs false
/-- Some acts are done: what the store has. -/
structure LPy (n : Nat) where
  i : Nat
  R : List PP
  m : Nat
  h1 : i ≤ n
  hO : RunOk R i
  hm : R.length = m
theorem RunOk.put {R : List PP} {i : Nat} (h : RunOk R i) (k v : List UInt8) : RunOk (putS R k v) (i + 1) := ⟨putS_s h.s, put_sz h.z, by have := putS_len (L := R) (k := k) (v := v); have := h.l; omega⟩
theorem RunOk.drop {R : List PP} {i : Nat} (h : RunOk R i) (k : List UInt8) : RunOk (dropL R k) (i + 1) := ⟨dropL_s h.s, drop_sz h.s h.z, by have := dropL_len (L := R) (k := k); have := h.l; omega⟩
theorem RunOk.next {R : List PP} {i : Nat} (h : RunOk R i) : RunOk R (i + 1) := ⟨h.s, h.z, by have := h.l; omega⟩
theorem flt_none {f : List UInt8} : ∀ {L : List PP}, (∀ p ∈ L, preB f p.1 = false) → flt f L = []
  | [], _ => rfl
  | p :: L, h => by
    unfold flt
    rw [List.filter_cons_of_neg (by rw [h p (by simp)]; simp)]
    exact flt_none fun q hq => h q (by simp [hq])
theorem flt_takeW {f : List UInt8} : ∀ {L : List PP}, (∀ i (h : i < L.length), i < (L.takeWhile fun p => preB f p.1).length ∨ preB f (L[i]).1 = false) → flt f L = L.takeWhile fun p => preB f p.1
  | [], _ => rfl
  | p :: L, h => by
    unfold flt
    by_cases hp : preB f p.1 = true
    · rw [List.filter_cons_of_pos (p := fun p : PP => preB f p.1) hp, List.takeWhile_cons, if_pos hp]
      congr 1
      refine flt_takeW (L := L) fun i hi => ?_
      have := h (i + 1) (by simp; omega)
      rw [List.takeWhile_cons, if_pos hp] at this
      rcases this with h1 | h1
      · exact Or.inl (by simpa using h1)
      · exact Or.inr (by simpa using h1)
    · rw [List.filter_cons_of_neg (p := fun p : PP => preB f p.1) hp, List.takeWhile_cons, if_neg hp]
      show List.filter (fun p => preB f p.1) L = []
      refine flt_none (f := f) fun q hq => ?_
      obtain ⟨i, hi, rfl⟩ := List.getElem_of_mem hq
      have := h (i + 1) (by simp; omega)
      rw [List.takeWhile_cons, if_neg hp] at this
      rcases this with h1 | h1
      · simp at h1
      · simpa using h1
theorem und_flt {R : List PP} {f : List UInt8} (hs : StS R) : underL R f = flt f R := by
  have e1 : underL R f = (R.drop (findI R f)).takeWhile fun p => preB f p.1 := by
    unfold underL underN
    exact (List.prefix_iff_eq_take.1 (List.takeWhile_prefix _)).symm
  have h0 : flt f (R.take (findI R f)) = [] := by
    refine flt_none fun p hp => ?_
    obtain ⟨i, hi, rfl⟩ := List.getElem_of_mem hp
    rw [List.length_take] at hi
    rw [List.getElem_take]
    cases hpre : preB f (R[i]'(by omega)).1 with
    | false => rfl
    | true =>
      have h1 := findI_lt (L := R) (k := f) (i := i) (by omega)
      rw [prK_eq (by omega), pre_ge hpre] at h1
      cases h1
  have e2 : flt f R = flt f (R.take (findI R f)) ++ flt f (R.drop (findI R f)) := by
    conv => lhs; rw [← List.take_append_drop (findI R f) R]
    unfold flt
    rw [List.filter_append]
  rw [e1, e2, h0, List.nil_append]
  refine (flt_takeW fun i hi => ?_).symm
  by_cases h1 : i < ((R.drop (findI R f)).takeWhile fun p => preB f p.1).length
  · exact Or.inl h1
  · refine Or.inr ?_
    rw [List.length_drop] at hi
    have hu : underN R f ≤ i := by unfold underN; omega
    have hstop : preB f (prK R (findI R f + underN R f)) = false := by
      have h5 : (R.drop (findI R f))[underN R f]? = some R[findI R f + underN R f] := by
        rw [List.getElem?_drop, List.getElem?_eq_getElem (by omega)]
      rw [prK_eq (by omega)]
      exact tw_stop (p := fun p : PP => preB f p.1) h5
    rw [List.getElem_drop, ← prK_eq (by omega)]
    rcases Nat.eq_or_lt_of_le hu with h2 | h2
    · rw [← h2]; exact hstop
    · cases h3 : preB f (prK R (findI R f + i))
      · rfl
      · have h4 := lt_front h3 hstop (hs.at (i := findI R f + underN R f) (j := findI R f + i) (by omega) (by omega))
        rw [findI_ge hs (by omega) (by omega)] at h4
        cases h4
def tbPl : Tbl where
  T :=
    (3, ⟨1, false, [.int .i64 (0)], .int .i64, 8⟩) ::
    (4, ⟨1, false, [.ff], .bool, 1⟩) ::
    (9, ⟨1, false, [.str []], .str, 16⟩) ::
    (5, ⟨1, false, [.int .u8 (0)], .int .u8, 1⟩) ::
    (69, ⟨3, true, [.int .i64 (0), .str [], .str []], .struct [(0, (1, false)), (1, (1, false)), (2, (1, false))], 40⟩) ::
    (66, ⟨1, false, [.val (.slice none 0 0)], .slice 69, 24⟩) ::
    (46, ⟨2, true, [.str [], .str []], .struct [(0, (1, false)), (1, (1, false))], 32⟩) ::
    (22, ⟨1, false, [.val (.slice none 0 0)], .slice 46, 24⟩) ::
    (63, ⟨2, true, [.str [], .str []], .struct [(0, (1, false)), (1, (1, false))], 32⟩) ::
    (31, ⟨1, false, [.val (.slice none 0 0)], .slice 63, 24⟩) ::
    (137, ⟨1, true, [.val (.slice none 0 0)], .struct [(0, (1, false))], 24⟩) ::
    (53, ⟨1, false, [.val (.pointer none)], .ptr 137, 8⟩) ::
    (55, ⟨1, false, [.int .i64 (0)], .int .i64, 8⟩) ::
    (115, ⟨4, true, [.str [], .str [], .int .i64 (0), .val (.slice none 0 0)], .struct [(0, (1, false)), (1, (1, false)), (2, (1, false)), (3, (1, false))], 64⟩) ::
    (25, ⟨1, false, [.val (.slice none 0 0)], .slice 115, 24⟩) ::
    (27, ⟨2, true, [.int .i64 (0), .val (.slice none 0 0)], .struct [(0, (1, false)), (1, (1, false))], 32⟩) ::
    (24, ⟨32, true, [.int .u8 (0), .int .u8 (0), .int .u8 (0), .int .u8 (0), .int .u8 (0), .int .u8 (0), .int .u8 (0), .int .u8 (0), .int .u8 (0), .int .u8 (0), .int .u8 (0), .int .u8 (0), .int .u8 (0), .int .u8 (0), .int .u8 (0), .int .u8 (0), .int .u8 (0), .int .u8 (0), .int .u8 (0), .int .u8 (0), .int .u8 (0), .int .u8 (0), .int .u8 (0), .int .u8 (0), .int .u8 (0), .int .u8 (0), .int .u8 (0), .int .u8 (0), .int .u8 (0), .int .u8 (0), .int .u8 (0), .int .u8 (0)], .array 32 5, 32⟩) ::
    (113, ⟨1, false, [.val (.slice none 0 0)], .slice 24, 24⟩) ::
    []
  F :=
    (24, [0, 0, 0, 0, 0, 0, 0, 0, 0, 0, 0, 0, 0, 0, 0, 0, 0, 0, 0, 0, 0, 0, 0, 0, 0, 0, 0, 0, 0, 0, 0, 0]) ::
    []

theorem tbPl_ok : tbPl.Ok Tryd.prog where
  T :=
    TblOk.cons (by kernel_rfl) <|
    TblOk.cons (by kernel_rfl) <|
    TblOk.cons (by kernel_rfl) <|
    TblOk.cons (by kernel_rfl) <|
    TblOk.cons (by kernel_rfl) <|
    TblOk.cons (by kernel_rfl) <|
    TblOk.cons (by kernel_rfl) <|
    TblOk.cons (by kernel_rfl) <|
    TblOk.cons (by kernel_rfl) <|
    TblOk.cons (by kernel_rfl) <|
    TblOk.cons (by kernel_rfl) <|
    TblOk.cons (by kernel_rfl) <|
    TblOk.cons (by kernel_rfl) <|
    TblOk.cons (by kernel_rfl) <|
    TblOk.cons (by kernel_rfl) <|
    TblOk.cons (by kernel_rfl) <|
    TblOk.cons (by kernel_rfl) <|
    TblOk.cons (by kernel_rfl) <|
    TblOk.nil _
  F :=
    FlatsOk.cons (FlatOk.of (D := .array 32 5) 6 (by decide) (by kernel_rfl) (by kernel_rfl) rfl (by kernel_rfl)) <|
    FlatsOk.nil _

def sPlL : SpecF
  | [.c (.row 1), .c (.str front), .c (.str key)], [.glob gg sz0 n0 get0, .elems ty one n get] => some (psPre gg sz0 n0 get0 ty one n get, .c .tt, [.dead, .dead])
  | _, _ => none

set_option maxRecDepth 100000 in
set_option maxHeartbeats 32000000 in
theorem storePlaysP : Fn Tryd.prog 8 [0] [(69, 3)] sPlL := by
  have hC : CtsOk Tryd.prog [(36, appFn [] [] sFirst12), (46, appFn [] [(69, 3)] sFewA), (37, appFn [] [] sNewS), (38, appFn [] [] sSet), (39, appFn [] [] sGet), (40, appFn [] [] sDrop), (42, appFn [] [] sLen), (41, appFn [0] [] sSRoot), (53, appFn [0] [] sProve), (47, appPure sMayPx), (48, appFn [] [(46, 2)] sSetR), (49, appFn [] [(46, 2)] sGetR), (50, appFnO [] [] sDropR), (52, appFn [] [(46, 2)] sUnderR), (51, appFn [] [] sUnder), (43, appFn [] [] sCopy), (44, appFn [] [] sPairs), (45, appFn [] [(63, 2), (46, 2)] sKPairs), (20, appFn [] [(46, 2)] sRRtOf), (23, appFn [] [(46, 2)] sRMake), (21, appFn [] [(115, 204), (115, 204)] sSamePr)] := CtsOk.cons (Fn.ct first12P) <| CtsOk.cons (Fn.ct fewAP) <| CtsOk.cons (Fn.ct newSP) <| CtsOk.cons (Fn.ct setSP) <| CtsOk.cons (Fn.ct getSP) <| CtsOk.cons (Fn.ct dropSP) <| CtsOk.cons (Fn.ct lenSP) <| CtsOk.cons (Fn.ct sRootP) <| CtsOk.cons (Fn.ct proveP) <| CtsOk.cons (Pure.ct mayPxP) <| CtsOk.cons (Fn.ct setRP) <| CtsOk.cons (Fn.ct getRP) <| CtsOk.cons (Fn.ctO dropRP) <| CtsOk.cons (Fn.ct underRP) <| CtsOk.cons (Fn.ct underSP) <| CtsOk.cons (Fn.ct copyP) <| CtsOk.cons (Fn.ct pairsP) <| CtsOk.cons (Fn.ct kPairsP) <| CtsOk.cons (Fn.ct rrtOfP) <| CtsOk.cons (Fn.ct rmakeP) <| CtsOk.cons (Fn.ct rsamePrP) <| CtsOk.nil _
  refine Fn.of (E := tbPl) [0] 0 [] tbPl_ok hC (by kernel_rfl) Tryd.func8 rfl rfl rfl (by kernel_rfl) (by kernel_rfl) 2 5 1 ?_ ?_
  · intro args h pre r h' hs
    unfold sPlL at hs
    split at hs
    · cases hs; exact ⟨rfl, rfl, Nat.le_of_ble_eq_true rfl⟩
    · cases hs
  · intro args h pre r h' hs hp
    unfold sPlL at hs
    split at hs
    rotate_left
    · cases hs
    rename_i front key gg sz0 n0 get0 ty one n get
    cases hs
    obtain ⟨hK, rfl, rfl, hst⟩ := hp
    refine ⟨[.glob 0 1 64 (fun i => [.int .u32 (kOf i)]), .elems 69 3 n (acG (acL n get))], ⟨hK.same.1, ⟨rfl, rfl, rfl, fun i hi => hst.eq hi⟩, trivial⟩, ?_⟩
    clear hK
    have hL : (acL n get).length = n := acL_len
    have eAC : acL n (acG (acL n get)) = acL n get := by
      have := acL_acG (acL n get)
      rwa [hL] at this
    generalize acL n get = L at hL eAC ⊢
    unfold sFirst12 sFewA sNewS sSet sGet sDrop sLen sSRoot sProve sMayPx sSetR sGetR sDropR sUnderR sUnder sCopy sPairs sKPairs sRRtOf sRMake sSamePr
    generalize hg0 : (List.length : List PP → Nat) = g0
    generalize hg1 : (List.length : List UInt8 → Nat) = g1
    generalize hL : lft Tryd.prog _ = L
    try unfold prG
    try unfold acG
    try unfold leafG
    generalize ho0 : @prK = zo0, ho1 : @prV = zo1, ho2 : @prL = zo2, ho3 : @ltB = zo3, ho4 : @findB = zo4, ho5 : @szB = zo5, ho6 : @setL = zo6, ho7 : @putS = zo7, ho8 : @dropL = zo8, ho9 : @getL = zo9, ho10 : @underL = zo10, ho11 : @prPre = zo11, ho12 : @prPreR = zo12, ho13 : @kOf = zo13, ho14 : @rootL = zo14, ho15 : @sumsPre = zo15, ho16 : @lK = zo16, ho17 : @lV = zo17, ho18 : @lI = zo18, ho19 : @lP = zo19, ho20 : @lN = zo20, ho21 : @pG = zo21, ho22 : @leafL = zo22, ho23 : @leavesPre = zo23, ho24 : @mkL = zo24, ho25 : @mkC = zo25, ho26 : @mkPre = zo26, ho27 : @lenL = zo27, ho28 : @acK = zo28, ho29 : @acS = zo29, ho30 : @acV = zo30, ho31 : @acL = zo31, ho32 : @acPre = zo32, ho33 : @fewB = zo33, ho34 : @psPre = zo34, ho35 : @rlvPre = zo35, ho36 : @flt = zo36
    generalize hA : Arith.std = A
    cbv
    subst hA hg0 hg1 hL ho0 ho1 ho2 ho3 ho4 ho5 ho6 ho7 ho8 ho9 ho10 ho11 ho12 ho13 ho14 ho15 ho16 ho17 ho18 ho19 ho20 ho21 ho22 ho23 ho24 ho25 ho26 ho27 ho28 ho29 ho30 ho31 ho32 ho33 ho34 ho35 ho36
    refine Need.mk trivial fun _ => Need.mk ⟨rfl, rfl, acAt_acG n L, by decide⟩ fun _ => ?_
    simp only [eAC]
    refine Ife.mk (fun h => ?_) (fun h => ?_)
    · refine Need.mk trivial fun _ => ?_
      exact ⟨[0, 1], ⟨rfl, (by repeat' (first | exact trivial | exact hR1 | exact hR2 | exact hR3 | exact hR4 | exact hA1 | exact hA2 | exact hB1 | exact hB2 | exact rfl | apply And.intro | exact (fun _ _ _ _ => Cell.le_refl _) | (intro i hi; rfl) | (intro i hi; exact absurd hi (Nat.not_lt_zero _)))), (by show List.Nodup []; exact List.nodup_nil), rfl, by repeat' (first | exact trivial | exact hR1 | exact hR2 | exact hR3 | exact hR4 | exact hA1 | exact hA2 | exact hB1 | exact hB2 | exact rfl | apply And.intro | exact (fun _ _ _ _ => Cell.le_refl _) | (intro i hi; rfl) | (intro i hi; exact absurd hi (Nat.not_lt_zero _)))⟩⟩
    have hfew : fewB 40 L = true := by simpa using (show (!fewB 40 L) = false from h)
    clear h
    obtain ⟨hn40, hfl⟩ := fewB_iff.1 hfew
    have hn : n ≤ 40 := by omega
    refine Ife.mk (fun h => ?_) (fun c1 => ?_)
    · refine Need.mk trivial fun _ => ?_
      exact ⟨[0, 1], ⟨rfl, (by repeat' (first | exact trivial | exact hR1 | exact hR2 | exact hR3 | exact hR4 | exact hA1 | exact hA2 | exact hB1 | exact hB2 | exact rfl | apply And.intro | exact (fun _ _ _ _ => Cell.le_refl _) | (intro i hi; rfl) | (intro i hi; exact absurd hi (Nat.not_lt_zero _)))), (by show List.Nodup []; exact List.nodup_nil), rfl, by repeat' (first | exact trivial | exact hR1 | exact hR2 | exact hR3 | exact hR4 | exact hA1 | exact hA2 | exact hB1 | exact hB2 | exact rfl | apply And.intro | exact (fun _ _ _ _ => Cell.le_refl _) | (intro i hi; rfl) | (intro i hi; exact absurd hi (Nat.not_lt_zero _)))⟩⟩
    refine Ife.mk (fun h => ?_) (fun c2 => ?_)
    · refine Need.mk trivial fun _ => ?_
      exact ⟨[0, 1], ⟨rfl, (by repeat' (first | exact trivial | exact hR1 | exact hR2 | exact hR3 | exact hR4 | exact hA1 | exact hA2 | exact hB1 | exact hB2 | exact rfl | apply And.intro | exact (fun _ _ _ _ => Cell.le_refl _) | (intro i hi; rfl) | (intro i hi; exact absurd hi (Nat.not_lt_zero _)))), (by show List.Nodup []; exact List.nodup_nil), rfl, by repeat' (first | exact trivial | exact hR1 | exact hR2 | exact hR3 | exact hR4 | exact hA1 | exact hA2 | exact hB1 | exact hB2 | exact rfl | apply And.intro | exact (fun _ _ _ _ => Cell.le_refl _) | (intro i hi; rfl) | (intro i hi; exact absurd hi (Nat.not_lt_zero _)))⟩⟩
    refine Need.mk trivial fun _ => ?_
    refine Runs.nilTmp 8 46 2 (prG []) rfl ?_
    show Runs Tryd.prog 2 (.loop _) _ _
    refine loop_ruleR (N := env (lft Tryd.prog 2) 0 .std tbPl [(36, appFn [] [] sFirst12), (46, appFn [] [(69, 3)] sFewA), (37, appFn [] [] sNewS), (38, appFn [] [] sSet), (39, appFn [] [] sGet), (40, appFn [] [] sDrop), (42, appFn [] [] sLen), (41, appFn [0] [] sSRoot), (53, appFn [0] [] sProve), (47, appPure sMayPx), (48, appFn [] [(46, 2)] sSetR), (49, appFn [] [(46, 2)] sGetR), (50, appFnO [] [] sDropR), (52, appFn [] [(46, 2)] sUnderR), (51, appFn [] [] sUnder), (43, appFn [] [] sCopy), (44, appFn [] [] sPairs), (45, appFn [] [(63, 2), (46, 2)] sKPairs), (20, appFn [] [(46, 2)] sRRtOf), (23, appFn [] [(46, 2)] sRMake), (21, appFn [] [(115, 204), (115, 204)] sSamePr)] []) rfl tbPl_ok hC (fun c st K _ h => h) (by kernel_rfl) [0] (X := LPy n)
      (S := fun x => ⟨[.c (.row 1), .c (.str front), .c (.str key), .any, .any, .any, .any, .c (.ptr 2 0), .c (.row 4), .c (.int .i64 (x.i : Int))] ++ List.replicate 161 .any, [.glob 0 1 64 (fun i => [.int .u32 (kOf i)]), .elems 69 3 n (acG L), .cells 137 [.row 3], .row 63 2 x.m (prG x.R), .row 46 2 x.m (prG x.R)]⟩) (μ := fun x => n - x.i) ⟨0, [], 0, Nat.zero_le _, ⟨List.Pairwise.nil, (fun p hp => by cases hp), Nat.le_refl _⟩, rfl⟩ (by kernel_rfl) [0, 1, 3, 4, 5] ?h0 ?rd
    case h0 =>
      refine ⟨rfl, by decide, ?_, ?_⟩ <;> repeat' (first | exact trivial | exact hR1 | exact hR2 | exact hR3 | exact hR4 | exact hA1 | exact hA2 | exact hB1 | exact hB2 | exact rfl | apply And.intro | exact (fun _ _ _ _ => Cell.le_refl _) | (intro i hi; rfl) | (intro i hi; exact absurd hi (Nat.not_lt_zero _)))
    case rd =>
      rintro ⟨i, R, m, hi, hO, hm⟩
      unfold sFirst12 sFewA sNewS sSRoot sProve sMayPx sUnderR sUnder sRRtOf sRMake sSamePr
      generalize hg0 : (List.length : List PP → Nat) = g0
      generalize hg1 : (List.length : List UInt8 → Nat) = g1
      generalize hL : lft Tryd.prog _ = L
      try dsimp only
      try unfold prG
      try unfold acG
      try unfold leafG
      generalize ho0 : @prK = zo0, ho1 : @prV = zo1, ho2 : @prL = zo2, ho3 : @ltB = zo3, ho4 : @findB = zo4, ho5 : @szB = zo5, ho6 : @setL = zo6, ho7 : @putS = zo7, ho8 : @dropL = zo8, ho9 : @getL = zo9, ho10 : @underL = zo10, ho11 : @prPre = zo11, ho12 : @prPreR = zo12, ho13 : @kOf = zo13, ho14 : @rootL = zo14, ho15 : @sumsPre = zo15, ho16 : @lK = zo16, ho17 : @lV = zo17, ho18 : @lI = zo18, ho19 : @lP = zo19, ho20 : @lN = zo20, ho21 : @pG = zo21, ho22 : @leafL = zo22, ho23 : @leavesPre = zo23, ho24 : @mkL = zo24, ho25 : @mkC = zo25, ho26 : @mkPre = zo26, ho27 : @lenL = zo27, ho28 : @acK = zo28, ho29 : @acS = zo29, ho30 : @acV = zo30, ho31 : @acL = zo31, ho32 : @acPre = zo32, ho33 : @fewB = zo33, ho34 : @psPre = zo34, ho35 : @rlvPre = zo35, ho36 : @flt = zo36
      generalize hs0 : @sSet = zs0, hs1 : @sGetR = zs1, hs2 : @sGet = zs2, hs3 : @sSetR = zs3, hs4 : @sDrop = zs4, hs5 : @sDropR = zs5, hs6 : @sCopy = zs6, hs7 : @sPairs = zs7, hs8 : @sKPairs = zs8, hs9 : @sLen = zs9
      generalize hA : Arith.std = A
      cbv
      subst hA hg0 hg1 hL ho0 ho1 ho2 ho3 ho4 ho5 ho6 ho7 ho8 ho9 ho10 ho11 ho12 ho13 ho14 ho15 ho16 ho17 ho18 ho19 ho20 ho21 ho22 ho23 ho24 ho25 ho26 ho27 ho28 ho29 ho30 ho31 ho32 ho33 ho34 ho35 ho36 hs0 hs1 hs2 hs3 hs4 hs5 hs6 hs7 hs8 hs9
      unfold sSet sGetR
      generalize hg0 : (List.length : List PP → Nat) = g0
      generalize hg1 : (List.length : List UInt8 → Nat) = g1
      generalize hL : lft Tryd.prog _ = L
      try unfold prG
      try unfold acG
      try unfold leafG
      generalize ho0 : @prK = zo0, ho1 : @prV = zo1, ho2 : @prL = zo2, ho3 : @ltB = zo3, ho4 : @findB = zo4, ho5 : @szB = zo5, ho6 : @setL = zo6, ho7 : @putS = zo7, ho8 : @dropL = zo8, ho9 : @getL = zo9, ho10 : @underL = zo10, ho11 : @prPre = zo11, ho12 : @prPreR = zo12, ho13 : @kOf = zo13, ho14 : @rootL = zo14, ho15 : @sumsPre = zo15, ho16 : @lK = zo16, ho17 : @lV = zo17, ho18 : @lI = zo18, ho19 : @lP = zo19, ho20 : @lN = zo20, ho21 : @pG = zo21, ho22 : @leafL = zo22, ho23 : @leavesPre = zo23, ho24 : @mkL = zo24, ho25 : @mkC = zo25, ho26 : @mkPre = zo26, ho27 : @lenL = zo27, ho28 : @acK = zo28, ho29 : @acS = zo29, ho30 : @acV = zo30, ho31 : @acL = zo31, ho32 : @acPre = zo32, ho33 : @fewB = zo33, ho34 : @psPre = zo34, ho35 : @rlvPre = zo35, ho36 : @flt = zo36
      generalize hs0 : @sGet = zs0, hs1 : @sSetR = zs1, hs2 : @sDrop = zs2, hs3 : @sDropR = zs3, hs4 : @sCopy = zs4, hs5 : @sPairs = zs5, hs6 : @sKPairs = zs6, hs7 : @sLen = zs7
      generalize hA : Arith.std = A
      cbv
      subst hA hg0 hg1 hL ho0 ho1 ho2 ho3 ho4 ho5 ho6 ho7 ho8 ho9 ho10 ho11 ho12 ho13 ho14 ho15 ho16 ho17 ho18 ho19 ho20 ho21 ho22 ho23 ho24 ho25 ho26 ho27 ho28 ho29 ho30 ho31 ho32 ho33 ho34 ho35 ho36 hs0 hs1 hs2 hs3 hs4 hs5 hs6 hs7
      unfold sGet
      generalize hg0 : (List.length : List PP → Nat) = g0
      generalize hg1 : (List.length : List UInt8 → Nat) = g1
      generalize hL : lft Tryd.prog _ = L
      try unfold prG
      try unfold acG
      try unfold leafG
      generalize ho0 : @prK = zo0, ho1 : @prV = zo1, ho2 : @prL = zo2, ho3 : @ltB = zo3, ho4 : @findB = zo4, ho5 : @szB = zo5, ho6 : @setL = zo6, ho7 : @putS = zo7, ho8 : @dropL = zo8, ho9 : @getL = zo9, ho10 : @underL = zo10, ho11 : @prPre = zo11, ho12 : @prPreR = zo12, ho13 : @kOf = zo13, ho14 : @rootL = zo14, ho15 : @sumsPre = zo15, ho16 : @lK = zo16, ho17 : @lV = zo17, ho18 : @lI = zo18, ho19 : @lP = zo19, ho20 : @lN = zo20, ho21 : @pG = zo21, ho22 : @leafL = zo22, ho23 : @leavesPre = zo23, ho24 : @mkL = zo24, ho25 : @mkC = zo25, ho26 : @mkPre = zo26, ho27 : @lenL = zo27, ho28 : @acK = zo28, ho29 : @acS = zo29, ho30 : @acV = zo30, ho31 : @acL = zo31, ho32 : @acPre = zo32, ho33 : @fewB = zo33, ho34 : @psPre = zo34, ho35 : @rlvPre = zo35, ho36 : @flt = zo36
      generalize hs0 : @sSetR = zs0, hs1 : @sDrop = zs1, hs2 : @sDropR = zs2, hs3 : @sCopy = zs3, hs4 : @sPairs = zs4, hs5 : @sKPairs = zs5, hs6 : @sLen = zs6
      generalize hA : Arith.std = A
      cbv
      subst hA hg0 hg1 hL ho0 ho1 ho2 ho3 ho4 ho5 ho6 ho7 ho8 ho9 ho10 ho11 ho12 ho13 ho14 ho15 ho16 ho17 ho18 ho19 ho20 ho21 ho22 ho23 ho24 ho25 ho26 ho27 ho28 ho29 ho30 ho31 ho32 ho33 ho34 ho35 ho36 hs0 hs1 hs2 hs3 hs4 hs5 hs6
      unfold sSetR
      generalize hg0 : (List.length : List PP → Nat) = g0
      generalize hg1 : (List.length : List UInt8 → Nat) = g1
      generalize hL : lft Tryd.prog _ = L
      try unfold prG
      try unfold acG
      try unfold leafG
      generalize ho0 : @prK = zo0, ho1 : @prV = zo1, ho2 : @prL = zo2, ho3 : @ltB = zo3, ho4 : @findB = zo4, ho5 : @szB = zo5, ho6 : @setL = zo6, ho7 : @putS = zo7, ho8 : @dropL = zo8, ho9 : @getL = zo9, ho10 : @underL = zo10, ho11 : @prPre = zo11, ho12 : @prPreR = zo12, ho13 : @kOf = zo13, ho14 : @rootL = zo14, ho15 : @sumsPre = zo15, ho16 : @lK = zo16, ho17 : @lV = zo17, ho18 : @lI = zo18, ho19 : @lP = zo19, ho20 : @lN = zo20, ho21 : @pG = zo21, ho22 : @leafL = zo22, ho23 : @leavesPre = zo23, ho24 : @mkL = zo24, ho25 : @mkC = zo25, ho26 : @mkPre = zo26, ho27 : @lenL = zo27, ho28 : @acK = zo28, ho29 : @acS = zo29, ho30 : @acV = zo30, ho31 : @acL = zo31, ho32 : @acPre = zo32, ho33 : @fewB = zo33, ho34 : @psPre = zo34, ho35 : @rlvPre = zo35, ho36 : @flt = zo36
      generalize hs0 : @sDrop = zs0, hs1 : @sDropR = zs1, hs2 : @sCopy = zs2, hs3 : @sPairs = zs3, hs4 : @sKPairs = zs4, hs5 : @sLen = zs5
      generalize hA : Arith.std = A
      cbv
      subst hA hg0 hg1 hL ho0 ho1 ho2 ho3 ho4 ho5 ho6 ho7 ho8 ho9 ho10 ho11 ho12 ho13 ho14 ho15 ho16 ho17 ho18 ho19 ho20 ho21 ho22 ho23 ho24 ho25 ho26 ho27 ho28 ho29 ho30 ho31 ho32 ho33 ho34 ho35 ho36 hs0 hs1 hs2 hs3 hs4 hs5
      unfold sDrop
      generalize hg0 : (List.length : List PP → Nat) = g0
      generalize hg1 : (List.length : List UInt8 → Nat) = g1
      generalize hL : lft Tryd.prog _ = L
      try unfold prG
      try unfold acG
      try unfold leafG
      generalize ho0 : @prK = zo0, ho1 : @prV = zo1, ho2 : @prL = zo2, ho3 : @ltB = zo3, ho4 : @findB = zo4, ho5 : @szB = zo5, ho6 : @setL = zo6, ho7 : @putS = zo7, ho8 : @dropL = zo8, ho9 : @getL = zo9, ho10 : @underL = zo10, ho11 : @prPre = zo11, ho12 : @prPreR = zo12, ho13 : @kOf = zo13, ho14 : @rootL = zo14, ho15 : @sumsPre = zo15, ho16 : @lK = zo16, ho17 : @lV = zo17, ho18 : @lI = zo18, ho19 : @lP = zo19, ho20 : @lN = zo20, ho21 : @pG = zo21, ho22 : @leafL = zo22, ho23 : @leavesPre = zo23, ho24 : @mkL = zo24, ho25 : @mkC = zo25, ho26 : @mkPre = zo26, ho27 : @lenL = zo27, ho28 : @acK = zo28, ho29 : @acS = zo29, ho30 : @acV = zo30, ho31 : @acL = zo31, ho32 : @acPre = zo32, ho33 : @fewB = zo33, ho34 : @psPre = zo34, ho35 : @rlvPre = zo35, ho36 : @flt = zo36
      generalize hs0 : @sDropR = zs0, hs1 : @sCopy = zs1, hs2 : @sPairs = zs2, hs3 : @sKPairs = zs3, hs4 : @sLen = zs4
      generalize hA : Arith.std = A
      cbv
      subst hA hg0 hg1 hL ho0 ho1 ho2 ho3 ho4 ho5 ho6 ho7 ho8 ho9 ho10 ho11 ho12 ho13 ho14 ho15 ho16 ho17 ho18 ho19 ho20 ho21 ho22 ho23 ho24 ho25 ho26 ho27 ho28 ho29 ho30 ho31 ho32 ho33 ho34 ho35 ho36 hs0 hs1 hs2 hs3 hs4
      unfold sDropR
      generalize hg0 : (List.length : List PP → Nat) = g0
      generalize hg1 : (List.length : List UInt8 → Nat) = g1
      generalize hL : lft Tryd.prog _ = L
      try unfold prG
      try unfold acG
      try unfold leafG
      generalize ho0 : @prK = zo0, ho1 : @prV = zo1, ho2 : @prL = zo2, ho3 : @ltB = zo3, ho4 : @findB = zo4, ho5 : @szB = zo5, ho6 : @setL = zo6, ho7 : @putS = zo7, ho8 : @dropL = zo8, ho9 : @getL = zo9, ho10 : @underL = zo10, ho11 : @prPre = zo11, ho12 : @prPreR = zo12, ho13 : @kOf = zo13, ho14 : @rootL = zo14, ho15 : @sumsPre = zo15, ho16 : @lK = zo16, ho17 : @lV = zo17, ho18 : @lI = zo18, ho19 : @lP = zo19, ho20 : @lN = zo20, ho21 : @pG = zo21, ho22 : @leafL = zo22, ho23 : @leavesPre = zo23, ho24 : @mkL = zo24, ho25 : @mkC = zo25, ho26 : @mkPre = zo26, ho27 : @lenL = zo27, ho28 : @acK = zo28, ho29 : @acS = zo29, ho30 : @acV = zo30, ho31 : @acL = zo31, ho32 : @acPre = zo32, ho33 : @fewB = zo33, ho34 : @psPre = zo34, ho35 : @rlvPre = zo35, ho36 : @flt = zo36
      generalize hs0 : @sCopy = zs0, hs1 : @sPairs = zs1, hs2 : @sKPairs = zs2, hs3 : @sLen = zs3
      generalize hA : Arith.std = A
      cbv
      subst hA hg0 hg1 hL ho0 ho1 ho2 ho3 ho4 ho5 ho6 ho7 ho8 ho9 ho10 ho11 ho12 ho13 ho14 ho15 ho16 ho17 ho18 ho19 ho20 ho21 ho22 ho23 ho24 ho25 ho26 ho27 ho28 ho29 ho30 ho31 ho32 ho33 ho34 ho35 ho36 hs0 hs1 hs2 hs3
      unfold sCopy
      generalize hg0 : (List.length : List PP → Nat) = g0
      generalize hg1 : (List.length : List UInt8 → Nat) = g1
      generalize hL : lft Tryd.prog _ = L
      try unfold prG
      try unfold acG
      try unfold leafG
      generalize ho0 : @prK = zo0, ho1 : @prV = zo1, ho2 : @prL = zo2, ho3 : @ltB = zo3, ho4 : @findB = zo4, ho5 : @szB = zo5, ho6 : @setL = zo6, ho7 : @putS = zo7, ho8 : @dropL = zo8, ho9 : @getL = zo9, ho10 : @underL = zo10, ho11 : @prPre = zo11, ho12 : @prPreR = zo12, ho13 : @kOf = zo13, ho14 : @rootL = zo14, ho15 : @sumsPre = zo15, ho16 : @lK = zo16, ho17 : @lV = zo17, ho18 : @lI = zo18, ho19 : @lP = zo19, ho20 : @lN = zo20, ho21 : @pG = zo21, ho22 : @leafL = zo22, ho23 : @leavesPre = zo23, ho24 : @mkL = zo24, ho25 : @mkC = zo25, ho26 : @mkPre = zo26, ho27 : @lenL = zo27, ho28 : @acK = zo28, ho29 : @acS = zo29, ho30 : @acV = zo30, ho31 : @acL = zo31, ho32 : @acPre = zo32, ho33 : @fewB = zo33, ho34 : @psPre = zo34, ho35 : @rlvPre = zo35, ho36 : @flt = zo36
      generalize hs0 : @sPairs = zs0, hs1 : @sKPairs = zs1, hs2 : @sLen = zs2
      generalize hA : Arith.std = A
      cbv
      subst hA hg0 hg1 hL ho0 ho1 ho2 ho3 ho4 ho5 ho6 ho7 ho8 ho9 ho10 ho11 ho12 ho13 ho14 ho15 ho16 ho17 ho18 ho19 ho20 ho21 ho22 ho23 ho24 ho25 ho26 ho27 ho28 ho29 ho30 ho31 ho32 ho33 ho34 ho35 ho36 hs0 hs1 hs2
      unfold sPairs
      generalize hg0 : (List.length : List PP → Nat) = g0
      generalize hg1 : (List.length : List UInt8 → Nat) = g1
      generalize hL : lft Tryd.prog _ = L
      try unfold prG
      try unfold acG
      try unfold leafG
      generalize ho0 : @prK = zo0, ho1 : @prV = zo1, ho2 : @prL = zo2, ho3 : @ltB = zo3, ho4 : @findB = zo4, ho5 : @szB = zo5, ho6 : @setL = zo6, ho7 : @putS = zo7, ho8 : @dropL = zo8, ho9 : @getL = zo9, ho10 : @underL = zo10, ho11 : @prPre = zo11, ho12 : @prPreR = zo12, ho13 : @kOf = zo13, ho14 : @rootL = zo14, ho15 : @sumsPre = zo15, ho16 : @lK = zo16, ho17 : @lV = zo17, ho18 : @lI = zo18, ho19 : @lP = zo19, ho20 : @lN = zo20, ho21 : @pG = zo21, ho22 : @leafL = zo22, ho23 : @leavesPre = zo23, ho24 : @mkL = zo24, ho25 : @mkC = zo25, ho26 : @mkPre = zo26, ho27 : @lenL = zo27, ho28 : @acK = zo28, ho29 : @acS = zo29, ho30 : @acV = zo30, ho31 : @acL = zo31, ho32 : @acPre = zo32, ho33 : @fewB = zo33, ho34 : @psPre = zo34, ho35 : @rlvPre = zo35, ho36 : @flt = zo36
      generalize hs0 : @sKPairs = zs0, hs1 : @sLen = zs1
      generalize hA : Arith.std = A
      cbv
      subst hA hg0 hg1 hL ho0 ho1 ho2 ho3 ho4 ho5 ho6 ho7 ho8 ho9 ho10 ho11 ho12 ho13 ho14 ho15 ho16 ho17 ho18 ho19 ho20 ho21 ho22 ho23 ho24 ho25 ho26 ho27 ho28 ho29 ho30 ho31 ho32 ho33 ho34 ho35 ho36 hs0 hs1
      unfold sKPairs
      generalize hg0 : (List.length : List PP → Nat) = g0
      generalize hg1 : (List.length : List UInt8 → Nat) = g1
      generalize hL : lft Tryd.prog _ = L
      try unfold prG
      try unfold acG
      try unfold leafG
      generalize ho0 : @prK = zo0, ho1 : @prV = zo1, ho2 : @prL = zo2, ho3 : @ltB = zo3, ho4 : @findB = zo4, ho5 : @szB = zo5, ho6 : @setL = zo6, ho7 : @putS = zo7, ho8 : @dropL = zo8, ho9 : @getL = zo9, ho10 : @underL = zo10, ho11 : @prPre = zo11, ho12 : @prPreR = zo12, ho13 : @kOf = zo13, ho14 : @rootL = zo14, ho15 : @sumsPre = zo15, ho16 : @lK = zo16, ho17 : @lV = zo17, ho18 : @lI = zo18, ho19 : @lP = zo19, ho20 : @lN = zo20, ho21 : @pG = zo21, ho22 : @leafL = zo22, ho23 : @leavesPre = zo23, ho24 : @mkL = zo24, ho25 : @mkC = zo25, ho26 : @mkPre = zo26, ho27 : @lenL = zo27, ho28 : @acK = zo28, ho29 : @acS = zo29, ho30 : @acV = zo30, ho31 : @acL = zo31, ho32 : @acPre = zo32, ho33 : @fewB = zo33, ho34 : @psPre = zo34, ho35 : @rlvPre = zo35, ho36 : @flt = zo36
      generalize hs0 : @sLen = zs0
      generalize hA : Arith.std = A
      cbv
      subst hA hg0 hg1 hL ho0 ho1 ho2 ho3 ho4 ho5 ho6 ho7 ho8 ho9 ho10 ho11 ho12 ho13 ho14 ho15 ho16 ho17 ho18 ho19 ho20 ho21 ho22 ho23 ho24 ho25 ho26 ho27 ho28 ho29 ho30 ho31 ho32 ho33 ho34 ho35 ho36 hs0
      unfold sLen
      generalize hg0 : (List.length : List PP → Nat) = g0
      generalize hg1 : (List.length : List UInt8 → Nat) = g1
      generalize hL : lft Tryd.prog _ = L
      try unfold prG
      try unfold acG
      try unfold leafG
      generalize ho0 : @prK = zo0, ho1 : @prV = zo1, ho2 : @prL = zo2, ho3 : @ltB = zo3, ho4 : @findB = zo4, ho5 : @szB = zo5, ho6 : @setL = zo6, ho7 : @putS = zo7, ho8 : @dropL = zo8, ho9 : @getL = zo9, ho10 : @underL = zo10, ho11 : @prPre = zo11, ho12 : @prPreR = zo12, ho13 : @kOf = zo13, ho14 : @rootL = zo14, ho15 : @sumsPre = zo15, ho16 : @lK = zo16, ho17 : @lV = zo17, ho18 : @lI = zo18, ho19 : @lP = zo19, ho20 : @lN = zo20, ho21 : @pG = zo21, ho22 : @leafL = zo22, ho23 : @leavesPre = zo23, ho24 : @mkL = zo24, ho25 : @mkC = zo25, ho26 : @mkPre = zo26, ho27 : @lenL = zo27, ho28 : @acK = zo28, ho29 : @acS = zo29, ho30 : @acV = zo30, ho31 : @acL = zo31, ho32 : @acPre = zo32, ho33 : @fewB = zo33, ho34 : @psPre = zo34, ho35 : @rlvPre = zo35, ho36 : @flt = zo36
      generalize hA : Arith.std = A
      cbv
      subst hA hg0 hg1 hL ho0 ho1 ho2 ho3 ho4 ho5 ho6 ho7 ho8 ho9 ho10 ho11 ho12 ho13 ho14 ho15 ho16 ho17 ho18 ho19 ho20 ho21 ho22 ho23 ho24 ho25 ho26 ho27 ho28 ho29 ho30 ho31 ho32 ho33 ho34 ho35 ho36
      have hOl := hO.l
      have hA2 : R.length = m := hm
      have eP : prL m (prG R) = R := by rw [← hm]; exact prL_prG R
      have hPR : prPre 63 2 m (prG R) := ⟨rfl, rfl, prAt_prG _ R, by omega⟩
      have hPRR : prPreR 46 2 m (prG R) := ⟨rfl, rfl, prAt_prG _ R, by omega⟩
      simp only [eP, prL_prG]
      simp only [Arith.std, Int.ofNat_eq_natCast, Int.toNat_natCast]
      refine Ife.mk (fun h => ?_) (fun h => ?_)
      · have h : (i : Int) < (@Nat.cast Int instNatCastInt n) := of_decide_eq_true (p := (i : Int) < (n : Int)) h
        have hiN : i < n := Int.ofNat_lt.mp h
        have p0 : 0 ≤ (i : Int) ∧ (i : Int) < (n : Int) := by omega
        have p1 : (i : Int).toNat < n := by omega
        have hsz := hfl i (by omega)
        have fl : fitStd .i64 ((i : Int) + 1) := by unfold fitStd; omega
        refine Need.mk p0 fun _ => Need.mk p1 fun _ => Need.mk trivial fun _ => ?_
        refine Ife.mk (fun hk => ?_) (fun hk => ?_)
        · refine Need.mk ⟨hPR, hO.s, Nat.le_trans hsz.1 (by decide), Nat.le_trans hsz.2 (by decide)⟩ fun _ => ?_
          refine Ife.mk (fun h5 => absurd h5 ?ab) (fun _ => ?_)
          case ab =>
            show ¬ (!decide (decide ((if szB (acS L i) (acV L i) = true then (0 : Int) else 1) = 0) = szB (acS L i) (acV L i))) = true
            cases szB (acS L i) (acV L i) <;> simp
          refine Ife.mk (fun hz => ?_) (fun hz => ?_)
          · have hz : szB (acS L i) (acV L i) = true := hz
            have eS : putS R (acS L i) (acV L i) = setL R (acS L i) (acV L i) := if_pos hz
            have hput := hO.put (acS L i) (acV L i)
            rw [eS] at hput
            refine Need.mk hPRR fun _ => ?_
            simp only [eS]
            have hT := hput
            have hTl := hT.l
            refine Need.mk ⟨⟨rfl, rfl, prAt_prG _ (setL R (acS L i) (acV L i)), by omega⟩, hT.s⟩ fun _ => Need.mk ⟨rfl, rfl, prAt_prG _ (setL R (acS L i) (acV L i)), by omega⟩ fun _ => ?_
            refine Ife.mk (fun h5 => absurd h5 (by simp [hm])) (fun _ => ?_)
            refine Ife.mk (fun h5 => absurd h5 (by simp [hm])) (fun _ => ?_)
            refine Need.mk ⟨rfl, rfl, prAt_prG _ (setL R (acS L i) (acV L i)), by omega⟩ fun _ => ?_
            refine Ife.mk (fun h5 => absurd h5 (by simp [hm])) (fun _ => ?_)
            refine Need.mk fl fun _ => ?_
            refine ⟨⟨i + 1, setL R (acS L i) (acV L i), (setL R (acS L i) (acV L i)).length, by omega, hT, rfl⟩, [0, 1, 2, 6, 8], (by show n - (i + 1) < n - i; omega), ?_⟩
            refine ⟨rfl, (by show List.Nodup [0, 1, 2, 6, 8]; decide), ?_, ?_⟩ <;> repeat' (first | exact trivial | exact hR1 | exact hR2 | exact hR3 | exact hR4 | exact hA1 | exact hA2 | exact hB1 | exact hB2 | exact rfl | apply And.intro | exact (fun _ _ _ _ => Cell.le_refl _) | (intro i hi; rfl) | (intro i hi; exact absurd hi (Nat.not_lt_zero _)))
          · have hz : szB (acS L i) (acV L i) = false := hz
            have eS : putS R (acS L i) (acV L i) = R := if_neg (by rw [hz]; simp)
            simp only [eS]
            have hT := hO.next
            have hTl := hT.l
            refine Need.mk ⟨⟨rfl, rfl, prAt_prG _ (R), by omega⟩, hT.s⟩ fun _ => Need.mk ⟨rfl, rfl, prAt_prG _ (R), by omega⟩ fun _ => ?_
            refine Ife.mk (fun h5 => absurd h5 (by simp [hm])) (fun _ => ?_)
            refine Ife.mk (fun h5 => absurd h5 (by simp [hm])) (fun _ => ?_)
            refine Need.mk ⟨rfl, rfl, prAt_prG _ (R), by omega⟩ fun _ => ?_
            refine Ife.mk (fun h5 => absurd h5 (by simp [hm])) (fun _ => ?_)
            refine Need.mk fl fun _ => ?_
            refine ⟨⟨i + 1, R, m, by omega, hT, hm⟩, [0, 1, 2, 6, 4], (by show n - (i + 1) < n - i; omega), ?_⟩
            refine ⟨rfl, (by show List.Nodup [0, 1, 2, 6, 4]; decide), ?_, ?_⟩ <;> repeat' (first | exact trivial | exact hR1 | exact hR2 | exact hR3 | exact hR4 | exact hA1 | exact hA2 | exact hB1 | exact hB2 | exact rfl | apply And.intro | exact (fun _ _ _ _ => Cell.le_refl _) | (intro i hi; rfl) | (intro i hi; exact absurd hi (Nat.not_lt_zero _)))
        · refine Ife.mk (fun hk => ?_) (fun hk => ?_)
          · refine Need.mk hPRR fun _ => Need.mk ⟨hPR, hO.s⟩ fun _ => ?_
            refine Ife.mk (fun h5 => absurd h5 (by simp)) (fun _ => ?_)
            refine Need.mk hPRR fun _ => ?_
            have hT := hO.drop (acS L i)
            have hTl := hT.l
            refine Need.mk ⟨⟨rfl, rfl, prAt_prG _ (dropL R (acS L i)), by omega⟩, hT.s⟩ fun _ => Need.mk ⟨rfl, rfl, prAt_prG _ (dropL R (acS L i)), by omega⟩ fun _ => ?_
            refine Ife.mk (fun h5 => absurd h5 (by simp [hm])) (fun _ => ?_)
            refine Ife.mk (fun h5 => absurd h5 (by simp [hm])) (fun _ => ?_)
            refine Need.mk ⟨rfl, rfl, prAt_prG _ (dropL R (acS L i)), by omega⟩ fun _ => ?_
            refine Ife.mk (fun h5 => absurd h5 (by simp [hm])) (fun _ => ?_)
            refine Need.mk fl fun _ => ?_
            refine ⟨⟨i + 1, dropL R (acS L i), (dropL R (acS L i)).length, by omega, hT, rfl⟩, [0, 1, 2, 7, 8], (by show n - (i + 1) < n - i; omega), ?_⟩
            refine ⟨rfl, (by show List.Nodup [0, 1, 2, 7, 8]; decide), ?_, ?_⟩ <;> repeat' (first | exact trivial | exact hR1 | exact hR2 | exact hR3 | exact hR4 | exact hA1 | exact hA2 | exact hB1 | exact hB2 | exact rfl | apply And.intro | exact (fun _ _ _ _ => Cell.le_refl _) | (intro i hi; rfl) | (intro i hi; exact absurd hi (Nat.not_lt_zero _)))
          · refine Ife.mk (fun hk => ?_) (fun hk => ?_)
            · refine Need.mk hPR fun _ => Need.mk hPR fun _ => Need.mk ⟨hPR, hPRR⟩ fun _ => ?_
              refine Ife.mk (fun h5 => absurd h5 (by simp)) (fun _ => ?_)
              have hpl := putS_len (L := R) (k := acS L i) (v := acV L i)
              refine Need.mk ⟨hPR, hO.s, Nat.le_trans hsz.1 (by decide), Nat.le_trans hsz.2 (by decide)⟩ fun _ => Need.mk ⟨⟨rfl, rfl, prAt_prG _ _, by omega⟩, putS_s hO.s⟩ fun _ => ?_
              have hT := hO.next
              have hTl := hT.l
              refine Need.mk ⟨⟨rfl, rfl, prAt_prG _ (R), by omega⟩, hT.s⟩ fun _ => Need.mk ⟨rfl, rfl, prAt_prG _ (R), by omega⟩ fun _ => ?_
              refine Ife.mk (fun h5 => absurd h5 (by simp [hm])) (fun _ => ?_)
              refine Ife.mk (fun h5 => absurd h5 (by simp [hm])) (fun _ => ?_)
              refine Need.mk ⟨rfl, rfl, prAt_prG _ (R), by omega⟩ fun _ => ?_
              refine Ife.mk (fun h5 => absurd h5 (by simp [hm])) (fun _ => ?_)
              refine Need.mk fl fun _ => ?_
              refine ⟨⟨i + 1, R, m, by omega, hT, hm⟩, [0, 1, 2, 3, 4], (by show n - (i + 1) < n - i; omega), ?_⟩
              refine ⟨rfl, (by show List.Nodup [0, 1, 2, 3, 4]; decide), ?_, ?_⟩ <;> repeat' (first | exact trivial | exact hR1 | exact hR2 | exact hR3 | exact hR4 | exact hA1 | exact hA2 | exact hB1 | exact hB2 | exact rfl | apply And.intro | exact (fun _ _ _ _ => Cell.le_refl _) | (intro i hi; rfl) | (intro i hi; exact absurd hi (Nat.not_lt_zero _)))
            · skip
              have hT := hO.next
              have hTl := hT.l
              refine Need.mk ⟨⟨rfl, rfl, prAt_prG _ (R), by omega⟩, hT.s⟩ fun _ => Need.mk ⟨rfl, rfl, prAt_prG _ (R), by omega⟩ fun _ => ?_
              refine Ife.mk (fun h5 => absurd h5 (by simp [hm])) (fun _ => ?_)
              refine Ife.mk (fun h5 => absurd h5 (by simp [hm])) (fun _ => ?_)
              refine Need.mk ⟨rfl, rfl, prAt_prG _ (R), by omega⟩ fun _ => ?_
              refine Ife.mk (fun h5 => absurd h5 (by simp [hm])) (fun _ => ?_)
              refine Need.mk fl fun _ => ?_
              refine ⟨⟨i + 1, R, m, by omega, hT, hm⟩, [0, 1, 2, 3, 4], (by show n - (i + 1) < n - i; omega), ?_⟩
              refine ⟨rfl, (by show List.Nodup [0, 1, 2, 3, 4]; decide), ?_, ?_⟩ <;> repeat' (first | exact trivial | exact hR1 | exact hR2 | exact hR3 | exact hR4 | exact hA1 | exact hA2 | exact hB1 | exact hB2 | exact rfl | apply And.intro | exact (fun _ _ _ _ => Cell.le_refl _) | (intro i hi; rfl) | (intro i hi; exact absurd hi (Nat.not_lt_zero _)))
      have h : ¬ (i : Int) < (@Nat.cast Int instNatCastInt n) := of_decide_eq_false (p := (i : Int) < (n : Int)) h
      have eU := und_flt (f := front) hO.s
      have hfl1 : (flt front R).length ≤ R.length := List.length_filter_le _ _
      have hfl2 : (underL R front).length ≤ R.length := by rw [eU]; exact hfl1
      have hok : ∀ x ∈ mkL R key, x.ok := mkL_ok (by omega)
      have hkl := mkL_len (L := R) (k := key)
      have q : leavesPre 115 4 (lenL (mkL R key)) (fun i j => (leafG true (mkL R key) i j).old) := leavesPre_old hok (by omega)
      refine Need.mk hPR fun _ => Need.mk ⟨hPR, hPRR⟩ fun _ => ?_
      refine Ife.mk (fun _ => ?_) (fun h5 => absurd h5 (by simp))
      refine Need.mk ⟨hPR, hO.s⟩ fun _ => Need.mk hPRR fun _ => Need.mk ⟨⟨rfl, rfl, prAt_prG _ _, by omega⟩, ⟨rfl, rfl, prAt_prG _ _, by omega⟩⟩ fun _ => ?_
      refine Ife.mk (fun _ => ?_) (fun h5 => absurd h5 (by simp [eU]))
      refine Need.mk ⟨ksAt_self, hPR, by rw [eP]; exact hO.z⟩ fun _ => Need.mk ⟨hPRR, by rw [eP]; exact hO.z⟩ fun _ => ?_
      refine Ife.mk (fun _ => ?_) (fun h5 => absurd h5 (by simp))
      refine Need.mk ⟨ksAt_self, hPR⟩ fun _ => Need.mk hPRR fun _ => Need.mk ⟨q, q⟩ fun _ => ?_
      exact ⟨[0, 1], ⟨rfl, (by repeat' (first | exact trivial | exact rfl | (simp; done) | apply And.intro)), (by show List.Nodup []; exact List.nodup_nil), rfl, by repeat' (first | exact trivial | exact hR1 | exact hR2 | exact hR3 | exact hR4 | exact hA1 | exact hA2 | exact hB1 | exact hB2 | exact rfl | apply And.intro | exact (fun _ _ _ _ => Cell.le_refl _) | (intro i hi; rfl) | (intro i hi; exact absurd hi (Nat.not_lt_zero _)))⟩⟩

end Go.Proofs.YthomoliklfmnkaaDoor.Vx
end

section
/- Acts that come in, opened. -/
namespace Go.Proofs.YthomoliklfmnkaaDoor.Vx
/-- An act's values. -/
def acVals (x : AC) : List Value := [.int .i64 x.1, .string ⟨x.2.1.toArray⟩, .string ⟨x.2.2.toArray⟩]
end Go.Proofs.YthomoliklfmnkaaDoor.Vx
namespace Go.Proofs.YthomoliklfmnkaaDoor
open Go.ChangeShapes Go.WideShapes Go.ChangeAt Go.RowKit
set_option linter.unusedVariables false
set_option linter.unusedSimpArgs false
section
variable {H : Type} {enc : TypeId × Value → H} {w : World} {base : Nat}
theorem cells_Acs : Tryd.prog.cellsOf 69 = 3 := by kernel_rfl
set_option maxRecDepth 100000 in
theorem open_Acs {v : Value} {d : DataW H} {p : List MemPlace} (hv : Value.okWide Tryd.prog w .any base 66 v) (h : DataW.Trod enc Tryd.prog w 0 (fun _ => true) true 66 v d p) :
    ∃ (a : Option Addr) (cap : Nat) (ls : List Vx.AC), v = .slice a ls.length cap ∧ SlIn w a 3 cap (ls.map Vx.acVals) := by
  obtain ⟨a, cap, xs, rfl, hs, hx⟩ := open_slice (sz := 3) (P := fun l => ∃ x : Vx.AC, l = Vx.acVals x) (by decide) Tryd.underlying66 cells_Acs (fun fuel l x hl => by
    obtain ⟨ys, m, _, _, hl2, hlen, hff⟩ := DataW.trod_struct Tryd.underlying69 hl
    rw [cells_Acs] at hl2
    match l, hl2 with
    | [c0, c1, c2], _ =>
      match ys, hlen with
      | [y0, y1, y2], _ =>
        have f0 := hff 0 _ rfl
        have f1 := hff 1 _ rfl
        have f2 := hff 2 _ rfl
        simp [cells_int, cells_string] at f0 f1 f2
        obtain ⟨n0, e0, _, _⟩ := DataW.trod_int Tryd.underlying3 f0
        obtain ⟨s1, e1, _, hs1⟩ := DataW.trod_string Tryd.underlying9 f1
        obtain ⟨s2, e2, _, hs2⟩ := DataW.trod_string Tryd.underlying9 f2
        simp at e0 e1 e2
        obtain ⟨n1, rfl, b1⟩ := bytesOf s1 hs1
        obtain ⟨n2, rfl, b2⟩ := bytesOf s2 hs2
        exact ⟨rfl, (n0, n1, n2), by simp [Vx.acVals, e0, e1, e2]⟩) hv h
  obtain ⟨f, hf⟩ : ∃ f : Nat → Vx.AC, ∀ i (hi : i < xs.length), xs[i] = Vx.acVals (f i) := by
    have key : ∀ i, ∃ n : Vx.AC, ∀ hi : i < xs.length, xs[i] = Vx.acVals n := fun i => by
      by_cases hi : i < xs.length
      · obtain ⟨n, e⟩ := (hx _ (List.getElem_mem hi)).2
        exact ⟨n, fun _ => e⟩
      · exact ⟨(0, [], []), fun h => absurd h hi⟩
    exact ⟨fun i => (key i).choose, fun i hi => (key i).choose_spec hi⟩
  have e : xs = ((List.range xs.length).map f).map Vx.acVals := by
    apply List.ext_getElem (by simp)
    intro i h1 h2
    simp [hf i h1]
  refine ⟨a, cap, (List.range xs.length).map f, by simp, ?_⟩
  rw [← e]
  exact hs
theorem Acs_good {w : World} {a : Option Addr} {cap : Nat} {ls : List Vx.AC} (hs : SlIn w a 3 cap (ls.map Vx.acVals)) : ∃ p : Vx.Pl, p.v = .slice a ls.length cap ∧ Vx.Good w 3 (ls.length, Vx.acG ls) p := by
  obtain ⟨p, hp, g⟩ := hs.good (get := Vx.acG ls) (fun i hi => by
    have hi' : i < ls.length := by simpa using hi
    rw [List.getElem_map]
    have e : ls.getD i (0, [], []) = ls[i] := by simp [List.getD, hi']
    unfold Vx.acG Vx.acGP Vx.acK Vx.acS Vx.acV
    rw [e]
    rfl)
  simp only [List.length_map] at hp g
  exact ⟨p, hp, g⟩
end
end Go.Proofs.YthomoliklfmnkaaDoor
end

section
/- StorePlays: what a law's call answers. -/
namespace Go.Proofs.YthomoliklfmnkaaDoor
open Go.RowKit
set_option linter.unusedVariables false
theorem storePlaysWalk (w : World) (hk : ∀ i, i < 64 → w.cell? ⟨0, i, none⟩ = some (.int .u32 (Sha.kOf i))) (p : Option Addr) (cap : Nat) (ls : List Vx.AC) (hs : SlIn w p 3 cap (ls.map Vx.acVals)) (s : ByteArray) (hs2 : s.size ≤ maxLen) (t : ByteArray) (ht2 : t.size ≤ maxLen) :
    Calls Tryd.prog 8 #[.slice p ls.length cap, .string s, .string t] w fun e w' => e = .returned (.bool true) ∧ Below w.heap.size w w' := by
  obtain ⟨b, rfl, hl⟩ := bytesOf s hs2
  obtain ⟨c, rfl, hl2⟩ := bytesOf t ht2
  obtain ⟨q, hq, gd⟩ := Acs_good hs
  rw [← hq]
  refine Calls.mono (Vx.storePlaysP.run [.c (.row 1), .c (.str b), .c (.str c)] [.glob 0 1 64 (fun i => [.int .u32 (Sha.kOf i)]), .elems 69 3 ls.length (Vx.acG ls)] _ _ _ rfl ⟨Vx.ksAt_self, rfl, rfl, Vx.acAt_acG _ _⟩ [⟨0, undef, 0⟩, q] w _ (Vx.Rel.addV (Vx.relGlob hk) 69 gd)
    ⟨_, _, rfl, (by obtain ⟨a', cap', e, _⟩ := gd.sl; simp [Vx.SV.is, Vx.CV.den, e, Vx.one] : Vx.SV.is [⟨0, undef, 0⟩, q] (.c (.row 1)) q.v), _, _, rfl, rfl, _, _, rfl, rfl, rfl⟩) fun e W' he => ?_
  obtain ⟨u, ρ', rfl, hu, hr⟩ := he
  obtain rfl : .bool true = u := Option.some.inj hu
  exact ⟨rfl, Vx.Rel.toBelow hr⟩
end Go.Proofs.YthomoliklfmnkaaDoor
end
