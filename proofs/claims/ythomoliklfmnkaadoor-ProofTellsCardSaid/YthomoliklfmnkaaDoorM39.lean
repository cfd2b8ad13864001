/- ProofTells, by the walker. -/
import Derived.Test.YthomoliklfmnkaaDoorM37
import Derived.Test.YthomoliklfmnkaaDoorM38
import Derived.Test.YthomoliklfmnkaaDoorM28
import Derived.Test.YthomoliklfmnkaaDoorM31
import Derived.Test.YthomoliklfmnkaaDoorM25
import Derived.Test.YthomoliklfmnkaaDoorM20
import Derived.Test.YthomoliklfmnkaaDoorM19
section
namespace Go.Proofs.YthomoliklfmnkaaDoor.Vx
open Sha
open Go.RowKit
set_option linter.unusedVariables false
set_option linter.unusedSimpArgs false
/-- The sums of a proof that comes in. -/
def RawP (K : List PLeaf) : Prop := ∀ x ∈ K, ∀ h ∈ x.p, h.length = 32 ∧ ∀ b ∈ h, 0 ≤ b ∧ b < 256
def ptPre (gg sz0 n0 : Nat) (get0 : Nat → List CV) (ty one n : Nat) (get : Nat → List CV) (root : List CV) (ty2 sz2 m : Nat) (get2 : Nat → Nat → Cell) : Prop := KsAt gg sz0 n0 get0 ∧ (ty = 46 ∧ one = 2 ∧ PrAt n get) ∧ HashC root ∧ leavesAt0 ty2 sz2 m get2 ∧ RawP (leafL m get2)
theorem light_ok {K : List PLeaf} (h : lightL K = true) (hr : RawP K) : K.length ≤ 5 ∧ ∀ x ∈ K, x.ok := by
  unfold lightL at h
  rw [Bool.and_eq_true, decide_eq_true_iff, List.all_eq_true] at h
  refine ⟨h.1, fun x hx => ?_⟩
  obtain ⟨i, hi, rfl⟩ := List.getElem_of_mem hx
  have hl := lightAt_iff.1 (h.2 i (List.mem_range.2 hi))
  have e : K.getD i .none = K[i] := by simp [List.getD, hi]
  unfold lK lV lN lP at hl
  rw [e] at hl
  exact ⟨by omega, by omega, by omega, hr _ hx⟩
def sTellsPf : SpecF
  | [.c (.row 1), .c (.str key), .c (.str val), .agg root, .agg [.int .i64 c, .row 2], .c (.bool own)], [.glob gg sz0 n0 get0, .elems ty one n get, .data fr ty2 sz2 m get2] => some (ptPre gg sz0 n0 get0 ty one n get root ty2 sz2 m get2, .c .tt, [.dead, .dead, .dead])
  | _, _ => none

set_option maxRecDepth 100000 in
set_option maxHeartbeats 32000000 in
theorem proofTellsP : Fn Tryd.prog 3 [0] [(46, 2), (115, 204)] sTellsPf := by
  have hC : CtsOk Tryd.prog [(13, appFn [0] [] sFirst7), (14, appFn [] [(46, 2)] sLtPr), (15, appFn [] [(115, 204)] sLightPr), (16, appFn [] [(46, 2)] sOwn), (17, appFn [] [(46, 2)] sRGood), (18, appFn [] [(63, 2)] sGood), (19, appFn [0] [(63, 2)] sPRoot), (20, appFn [] [(46, 2)] sRRtOf), (22, appFn [0] [(63, 2)] sMake), (23, appFn [] [(46, 2)] sRMake), (21, appFn [] [(115, 204), (115, 204)] sSamePr), (24, appFn [0] [(115, 204)] sVal), (25, appFn [] [(115, 204)] sRVal), (26, appFn [0] [(115, 204)] sHas), (27, appFn [] [(115, 204)] sRHas), (28, appFn [0] [(115, 204)] sLacks), (29, appFn [] [(115, 204)] sRLacks)] := CtsOk.cons (Fn.ct first7P) <| CtsOk.cons (Fn.ct ltPrP) <| CtsOk.cons (Fn.ct lightPrP) <| CtsOk.cons (Fn.ct ownPrP) <| CtsOk.cons (Fn.ct rgoodP) <| CtsOk.cons (Fn.ct goodP) <| CtsOk.cons (Fn.ct pRootP) <| CtsOk.cons (Fn.ct rrtOfP) <| CtsOk.cons (Fn.ct makeP) <| CtsOk.cons (Fn.ct rmakeP) <| CtsOk.cons (Fn.ct rsamePrP) <| CtsOk.cons (Fn.ct valPrP) <| CtsOk.cons (Fn.ct rvalPrP) <| CtsOk.cons (Fn.ct hasPrP) <| CtsOk.cons (Fn.ct rhasPrP) <| CtsOk.cons (Fn.ct lacksPrP) <| CtsOk.cons (Fn.ct rlacksPrP) <| CtsOk.nil _
  refine Fn.of (E := tbPf) [0] 0 [(13, [(0, true), (1, true), (2, true), (3, true), (4, true), (5, true), (6, true), (7, true), (8, true), (9, true), (10, true), (11, true), (12, true), (14, true), (15, true), (16, true), (17, true), (13, false), (18, false), (19, true), (20, true), (21, true), (22, true), (23, true), (24, true), (26, true), (27, true), (28, true), (25, false), (29, false), (30, true), (31, true), (32, true)])] tbPf_ok hC (by kernel_rfl) Tryd.func3 rfl rfl rfl (by kernel_rfl) (by kernel_rfl) 3 5 1 ?_ ?_
  · intro args h pre r h' hs
    unfold sTellsPf at hs
    split at hs
    · cases hs; exact ⟨rfl, rfl, Nat.le_of_ble_eq_true rfl⟩
    · cases hs
  · intro args h pre r h' hs hp
    unfold sTellsPf at hs
    split at hs
    rotate_left
    · cases hs
    rename_i key val root c own gg sz0 n0 get0 ty one n get fr ty2 sz2 m get2
    cases hs
    obtain ⟨hK, ⟨rfl, rfl, hst⟩, ⟨f, rfl, hf_⟩, ⟨rfl, rfl, hst2⟩, hraw⟩ := hp
    refine ⟨[.glob 0 1 64 (fun i => [.int .u32 (kOf i)]), .elems 46 2 n (prG (prL n get)), .data fr 115 4 m (leafG false (leafL m get2))], ⟨hK.same.1, ⟨rfl, rfl, rfl, fun i hi => hst.eq hi⟩, ⟨rfl, rfl, rfl, rfl, fun i j hi hj => by rw [hst2 i j hi hj]; exact Cell.le_refl _⟩, trivial⟩, ?_⟩
    clear hK
    have hL : (prL n get).length = n := prL_len
    have ePR : prL n (prG (prL n get)) = prL n get := by
      have := prL_prG (prL n get)
      rwa [hL] at this
    have hKm : (leafL m get2).length = m := leafL_len
    have eK0 : leafL m (fun i j => (leafG false (leafL m get2) i j).old) = leafL m get2 := leaves0 hst2
    generalize prL n get = L at hL ePR ⊢
    generalize leafL m get2 = K at hKm hraw eK0 ⊢
    have hHC : HashC (hashC f) := ⟨f, rfl, hf_⟩
    unfold hashC
    unfold sFirst7 sLtPr sLightPr sOwn sRGood sGood
    generalize hg0 : (List.length : List PP → Nat) = g0
    generalize hg1 : (List.length : List UInt8 → Nat) = g1
    generalize hg2 : @Vx.sVal = g2
    generalize hL : lft Tryd.prog _ = L
    try unfold prG
    try unfold leafG
    generalize ho0 : @prK = zo0, ho1 : @prV = zo1, ho2 : @prL = zo2, ho3 : @prPre = zo3, ho4 : @goodL = zo4, ho5 : @prPreR = zo5, ho6 : @KsAt = zo6, ho7 : @hOf = zo7, ho8 : @HashC = zo8, ho9 : @kOf = zo9, ho10 : @rootL = zo10, ho11 : @sumsPre = zo11, ho12 : @lK = zo12, ho13 : @lV = zo13, ho14 : @lI = zo14, ho15 : @lP = zo15, ho16 : @lN = zo16, ho17 : @pG = zo17, ho18 : @leafL = zo18, ho19 : @leavesPre = zo19, ho20 : @lightL = zo20, ho21 : @leavesAt0 = zo21, ho22 : @mkL = zo22, ho23 : @mkC = zo23, ho24 : @mkPre = zo24, ho25 : @lenL = zo25, ho26 : @valB = zo26, ho27 : @valV = zo27, ho28 : @lackB = zo28, ho29 : @vlPre = zo29, ho30 : @ltPrB = zo30, ho31 : @ltPre = zo31, ho32 : @rlvPre = zo32, ho33 : @rvlPre = zo33, ho34 : @ptPre = zo34
    generalize hs0 : @sPRoot = zs0, hs1 : @sRRtOf = zs1, hs2 : @sMake = zs2, hs3 : @sRMake = zs3, hs4 : @sSamePr = zs4
    generalize hA : Arith.std = A
    cbv
    subst hA hg0 hg1 hg2 hL ho0 ho1 ho2 ho3 ho4 ho5 ho6 ho7 ho8 ho9 ho10 ho11 ho12 ho13 ho14 ho15 ho16 ho17 ho18 ho19 ho20 ho21 ho22 ho23 ho24 ho25 ho26 ho27 ho28 ho29 ho30 ho31 ho32 ho33 ho34 hs0 hs1 hs2 hs3 hs4
    unfold sPRoot sRRtOf
    generalize hg0 : (List.length : List PP → Nat) = g0
    generalize hg1 : (List.length : List UInt8 → Nat) = g1
    generalize hg2 : @Vx.sVal = g2
    generalize hL : lft Tryd.prog _ = L
    try unfold prG
    try unfold leafG
    generalize ho0 : @prK = zo0, ho1 : @prV = zo1, ho2 : @prL = zo2, ho3 : @prPre = zo3, ho4 : @goodL = zo4, ho5 : @prPreR = zo5, ho6 : @KsAt = zo6, ho7 : @hOf = zo7, ho8 : @HashC = zo8, ho9 : @kOf = zo9, ho10 : @rootL = zo10, ho11 : @sumsPre = zo11, ho12 : @lK = zo12, ho13 : @lV = zo13, ho14 : @lI = zo14, ho15 : @lP = zo15, ho16 : @lN = zo16, ho17 : @pG = zo17, ho18 : @leafL = zo18, ho19 : @leavesPre = zo19, ho20 : @lightL = zo20, ho21 : @leavesAt0 = zo21, ho22 : @mkL = zo22, ho23 : @mkC = zo23, ho24 : @mkPre = zo24, ho25 : @lenL = zo25, ho26 : @valB = zo26, ho27 : @valV = zo27, ho28 : @lackB = zo28, ho29 : @vlPre = zo29, ho30 : @ltPrB = zo30, ho31 : @ltPre = zo31, ho32 : @rlvPre = zo32, ho33 : @rvlPre = zo33, ho34 : @ptPre = zo34
    generalize hs0 : @sMake = zs0, hs1 : @sRMake = zs1, hs2 : @sSamePr = zs2
    generalize hA : Arith.std = A
    cbv
    subst hA hg0 hg1 hg2 hL ho0 ho1 ho2 ho3 ho4 ho5 ho6 ho7 ho8 ho9 ho10 ho11 ho12 ho13 ho14 ho15 ho16 ho17 ho18 ho19 ho20 ho21 ho22 ho23 ho24 ho25 ho26 ho27 ho28 ho29 ho30 ho31 ho32 ho33 ho34 hs0 hs1 hs2
    unfold sMake
    generalize hg0 : (List.length : List PP → Nat) = g0
    generalize hg1 : (List.length : List UInt8 → Nat) = g1
    generalize hg2 : @Vx.sVal = g2
    generalize hL : lft Tryd.prog _ = L
    try unfold prG
    try unfold leafG
    generalize ho0 : @prK = zo0, ho1 : @prV = zo1, ho2 : @prL = zo2, ho3 : @prPre = zo3, ho4 : @goodL = zo4, ho5 : @prPreR = zo5, ho6 : @KsAt = zo6, ho7 : @hOf = zo7, ho8 : @HashC = zo8, ho9 : @kOf = zo9, ho10 : @rootL = zo10, ho11 : @sumsPre = zo11, ho12 : @lK = zo12, ho13 : @lV = zo13, ho14 : @lI = zo14, ho15 : @lP = zo15, ho16 : @lN = zo16, ho17 : @pG = zo17, ho18 : @leafL = zo18, ho19 : @leavesPre = zo19, ho20 : @lightL = zo20, ho21 : @leavesAt0 = zo21, ho22 : @mkL = zo22, ho23 : @mkC = zo23, ho24 : @mkPre = zo24, ho25 : @lenL = zo25, ho26 : @valB = zo26, ho27 : @valV = zo27, ho28 : @lackB = zo28, ho29 : @vlPre = zo29, ho30 : @ltPrB = zo30, ho31 : @ltPre = zo31, ho32 : @rlvPre = zo32, ho33 : @rvlPre = zo33, ho34 : @ptPre = zo34
    generalize hs0 : @sRMake = zs0, hs1 : @sSamePr = zs1
    generalize hA : Arith.std = A
    cbv
    subst hA hg0 hg1 hg2 hL ho0 ho1 ho2 ho3 ho4 ho5 ho6 ho7 ho8 ho9 ho10 ho11 ho12 ho13 ho14 ho15 ho16 ho17 ho18 ho19 ho20 ho21 ho22 ho23 ho24 ho25 ho26 ho27 ho28 ho29 ho30 ho31 ho32 ho33 ho34 hs0 hs1
    unfold sRMake
    generalize hg0 : (List.length : List PP → Nat) = g0
    generalize hg1 : (List.length : List UInt8 → Nat) = g1
    generalize hg2 : @Vx.sVal = g2
    generalize hL : lft Tryd.prog _ = L
    try unfold prG
    try unfold leafG
    generalize ho0 : @prK = zo0, ho1 : @prV = zo1, ho2 : @prL = zo2, ho3 : @prPre = zo3, ho4 : @goodL = zo4, ho5 : @prPreR = zo5, ho6 : @KsAt = zo6, ho7 : @hOf = zo7, ho8 : @HashC = zo8, ho9 : @kOf = zo9, ho10 : @rootL = zo10, ho11 : @sumsPre = zo11, ho12 : @lK = zo12, ho13 : @lV = zo13, ho14 : @lI = zo14, ho15 : @lP = zo15, ho16 : @lN = zo16, ho17 : @pG = zo17, ho18 : @leafL = zo18, ho19 : @leavesPre = zo19, ho20 : @lightL = zo20, ho21 : @leavesAt0 = zo21, ho22 : @mkL = zo22, ho23 : @mkC = zo23, ho24 : @mkPre = zo24, ho25 : @lenL = zo25, ho26 : @valB = zo26, ho27 : @valV = zo27, ho28 : @lackB = zo28, ho29 : @vlPre = zo29, ho30 : @ltPrB = zo30, ho31 : @ltPre = zo31, ho32 : @rlvPre = zo32, ho33 : @rvlPre = zo33, ho34 : @ptPre = zo34
    generalize hs0 : @sSamePr = zs0
    generalize hA : Arith.std = A
    cbv
    subst hA hg0 hg1 hg2 hL ho0 ho1 ho2 ho3 ho4 ho5 ho6 ho7 ho8 ho9 ho10 ho11 ho12 ho13 ho14 ho15 ho16 ho17 ho18 ho19 ho20 ho21 ho22 ho23 ho24 ho25 ho26 ho27 ho28 ho29 ho30 ho31 ho32 ho33 ho34 hs0
    unfold sSamePr
    generalize hg0 : (List.length : List PP → Nat) = g0
    generalize hg1 : (List.length : List UInt8 → Nat) = g1
    generalize hg2 : @Vx.sVal = g2
    generalize hL : lft Tryd.prog _ = L
    try unfold prG
    try unfold leafG
    generalize ho0 : @prK = zo0, ho1 : @prV = zo1, ho2 : @prL = zo2, ho3 : @prPre = zo3, ho4 : @goodL = zo4, ho5 : @prPreR = zo5, ho6 : @KsAt = zo6, ho7 : @hOf = zo7, ho8 : @HashC = zo8, ho9 : @kOf = zo9, ho10 : @rootL = zo10, ho11 : @sumsPre = zo11, ho12 : @lK = zo12, ho13 : @lV = zo13, ho14 : @lI = zo14, ho15 : @lP = zo15, ho16 : @lN = zo16, ho17 : @pG = zo17, ho18 : @leafL = zo18, ho19 : @leavesPre = zo19, ho20 : @lightL = zo20, ho21 : @leavesAt0 = zo21, ho22 : @mkL = zo22, ho23 : @mkC = zo23, ho24 : @mkPre = zo24, ho25 : @lenL = zo25, ho26 : @valB = zo26, ho27 : @valV = zo27, ho28 : @lackB = zo28, ho29 : @vlPre = zo29, ho30 : @ltPrB = zo30, ho31 : @ltPre = zo31, ho32 : @rlvPre = zo32, ho33 : @rvlPre = zo33, ho34 : @ptPre = zo34
    generalize hA : Arith.std = A
    cbv
    subst hA hg0 hg1 hg2 hL ho0 ho1 ho2 ho3 ho4 ho5 ho6 ho7 ho8 ho9 ho10 ho11 ho12 ho13 ho14 ho15 ho16 ho17 ho18 ho19 ho20 ho21 ho22 ho23 ho24 ho25 ho26 ho27 ho28 ho29 ho30 ho31 ho32 ho33 ho34
    refine Need.mk ksAt_self fun _ => Need.mk ⟨rfl, rfl, prAt_prG n L⟩ fun _ => ?_
    simp only [Int.ofNat_eq_natCast, Int.toNat_natCast, ePR, eK0]
    refine Ife.mk (fun h => ?_) (fun h => ?_)
    · refine Need.mk ksAt_self fun _ => ?_
      exact ⟨[0, 1, 2], ⟨rfl, (by repeat' (first | exact trivial | exact rfl | apply And.intro | exact (fun _ _ _ _ => Cell.le_refl _) | (intro i hi; rfl) | (intro i hi; exact absurd hi (Nat.not_lt_zero _)))), (by show List.Nodup []; exact List.nodup_nil), rfl, by repeat' (first | exact trivial | exact rfl | apply And.intro | exact (fun _ _ _ _ => Cell.le_refl _) | (intro i hi; rfl) | (intro i hi; exact absurd hi (Nat.not_lt_zero _)))⟩⟩
    have hlt : ltPrB L = true := by simpa [Arith.std] using h
    clear h
    obtain ⟨hL40, hlL⟩ := ltPrB_iff.1 hlt
    have hn40 : n ≤ 40 := by omega
    refine Need.mk (leavesAt0_of eK0) fun _ => ?_
    refine Ife.mk (fun h => ?_) (fun h => ?_)
    · refine Need.mk ksAt_self fun _ => ?_
      exact ⟨[0, 1, 2], ⟨rfl, (by repeat' (first | exact trivial | exact rfl | apply And.intro | exact (fun _ _ _ _ => Cell.le_refl _) | (intro i hi; rfl) | (intro i hi; exact absurd hi (Nat.not_lt_zero _)))), (by show List.Nodup []; exact List.nodup_nil), rfl, by repeat' (first | exact trivial | exact rfl | apply And.intro | exact (fun _ _ _ _ => Cell.le_refl _) | (intro i hi; rfl) | (intro i hi; exact absurd hi (Nat.not_lt_zero _)))⟩⟩
    have hlp : lightL K = true := by simpa [Arith.std] using h
    clear h
    obtain ⟨hK5, hKok⟩ := light_ok hlp hraw
    refine Ife.mk (fun h => ?_) (fun c1 => ?_)
    · refine Need.mk ksAt_self fun _ => ?_
      exact ⟨[0, 1, 2], ⟨rfl, (by repeat' (first | exact trivial | exact rfl | apply And.intro | exact (fun _ _ _ _ => Cell.le_refl _) | (intro i hi; rfl) | (intro i hi; exact absurd hi (Nat.not_lt_zero _)))), (by show List.Nodup []; exact List.nodup_nil), rfl, by repeat' (first | exact trivial | exact rfl | apply And.intro | exact (fun _ _ _ _ => Cell.le_refl _) | (intro i hi; rfl) | (intro i hi; exact absurd hi (Nat.not_lt_zero _)))⟩⟩
    refine Ife.mk (fun h => ?_) (fun c2 => ?_)
    · refine Need.mk ksAt_self fun _ => ?_
      exact ⟨[0, 1, 2], ⟨rfl, (by repeat' (first | exact trivial | exact rfl | apply And.intro | exact (fun _ _ _ _ => Cell.le_refl _) | (intro i hi; rfl) | (intro i hi; exact absurd hi (Nat.not_lt_zero _)))), (by show List.Nodup []; exact List.nodup_nil), rfl, by repeat' (first | exact trivial | exact rfl | apply And.intro | exact (fun _ _ _ _ => Cell.le_refl _) | (intro i hi; rfl) | (intro i hi; exact absurd hi (Nat.not_lt_zero _)))⟩⟩
    have hPRR : prPreR 46 2 n (prG L) := ⟨rfl, rfl, prAt_prG n L, by omega⟩
    have hPR : prPre 63 2 n (prG L) := ⟨rfl, rfl, prAt_prG n L, by omega⟩
    refine Need.mk hPRR fun _ => Need.mk hPRR fun _ => Need.mk hPR fun _ => ?_
    have q : leavesPre 115 4 m (fun i j => (leafG false K i j).old) := by rw [← hKm]; exact leavesPre_old hKok (by omega)
    have hok : ∀ x ∈ mkL L key, x.ok := mkL_ok (by omega)
    have hkl := mkL_len (L := L) (k := key)
    have qm : leavesPre 115 4 (lenL (mkL L key)) (fun i j => (leafG true (mkL L key) i j).old) := leavesPre_old hok (by omega)
    have hMk : mkPre 0 1 64 (fun i => [.int .u32 (kOf i)]) 63 2 n (prG L) := ⟨ksAt_self, hPR⟩
    refine Ife.mk (fun h5 => absurd h5 (by simp [Arith.std])) (fun _ => ?_)
    refine Ife.mk (fun hg => ?_) (fun hg => ?_)
    · have hg : goodL L = true := hg
      have hz := (goodL_iff.1 hg).2
      have hrl : rlvPre 46 2 n (prG L) := ⟨hPRR, by rw [ePR]; exact hz⟩
      refine Need.mk ⟨ksAt_self, hPR, by rw [ePR]; exact hz⟩ fun _ => Need.mk hrl fun _ => ?_
      refine Ife.mk (fun h5 => absurd h5 (by simp [Arith.std])) (fun _ => ?_)
      refine Need.mk hMk fun _ => Need.mk hPRR fun _ => Need.mk ⟨qm, qm⟩ fun _ => ?_
      refine Ife.mk (fun h5 => absurd h5 (by simp [Arith.std])) (fun _ => ?_)
      refine Ife.mk (fun ho => ?_) (fun ho => ?_)
      · refine Ife.mk (fun _ => ?_) (fun h5 => absurd (hg.symm.trans h5) (by simp))
        refine Need.mk hrl fun _ => ?_
        unfold sVal sRVal sRHas sRLacks
        generalize hg0 : (List.length : List PP → Nat) = g0
        generalize hg1 : (List.length : List UInt8 → Nat) = g1
        generalize hL : lft Tryd.prog _ = L
        try unfold prG
        try unfold leafG
        generalize ho0 : @prK = zo0, ho1 : @prV = zo1, ho2 : @prL = zo2, ho3 : @prPre = zo3, ho4 : @goodL = zo4, ho5 : @prPreR = zo5, ho6 : @KsAt = zo6, ho7 : @hOf = zo7, ho8 : @HashC = zo8, ho9 : @kOf = zo9, ho10 : @rootL = zo10, ho11 : @sumsPre = zo11, ho12 : @lK = zo12, ho13 : @lV = zo13, ho14 : @lI = zo14, ho15 : @lP = zo15, ho16 : @lN = zo16, ho17 : @pG = zo17, ho18 : @leafL = zo18, ho19 : @leavesPre = zo19, ho20 : @lightL = zo20, ho21 : @leavesAt0 = zo21, ho22 : @mkL = zo22, ho23 : @mkC = zo23, ho24 : @mkPre = zo24, ho25 : @lenL = zo25, ho26 : @valB = zo26, ho27 : @valV = zo27, ho28 : @lackB = zo28, ho29 : @vlPre = zo29, ho30 : @ltPrB = zo30, ho31 : @ltPre = zo31, ho32 : @rlvPre = zo32, ho33 : @rvlPre = zo33, ho34 : @ptPre = zo34
        generalize hs0 : @sHas = zs0, hs1 : @sLacks = zs1
        generalize hA : Arith.std = A
        cbv
        subst hA hg0 hg1 hL ho0 ho1 ho2 ho3 ho4 ho5 ho6 ho7 ho8 ho9 ho10 ho11 ho12 ho13 ho14 ho15 ho16 ho17 ho18 ho19 ho20 ho21 ho22 ho23 ho24 ho25 ho26 ho27 ho28 ho29 ho30 ho31 ho32 ho33 ho34 hs0 hs1
        unfold sHas
        generalize hg0 : (List.length : List PP → Nat) = g0
        generalize hg1 : (List.length : List UInt8 → Nat) = g1
        generalize hL : lft Tryd.prog _ = L
        try unfold prG
        try unfold leafG
        generalize ho0 : @prK = zo0, ho1 : @prV = zo1, ho2 : @prL = zo2, ho3 : @prPre = zo3, ho4 : @goodL = zo4, ho5 : @prPreR = zo5, ho6 : @KsAt = zo6, ho7 : @hOf = zo7, ho8 : @HashC = zo8, ho9 : @kOf = zo9, ho10 : @rootL = zo10, ho11 : @sumsPre = zo11, ho12 : @lK = zo12, ho13 : @lV = zo13, ho14 : @lI = zo14, ho15 : @lP = zo15, ho16 : @lN = zo16, ho17 : @pG = zo17, ho18 : @leafL = zo18, ho19 : @leavesPre = zo19, ho20 : @lightL = zo20, ho21 : @leavesAt0 = zo21, ho22 : @mkL = zo22, ho23 : @mkC = zo23, ho24 : @mkPre = zo24, ho25 : @lenL = zo25, ho26 : @valB = zo26, ho27 : @valV = zo27, ho28 : @lackB = zo28, ho29 : @vlPre = zo29, ho30 : @ltPrB = zo30, ho31 : @ltPre = zo31, ho32 : @rlvPre = zo32, ho33 : @rvlPre = zo33, ho34 : @ptPre = zo34
        generalize hs0 : @sLacks = zs0
        generalize hA : Arith.std = A
        cbv
        subst hA hg0 hg1 hL ho0 ho1 ho2 ho3 ho4 ho5 ho6 ho7 ho8 ho9 ho10 ho11 ho12 ho13 ho14 ho15 ho16 ho17 ho18 ho19 ho20 ho21 ho22 ho23 ho24 ho25 ho26 ho27 ho28 ho29 ho30 ho31 ho32 ho33 ho34 hs0
        unfold sLacks
        generalize hg0 : (List.length : List PP → Nat) = g0
        generalize hg1 : (List.length : List UInt8 → Nat) = g1
        generalize hL : lft Tryd.prog _ = L
        try unfold prG
        try unfold leafG
        generalize ho0 : @prK = zo0, ho1 : @prV = zo1, ho2 : @prL = zo2, ho3 : @prPre = zo3, ho4 : @goodL = zo4, ho5 : @prPreR = zo5, ho6 : @KsAt = zo6, ho7 : @hOf = zo7, ho8 : @HashC = zo8, ho9 : @kOf = zo9, ho10 : @rootL = zo10, ho11 : @sumsPre = zo11, ho12 : @lK = zo12, ho13 : @lV = zo13, ho14 : @lI = zo14, ho15 : @lP = zo15, ho16 : @lN = zo16, ho17 : @pG = zo17, ho18 : @leafL = zo18, ho19 : @leavesPre = zo19, ho20 : @lightL = zo20, ho21 : @leavesAt0 = zo21, ho22 : @mkL = zo22, ho23 : @mkC = zo23, ho24 : @mkPre = zo24, ho25 : @lenL = zo25, ho26 : @valB = zo26, ho27 : @valV = zo27, ho28 : @lackB = zo28, ho29 : @vlPre = zo29, ho30 : @ltPrB = zo30, ho31 : @ltPre = zo31, ho32 : @rlvPre = zo32, ho33 : @rvlPre = zo33, ho34 : @ptPre = zo34
        generalize hA : Arith.std = A
        cbv
        subst hA hg0 hg1 hL ho0 ho1 ho2 ho3 ho4 ho5 ho6 ho7 ho8 ho9 ho10 ho11 ho12 ho13 ho14 ho15 ho16 ho17 ho18 ho19 ho20 ho21 ho22 ho23 ho24 ho25 ho26 ho27 ho28 ho29 ho30 ho31 ho32 ho33 ho34
        simp only [Arith.std, Int.ofNat_eq_natCast, Int.toNat_natCast, ePR, eK0]
        have hRR : HashC (hashC (rootL L)) := ⟨rootL L, rfl, rootL_range L⟩
        refine Need.mk ⟨ksAt_self, hRR, q⟩ fun _ => Need.mk ⟨hRR, q⟩ fun _ => ?_
        refine Ife.mk (fun _ => ?_) (fun h5 => absurd h5 (by simp))
        refine Ife.mk (fun _ => ?_) (fun h5 => absurd h5 (by simp))
        refine Need.mk ⟨ksAt_self, hRR, q⟩ fun _ => Need.mk ⟨hRR, q⟩ fun _ => ?_
        refine Ife.mk (fun _ => ?_) (fun h5 => absurd h5 (by simp))
        refine Need.mk ⟨ksAt_self, hRR, q⟩ fun _ => Need.mk ⟨hRR, q⟩ fun _ => ?_
        have hbb : ∀ b : Bool, (b == b) = true := fun b => by simp
        exact ⟨[0, 1, 2], ⟨rfl, (by repeat' (first | exact trivial | exact rfl | exact hbb _ | (simp; done) | apply And.intro)), (by show List.Nodup []; exact List.nodup_nil), rfl, by repeat' (first | exact trivial | exact rfl | apply And.intro | exact (fun _ _ _ _ => Cell.le_refl _) | (intro i hi; rfl) | (intro i hi; exact absurd hi (Nat.not_lt_zero _)))⟩⟩
      · skip
        unfold sVal sRVal sRHas sRLacks
        generalize hg0 : (List.length : List PP → Nat) = g0
        generalize hg1 : (List.length : List UInt8 → Nat) = g1
        generalize hL : lft Tryd.prog _ = L
        try unfold prG
        try unfold leafG
        generalize ho0 : @prK = zo0, ho1 : @prV = zo1, ho2 : @prL = zo2, ho3 : @prPre = zo3, ho4 : @goodL = zo4, ho5 : @prPreR = zo5, ho6 : @KsAt = zo6, ho7 : @hOf = zo7, ho8 : @HashC = zo8, ho9 : @kOf = zo9, ho10 : @rootL = zo10, ho11 : @sumsPre = zo11, ho12 : @lK = zo12, ho13 : @lV = zo13, ho14 : @lI = zo14, ho15 : @lP = zo15, ho16 : @lN = zo16, ho17 : @pG = zo17, ho18 : @leafL = zo18, ho19 : @leavesPre = zo19, ho20 : @lightL = zo20, ho21 : @leavesAt0 = zo21, ho22 : @mkL = zo22, ho23 : @mkC = zo23, ho24 : @mkPre = zo24, ho25 : @lenL = zo25, ho26 : @valB = zo26, ho27 : @valV = zo27, ho28 : @lackB = zo28, ho29 : @vlPre = zo29, ho30 : @ltPrB = zo30, ho31 : @ltPre = zo31, ho32 : @rlvPre = zo32, ho33 : @rvlPre = zo33, ho34 : @ptPre = zo34
        generalize hs0 : @sHas = zs0, hs1 : @sLacks = zs1
        generalize hA : Arith.std = A
        cbv
        subst hA hg0 hg1 hL ho0 ho1 ho2 ho3 ho4 ho5 ho6 ho7 ho8 ho9 ho10 ho11 ho12 ho13 ho14 ho15 ho16 ho17 ho18 ho19 ho20 ho21 ho22 ho23 ho24 ho25 ho26 ho27 ho28 ho29 ho30 ho31 ho32 ho33 ho34 hs0 hs1
        unfold sHas
        generalize hg0 : (List.length : List PP → Nat) = g0
        generalize hg1 : (List.length : List UInt8 → Nat) = g1
        generalize hL : lft Tryd.prog _ = L
        try unfold prG
        try unfold leafG
        generalize ho0 : @prK = zo0, ho1 : @prV = zo1, ho2 : @prL = zo2, ho3 : @prPre = zo3, ho4 : @goodL = zo4, ho5 : @prPreR = zo5, ho6 : @KsAt = zo6, ho7 : @hOf = zo7, ho8 : @HashC = zo8, ho9 : @kOf = zo9, ho10 : @rootL = zo10, ho11 : @sumsPre = zo11, ho12 : @lK = zo12, ho13 : @lV = zo13, ho14 : @lI = zo14, ho15 : @lP = zo15, ho16 : @lN = zo16, ho17 : @pG = zo17, ho18 : @leafL = zo18, ho19 : @leavesPre = zo19, ho20 : @lightL = zo20, ho21 : @leavesAt0 = zo21, ho22 : @mkL = zo22, ho23 : @mkC = zo23, ho24 : @mkPre = zo24, ho25 : @lenL = zo25, ho26 : @valB = zo26, ho27 : @valV = zo27, ho28 : @lackB = zo28, ho29 : @vlPre = zo29, ho30 : @ltPrB = zo30, ho31 : @ltPre = zo31, ho32 : @rlvPre = zo32, ho33 : @rvlPre = zo33, ho34 : @ptPre = zo34
        generalize hs0 : @sLacks = zs0
        generalize hA : Arith.std = A
        cbv
        subst hA hg0 hg1 hL ho0 ho1 ho2 ho3 ho4 ho5 ho6 ho7 ho8 ho9 ho10 ho11 ho12 ho13 ho14 ho15 ho16 ho17 ho18 ho19 ho20 ho21 ho22 ho23 ho24 ho25 ho26 ho27 ho28 ho29 ho30 ho31 ho32 ho33 ho34 hs0
        unfold sLacks
        generalize hg0 : (List.length : List PP → Nat) = g0
        generalize hg1 : (List.length : List UInt8 → Nat) = g1
        generalize hL : lft Tryd.prog _ = L
        try unfold prG
        try unfold leafG
        generalize ho0 : @prK = zo0, ho1 : @prV = zo1, ho2 : @prL = zo2, ho3 : @prPre = zo3, ho4 : @goodL = zo4, ho5 : @prPreR = zo5, ho6 : @KsAt = zo6, ho7 : @hOf = zo7, ho8 : @HashC = zo8, ho9 : @kOf = zo9, ho10 : @rootL = zo10, ho11 : @sumsPre = zo11, ho12 : @lK = zo12, ho13 : @lV = zo13, ho14 : @lI = zo14, ho15 : @lP = zo15, ho16 : @lN = zo16, ho17 : @pG = zo17, ho18 : @leafL = zo18, ho19 : @leavesPre = zo19, ho20 : @lightL = zo20, ho21 : @leavesAt0 = zo21, ho22 : @mkL = zo22, ho23 : @mkC = zo23, ho24 : @mkPre = zo24, ho25 : @lenL = zo25, ho26 : @valB = zo26, ho27 : @valV = zo27, ho28 : @lackB = zo28, ho29 : @vlPre = zo29, ho30 : @ltPrB = zo30, ho31 : @ltPre = zo31, ho32 : @rlvPre = zo32, ho33 : @rvlPre = zo33, ho34 : @ptPre = zo34
        generalize hA : Arith.std = A
        cbv
        subst hA hg0 hg1 hL ho0 ho1 ho2 ho3 ho4 ho5 ho6 ho7 ho8 ho9 ho10 ho11 ho12 ho13 ho14 ho15 ho16 ho17 ho18 ho19 ho20 ho21 ho22 ho23 ho24 ho25 ho26 ho27 ho28 ho29 ho30 ho31 ho32 ho33 ho34
        simp only [Arith.std, Int.ofNat_eq_natCast, Int.toNat_natCast, ePR, eK0]
        have hRR : HashC (hashC f) := hHC
        refine Need.mk ⟨ksAt_self, hRR, q⟩ fun _ => Need.mk ⟨hRR, q⟩ fun _ => ?_
        refine Ife.mk (fun _ => ?_) (fun h5 => absurd h5 (by simp))
        refine Ife.mk (fun _ => ?_) (fun h5 => absurd h5 (by simp))
        refine Need.mk ⟨ksAt_self, hRR, q⟩ fun _ => Need.mk ⟨hRR, q⟩ fun _ => ?_
        refine Ife.mk (fun _ => ?_) (fun h5 => absurd h5 (by simp))
        refine Need.mk ⟨ksAt_self, hRR, q⟩ fun _ => Need.mk ⟨hRR, q⟩ fun _ => ?_
        have hbb : ∀ b : Bool, (b == b) = true := fun b => by simp
        exact ⟨[0, 1, 2], ⟨rfl, (by repeat' (first | exact trivial | exact rfl | exact hbb _ | (simp; done) | apply And.intro)), (by show List.Nodup []; exact List.nodup_nil), rfl, by repeat' (first | exact trivial | exact rfl | apply And.intro | exact (fun _ _ _ _ => Cell.le_refl _) | (intro i hi; rfl) | (intro i hi; exact absurd hi (Nat.not_lt_zero _)))⟩⟩
    · have hg : goodL L = false := hg
      refine Need.mk hMk fun _ => Need.mk hPRR fun _ => Need.mk ⟨qm, qm⟩ fun _ => ?_
      refine Ife.mk (fun h5 => absurd h5 (by simp [Arith.std])) (fun _ => ?_)
      refine Ife.mk (fun ho => ?_) (fun ho => ?_)
      · refine Ife.mk (fun h5 => absurd (hg.symm.trans h5) (by simp)) (fun _ => ?_)
        unfold sVal sRVal sRHas sRLacks
        generalize hg0 : (List.length : List PP → Nat) = g0
        generalize hg1 : (List.length : List UInt8 → Nat) = g1
        generalize hL : lft Tryd.prog _ = L
        try unfold prG
        try unfold leafG
        generalize ho0 : @prK = zo0, ho1 : @prV = zo1, ho2 : @prL = zo2, ho3 : @prPre = zo3, ho4 : @goodL = zo4, ho5 : @prPreR = zo5, ho6 : @KsAt = zo6, ho7 : @hOf = zo7, ho8 : @HashC = zo8, ho9 : @kOf = zo9, ho10 : @rootL = zo10, ho11 : @sumsPre = zo11, ho12 : @lK = zo12, ho13 : @lV = zo13, ho14 : @lI = zo14, ho15 : @lP = zo15, ho16 : @lN = zo16, ho17 : @pG = zo17, ho18 : @leafL = zo18, ho19 : @leavesPre = zo19, ho20 : @lightL = zo20, ho21 : @leavesAt0 = zo21, ho22 : @mkL = zo22, ho23 : @mkC = zo23, ho24 : @mkPre = zo24, ho25 : @lenL = zo25, ho26 : @valB = zo26, ho27 : @valV = zo27, ho28 : @lackB = zo28, ho29 : @vlPre = zo29, ho30 : @ltPrB = zo30, ho31 : @ltPre = zo31, ho32 : @rlvPre = zo32, ho33 : @rvlPre = zo33, ho34 : @ptPre = zo34
        generalize hs0 : @sHas = zs0, hs1 : @sLacks = zs1
        generalize hA : Arith.std = A
        cbv
        subst hA hg0 hg1 hL ho0 ho1 ho2 ho3 ho4 ho5 ho6 ho7 ho8 ho9 ho10 ho11 ho12 ho13 ho14 ho15 ho16 ho17 ho18 ho19 ho20 ho21 ho22 ho23 ho24 ho25 ho26 ho27 ho28 ho29 ho30 ho31 ho32 ho33 ho34 hs0 hs1
        unfold sHas
        generalize hg0 : (List.length : List PP → Nat) = g0
        generalize hg1 : (List.length : List UInt8 → Nat) = g1
        generalize hL : lft Tryd.prog _ = L
        try unfold prG
        try unfold leafG
        generalize ho0 : @prK = zo0, ho1 : @prV = zo1, ho2 : @prL = zo2, ho3 : @prPre = zo3, ho4 : @goodL = zo4, ho5 : @prPreR = zo5, ho6 : @KsAt = zo6, ho7 : @hOf = zo7, ho8 : @HashC = zo8, ho9 : @kOf = zo9, ho10 : @rootL = zo10, ho11 : @sumsPre = zo11, ho12 : @lK = zo12, ho13 : @lV = zo13, ho14 : @lI = zo14, ho15 : @lP = zo15, ho16 : @lN = zo16, ho17 : @pG = zo17, ho18 : @leafL = zo18, ho19 : @leavesPre = zo19, ho20 : @lightL = zo20, ho21 : @leavesAt0 = zo21, ho22 : @mkL = zo22, ho23 : @mkC = zo23, ho24 : @mkPre = zo24, ho25 : @lenL = zo25, ho26 : @valB = zo26, ho27 : @valV = zo27, ho28 : @lackB = zo28, ho29 : @vlPre = zo29, ho30 : @ltPrB = zo30, ho31 : @ltPre = zo31, ho32 : @rlvPre = zo32, ho33 : @rvlPre = zo33, ho34 : @ptPre = zo34
        generalize hs0 : @sLacks = zs0
        generalize hA : Arith.std = A
        cbv
        subst hA hg0 hg1 hL ho0 ho1 ho2 ho3 ho4 ho5 ho6 ho7 ho8 ho9 ho10 ho11 ho12 ho13 ho14 ho15 ho16 ho17 ho18 ho19 ho20 ho21 ho22 ho23 ho24 ho25 ho26 ho27 ho28 ho29 ho30 ho31 ho32 ho33 ho34 hs0
        unfold sLacks
        generalize hg0 : (List.length : List PP → Nat) = g0
        generalize hg1 : (List.length : List UInt8 → Nat) = g1
        generalize hL : lft Tryd.prog _ = L
        try unfold prG
        try unfold leafG
        generalize ho0 : @prK = zo0, ho1 : @prV = zo1, ho2 : @prL = zo2, ho3 : @prPre = zo3, ho4 : @goodL = zo4, ho5 : @prPreR = zo5, ho6 : @KsAt = zo6, ho7 : @hOf = zo7, ho8 : @HashC = zo8, ho9 : @kOf = zo9, ho10 : @rootL = zo10, ho11 : @sumsPre = zo11, ho12 : @lK = zo12, ho13 : @lV = zo13, ho14 : @lI = zo14, ho15 : @lP = zo15, ho16 : @lN = zo16, ho17 : @pG = zo17, ho18 : @leafL = zo18, ho19 : @leavesPre = zo19, ho20 : @lightL = zo20, ho21 : @leavesAt0 = zo21, ho22 : @mkL = zo22, ho23 : @mkC = zo23, ho24 : @mkPre = zo24, ho25 : @lenL = zo25, ho26 : @valB = zo26, ho27 : @valV = zo27, ho28 : @lackB = zo28, ho29 : @vlPre = zo29, ho30 : @ltPrB = zo30, ho31 : @ltPre = zo31, ho32 : @rlvPre = zo32, ho33 : @rvlPre = zo33, ho34 : @ptPre = zo34
        generalize hA : Arith.std = A
        cbv
        subst hA hg0 hg1 hL ho0 ho1 ho2 ho3 ho4 ho5 ho6 ho7 ho8 ho9 ho10 ho11 ho12 ho13 ho14 ho15 ho16 ho17 ho18 ho19 ho20 ho21 ho22 ho23 ho24 ho25 ho26 ho27 ho28 ho29 ho30 ho31 ho32 ho33 ho34
        simp only [Arith.std, Int.ofNat_eq_natCast, Int.toNat_natCast, ePR, eK0]
        have hRR : HashC (hashC f) := hHC
        refine Need.mk ⟨ksAt_self, hRR, q⟩ fun _ => Need.mk ⟨hRR, q⟩ fun _ => ?_
        refine Ife.mk (fun _ => ?_) (fun h5 => absurd h5 (by simp))
        refine Ife.mk (fun _ => ?_) (fun h5 => absurd h5 (by simp))
        refine Need.mk ⟨ksAt_self, hRR, q⟩ fun _ => Need.mk ⟨hRR, q⟩ fun _ => ?_
        refine Ife.mk (fun _ => ?_) (fun h5 => absurd h5 (by simp))
        refine Need.mk ⟨ksAt_self, hRR, q⟩ fun _ => Need.mk ⟨hRR, q⟩ fun _ => ?_
        have hbb : ∀ b : Bool, (b == b) = true := fun b => by simp
        exact ⟨[0, 1, 2], ⟨rfl, (by repeat' (first | exact trivial | exact rfl | exact hbb _ | (simp; done) | apply And.intro)), (by show List.Nodup []; exact List.nodup_nil), rfl, by repeat' (first | exact trivial | exact rfl | apply And.intro | exact (fun _ _ _ _ => Cell.le_refl _) | (intro i hi; rfl) | (intro i hi; exact absurd hi (Nat.not_lt_zero _)))⟩⟩
      · skip
        unfold sVal sRVal sRHas sRLacks
        generalize hg0 : (List.length : List PP → Nat) = g0
        generalize hg1 : (List.length : List UInt8 → Nat) = g1
        generalize hL : lft Tryd.prog _ = L
        try unfold prG
        try unfold leafG
        generalize ho0 : @prK = zo0, ho1 : @prV = zo1, ho2 : @prL = zo2, ho3 : @prPre = zo3, ho4 : @goodL = zo4, ho5 : @prPreR = zo5, ho6 : @KsAt = zo6, ho7 : @hOf = zo7, ho8 : @HashC = zo8, ho9 : @kOf = zo9, ho10 : @rootL = zo10, ho11 : @sumsPre = zo11, ho12 : @lK = zo12, ho13 : @lV = zo13, ho14 : @lI = zo14, ho15 : @lP = zo15, ho16 : @lN = zo16, ho17 : @pG = zo17, ho18 : @leafL = zo18, ho19 : @leavesPre = zo19, ho20 : @lightL = zo20, ho21 : @leavesAt0 = zo21, ho22 : @mkL = zo22, ho23 : @mkC = zo23, ho24 : @mkPre = zo24, ho25 : @lenL = zo25, ho26 : @valB = zo26, ho27 : @valV = zo27, ho28 : @lackB = zo28, ho29 : @vlPre = zo29, ho30 : @ltPrB = zo30, ho31 : @ltPre = zo31, ho32 : @rlvPre = zo32, ho33 : @rvlPre = zo33, ho34 : @ptPre = zo34
        generalize hs0 : @sHas = zs0, hs1 : @sLacks = zs1
        generalize hA : Arith.std = A
        cbv
        subst hA hg0 hg1 hL ho0 ho1 ho2 ho3 ho4 ho5 ho6 ho7 ho8 ho9 ho10 ho11 ho12 ho13 ho14 ho15 ho16 ho17 ho18 ho19 ho20 ho21 ho22 ho23 ho24 ho25 ho26 ho27 ho28 ho29 ho30 ho31 ho32 ho33 ho34 hs0 hs1
        unfold sHas
        generalize hg0 : (List.length : List PP → Nat) = g0
        generalize hg1 : (List.length : List UInt8 → Nat) = g1
        generalize hL : lft Tryd.prog _ = L
        try unfold prG
        try unfold leafG
        generalize ho0 : @prK = zo0, ho1 : @prV = zo1, ho2 : @prL = zo2, ho3 : @prPre = zo3, ho4 : @goodL = zo4, ho5 : @prPreR = zo5, ho6 : @KsAt = zo6, ho7 : @hOf = zo7, ho8 : @HashC = zo8, ho9 : @kOf = zo9, ho10 : @rootL = zo10, ho11 : @sumsPre = zo11, ho12 : @lK = zo12, ho13 : @lV = zo13, ho14 : @lI = zo14, ho15 : @lP = zo15, ho16 : @lN = zo16, ho17 : @pG = zo17, ho18 : @leafL = zo18, ho19 : @leavesPre = zo19, ho20 : @lightL = zo20, ho21 : @leavesAt0 = zo21, ho22 : @mkL = zo22, ho23 : @mkC = zo23, ho24 : @mkPre = zo24, ho25 : @lenL = zo25, ho26 : @valB = zo26, ho27 : @valV = zo27, ho28 : @lackB = zo28, ho29 : @vlPre = zo29, ho30 : @ltPrB = zo30, ho31 : @ltPre = zo31, ho32 : @rlvPre = zo32, ho33 : @rvlPre = zo33, ho34 : @ptPre = zo34
        generalize hs0 : @sLacks = zs0
        generalize hA : Arith.std = A
        cbv
        subst hA hg0 hg1 hL ho0 ho1 ho2 ho3 ho4 ho5 ho6 ho7 ho8 ho9 ho10 ho11 ho12 ho13 ho14 ho15 ho16 ho17 ho18 ho19 ho20 ho21 ho22 ho23 ho24 ho25 ho26 ho27 ho28 ho29 ho30 ho31 ho32 ho33 ho34 hs0
        unfold sLacks
        generalize hg0 : (List.length : List PP → Nat) = g0
        generalize hg1 : (List.length : List UInt8 → Nat) = g1
        generalize hL : lft Tryd.prog _ = L
        try unfold prG
        try unfold leafG
        generalize ho0 : @prK = zo0, ho1 : @prV = zo1, ho2 : @prL = zo2, ho3 : @prPre = zo3, ho4 : @goodL = zo4, ho5 : @prPreR = zo5, ho6 : @KsAt = zo6, ho7 : @hOf = zo7, ho8 : @HashC = zo8, ho9 : @kOf = zo9, ho10 : @rootL = zo10, ho11 : @sumsPre = zo11, ho12 : @lK = zo12, ho13 : @lV = zo13, ho14 : @lI = zo14, ho15 : @lP = zo15, ho16 : @lN = zo16, ho17 : @pG = zo17, ho18 : @leafL = zo18, ho19 : @leavesPre = zo19, ho20 : @lightL = zo20, ho21 : @leavesAt0 = zo21, ho22 : @mkL = zo22, ho23 : @mkC = zo23, ho24 : @mkPre = zo24, ho25 : @lenL = zo25, ho26 : @valB = zo26, ho27 : @valV = zo27, ho28 : @lackB = zo28, ho29 : @vlPre = zo29, ho30 : @ltPrB = zo30, ho31 : @ltPre = zo31, ho32 : @rlvPre = zo32, ho33 : @rvlPre = zo33, ho34 : @ptPre = zo34
        generalize hA : Arith.std = A
        cbv
        subst hA hg0 hg1 hL ho0 ho1 ho2 ho3 ho4 ho5 ho6 ho7 ho8 ho9 ho10 ho11 ho12 ho13 ho14 ho15 ho16 ho17 ho18 ho19 ho20 ho21 ho22 ho23 ho24 ho25 ho26 ho27 ho28 ho29 ho30 ho31 ho32 ho33 ho34
        simp only [Arith.std, Int.ofNat_eq_natCast, Int.toNat_natCast, ePR, eK0]
        have hRR : HashC (hashC f) := hHC
        refine Need.mk ⟨ksAt_self, hRR, q⟩ fun _ => Need.mk ⟨hRR, q⟩ fun _ => ?_
        refine Ife.mk (fun _ => ?_) (fun h5 => absurd h5 (by simp))
        refine Ife.mk (fun _ => ?_) (fun h5 => absurd h5 (by simp))
        refine Need.mk ⟨ksAt_self, hRR, q⟩ fun _ => Need.mk ⟨hRR, q⟩ fun _ => ?_
        refine Ife.mk (fun _ => ?_) (fun h5 => absurd h5 (by simp))
        refine Need.mk ⟨ksAt_self, hRR, q⟩ fun _ => Need.mk ⟨hRR, q⟩ fun _ => ?_
        have hbb : ∀ b : Bool, (b == b) = true := fun b => by simp
        exact ⟨[0, 1, 2], ⟨rfl, (by repeat' (first | exact trivial | exact rfl | exact hbb _ | (simp; done) | apply And.intro)), (by show List.Nodup []; exact List.nodup_nil), rfl, by repeat' (first | exact trivial | exact rfl | apply And.intro | exact (fun _ _ _ _ => Cell.le_refl _) | (intro i hi; rfl) | (intro i hi; exact absurd hi (Nat.not_lt_zero _)))⟩⟩

end Go.Proofs.YthomoliklfmnkaaDoor.Vx
end

section
/- A proof that comes in, opened; the walk of ProofTells. -/
namespace Go.Proofs.YthomoliklfmnkaaDoor.Vx
open Sha
set_option linter.unusedVariables false
set_option linter.unusedSimpArgs false
theorem leafOf_eq0 {fr : Bool} {l : List PLeaf} {i : Nat} (hi : i < l.length) (hok : ∀ x ∈ l, ∀ h ∈ x.p, h.length = 32) : leafOf (leafG fr l i) = l[i] := by
  have e : l.getD i .none = l[i] := by simp [List.getD, hi]
  have hx := hok l[i] (List.getElem_mem hi)
  have ep : cHs (leafG fr l i 3) = l[i].p := by
    show (List.range (lN l i)).map (fun j => (pG (lP l i) j).map vInt) = _
    unfold lN lP
    rw [e]
    apply List.ext_getElem?
    intro j
    rw [List.getElem?_map]
    by_cases hj : j < l[i].p.length
    · rw [List.getElem?_range hj, List.getElem?_eq_getElem hj, Option.map_some]
      congr 1
      unfold pG
      rw [show l[i].p.getD j [] = l[i].p[j] by simp [List.getD, hj]]
      exact pG_vInt (hx _ (List.getElem_mem hj))
    · rw [List.getElem?_eq_none (by simp; omega), List.getElem?_eq_none (by omega)]; rfl
  unfold leafOf
  rw [ep]
  show PLeaf.mk (lK l i) (lV l i) (lI l i) _ = _
  unfold lK lV lI
  rw [e]
theorem leafL_eq0 {n : Nat} {get : Nat → Nat → Cell} {fr : Bool} {l : List PLeaf} (hn : l.length = n) (hok : ∀ x ∈ l, ∀ h ∈ x.p, h.length = 32) (h : ∀ i j, i < n → j < 4 → get i j = leafG fr l i j) : leafL n get = l := by
  apply List.ext_getElem (by simp [leafL, hn])
  intro i h1 h2
  have : leafOf (get i) = leafOf (leafG fr l i) := by
    unfold leafOf
    rw [h i 0 (by omega) (by omega), h i 1 (by omega) (by omega), h i 2 (by omega) (by omega), h i 3 (by omega) (by omega)]
  simp only [leafL, List.getElem_map, List.getElem_range, this]
  exact leafOf_eq0 h2 hok
theorem leaves_den {w : World} {L : List PLeaf} {v : Value} {ρ : List Pl} {k : Nat} {q : Pl} (hs : (Cell.ns false 115 4 L.length (leafG false L)).shows w (fun _ b => b < w.heap.size) v) (hq : q.v = v) (hk : ρ[k]? = some q := by rfl) : CV.den ρ (.row k) = some v := by
  obtain ⟨a, cap, h1, -⟩ := hs
  simp only [CV.den, hk]
  rw [hq, h1]
  rfl
theorem leafL_in {L : List PLeaf} (h : RawP L) : leafL L.length (leafG false L) = L := leafL_eq0 (fr := false) rfl (fun x hx y hy => (h x hx y hy).1) fun _ _ _ _ => rfl
theorem leavesAt0_in {L : List PLeaf} (h : RawP L) : leavesAt0 115 4 L.length (leafG false L) := ⟨rfl, rfl, fun i j _ _ => by rw [leafL_in h]⟩
end Go.Proofs.YthomoliklfmnkaaDoor.Vx
namespace Go.Proofs.YthomoliklfmnkaaDoor
open Go.ChangeShapes Go.WideShapes Go.ChangeAt Go.RowKit
set_option linter.unusedVariables false
set_option maxRecDepth 100000
/-- A proof that comes in: its leaves as data. -/
structure PfIn (w : World) (l : List Value) (c : Int) (L : List Vx.PLeaf) where
  v : Value
  cells : l = [.int .i64 c, v]
  sh : (Vx.Cell.ns false 115 4 L.length (Vx.leafG false L)).shows w (fun _ b => b < w.heap.size) v
  raw : Vx.RawP L
section
variable {H : Type} {enc : TypeId × Value → H} {w : World} {base : Nat}
theorem open_Pf {v : Value} {d : DataW H} {p : List MemPlace} (hv : Value.okWide Tryd.prog w .any base 27 v) (h : DataW.Trod enc Tryd.prog w 0 (fun _ => true) true 27 v d p) :
    ∃ (l : List Value) (c : Int) (L : List Vx.PLeaf), v = .agg l.toArray ∧ Nonempty (PfIn w l c L) := by
  obtain ⟨cs, rfl, hz⟩ := okWide_struct Tryd.underlying27 hv
  obtain ⟨fuel, hf⟩ := h
  obtain ⟨l, rfl⟩ : ∃ l : List Value, cs = l.toArray := ⟨cs.toList, by simp⟩
  simp only [Value.cells] at hf
  obtain ⟨c, v, L, e, h1, h2, h3⟩ := trod_Proof hf
  exact ⟨l, c, L, rfl, ⟨⟨v, e, h1, fun x hx => (h3 x hx).2.2⟩⟩⟩
end
theorem proofTellsWalk (w : World) (hk : ∀ i, i < 64 → w.cell? ⟨0, i, none⟩ = some (.int .u32 (Sha.kOf i))) (p : Option Addr) (cap : Nat) (ls : List Vx.PP) (hs : SlIn w p 2 cap (ls.map Vx.prVals)) (s : ByteArray) (hs2 : s.size ≤ maxLen) (t : ByteArray) (ht2 : t.size ≤ maxLen) (f : Nat → Int) (hf : ∀ i, 0 ≤ f i ∧ f i < 256) (l : List Value) (c : Int) (L : List Vx.PLeaf) (hm : PfIn w l c L) (own : Bool) :
    Calls Tryd.prog 3 #[.slice p ls.length cap, .string s, .string t, .agg (hashV f).toArray, .agg l.toArray, .bool own] w fun e w' => e = .returned (.bool true) ∧ Below w.heap.size w w' := by
  obtain ⟨b, rfl, hl⟩ := bytesOf s hs2
  obtain ⟨b2, rfl, hl2⟩ := bytesOf t ht2
  obtain ⟨q, hq, gd⟩ := prs_good hs
  rw [← hq]
  obtain ⟨q', hq', r2⟩ := Vx.Rel.addLeaves (Vx.Rel.addV (Vx.relGlob hk) 46 gd) hm.sh
  have d' : Vx.CV.den [⟨0, undef, 0⟩, q, q'] (.row 2) = some hm.v := Vx.leaves_den hm.sh hq'
  refine Calls.mono (Vx.proofTellsP.run [.c (.row 1), .c (.str b), .c (.str b2), .agg (Vx.hashC f), .agg [.int .i64 c, .row 2], .c (.bool own)] [.glob 0 1 64 (fun i => [.int .u32 (Sha.kOf i)]), .elems 46 2 ls.length (Vx.prG ls), .data false 115 4 L.length (Vx.leafG false L)] _ _ _ rfl ⟨Vx.ksAt_self, ⟨rfl, rfl, Vx.prAt_prG _ _⟩, ⟨f, rfl, hf⟩, Vx.leavesAt0_in hm.raw, by rw [Vx.leafL_in hm.raw]; exact hm.raw⟩ [⟨0, undef, 0⟩, q, q'] w _ r2
    ⟨_, _, rfl, (by obtain ⟨a', cap', e, _⟩ := gd.sl; simp [Vx.SV.is, Vx.CV.den, e, Vx.one] : Vx.SV.is [⟨0, undef, 0⟩, q, q'] (.c (.row 1)) q.v), _, _, rfl, rfl, _, _, rfl, rfl, _, _, rfl, ⟨_, hashC_is f _, rfl⟩, _, _, rfl, ⟨l, by rw [hm.cells]; exact Vx.IsL.cons rfl (Vx.IsL.cons d' (Vx.IsL.nil _)), rfl⟩, _, _, rfl, rfl, rfl⟩) fun e W' he => ?_
  obtain ⟨u, ρ', rfl, hu, hr⟩ := he
  obtain rfl : .bool true = u := Option.some.inj hu
  exact ⟨rfl, Vx.Rel.toBelow hr⟩
end Go.Proofs.YthomoliklfmnkaaDoor
end
