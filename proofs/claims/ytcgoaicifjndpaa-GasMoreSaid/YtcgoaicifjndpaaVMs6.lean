/- The document's comparison of messages, and what may be, by the walker. -/
import Derived.Test.YtcgoaicifjndpaaVMs5
import Derived.Test.YtcgoaicifjndpaaVSp
namespace Go.Proofs.Ytcgoaicifjndpaa.Vx
open Go.RowKit
set_option linter.unusedVariables false
set_option linter.unusedSimpArgs false
set_option maxRecDepth 100000 in
set_option maxHeartbeats 16000000 in
theorem rsameMP : Fn Try.prog 67 [] [(140, 204), (140, 204), (140, 204), (140, 204)] sSameM := by
  have hC : CtsOk Try.prog [(131, appFn [] [(140, 204), (140, 204)] sSamePr)] := CtsOk.cons (Fn.ct rsamePrP) <| CtsOk.nil _
  refine Fn.of (E := tbS) [] 0 [] tbS_ok hC (by kernel_rfl) Try.func67 rfl rfl rfl (by kernel_rfl) (by kernel_rfl) 4 5 1 ?_ ?_
  · intro args h pre r h' hs
    unfold sSameM at hs
    split at hs
    · cases hs; exact ⟨rfl, rfl, Nat.le_of_ble_eq_true rfl⟩
    · cases hs
  · intro args h pre r h' hs hp
    unfold sSameM at hs
    split at hs
    rotate_left
    · cases hs
    rename_i cs ds fr ty sz n get fr' ty' sz' n' get' gr uy tz p het gr' uy' tz' p' het'
    cases hs
    obtain ⟨⟨hcsA, ⟨rfl, rfl, hst, hok, hm⟩, ⟨rfl, rfl, hst', hok', hm'⟩, hfitA⟩, ⟨hcsB, ⟨rfl, rfl, ist, iok, im⟩, ⟨rfl, rfl, ist', iok', im'⟩, hfitB⟩⟩ := hp
    refine ⟨[.data fr 140 4 n (leafG false (leafL n get)), .data fr' 140 4 n' (leafG false (leafL n' get')), .data gr 140 4 p (leafG false (leafL p het)), .data gr' 140 4 p' (leafG false (leafL p' het'))], ⟨⟨rfl, rfl, rfl, rfl, fun i j hi hj => by rw [hst i j hi hj]; exact Cell.le_refl _⟩, ⟨rfl, rfl, rfl, rfl, fun i j hi hj => by rw [hst' i j hi hj]; exact Cell.le_refl _⟩, ⟨rfl, rfl, rfl, rfl, fun i j hi hj => by rw [ist i j hi hj]; exact Cell.le_refl _⟩, ⟨rfl, rfl, rfl, rfl, fun i j hi hj => by rw [ist' i j hi hj]; exact Cell.le_refl _⟩, trivial⟩, ?_⟩
    clear hst hst' ist ist'
    have hLA : (leafL n get).length = n := leafL_len
    have hKA : (leafL n' get').length = n' := leafL_len
    have e1 : (msgOf cs n get n' get').pl = leafL n get := rfl
    have e2 : (msgOf cs n get n' get').cl = leafL n' get' := rfl
    generalize msgOf cs n get n' get' = m at *
    subst hcsA
    obtain ⟨k, hh, ht, hr, ⟨sp, sc, dp, dc, sq, da, th, ta⟩, ack, nx, hg, pc, pl, cc, cl⟩ := m
    replace e1 : pl = leafL n get := e1
    replace e2 : cl = leafL n' get' := e2
    subst e1 e2
    generalize leafL n get = pl at *
    generalize leafL n' get' = cl at *
    obtain ⟨-, -, hrlA, -⟩ := hfitA
    replace hrlA : hr.length = 32 := hrlA
    have hLB : (leafL p het).length = p := leafL_len
    have hKB : (leafL p' het').length = p' := leafL_len
    have e1 : (msgOf ds p het p' het').pl = leafL p het := rfl
    have e2 : (msgOf ds p het p' het').cl = leafL p' het' := rfl
    generalize msgOf ds p het p' het' = m at *
    subst hcsB
    obtain ⟨k', hh', ht', hr', ⟨sp', sc', dp', dc', sq', da', th', ta'⟩, ack', nx', hg', pc', pl', cc', cl'⟩ := m
    replace e1 : pl' = leafL p het := e1
    replace e2 : cl' = leafL p' het' := e2
    subst e1 e2
    generalize leafL p het = pl' at *
    generalize leafL p' het' = cl' at *
    obtain ⟨-, -, hrlB, -⟩ := hfitB
    replace hrlB : hr'.length = 32 := hrlB
    unfold sSamePr
    try unfold leafG
    try unfold msgC
    generalize ho0 : @lK = zo0, ho1 : @lV = zo1, ho2 : @lI = zo2, ho3 : @lP = zo3, ho4 : @lN = zo4, ho5 : @pG = zo5, ho6 : @leafL = zo6, ho7 : @leavesPre = zo7, ho8 : @rN = zo8, ho9 : @msgPre = zo9, ho10 : @sameM = zo10, ho11 : @msgOf = zo11
    generalize hA : Arith.std = A
    cbv
    subst hA ho0 ho1 ho2 ho3 ho4 ho5 ho6 ho7 ho8 ho9 ho10 ho11
    refine Ife.mk (fun h1 => ?_) (fun h1 => ?_)
    rotate_left
    · replace h1 : ¬ (k = k') := of_decide_eq_false (p := k = k') h1
      rw [show sameM ⟨k, hh, ht, hr, ⟨sp, sc, dp, dc, sq, da, th, ta⟩, ack, nx, hg, pc, pl, cc, cl⟩ ⟨k', hh', ht', hr', ⟨sp', sc', dp', dc', sq', da', th', ta'⟩, ack', nx', hg', pc', pl', cc', cl'⟩ = false from decide_eq_false (by
        intro e
        simp only [PMsg.mk.injEq] at e
        obtain ⟨q1, q2, q3, q4, q5, q6, q7, q8, q9, q10, q11, q12⟩ := e
        exact h1 q1)]
      exact ⟨[0, 1, 2, 3], ⟨rfl, by repeat' (first | exact trivial | exact rfl | apply And.intro | exact (fun _ _ _ _ => Cell.le_refl _) | (intro i hi; rfl) | (intro i hi; exact absurd hi (Nat.not_lt_zero _))), by decide, rfl, by repeat' (first | exact trivial | exact rfl | apply And.intro | exact (fun _ _ _ _ => Cell.le_refl _) | (intro i hi; rfl) | (intro i hi; exact absurd hi (Nat.not_lt_zero _)))⟩⟩
    replace h1 : k = k' := of_decide_eq_true (p := k = k') h1
    refine Ife.mk (fun h2 => ?_) (fun h2 => ?_)
    rotate_left
    · replace h2 : (decide (hh = hh') && (decide (ht = ht') && e32 (rN hr) (rN hr'))) = false := h2
      rw [hrEq hrlA hrlB] at h2
      rw [show sameM ⟨k, hh, ht, hr, ⟨sp, sc, dp, dc, sq, da, th, ta⟩, ack, nx, hg, pc, pl, cc, cl⟩ ⟨k', hh', ht', hr', ⟨sp', sc', dp', dc', sq', da', th', ta'⟩, ack', nx', hg', pc', pl', cc', cl'⟩ = false from decide_eq_false (by
        intro e
        simp only [PMsg.mk.injEq] at e
        obtain ⟨q1, q2, q3, q4, q5, q6, q7, q8, q9, q10, q11, q12⟩ := e
        exact by simp [q2, q3, q4] at h2)]
      exact ⟨[0, 1, 2, 3], ⟨rfl, by repeat' (first | exact trivial | exact rfl | apply And.intro | exact (fun _ _ _ _ => Cell.le_refl _) | (intro i hi; rfl) | (intro i hi; exact absurd hi (Nat.not_lt_zero _))), by decide, rfl, by repeat' (first | exact trivial | exact rfl | apply And.intro | exact (fun _ _ _ _ => Cell.le_refl _) | (intro i hi; rfl) | (intro i hi; exact absurd hi (Nat.not_lt_zero _)))⟩⟩
    replace h2 : (decide (hh = hh') && (decide (ht = ht') && e32 (rN hr) (rN hr'))) = true := h2
    rw [hrEq hrlA hrlB] at h2
    simp only [Bool.and_eq_true, decide_eq_true_iff] at h2
    obtain ⟨g1, g2, g3⟩ := h2
    refine Ife.mk (fun h6 => ?_) (fun h6 => ?_)
    rotate_left
    · replace h6 : ¬ ((⟨sp, sc, dp, dc, sq, da, th, ta⟩ : Pkt) = ⟨sp', sc', dp', dc', sq', da', th', ta'⟩) := of_decide_eq_false (p := (⟨sp, sc, dp, dc, sq, da, th, ta⟩ : Pkt) = ⟨sp', sc', dp', dc', sq', da', th', ta'⟩) (samePk_eq.symm.trans h6)
      rw [show sameM ⟨k, hh, ht, hr, ⟨sp, sc, dp, dc, sq, da, th, ta⟩, ack, nx, hg, pc, pl, cc, cl⟩ ⟨k', hh', ht', hr', ⟨sp', sc', dp', dc', sq', da', th', ta'⟩, ack', nx', hg', pc', pl', cc', cl'⟩ = false from decide_eq_false (by
        intro e
        simp only [PMsg.mk.injEq] at e
        obtain ⟨q1, q2, q3, q4, q5, q6, q7, q8, q9, q10, q11, q12⟩ := e
        exact h6 q5)]
      exact ⟨[0, 1, 2, 3], ⟨rfl, by repeat' (first | exact trivial | exact rfl | apply And.intro | exact (fun _ _ _ _ => Cell.le_refl _) | (intro i hi; rfl) | (intro i hi; exact absurd hi (Nat.not_lt_zero _))), by decide, rfl, by repeat' (first | exact trivial | exact rfl | apply And.intro | exact (fun _ _ _ _ => Cell.le_refl _) | (intro i hi; rfl) | (intro i hi; exact absurd hi (Nat.not_lt_zero _)))⟩⟩
    replace h6 : (⟨sp, sc, dp, dc, sq, da, th, ta⟩ : Pkt) = ⟨sp', sc', dp', dc', sq', da', th', ta'⟩ := of_decide_eq_true (p := (⟨sp, sc, dp, dc, sq, da, th, ta⟩ : Pkt) = ⟨sp', sc', dp', dc', sq', da', th', ta'⟩) (samePk_eq.symm.trans h6)
    refine Ife.mk (fun h3 => ?_) (fun h3 => ?_)
    rotate_left
    · replace h3 : ¬ (ack = ack') := of_decide_eq_false (p := ack = ack') h3
      rw [show sameM ⟨k, hh, ht, hr, ⟨sp, sc, dp, dc, sq, da, th, ta⟩, ack, nx, hg, pc, pl, cc, cl⟩ ⟨k', hh', ht', hr', ⟨sp', sc', dp', dc', sq', da', th', ta'⟩, ack', nx', hg', pc', pl', cc', cl'⟩ = false from decide_eq_false (by
        intro e
        simp only [PMsg.mk.injEq] at e
        obtain ⟨q1, q2, q3, q4, q5, q6, q7, q8, q9, q10, q11, q12⟩ := e
        exact h3 q6)]
      exact ⟨[0, 1, 2, 3], ⟨rfl, by repeat' (first | exact trivial | exact rfl | apply And.intro | exact (fun _ _ _ _ => Cell.le_refl _) | (intro i hi; rfl) | (intro i hi; exact absurd hi (Nat.not_lt_zero _))), by decide, rfl, by repeat' (first | exact trivial | exact rfl | apply And.intro | exact (fun _ _ _ _ => Cell.le_refl _) | (intro i hi; rfl) | (intro i hi; exact absurd hi (Nat.not_lt_zero _)))⟩⟩
    replace h3 : ack = ack' := of_decide_eq_true (p := ack = ack') h3
    refine Ife.mk (fun h4 => ?_) (fun h4 => ?_)
    rotate_left
    · replace h4 : ¬ (nx = nx') := of_decide_eq_false (p := nx = nx') h4
      rw [show sameM ⟨k, hh, ht, hr, ⟨sp, sc, dp, dc, sq, da, th, ta⟩, ack, nx, hg, pc, pl, cc, cl⟩ ⟨k', hh', ht', hr', ⟨sp', sc', dp', dc', sq', da', th', ta'⟩, ack', nx', hg', pc', pl', cc', cl'⟩ = false from decide_eq_false (by
        intro e
        simp only [PMsg.mk.injEq] at e
        obtain ⟨q1, q2, q3, q4, q5, q6, q7, q8, q9, q10, q11, q12⟩ := e
        exact h4 q7)]
      exact ⟨[0, 1, 2, 3], ⟨rfl, by repeat' (first | exact trivial | exact rfl | apply And.intro | exact (fun _ _ _ _ => Cell.le_refl _) | (intro i hi; rfl) | (intro i hi; exact absurd hi (Nat.not_lt_zero _))), by decide, rfl, by repeat' (first | exact trivial | exact rfl | apply And.intro | exact (fun _ _ _ _ => Cell.le_refl _) | (intro i hi; rfl) | (intro i hi; exact absurd hi (Nat.not_lt_zero _)))⟩⟩
    replace h4 : nx = nx' := of_decide_eq_true (p := nx = nx') h4
    refine Ife.mk (fun h5 => ?_) (fun h5 => ?_)
    rotate_left
    · replace h5 : ¬ (hg = hg') := of_decide_eq_false (p := hg = hg') h5
      rw [show sameM ⟨k, hh, ht, hr, ⟨sp, sc, dp, dc, sq, da, th, ta⟩, ack, nx, hg, pc, pl, cc, cl⟩ ⟨k', hh', ht', hr', ⟨sp', sc', dp', dc', sq', da', th', ta'⟩, ack', nx', hg', pc', pl', cc', cl'⟩ = false from decide_eq_false (by
        intro e
        simp only [PMsg.mk.injEq] at e
        obtain ⟨q1, q2, q3, q4, q5, q6, q7, q8, q9, q10, q11, q12⟩ := e
        exact h5 q8)]
      exact ⟨[0, 1, 2, 3], ⟨rfl, by repeat' (first | exact trivial | exact rfl | apply And.intro | exact (fun _ _ _ _ => Cell.le_refl _) | (intro i hi; rfl) | (intro i hi; exact absurd hi (Nat.not_lt_zero _))), by decide, rfl, by repeat' (first | exact trivial | exact rfl | apply And.intro | exact (fun _ _ _ _ => Cell.le_refl _) | (intro i hi; rfl) | (intro i hi; exact absurd hi (Nat.not_lt_zero _)))⟩⟩
    replace h5 : hg = hg' := of_decide_eq_true (p := hg = hg') h5
    refine Need.mk ⟨leavesPre_n hLA hok hm, leavesPre_n hLB iok im⟩ fun _ => ?_
    rw [leavesL_n hLA hok, leavesL_n hLB iok]
    refine Ife.mk (fun h7 => ?_) (fun h7 => ?_)
    rotate_left
    · replace h7 : (decide (pc = pc') && decide (pl = pl')) = false := h7
      rw [show sameM ⟨k, hh, ht, hr, ⟨sp, sc, dp, dc, sq, da, th, ta⟩, ack, nx, hg, pc, pl, cc, cl⟩ ⟨k', hh', ht', hr', ⟨sp', sc', dp', dc', sq', da', th', ta'⟩, ack', nx', hg', pc', pl', cc', cl'⟩ = false from decide_eq_false (by
        intro e
        simp only [PMsg.mk.injEq] at e
        obtain ⟨q1, q2, q3, q4, q5, q6, q7, q8, q9, q10, q11, q12⟩ := e
        exact by simp [q9, q10] at h7)]
      exact ⟨[0, 1, 2, 3], ⟨rfl, by repeat' (first | exact trivial | exact rfl | apply And.intro | exact (fun _ _ _ _ => Cell.le_refl _) | (intro i hi; rfl) | (intro i hi; exact absurd hi (Nat.not_lt_zero _))), by decide, rfl, by repeat' (first | exact trivial | exact rfl | apply And.intro | exact (fun _ _ _ _ => Cell.le_refl _) | (intro i hi; rfl) | (intro i hi; exact absurd hi (Nat.not_lt_zero _)))⟩⟩
    replace h7 : (decide (pc = pc') && decide (pl = pl')) = true := h7
    simp only [Bool.and_eq_true, decide_eq_true_iff] at h7
    obtain ⟨g4, g5⟩ := h7
    refine Need.mk ⟨leavesPre_n hKA hok' hm', leavesPre_n hKB iok' im'⟩ fun _ => ?_
    rw [leavesL_n hKA hok', leavesL_n hKB iok', show sameM ⟨k, hh, ht, hr, ⟨sp, sc, dp, dc, sq, da, th, ta⟩, ack, nx, hg, pc, pl, cc, cl⟩ ⟨k', hh', ht', hr', ⟨sp', sc', dp', dc', sq', da', th', ta'⟩, ack', nx', hg', pc', pl', cc', cl'⟩ = (decide (cc = cc') && decide (cl = cl')) from by
      unfold sameM
      rw [Bool.eq_iff_iff]
      simp only [Bool.and_eq_true, decide_eq_true_iff, PMsg.mk.injEq]
      exact ⟨fun e => ⟨e.2.2.2.2.2.2.2.2.2.2.1, e.2.2.2.2.2.2.2.2.2.2.2⟩, fun e => ⟨h1, g1, g2, g3, h6, h3, h4, h5, g4, g5, e.1, e.2⟩⟩]
    exact ⟨[0, 1, 2, 3], ⟨rfl, by repeat' (first | exact trivial | exact rfl | apply And.intro | exact (fun _ _ _ _ => Cell.le_refl _) | (intro i hi; rfl) | (intro i hi; exact absurd hi (Nat.not_lt_zero _))), by decide, rfl, by repeat' (first | exact trivial | exact rfl | apply And.intro | exact (fun _ _ _ _ => Cell.le_refl _) | (intro i hi; rfl) | (intro i hi; exact absurd hi (Nat.not_lt_zero _)))⟩⟩

set_option maxRecDepth 100000 in
set_option maxHeartbeats 16000000 in
theorem rmayMP : Fn Try.prog 47 [] [(140, 204), (140, 204)] sMayM := by
  have hC : CtsOk Try.prog [(68, appFn [] [(140, 204), (140, 204)] sPlainRM), (67, appFn [] [(140, 204), (140, 204), (140, 204), (140, 204)] sSameM), (97, appPure sMayPk), (98, appFn [] [(140, 204)] sMayPr), (96, appPure sMayH)] := CtsOk.cons (Fn.ct plainRMP) <| CtsOk.cons (Fn.ct rsameMP) <| CtsOk.cons (Pure.ct refMayPkP) <| CtsOk.cons (Fn.ct rmayPrP) <| CtsOk.cons (Pure.ct mayHP) <| CtsOk.nil _
  refine Fn.of (E := tbS) [] 0 [(1, [(0, true), (1, true), (2, true), (3, true), (4, true), (5, true), (6, true), (7, true), (8, true), (9, true), (10, true), (11, false), (12, false), (13, true), (14, true)])] tbS_ok hC (by kernel_rfl) Try.func47 rfl rfl rfl (by kernel_rfl) (by kernel_rfl) 2 5 1 ?_ ?_
  · intro args h pre r h' hs
    unfold sMayM at hs
    split at hs
    · cases hs; exact ⟨rfl, rfl, Nat.le_of_ble_eq_true rfl⟩
    · cases hs
  · intro args h pre r h' hs hp
    unfold sMayM at hs
    split at hs
    rotate_left
    · cases hs
    rename_i cs fr ty sz n get fr' ty' sz' n' get'
    cases hs
    obtain ⟨hcs, ⟨rfl, rfl, hst, hok, hm⟩, ⟨rfl, rfl, hst', hok', hm'⟩, hfit⟩ := hp
    refine ⟨[.data fr 140 4 n (leafG false (leafL n get)), .data fr' 140 4 n' (leafG false (leafL n' get'))], ⟨⟨rfl, rfl, rfl, rfl, fun i j hi hj => by rw [hst i j hi hj]; exact Cell.le_refl _⟩, ⟨rfl, rfl, rfl, rfl, fun i j hi hj => by rw [hst' i j hi hj]; exact Cell.le_refl _⟩, trivial⟩, ?_⟩
    have hL : (leafL n get).length = n := leafL_len
    have hL' : (leafL n' get').length = n' := leafL_len
    have e1 : (msgOf cs n get n' get').pl = leafL n get := rfl
    have e2 : (msgOf cs n get n' get').cl = leafL n' get' := rfl
    generalize msgOf cs n get n' get' = m at *
    subst hcs
    obtain ⟨k, hh, ht, hr, ⟨sp, sc, dp, dc, sq, da, th, ta⟩, ack, nx, hg, pc, pl, cc, cl⟩ := m
    replace e1 : pl = leafL n get := e1
    replace e2 : cl = leafL n' get' := e2
    clear hst hst'
    subst e1 e2
    generalize leafL n get = pl at *
    generalize leafL n' get' = cl at *
    have hok0 : MsgOk ⟨k, hh, ht, hr, ⟨sp, sc, dp, dc, sq, da, th, ta⟩, ack, nx, hg, pc, pl, cc, cl⟩ := ⟨hfit, hok, hok', by show pl.length ≤ _; omega, by show cl.length ≤ _; omega⟩
    obtain ⟨hpk, hack, hrl, hrb⟩ := hfit
    replace hack : ack.length ≤ 1000000000 := hack
    replace hrl : hr.length = 32 := hrl
    replace hrb : ∀ b ∈ hr, 0 ≤ b ∧ b < 256 := hrb
    unfold sPlainRM
    try unfold leafG
    try unfold msgC
    generalize ho0 : @lK = zo0, ho1 : @lV = zo1, ho2 : @lI = zo2, ho3 : @lP = zo3, ho4 : @lN = zo4, ho5 : @pG = zo5, ho6 : @leafL = zo6, ho7 : @leavesPre = zo7, ho8 : @mayL = zo8, ho9 : @rN = zo9, ho10 : @plainM = zo10, ho11 : @msgPre = zo11, ho12 : @lenL = zo12, ho13 : @between = zo13, ho14 : @sameM = zo14, ho15 : @mayM = zo15, ho16 : @msgOf = zo16, ho17 : @mayPkt = zo17, ho18 : @mayH = zo18
    generalize hs0 : @sSameM = zs0, hs1 : @sMayH = zs1, hs2 : @sMayPk = zs2, hs3 : @sMayPr = zs3
    generalize hA : Arith.std = A
    cbv
    subst hA ho0 ho1 ho2 ho3 ho4 ho5 ho6 ho7 ho8 ho9 ho10 ho11 ho12 ho13 ho14 ho15 ho16 ho17 ho18 hs0 hs1 hs2 hs3
    unfold sSameM
    try unfold leafG
    try unfold msgC
    generalize ho0 : @lK = zo0, ho1 : @lV = zo1, ho2 : @lI = zo2, ho3 : @lP = zo3, ho4 : @lN = zo4, ho5 : @pG = zo5, ho6 : @leafL = zo6, ho7 : @leavesPre = zo7, ho8 : @mayL = zo8, ho9 : @rN = zo9, ho10 : @plainM = zo10, ho11 : @msgPre = zo11, ho12 : @lenL = zo12, ho13 : @between = zo13, ho14 : @sameM = zo14, ho15 : @mayM = zo15, ho16 : @msgOf = zo16, ho17 : @mayPkt = zo17, ho18 : @mayH = zo18
    generalize hs0 : @sMayH = zs0, hs1 : @sMayPk = zs1, hs2 : @sMayPr = zs2
    generalize hA : Arith.std = A
    cbv
    subst hA ho0 ho1 ho2 ho3 ho4 ho5 ho6 ho7 ho8 ho9 ho10 ho11 ho12 ho13 ho14 ho15 ho16 ho17 ho18 hs0 hs1 hs2
    unfold sMayH
    try unfold leafG
    try unfold msgC
    generalize ho0 : @lK = zo0, ho1 : @lV = zo1, ho2 : @lI = zo2, ho3 : @lP = zo3, ho4 : @lN = zo4, ho5 : @pG = zo5, ho6 : @leafL = zo6, ho7 : @leavesPre = zo7, ho8 : @mayL = zo8, ho9 : @rN = zo9, ho10 : @plainM = zo10, ho11 : @msgPre = zo11, ho12 : @lenL = zo12, ho13 : @between = zo13, ho14 : @sameM = zo14, ho15 : @mayM = zo15, ho16 : @msgOf = zo16, ho17 : @mayPkt = zo17, ho18 : @mayH = zo18
    generalize hs0 : @sMayPk = zs0, hs1 : @sMayPr = zs1
    generalize hA : Arith.std = A
    cbv
    subst hA ho0 ho1 ho2 ho3 ho4 ho5 ho6 ho7 ho8 ho9 ho10 ho11 ho12 ho13 ho14 ho15 ho16 ho17 ho18 hs0 hs1
    unfold sMayPk
    try unfold leafG
    try unfold msgC
    generalize ho0 : @lK = zo0, ho1 : @lV = zo1, ho2 : @lI = zo2, ho3 : @lP = zo3, ho4 : @lN = zo4, ho5 : @pG = zo5, ho6 : @leafL = zo6, ho7 : @leavesPre = zo7, ho8 : @mayL = zo8, ho9 : @rN = zo9, ho10 : @plainM = zo10, ho11 : @msgPre = zo11, ho12 : @lenL = zo12, ho13 : @between = zo13, ho14 : @sameM = zo14, ho15 : @mayM = zo15, ho16 : @msgOf = zo16, ho17 : @mayPkt = zo17, ho18 : @mayH = zo18
    generalize hs0 : @sMayPr = zs0
    generalize hA : Arith.std = A
    cbv
    subst hA ho0 ho1 ho2 ho3 ho4 ho5 ho6 ho7 ho8 ho9 ho10 ho11 ho12 ho13 ho14 ho15 ho16 ho17 ho18 hs0
    unfold sMayPr
    try unfold leafG
    try unfold msgC
    generalize ho0 : @lK = zo0, ho1 : @lV = zo1, ho2 : @lI = zo2, ho3 : @lP = zo3, ho4 : @lN = zo4, ho5 : @pG = zo5, ho6 : @leafL = zo6, ho7 : @leavesPre = zo7, ho8 : @mayL = zo8, ho9 : @rN = zo9, ho10 : @plainM = zo10, ho11 : @msgPre = zo11, ho12 : @lenL = zo12, ho13 : @between = zo13, ho14 : @sameM = zo14, ho15 : @mayM = zo15, ho16 : @msgOf = zo16, ho17 : @mayPkt = zo17, ho18 : @mayH = zo18
    generalize hA : Arith.std = A
    cbv
    subst hA ho0 ho1 ho2 ho3 ho4 ho5 ho6 ho7 ho8 ho9 ho10 ho11 ho12 ho13 ho14 ho15 ho16 ho17 ho18
    refine Ife.mk (fun hb => ?_) (fun hb => ?_)
    · replace hb : k < 1 := of_decide_eq_true (p := k < 1) hb
      rw [show mayM ⟨k, hh, ht, hr, ⟨sp, sc, dp, dc, sq, da, th, ta⟩, ack, nx, hg, pc, pl, cc, cl⟩ = false from by simp [mayM, between, Int.not_le.mpr hb]]
      exact ⟨[0, 1], ⟨rfl, by repeat' (first | exact trivial | exact rfl | apply And.intro | exact (fun _ _ _ _ => Cell.le_refl _) | (intro i hi; rfl) | (intro i hi; exact absurd hi (Nat.not_lt_zero _))), by decide, rfl, by repeat' (first | exact trivial | exact rfl | apply And.intro | exact (fun _ _ _ _ => Cell.le_refl _) | (intro i hi; rfl) | (intro i hi; exact absurd hi (Nat.not_lt_zero _)))⟩⟩
    replace hb : ¬ k < 1 := of_decide_eq_false (p := k < 1) hb
    refine Ife.mk (fun hd => ?_) (fun hd => ?_)
    · replace hd : 5 < k := of_decide_eq_true (p := 5 < k) hd
      rw [show mayM ⟨k, hh, ht, hr, ⟨sp, sc, dp, dc, sq, da, th, ta⟩, ack, nx, hg, pc, pl, cc, cl⟩ = false from by simp [mayM, between, Int.not_le.mpr hd]]
      exact ⟨[0, 1], ⟨rfl, by repeat' (first | exact trivial | exact rfl | apply And.intro | exact (fun _ _ _ _ => Cell.le_refl _) | (intro i hi; rfl) | (intro i hi; exact absurd hi (Nat.not_lt_zero _))), by decide, rfl, by repeat' (first | exact trivial | exact rfl | apply And.intro | exact (fun _ _ _ _ => Cell.le_refl _) | (intro i hi; rfl) | (intro i hi; exact absurd hi (Nat.not_lt_zero _)))⟩⟩
    replace hd : ¬ 5 < k := of_decide_eq_false (p := 5 < k) hd
    refine Need.mk (msgPre_n (m := ⟨k, hh, ht, hr, ⟨sp, sc, dp, dc, sq, da, th, ta⟩, ack, nx, hg, pc, pl, cc, cl⟩) hok0 hL hL') fun _ => ?_
    have z := msgOf_n (m := ⟨k, hh, ht, hr, ⟨sp, sc, dp, dc, sq, da, th, ta⟩, ack, nx, hg, pc, pl, cc, cl⟩) (a := .row 0) (b := .row 1) (fr := false) (fr' := false) hok0 hL hL'
    simp only [msgC, msgCP, h32, pkC, List.cons_append, List.nil_append] at z
    rw [z]
    have hq0 := plain_ok hok0
    generalize hQ : plainM ⟨k, hh, ht, hr, ⟨sp, sc, dp, dc, sq, da, th, ta⟩, ack, nx, hg, pc, pl, cc, cl⟩ = Q at hq0 ⊢
    refine Need.mk ⟨msgPre_n (m := ⟨k, hh, ht, hr, ⟨sp, sc, dp, dc, sq, da, th, ta⟩, ack, nx, hg, pc, pl, cc, cl⟩) hok0 hL hL', msgPre_n (m := Q) hq0 rfl rfl⟩ fun _ => ?_
    have z2 := msgOf_n (m := Q) (a := .row 2) (b := .row 3) (n := lenL Q.pl) (n' := lenL Q.cl) (fr := false) (fr' := false) hq0 rfl rfl
    simp only [msgC, msgCP, h32, pkC, List.cons_append, List.nil_append] at z2
    rw [z2]
    refine Ife.mk (fun hs => ?_) (fun hs => ?_)
    · replace hs : (!sameM ⟨k, hh, ht, hr, ⟨sp, sc, dp, dc, sq, da, th, ta⟩, ack, nx, hg, pc, pl, cc, cl⟩ Q) = true := hs
      rw [Bool.not_eq_true'] at hs
      rw [show mayM ⟨k, hh, ht, hr, ⟨sp, sc, dp, dc, sq, da, th, ta⟩, ack, nx, hg, pc, pl, cc, cl⟩ = false from by unfold mayM; rw [hQ, hs, Bool.false_and, Bool.and_false]]
      exact ⟨[0, 1], ⟨rfl, by repeat' (first | exact trivial | exact rfl | apply And.intro | exact (fun _ _ _ _ => Cell.le_refl _) | (intro i hi; rfl) | (intro i hi; exact absurd hi (Nat.not_lt_zero _))), by decide, rfl, by repeat' (first | exact trivial | exact rfl | apply And.intro | exact (fun _ _ _ _ => Cell.le_refl _) | (intro i hi; rfl) | (intro i hi; exact absurd hi (Nat.not_lt_zero _)))⟩⟩
    replace hs : (!sameM ⟨k, hh, ht, hr, ⟨sp, sc, dp, dc, sq, da, th, ta⟩, ack, nx, hg, pc, pl, cc, cl⟩ Q) = false := hs
    rw [Bool.not_eq_false'] at hs
    have base : mayM ⟨k, hh, ht, hr, ⟨sp, sc, dp, dc, sq, da, th, ta⟩, ack, nx, hg, pc, pl, cc, cl⟩ = (if k = 1 then mayH hh ht else (decide (k ≠ 3) || between (ack.length : Int) 1 32) && (between nx 0 1099511627777 && (between hg 1 1099511627776 && (mayPkt ⟨sp, sc, dp, dc, sq, da, th, ta⟩ && (mayL pc pl && mayL cc cl))))) := by
      unfold mayM
      rw [hQ, hs]
      simp only [show between k 1 5 = true from by simp [between]; omega, Bool.true_and, mayH]
    rw [base]
    clear z z2 hs hQ hq0 base
    refine Ife.mk (fun h1 => ?_) (fun h1 => ?_)
    · replace h1 : k = 1 := of_decide_eq_true (p := k = 1) h1
      rw [if_pos h1]
      refine Need.mk ⟨hr, rfl⟩ fun _ => ?_
      exact ⟨[0, 1], ⟨rfl, by repeat' (first | exact trivial | exact rfl | apply And.intro | exact (fun _ _ _ _ => Cell.le_refl _) | (intro i hi; rfl) | (intro i hi; exact absurd hi (Nat.not_lt_zero _))), by decide, rfl, by repeat' (first | exact trivial | exact rfl | apply And.intro | exact (fun _ _ _ _ => Cell.le_refl _) | (intro i hi; rfl) | (intro i hi; exact absurd hi (Nat.not_lt_zero _)))⟩⟩
    replace h1 : ¬ k = 1 := of_decide_eq_false (p := k = 1) h1
    rw [if_neg h1]
    refine Ife.mk (fun h3 => ?_) (fun h3 => ?_)
    · replace h3 : k = 3 := of_decide_eq_true (p := k = 3) h3
      rw [show decide (k ≠ 3) = false from by simp [h3], Bool.false_or]
      refine Ife.mk (fun ha => ?_) (fun ha => ?_)
      · replace ha : (ack.length : Int) < 1 := of_decide_eq_true (p := (ack.length : Int) < 1) ha
        rw [show between (ack.length : Int) 1 32 = false from by simp only [between]; simp; omega, Bool.false_and]
        exact ⟨[0, 1], ⟨rfl, by repeat' (first | exact trivial | exact rfl | apply And.intro | exact (fun _ _ _ _ => Cell.le_refl _) | (intro i hi; rfl) | (intro i hi; exact absurd hi (Nat.not_lt_zero _))), by decide, rfl, by repeat' (first | exact trivial | exact rfl | apply And.intro | exact (fun _ _ _ _ => Cell.le_refl _) | (intro i hi; rfl) | (intro i hi; exact absurd hi (Nat.not_lt_zero _)))⟩⟩
      replace ha : ¬ (ack.length : Int) < 1 := of_decide_eq_false (p := (ack.length : Int) < 1) ha
      refine Ife.mk (fun hz => ?_) (fun hz => ?_)
      · replace hz : 32 < (ack.length : Int) := of_decide_eq_true (p := 32 < (ack.length : Int)) hz
        rw [show between (ack.length : Int) 1 32 = false from by simp only [between]; simp; omega, Bool.false_and]
        exact ⟨[0, 1], ⟨rfl, by repeat' (first | exact trivial | exact rfl | apply And.intro | exact (fun _ _ _ _ => Cell.le_refl _) | (intro i hi; rfl) | (intro i hi; exact absurd hi (Nat.not_lt_zero _))), by decide, rfl, by repeat' (first | exact trivial | exact rfl | apply And.intro | exact (fun _ _ _ _ => Cell.le_refl _) | (intro i hi; rfl) | (intro i hi; exact absurd hi (Nat.not_lt_zero _)))⟩⟩
      replace hz : ¬ 32 < (ack.length : Int) := of_decide_eq_false (p := 32 < (ack.length : Int)) hz
      rw [show between (ack.length : Int) 1 32 = true from by simp only [between]; simp; omega, Bool.true_and]
      refine Need.mk hpk fun _ => Ife.mk (fun a3 => ?_) (fun a3 => ?_)
      rotate_left
      · rw [a3]
        simp only [Bool.false_and, Bool.and_false]
        exact ⟨[0, 1], ⟨rfl, by repeat' (first | exact trivial | exact rfl | apply And.intro | exact (fun _ _ _ _ => Cell.le_refl _) | (intro i hi; rfl) | (intro i hi; exact absurd hi (Nat.not_lt_zero _))), by decide, rfl, by repeat' (first | exact trivial | exact rfl | apply And.intro | exact (fun _ _ _ _ => Cell.le_refl _) | (intro i hi; rfl) | (intro i hi; exact absurd hi (Nat.not_lt_zero _)))⟩⟩
      rw [a3]
      simp only [Bool.true_and]
      refine Ife.mk (fun b1 => ?_) (fun b1 => ?_)
      rotate_left
      · replace b1 : ¬ (0 ≤ nx) := of_decide_eq_false (p := 0 ≤ nx) b1
        rw [show between nx 0 1099511627777 = false from by simp only [between]; simp; omega]
        simp only [Bool.false_and, Bool.and_false]
        exact ⟨[0, 1], ⟨rfl, by repeat' (first | exact trivial | exact rfl | apply And.intro | exact (fun _ _ _ _ => Cell.le_refl _) | (intro i hi; rfl) | (intro i hi; exact absurd hi (Nat.not_lt_zero _))), by decide, rfl, by repeat' (first | exact trivial | exact rfl | apply And.intro | exact (fun _ _ _ _ => Cell.le_refl _) | (intro i hi; rfl) | (intro i hi; exact absurd hi (Nat.not_lt_zero _)))⟩⟩
      replace b1 : 0 ≤ nx := of_decide_eq_true (p := 0 ≤ nx) b1
      refine Ife.mk (fun b2 => ?_) (fun b2 => ?_)
      rotate_left
      · replace b2 : ¬ (nx ≤ 1099511627777) := of_decide_eq_false (p := nx ≤ 1099511627777) b2
        rw [show between nx 0 1099511627777 = false from by simp only [between]; simp; omega]
        simp only [Bool.false_and, Bool.and_false]
        exact ⟨[0, 1], ⟨rfl, by repeat' (first | exact trivial | exact rfl | apply And.intro | exact (fun _ _ _ _ => Cell.le_refl _) | (intro i hi; rfl) | (intro i hi; exact absurd hi (Nat.not_lt_zero _))), by decide, rfl, by repeat' (first | exact trivial | exact rfl | apply And.intro | exact (fun _ _ _ _ => Cell.le_refl _) | (intro i hi; rfl) | (intro i hi; exact absurd hi (Nat.not_lt_zero _)))⟩⟩
      replace b2 : nx ≤ 1099511627777 := of_decide_eq_true (p := nx ≤ 1099511627777) b2
      rw [show between nx 0 1099511627777 = true from by simp only [between]; simp; omega]
      refine Ife.mk (fun b3 => ?_) (fun b3 => ?_)
      rotate_left
      · replace b3 : ¬ (1 ≤ hg) := of_decide_eq_false (p := 1 ≤ hg) b3
        rw [show between hg 1 1099511627776 = false from by simp only [between]; simp; omega]
        simp only [Bool.false_and, Bool.and_false]
        exact ⟨[0, 1], ⟨rfl, by repeat' (first | exact trivial | exact rfl | apply And.intro | exact (fun _ _ _ _ => Cell.le_refl _) | (intro i hi; rfl) | (intro i hi; exact absurd hi (Nat.not_lt_zero _))), by decide, rfl, by repeat' (first | exact trivial | exact rfl | apply And.intro | exact (fun _ _ _ _ => Cell.le_refl _) | (intro i hi; rfl) | (intro i hi; exact absurd hi (Nat.not_lt_zero _)))⟩⟩
      replace b3 : 1 ≤ hg := of_decide_eq_true (p := 1 ≤ hg) b3
      refine Ife.mk (fun b4 => ?_) (fun b4 => ?_)
      rotate_left
      · replace b4 : ¬ (hg ≤ 1099511627776) := of_decide_eq_false (p := hg ≤ 1099511627776) b4
        rw [show between hg 1 1099511627776 = false from by simp only [between]; simp; omega]
        simp only [Bool.false_and, Bool.and_false]
        exact ⟨[0, 1], ⟨rfl, by repeat' (first | exact trivial | exact rfl | apply And.intro | exact (fun _ _ _ _ => Cell.le_refl _) | (intro i hi; rfl) | (intro i hi; exact absurd hi (Nat.not_lt_zero _))), by decide, rfl, by repeat' (first | exact trivial | exact rfl | apply And.intro | exact (fun _ _ _ _ => Cell.le_refl _) | (intro i hi; rfl) | (intro i hi; exact absurd hi (Nat.not_lt_zero _)))⟩⟩
      replace b4 : hg ≤ 1099511627776 := of_decide_eq_true (p := hg ≤ 1099511627776) b4
      rw [show between hg 1 1099511627776 = true from by simp only [between]; simp; omega]
      simp only [Bool.true_and]
      refine Need.mk (leavesPre_n hL hok hm) fun _ => ?_
      rw [leavesL_n hL hok]
      refine Ife.mk (fun a4 => ?_) (fun a4 => ?_)
      rotate_left
      · rw [a4, Bool.false_and]
        exact ⟨[0, 1], ⟨rfl, by repeat' (first | exact trivial | exact rfl | apply And.intro | exact (fun _ _ _ _ => Cell.le_refl _) | (intro i hi; rfl) | (intro i hi; exact absurd hi (Nat.not_lt_zero _))), by decide, rfl, by repeat' (first | exact trivial | exact rfl | apply And.intro | exact (fun _ _ _ _ => Cell.le_refl _) | (intro i hi; rfl) | (intro i hi; exact absurd hi (Nat.not_lt_zero _)))⟩⟩
      rw [a4, Bool.true_and]
      refine Need.mk (leavesPre_n hL' hok' hm') fun _ => ?_
      rw [leavesL_n hL' hok']
      exact ⟨[0, 1], ⟨rfl, by repeat' (first | exact trivial | exact rfl | apply And.intro | exact (fun _ _ _ _ => Cell.le_refl _) | (intro i hi; rfl) | (intro i hi; exact absurd hi (Nat.not_lt_zero _))), by decide, rfl, by repeat' (first | exact trivial | exact rfl | apply And.intro | exact (fun _ _ _ _ => Cell.le_refl _) | (intro i hi; rfl) | (intro i hi; exact absurd hi (Nat.not_lt_zero _)))⟩⟩
    · replace h3 : ¬ k = 3 := of_decide_eq_false (p := k = 3) h3
      rw [show decide (k ≠ 3) = true from by simp [h3], Bool.true_or, Bool.true_and]
      refine Need.mk hpk fun _ => Ife.mk (fun a3 => ?_) (fun a3 => ?_)
      rotate_left
      · rw [a3]
        simp only [Bool.false_and, Bool.and_false]
        exact ⟨[0, 1], ⟨rfl, by repeat' (first | exact trivial | exact rfl | apply And.intro | exact (fun _ _ _ _ => Cell.le_refl _) | (intro i hi; rfl) | (intro i hi; exact absurd hi (Nat.not_lt_zero _))), by decide, rfl, by repeat' (first | exact trivial | exact rfl | apply And.intro | exact (fun _ _ _ _ => Cell.le_refl _) | (intro i hi; rfl) | (intro i hi; exact absurd hi (Nat.not_lt_zero _)))⟩⟩
      rw [a3]
      simp only [Bool.true_and]
      refine Ife.mk (fun b1 => ?_) (fun b1 => ?_)
      rotate_left
      · replace b1 : ¬ (0 ≤ nx) := of_decide_eq_false (p := 0 ≤ nx) b1
        rw [show between nx 0 1099511627777 = false from by simp only [between]; simp; omega]
        simp only [Bool.false_and, Bool.and_false]
        exact ⟨[0, 1], ⟨rfl, by repeat' (first | exact trivial | exact rfl | apply And.intro | exact (fun _ _ _ _ => Cell.le_refl _) | (intro i hi; rfl) | (intro i hi; exact absurd hi (Nat.not_lt_zero _))), by decide, rfl, by repeat' (first | exact trivial | exact rfl | apply And.intro | exact (fun _ _ _ _ => Cell.le_refl _) | (intro i hi; rfl) | (intro i hi; exact absurd hi (Nat.not_lt_zero _)))⟩⟩
      replace b1 : 0 ≤ nx := of_decide_eq_true (p := 0 ≤ nx) b1
      refine Ife.mk (fun b2 => ?_) (fun b2 => ?_)
      rotate_left
      · replace b2 : ¬ (nx ≤ 1099511627777) := of_decide_eq_false (p := nx ≤ 1099511627777) b2
        rw [show between nx 0 1099511627777 = false from by simp only [between]; simp; omega]
        simp only [Bool.false_and, Bool.and_false]
        exact ⟨[0, 1], ⟨rfl, by repeat' (first | exact trivial | exact rfl | apply And.intro | exact (fun _ _ _ _ => Cell.le_refl _) | (intro i hi; rfl) | (intro i hi; exact absurd hi (Nat.not_lt_zero _))), by decide, rfl, by repeat' (first | exact trivial | exact rfl | apply And.intro | exact (fun _ _ _ _ => Cell.le_refl _) | (intro i hi; rfl) | (intro i hi; exact absurd hi (Nat.not_lt_zero _)))⟩⟩
      replace b2 : nx ≤ 1099511627777 := of_decide_eq_true (p := nx ≤ 1099511627777) b2
      rw [show between nx 0 1099511627777 = true from by simp only [between]; simp; omega]
      refine Ife.mk (fun b3 => ?_) (fun b3 => ?_)
      rotate_left
      · replace b3 : ¬ (1 ≤ hg) := of_decide_eq_false (p := 1 ≤ hg) b3
        rw [show between hg 1 1099511627776 = false from by simp only [between]; simp; omega]
        simp only [Bool.false_and, Bool.and_false]
        exact ⟨[0, 1], ⟨rfl, by repeat' (first | exact trivial | exact rfl | apply And.intro | exact (fun _ _ _ _ => Cell.le_refl _) | (intro i hi; rfl) | (intro i hi; exact absurd hi (Nat.not_lt_zero _))), by decide, rfl, by repeat' (first | exact trivial | exact rfl | apply And.intro | exact (fun _ _ _ _ => Cell.le_refl _) | (intro i hi; rfl) | (intro i hi; exact absurd hi (Nat.not_lt_zero _)))⟩⟩
      replace b3 : 1 ≤ hg := of_decide_eq_true (p := 1 ≤ hg) b3
      refine Ife.mk (fun b4 => ?_) (fun b4 => ?_)
      rotate_left
      · replace b4 : ¬ (hg ≤ 1099511627776) := of_decide_eq_false (p := hg ≤ 1099511627776) b4
        rw [show between hg 1 1099511627776 = false from by simp only [between]; simp; omega]
        simp only [Bool.false_and, Bool.and_false]
        exact ⟨[0, 1], ⟨rfl, by repeat' (first | exact trivial | exact rfl | apply And.intro | exact (fun _ _ _ _ => Cell.le_refl _) | (intro i hi; rfl) | (intro i hi; exact absurd hi (Nat.not_lt_zero _))), by decide, rfl, by repeat' (first | exact trivial | exact rfl | apply And.intro | exact (fun _ _ _ _ => Cell.le_refl _) | (intro i hi; rfl) | (intro i hi; exact absurd hi (Nat.not_lt_zero _)))⟩⟩
      replace b4 : hg ≤ 1099511627776 := of_decide_eq_true (p := hg ≤ 1099511627776) b4
      rw [show between hg 1 1099511627776 = true from by simp only [between]; simp; omega]
      simp only [Bool.true_and]
      refine Need.mk (leavesPre_n hL hok hm) fun _ => ?_
      rw [leavesL_n hL hok]
      refine Ife.mk (fun a4 => ?_) (fun a4 => ?_)
      rotate_left
      · rw [a4, Bool.false_and]
        exact ⟨[0, 1], ⟨rfl, by repeat' (first | exact trivial | exact rfl | apply And.intro | exact (fun _ _ _ _ => Cell.le_refl _) | (intro i hi; rfl) | (intro i hi; exact absurd hi (Nat.not_lt_zero _))), by decide, rfl, by repeat' (first | exact trivial | exact rfl | apply And.intro | exact (fun _ _ _ _ => Cell.le_refl _) | (intro i hi; rfl) | (intro i hi; exact absurd hi (Nat.not_lt_zero _)))⟩⟩
      rw [a4, Bool.true_and]
      refine Need.mk (leavesPre_n hL' hok' hm') fun _ => ?_
      rw [leavesL_n hL' hok']
      exact ⟨[0, 1], ⟨rfl, by repeat' (first | exact trivial | exact rfl | apply And.intro | exact (fun _ _ _ _ => Cell.le_refl _) | (intro i hi; rfl) | (intro i hi; exact absurd hi (Nat.not_lt_zero _))), by decide, rfl, by repeat' (first | exact trivial | exact rfl | apply And.intro | exact (fun _ _ _ _ => Cell.le_refl _) | (intro i hi; rfl) | (intro i hi; exact absurd hi (Nat.not_lt_zero _)))⟩⟩

end Go.Proofs.Ytcgoaicifjndpaa.Vx
