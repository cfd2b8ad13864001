/- The document's comparison of messages, and what may be, by the walker. -/
import Derived.Test.YtcgoaicifjndpaaM24
import Derived.Test.YtcgoaicifjndpaaM20
namespace Go.Proofs.Ytcgoaicifjndpaa.Vx
open Go.RowKit
set_option linter.unusedVariables false
set_option linter.unusedSimpArgs false
set_option maxRecDepth 100000 in
set_option maxHeartbeats 16000000 in
theorem rsameMP : Fn Try.prog 67 [] [(140, 204), (140, 204), (140, 204), (140, 204)] sSameM := by
  have hC : CtsOk Try.prog [(131, appFn [] [(140, 204), (140, 204)] sSamePr)] := CtsOk.cons (Fn.ct rsamePrP) <| CtsOk.nil _
  refine Fn.of (E := tbS) [] 0 [] tbS_ok hC (by kernel_rfl) Try.func67 rfl rfl rfl (by kernel_rfl) (by kernel_rfl) 4 5 1 ?_ ?_
  · intro args h pre r h' hs
    unfold sSameM at hs
    split at hs
    · cases hs; exact ⟨rfl, rfl, Nat.le_of_ble_eq_true rfl⟩
    · cases hs
  · intro args h pre r h' hs hp
    unfold sSameM at hs
    split at hs
    rotate_left
    · cases hs
    rename_i cs ds fr ty sz n get fr' ty' sz' n' get' gr uy tz p het gr' uy' tz' p' het'
    cases hs
    obtain ⟨⟨hcsA, ⟨rfl, rfl, hst, hok, hm⟩, ⟨rfl, rfl, hst', hok', hm'⟩, hfitA⟩, ⟨hcsB, ⟨rfl, rfl, ist, iok, im⟩, ⟨rfl, rfl, ist', iok', im'⟩, hfitB⟩⟩ := hp
    refine ⟨[.data fr 140 4 n (leafG false (leafL n get)), .data fr' 140 4 n' (leafG false (leafL n' get')), .data gr 140 4 p (leafG false (leafL p het)), .data gr' 140 4 p' (leafG false (leafL p' het'))], ⟨⟨rfl, rfl, rfl, rfl, fun i j hi hj => by rw [hst i j hi hj]; exact Cell.le_refl _⟩, ⟨rfl, rfl, rfl, rfl, fun i j hi hj => by rw [hst' i j hi hj]; exact Cell.le_refl _⟩, ⟨rfl, rfl, rfl, rfl, fun i j hi hj => by rw [ist i j hi hj]; exact Cell.le_refl _⟩, ⟨rfl, rfl, rfl, rfl, fun i j hi hj => by rw [ist' i j hi hj]; exact Cell.le_refl _⟩, trivial⟩, ?_⟩
    clear hst hst' ist ist'
    have hLA : (leafL n get).length = n := leafL_len
    have hKA : (leafL n' get').length = n' := leafL_len
    have e1 : (msgOf cs n get n' get').pl = leafL n get := rfl
    have e2 : (msgOf cs n get n' get').cl = leafL n' get' := rfl
    generalize msgOf cs n get n' get' = m at *
    subst hcsA
    obtain ⟨k, hh, ht, hr, ⟨sp, sc, dp, dc, sq, da, th, ta⟩, ack, nx, hg, pc, pl, cc, cl⟩ := m
    replace e1 : pl = leafL n get := e1
    replace e2 : cl = leafL n' get' := e2
    subst e1 e2
    generalize leafL n get = pl at *
    generalize leafL n' get' = cl at *
    obtain ⟨-, -, hrlA, -⟩ := hfitA
    replace hrlA : hr.length = 32 := hrlA
    have hLB : (leafL p het).length = p := leafL_len
    have hKB : (leafL p' het').length = p' := leafL_len
    have e1 : (msgOf ds p het p' het').pl = leafL p het := rfl
    have e2 : (msgOf ds p het p' het').cl = leafL p' het' := rfl
    generalize msgOf ds p het p' het' = m at *
    subst hcsB
    obtain ⟨k', hh', ht', hr', ⟨sp', sc', dp', dc', sq', da', th', ta'⟩, ack', nx', hg', pc', pl', cc', cl'⟩ := m
    replace e1 : pl' = leafL p het := e1
    replace e2 : cl' = leafL p' het' := e2
    subst e1 e2
    generalize leafL p het = pl' at *
    generalize leafL p' het' = cl' at *
    obtain ⟨-, -, hrlB, -⟩ := hfitB
    replace hrlB : hr'.length = 32 := hrlB
    unfold sSamePr
    try unfold leafG
    try unfold msgC
    generalize ho0 : @lK = zo0, ho1 : @lV = zo1, ho2 : @lI = zo2, ho3 : @lP = zo3, ho4 : @lN = zo4, ho5 : @pG = zo5, ho6 : @leafL = zo6, ho7 : @leavesPre = zo7, ho8 : @rN = zo8, ho9 : @msgPre = zo9, ho10 : @sameM = zo10, ho11 : @msgOf = zo11
    generalize hA : Arith.std = A
    cbv
    subst hA ho0 ho1 ho2 ho3 ho4 ho5 ho6 ho7 ho8 ho9 ho10 ho11
    refine Ife.mk (fun h1 => ?_) (fun h1 => ?_)
    rotate_left
    · replace h1 : ¬ (k = k') := of_decide_eq_false (p := k = k') h1
      rw [show sameM ⟨k, hh, ht, hr, ⟨sp, sc, dp, dc, sq, da, th, ta⟩, ack, nx, hg, pc, pl, cc, cl⟩ ⟨k', hh', ht', hr', ⟨sp', sc', dp', dc', sq', da', th', ta'⟩, ack', nx', hg', pc', pl', cc', cl'⟩ = false from decide_eq_false (by
        intro e
        simp only [PMsg.mk.injEq] at e
        obtain ⟨q1, q2, q3, q4, q5, q6, q7, q8, q9, q10, q11, q12⟩ := e
        exact h1 q1)]
      exact ⟨[0, 1, 2, 3], ⟨rfl, by repeat' (first | exact trivial | exact rfl | apply And.intro | exact (fun _ _ _ _ => Cell.le_refl _) | (intro i hi; rfl) | (intro i hi; exact absurd hi (Nat.not_lt_zero _))), by decide, rfl, by repeat' (first | exact trivial | exact rfl | apply And.intro | exact (fun _ _ _ _ => Cell.le_refl _) | (intro i hi; rfl) | (intro i hi; exact absurd hi (Nat.not_lt_zero _)))⟩⟩
    replace h1 : k = k' := of_decide_eq_true (p := k = k') h1
    refine Ife.mk (fun h2 => ?_) (fun h2 => ?_)
    rotate_left
    · replace h2 : (decide (hh = hh') && (decide (ht = ht') && e32 (rN hr) (rN hr'))) = false := h2
      rw [hrEq hrlA hrlB] at h2
      rw [show sameM ⟨k, hh, ht, hr, ⟨sp, sc, dp, dc, sq, da, th, ta⟩, ack, nx, hg, pc, pl, cc, cl⟩ ⟨k', hh', ht', hr', ⟨sp', sc', dp', dc', sq', da', th', ta'⟩, ack', nx', hg', pc', pl', cc', cl'⟩ = false from decide_eq_false (by
        intro e
        simp only [PMsg.mk.injEq] at e
        obtain ⟨q1, q2, q3, q4, q5, q6, q7, q8, q9, q10, q11, q12⟩ := e
        exact by simp [q2, q3, q4] at h2)]
      exact ⟨[0, 1, 2, 3], ⟨rfl, by repeat' (first | exact trivial | exact rfl | apply And.intro | exact (fun _ _ _ _ => Cell.le_refl _) | (intro i hi; rfl) | (intro i hi; exact absurd hi (Nat.not_lt_zero _))), by decide, rfl, by repeat' (first | exact trivial | exact rfl | apply And.intro | exact (fun _ _ _ _ => Cell.le_refl _) | (intro i hi; rfl) | (intro i hi; exact absurd hi (Nat.not_lt_zero _)))⟩⟩
    replace h2 : (decide (hh = hh') && (decide (ht = ht') && e32 (rN hr) (rN hr'))) = true := h2
    rw [hrEq hrlA hrlB] at h2
    simp only [Bool.and_eq_true, decide_eq_true_iff] at h2
    obtain ⟨g1, g2, g3⟩ := h2
    refine Ife.mk (fun h6 => ?_) (fun h6 => ?_)
    rotate_left
    · replace h6 : ¬ ((⟨sp, sc, dp, dc, sq, da, th, ta⟩ : Pkt) = ⟨sp', sc', dp', dc', sq', da', th', ta'⟩) := of_decide_eq_false (p := (⟨sp, sc, dp, dc, sq, da, th, ta⟩ : Pkt) = ⟨sp', sc', dp', dc', sq', da', th', ta'⟩) (samePk_eq.symm.trans h6)
      rw [show sameM ⟨k, hh, ht, hr, ⟨sp, sc, dp, dc, sq, da, th, ta⟩, ack, nx, hg, pc, pl, cc, cl⟩ ⟨k', hh', ht', hr', ⟨sp', sc', dp', dc', sq', da', th', ta'⟩, ack', nx', hg', pc', pl', cc', cl'⟩ = false from decide_eq_false (by
        intro e
        simp only [PMsg.mk.injEq] at e
        obtain ⟨q1, q2, q3, q4, q5, q6, q7, q8, q9, q10, q11, q12⟩ := e
        exact h6 q5)]
      exact ⟨[0, 1, 2, 3], ⟨rfl, by repeat' (first | exact trivial | exact rfl | apply And.intro | exact (fun _ _ _ _ => Cell.le_refl _) | (intro i hi; rfl) | (intro i hi; exact absurd hi (Nat.not_lt_zero _))), by decide, rfl, by repeat' (first | exact trivial | exact rfl | apply And.intro | exact (fun _ _ _ _ => Cell.le_refl _) | (intro i hi; rfl) | (intro i hi; exact absurd hi (Nat.not_lt_zero _)))⟩⟩
    replace h6 : (⟨sp, sc, dp, dc, sq, da, th, ta⟩ : Pkt) = ⟨sp', sc', dp', dc', sq', da', th', ta'⟩ := of_decide_eq_true (p := (⟨sp, sc, dp, dc, sq, da, th, ta⟩ : Pkt) = ⟨sp', sc', dp', dc', sq', da', th', ta'⟩) (samePk_eq.symm.trans h6)
    refine Ife.mk (fun h3 => ?_) (fun h3 => ?_)
    rotate_left
    · replace h3 : ¬ (ack = ack') := of_decide_eq_false (p := ack = ack') h3
      rw [show sameM ⟨k, hh, ht, hr, ⟨sp, sc, dp, dc, sq, da, th, ta⟩, ack, nx, hg, pc, pl, cc, cl⟩ ⟨k', hh', ht', hr', ⟨sp', sc', dp', dc', sq', da', th', ta'⟩, ack', nx', hg', pc', pl', cc', cl'⟩ = false from decide_eq_false (by
        intro e
        simp only [PMsg.mk.injEq] at e
        obtain ⟨q1, q2, q3, q4, q5, q6, q7, q8, q9, q10, q11, q12⟩ := e
        exact h3 q6)]
      exact ⟨[0, 1, 2, 3], ⟨rfl, by repeat' (first | exact trivial | exact rfl | apply And.intro | exact (fun _ _ _ _ => Cell.le_refl _) | (intro i hi; rfl) | (intro i hi; exact absurd hi (Nat.not_lt_zero _))), by decide, rfl, by repeat' (first | exact trivial | exact rfl | apply And.intro | exact (fun _ _ _ _ => Cell.le_refl _) | (intro i hi; rfl) | (intro i hi; exact absurd hi (Nat.not_lt_zero _)))⟩⟩
    replace h3 : ack = ack' := of_decide_eq_true (p := ack = ack') h3
    refine Ife.mk (fun h4 => ?_) (fun h4 => ?_)
    rotate_left
    · replace h4 : ¬ (nx = nx') := of_decide_eq_false (p := nx = nx') h4
      rw [show sameM ⟨k, hh, ht, hr, ⟨sp, sc, dp, dc, sq, da, th, ta⟩, ack, nx, hg, pc, pl, cc, cl⟩ ⟨k', hh', ht', hr', ⟨sp', sc', dp', dc', sq', da', th', ta'⟩, ack', nx', hg', pc', pl', cc', cl'⟩ = false from decide_eq_false (by
        intro e
        simp only [PMsg.mk.injEq] at e
        obtain ⟨q1, q2, q3, q4, q5, q6, q7, q8, q9, q10, q11, q12⟩ := e
        exact h4 q7)]
      exact ⟨[0, 1, 2, 3], ⟨rfl, by repeat' (first | exact trivial | exact rfl | apply And.intro | exact (fun _ _ _ _ => Cell.le_refl _) | (intro i hi; rfl) | (intro i hi; exact absurd hi (Nat.not_lt_zero _))), by decide, rfl, by repeat' (first | exact trivial | exact rfl | apply And.intro | exact (fun _ _ _ _ => Cell.le_refl _) | (intro i hi; rfl) | (intro i hi; exact absurd hi (Nat.not_lt_zero _)))⟩⟩
    replace h4 : nx = nx' := of_decide_eq_true (p := nx = nx') h4
    refine Ife.mk (fun h5 => ?_) (fun h5 => ?_)
    rotate_left
    · replace h5 : ¬ (hg = hg') := of_decide_eq_false (p := hg = hg') h5
      rw [show sameM ⟨k, hh, ht, hr, ⟨sp, sc, dp, dc, sq, da, th, ta⟩, ack, nx, hg, pc, pl, cc, cl⟩ ⟨k', hh', ht', hr', ⟨sp', sc', dp', dc', sq', da', th', ta'⟩, ack', nx', hg', pc', pl', cc', cl'⟩ = false from decide_eq_false (by
        intro e
        simp only [PMsg.mk.injEq] at e
        obtain ⟨q1, q2, q3, q4, q5, q6, q7, q8, q9, q10, q11, q12⟩ := e
        exact h5 q8)]
      exact ⟨[0, 1, 2, 3], ⟨rfl, by repeat' (first | exact trivial | exact rfl | apply And.intro | exact (fun _ _ _ _ => Cell.le_refl _) | (intro i hi; rfl) | (intro i hi; exact absurd hi (Nat.not_lt_zero _))), by decide, rfl, by repeat' (first | exact trivial | exact rfl | apply And.intro | exact (fun _ _ _ _ => Cell.le_refl _) | (intro i hi; rfl) | (intro i hi; exact absurd hi (Nat.not_lt_zero _)))⟩⟩
    replace h5 : hg = hg' := of_decide_eq_true (p := hg = hg') h5
    refine Need.mk ⟨leavesPre_n hLA hok hm, leavesPre_n hLB iok im⟩ fun _ => ?_
    rw [leavesL_n hLA hok, leavesL_n hLB iok]
    refine Ife.mk (fun h7 => ?_) (fun h7 => ?_)
    rotate_left
    · replace h7 : (decide (pc = pc') && decide (pl = pl')) = false := h7
      rw [show sameM ⟨k, hh, ht, hr, ⟨sp, sc, dp, dc, sq, da, th, ta⟩, ack, nx, hg, pc, pl, cc, cl⟩ ⟨k', hh', ht', hr', ⟨sp', sc', dp', dc', sq', da', th', ta'⟩, ack', nx', hg', pc', pl', cc', cl'⟩ = false from decide_eq_false (by
        intro e
        simp only [PMsg.mk.injEq] at e
        obtain ⟨q1, q2, q3, q4, q5, q6, q7, q8, q9, q10, q11, q12⟩ := e
        exact by simp [q9, q10] at h7)]
      exact ⟨[0, 1, 2, 3], ⟨rfl, by repeat' (first | exact trivial | exact rfl | apply And.intro | exact (fun _ _ _ _ => Cell.le_refl _) | (intro i hi; rfl) | (intro i hi; exact absurd hi (Nat.not_lt_zero _))), by decide, rfl, by repeat' (first | exact trivial | exact rfl | apply And.intro | exact (fun _ _ _ _ => Cell.le_refl _) | (intro i hi; rfl) | (intro i hi; exact absurd hi (Nat.not_lt_zero _)))⟩⟩
    replace h7 : (decide (pc = pc') && decide (pl = pl')) = true := h7
    simp only [Bool.and_eq_true, decide_eq_true_iff] at h7
    obtain ⟨g4, g5⟩ := h7
    refine Need.mk ⟨leavesPre_n hKA hok' hm', leavesPre_n hKB iok' im'⟩ fun _ => ?_
    rw [leavesL_n hKA hok', leavesL_n hKB iok', show sameM ⟨k, hh, ht, hr, ⟨sp, sc, dp, dc, sq, da, th, ta⟩, ack, nx, hg, pc, pl, cc, cl⟩ ⟨k', hh', ht', hr', ⟨sp', sc', dp', dc', sq', da', th', ta'⟩, ack', nx', hg', pc', pl', cc', cl'⟩ = (decide (cc = cc') && decide (cl = cl')) from by
      unfold sameM
      rw [Bool.eq_iff_iff]
      simp only [Bool.and_eq_true, decide_eq_true_iff, PMsg.mk.injEq]
      exact ⟨fun e => ⟨e.2.2.2.2.2.2.2.2.2.2.1, e.2.2.2.2.2.2.2.2.2.2.2⟩, fun e => ⟨h1, g1, g2, g3, h6, h3, h4, h5, g4, g5, e.1, e.2⟩⟩]
    exact ⟨[0, 1, 2, 3], ⟨rfl, by repeat' (first | exact trivial | exact rfl | apply And.intro | exact (fun _ _ _ _ => Cell.le_refl _) | (intro i hi; rfl) | (intro i hi; exact absurd hi (Nat.not_lt_zero _))), by decide, rfl, by repeat' (first | exact trivial | exact rfl | apply And.intro | exact (fun _ _ _ _ => Cell.le_refl _) | (intro i hi; rfl) | (intro i hi; exact absurd hi (Nat.not_lt_zero _)))⟩⟩


end Go.Proofs.Ytcgoaicifjndpaa.Vx
