/- The law GasMore, by the walker. -/
import Derived.Test.YtcgoaicifjndpaaVGas1
namespace Go.Proofs.Ytcgoaicifjndpaa.Vx
open Go.RowKit
set_option linter.unusedVariables false
set_option linter.unusedSimpArgs false
theorem lit2 {m : PMsg} (hm : MsgOk m) {ls : List Cell} (h : ls = msgCl false m ++ msgCl false m) :
    msgsPre 74 50 2 (fun i j => (ls.getD (0 + i * 50 + j) (.pl .tt)).old) ∧ msgsL 2 (fun i j => (ls.getD (0 + i * 50 + j) (.pl .tt)).old) = [m, m] := by
  subst h
  have hg : ∀ i j, i < 2 → j < 50 → ((msgCl false m ++ msgCl false m).getD (0 + i * 50 + j) (.pl .tt)).old = msgG false [m, m] i j := fun i j hi hj => by
    have hl : (msgCl false m).length = 50 := rfl
    have e : (msgCl false m ++ msgCl false m).getD (0 + i * 50 + j) (.pl .tt) = (msgCl false m).getD j (.pl .tt) := by
      rcases (by omega : i = 0 ∨ i = 1) with rfl | rfl
      · rw [List.getD_eq_getElem?_getD, List.getD_eq_getElem?_getD, List.getElem?_append_left (by omega)]
        congr 2
        omega
      · rw [List.getD_eq_getElem?_getD, List.getD_eq_getElem?_getD, List.getElem?_append_right (by omega)]
        congr 2
        omega
    have e2 : gM [m, m] i = m := by
      rcases (by omega : i = 0 ∨ i = 1) with rfl | rfl <;> rfl
    rw [e]
    have := msgG_old (fr := false) (L := [m, m]) (i := i) (j := j)
    simp only [msgG_eq] at this ⊢
    rw [e2] at this ⊢
    exact this
  have all : ∀ x ∈ [m, m], MsgOk x := fun x hx => by
    simp at hx
    rw [hx]; exact hm
  have e := msgsL_eq (n := 2) (L := [m, m]) rfl (fun x hx => (all x hx).raw) hg
  exact ⟨⟨rfl, rfl, fun i j hi hj => by rw [e]; exact hg i j hi hj, by rw [e]; exact all, by decide⟩, e⟩
theorem total_two (m : PMsg) : totalM [m, m] = 2 * priceM m := by
  unfold totalM
  simp
  omega
theorem msgsL_zero {get : Nat → Nat → Cell} : msgsL 0 get = [] := rfl
theorem msgsPre_zero {get : Nat → Nat → Cell} : msgsPre 74 50 0 get := ⟨rfl, rfl, fun i j hi _ => absurd hi (by omega), fun m hm => absurd hm (by simp [msgsL_zero]), by decide⟩
theorem may_ack {m : PMsg} (h : mayM m = true) (ho : MsgOk m) : m.ack.length ≤ 32 := by
  obtain ⟨-, -, -, h3, -⟩ := mayM_V h ho
  split at h3
  · have : (m.ack.length : Int) ≤ 32 := h3
    omega
  · have : m.ack = [] := h3
    rw [this]; decide
def sGasMore : SpecF
  | [.agg cs], [.data false ty sz n get, .data false ty' sz' n' get'] => some (lawPre cs (.row 0) (.row 1) ty sz n get ty' sz' n' get', .c .tt, [.dead, .dead])
  | _, _ => none

set_option maxRecDepth 100000 in
set_option maxHeartbeats 64000000 in
theorem gasMoreP : Fn Try.prog 7 [] [(140, 204), (140, 204)] sGasMore := by
  have hC : CtsOk Try.prog [(43, appPure sTrue17), (49, appFn [] [(140, 204), (140, 204)] sLightM), (50, appFn [] [(140, 204), (140, 204)] sMayM), (51, appFn [] [(140, 204), (140, 204)] sSizeM), (45, appFn [] [(140, 204), (140, 204)] sPriceM), (52, appFn [] [(140, 204)] sSteps), (48, appFn [] [(74, 250)] sTotalM)] := CtsOk.cons (Pure.ct first17P) <| CtsOk.cons (Fn.ct lightMP) <| CtsOk.cons (Fn.ct mayMP) <| CtsOk.cons (Fn.ct sizeMP) <| CtsOk.cons (Fn.ct priceP) <| CtsOk.cons (Fn.ct stepsP) <| CtsOk.cons (Fn.ct totalP) <| CtsOk.nil _
  refine Fn.of (E := tbR) [] 0 [(8, [(0, true), (1, true), (2, true), (3, true), (4, true), (5, false), (6, true), (7, true), (8, true), (10, true), (12, true), (14, true), (9, false), (11, false), (13, false), (15, true), (16, true), (17, true), (18, true), (19, true)]), (10, [(0, true), (2, true), (3, true), (4, true), (5, true), (6, true), (8, true), (9, true), (1, false), (7, false), (10, false), (11, true), (12, true), (13, true), (14, true), (15, true), (16, true), (17, true), (20, true), (18, false), (19, false), (21, false), (22, true), (23, true), (24, true), (25, true), (26, false), (27, true), (28, true), (29, true)])] tbR_ok hC (by kernel_rfl) Try.func7 rfl rfl rfl (by kernel_rfl) (by kernel_rfl) 2 5 1 ?_ ?_
  · intro args h pre r h' hs
    unfold sGasMore at hs
    split at hs
    · cases hs; exact ⟨rfl, rfl, Nat.le_of_ble_eq_true rfl⟩
    · cases hs
  · intro args h pre r h' hs hp
    unfold sGasMore at hs
    split at hs
    rotate_left
    · cases hs
    rename_i cs ty sz n get ty' sz' n' get'
    cases hs
    obtain ⟨⟨hcsA, ⟨rfl, rfl, hst⟩, ⟨rfl, rfl, hst'⟩, hpk⟩, hrl, hrb, hal, hpo, hco⟩ := hp
    have k1 := leaves0 hst
    have k2 := leaves0 hst'
    refine ⟨[.data false 140 4 n (leafG false (leafL n get)), .data false 140 4 n' (leafG false (leafL n' get'))], ⟨⟨rfl, rfl, rfl, rfl, fun i j hi hj => by rw [hst i j hi hj]; exact Cell.le_refl _⟩, ⟨rfl, rfl, rfl, rfl, fun i j hi hj => by rw [hst' i j hi hj]; exact Cell.le_refl _⟩, trivial⟩, ?_⟩
    have hL : (leafL n get).length = n := leafL_len
    have hL' : (leafL n' get').length = n' := leafL_len
    have e1 : (msgOf cs n get n' get').pl = leafL n get := rfl
    have e2 : (msgOf cs n get n' get').cl = leafL n' get' := rfl
    generalize msgOf cs n get n' get' = m at *
    subst hcsA
    obtain ⟨k, hh, ht, hr, ⟨sp, sc, dp, dc, sq, da, th, ta⟩, ack, nx, hg, pc, pl, cc, cl⟩ := m
    replace e1 : pl = leafL n get := e1
    replace e2 : cl = leafL n' get' := e2
    clear hst hst'
    subst e1 e2
    generalize leafL n get = pl at *
    generalize leafL n' get' = cl at *
    replace hal : ack.length ≤ 9223372036854775807 := hal
    replace hrl : hr.length = 32 := hrl
    unfold sTrue17 sLightM
    generalize hg0 : (List.length : List UInt8 → Nat) = g0
    try unfold leafG
    try unfold msgCl
    try unfold msgC
    generalize ho0 : @lK = zo0, ho1 : @lV = zo1, ho2 : @lI = zo2, ho3 : @lP = zo3, ho4 : @lN = zo4, ho5 : @pG = zo5, ho6 : @leafL = zo6, ho7 : @leavesPre = zo7, ho8 : @rN = zo8, ho9 : @msgPre = zo9, ho10 : @lenL = zo10, ho11 : @mayM = zo11, ho12 : @msgOf = zo12, ho13 : @msgB = zo13, ho14 : @encMsg = zo14, ho15 : @lightM = zo15, ho16 : @msgPre0 = zo16, ho17 : @lawPre = zo17, ho18 : @msgsL = zo18, ho19 : @msgsPre = zo19, ho20 : @stepsL = zo20, ho21 : @priceM = zo21, ho22 : @totalM = zo22
    generalize hs0 : @sMayM = zs0, hs1 : @sSizeM = zs1, hs2 : @sPriceM = zs2, hs3 : @sSteps = zs3, hs4 : @sTotalM = zs4
    generalize hA : Arith.std = A
    cbv
    subst hA hg0 ho0 ho1 ho2 ho3 ho4 ho5 ho6 ho7 ho8 ho9 ho10 ho11 ho12 ho13 ho14 ho15 ho16 ho17 ho18 ho19 ho20 ho21 ho22 hs0 hs1 hs2 hs3 hs4
    unfold sMayM
    generalize hg0 : (List.length : List UInt8 → Nat) = g0
    try unfold leafG
    try unfold msgCl
    try unfold msgC
    generalize ho0 : @lK = zo0, ho1 : @lV = zo1, ho2 : @lI = zo2, ho3 : @lP = zo3, ho4 : @lN = zo4, ho5 : @pG = zo5, ho6 : @leafL = zo6, ho7 : @leavesPre = zo7, ho8 : @rN = zo8, ho9 : @msgPre = zo9, ho10 : @lenL = zo10, ho11 : @mayM = zo11, ho12 : @msgOf = zo12, ho13 : @msgB = zo13, ho14 : @encMsg = zo14, ho15 : @lightM = zo15, ho16 : @msgPre0 = zo16, ho17 : @lawPre = zo17, ho18 : @msgsL = zo18, ho19 : @msgsPre = zo19, ho20 : @stepsL = zo20, ho21 : @priceM = zo21, ho22 : @totalM = zo22
    generalize hs0 : @sSizeM = zs0, hs1 : @sPriceM = zs1, hs2 : @sSteps = zs2, hs3 : @sTotalM = zs3
    generalize hA : Arith.std = A
    cbv
    subst hA hg0 ho0 ho1 ho2 ho3 ho4 ho5 ho6 ho7 ho8 ho9 ho10 ho11 ho12 ho13 ho14 ho15 ho16 ho17 ho18 ho19 ho20 ho21 ho22 hs0 hs1 hs2 hs3
    unfold sSizeM
    generalize hg0 : (List.length : List UInt8 → Nat) = g0
    try unfold leafG
    try unfold msgCl
    try unfold msgC
    generalize ho0 : @lK = zo0, ho1 : @lV = zo1, ho2 : @lI = zo2, ho3 : @lP = zo3, ho4 : @lN = zo4, ho5 : @pG = zo5, ho6 : @leafL = zo6, ho7 : @leavesPre = zo7, ho8 : @rN = zo8, ho9 : @msgPre = zo9, ho10 : @lenL = zo10, ho11 : @mayM = zo11, ho12 : @msgOf = zo12, ho13 : @msgB = zo13, ho14 : @encMsg = zo14, ho15 : @lightM = zo15, ho16 : @msgPre0 = zo16, ho17 : @lawPre = zo17, ho18 : @msgsL = zo18, ho19 : @msgsPre = zo19, ho20 : @stepsL = zo20, ho21 : @priceM = zo21, ho22 : @totalM = zo22
    generalize hs0 : @sPriceM = zs0, hs1 : @sSteps = zs1, hs2 : @sTotalM = zs2
    generalize hA : Arith.std = A
    cbv
    subst hA hg0 ho0 ho1 ho2 ho3 ho4 ho5 ho6 ho7 ho8 ho9 ho10 ho11 ho12 ho13 ho14 ho15 ho16 ho17 ho18 ho19 ho20 ho21 ho22 hs0 hs1 hs2
    unfold sPriceM
    generalize hg0 : (List.length : List UInt8 → Nat) = g0
    try unfold leafG
    try unfold msgCl
    try unfold msgC
    generalize ho0 : @lK = zo0, ho1 : @lV = zo1, ho2 : @lI = zo2, ho3 : @lP = zo3, ho4 : @lN = zo4, ho5 : @pG = zo5, ho6 : @leafL = zo6, ho7 : @leavesPre = zo7, ho8 : @rN = zo8, ho9 : @msgPre = zo9, ho10 : @lenL = zo10, ho11 : @mayM = zo11, ho12 : @msgOf = zo12, ho13 : @msgB = zo13, ho14 : @encMsg = zo14, ho15 : @lightM = zo15, ho16 : @msgPre0 = zo16, ho17 : @lawPre = zo17, ho18 : @msgsL = zo18, ho19 : @msgsPre = zo19, ho20 : @stepsL = zo20, ho21 : @priceM = zo21, ho22 : @totalM = zo22
    generalize hs0 : @sSteps = zs0, hs1 : @sTotalM = zs1
    generalize hA : Arith.std = A
    cbv
    subst hA hg0 ho0 ho1 ho2 ho3 ho4 ho5 ho6 ho7 ho8 ho9 ho10 ho11 ho12 ho13 ho14 ho15 ho16 ho17 ho18 ho19 ho20 ho21 ho22 hs0 hs1
    unfold sSteps sTotalM
    generalize hg0 : (List.length : List UInt8 → Nat) = g0
    try unfold leafG
    try unfold msgCl
    try unfold msgC
    generalize ho0 : @lK = zo0, ho1 : @lV = zo1, ho2 : @lI = zo2, ho3 : @lP = zo3, ho4 : @lN = zo4, ho5 : @pG = zo5, ho6 : @leafL = zo6, ho7 : @leavesPre = zo7, ho8 : @rN = zo8, ho9 : @msgPre = zo9, ho10 : @lenL = zo10, ho11 : @mayM = zo11, ho12 : @msgOf = zo12, ho13 : @msgB = zo13, ho14 : @encMsg = zo14, ho15 : @lightM = zo15, ho16 : @msgPre0 = zo16, ho17 : @lawPre = zo17, ho18 : @msgsL = zo18, ho19 : @msgsPre = zo19, ho20 : @stepsL = zo20, ho21 : @priceM = zo21, ho22 : @totalM = zo22
    generalize hA : Arith.std = A
    cbv
    subst hA hg0 ho0 ho1 ho2 ho3 ho4 ho5 ho6 ho7 ho8 ho9 ho10 ho11 ho12 ho13 ho14 ho15 ho16 ho17 ho18 ho19 ho20 ho21 ho22
    refine Need.mk trivial fun _ => ?_
    have zz := msgOf_msgC (m := ⟨k, hh, ht, hr, ⟨sp, sc, dp, dc, sq, da, th, ta⟩, ack, nx, hg, pc, pl, cc, cl⟩) (a := .row 0) (b := .row 1) hrl k1 k2
    simp only [msgC, msgCP, h32, pkC, List.cons_append, List.nil_append] at zz
    refine Need.mk ⟨by rw [zz]; rfl, leavesAt0_of k1, leavesAt0_of k2, by rw [zz]; exact hpk⟩ fun _ => ?_
    rw [zz]
    refine Ife.mk (fun hl => ?_) (fun hl => ?_)
    · refine Need.mk trivial fun _ => ?_
      exact ⟨[0, 1], ⟨rfl, by repeat' (first | exact trivial | exact rfl | apply And.intro | exact (fun _ _ _ _ => Cell.le_refl _) | (intro i hi; rfl) | (intro i hi; exact absurd hi (Nat.not_lt_zero _))), by decide, rfl, by repeat' (first | exact trivial | exact rfl | apply And.intro | exact (fun _ _ _ _ => Cell.le_refl _) | (intro i hi; rfl) | (intro i hi; exact absurd hi (Nat.not_lt_zero _)))⟩⟩
    replace hl : (!lightM ⟨k, hh, ht, hr, ⟨sp, sc, dp, dc, sq, da, th, ta⟩, ack, nx, hg, pc, pl, cc, cl⟩) = false := hl
    rw [Bool.not_eq_false'] at hl
    have hok0 := light_ok hl hpk hrl hrb hpo hco
    have pm := msgPre_n (m := ⟨k, hh, ht, hr, ⟨sp, sc, dp, dc, sq, da, th, ta⟩, ack, nx, hg, pc, pl, cc, cl⟩) (a := .row 0) (b := .row 1) (fr := false) (fr' := false) hok0 hL hL'
    refine Need.mk pm fun _ => ?_
    refine Ife.mk (fun hy => ?_) (fun hy => ?_)
    · refine Need.mk trivial fun _ => ?_
      exact ⟨[0, 1], ⟨rfl, by repeat' (first | exact trivial | exact rfl | apply And.intro | exact (fun _ _ _ _ => Cell.le_refl _) | (intro i hi; rfl) | (intro i hi; exact absurd hi (Nat.not_lt_zero _))), by decide, rfl, by repeat' (first | exact trivial | exact rfl | apply And.intro | exact (fun _ _ _ _ => Cell.le_refl _) | (intro i hi; rfl) | (intro i hi; exact absurd hi (Nat.not_lt_zero _)))⟩⟩
    replace hy : mayM ⟨k, hh, ht, hr, ⟨sp, sc, dp, dc, sq, da, th, ta⟩, ack, nx, hg, pc, pl, cc, cl⟩ = true := (Bool.not_eq_false' _).mp hy
    refine Ife.mk (fun hk => ?_) (fun hk => ?_)
    · refine Need.mk trivial fun _ => ?_
      exact ⟨[0, 1], ⟨rfl, by repeat' (first | exact trivial | exact rfl | apply And.intro | exact (fun _ _ _ _ => Cell.le_refl _) | (intro i hi; rfl) | (intro i hi; exact absurd hi (Nat.not_lt_zero _))), by decide, rfl, by repeat' (first | exact trivial | exact rfl | apply And.intro | exact (fun _ _ _ _ => Cell.le_refl _) | (intro i hi; rfl) | (intro i hi; exact absurd hi (Nat.not_lt_zero _)))⟩⟩
    have hak := may_ack hy hok0
    have hak : ack.length ≤ 32 := hak
    have hokn : MsgOk ⟨k, hh, ht, hr, ⟨sp, sc, dp, dc, sq, da, th, ta⟩, ack ++ [120], nx, hg, pc, pl, cc, cl⟩ := ⟨⟨hpk, (by show (ack ++ [120]).length ≤ 1000000000; rw [List.length_append]; simp; omega), hrl, hrb⟩, hok0.po, hok0.co, hok0.pn, hok0.cn⟩
    have pn := msgPre_n (m := ⟨k, hh, ht, hr, ⟨sp, sc, dp, dc, sq, da, th, ta⟩, ack ++ [120], nx, hg, pc, pl, cc, cl⟩) (a := .row 0) (b := .row 1) (fr := false) (fr' := false) hokn hL hL'
    have zn := msgOf_n (m := ⟨k, hh, ht, hr, ⟨sp, sc, dp, dc, sq, da, th, ta⟩, ack ++ [120], nx, hg, pc, pl, cc, cl⟩) (a := .row 0) (b := .row 1) (fr := false) (fr' := false) hokn hL hL'
    refine Need.mk pm fun _ => ?_
    refine Need.mk (by show (ack.length : Int) + (([120] : List UInt8).length : Nat) ≤ 9223372036854775807; simp; omega) fun _ => ?_
    generalize hM : msgOf _ _ _ _ _ = M2
    obtain rfl : ⟨k, hh, ht, hr, ⟨sp, sc, dp, dc, sq, da, th, ta⟩, ack ++ [120], nx, hg, pc, pl, cc, cl⟩ = M2 := zn.symm.trans hM
    clear hM zn
    rw [encMsg_yes hy]
    have sm := may_steps hy hok0
    have bs := msgB_small (mayM_V hy hok0)
    have sp1 : 0 ≤ stepsL pl ∧ stepsL pl ≤ 62 := sm.1
    have sp2 : 0 ≤ stepsL cl ∧ stepsL cl ≤ 62 := sm.2
    have hP : priceM ⟨k, hh, ht, hr, ⟨sp, sc, dp, dc, sq, da, th, ta⟩, ack, nx, hg, pc, pl, cc, cl⟩ = 1000 + 3 * ((msgB ⟨k, hh, ht, hr, ⟨sp, sc, dp, dc, sq, da, th, ta⟩, ack, nx, hg, pc, pl, cc, cl⟩).length : Int) + 50 * (stepsL pl + stepsL cl) := price_yes hy
    subst hL hL'
    have hl2 := lit2 hok0 (ls := msgCl false ⟨k, hh, ht, hr, ⟨sp, sc, dp, dc, sq, da, th, ta⟩, ack, nx, hg, pc, pl, cc, cl⟩ ++ msgCl false ⟨k, hh, ht, hr, ⟨sp, sc, dp, dc, sq, da, th, ta⟩, ack, nx, hg, pc, pl, cc, cl⟩) rfl
    generalize hB : msgB ⟨k, hh, ht, hr, ⟨sp, sc, dp, dc, sq, da, th, ta⟩, ack, nx, hg, pc, pl, cc, cl⟩ = B at *
    refine Ife.mk (fun h3 => ?_) (fun h3 => ?_)
    · refine Need.mk pn fun _ => Ife.mk (fun hn => ?_) (fun hn => ?_)
      · have hn : mayM ⟨k, hh, ht, hr, ⟨sp, sc, dp, dc, sq, da, th, ta⟩, ack ++ [120], nx, hg, pc, pl, cc, cl⟩ = true := hn
        have bn := msgB_small (mayM_V hn hokn)
        have hPn : priceM ⟨k, hh, ht, hr, ⟨sp, sc, dp, dc, sq, da, th, ta⟩, ack ++ [120], nx, hg, pc, pl, cc, cl⟩ = 1000 + 3 * ((msgB ⟨k, hh, ht, hr, ⟨sp, sc, dp, dc, sq, da, th, ta⟩, ack ++ [120], nx, hg, pc, pl, cc, cl⟩).length : Int) + 50 * (stepsL pl + stepsL cl) := price_yes hn
        rw [encMsg_yes hn]
        generalize hBn : msgB ⟨k, hh, ht, hr, ⟨sp, sc, dp, dc, sq, da, th, ta⟩, ack ++ [120], nx, hg, pc, pl, cc, cl⟩ = Bn at *
        refine Need.mk pn fun _ => Need.mk pm fun _ => Need.mk pn fun _ => ?_
        refine Need.mk (by show fitStd .i64 ((Bn.length : Int) - (B.length : Int)); unfold fitStd; omega) fun _ => ?_
        refine Need.mk (by show fitStd .i64 (3 * ((Bn.length : Int) - (B.length : Int))); unfold fitStd; omega) fun _ => ?_
        refine Need.mk (by show fitStd .i64 (priceM ⟨k, hh, ht, hr, ⟨sp, sc, dp, dc, sq, da, th, ta⟩, ack, nx, hg, pc, pl, cc, cl⟩ + 3 * ((Bn.length : Int) - (B.length : Int))); unfold fitStd; omega) fun _ => ?_
        refine Ife.no (by show (!decide (priceM ⟨k, hh, ht, hr, ⟨sp, sc, dp, dc, sq, da, th, ta⟩, ack ++ [120], nx, hg, pc, pl, cc, cl⟩ = priceM ⟨k, hh, ht, hr, ⟨sp, sc, dp, dc, sq, da, th, ta⟩, ack, nx, hg, pc, pl, cc, cl⟩ + 3 * ((Bn.length : Int) - (B.length : Int)))) = false; rw [decide_eq_true (by omega)]; rfl) ?_
        refine Need.mk (by show fitStd .i64 (3 * (B.length : Int)); unfold fitStd; omega) fun _ => ?_
        refine Need.mk (by show fitStd .i64 (1000 + 3 * (B.length : Int)); unfold fitStd; omega) fun _ => ?_
        refine Need.mk pm fun _ => ?_
        refine Need.mk (leavesPre_n rfl hok0.po hok0.pn) fun _ => ?_
        refine Need.mk (leavesPre_n rfl hok0.co hok0.cn) fun _ => ?_
        rw [leavesL_n rfl hok0.po, leavesL_n rfl hok0.co]
        refine Need.mk (by show fitStd .i64 (stepsL pl + stepsL cl); unfold fitStd; omega) fun _ => ?_
        refine Need.mk (by show fitStd .i64 (50 * (stepsL pl + stepsL cl)); unfold fitStd; omega) fun _ => ?_
        refine Need.mk (by show fitStd .i64 ((1000 + 3 * (B.length : Int)) + 50 * (stepsL pl + stepsL cl)); unfold fitStd; omega) fun _ => ?_
        refine Ife.yes (decide_eq_true hP) ?_
        refine Need.mk hl2.1 fun _ => Need.mk pm fun _ => ?_
        refine Need.mk (by show fitStd .i64 (2 * priceM ⟨k, hh, ht, hr, ⟨sp, sc, dp, dc, sq, da, th, ta⟩, ack, nx, hg, pc, pl, cc, cl⟩); unfold fitStd; omega) fun _ => ?_
        refine Ife.yes (decide_eq_true ((congrArg totalM hl2.2).trans (total_two ⟨k, hh, ht, hr, ⟨sp, sc, dp, dc, sq, da, th, ta⟩, ack, nx, hg, pc, pl, cc, cl⟩))) ?_
        refine Need.mk msgsPre_zero fun _ => ?_
        exact ⟨[0, 1], ⟨rfl, by repeat' (first | exact trivial | exact (decide_eq_true rfl) | exact (congrArg CV.bool (decide_eq_true rfl)) | exact (congrArg (fun b => SV.c (CV.bool b)) (decide_eq_true rfl)) | exact rfl | apply And.intro | exact (fun _ _ _ _ => Cell.le_refl _) | (intro i hi; rfl) | (intro i hi; exact absurd hi (Nat.not_lt_zero _))), by decide, rfl, by repeat' (first | exact trivial | exact (decide_eq_true rfl) | exact (congrArg CV.bool (decide_eq_true rfl)) | exact (congrArg (fun b => SV.c (CV.bool b)) (decide_eq_true rfl)) | exact rfl | apply And.intro | exact (fun _ _ _ _ => Cell.le_refl _) | (intro i hi; rfl) | (intro i hi; exact absurd hi (Nat.not_lt_zero _)))⟩⟩
      · refine Need.mk (by show fitStd .i64 (3 * (B.length : Int)); unfold fitStd; omega) fun _ => ?_
        refine Need.mk (by show fitStd .i64 (1000 + 3 * (B.length : Int)); unfold fitStd; omega) fun _ => ?_
        refine Need.mk pm fun _ => ?_
        refine Need.mk (leavesPre_n rfl hok0.po hok0.pn) fun _ => ?_
        refine Need.mk (leavesPre_n rfl hok0.co hok0.cn) fun _ => ?_
        rw [leavesL_n rfl hok0.po, leavesL_n rfl hok0.co]
        refine Need.mk (by show fitStd .i64 (stepsL pl + stepsL cl); unfold fitStd; omega) fun _ => ?_
        refine Need.mk (by show fitStd .i64 (50 * (stepsL pl + stepsL cl)); unfold fitStd; omega) fun _ => ?_
        refine Need.mk (by show fitStd .i64 ((1000 + 3 * (B.length : Int)) + 50 * (stepsL pl + stepsL cl)); unfold fitStd; omega) fun _ => ?_
        refine Ife.yes (decide_eq_true hP) ?_
        refine Need.mk hl2.1 fun _ => Need.mk pm fun _ => ?_
        refine Need.mk (by show fitStd .i64 (2 * priceM ⟨k, hh, ht, hr, ⟨sp, sc, dp, dc, sq, da, th, ta⟩, ack, nx, hg, pc, pl, cc, cl⟩); unfold fitStd; omega) fun _ => ?_
        refine Ife.yes (decide_eq_true ((congrArg totalM hl2.2).trans (total_two ⟨k, hh, ht, hr, ⟨sp, sc, dp, dc, sq, da, th, ta⟩, ack, nx, hg, pc, pl, cc, cl⟩))) ?_
        refine Need.mk msgsPre_zero fun _ => ?_
        exact ⟨[0, 1], ⟨rfl, by repeat' (first | exact trivial | exact (decide_eq_true rfl) | exact (congrArg CV.bool (decide_eq_true rfl)) | exact (congrArg (fun b => SV.c (CV.bool b)) (decide_eq_true rfl)) | exact rfl | apply And.intro | exact (fun _ _ _ _ => Cell.le_refl _) | (intro i hi; rfl) | (intro i hi; exact absurd hi (Nat.not_lt_zero _))), by decide, rfl, by repeat' (first | exact trivial | exact (decide_eq_true rfl) | exact (congrArg CV.bool (decide_eq_true rfl)) | exact (congrArg (fun b => SV.c (CV.bool b)) (decide_eq_true rfl)) | exact rfl | apply And.intro | exact (fun _ _ _ _ => Cell.le_refl _) | (intro i hi; rfl) | (intro i hi; exact absurd hi (Nat.not_lt_zero _)))⟩⟩
    · refine Need.mk (by show fitStd .i64 (3 * (B.length : Int)); unfold fitStd; omega) fun _ => ?_
      refine Need.mk (by show fitStd .i64 (1000 + 3 * (B.length : Int)); unfold fitStd; omega) fun _ => ?_
      refine Need.mk pm fun _ => ?_
      refine Need.mk (leavesPre_n rfl hok0.po hok0.pn) fun _ => ?_
      refine Need.mk (leavesPre_n rfl hok0.co hok0.cn) fun _ => ?_
      rw [leavesL_n rfl hok0.po, leavesL_n rfl hok0.co]
      refine Need.mk (by show fitStd .i64 (stepsL pl + stepsL cl); unfold fitStd; omega) fun _ => ?_
      refine Need.mk (by show fitStd .i64 (50 * (stepsL pl + stepsL cl)); unfold fitStd; omega) fun _ => ?_
      refine Need.mk (by show fitStd .i64 ((1000 + 3 * (B.length : Int)) + 50 * (stepsL pl + stepsL cl)); unfold fitStd; omega) fun _ => ?_
      refine Ife.yes (decide_eq_true hP) ?_
      refine Need.mk hl2.1 fun _ => Need.mk pm fun _ => ?_
      refine Need.mk (by show fitStd .i64 (2 * priceM ⟨k, hh, ht, hr, ⟨sp, sc, dp, dc, sq, da, th, ta⟩, ack, nx, hg, pc, pl, cc, cl⟩); unfold fitStd; omega) fun _ => ?_
      refine Ife.yes (decide_eq_true ((congrArg totalM hl2.2).trans (total_two ⟨k, hh, ht, hr, ⟨sp, sc, dp, dc, sq, da, th, ta⟩, ack, nx, hg, pc, pl, cc, cl⟩))) ?_
      refine Need.mk msgsPre_zero fun _ => ?_
      exact ⟨[0, 1], ⟨rfl, by repeat' (first | exact trivial | exact (decide_eq_true rfl) | exact (congrArg CV.bool (decide_eq_true rfl)) | exact (congrArg (fun b => SV.c (CV.bool b)) (decide_eq_true rfl)) | exact rfl | apply And.intro | exact (fun _ _ _ _ => Cell.le_refl _) | (intro i hi; rfl) | (intro i hi; exact absurd hi (Nat.not_lt_zero _))), by decide, rfl, by repeat' (first | exact trivial | exact (decide_eq_true rfl) | exact (congrArg CV.bool (decide_eq_true rfl)) | exact (congrArg (fun b => SV.c (CV.bool b)) (decide_eq_true rfl)) | exact rfl | apply And.intro | exact (fun _ _ _ _ => Cell.le_refl _) | (intro i hi; rfl) | (intro i hi; exact absurd hi (Nat.not_lt_zero _)))⟩⟩

end Go.Proofs.Ytcgoaicifjndpaa.Vx
namespace Go.Proofs.Ytcgoaicifjndpaa
open Go.RowKit
set_option linter.unusedVariables false
theorem gasMoreWalk (w : World) (l : List Value) (m : Vx.PMsg) (hm : MsgIn w l m) :
    Calls Try.prog 7 #[.agg l.toArray] w fun e w' => e = .returned (.bool true) ∧ Below w.heap.size w w' := by
  obtain ⟨q, hq, r1⟩ := Vx.Rel.addLeaves (Vx.Rel.refl w) hm.pl
  obtain ⟨q', hq', r2⟩ := Vx.Rel.addLeaves r1 hm.cl
  have d : Vx.CV.den [q, q'] (.row 0) = some hm.v := Vx.leaves_den hm.pl hq
  have d' : Vx.CV.den [q, q'] (.row 1) = some hm.v' := Vx.leaves_den hm.cl hq'
  refine Calls.mono (Vx.gasMoreP.run [.agg (Vx.msgC m (.row 0) (.row 1))] [.data false 140 4 m.pl.length (Vx.leafG false m.pl), .data false 140 4 m.cl.length (Vx.leafG false m.cl)] _ _ _ rfl (Vx.msgIn_pre hm) [q, q'] w _ r2 ⟨_, _, rfl, ⟨l, hm.is d d', rfl⟩, rfl⟩) fun e W' he => ?_
  obtain ⟨u, ρ', rfl, hu, hr⟩ := he
  obtain rfl : .bool true = u := Option.some.inj hu
  exact ⟨rfl, Vx.Rel.toBelow hr⟩
end Go.Proofs.Ytcgoaicifjndpaa
