/- What messages cost, by the walker. -/
import Derived.Test.YtcgoaicifjndpaaM43
import Derived.Test.YtcgoaicifjndpaaGasWalks
namespace Go.Proofs.Ytcgoaicifjndpaa.Vx
open Go.RowKit
set_option linter.unusedVariables false
set_option linter.unusedSimpArgs false
def priceM (m : PMsg) : Int := if mayM m then 1000 + 3 * ((msgB m).length : Int) + 50 * (stepsL m.pl + stepsL m.cl) else 0
def totalM (L : List PMsg) : Int := (L.map priceM).sum
theorem sum_small : ∀ {l : List PLeaf}, (∀ x ∈ l, (x.p.length : Int) ≤ 30) → 0 ≤ (l.map fun x => (x.p.length : Int)).sum ∧ (l.map fun x => (x.p.length : Int)).sum ≤ 30 * (l.length : Int)
  | [], _ => by simp
  | x :: l, h => by
    have a := sum_small (l := l) fun y hy => h y (by simp [hy])
    have b := h x (by simp)
    simp only [List.map_cons, List.sum_cons, List.length_cons]
    omega
theorem steps_small {p : Int × List PLeaf} (h : proofV p) : 0 ≤ stepsL p.2 ∧ stepsL p.2 ≤ 62 := by
  have a := sum_small (l := p.2) fun x hx => (h.2.2 x hx).2.2.2.1.2
  have b := h.2.1
  unfold stepsL
  omega
theorem may_steps {m : PMsg} (h : mayM m = true) (ho : MsgOk m) : (0 ≤ stepsL m.pl ∧ stepsL m.pl ≤ 62) ∧ 0 ≤ stepsL m.cl ∧ stepsL m.cl ≤ 62 := by
  obtain ⟨-, -, -, -, -, -, h6, h7⟩ := mayM_V h ho
  have z : 0 ≤ stepsL [] ∧ stepsL [] ≤ 62 := ⟨by decide, by decide⟩
  refine ⟨?_, ?_⟩
  · split at h6
    · exact steps_small h6
    · have : m.pl = [] := congrArg (fun z : Int × List PLeaf => z.2) h6
      rw [this]; exact z
  · split at h7
    · exact steps_small h7
    · have : m.cl = [] := congrArg (fun z : Int × List PLeaf => z.2) h7
      rw [this]; exact z
theorem price_yes {m : PMsg} (h : mayM m = true) : priceM m = 1000 + 3 * ((msgB m).length : Int) + 50 * (stepsL m.pl + stepsL m.cl) := by unfold priceM; rw [if_pos h]
theorem price_no {m : PMsg} (h : mayM m = false) : priceM m = 0 := by unfold priceM; rw [h]; rfl
theorem price_may {m : PMsg} (h : mayM m = true) (ho : MsgOk m) : 1003 ≤ priceM m ∧ priceM m ≤ 30000 := by
  have a := may_steps h ho
  have b := msgB_small (mayM_V h ho)
  have c := List.length_pos_iff.2 (msgB_ne h ho)
  rw [price_yes h]
  omega
theorem price_rng {m : PMsg} (ho : MsgOk m) : 0 ≤ priceM m ∧ priceM m ≤ 30000 := by
  cases h : mayM m
  · rw [price_no h]; decide
  · have := price_may h ho
    omega
theorem total_rng : ∀ {L : List PMsg}, (∀ m ∈ L, MsgOk m) → 0 ≤ totalM L ∧ totalM L ≤ 30000 * (L.length : Int)
  | [], _ => by simp [totalM]
  | m :: L, h => by
    have a := total_rng (L := L) fun y hy => h y (by simp [hy])
    have b := price_rng (h m (by simp))
    unfold totalM at a ⊢
    simp only [List.map_cons, List.sum_cons, List.length_cons]
    omega
theorem total_take {L : List PMsg} {k : Nat} (h : k < L.length) : totalM (L.take (k + 1)) = totalM (L.take k) + priceM (gM L k) := by
  have e : L.take (k + 1) = L.take k ++ [L[k]] := List.take_succ_eq_append_getElem h
  unfold totalM
  rw [gM_eq h, e, List.map_append, List.sum_append, List.map_singleton, List.sum_singleton]
/-- The cost of the first messages. -/
structure LGs (L : List PMsg) where
  i : Int
  k : Nat
  s : Int
  hk : i = (k : Int)
  h1 : k ≤ L.length
  hs : s = totalM (L.take k)
def sTrue17 : List SV → Option (Prop × SV)
  | [] => some (True, .c .tt)
  | _ => none
theorem first17P : Pure Try.prog 43 sTrue17 := by
  refine ⟨by kernel_rfl, fun args pre r h hp us hs W => ?_⟩
  unfold sTrue17 at h
  split at h
  rotate_left
  · cases h
  cases h
  cases hs
  refine Calls.mono (gasFirst W) fun e W' he => ?_
  obtain ⟨rfl, hb⟩ := he
  exact ⟨_, rfl, rfl, hb⟩

def sPriceM : SpecF
  | [.agg cs], [.data fr ty sz n get, .data fr' ty' sz' n' get'] => some (msgPre cs (.row 0) (.row 1) ty sz n get ty' sz' n' get', .c (.int .i64 (priceM (msgOf cs n get n' get'))), [.dead, .dead])
  | _, _ => none

set_option maxRecDepth 100000 in
set_option maxHeartbeats 16000000 in
theorem priceP : Fn Try.prog 45 [] [(140, 204), (140, 204)] sPriceM := by
  have hC : CtsOk Try.prog [(50, appFn [] [(140, 204), (140, 204)] sMayM), (51, appFn [] [(140, 204), (140, 204)] sSizeM), (52, appFn [] [(140, 204)] sSteps)] := CtsOk.cons (Fn.ct mayMP) <| CtsOk.cons (Fn.ct sizeMP) <| CtsOk.cons (Fn.ct stepsP) <| CtsOk.nil _
  refine Fn.of (E := tbR) [] 0 [(3, [(0, true), (4, true), (5, true), (7, true), (8, true), (1, false), (2, true), (3, true), (6, false), (9, false), (10, true), (11, true), (12, true), (13, true)])] tbR_ok hC (by kernel_rfl) Try.func45 rfl rfl rfl (by kernel_rfl) (by kernel_rfl) 2 5 1 ?_ ?_
  · intro args h pre r h' hs
    unfold sPriceM at hs
    split at hs
    · cases hs; exact ⟨rfl, rfl, Nat.le_of_ble_eq_true rfl⟩
    · cases hs
  · intro args h pre r h' hs hp
    unfold sPriceM at hs
    split at hs
    rotate_left
    · cases hs
    rename_i cs fr ty sz n get fr' ty' sz' n' get'
    cases hs
    obtain ⟨hcs, ⟨rfl, rfl, hst, hok, hm⟩, ⟨rfl, rfl, hst', hok', hm'⟩, hfit⟩ := hp
    refine ⟨[.data fr 140 4 n (leafG false (leafL n get)), .data fr' 140 4 n' (leafG false (leafL n' get'))], ⟨⟨rfl, rfl, rfl, rfl, fun i j hi hj => by rw [hst i j hi hj]; exact Cell.le_refl _⟩, ⟨rfl, rfl, rfl, rfl, fun i j hi hj => by rw [hst' i j hi hj]; exact Cell.le_refl _⟩, trivial⟩, ?_⟩
    have hL : (leafL n get).length = n := leafL_len
    have hL' : (leafL n' get').length = n' := leafL_len
    have e1 : (msgOf cs n get n' get').pl = leafL n get := rfl
    have e2 : (msgOf cs n get n' get').cl = leafL n' get' := rfl
    generalize msgOf cs n get n' get' = m at *
    subst hcs
    obtain ⟨k, hh, ht, hr, ⟨sp, sc, dp, dc, sq, da, th, ta⟩, ack, nx, hg, pc, pl, cc, cl⟩ := m
    replace e1 : pl = leafL n get := e1
    replace e2 : cl = leafL n' get' := e2
    clear hst hst'
    subst e1 e2
    generalize leafL n get = pl at *
    generalize leafL n' get' = cl at *
    have hok0 : MsgOk ⟨k, hh, ht, hr, ⟨sp, sc, dp, dc, sq, da, th, ta⟩, ack, nx, hg, pc, pl, cc, cl⟩ := ⟨hfit, hok, hok', by show pl.length ≤ _; omega, by show cl.length ≤ _; omega⟩
    obtain ⟨hpk, hack, hrl, hrb⟩ := hfit
    replace hack : ack.length ≤ 1000000000 := hack
    replace hrl : hr.length = 32 := hrl
    replace hrb : ∀ b ∈ hr, 0 ≤ b ∧ b < 256 := hrb
    unfold sMayM sSizeM sSteps
    generalize hg0 : (List.length : List UInt8 → Nat) = g0
    try unfold leafG
    try unfold msgC
    generalize ho0 : @lK = zo0, ho1 : @lV = zo1, ho2 : @lI = zo2, ho3 : @lP = zo3, ho4 : @lN = zo4, ho5 : @pG = zo5, ho6 : @leafL = zo6, ho7 : @leavesPre = zo7, ho8 : @rN = zo8, ho9 : @msgPre = zo9, ho10 : @mayM = zo10, ho11 : @msgOf = zo11, ho12 : @msgB = zo12, ho13 : @encMsg = zo13, ho14 : @stepsL = zo14, ho15 : @priceM = zo15
    generalize hA : Arith.std = A
    cbv
    subst hA hg0 ho0 ho1 ho2 ho3 ho4 ho5 ho6 ho7 ho8 ho9 ho10 ho11 ho12 ho13 ho14 ho15
    refine Need.mk (msgPre_n (m := ⟨k, hh, ht, hr, ⟨sp, sc, dp, dc, sq, da, th, ta⟩, ack, nx, hg, pc, pl, cc, cl⟩) hok0 hL hL') fun _ => ?_
    have z := msgOf_n (m := ⟨k, hh, ht, hr, ⟨sp, sc, dp, dc, sq, da, th, ta⟩, ack, nx, hg, pc, pl, cc, cl⟩) (a := .row 0) (b := .row 1) (fr := false) (fr' := false) hok0 hL hL'
    simp only [msgC, msgCP, h32, pkC, List.cons_append, List.nil_append] at z
    rw [z]
    refine Ife.mk (fun hy => ?_) (fun hy => ?_)
    · replace hy : mayM ⟨k, hh, ht, hr, ⟨sp, sc, dp, dc, sq, da, th, ta⟩, ack, nx, hg, pc, pl, cc, cl⟩ = false := (Bool.not_eq_true' _).mp hy
      rw [price_no hy]
      exact ⟨[0, 1], ⟨rfl, by repeat' (first | exact trivial | exact rfl | apply And.intro | exact (fun _ _ _ _ => Cell.le_refl _) | (intro i hi; rfl) | (intro i hi; exact absurd hi (Nat.not_lt_zero _))), by decide, rfl, by repeat' (first | exact trivial | exact rfl | apply And.intro | exact (fun _ _ _ _ => Cell.le_refl _) | (intro i hi; rfl) | (intro i hi; exact absurd hi (Nat.not_lt_zero _)))⟩⟩
    replace hy : mayM ⟨k, hh, ht, hr, ⟨sp, sc, dp, dc, sq, da, th, ta⟩, ack, nx, hg, pc, pl, cc, cl⟩ = true := (Bool.not_eq_false' _).mp hy
    refine Need.mk (msgPre_n (m := ⟨k, hh, ht, hr, ⟨sp, sc, dp, dc, sq, da, th, ta⟩, ack, nx, hg, pc, pl, cc, cl⟩) hok0 hL hL') fun _ => ?_
    rw [encMsg_yes hy]
    have sm := may_steps hy hok0
    have bs := msgB_small (mayM_V hy hok0)
    have sp1 : 0 ≤ stepsL pl ∧ stepsL pl ≤ 62 := sm.1
    have sp2 : 0 ≤ stepsL cl ∧ stepsL cl ≤ 62 := sm.2
    rw [price_yes hy]
    generalize hB : msgB ⟨k, hh, ht, hr, ⟨sp, sc, dp, dc, sq, da, th, ta⟩, ack, nx, hg, pc, pl, cc, cl⟩ = B at *
    refine Need.mk (by show fitStd .i64 (3 * (B.length : Int)); unfold fitStd; omega) fun _ => ?_
    refine Need.mk (by show fitStd .i64 (1000 + 3 * (B.length : Int)); unfold fitStd; omega) fun _ => ?_
    refine Need.mk (leavesPre_n hL hok hm) fun _ => ?_
    refine Need.mk (leavesPre_n hL' hok' hm') fun _ => ?_
    rw [leavesL_n hL hok, leavesL_n hL' hok']
    refine Need.mk (by show fitStd .i64 (stepsL pl + stepsL cl); unfold fitStd; omega) fun _ => ?_
    refine Need.mk (by show fitStd .i64 (50 * (stepsL pl + stepsL cl)); unfold fitStd; omega) fun _ => ?_
    refine Need.mk (by show fitStd .i64 ((1000 + 3 * (B.length : Int)) + 50 * (stepsL pl + stepsL cl)); unfold fitStd; omega) fun _ => ?_
    exact ⟨[0, 1], ⟨rfl, by repeat' (first | exact trivial | exact rfl | apply And.intro | exact (fun _ _ _ _ => Cell.le_refl _) | (intro i hi; rfl) | (intro i hi; exact absurd hi (Nat.not_lt_zero _))), by decide, rfl, by repeat' (first | exact trivial | exact rfl | apply And.intro | exact (fun _ _ _ _ => Cell.le_refl _) | (intro i hi; rfl) | (intro i hi; exact absurd hi (Nat.not_lt_zero _)))⟩⟩

set_option maxRecDepth 100000 in
set_option maxHeartbeats 16000000 in
theorem rpriceP : Fn Try.prog 46 [] [(140, 204), (140, 204)] sPriceM := by
  have hC : CtsOk Try.prog [(65, appFn [] [(140, 204), (140, 204)] sEncM), (95, appFn [] [(140, 204)] sSteps)] := CtsOk.cons (Fn.ct rencMP) <| CtsOk.cons (Fn.ct rstepsP) <| CtsOk.nil _
  refine Fn.of (E := tbR) [] 0 [(4, [(0, true), (1, true), (2, true), (3, true), (4, true), (5, true), (7, true), (8, true), (6, false), (9, false), (10, true), (11, true), (12, true), (13, true)])] tbR_ok hC (by kernel_rfl) Try.func46 rfl rfl rfl (by kernel_rfl) (by kernel_rfl) 2 5 1 ?_ ?_
  · intro args h pre r h' hs
    unfold sPriceM at hs
    split at hs
    · cases hs; exact ⟨rfl, rfl, Nat.le_of_ble_eq_true rfl⟩
    · cases hs
  · intro args h pre r h' hs hp
    unfold sPriceM at hs
    split at hs
    rotate_left
    · cases hs
    rename_i cs fr ty sz n get fr' ty' sz' n' get'
    cases hs
    obtain ⟨hcs, ⟨rfl, rfl, hst, hok, hm⟩, ⟨rfl, rfl, hst', hok', hm'⟩, hfit⟩ := hp
    refine ⟨[.data fr 140 4 n (leafG false (leafL n get)), .data fr' 140 4 n' (leafG false (leafL n' get'))], ⟨⟨rfl, rfl, rfl, rfl, fun i j hi hj => by rw [hst i j hi hj]; exact Cell.le_refl _⟩, ⟨rfl, rfl, rfl, rfl, fun i j hi hj => by rw [hst' i j hi hj]; exact Cell.le_refl _⟩, trivial⟩, ?_⟩
    have hL : (leafL n get).length = n := leafL_len
    have hL' : (leafL n' get').length = n' := leafL_len
    have e1 : (msgOf cs n get n' get').pl = leafL n get := rfl
    have e2 : (msgOf cs n get n' get').cl = leafL n' get' := rfl
    generalize msgOf cs n get n' get' = m at *
    subst hcs
    obtain ⟨k, hh, ht, hr, ⟨sp, sc, dp, dc, sq, da, th, ta⟩, ack, nx, hg, pc, pl, cc, cl⟩ := m
    replace e1 : pl = leafL n get := e1
    replace e2 : cl = leafL n' get' := e2
    clear hst hst'
    subst e1 e2
    generalize leafL n get = pl at *
    generalize leafL n' get' = cl at *
    have hok0 : MsgOk ⟨k, hh, ht, hr, ⟨sp, sc, dp, dc, sq, da, th, ta⟩, ack, nx, hg, pc, pl, cc, cl⟩ := ⟨hfit, hok, hok', by show pl.length ≤ _; omega, by show cl.length ≤ _; omega⟩
    obtain ⟨hpk, hack, hrl, hrb⟩ := hfit
    replace hack : ack.length ≤ 1000000000 := hack
    replace hrl : hr.length = 32 := hrl
    replace hrb : ∀ b ∈ hr, 0 ≤ b ∧ b < 256 := hrb
    unfold sEncM sSteps
    generalize hg0 : (List.length : List UInt8 → Nat) = g0
    try unfold leafG
    try unfold msgC
    generalize ho0 : @lK = zo0, ho1 : @lV = zo1, ho2 : @lI = zo2, ho3 : @lP = zo3, ho4 : @lN = zo4, ho5 : @pG = zo5, ho6 : @leafL = zo6, ho7 : @leavesPre = zo7, ho8 : @rN = zo8, ho9 : @msgPre = zo9, ho10 : @mayM = zo10, ho11 : @msgOf = zo11, ho12 : @msgB = zo12, ho13 : @encMsg = zo13, ho14 : @stepsL = zo14, ho15 : @priceM = zo15
    generalize hA : Arith.std = A
    cbv
    subst hA hg0 ho0 ho1 ho2 ho3 ho4 ho5 ho6 ho7 ho8 ho9 ho10 ho11 ho12 ho13 ho14 ho15
    refine Need.mk (msgPre_n (m := ⟨k, hh, ht, hr, ⟨sp, sc, dp, dc, sq, da, th, ta⟩, ack, nx, hg, pc, pl, cc, cl⟩) hok0 hL hL') fun _ => ?_
    have z := msgOf_n (m := ⟨k, hh, ht, hr, ⟨sp, sc, dp, dc, sq, da, th, ta⟩, ack, nx, hg, pc, pl, cc, cl⟩) (a := .row 0) (b := .row 1) (fr := false) (fr' := false) hok0 hL hL'
    simp only [msgC, msgCP, h32, pkC, List.cons_append, List.nil_append] at z
    rw [z]
    by_cases hy : mayM ⟨k, hh, ht, hr, ⟨sp, sc, dp, dc, sq, da, th, ta⟩, ack, nx, hg, pc, pl, cc, cl⟩ = true
    rotate_left
    · rw [Bool.not_eq_true] at hy
      rw [encMsg_no hy, price_no hy]
      refine Ife.yes rfl ?_
      exact ⟨[0, 1], ⟨rfl, by repeat' (first | exact trivial | exact rfl | apply And.intro | exact (fun _ _ _ _ => Cell.le_refl _) | (intro i hi; rfl) | (intro i hi; exact absurd hi (Nat.not_lt_zero _))), by decide, rfl, by repeat' (first | exact trivial | exact rfl | apply And.intro | exact (fun _ _ _ _ => Cell.le_refl _) | (intro i hi; rfl) | (intro i hi; exact absurd hi (Nat.not_lt_zero _)))⟩⟩
    rw [encMsg_yes hy]
    refine Ife.no rfl ?_
    have sm := may_steps hy hok0
    have bs := msgB_small (mayM_V hy hok0)
    have sp1 : 0 ≤ stepsL pl ∧ stepsL pl ≤ 62 := sm.1
    have sp2 : 0 ≤ stepsL cl ∧ stepsL cl ≤ 62 := sm.2
    rw [price_yes hy]
    generalize hB : msgB ⟨k, hh, ht, hr, ⟨sp, sc, dp, dc, sq, da, th, ta⟩, ack, nx, hg, pc, pl, cc, cl⟩ = B at *
    refine Need.mk (by show fitStd .i64 (3 * (B.length : Int)); unfold fitStd; omega) fun _ => ?_
    refine Need.mk (by show fitStd .i64 (1000 + 3 * (B.length : Int)); unfold fitStd; omega) fun _ => ?_
    refine Need.mk (leavesPre_n hL hok hm) fun _ => ?_
    refine Need.mk (leavesPre_n hL' hok' hm') fun _ => ?_
    rw [leavesL_n hL hok, leavesL_n hL' hok']
    refine Need.mk (by show fitStd .i64 (stepsL pl + stepsL cl); unfold fitStd; omega) fun _ => ?_
    refine Need.mk (by show fitStd .i64 (50 * (stepsL pl + stepsL cl)); unfold fitStd; omega) fun _ => ?_
    refine Need.mk (by show fitStd .i64 ((1000 + 3 * (B.length : Int)) + 50 * (stepsL pl + stepsL cl)); unfold fitStd; omega) fun _ => ?_
    exact ⟨[0, 1], ⟨rfl, by repeat' (first | exact trivial | exact rfl | apply And.intro | exact (fun _ _ _ _ => Cell.le_refl _) | (intro i hi; rfl) | (intro i hi; exact absurd hi (Nat.not_lt_zero _))), by decide, rfl, by repeat' (first | exact trivial | exact rfl | apply And.intro | exact (fun _ _ _ _ => Cell.le_refl _) | (intro i hi; rfl) | (intro i hi; exact absurd hi (Nat.not_lt_zero _)))⟩⟩

def sTotalM : SpecF
  | [.c (.row 0)], [.data fr ty sz n get] => some (msgsPre ty sz n get, .c (.int .i64 (totalM (msgsL n get))), [.dead])
  | _, _ => none

set_option maxRecDepth 100000 in
set_option maxHeartbeats 16000000 in
theorem totalP : Fn Try.prog 48 [] [(74, 250)] sTotalM := by
  have hC : CtsOk Try.prog [(45, appFn [] [(140, 204), (140, 204)] sPriceM)] := CtsOk.cons (Fn.ct priceP) <| CtsOk.nil _
  refine Fn.of (E := tbR) [] 0 [] tbR_ok hC (by kernel_rfl) Try.func48 rfl rfl rfl (by kernel_rfl) (by kernel_rfl) 1 5 1 ?_ ?_
  · intro args h pre r h' hs
    unfold sTotalM at hs
    split at hs
    · cases hs; exact ⟨rfl, rfl, Nat.le_of_ble_eq_true rfl⟩
    · cases hs
  · intro args h pre r h' hs hp
    unfold sTotalM at hs
    split at hs
    rotate_left
    · cases hs
    rename_i fr ty sz n get
    cases hs
    obtain ⟨rfl, rfl, hst, hok, hm⟩ := hp
    refine ⟨[.data fr 74 50 n (msgG false (msgsL n get))], ⟨⟨rfl, rfl, rfl, rfl, fun i j hi hj => by rw [hst i j hi hj]; exact Cell.le_refl _⟩, trivial⟩, ?_⟩
    have hL : (msgsL n get).length = n := msgsL_len
    generalize msgsL n get = L at *
    clear hst
    have ho := gM_all hok zeroMsg_ok
    unfold sPriceM
    generalize hL : lft Try.prog _ = L
    try unfold leafG
    try unfold msgCl
    try unfold msgG
    try unfold msgC
    generalize ho0 : @lK = zo0, ho1 : @lV = zo1, ho2 : @lI = zo2, ho3 : @lP = zo3, ho4 : @lN = zo4, ho5 : @pG = zo5, ho6 : @rN = zo6, ho7 : @msgPre = zo7, ho8 : @lenL = zo8, ho9 : @msgOf = zo9, ho10 : @gM = zo10, ho11 : @msgsL = zo11, ho12 : @msgsPre = zo12, ho13 : @priceM = zo13, ho14 : @totalM = zo14
    generalize hA : Arith.std = A
    cbv
    subst hA hL ho0 ho1 ho2 ho3 ho4 ho5 ho6 ho7 ho8 ho9 ho10 ho11 ho12 ho13 ho14
    show Runs Try.prog 1 (.loop _) _ _
    refine loop_ruleL (N := env (lft Try.prog 1) 0 .std tbR [(45, appFn [] [(140, 204), (140, 204)] sPriceM)] []) rfl tbR_ok hC (fun c st K _ h => h) (by kernel_rfl) [] (X := LGs L)
      (S := fun x => ⟨[.c (.row 0), .any, .any, .c (.int .i64 x.s), .any, .any, .c (.row 0), .c (.int .i64 n), .c (.int .i64 x.i)] ++ List.replicate 9 .any, [.data fr 74 50 n (msgG false L)]⟩) (μ := fun x => L.length - x.k) ⟨0, 0, 0, rfl, by omega, by simp [totalM]⟩ (by kernel_rfl) [0] ?_ ?_
    · refine ⟨rfl, by show List.Nodup []; exact List.nodup_nil, ?_, ?_⟩ <;> repeat' (first | exact trivial | exact rfl | apply And.intro | exact (fun _ _ _ _ => Cell.le_refl _) | (intro i hi; rfl) | (intro i hi; exact absurd hi (Nat.not_lt_zero _)))
    rintro ⟨i, k, s, hk, h1, hs⟩
    replace hk : i = @Nat.cast Int instNatCastInt k := hk
    subst hk
    unfold sPriceM
    generalize hL : lft Try.prog _ = L
    try dsimp only
    try unfold leafG
    try unfold msgCl
    try unfold msgG
    try unfold msgC
    generalize ho0 : @lK = zo0, ho1 : @lV = zo1, ho2 : @lI = zo2, ho3 : @lP = zo3, ho4 : @lN = zo4, ho5 : @pG = zo5, ho6 : @rN = zo6, ho7 : @msgPre = zo7, ho8 : @lenL = zo8, ho9 : @msgOf = zo9, ho10 : @gM = zo10, ho11 : @msgsL = zo11, ho12 : @msgsPre = zo12, ho13 : @priceM = zo13, ho14 : @totalM = zo14
    generalize hA : Arith.std = A
    cbv
    subst hA hL ho0 ho1 ho2 ho3 ho4 ho5 ho6 ho7 ho8 ho9 ho10 ho11 ho12 ho13 ho14
    refine Ife.mk (fun hlt => ?_) (fun hlt => ?_)
    · replace hlt : (k : Int) < @Nat.cast Int instNatCastInt n := of_decide_eq_true (p := (k : Int) < (n : Int)) hlt
      have hkL : k < L.length := by omega
      refine Need.mk (show 0 ≤ (k : Int) ∧ (k : Int) < (n : Int) by omega) fun _ => Need.mk (show k < n by omega) fun _ => ?_
      refine Need.mk (msgPre_n (m := gM L k) (a := .row 0) (b := .row 1) (ho _) rfl rfl) fun _ => ?_
      generalize hE : priceM _ = E
      replace hE : priceM (gM L k) = E := (congrArg priceM (msgOf_g (a := .row 0) (b := .row 1) (ho k).raw)).symm.trans hE
      have r1 := total_rng (L := L.take k) fun m hm => hok m (List.mem_of_mem_take hm)
      have r2 := price_rng (ho k)
      have r3 : (L.take k).length = k := by rw [List.length_take]; omega
      refine Need.mk (by show fitStd .i64 (s + E); unfold fitStd; omega) fun _ => ?_
      refine Need.mk (by show fitStd .i64 ((k : Int) + 1); unfold fitStd; omega) fun _ => ?_
      refine ⟨⟨(k : Int) + 1, k + 1, s + E, by omega, by omega, by rw [total_take hkL, ← hs, hE]⟩, [0], (by show L.length - (k + 1) < L.length - k; omega), ?_⟩
      refine ⟨rfl, by show List.Nodup []; exact List.nodup_nil, ?_, ?_⟩ <;> repeat' (first | exact trivial | exact rfl | apply And.intro | exact (fun _ _ _ _ => Cell.le_refl _) | (intro i hi; rfl) | (intro i hi; exact absurd hi (Nat.not_lt_zero _)))
    · replace hlt : ¬ (k : Int) < @Nat.cast Int instNatCastInt n := of_decide_eq_false (p := (k : Int) < (n : Int)) hlt
      rw [show totalM L = s by rw [hs, List.take_of_length_le (by omega)]]
      exact ⟨[0], ⟨rfl, by repeat' (first | exact trivial | exact rfl | apply And.intro | exact (fun _ _ _ _ => Cell.le_refl _) | (intro i hi; rfl) | (intro i hi; exact absurd hi (Nat.not_lt_zero _))), by decide, rfl, by repeat' (first | exact trivial | exact rfl | apply And.intro | exact (fun _ _ _ _ => Cell.le_refl _) | (intro i hi; rfl) | (intro i hi; exact absurd hi (Nat.not_lt_zero _)))⟩⟩

end Go.Proofs.Ytcgoaicifjndpaa.Vx
