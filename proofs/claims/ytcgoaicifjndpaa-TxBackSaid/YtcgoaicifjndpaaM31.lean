/- Messages written, by the walker. -/
import Derived.Test.YtcgoaicifjndpaaM30
import Derived.Test.YtcgoaicifjndpaaM15
section
namespace Go.Proofs.Ytcgoaicifjndpaa.Vx
open Go.RowKit
set_option linter.unusedVariables false
set_option linter.unusedSimpArgs false
def wMsgPre (t e : Nat) (m : PMsg) (l : List UInt8) : Prop := t = 190 ∧ e = 5 ∧ msgV m ∧ l.length ≤ 1000
theorem wPk_len0 {p : Pkt} (h : pkV p) (s : WS) : (wPk p s).1.length ≤ s.1.length + 400 := by
  obtain ⟨⟨h1, -⟩, ⟨h2, -⟩, -, h3, -⟩ := h
  unfold wPk
  have a1 := wT_len p.sp s
  have a2 := wN_len p.sc (wT p.sp s)
  have a3 := wT_len p.dp (wN p.sc (wT p.sp s))
  have a4 := wN_len p.dc (wT p.dp (wN p.sc (wT p.sp s)))
  have a5 := wN_len p.seq (wN p.dc (wT p.dp (wN p.sc (wT p.sp s))))
  have a6 := wT_len p.data (wN p.seq (wN p.dc (wT p.dp (wN p.sc (wT p.sp s)))))
  have a7 := wN_len p.th (wT p.data (wN p.seq (wN p.dc (wT p.dp (wN p.sc (wT p.sp s))))))
  have a8 := wN_len p.ta (wN p.th (wT p.data (wN p.seq (wN p.dc (wT p.dp (wN p.sc (wT p.sp s)))))))
  omega
theorem pkV_fit {p : Pkt} (h : pkV p) {l : List UInt8} (hl : l.length ≤ 10000000) : fitPk p l := by
  obtain ⟨⟨h1, h2, h3⟩, ⟨h4, h5, h6⟩, ⟨h7, h8⟩, h9, ⟨h10, h11⟩, h12, h13⟩ := h
  refine ⟨hl, by omega, by omega, by omega, ?_, ?_, ?_, ?_, ?_⟩ <;> unfold isI64 <;> omega
def sWMsg : SpecF
  | [.c (.ptr 0 0), .agg cs], [.cells t [.row 1, .bool b], .bytes e l, .data fr ty sz n get, .data fr' ty' sz' n' get'] => some (wMsgPre t e (msgOf cs n get n' get') l ∧ msgPre cs (.row 2) (.row 3) ty sz n get ty' sz' n' get', .tup [], [.cells 190 [.row 4, .bool (wMsg (msgOf cs n get n' get') (l, b)).2], .dead, .dead, .dead, .bytes 5 (wMsg (msgOf cs n get n' get') (l, b)).1])
  | _, _ => none

set_option maxRecDepth 100000 in
set_option maxHeartbeats 16000000 in
theorem wMsgP : Fn Try.prog 110 [] [(140, 204), (140, 204)] sWMsg := by
  have hC : CtsOk Try.prog [(132, appW 190 5 sNum), (133, appW 190 5 sWText), (155, appW 190 5 sHashW), (156, appW 190 5 sPkW), (119, appPure sNextK), (157, appFn [] [(140, 204)] sWProof)] := CtsOk.cons (MethW.ct numP) <| CtsOk.cons (MethW.ct wTextP) <| CtsOk.cons (MethW.ct hashWP) <| CtsOk.cons (MethW.ct pkWP) <| CtsOk.cons (Pure.ct nextKP) <| CtsOk.cons (Fn.ct wProofP) <| CtsOk.nil _
  refine Fn.of (E := tbR) [] 0 [] tbR_ok hC (by kernel_rfl) Try.func110 rfl rfl rfl (by kernel_rfl) (by kernel_rfl) 4 5 1 ?_ ?_
  · intro args h pre r h' hs
    unfold sWMsg at hs
    split at hs
    · cases hs; exact ⟨rfl, rfl, Nat.le_of_ble_eq_true rfl⟩
    · cases hs
  · intro args h pre r h' hs hp
    unfold sWMsg at hs
    split at hs
    rotate_left
    · cases hs
    rename_i cs t b e l fr ty sz n get fr' ty' sz' n' get'
    cases hs
    obtain ⟨⟨rfl, rfl, hV, hl⟩, hcs, ⟨rfl, rfl, hst, hok, hm⟩, ⟨rfl, rfl, hst', hok', hm'⟩, hfit⟩ := hp
    refine ⟨[.cells 190 [.row 1, .bool b], .bytes 5 l, .data fr 140 4 n (leafG false (leafL n get)), .data fr' 140 4 n' (leafG false (leafL n' get'))], ⟨rfl, rfl, ⟨rfl, rfl, rfl, rfl, fun i j hi hj => by rw [hst i j hi hj]; exact Cell.le_refl _⟩, ⟨rfl, rfl, rfl, rfl, fun i j hi hj => by rw [hst' i j hi hj]; exact Cell.le_refl _⟩, trivial⟩, ?_⟩
    have hL : (leafL n get).length = n := leafL_len
    have hL' : (leafL n' get').length = n' := leafL_len
    have e1 : (msgOf cs n get n' get').pl = leafL n get := rfl
    have e2 : (msgOf cs n get n' get').cl = leafL n' get' := rfl
    generalize msgOf cs n get n' get' = m at *
    subst hcs
    obtain ⟨k, hh, ht, hr, ⟨sp, sc, dp, dc, sq, da, th, ta⟩, ack, nx, hg, pc, pl, cc, cl⟩ := m
    replace e1 : pl = leafL n get := e1
    replace e2 : cl = leafL n' get' := e2
    clear hst hst'
    subst e1 e2
    generalize leafL n get = pl at *
    generalize leafL n' get' = cl at *
    obtain ⟨hpk, hack, hrl, hrb⟩ := hfit
    replace hack : ack.length ≤ 1000000000 := hack
    replace hrl : hr.length = 32 := hrl
    replace hrb : ∀ b ∈ hr, 0 ≤ b ∧ b < 256 := hrb
    obtain ⟨hk, v1, v2, v3, v4, v5, v6, v7⟩ := hV
    replace hk : 1 ≤ k ∧ k ≤ 5 := hk
    have hk : k = 1 ∨ k = 2 ∨ k = 3 ∨ k = 4 ∨ k = 5 := by omega
    have v3n : k = 3 → ack.length ≤ 32 := fun h => by
      subst h
      replace v3 : (ack.length : Int) ≤ 32 := v3
      omega
    rcases hk with rfl | rfl | rfl | rfl | rfl
    · unfold sNum sWText sHashW sPkW sNextK sWProof
      generalize hg0 : (List.length : List UInt8 → Nat) = g0
      try unfold leafG
      try unfold msgC
      generalize ho0 : @lK = zo0, ho1 : @lV = zo1, ho2 : @lI = zo2, ho3 : @lP = zo3, ho4 : @lN = zo4, ho5 : @pG = zo5, ho6 : @leafL = zo6, ho7 : @leavesPre = zo7, ho8 : @rN = zo8, ho9 : @msgPre = zo9, ho10 : @nextB = zo10, ho11 : @msgOf = zo11, ho12 : @wN = zo12, ho13 : @wT = zo13, ho14 : @wH = zo14, ho15 : @wProof = zo15, ho16 : @wPk = zo16, ho17 : @wMsg = zo17, ho18 : @prWPre = zo18, ho19 : @hashOf = zo19, ho20 : @putW = zo20, ho21 : @numW = zo21, ho22 : @numBad = zo22, ho23 : @textW = zo23, ho24 : @fitNum = zo24, ho25 : @fitText = zo25, ho26 : @fitPk = zo26, ho27 : @isI64 = zo27
      generalize hA : Arith.std = A
      cbv
      subst hA hg0 ho0 ho1 ho2 ho3 ho4 ho5 ho6 ho7 ho8 ho9 ho10 ho11 ho12 ho13 ho14 ho15 ho16 ho17 ho18 ho19 ho20 ho21 ho22 ho23 ho24 ho25 ho26 ho27
      replace hl : l.length ≤ 1000 := hl
      have a1 := wN_len 1 (l, b)
      dsimp only at a1
      refine Need.mk (show fitNum l 1 from ⟨by unfold isI64; omega, by omega⟩) fun _ => ?_
      refine Ife.mk (fun _ => ?_) (fun h => absurd (show (1 : Int) = 1 by decide) (of_decide_eq_false (p := (1 : Int) = 1) h))
      replace v1 : hdrV (hh, ht, hr) := v1
      obtain ⟨⟨c1, c2⟩, ⟨c3, c4⟩, -⟩ := v1
      dsimp only at c1 c2 c3 c4
      have a2 := wN_len hh (wN 1 (l, b))
      have a3 := wN_len ht (wN hh (wN 1 (l, b)))
      refine Need.mk (show fitNum (wN 1 (l, b)).1 hh from ⟨by unfold isI64; omega, by omega⟩) fun _ => ?_
      refine Need.mk (show fitNum (wN hh (wN 1 (l, b))).1 ht from ⟨by unfold isI64; omega, by omega⟩) fun _ => ?_
      refine Need.mk (show (wN ht (wN hh (wN 1 (l, b)))).1.length ≤ 140737488355000 by omega) fun _ => ?_
      have e := list32 hrl
      rw [show wMsg ⟨1, hh, ht, hr, ⟨sp, sc, dp, dc, sq, da, th, ta⟩, ack, nx, hg, pc, pl, cc, cl⟩ (l, b) = (putW (wN ht (wN hh (wN 1 (l, b)))).1 (hashOf [rN hr 0, rN hr 1, rN hr 2, rN hr 3, rN hr 4, rN hr 5, rN hr 6, rN hr 7, rN hr 8, rN hr 9, rN hr 10, rN hr 11, rN hr 12, rN hr 13, rN hr 14, rN hr 15, rN hr 16, rN hr 17, rN hr 18, rN hr 19, rN hr 20, rN hr 21, rN hr 22, rN hr 23, rN hr 24, rN hr 25, rN hr 26, rN hr 27, rN hr 28, rN hr 29, rN hr 30, rN hr 31]) (wN ht (wN hh (wN 1 (l, b)))).2, (wN ht (wN hh (wN 1 (l, b)))).2) from by
        show wH hr _ = _
        unfold wH
        rw [show [rN hr 0, rN hr 1, rN hr 2, rN hr 3, rN hr 4, rN hr 5, rN hr 6, rN hr 7, rN hr 8, rN hr 9, rN hr 10, rN hr 11, rN hr 12, rN hr 13, rN hr 14, rN hr 15, rN hr 16, rN hr 17, rN hr 18, rN hr 19, rN hr 20, rN hr 21, rN hr 22, rN hr 23, rN hr 24, rN hr 25, rN hr 26, rN hr 27, rN hr 28, rN hr 29, rN hr 30, rN hr 31] = hr from e]]
      simp only [wN]
      exact ⟨[0, 1, 2, 3, 8], ⟨rfl, by repeat' (first | exact trivial | exact rfl | apply And.intro | exact (fun _ _ _ _ => Cell.le_refl _) | (intro i hi; rfl) | (intro i hi; exact absurd hi (Nat.not_lt_zero _))), (by show List.Nodup [0, 8]; decide), rfl, by repeat' (first | exact trivial | exact rfl | apply And.intro | exact (fun _ _ _ _ => Cell.le_refl _) | (intro i hi; rfl) | (intro i hi; exact absurd hi (Nat.not_lt_zero _)))⟩⟩
    · unfold sNum sWText sHashW sPkW sNextK sWProof
      generalize hg0 : (List.length : List UInt8 → Nat) = g0
      try unfold leafG
      try unfold msgC
      generalize ho0 : @lK = zo0, ho1 : @lV = zo1, ho2 : @lI = zo2, ho3 : @lP = zo3, ho4 : @lN = zo4, ho5 : @pG = zo5, ho6 : @leafL = zo6, ho7 : @leavesPre = zo7, ho8 : @rN = zo8, ho9 : @msgPre = zo9, ho10 : @nextB = zo10, ho11 : @msgOf = zo11, ho12 : @wN = zo12, ho13 : @wT = zo13, ho14 : @wH = zo14, ho15 : @wProof = zo15, ho16 : @wPk = zo16, ho17 : @wMsg = zo17, ho18 : @prWPre = zo18, ho19 : @hashOf = zo19, ho20 : @putW = zo20, ho21 : @numW = zo21, ho22 : @numBad = zo22, ho23 : @textW = zo23, ho24 : @fitNum = zo24, ho25 : @fitText = zo25, ho26 : @fitPk = zo26, ho27 : @isI64 = zo27
      generalize hA : Arith.std = A
      cbv
      subst hA hg0 ho0 ho1 ho2 ho3 ho4 ho5 ho6 ho7 ho8 ho9 ho10 ho11 ho12 ho13 ho14 ho15 ho16 ho17 ho18 ho19 ho20 ho21 ho22 ho23 ho24 ho25 ho26 ho27
      replace hl : l.length ≤ 1000 := hl
      have a1 := wN_len 2 (l, b)
      dsimp only at a1
      refine Need.mk (show fitNum l 2 from ⟨by unfold isI64; omega, by omega⟩) fun _ => ?_
      refine Ife.mk (fun h => absurd (of_decide_eq_true (p := (2 : Int) = 1) h) (by decide)) (fun _ => ?_)
      replace v2 : pkV (⟨sp, sc, dp, dc, sq, da, th, ta⟩ : Pkt) := v2
      refine Need.mk (show fitPk (⟨sp, sc, dp, dc, sq, da, th, ta⟩ : Pkt) (wN 2 (l, b)).1 from pkV_fit v2 (by omega)) fun _ => ?_
      have a2 := wPk_len0 v2 (wN 2 (l, b))
      refine Ife.mk (fun h => absurd (of_decide_eq_true (p := (2 : Int) = 3) h) (by decide)) (fun _ => ?_)
      refine Need.mk trivial fun _ => Ife.mk (fun h => absurd h (by decide)) (fun h => ?_)
      replace v5 : 1 ≤ hg ∧ hg ≤ 1099511627776 := v5
      have a5 := wN_len hg (wPk (⟨sp, sc, dp, dc, sq, da, th, ta⟩ : Pkt) (wN 2 (l, b)))
      refine Need.mk (show fitNum (wPk (⟨sp, sc, dp, dc, sq, da, th, ta⟩ : Pkt) (wN 2 (l, b))).1 hg from ⟨by unfold isI64; omega, by omega⟩) fun _ => ?_
      replace v6 : proofV (pc, pl) := v6
      have f6 : PrFit pc pl (wN hg (wPk (⟨sp, sc, dp, dc, sq, da, th, ta⟩ : Pkt) (wN 2 (l, b)))).1 := proofV_fit v6 (by omega)
      have g6 := leavesL_n (fr := false) hL hok
      refine Need.mk ⟨⟨rfl, rfl, by rw [g6]; exact f6⟩, leavesPre_n hL hok hm⟩ fun _ => ?_
      rw [g6]
      refine Ife.mk (fun h => absurd (of_decide_eq_true (p := (2 : Int) = 5) h) (by decide)) (fun _ => ?_)
      rw [show wMsg ⟨2, hh, ht, hr, ⟨sp, sc, dp, dc, sq, da, th, ta⟩, ack, nx, hg, pc, pl, cc, cl⟩ (l, b) = (wProof pc pl (wN hg (wPk (⟨sp, sc, dp, dc, sq, da, th, ta⟩ : Pkt) (wN 2 (l, b))))) from rfl]
      simp only [wH, wN, wT]
      exact ⟨[0, 1, 2, 3, 9], ⟨rfl, by repeat' (first | exact trivial | exact rfl | apply And.intro | exact (fun _ _ _ _ => Cell.le_refl _) | (intro i hi; rfl) | (intro i hi; exact absurd hi (Nat.not_lt_zero _))), (by show List.Nodup [0, 9]; decide), rfl, by repeat' (first | exact trivial | exact rfl | apply And.intro | exact (fun _ _ _ _ => Cell.le_refl _) | (intro i hi; rfl) | (intro i hi; exact absurd hi (Nat.not_lt_zero _)))⟩⟩
    · unfold sNum sWText sHashW sPkW sNextK sWProof
      generalize hg0 : (List.length : List UInt8 → Nat) = g0
      try unfold leafG
      try unfold msgC
      generalize ho0 : @lK = zo0, ho1 : @lV = zo1, ho2 : @lI = zo2, ho3 : @lP = zo3, ho4 : @lN = zo4, ho5 : @pG = zo5, ho6 : @leafL = zo6, ho7 : @leavesPre = zo7, ho8 : @rN = zo8, ho9 : @msgPre = zo9, ho10 : @nextB = zo10, ho11 : @msgOf = zo11, ho12 : @wN = zo12, ho13 : @wT = zo13, ho14 : @wH = zo14, ho15 : @wProof = zo15, ho16 : @wPk = zo16, ho17 : @wMsg = zo17, ho18 : @prWPre = zo18, ho19 : @hashOf = zo19, ho20 : @putW = zo20, ho21 : @numW = zo21, ho22 : @numBad = zo22, ho23 : @textW = zo23, ho24 : @fitNum = zo24, ho25 : @fitText = zo25, ho26 : @fitPk = zo26, ho27 : @isI64 = zo27
      generalize hA : Arith.std = A
      cbv
      subst hA hg0 ho0 ho1 ho2 ho3 ho4 ho5 ho6 ho7 ho8 ho9 ho10 ho11 ho12 ho13 ho14 ho15 ho16 ho17 ho18 ho19 ho20 ho21 ho22 ho23 ho24 ho25 ho26 ho27
      replace hl : l.length ≤ 1000 := hl
      have a1 := wN_len 3 (l, b)
      dsimp only at a1
      refine Need.mk (show fitNum l 3 from ⟨by unfold isI64; omega, by omega⟩) fun _ => ?_
      refine Ife.mk (fun h => absurd (of_decide_eq_true (p := (3 : Int) = 1) h) (by decide)) (fun _ => ?_)
      replace v2 : pkV (⟨sp, sc, dp, dc, sq, da, th, ta⟩ : Pkt) := v2
      refine Need.mk (show fitPk (⟨sp, sc, dp, dc, sq, da, th, ta⟩ : Pkt) (wN 3 (l, b)).1 from pkV_fit v2 (by omega)) fun _ => ?_
      have a2 := wPk_len0 v2 (wN 3 (l, b))
      have v3m := v3n rfl
      refine Ife.mk (fun _ => ?_) (fun h => absurd (show (3 : Int) = 3 by decide) (of_decide_eq_false (p := (3 : Int) = 3) h))
      have a3 := wT_len ack (wPk (⟨sp, sc, dp, dc, sq, da, th, ta⟩ : Pkt) (wN 3 (l, b)))
      refine Need.mk (show fitText (wPk (⟨sp, sc, dp, dc, sq, da, th, ta⟩ : Pkt) (wN 3 (l, b))).1 ack by unfold fitText; omega) fun _ => ?_
      refine Need.mk trivial fun _ => Ife.mk (fun h => absurd h (by decide)) (fun h => ?_)
      replace v5 : 1 ≤ hg ∧ hg ≤ 1099511627776 := v5
      have a5 := wN_len hg (wT ack (wPk (⟨sp, sc, dp, dc, sq, da, th, ta⟩ : Pkt) (wN 3 (l, b))))
      refine Need.mk (show fitNum (wT ack (wPk (⟨sp, sc, dp, dc, sq, da, th, ta⟩ : Pkt) (wN 3 (l, b)))).1 hg from ⟨by unfold isI64; omega, by omega⟩) fun _ => ?_
      replace v6 : proofV (pc, pl) := v6
      have f6 : PrFit pc pl (wN hg (wT ack (wPk (⟨sp, sc, dp, dc, sq, da, th, ta⟩ : Pkt) (wN 3 (l, b))))).1 := proofV_fit v6 (by omega)
      have g6 := leavesL_n (fr := false) hL hok
      refine Need.mk ⟨⟨rfl, rfl, by rw [g6]; exact f6⟩, leavesPre_n hL hok hm⟩ fun _ => ?_
      rw [g6]
      refine Ife.mk (fun h => absurd (of_decide_eq_true (p := (3 : Int) = 5) h) (by decide)) (fun _ => ?_)
      rw [show wMsg ⟨3, hh, ht, hr, ⟨sp, sc, dp, dc, sq, da, th, ta⟩, ack, nx, hg, pc, pl, cc, cl⟩ (l, b) = (wProof pc pl (wN hg (wT ack (wPk (⟨sp, sc, dp, dc, sq, da, th, ta⟩ : Pkt) (wN 3 (l, b)))))) from rfl]
      simp only [wH, wN, wT]
      exact ⟨[0, 1, 2, 3, 10], ⟨rfl, by repeat' (first | exact trivial | exact rfl | apply And.intro | exact (fun _ _ _ _ => Cell.le_refl _) | (intro i hi; rfl) | (intro i hi; exact absurd hi (Nat.not_lt_zero _))), (by show List.Nodup [0, 10]; decide), rfl, by repeat' (first | exact trivial | exact rfl | apply And.intro | exact (fun _ _ _ _ => Cell.le_refl _) | (intro i hi; rfl) | (intro i hi; exact absurd hi (Nat.not_lt_zero _)))⟩⟩
    · unfold sNum sWText sHashW sPkW sNextK sWProof
      generalize hg0 : (List.length : List UInt8 → Nat) = g0
      try unfold leafG
      try unfold msgC
      generalize ho0 : @lK = zo0, ho1 : @lV = zo1, ho2 : @lI = zo2, ho3 : @lP = zo3, ho4 : @lN = zo4, ho5 : @pG = zo5, ho6 : @leafL = zo6, ho7 : @leavesPre = zo7, ho8 : @rN = zo8, ho9 : @msgPre = zo9, ho10 : @nextB = zo10, ho11 : @msgOf = zo11, ho12 : @wN = zo12, ho13 : @wT = zo13, ho14 : @wH = zo14, ho15 : @wProof = zo15, ho16 : @wPk = zo16, ho17 : @wMsg = zo17, ho18 : @prWPre = zo18, ho19 : @hashOf = zo19, ho20 : @putW = zo20, ho21 : @numW = zo21, ho22 : @numBad = zo22, ho23 : @textW = zo23, ho24 : @fitNum = zo24, ho25 : @fitText = zo25, ho26 : @fitPk = zo26, ho27 : @isI64 = zo27
      generalize hA : Arith.std = A
      cbv
      subst hA hg0 ho0 ho1 ho2 ho3 ho4 ho5 ho6 ho7 ho8 ho9 ho10 ho11 ho12 ho13 ho14 ho15 ho16 ho17 ho18 ho19 ho20 ho21 ho22 ho23 ho24 ho25 ho26 ho27
      replace hl : l.length ≤ 1000 := hl
      have a1 := wN_len 4 (l, b)
      dsimp only at a1
      refine Need.mk (show fitNum l 4 from ⟨by unfold isI64; omega, by omega⟩) fun _ => ?_
      refine Ife.mk (fun h => absurd (of_decide_eq_true (p := (4 : Int) = 1) h) (by decide)) (fun _ => ?_)
      replace v2 : pkV (⟨sp, sc, dp, dc, sq, da, th, ta⟩ : Pkt) := v2
      refine Need.mk (show fitPk (⟨sp, sc, dp, dc, sq, da, th, ta⟩ : Pkt) (wN 4 (l, b)).1 from pkV_fit v2 (by omega)) fun _ => ?_
      have a2 := wPk_len0 v2 (wN 4 (l, b))
      refine Ife.mk (fun h => absurd (of_decide_eq_true (p := (4 : Int) = 3) h) (by decide)) (fun _ => ?_)
      refine Need.mk trivial fun _ => Ife.mk (fun h => ?_) (fun h => absurd h (by decide))
      replace v4 : 0 ≤ nx ∧ nx ≤ 1099511627777 := v4
      have a4 := wN_len nx (wPk (⟨sp, sc, dp, dc, sq, da, th, ta⟩ : Pkt) (wN 4 (l, b)))
      refine Need.mk (show fitNum (wPk (⟨sp, sc, dp, dc, sq, da, th, ta⟩ : Pkt) (wN 4 (l, b))).1 nx from ⟨by unfold isI64; omega, by omega⟩) fun _ => ?_
      replace v5 : 1 ≤ hg ∧ hg ≤ 1099511627776 := v5
      have a5 := wN_len hg (wN nx (wPk (⟨sp, sc, dp, dc, sq, da, th, ta⟩ : Pkt) (wN 4 (l, b))))
      refine Need.mk (show fitNum (wN nx (wPk (⟨sp, sc, dp, dc, sq, da, th, ta⟩ : Pkt) (wN 4 (l, b)))).1 hg from ⟨by unfold isI64; omega, by omega⟩) fun _ => ?_
      replace v6 : proofV (pc, pl) := v6
      have f6 : PrFit pc pl (wN hg (wN nx (wPk (⟨sp, sc, dp, dc, sq, da, th, ta⟩ : Pkt) (wN 4 (l, b))))).1 := proofV_fit v6 (by omega)
      have g6 := leavesL_n (fr := false) hL hok
      refine Need.mk ⟨⟨rfl, rfl, by rw [g6]; exact f6⟩, leavesPre_n hL hok hm⟩ fun _ => ?_
      rw [g6]
      refine Ife.mk (fun h => absurd (of_decide_eq_true (p := (4 : Int) = 5) h) (by decide)) (fun _ => ?_)
      rw [show wMsg ⟨4, hh, ht, hr, ⟨sp, sc, dp, dc, sq, da, th, ta⟩, ack, nx, hg, pc, pl, cc, cl⟩ (l, b) = (wProof pc pl (wN hg (wN nx (wPk (⟨sp, sc, dp, dc, sq, da, th, ta⟩ : Pkt) (wN 4 (l, b)))))) from rfl]
      simp only [wH, wN, wT]
      exact ⟨[0, 1, 2, 3, 10], ⟨rfl, by repeat' (first | exact trivial | exact rfl | apply And.intro | exact (fun _ _ _ _ => Cell.le_refl _) | (intro i hi; rfl) | (intro i hi; exact absurd hi (Nat.not_lt_zero _))), (by show List.Nodup [0, 10]; decide), rfl, by repeat' (first | exact trivial | exact rfl | apply And.intro | exact (fun _ _ _ _ => Cell.le_refl _) | (intro i hi; rfl) | (intro i hi; exact absurd hi (Nat.not_lt_zero _)))⟩⟩
    · unfold sNum sWText sHashW sPkW sNextK sWProof
      generalize hg0 : (List.length : List UInt8 → Nat) = g0
      try unfold leafG
      try unfold msgC
      generalize ho0 : @lK = zo0, ho1 : @lV = zo1, ho2 : @lI = zo2, ho3 : @lP = zo3, ho4 : @lN = zo4, ho5 : @pG = zo5, ho6 : @leafL = zo6, ho7 : @leavesPre = zo7, ho8 : @rN = zo8, ho9 : @msgPre = zo9, ho10 : @nextB = zo10, ho11 : @msgOf = zo11, ho12 : @wN = zo12, ho13 : @wT = zo13, ho14 : @wH = zo14, ho15 : @wProof = zo15, ho16 : @wPk = zo16, ho17 : @wMsg = zo17, ho18 : @prWPre = zo18, ho19 : @hashOf = zo19, ho20 : @putW = zo20, ho21 : @numW = zo21, ho22 : @numBad = zo22, ho23 : @textW = zo23, ho24 : @fitNum = zo24, ho25 : @fitText = zo25, ho26 : @fitPk = zo26, ho27 : @isI64 = zo27
      generalize hA : Arith.std = A
      cbv
      subst hA hg0 ho0 ho1 ho2 ho3 ho4 ho5 ho6 ho7 ho8 ho9 ho10 ho11 ho12 ho13 ho14 ho15 ho16 ho17 ho18 ho19 ho20 ho21 ho22 ho23 ho24 ho25 ho26 ho27
      replace hl : l.length ≤ 1000 := hl
      have a1 := wN_len 5 (l, b)
      dsimp only at a1
      refine Need.mk (show fitNum l 5 from ⟨by unfold isI64; omega, by omega⟩) fun _ => ?_
      refine Ife.mk (fun h => absurd (of_decide_eq_true (p := (5 : Int) = 1) h) (by decide)) (fun _ => ?_)
      replace v2 : pkV (⟨sp, sc, dp, dc, sq, da, th, ta⟩ : Pkt) := v2
      refine Need.mk (show fitPk (⟨sp, sc, dp, dc, sq, da, th, ta⟩ : Pkt) (wN 5 (l, b)).1 from pkV_fit v2 (by omega)) fun _ => ?_
      have a2 := wPk_len0 v2 (wN 5 (l, b))
      refine Ife.mk (fun h => absurd (of_decide_eq_true (p := (5 : Int) = 3) h) (by decide)) (fun _ => ?_)
      refine Need.mk trivial fun _ => Ife.mk (fun h => ?_) (fun h => absurd h (by decide))
      replace v4 : 0 ≤ nx ∧ nx ≤ 1099511627777 := v4
      have a4 := wN_len nx (wPk (⟨sp, sc, dp, dc, sq, da, th, ta⟩ : Pkt) (wN 5 (l, b)))
      refine Need.mk (show fitNum (wPk (⟨sp, sc, dp, dc, sq, da, th, ta⟩ : Pkt) (wN 5 (l, b))).1 nx from ⟨by unfold isI64; omega, by omega⟩) fun _ => ?_
      replace v5 : 1 ≤ hg ∧ hg ≤ 1099511627776 := v5
      have a5 := wN_len hg (wN nx (wPk (⟨sp, sc, dp, dc, sq, da, th, ta⟩ : Pkt) (wN 5 (l, b))))
      refine Need.mk (show fitNum (wN nx (wPk (⟨sp, sc, dp, dc, sq, da, th, ta⟩ : Pkt) (wN 5 (l, b)))).1 hg from ⟨by unfold isI64; omega, by omega⟩) fun _ => ?_
      replace v6 : proofV (pc, pl) := v6
      have f6 : PrFit pc pl (wN hg (wN nx (wPk (⟨sp, sc, dp, dc, sq, da, th, ta⟩ : Pkt) (wN 5 (l, b))))).1 := proofV_fit v6 (by omega)
      have g6 := leavesL_n (fr := false) hL hok
      refine Need.mk ⟨⟨rfl, rfl, by rw [g6]; exact f6⟩, leavesPre_n hL hok hm⟩ fun _ => ?_
      rw [g6]
      have a6 := wProof_len (s := (wN hg (wN nx (wPk (⟨sp, sc, dp, dc, sq, da, th, ta⟩ : Pkt) (wN 5 (l, b)))))) f6
      refine Ife.mk (fun _ => ?_) (fun h => absurd (show (5 : Int) = 5 by decide) (of_decide_eq_false (p := (5 : Int) = 5) h))
      replace v7 : proofV (cc, cl) := v7
      have f7 : PrFit cc cl (wProof pc pl (wN hg (wN nx (wPk (⟨sp, sc, dp, dc, sq, da, th, ta⟩ : Pkt) (wN 5 (l, b)))))).1 := proofV_fit v7 (by omega)
      have g7 := leavesL_n (fr := false) hL' hok'
      refine Need.mk ⟨⟨rfl, rfl, by rw [g7]; exact f7⟩, leavesPre_n hL' hok' hm'⟩ fun _ => ?_
      rw [g7]
      rw [show wMsg ⟨5, hh, ht, hr, ⟨sp, sc, dp, dc, sq, da, th, ta⟩, ack, nx, hg, pc, pl, cc, cl⟩ (l, b) = (wProof cc cl (wProof pc pl (wN hg (wN nx (wPk (⟨sp, sc, dp, dc, sq, da, th, ta⟩ : Pkt) (wN 5 (l, b))))))) from rfl]
      simp only [wH, wN, wT]
      exact ⟨[0, 1, 2, 3, 12], ⟨rfl, by repeat' (first | exact trivial | exact rfl | apply And.intro | exact (fun _ _ _ _ => Cell.le_refl _) | (intro i hi; rfl) | (intro i hi; exact absurd hi (Nat.not_lt_zero _))), (by show List.Nodup [0, 12]; decide), rfl, by repeat' (first | exact trivial | exact rfl | apply And.intro | exact (fun _ _ _ _ => Cell.le_refl _) | (intro i hi; rfl) | (intro i hi; exact absurd hi (Nat.not_lt_zero _)))⟩⟩

end Go.Proofs.Ytcgoaicifjndpaa.Vx
end

section
/- Proofs and messages read, by the walker. -/
namespace Go.Proofs.Ytcgoaicifjndpaa.Vx
open Go.RowKit
set_option linter.unusedVariables false
set_option linter.unusedSimpArgs false
theorem okS_rep {α : Type} {r : List UInt8 → Int × Int → α × Int × Int} {l : List UInt8} (h : ∀ s, okS l s → okS l (r l s).2) : ∀ (n : Nat) (s : Int × Int), okS l s → okS l (repR r n l s).2
  | 0, s, hs => hs
  | n + 1, s, hs => okS_rep h n _ (h s hs)
theorem okS_leaf {l : List UInt8} {s : Int × Int} (h : okS l s) : okS l (rLeaf l s).2 := okS_rep (fun _ => okS_hash) _ _ (okS_count (okS_num (okS_text (okS_text h))))
theorem okS_proof {l : List UInt8} {s : Int × Int} (h : okS l s) : okS l (rProof l s).2 := okS_rep (fun _ => okS_leaf) _ _ (okS_count (okS_num h))
theorem ok_leaf {l : List UInt8} {a b : Int} (h : okRd l a b) : okRd l (rLeaf l (a, b)).2.1 (rLeaf l (a, b)).2.2 := okS_leaf (s := (a, b)) h
theorem ok_proof {l : List UInt8} {a b : Int} (h : okRd l a b) : okRd l (rProof l (a, b)).2.1 (rProof l (a, b)).2.2 := okS_proof (s := (a, b)) h
theorem leafG_left {fr : Bool} {p : List PLeaf} {x : PLeaf} {i j : Nat} (h : i < p.length) : leafG fr (p ++ [x]) i j = leafG fr p i j := by
  have e : (p ++ [x]).getD i .none = p.getD i .none := by
    rw [List.getD_eq_getElem?_getD, List.getD_eq_getElem?_getD, List.getElem?_append_left h]
  unfold leafG leafGP lK lV lI lN lP
  rw [e]
theorem leafG_last {fr : Bool} {p : List PLeaf} {x : PLeaf} {j : Nat} : leafG fr (p ++ [x]) p.length j = match j with
    | 0 => .pl (.str x.k)
    | 1 => .pl (.str x.v)
    | 2 => .pl (.int .i64 x.i)
    | _ => .es fr 63 32 x.p.length (pG x.p) := by
  have e : (p ++ [x]).getD p.length .none = x := by simp [List.getD]
  unfold leafG leafGP lK lV lI lN lP
  rw [e]
  cases j with
  | zero => rfl
  | succ j => cases j with
    | zero => rfl
    | succ j => cases j with
      | zero => rfl
      | succ j => rfl
theorem leafG_push {p : List PLeaf} {n : Nat} (hn : p.length = n) (x : PLeaf) : ∀ i j, i < n + 1 → j < 4 → Cell.le (pushC n (leafG true p) [.pl (.str x.k), .pl (.str x.v), .pl (.int .i64 x.i), .es true 63 32 (lenH x.p) (pG x.p)] i j) (leafG true (p ++ [x]) i j) := fun i j hi hj => by
  subst hn
  unfold pushC
  cases hb : Nat.blt i p.length with
  | true =>
    rw [Nat.blt_eq] at hb
    rw [leafG_left hb]
    exact Cell.le_refl _
  | false =>
    have hb : ¬ i < p.length := fun h => by rw [← Nat.blt_eq, hb] at h; cases h
    obtain rfl : i = p.length := by omega
    rw [leafG_last]
    rcases four hj with rfl | rfl | rfl | rfl <;> exact Cell.le_refl _
def sRProof : SpecF
  | [.c (.ptr 0 0)], [.cells t [.str l, .int .i64 a, .int .i64 b]] => some (t = 196 ∧ okRd l a b, .agg [.int .i64 (rProof l (a, b)).1.1, .row 1], [.cells 196 [.str l, .int .i64 (rProof l (a, b)).2.1, .int .i64 (rProof l (a, b)).2.2], .data true 140 4 (lenL (rProof l (a, b)).1.2) (leafG true (rProof l (a, b)).1.2)])
  | _, _ => none

set_option maxRecDepth 100000 in
set_option maxHeartbeats 8000000 in
theorem rProofP : Fn Try.prog 160 [] [] sRProof := by
  have hC : CtsOk Try.prog [(134, appMeth 196 sRdNum), (191, appMeth 196 sCount), (192, appFn [] [] sRdLf)] := CtsOk.cons (Meth.ct rdNumP) <| CtsOk.cons (Meth.ct rdCountP) <| CtsOk.cons (Fn.ct rLeafP) <| CtsOk.nil _
  refine Fn.ofZ (E := tbR) [] 0 [(4, [(2000, false), (2003, false), (0, true), (1, true), (2, true), (3, false), (4, false), (5, false), (6, true), (1007, false), (7, false)])] tbR_ok hC (by kernel_rfl) Try.func160 rfl rfl rfl (by kernel_rfl) (by kernel_rfl) 1 (.data true 140 4 0 fun _ _ => .pl .tt) rfl ?_ ?_
  · intro args h pre r h' hs
    unfold sRProof at hs
    split at hs
    · cases hs; exact ⟨rfl, rfl, Nat.le_of_ble_eq_true rfl⟩
    · cases hs
  · intro args h pre r h' hs hp
    unfold sRProof at hs
    split at hs
    rotate_left
    · cases hs
    rename_i t l a b
    cases hs
    obtain ⟨rfl, hok⟩ := hp
    refine ⟨[.cells 196 [.str l, .int .i64 a, .int .i64 b]], ⟨rfl, trivial⟩, ?_⟩
    unfold sRdNum sCount sRdLf
    generalize hL : lft Try.prog _ = L
    try unfold leafG
    generalize ho0 : @lK = zo0, ho1 : @lV = zo1, ho2 : @lI = zo2, ho3 : @lP = zo3, ho4 : @lN = zo4, ho5 : @pG = zo5, ho6 : @rLeaf = zo6, ho7 : @rProof = zo7, ho8 : @okRd = zo8, ho9 : @numS = zo9, ho10 : @countS = zo10, ho11 : @lenH = zo11, ho12 : @lenL = zo12
    generalize hA : Arith.std = A
    cbv
    subst hA hL ho0 ho1 ho2 ho3 ho4 ho5 ho6 ho7 ho8 ho9 ho10 ho11 ho12
    have h3 := ok_num (lo := 0) (hi := 1073741824) hok
    have h4 := ok_count (hi := 2) h3
    refine Need.mk hok fun _ => ?_
    refine Need.mk h3 fun _ => ?_
    have hR : rProof l (a, b) = (((numS l a b 0 1073741824).1, (repR rLeaf (countS l (numS l a b 0 1073741824).2.1 (numS l a b 0 1073741824).2.2 2).1.toNat l (countS l (numS l a b 0 1073741824).2.1 (numS l a b 0 1073741824).2.2 2).2).1), (repR rLeaf (countS l (numS l a b 0 1073741824).2.1 (numS l a b 0 1073741824).2.2 2).1.toNat l (countS l (numS l a b 0 1073741824).2.1 (numS l a b 0 1073741824).2.2 2).2).2) := rfl
    clear h3
    generalize numS l a b 0 1073741824 = t3 at *
    have hrg := cnt_rng l t3.2.1 t3.2.2 2 (by decide)
    generalize countS l t3.2.1 t3.2.2 2 = t4 at *
    obtain ⟨N, A0, B0⟩ := t4
    dsimp only at *
    refine Runs.nilCellE 2 1 (.orow 140 4 0 (leafG true [])) rfl rfl rfl ?_
    show Runs Try.prog 1 (.loop _) _ _
    refine loop_ruleR (N := env (lft Try.prog 1) 0 .std tbR [(134, appMeth 196 sRdNum), (191, appMeth 196 sCount), (192, appFn [] [] sRdLf)] [(4, [(2000, false), (2003, false), (0, true), (1, true), (2, true), (3, false), (4, false), (5, false), (6, true), (1007, false), (7, false)])]) rfl tbR_ok hC (fun c st K _ h => h) (by kernel_rfl) [] (X := LRep rLeaf l N.toNat (A0, B0))
      (S := fun x => ⟨[.c (.ptr 0 0), .any, .c (.ptr 1 0), .c (.ptr 2 0), .any, .any, .any, .any, .c (.int .i64 N), .c (.int .i64 x.i)] ++ List.replicate 10 .any, [.cells 196 [.str l, .int .i64 x.a, .int .i64 x.b], .cells 72 [.int .i64 0, .val (.slice none 0 0)], .cells 72 [.int .i64 t3.1, .row 3], .orow 140 4 x.n (leafG true x.p)]⟩) (μ := fun x => N.toNat - x.n) ⟨0, 0, A0, B0, [], rfl, by omega, rfl, h4, rfl⟩ (by kernel_rfl) [0, 1, 2, 3] ?_ ?_
    · refine ⟨rfl, by decide, ?_, ?_⟩ <;> repeat' (first | exact trivial | exact rfl | apply And.intro | exact (fun _ _ _ _ => Cell.le_refl _) | (intro i hi; rfl) | (intro i hi; exact absurd hi (Nat.not_lt_zero _)))
    rintro ⟨i, n, a, b, p, hn, hnN, hp, hok, he⟩
    unfold sRdNum sCount sRdLf
    generalize hL : lft Try.prog _ = L
    try dsimp only
    try unfold leafG
    generalize ho0 : @lK = zo0, ho1 : @lV = zo1, ho2 : @lI = zo2, ho3 : @lP = zo3, ho4 : @lN = zo4, ho5 : @pG = zo5, ho6 : @rLeaf = zo6, ho7 : @rProof = zo7, ho8 : @okRd = zo8, ho9 : @numS = zo9, ho10 : @countS = zo10, ho11 : @lenH = zo11, ho12 : @lenL = zo12
    generalize hA : Arith.std = A
    cbv
    subst hA hL ho0 ho1 ho2 ho3 ho4 ho5 ho6 ho7 ho8 ho9 ho10 ho11 ho12
    replace hn : i = @Nat.cast Int instNatCastInt n := hn
    replace hok : okRd l a b := hok
    refine Ife.mk (fun hlt => ?_) (fun hlt => ?_)
    · replace hlt : i < N := of_decide_eq_true (p := i < N) hlt
      refine Need.mk hok fun _ => ?_
      refine Need.mk ⟨show n + 1 ≤ maxLen ∧ (n + 1) * 64 ≤ 140737488355328 from ⟨by unfold maxLen; omega, by omega⟩, trivial⟩ fun _ => ?_
      refine Need.mk (by show fitStd .i64 (i + 1); unfold fitStd; omega) fun _ => ?_
      refine ⟨⟨i + 1, n + 1, (rLeaf l (a, b)).2.1, (rLeaf l (a, b)).2.2, p ++ [(rLeaf l (a, b)).1], by omega, by omega, by simp; omega, ok_leaf hok, rep_next (by omega) he⟩, [0, 1, 2, 6], (by show N.toNat - (n + 1) < N.toNat - n; omega), ?_⟩
      refine ⟨rfl, by decide, by repeat' (first | exact trivial | exact rfl | apply And.intro | exact (fun _ _ _ _ => Cell.le_refl _) | (intro i hi; rfl) | (intro i hi; exact absurd hi (Nat.not_lt_zero _))), ?_⟩
      repeat' (first | exact trivial | exact rfl | apply And.intro)
      exact leafG_push hp (rLeaf l (a, b)).1
    · replace hlt : ¬ i < N := of_decide_eq_false (p := i < N) hlt
      have hE := rep_end (by omega) he
      rw [hE] at hR
      rw [hR]
      refine ⟨[3], [0, 3], ⟨?fz, rfl, (by repeat' (first | exact trivial | exact rfl | apply And.intro | exact (fun _ _ _ _ => Cell.le_refl _) | (intro i hi; rfl) | (intro i hi; exact absurd hi (Nat.not_lt_zero _)))), (by show [0].Nodup; decide), rfl, ?hh⟩⟩
      case fz =>
        refine ⟨fun i j hi hj => ?_, trivial⟩
        rcases four hj with rfl | rfl | rfl | rfl
        · trivial
        · trivial
        · trivial
        · exact rfl
      case hh =>
        repeat' (first | exact trivial | exact rfl | apply And.intro)
        · exact hp.symm
        · exact fun _ _ _ _ => Cell.le_refl _

end Go.Proofs.Ytcgoaicifjndpaa.Vx
end

section
/- Messages read, by the walker. -/
namespace Go.Proofs.Ytcgoaicifjndpaa.Vx
open Go.RowKit
set_option linter.unusedVariables false
set_option linter.unusedSimpArgs false
theorem h32_nums (m : List UInt8) : h32 (rN (numsOf m)) = h32 (byteI m) := by
  unfold h32 rN
  simp only [nums_get m (show 0 < 32 by decide), nums_get m (show 1 < 32 by decide), nums_get m (show 2 < 32 by decide), nums_get m (show 3 < 32 by decide), nums_get m (show 4 < 32 by decide), nums_get m (show 5 < 32 by decide), nums_get m (show 6 < 32 by decide), nums_get m (show 7 < 32 by decide), nums_get m (show 8 < 32 by decide), nums_get m (show 9 < 32 by decide), nums_get m (show 10 < 32 by decide), nums_get m (show 11 < 32 by decide), nums_get m (show 12 < 32 by decide), nums_get m (show 13 < 32 by decide), nums_get m (show 14 < 32 by decide), nums_get m (show 15 < 32 by decide), nums_get m (show 16 < 32 by decide), nums_get m (show 17 < 32 by decide), nums_get m (show 18 < 32 by decide), nums_get m (show 19 < 32 by decide), nums_get m (show 20 < 32 by decide), nums_get m (show 21 < 32 by decide), nums_get m (show 22 < 32 by decide), nums_get m (show 23 < 32 by decide), nums_get m (show 24 < 32 by decide), nums_get m (show 25 < 32 by decide), nums_get m (show 26 < 32 by decide), nums_get m (show 27 < 32 by decide), nums_get m (show 28 < 32 by decide), nums_get m (show 29 < 32 by decide), nums_get m (show 30 < 32 by decide), nums_get m (show 31 < 32 by decide)]
theorem msgC_nums {k x y : Int} {m : List UInt8} {pk : Pkt} {ack : List UInt8} {nx hg pc cc : Int} {pl cl : List PLeaf} {u v : CV} : msgC ⟨k, x, y, numsOf m, pk, ack, nx, hg, pc, pl, cc, cl⟩ u v = .int .i64 k :: .int .i64 x :: .int .i64 y :: (h32 (byteI m) ++ (pkC pk ++ [.str ack, .int .i64 nx, .int .i64 hg, .int .i64 pc, u, .int .i64 cc, v])) := by
  unfold msgC msgCP
  rw [h32_nums]
def sRMsg : SpecF
  | [.c (.ptr 0 0)], [.cells t [.str l, .int .i64 a, .int .i64 b]] => some (t = 196 ∧ okRd l a b, .agg (msgC (rMsg l (a, b)).1 (.row 1) (.row 2)), [.cells 196 [.str l, .int .i64 (rMsg l (a, b)).2.1, .int .i64 (rMsg l (a, b)).2.2], .data true 140 4 (lenL (rMsg l (a, b)).1.pl) (leafG true (rMsg l (a, b)).1.pl), .data true 140 4 (lenL (rMsg l (a, b)).1.cl) (leafG true (rMsg l (a, b)).1.cl)])
  | _, _ => none

set_option maxRecDepth 100000 in
set_option maxHeartbeats 16000000 in
theorem rMsgP : Fn Try.prog 114 [] [] sRMsg := by
  have hC : CtsOk Try.prog [(134, appMeth 196 sRdNum), (135, appMeth 196 sRdText), (158, appMeth 196 sHash), (159, appMeth 196 sRdPk), (160, appFn [] [] sRProof), (119, appPure sNextK)] := CtsOk.cons (Meth.ct rdNumP) <| CtsOk.cons (Meth.ct rdTextP) <| CtsOk.cons (Meth.ct rdHashP) <| CtsOk.cons (Meth.ct rdPkP) <| CtsOk.cons (Fn.ct rProofP) <| CtsOk.cons (Pure.ct nextKP) <| CtsOk.nil _
  refine Fn.ofZ (E := tbR) [] 0 [] tbR_ok hC (by kernel_rfl) Try.func114 rfl rfl rfl (by kernel_rfl) (by kernel_rfl) 1 (.data true 140 4 0 fun _ _ => .pl .tt) rfl ?_ ?_
  · intro args h pre r h' hs
    unfold sRMsg at hs
    split at hs
    · cases hs; exact ⟨rfl, rfl, Nat.le_of_ble_eq_true rfl⟩
    · cases hs
  · intro args h pre r h' hs hp
    unfold sRMsg at hs
    split at hs
    rotate_left
    · cases hs
    rename_i t l a b
    cases hs
    obtain ⟨rfl, hok⟩ := hp
    refine ⟨[.cells 196 [.str l, .int .i64 a, .int .i64 b]], ⟨rfl, trivial⟩, ?_⟩
    unfold sRdNum sRdText sHash sRdPk sRProof sNextK
    try unfold leafG
    try unfold msgC
    generalize ho0 : @lK = zo0, ho1 : @lV = zo1, ho2 : @lI = zo2, ho3 : @lP = zo3, ho4 : @lN = zo4, ho5 : @pG = zo5, ho6 : @rProof = zo6, ho7 : @hashS = zo7, ho8 : @byteI = zo8, ho9 : @okRd = zo9, ho10 : @textS = zo10, ho11 : @numS = zo11, ho12 : @lenL = zo12, ho13 : @rPk = zo13, ho14 : @rN = zo14, ho15 : @nextB = zo15, ho16 : @rMsg = zo16
    generalize hA : Arith.std = A
    cbv
    subst hA ho0 ho1 ho2 ho3 ho4 ho5 ho6 ho7 ho8 ho9 ho10 ho11 ho12 ho13 ho14 ho15 ho16
    have z1 := ok_num (lo := 1) (hi := 5) hok
    generalize e1 : numS l a b 1 5 = t at *
    obtain ⟨k, a1, b1⟩ := t
    dsimp only at *
    refine Need.mk hok fun _ => Ife.mk (fun hk => ?_) (fun hk => ?_)
    · replace hk : k = 1 := of_decide_eq_true (p := k = 1) hk
      subst hk
      have z2 := ok_num (lo := 1) (hi := 1099511627776) z1
      generalize e2 : numS l a1 b1 1 1099511627776 = t at *
      obtain ⟨x, a2, b2⟩ := t
      dsimp only at *
      have z3 := ok_num (lo := 0) (hi := 1099511627776) z2
      generalize e3 : numS l a2 b2 0 1099511627776 = t at *
      obtain ⟨y, a3, b3⟩ := t
      dsimp only at *
      refine Need.mk z1 fun _ => Need.mk z2 fun _ => Need.mk z3 fun _ => ?_
      rw [rMsg_upd (s := (a, b)) (s1 := (a1, b1)) (s2 := (a2, b2)) (s3 := (a3, b3)) e1 e2 e3]
      try dsimp only
      rw [show msgCP rN = msgC from rfl, msgC_nums]
      exact ⟨[], [0, 3, 3], ⟨trivial, rfl, (by repeat' (first | exact (fun i j hi _ => absurd hi (Nat.not_lt_zero _)) | exact trivial | exact rfl | apply And.intro | exact (fun _ _ _ _ => Cell.le_refl _) | (intro i hi; rfl) | (intro i hi; exact absurd hi (Nat.not_lt_zero _)))), (by show List.Nodup [0]; decide), rfl, (by repeat' (first | exact (fun i j hi _ => absurd hi (Nat.not_lt_zero _)) | exact trivial | exact rfl | apply And.intro | exact (fun _ _ _ _ => Cell.le_refl _) | (intro i hi; rfl) | (intro i hi; exact absurd hi (Nat.not_lt_zero _))))⟩⟩
    replace hk : ¬ k = 1 := of_decide_eq_false (p := k = 1) hk
    have z2 := ok_pk' z1
    generalize e2 : rPk l (a1, b1) = t at *
    obtain ⟨⟨sp, sc, dp, dc, sq, da, th, ta⟩, a2, b2⟩ := t
    dsimp only at *
    refine Need.mk z1 fun _ => ?_
    refine Ife.mk (fun h3 => ?_) (fun h3 => ?_)
    · replace h3 : k = 3 := of_decide_eq_true (p := k = 3) h3
      have z3 := ok_text (hi := 32) z2
      generalize e3 : textS l a2 b2 32 = t at *
      obtain ⟨ack, a3, b3⟩ := t
      dsimp only at *
      refine Need.mk z2 fun _ => ?_
      refine Need.mk trivial fun _ => Ife.mk (fun hn => ?_) (fun hn => ?_)
      · replace hn : nextB k = true := hn
        have z4 := ok_num (lo := 0) (hi := 1099511627777) z3
        generalize e4 : numS l a3 b3 0 1099511627777 = t at *
        obtain ⟨nx, a4, b4⟩ := t
        dsimp only at *
        refine Need.mk z3 fun _ => ?_
        have z5 := ok_num (lo := 1) (hi := 1099511627776) z4
        generalize e5 : numS l a4 b4 1 1099511627776 = t at *
        obtain ⟨hg, a5, b5⟩ := t
        dsimp only at *
        have z6 := ok_proof z5
        generalize e6 : rProof l (a5, b5) = t at *
        obtain ⟨⟨pc, pl⟩, a6, b6⟩ := t
        dsimp only at *
        refine Need.mk z4 fun _ => Need.mk z5 fun _ => Ife.mk (fun h5 => ?_) (fun h5 => ?_)
        · replace h5 : k = 5 := of_decide_eq_true (p := k = 5) h5
          have z7 := ok_proof z6
          generalize e7 : rProof l (a6, b6) = t at *
          obtain ⟨⟨cc, cl⟩, a7, b7⟩ := t
          dsimp only at *
          refine Need.mk z6 fun _ => ?_
          rw [rMsg_oth (s := (a, b)) (s1 := (a1, b1)) (p := ⟨sp, sc, dp, dc, sq, da, th, ta⟩) (s2 := (a2, b2)) (a := ack) (s3 := (a3, b3)) (n := nx) (s4 := (a4, b4)) (g := hg) (s5 := (a5, b5)) (q := (pc, pl)) (s6 := (a6, b6)) (c := (cc, cl)) (s7 := (a7, b7)) e1 hk e2 (by rw [decide_eq_true h3]; exact e3) (by rw [hn]; exact e4) e5 e6 (by rw [decide_eq_true h5]; exact e7)]
          try dsimp only
          exact ⟨[], [0, 3, 4], ⟨trivial, rfl, (by repeat' (first | exact (fun i j hi _ => absurd hi (Nat.not_lt_zero _)) | exact trivial | exact rfl | apply And.intro | exact (fun _ _ _ _ => Cell.le_refl _) | (intro i hi; rfl) | (intro i hi; exact absurd hi (Nat.not_lt_zero _)))), (by show List.Nodup [0]; decide), rfl, (by repeat' (first | exact (fun i j hi _ => absurd hi (Nat.not_lt_zero _)) | exact trivial | exact rfl | apply And.intro | exact (fun _ _ _ _ => Cell.le_refl _) | (intro i hi; rfl) | (intro i hi; exact absurd hi (Nat.not_lt_zero _))))⟩⟩
        · replace h5 : ¬ k = 5 := of_decide_eq_false (p := k = 5) h5
          rw [rMsg_oth (s := (a, b)) (s1 := (a1, b1)) (p := ⟨sp, sc, dp, dc, sq, da, th, ta⟩) (s2 := (a2, b2)) (a := ack) (s3 := (a3, b3)) (n := nx) (s4 := (a4, b4)) (g := hg) (s5 := (a5, b5)) (q := (pc, pl)) (s6 := (a6, b6)) (c := (0, [])) (s7 := (a6, b6)) e1 hk e2 (by rw [decide_eq_true h3]; exact e3) (by rw [hn]; exact e4) e5 e6 (by rw [decide_eq_false h5]; rfl)]
          try dsimp only
          exact ⟨[], [0, 3, 4], ⟨trivial, rfl, (by repeat' (first | exact (fun i j hi _ => absurd hi (Nat.not_lt_zero _)) | exact trivial | exact rfl | apply And.intro | exact (fun _ _ _ _ => Cell.le_refl _) | (intro i hi; rfl) | (intro i hi; exact absurd hi (Nat.not_lt_zero _)))), (by show List.Nodup [0]; decide), rfl, (by repeat' (first | exact (fun i j hi _ => absurd hi (Nat.not_lt_zero _)) | exact trivial | exact rfl | apply And.intro | exact (fun _ _ _ _ => Cell.le_refl _) | (intro i hi; rfl) | (intro i hi; exact absurd hi (Nat.not_lt_zero _))))⟩⟩
      · replace hn : nextB k = false := hn
        have z5 := ok_num (lo := 1) (hi := 1099511627776) z3
        generalize e5 : numS l a3 b3 1 1099511627776 = t at *
        obtain ⟨hg, a5, b5⟩ := t
        dsimp only at *
        have z6 := ok_proof z5
        generalize e6 : rProof l (a5, b5) = t at *
        obtain ⟨⟨pc, pl⟩, a6, b6⟩ := t
        dsimp only at *
        refine Need.mk z3 fun _ => Need.mk z5 fun _ => Ife.mk (fun h5 => ?_) (fun h5 => ?_)
        · replace h5 : k = 5 := of_decide_eq_true (p := k = 5) h5
          have z7 := ok_proof z6
          generalize e7 : rProof l (a6, b6) = t at *
          obtain ⟨⟨cc, cl⟩, a7, b7⟩ := t
          dsimp only at *
          refine Need.mk z6 fun _ => ?_
          rw [rMsg_oth (s := (a, b)) (s1 := (a1, b1)) (p := ⟨sp, sc, dp, dc, sq, da, th, ta⟩) (s2 := (a2, b2)) (a := ack) (s3 := (a3, b3)) (n := 0) (s4 := (a3, b3)) (g := hg) (s5 := (a5, b5)) (q := (pc, pl)) (s6 := (a6, b6)) (c := (cc, cl)) (s7 := (a7, b7)) e1 hk e2 (by rw [decide_eq_true h3]; exact e3) (by rw [hn]; rfl) e5 e6 (by rw [decide_eq_true h5]; exact e7)]
          try dsimp only
          exact ⟨[], [0, 3, 4], ⟨trivial, rfl, (by repeat' (first | exact (fun i j hi _ => absurd hi (Nat.not_lt_zero _)) | exact trivial | exact rfl | apply And.intro | exact (fun _ _ _ _ => Cell.le_refl _) | (intro i hi; rfl) | (intro i hi; exact absurd hi (Nat.not_lt_zero _)))), (by show List.Nodup [0]; decide), rfl, (by repeat' (first | exact (fun i j hi _ => absurd hi (Nat.not_lt_zero _)) | exact trivial | exact rfl | apply And.intro | exact (fun _ _ _ _ => Cell.le_refl _) | (intro i hi; rfl) | (intro i hi; exact absurd hi (Nat.not_lt_zero _))))⟩⟩
        · replace h5 : ¬ k = 5 := of_decide_eq_false (p := k = 5) h5
          rw [rMsg_oth (s := (a, b)) (s1 := (a1, b1)) (p := ⟨sp, sc, dp, dc, sq, da, th, ta⟩) (s2 := (a2, b2)) (a := ack) (s3 := (a3, b3)) (n := 0) (s4 := (a3, b3)) (g := hg) (s5 := (a5, b5)) (q := (pc, pl)) (s6 := (a6, b6)) (c := (0, [])) (s7 := (a6, b6)) e1 hk e2 (by rw [decide_eq_true h3]; exact e3) (by rw [hn]; rfl) e5 e6 (by rw [decide_eq_false h5]; rfl)]
          try dsimp only
          exact ⟨[], [0, 3, 4], ⟨trivial, rfl, (by repeat' (first | exact (fun i j hi _ => absurd hi (Nat.not_lt_zero _)) | exact trivial | exact rfl | apply And.intro | exact (fun _ _ _ _ => Cell.le_refl _) | (intro i hi; rfl) | (intro i hi; exact absurd hi (Nat.not_lt_zero _)))), (by show List.Nodup [0]; decide), rfl, (by repeat' (first | exact (fun i j hi _ => absurd hi (Nat.not_lt_zero _)) | exact trivial | exact rfl | apply And.intro | exact (fun _ _ _ _ => Cell.le_refl _) | (intro i hi; rfl) | (intro i hi; exact absurd hi (Nat.not_lt_zero _))))⟩⟩
    · replace h3 : ¬ k = 3 := of_decide_eq_false (p := k = 3) h3
      refine Need.mk trivial fun _ => Ife.mk (fun hn => ?_) (fun hn => ?_)
      · replace hn : nextB k = true := hn
        have z4 := ok_num (lo := 0) (hi := 1099511627777) z2
        generalize e4 : numS l a2 b2 0 1099511627777 = t at *
        obtain ⟨nx, a4, b4⟩ := t
        dsimp only at *
        refine Need.mk z2 fun _ => ?_
        have z5 := ok_num (lo := 1) (hi := 1099511627776) z4
        generalize e5 : numS l a4 b4 1 1099511627776 = t at *
        obtain ⟨hg, a5, b5⟩ := t
        dsimp only at *
        have z6 := ok_proof z5
        generalize e6 : rProof l (a5, b5) = t at *
        obtain ⟨⟨pc, pl⟩, a6, b6⟩ := t
        dsimp only at *
        refine Need.mk z4 fun _ => Need.mk z5 fun _ => Ife.mk (fun h5 => ?_) (fun h5 => ?_)
        · replace h5 : k = 5 := of_decide_eq_true (p := k = 5) h5
          have z7 := ok_proof z6
          generalize e7 : rProof l (a6, b6) = t at *
          obtain ⟨⟨cc, cl⟩, a7, b7⟩ := t
          dsimp only at *
          refine Need.mk z6 fun _ => ?_
          rw [rMsg_oth (s := (a, b)) (s1 := (a1, b1)) (p := ⟨sp, sc, dp, dc, sq, da, th, ta⟩) (s2 := (a2, b2)) (a := []) (s3 := (a2, b2)) (n := nx) (s4 := (a4, b4)) (g := hg) (s5 := (a5, b5)) (q := (pc, pl)) (s6 := (a6, b6)) (c := (cc, cl)) (s7 := (a7, b7)) e1 hk e2 (by rw [decide_eq_false h3]; rfl) (by rw [hn]; exact e4) e5 e6 (by rw [decide_eq_true h5]; exact e7)]
          try dsimp only
          exact ⟨[], [0, 3, 4], ⟨trivial, rfl, (by repeat' (first | exact (fun i j hi _ => absurd hi (Nat.not_lt_zero _)) | exact trivial | exact rfl | apply And.intro | exact (fun _ _ _ _ => Cell.le_refl _) | (intro i hi; rfl) | (intro i hi; exact absurd hi (Nat.not_lt_zero _)))), (by show List.Nodup [0]; decide), rfl, (by repeat' (first | exact (fun i j hi _ => absurd hi (Nat.not_lt_zero _)) | exact trivial | exact rfl | apply And.intro | exact (fun _ _ _ _ => Cell.le_refl _) | (intro i hi; rfl) | (intro i hi; exact absurd hi (Nat.not_lt_zero _))))⟩⟩
        · replace h5 : ¬ k = 5 := of_decide_eq_false (p := k = 5) h5
          rw [rMsg_oth (s := (a, b)) (s1 := (a1, b1)) (p := ⟨sp, sc, dp, dc, sq, da, th, ta⟩) (s2 := (a2, b2)) (a := []) (s3 := (a2, b2)) (n := nx) (s4 := (a4, b4)) (g := hg) (s5 := (a5, b5)) (q := (pc, pl)) (s6 := (a6, b6)) (c := (0, [])) (s7 := (a6, b6)) e1 hk e2 (by rw [decide_eq_false h3]; rfl) (by rw [hn]; exact e4) e5 e6 (by rw [decide_eq_false h5]; rfl)]
          try dsimp only
          exact ⟨[], [0, 3, 4], ⟨trivial, rfl, (by repeat' (first | exact (fun i j hi _ => absurd hi (Nat.not_lt_zero _)) | exact trivial | exact rfl | apply And.intro | exact (fun _ _ _ _ => Cell.le_refl _) | (intro i hi; rfl) | (intro i hi; exact absurd hi (Nat.not_lt_zero _)))), (by show List.Nodup [0]; decide), rfl, (by repeat' (first | exact (fun i j hi _ => absurd hi (Nat.not_lt_zero _)) | exact trivial | exact rfl | apply And.intro | exact (fun _ _ _ _ => Cell.le_refl _) | (intro i hi; rfl) | (intro i hi; exact absurd hi (Nat.not_lt_zero _))))⟩⟩
      · replace hn : nextB k = false := hn
        have z5 := ok_num (lo := 1) (hi := 1099511627776) z2
        generalize e5 : numS l a2 b2 1 1099511627776 = t at *
        obtain ⟨hg, a5, b5⟩ := t
        dsimp only at *
        have z6 := ok_proof z5
        generalize e6 : rProof l (a5, b5) = t at *
        obtain ⟨⟨pc, pl⟩, a6, b6⟩ := t
        dsimp only at *
        refine Need.mk z2 fun _ => Need.mk z5 fun _ => Ife.mk (fun h5 => ?_) (fun h5 => ?_)
        · replace h5 : k = 5 := of_decide_eq_true (p := k = 5) h5
          have z7 := ok_proof z6
          generalize e7 : rProof l (a6, b6) = t at *
          obtain ⟨⟨cc, cl⟩, a7, b7⟩ := t
          dsimp only at *
          refine Need.mk z6 fun _ => ?_
          rw [rMsg_oth (s := (a, b)) (s1 := (a1, b1)) (p := ⟨sp, sc, dp, dc, sq, da, th, ta⟩) (s2 := (a2, b2)) (a := []) (s3 := (a2, b2)) (n := 0) (s4 := (a2, b2)) (g := hg) (s5 := (a5, b5)) (q := (pc, pl)) (s6 := (a6, b6)) (c := (cc, cl)) (s7 := (a7, b7)) e1 hk e2 (by rw [decide_eq_false h3]; rfl) (by rw [hn]; rfl) e5 e6 (by rw [decide_eq_true h5]; exact e7)]
          try dsimp only
          exact ⟨[], [0, 3, 4], ⟨trivial, rfl, (by repeat' (first | exact (fun i j hi _ => absurd hi (Nat.not_lt_zero _)) | exact trivial | exact rfl | apply And.intro | exact (fun _ _ _ _ => Cell.le_refl _) | (intro i hi; rfl) | (intro i hi; exact absurd hi (Nat.not_lt_zero _)))), (by show List.Nodup [0]; decide), rfl, (by repeat' (first | exact (fun i j hi _ => absurd hi (Nat.not_lt_zero _)) | exact trivial | exact rfl | apply And.intro | exact (fun _ _ _ _ => Cell.le_refl _) | (intro i hi; rfl) | (intro i hi; exact absurd hi (Nat.not_lt_zero _))))⟩⟩
        · replace h5 : ¬ k = 5 := of_decide_eq_false (p := k = 5) h5
          rw [rMsg_oth (s := (a, b)) (s1 := (a1, b1)) (p := ⟨sp, sc, dp, dc, sq, da, th, ta⟩) (s2 := (a2, b2)) (a := []) (s3 := (a2, b2)) (n := 0) (s4 := (a2, b2)) (g := hg) (s5 := (a5, b5)) (q := (pc, pl)) (s6 := (a6, b6)) (c := (0, [])) (s7 := (a6, b6)) e1 hk e2 (by rw [decide_eq_false h3]; rfl) (by rw [hn]; rfl) e5 e6 (by rw [decide_eq_false h5]; rfl)]
          try dsimp only
          exact ⟨[], [0, 3, 4], ⟨trivial, rfl, (by repeat' (first | exact (fun i j hi _ => absurd hi (Nat.not_lt_zero _)) | exact trivial | exact rfl | apply And.intro | exact (fun _ _ _ _ => Cell.le_refl _) | (intro i hi; rfl) | (intro i hi; exact absurd hi (Nat.not_lt_zero _)))), (by show List.Nodup [0]; decide), rfl, (by repeat' (first | exact (fun i j hi _ => absurd hi (Nat.not_lt_zero _)) | exact trivial | exact rfl | apply And.intro | exact (fun _ _ _ _ => Cell.le_refl _) | (intro i hi; rfl) | (intro i hi; exact absurd hi (Nat.not_lt_zero _))))⟩⟩

end Go.Proofs.Ytcgoaicifjndpaa.Vx
end
