/- The document's messages as bytes, by the walker. -/
import Derived.Test.YtcgoaicifjndpaaM24
import Derived.Test.YtcgoaicifjndpaaVMs6
import Derived.Test.YtcgoaicifjndpaaM22
import Derived.Test.YtcgoaicifjndpaaM23
section
namespace Go.Proofs.Ytcgoaicifjndpaa.Vx
open Go.RowKit
set_option linter.unusedVariables false
set_option linter.unusedSimpArgs false
theorem Ife.no {b : Bool} {p q : Prop} (h : b = false) (x : q) : Ife b p q := Ife.mk (fun g => by rw [h] at g; cases g) fun _ => x
theorem Ife.yes {b : Bool} {p q : Prop} (h : b = true) (x : p) : Ife b p q := Ife.mk (fun _ => x) fun g => by rw [h] at g; cases g
theorem proofB_len {c : Int} {L : List PLeaf} (h : proofV (c, L)) : (proofB (c, L)).length ≤ 40001000 := by
  have e := wProof_ok h []
  have l := wProof_len (c := c) (L := L) (s := ([], false)) (proofV_fit h (by simp))
  rw [e] at l
  simpa using l
theorem pkB_len {p : Pkt} (h : pkV p) : (pkB p).length ≤ 400 := by
  have e := wPk_ok h (l := [])
  have l := wPk_len0 h ([], false)
  rw [e] at l
  simpa using l
theorem mayM_pk {m : PMsg} (h : mayM m = true) (hk : m.kind ≠ 1) : mayPkt m.pk = true := by
  unfold mayM at h
  rw [if_neg hk] at h
  simp only [Bool.and_eq_true] at h
  exact h.2.2.2.2.2.1
set_option maxRecDepth 100000 in
set_option maxHeartbeats 16000000 in
theorem rencMP : Fn Try.prog 65 [] [(140, 204), (140, 204)] sEncM := by
  have hC : CtsOk Try.prog [(47, appFn [] [(140, 204), (140, 204)] sMayM), (120, appPure sLebPut), (123, appPure sPutText), (121, appPure sHText), (122, appPure sPutPk), (124, appFn [] [(140, 204)] sRPutPr)] := CtsOk.cons (Fn.ct rmayMP) <| CtsOk.cons (Pure.ct refPutP) <| CtsOk.cons (Pure.ct refPutTextP) <| CtsOk.cons (Pure.ct refHTextP) <| CtsOk.cons (Pure.ct refPutPkP) <| CtsOk.cons (Fn.ct rputPrP) <| CtsOk.nil _
  refine Fn.of (E := tbR) [] 0 [(5, [(0, true), (1, true), (2, true), (3, true), (6, true), (7, true), (8, true), (11, true), (12, true), (13, true), (4, false), (5, true), (9, false), (10, true), (14, false), (15, true), (16, true), (17, true)]), (11, [(0, true), (1, true), (2, true), (4, true), (5, true), (3, false), (6, false), (7, true), (8, true), (9, true)])] tbR_ok hC (by kernel_rfl) Try.func65 rfl rfl rfl (by kernel_rfl) (by kernel_rfl) 2 5 1 ?_ ?_
  · intro args h pre r h' hs
    unfold sEncM at hs
    split at hs
    · cases hs; exact ⟨rfl, rfl, Nat.le_of_ble_eq_true rfl⟩
    · cases hs
  · intro args h pre r h' hs hp
    unfold sEncM at hs
    split at hs
    rotate_left
    · cases hs
    rename_i cs fr ty sz n get fr' ty' sz' n' get'
    cases hs
    obtain ⟨hcs, ⟨rfl, rfl, hst, hok, hm⟩, ⟨rfl, rfl, hst', hok', hm'⟩, hfit⟩ := hp
    refine ⟨[.data fr 140 4 n (leafG false (leafL n get)), .data fr' 140 4 n' (leafG false (leafL n' get'))], ⟨⟨rfl, rfl, rfl, rfl, fun i j hi hj => by rw [hst i j hi hj]; exact Cell.le_refl _⟩, ⟨rfl, rfl, rfl, rfl, fun i j hi hj => by rw [hst' i j hi hj]; exact Cell.le_refl _⟩, trivial⟩, ?_⟩
    have hL : (leafL n get).length = n := leafL_len
    have hL' : (leafL n' get').length = n' := leafL_len
    have e1 : (msgOf cs n get n' get').pl = leafL n get := rfl
    have e2 : (msgOf cs n get n' get').cl = leafL n' get' := rfl
    generalize msgOf cs n get n' get' = m at *
    subst hcs
    obtain ⟨k, hh, ht, hr, ⟨sp, sc, dp, dc, sq, da, th, ta⟩, ack, nx, hg, pc, pl, cc, cl⟩ := m
    replace e1 : pl = leafL n get := e1
    replace e2 : cl = leafL n' get' := e2
    clear hst hst'
    subst e1 e2
    generalize leafL n get = pl at *
    generalize leafL n' get' = cl at *
    have hok0 : MsgOk ⟨k, hh, ht, hr, ⟨sp, sc, dp, dc, sq, da, th, ta⟩, ack, nx, hg, pc, pl, cc, cl⟩ := ⟨hfit, hok, hok', by show pl.length ≤ _; omega, by show cl.length ≤ _; omega⟩
    obtain ⟨hpk, hack, hrl, hrb⟩ := hfit
    replace hack : ack.length ≤ 1000000000 := hack
    replace hrl : hr.length = 32 := hrl
    replace hrb : ∀ b ∈ hr, 0 ≤ b ∧ b < 256 := hrb
    unfold sMayM sLebPut sPutText sHText sPutPk sRPutPr
    generalize hg0 : (List.length : List UInt8 → Nat) = g0
    try unfold leafG
    try unfold msgC
    generalize ho0 : @lK = zo0, ho1 : @lV = zo1, ho2 : @lI = zo2, ho3 : @lP = zo3, ho4 : @lN = zo4, ho5 : @pG = zo5, ho6 : @leafL = zo6, ho7 : @leavesPre = zo7, ho8 : @rN = zo8, ho9 : @msgPre = zo9, ho10 : @nextB = zo10, ho11 : @mayM = zo11, ho12 : @msgOf = zo12, ho13 : @mayPkt = zo13, ho14 : @hashOf = zo14, ho15 : @isI64 = zo15, ho16 : @msgB = zo16, ho17 : @encMsg = zo17, ho18 : @textB = zo18, ho19 : @Leb.put = zo19, ho20 : @proofB = zo20, ho21 : @pkB = zo21, ho22 : @rPutPre = zo22
    generalize hA : Arith.std = A
    cbv
    subst hA hg0 ho0 ho1 ho2 ho3 ho4 ho5 ho6 ho7 ho8 ho9 ho10 ho11 ho12 ho13 ho14 ho15 ho16 ho17 ho18 ho19 ho20 ho21 ho22
    refine Need.mk (msgPre_n (m := ⟨k, hh, ht, hr, ⟨sp, sc, dp, dc, sq, da, th, ta⟩, ack, nx, hg, pc, pl, cc, cl⟩) hok0 hL hL') fun _ => ?_
    have z := msgOf_n (m := ⟨k, hh, ht, hr, ⟨sp, sc, dp, dc, sq, da, th, ta⟩, ack, nx, hg, pc, pl, cc, cl⟩) (a := .row 0) (b := .row 1) (fr := false) (fr' := false) hok0 hL hL'
    simp only [msgC, msgCP, h32, pkC, List.cons_append, List.nil_append] at z
    rw [z]
    have hmn : n ≤ 1000000 := hm
    have hmn' : n' ≤ 1000000 := hm'
    refine Ife.mk (fun hm => ?_) (fun hm => ?_)
    · replace hm : (!mayM ⟨k, hh, ht, hr, ⟨sp, sc, dp, dc, sq, da, th, ta⟩, ack, nx, hg, pc, pl, cc, cl⟩) = true := hm
      rw [Bool.not_eq_true'] at hm
      rw [encMsg_no hm]
      exact ⟨[0, 1], ⟨rfl, by repeat' (first | exact trivial | exact rfl | apply And.intro | exact (fun _ _ _ _ => Cell.le_refl _) | (intro i hi; rfl) | (intro i hi; exact absurd hi (Nat.not_lt_zero _))), by decide, rfl, by repeat' (first | exact trivial | exact rfl | apply And.intro | exact (fun _ _ _ _ => Cell.le_refl _) | (intro i hi; rfl) | (intro i hi; exact absurd hi (Nat.not_lt_zero _)))⟩⟩
    replace hm : (!mayM ⟨k, hh, ht, hr, ⟨sp, sc, dp, dc, sq, da, th, ta⟩, ack, nx, hg, pc, pl, cc, cl⟩) = false := hm
    rw [Bool.not_eq_false'] at hm
    have hV := mayM_V hm hok0
    clear z hok0
    have hk : 1 ≤ k ∧ k ≤ 5 := hV.1
    have hk : k = 1 ∨ k = 2 ∨ k = 3 ∨ k = 4 ∨ k = 5 := by omega
    rcases hk with rfl | rfl | rfl | rfl | rfl
    · obtain ⟨-, h1, -⟩ := hV
      replace h1 : hdrV (hh, ht, hr) := h1
      obtain ⟨⟨a1, a2⟩, ⟨a3, a4⟩, -⟩ := h1
      dsimp only at a1 a2 a3 a4
      have p1 := Leb.put_len_le 1
      have p2 := Leb.put_len_le hh
      have p3 := Leb.put_len_le ht
      refine Need.mk (show isI64 (1 : Int) by unfold isI64; omega) fun _ => ?_
      refine Ife.yes (by decide) ?_
      refine Need.mk (show isI64 hh by unfold isI64; omega) fun _ => ?_
      refine Need.mk (show ((Leb.put 1).length : Int) + (Leb.put hh).length ≤ 9223372036854775807 by (try simp only [List.length_append]); omega) fun _ => ?_
      refine Need.mk (show isI64 ht by unfold isI64; omega) fun _ => ?_
      refine Need.mk (show ((Leb.put 1 ++ Leb.put hh).length : Int) + (Leb.put ht).length ≤ 9223372036854775807 by (try simp only [List.length_append]); omega) fun _ => ?_
      have e0 : hashOf [rN hr 0, rN hr 1, rN hr 2, rN hr 3, rN hr 4, rN hr 5, rN hr 6, rN hr 7, rN hr 8, rN hr 9, rN hr 10, rN hr 11, rN hr 12, rN hr 13, rN hr 14, rN hr 15, rN hr 16, rN hr 17, rN hr 18, rN hr 19, rN hr 20, rN hr 21, rN hr 22, rN hr 23, rN hr 24, rN hr 25, rN hr 26, rN hr 27, rN hr 28, rN hr 29, rN hr 30, rN hr 31] = hashOf hr := congrArg hashOf (list32 hrl)
      have e1 : (hashOf [rN hr 0, rN hr 1, rN hr 2, rN hr 3, rN hr 4, rN hr 5, rN hr 6, rN hr 7, rN hr 8, rN hr 9, rN hr 10, rN hr 11, rN hr 12, rN hr 13, rN hr 14, rN hr 15, rN hr 16, rN hr 17, rN hr 18, rN hr 19, rN hr 20, rN hr 21, rN hr 22, rN hr 23, rN hr 24, rN hr 25, rN hr 26, rN hr 27, rN hr 28, rN hr 29, rN hr 30, rN hr 31]).length = 32 := by rw [e0, hashOf_lenL]; exact hrl
      refine Need.mk trivial fun _ => ?_
      refine Need.mk (show ((Leb.put 1 ++ Leb.put hh ++ Leb.put ht).length : Int) + (hashOf [rN hr 0, rN hr 1, rN hr 2, rN hr 3, rN hr 4, rN hr 5, rN hr 6, rN hr 7, rN hr 8, rN hr 9, rN hr 10, rN hr 11, rN hr 12, rN hr 13, rN hr 14, rN hr 15, rN hr 16, rN hr 17, rN hr 18, rN hr 19, rN hr 20, rN hr 21, rN hr 22, rN hr 23, rN hr 24, rN hr 25, rN hr 26, rN hr 27, rN hr 28, rN hr 29, rN hr 30, rN hr 31]).length ≤ 9223372036854775807 by rw [e1]; simp only [List.length_append]; omega) fun _ => ?_
      have hB : msgB ⟨1, hh, ht, hr, ⟨sp, sc, dp, dc, sq, da, th, ta⟩, ack, nx, hg, pc, pl, cc, cl⟩ = Leb.put 1 ++ Leb.put hh ++ Leb.put ht ++ hashOf [rN hr 0, rN hr 1, rN hr 2, rN hr 3, rN hr 4, rN hr 5, rN hr 6, rN hr 7, rN hr 8, rN hr 9, rN hr 10, rN hr 11, rN hr 12, rN hr 13, rN hr 14, rN hr 15, rN hr 16, rN hr 17, rN hr 18, rN hr 19, rN hr 20, rN hr 21, rN hr 22, rN hr 23, rN hr 24, rN hr 25, rN hr 26, rN hr 27, rN hr 28, rN hr 29, rN hr 30, rN hr 31] := by
        rw [e0]
        simp [msgB, restB, restOf, hdrB, nextB]
      rw [encMsg_yes hm, hB]
      exact ⟨[0, 1], ⟨rfl, by repeat' (first | exact trivial | exact rfl | apply And.intro | exact (fun _ _ _ _ => Cell.le_refl _) | (intro i hi; rfl) | (intro i hi; exact absurd hi (Nat.not_lt_zero _))), by decide, rfl, by repeat' (first | exact trivial | exact rfl | apply And.intro | exact (fun _ _ _ _ => Cell.le_refl _) | (intro i hi; rfl) | (intro i hi; exact absurd hi (Nat.not_lt_zero _)))⟩⟩
    · have hpm : mayPkt (⟨sp, sc, dp, dc, sq, da, th, ta⟩ : Pkt) = true := mayM_pk hm (by show (2 : Int) ≠ 1; decide)
      obtain ⟨-, -, h2, h3, h4, h5, h6, h7⟩ := hV
      replace h2 : pkV (⟨sp, sc, dp, dc, sq, da, th, ta⟩ : Pkt) := h2
      replace h5 : 1 ≤ hg ∧ hg ≤ 1099511627776 := h5
      have hP : proofV (pc, pl) := h6
      have b1 := pkB_len h2
      have b2 := proofB_len hP
      have p1 := Leb.put_len_le 2
      have p2 := Leb.put_len_le hg
      refine Need.mk (show isI64 (2 : Int) by unfold isI64; omega) fun _ => ?_
      refine Ife.no (by decide) ?_
      refine Need.mk hpm fun _ => ?_
      refine Need.mk (show ((Leb.put 2).length : Int) + (pkB (⟨sp, sc, dp, dc, sq, da, th, ta⟩ : Pkt)).length ≤ 9223372036854775807 by (try simp only [List.length_append]); omega) fun _ => ?_
      refine Ife.no (by decide) ?_
      refine Ife.no (by decide) ?_
      refine Need.mk (show isI64 hg by unfold isI64; omega) fun _ => ?_
      refine Need.mk ⟨by rw [leavesL_n hL hok]; exact hP, leavesPre_n hL hok hmn⟩ fun _ => ?_
      rw [leavesL_n hL hok]
      refine Need.mk (show ((Leb.put hg).length : Int) + (proofB (pc, pl)).length ≤ 9223372036854775807 by (try simp only [List.length_append]); omega) fun _ => ?_
      refine Need.mk (show ((Leb.put 2 ++ pkB (⟨sp, sc, dp, dc, sq, da, th, ta⟩ : Pkt)).length : Int) + (Leb.put hg ++ proofB (pc, pl)).length ≤ 9223372036854775807 by (try simp only [List.length_append]); omega) fun _ => ?_
      refine Ife.no (by decide) ?_
      have hB : msgB ⟨2, hh, ht, hr, ⟨sp, sc, dp, dc, sq, da, th, ta⟩, ack, nx, hg, pc, pl, cc, cl⟩ = Leb.put 2 ++ pkB (⟨sp, sc, dp, dc, sq, da, th, ta⟩ : Pkt) ++ (Leb.put hg ++ proofB (pc, pl)) := by simp [msgB, restB, restOf, hdrB, nextB]
      rw [encMsg_yes hm, hB]
      exact ⟨[0, 1], ⟨rfl, by repeat' (first | exact trivial | exact rfl | apply And.intro | exact (fun _ _ _ _ => Cell.le_refl _) | (intro i hi; rfl) | (intro i hi; exact absurd hi (Nat.not_lt_zero _))), by decide, rfl, by repeat' (first | exact trivial | exact rfl | apply And.intro | exact (fun _ _ _ _ => Cell.le_refl _) | (intro i hi; rfl) | (intro i hi; exact absurd hi (Nat.not_lt_zero _)))⟩⟩
    · have hpm : mayPkt (⟨sp, sc, dp, dc, sq, da, th, ta⟩ : Pkt) = true := mayM_pk hm (by show (3 : Int) ≠ 1; decide)
      obtain ⟨-, -, h2, h3, h4, h5, h6, h7⟩ := hV
      replace h2 : pkV (⟨sp, sc, dp, dc, sq, da, th, ta⟩ : Pkt) := h2
      replace h5 : 1 ≤ hg ∧ hg ≤ 1099511627776 := h5
      have hP : proofV (pc, pl) := h6
      have b1 := pkB_len h2
      have b2 := proofB_len hP
      have p1 := Leb.put_len_le 3
      have p2 := Leb.put_len_le hg
      replace h3 : (ack.length : Int) ≤ 32 := h3
      have h3n : ack.length ≤ 32 := Int.ofNat_le.mp h3
      have b3 := textB_len ack
      refine Need.mk (show isI64 (3 : Int) by unfold isI64; omega) fun _ => ?_
      refine Ife.no (by decide) ?_
      refine Need.mk hpm fun _ => ?_
      refine Need.mk (show ((Leb.put 3).length : Int) + (pkB (⟨sp, sc, dp, dc, sq, da, th, ta⟩ : Pkt)).length ≤ 9223372036854775807 by (try simp only [List.length_append]); omega) fun _ => ?_
      refine Ife.yes (by decide) ?_
      refine Need.mk (show ack.length ≤ 9223372036854770000 by omega) fun _ => ?_
      refine Need.mk (show ((Leb.put 3 ++ pkB (⟨sp, sc, dp, dc, sq, da, th, ta⟩ : Pkt)).length : Int) + (textB ack).length ≤ 9223372036854775807 by (try simp only [List.length_append]); omega) fun _ => ?_
      refine Ife.no (by decide) ?_
      refine Need.mk (show isI64 hg by unfold isI64; omega) fun _ => ?_
      refine Need.mk ⟨by rw [leavesL_n hL hok]; exact hP, leavesPre_n hL hok hmn⟩ fun _ => ?_
      rw [leavesL_n hL hok]
      refine Need.mk (show ((Leb.put hg).length : Int) + (proofB (pc, pl)).length ≤ 9223372036854775807 by (try simp only [List.length_append]); omega) fun _ => ?_
      refine Need.mk (show ((Leb.put 3 ++ pkB (⟨sp, sc, dp, dc, sq, da, th, ta⟩ : Pkt) ++ textB ack).length : Int) + (Leb.put hg ++ proofB (pc, pl)).length ≤ 9223372036854775807 by (try simp only [List.length_append]); omega) fun _ => ?_
      refine Ife.no (by decide) ?_
      have hB : msgB ⟨3, hh, ht, hr, ⟨sp, sc, dp, dc, sq, da, th, ta⟩, ack, nx, hg, pc, pl, cc, cl⟩ = Leb.put 3 ++ pkB (⟨sp, sc, dp, dc, sq, da, th, ta⟩ : Pkt) ++ textB ack ++ (Leb.put hg ++ proofB (pc, pl)) := by simp [msgB, restB, restOf, hdrB, nextB]
      rw [encMsg_yes hm, hB]
      exact ⟨[0, 1], ⟨rfl, by repeat' (first | exact trivial | exact rfl | apply And.intro | exact (fun _ _ _ _ => Cell.le_refl _) | (intro i hi; rfl) | (intro i hi; exact absurd hi (Nat.not_lt_zero _))), by decide, rfl, by repeat' (first | exact trivial | exact rfl | apply And.intro | exact (fun _ _ _ _ => Cell.le_refl _) | (intro i hi; rfl) | (intro i hi; exact absurd hi (Nat.not_lt_zero _)))⟩⟩
    · have hpm : mayPkt (⟨sp, sc, dp, dc, sq, da, th, ta⟩ : Pkt) = true := mayM_pk hm (by show (4 : Int) ≠ 1; decide)
      obtain ⟨-, -, h2, h3, h4, h5, h6, h7⟩ := hV
      replace h2 : pkV (⟨sp, sc, dp, dc, sq, da, th, ta⟩ : Pkt) := h2
      replace h5 : 1 ≤ hg ∧ hg ≤ 1099511627776 := h5
      have hP : proofV (pc, pl) := h6
      have b1 := pkB_len h2
      have b2 := proofB_len hP
      have p1 := Leb.put_len_le 4
      have p2 := Leb.put_len_le hg
      replace h4 : 0 ≤ nx ∧ nx ≤ 1099511627777 := h4
      have b4 := Leb.put_len_le nx
      refine Need.mk (show isI64 (4 : Int) by unfold isI64; omega) fun _ => ?_
      refine Ife.no (by decide) ?_
      refine Need.mk hpm fun _ => ?_
      refine Need.mk (show ((Leb.put 4).length : Int) + (pkB (⟨sp, sc, dp, dc, sq, da, th, ta⟩ : Pkt)).length ≤ 9223372036854775807 by (try simp only [List.length_append]); omega) fun _ => ?_
      refine Ife.no (by decide) ?_
      refine Ife.yes (by decide) ?_
      refine Need.mk (show isI64 nx by unfold isI64; omega) fun _ => ?_
      refine Need.mk (show ((Leb.put 4 ++ pkB (⟨sp, sc, dp, dc, sq, da, th, ta⟩ : Pkt)).length : Int) + (Leb.put nx).length ≤ 9223372036854775807 by (try simp only [List.length_append]); omega) fun _ => ?_
      refine Need.mk (show isI64 hg by unfold isI64; omega) fun _ => ?_
      refine Need.mk ⟨by rw [leavesL_n hL hok]; exact hP, leavesPre_n hL hok hmn⟩ fun _ => ?_
      rw [leavesL_n hL hok]
      refine Need.mk (show ((Leb.put hg).length : Int) + (proofB (pc, pl)).length ≤ 9223372036854775807 by (try simp only [List.length_append]); omega) fun _ => ?_
      refine Need.mk (show ((Leb.put 4 ++ pkB (⟨sp, sc, dp, dc, sq, da, th, ta⟩ : Pkt) ++ Leb.put nx).length : Int) + (Leb.put hg ++ proofB (pc, pl)).length ≤ 9223372036854775807 by (try simp only [List.length_append]); omega) fun _ => ?_
      refine Ife.no (by decide) ?_
      have hB : msgB ⟨4, hh, ht, hr, ⟨sp, sc, dp, dc, sq, da, th, ta⟩, ack, nx, hg, pc, pl, cc, cl⟩ = Leb.put 4 ++ pkB (⟨sp, sc, dp, dc, sq, da, th, ta⟩ : Pkt) ++ Leb.put nx ++ (Leb.put hg ++ proofB (pc, pl)) := by simp [msgB, restB, restOf, hdrB, nextB]
      rw [encMsg_yes hm, hB]
      exact ⟨[0, 1], ⟨rfl, by repeat' (first | exact trivial | exact rfl | apply And.intro | exact (fun _ _ _ _ => Cell.le_refl _) | (intro i hi; rfl) | (intro i hi; exact absurd hi (Nat.not_lt_zero _))), by decide, rfl, by repeat' (first | exact trivial | exact rfl | apply And.intro | exact (fun _ _ _ _ => Cell.le_refl _) | (intro i hi; rfl) | (intro i hi; exact absurd hi (Nat.not_lt_zero _)))⟩⟩
    · have hpm : mayPkt (⟨sp, sc, dp, dc, sq, da, th, ta⟩ : Pkt) = true := mayM_pk hm (by show (5 : Int) ≠ 1; decide)
      obtain ⟨-, -, h2, h3, h4, h5, h6, h7⟩ := hV
      replace h2 : pkV (⟨sp, sc, dp, dc, sq, da, th, ta⟩ : Pkt) := h2
      replace h5 : 1 ≤ hg ∧ hg ≤ 1099511627776 := h5
      have hP : proofV (pc, pl) := h6
      have b1 := pkB_len h2
      have b2 := proofB_len hP
      have p1 := Leb.put_len_le 5
      have p2 := Leb.put_len_le hg
      replace h4 : 0 ≤ nx ∧ nx ≤ 1099511627777 := h4
      have b4 := Leb.put_len_le nx
      have hQ : proofV (cc, cl) := h7
      have b5 := proofB_len hQ
      refine Need.mk (show isI64 (5 : Int) by unfold isI64; omega) fun _ => ?_
      refine Ife.no (by decide) ?_
      refine Need.mk hpm fun _ => ?_
      refine Need.mk (show ((Leb.put 5).length : Int) + (pkB (⟨sp, sc, dp, dc, sq, da, th, ta⟩ : Pkt)).length ≤ 9223372036854775807 by (try simp only [List.length_append]); omega) fun _ => ?_
      refine Ife.no (by decide) ?_
      refine Ife.yes (by decide) ?_
      refine Need.mk (show isI64 nx by unfold isI64; omega) fun _ => ?_
      refine Need.mk (show ((Leb.put 5 ++ pkB (⟨sp, sc, dp, dc, sq, da, th, ta⟩ : Pkt)).length : Int) + (Leb.put nx).length ≤ 9223372036854775807 by (try simp only [List.length_append]); omega) fun _ => ?_
      refine Need.mk (show isI64 hg by unfold isI64; omega) fun _ => ?_
      refine Need.mk ⟨by rw [leavesL_n hL hok]; exact hP, leavesPre_n hL hok hmn⟩ fun _ => ?_
      rw [leavesL_n hL hok]
      refine Need.mk (show ((Leb.put hg).length : Int) + (proofB (pc, pl)).length ≤ 9223372036854775807 by (try simp only [List.length_append]); omega) fun _ => ?_
      refine Need.mk (show ((Leb.put 5 ++ pkB (⟨sp, sc, dp, dc, sq, da, th, ta⟩ : Pkt) ++ Leb.put nx).length : Int) + (Leb.put hg ++ proofB (pc, pl)).length ≤ 9223372036854775807 by (try simp only [List.length_append]); omega) fun _ => ?_
      refine Ife.yes (by decide) ?_
      refine Need.mk ⟨by rw [leavesL_n hL' hok']; exact hQ, leavesPre_n hL' hok' hmn'⟩ fun _ => ?_
      rw [leavesL_n hL' hok']
      refine Need.mk (show ((Leb.put 5 ++ pkB (⟨sp, sc, dp, dc, sq, da, th, ta⟩ : Pkt) ++ Leb.put nx ++ (Leb.put hg ++ proofB (pc, pl))).length : Int) + (proofB (cc, cl)).length ≤ 9223372036854775807 by (try simp only [List.length_append]); omega) fun _ => ?_
      have hB : msgB ⟨5, hh, ht, hr, ⟨sp, sc, dp, dc, sq, da, th, ta⟩, ack, nx, hg, pc, pl, cc, cl⟩ = Leb.put 5 ++ pkB (⟨sp, sc, dp, dc, sq, da, th, ta⟩ : Pkt) ++ Leb.put nx ++ (Leb.put hg ++ proofB (pc, pl)) ++ proofB (cc, cl) := by simp [msgB, restB, restOf, hdrB, nextB]
      rw [encMsg_yes hm, hB]
      exact ⟨[0, 1], ⟨rfl, by repeat' (first | exact trivial | exact rfl | apply And.intro | exact (fun _ _ _ _ => Cell.le_refl _) | (intro i hi; rfl) | (intro i hi; exact absurd hi (Nat.not_lt_zero _))), by decide, rfl, by repeat' (first | exact trivial | exact rfl | apply And.intro | exact (fun _ _ _ _ => Cell.le_refl _) | (intro i hi; rfl) | (intro i hi; exact absurd hi (Nat.not_lt_zero _)))⟩⟩
    

end Go.Proofs.Ytcgoaicifjndpaa.Vx
end

section
/- The document's count, by the walker. -/
namespace Go.Proofs.Ytcgoaicifjndpaa
open Go.RowKit
set_option linter.unusedVariables false
set_option linter.unusedSimpArgs false
namespace Vx
set_option maxRecDepth 100000 in
set_option maxHeartbeats 400000 in
theorem refCountP : Meth Try.prog 166 166 sCount := by
  refine Meth.of (E := tb) (C := [(165, appPure sLebNext)]) [] 0 [(3, [(0, true), (1, true), (2, true), (3, true), (4, true), (5, true), (6, true), (7, true), (8, false), (9, true), (10, true), (11, true), (12, true), (13, true), (14, true), (15, true)])] tb_ok (CtsOk.cons (Pure.ct refNextP) <| CtsOk.nil _) (by kernel_rfl) Try.func166 rfl rfl rfl (by kernel_rfl) (by kernel_rfl) ?_ ?_
  · intro cs args pre r cs' h
    unfold sCount at h
    split at h
    · cases h; first | rfl | exact ⟨rfl, rfl⟩
    · cases h
  · intro cs args pre r cs' h hp
    unfold sCount at h
    split at h
    rotate_left
    · cases h
    rename_i l a b hi
    cases h
    unfold sLebNext
    generalize hg0 : numS = g0
    generalize hg1 : textS = g1
    generalize hg2 : countS = g2
    generalize hg3 : endS = g3
    generalize hg4 : Leb.next = g4
    generalize hg5 : isI64 = g5
    generalize hg6 : okRd = g6
    generalize hg7 : (List.length : List UInt8 → Nat) = g7
    generalize hA : Arith.std = A
    cbv
    subst hA hg0 hg1 hg2 hg3 hg4 hg5 hg6 hg7
    have h64 : isI64 a := by obtain ⟨h1, h2, h3, h4, h5⟩ := hp; unfold isI64; omega
    have hlen : l.length ≤ 140737488351232 := hp.2.2.1
    obtain ⟨g1, g2, g3, g4, g5⟩ := hp
    have hr := Leb.next_range l a
    refine Ife.mk (fun h => ?_) (fun h => ?_)
    · have h : b ≠ 0 := by simpa [Arith.std] using h
      simp [countS, h]
    have hb : b = 0 := by simpa [Arith.std] using h
    subst hb
    refine Need.mk ⟨hlen, h64⟩ fun _ => ?_
    unfold countS
    generalize Leb.next l a = r at hr ⊢
    obtain ⟨v, p, e⟩ := r
    dsimp only at hr ⊢
    simp only [Ife_iff, Need_iff, Arith.std]
    by_cases he : e = 0 <;> by_cases h2 : hi < v <;> simp [he, h2]

end Vx
end Go.Proofs.Ytcgoaicifjndpaa
end

section
/- The document's proofs read, by the walker. -/
namespace Go.Proofs.Ytcgoaicifjndpaa.Vx
open Go.RowKit
set_option linter.unusedVariables false
set_option linter.unusedSimpArgs false
/-- As rLeaf, but the sums are read until an error comes. -/
def rLeafS (l : List UInt8) (s : Int × Int) : PLeaf × Int × Int :=
  let k := rText 160 l s
  let v := rText 64 l k.2
  let i := rNum 0 1073741824 l v.2
  let n := rCount 30 l i.2
  let p := repS rHash n.1.toNat l n.2
  (⟨k.1, v.1, i.1, p.1⟩, p.2)
def rProofS (l : List UInt8) (s : Int × Int) : (Int × List PLeaf) × Int × Int :=
  let c := rNum 0 1073741824 l s
  let n := rCount 2 l c.2
  let p := repS rLeafS n.1.toNat l n.2
  ((c.1, p.1), p.2)
theorem agLeaf : Agree rLeaf rLeafS := by
  have h := fun n => Agree.rep codecHash (Agree.rfl' rHash) n
  refine ⟨fun l s => ?_, fun l s hz => ?_⟩
  · show (repS rHash _ l _).2 = (repR rHash _ l _).2
    exact (h _).st _ _
  · have e := (h (rCount 30 l (rNum 0 1073741824 l (rText 64 l (rText 160 l s).2).2).2).1.toNat).val l (rCount 30 l (rNum 0 1073741824 l (rText 64 l (rText 160 l s).2).2).2).2 hz
    unfold rLeafS rLeaf
    dsimp only
    rw [e]
theorem agProof : Agree rProof rProofS := by
  have h := fun n => Agree.rep codecLeaf agLeaf n
  refine ⟨fun l s => ?_, fun l s hz => ?_⟩
  · show (repS rLeafS _ l _).2 = (repR rLeaf _ l _).2
    exact (h _).st _ _
  · have e := (h (rCount 2 l (rNum 0 1073741824 l s).2).1.toNat).val l (rCount 2 l (rNum 0 1073741824 l s).2).2 hz
    unfold rProofS rProof
    dsimp only
    rw [e]
theorem repS_succ {α : Type} {r : List UInt8 → Int × Int → α × Int × Int} {n : Nat} {l : List UInt8} {s : Int × Int} (h : s.2 = 0) : repS r (n + 1) l s = ((r l s).1 :: (repS r n l (r l s).2).1, (repS r n l (r l s).2).2) := by
  show (if s.2 ≠ 0 then ([], s) else _) = _
  rw [if_neg (by simp [h])]
structure LRepS {α : Type} (r : List UInt8 → Int × Int → α × Int × Int) (l : List UInt8) (N : Nat) (s0 : Int × Int) where
  i : Int
  n : Nat
  a : Int
  b : Int
  p : List α
  hn : i = (n : Int)
  h1 : n ≤ N
  hp : p.length = n
  ok : okRd l a b
  he : repS r N l s0 = (p ++ (repS r (N - n) l (a, b)).1, (repS r (N - n) l (a, b)).2)
theorem repS_next {α : Type} {r : List UInt8 → Int × Int → α × Int × Int} {l : List UInt8} {N : Nat} {s0 : Int × Int} {n : Nat} {a b : Int} {p : List α} (h1 : n < N) (hb : b = 0) (he : repS r N l s0 = (p ++ (repS r (N - n) l (a, b)).1, (repS r (N - n) l (a, b)).2)) : repS r N l s0 = ((p ++ [(r l (a, b)).1]) ++ (repS r (N - (n + 1)) l (r l (a, b)).2).1, (repS r (N - (n + 1)) l (r l (a, b)).2).2) := by
  obtain ⟨m, hm⟩ : ∃ m, N - n = m + 1 := ⟨N - n - 1, by omega⟩
  rw [hm, repS_succ (by exact hb)] at he
  rw [show N - (n + 1) = m by omega, he]
  simp
theorem repS_end {α : Type} {r : List UInt8 → Int × Int → α × Int × Int} {l : List UInt8} {N : Nat} {s0 : Int × Int} {n : Nat} {a b : Int} {p : List α} (h1 : N ≤ n ∨ b ≠ 0) (he : repS r N l s0 = (p ++ (repS r (N - n) l (a, b)).1, (repS r (N - n) l (a, b)).2)) : repS r N l s0 = (p, (a, b)) := by
  rw [he]
  rcases h1 with h1 | h1
  · rw [show N - n = 0 by omega]
    simp [repS]
  · rw [repS_stop r _ l (a, b) h1]
    simp
def sRRProof : SpecF
  | [.c (.ptr 0 0)], [.cells t [.str l, .int .i64 a, .int .i64 b]] => some (t = 166 ∧ okRd l a b, .agg [.int .i64 (rProofS l (a, b)).1.1, .row 1], [.cells 166 [.str l, .int .i64 (rProofS l (a, b)).2.1, .int .i64 (rProofS l (a, b)).2.2], .data true 140 4 (lenL (rProofS l (a, b)).1.2) (leafG true (rProofS l (a, b)).1.2)])
  | _, _ => none

set_option maxRecDepth 100000 in
set_option maxHeartbeats 16000000 in
theorem rrProofP : Fn Try.prog 129 [] [] sRRProof := by
  have hC : CtsOk Try.prog [(125, appMeth 166 sRdNum), (166, appMeth 166 sCount), (128, appMeth 166 sRdText), (126, appMeth 166 sHash)] := CtsOk.cons (Meth.ct refNumP) <| CtsOk.cons (Meth.ct refCountP) <| CtsOk.cons (Meth.ct refTextP) <| CtsOk.cons (Meth.ct refHashP) <| CtsOk.nil _
  refine Fn.ofZ (E := tbR) [] 0 [(13, [(2000, false), (2005, false), (0, true), (1, true), (2, true), (3, false), (4, false), (5, false), (6, true), (1007, false), (7, false)])] tbR_ok hC (by kernel_rfl) Try.func129 rfl rfl rfl (by kernel_rfl) (by kernel_rfl) 1 (.data true 140 4 0 fun _ _ => .pl .tt) rfl ?_ ?_
  · intro args h pre r h' hs
    unfold sRRProof at hs
    split at hs
    · cases hs; exact ⟨rfl, rfl, Nat.le_of_ble_eq_true rfl⟩
    · cases hs
  · intro args h pre r h' hs hp
    unfold sRRProof at hs
    split at hs
    rotate_left
    · cases hs
    rename_i t l a b
    cases hs
    obtain ⟨rfl, hok⟩ := hp
    refine ⟨[.cells 166 [.str l, .int .i64 a, .int .i64 b]], ⟨rfl, trivial⟩, ?_⟩
    unfold sRdText sRdNum sCount sHash
    generalize hL : lft Try.prog _ = L
    try unfold leafG
    generalize ho0 : @lK = zo0, ho1 : @lV = zo1, ho2 : @lI = zo2, ho3 : @lP = zo3, ho4 : @lN = zo4, ho5 : @pG = zo5, ho6 : @rHash = zo6, ho7 : @hashS = zo7, ho8 : @byteI = zo8, ho9 : @okRd = zo9, ho10 : @textS = zo10, ho11 : @numS = zo11, ho12 : @countS = zo12, ho13 : @lenH = zo13, ho14 : @lenL = zo14, ho15 : @rLeafS = zo15, ho16 : @rProofS = zo16
    generalize hA : Arith.std = A
    cbv
    subst hA hL ho0 ho1 ho2 ho3 ho4 ho5 ho6 ho7 ho8 ho9 ho10 ho11 ho12 ho13 ho14 ho15 ho16
    have h3 := ok_num (lo := 0) (hi := 1073741824) hok
    have h4 := ok_count (hi := 2) h3
    refine Need.mk hok fun _ => ?_
    refine Need.mk h3 fun _ => ?_
    have hR : rProofS l (a, b) = (((numS l a b 0 1073741824).1, (repS rLeafS (countS l (numS l a b 0 1073741824).2.1 (numS l a b 0 1073741824).2.2 2).1.toNat l (countS l (numS l a b 0 1073741824).2.1 (numS l a b 0 1073741824).2.2 2).2).1), (repS rLeafS (countS l (numS l a b 0 1073741824).2.1 (numS l a b 0 1073741824).2.2 2).1.toNat l (countS l (numS l a b 0 1073741824).2.1 (numS l a b 0 1073741824).2.2 2).2).2) := rfl
    clear h3
    obtain ⟨s00, hs00⟩ : ∃ x, (a, b) = x := ⟨_, rfl⟩
    rw [hs00] at hR ⊢
    generalize numS l a b 0 1073741824 = t3 at *
    have hrg := cnt_rng l t3.2.1 t3.2.2 2 (by decide)
    generalize countS l t3.2.1 t3.2.2 2 = t4 at *
    obtain ⟨N, A0, B0⟩ := t4
    obtain ⟨c, t3s⟩ := t3
    dsimp only at *
    refine Runs.nilCellE 2 1 (.orow 140 4 0 (leafG true [])) rfl rfl rfl ?_
    show Runs Try.prog 1 (.loop _) _ _
    refine loop_ruleL (N := env (lft Try.prog 1) 0 .std tbR [(125, appMeth 166 sRdNum), (166, appMeth 166 sCount), (128, appMeth 166 sRdText), (126, appMeth 166 sHash)] [(13, [(2000, false), (2005, false), (0, true), (1, true), (2, true), (3, false), (4, false), (5, false), (6, true), (1007, false), (7, false)])]) rfl tbR_ok hC (fun c st K _ h => h) (by kernel_rfl) [] (X := LRepS rLeafS l N.toNat (A0, B0))
      (S := fun x => ⟨[.c (.ptr 0 0), .any, .c (.ptr 1 0), .c (.ptr 2 0), .c (.int .i64 N), .c (.int .i64 x.i)] ++ List.replicate 57 .any, [.cells 166 [.str l, .int .i64 x.a, .int .i64 x.b], .cells 72 [.int .i64 0, .val (.slice none 0 0)], .cells 72 [.int .i64 c, .row 3], .orow 140 4 x.n (leafG true x.p)]⟩) (μ := fun x => N.toNat - x.n) ⟨0, 0, A0, B0, [], rfl, by omega, rfl, h4, rfl⟩ (by kernel_rfl) [0, 1, 2, 3] ?_ ?_
    · refine ⟨rfl, by show List.Nodup [0, 1, 2, 3]; decide, ?_, ?_⟩ <;> repeat' (first | exact trivial | exact rfl | apply And.intro | exact (fun _ _ _ _ => Cell.le_refl _) | (intro i hi; rfl) | (intro i hi; exact absurd hi (Nat.not_lt_zero _)))
    rintro ⟨i, n, a, b, p, hn, hnN, hp, hok, he⟩
    replace hn : i = @Nat.cast Int instNatCastInt n := hn
    subst hn
    unfold sRdText sRdNum sCount sHash
    generalize hL : lft Try.prog _ = L
    try dsimp only
    try unfold leafG
    generalize ho0 : @lK = zo0, ho1 : @lV = zo1, ho2 : @lI = zo2, ho3 : @lP = zo3, ho4 : @lN = zo4, ho5 : @pG = zo5, ho6 : @rHash = zo6, ho7 : @hashS = zo7, ho8 : @byteI = zo8, ho9 : @okRd = zo9, ho10 : @textS = zo10, ho11 : @numS = zo11, ho12 : @countS = zo12, ho13 : @lenH = zo13, ho14 : @lenL = zo14, ho15 : @rLeafS = zo15, ho16 : @rProofS = zo16
    generalize hA : Arith.std = A
    cbv
    subst hA hL ho0 ho1 ho2 ho3 ho4 ho5 ho6 ho7 ho8 ho9 ho10 ho11 ho12 ho13 ho14 ho15 ho16
    replace hok : okRd l a b := hok
    have fin : ∀ q, repS rLeafS N.toNat l (A0, B0) = q → rProofS l s00 = ((c, q.1), q.2) := fun q hq => by rw [hR, hq]
    refine Ife.mk (fun hlt => ?_) (fun hlt => ?_)
    · replace hlt : @Nat.cast Int instNatCastInt n < N := of_decide_eq_true (p := (n : Int) < N) hlt
      have hn2 : n < N.toNat := by omega
      have hn3 : n ≤ 1 := by omega
      refine Ife.mk (fun hb => ?_) (fun hb => ?_)
      · replace hb : b = 0 := of_decide_eq_true (p := b = 0) hb
        have g1 := ok_text (hi := 160) hok
        have g2 := ok_text (hi := 64) g1
        have g3 := ok_num (lo := 0) (hi := 1073741824) g2
        have g4 := ok_count (hi := 30) g3
        refine Need.mk hok fun _ => ?_
        refine Need.mk g1 fun _ => ?_
        refine Need.mk g2 fun _ => ?_
        refine Need.mk g3 fun _ => ?_
        have hQ : rLeafS l (a, b) = (⟨(textS l a b 160).1, (textS l (textS l a b 160).2.1 (textS l a b 160).2.2 64).1, (numS l (textS l (textS l a b 160).2.1 (textS l a b 160).2.2 64).2.1 (textS l (textS l a b 160).2.1 (textS l a b 160).2.2 64).2.2 0 1073741824).1, (repS rHash (countS l (numS l (textS l (textS l a b 160).2.1 (textS l a b 160).2.2 64).2.1 (textS l (textS l a b 160).2.1 (textS l a b 160).2.2 64).2.2 0 1073741824).2.1 (numS l (textS l (textS l a b 160).2.1 (textS l a b 160).2.2 64).2.1 (textS l (textS l a b 160).2.1 (textS l a b 160).2.2 64).2.2 0 1073741824).2.2 30).1.toNat l (countS l (numS l (textS l (textS l a b 160).2.1 (textS l a b 160).2.2 64).2.1 (textS l (textS l a b 160).2.1 (textS l a b 160).2.2 64).2.2 0 1073741824).2.1 (numS l (textS l (textS l a b 160).2.1 (textS l a b 160).2.2 64).2.1 (textS l (textS l a b 160).2.1 (textS l a b 160).2.2 64).2.2 0 1073741824).2.2 30).2).1⟩,
          (repS rHash (countS l (numS l (textS l (textS l a b 160).2.1 (textS l a b 160).2.2 64).2.1 (textS l (textS l a b 160).2.1 (textS l a b 160).2.2 64).2.2 0 1073741824).2.1 (numS l (textS l (textS l a b 160).2.1 (textS l a b 160).2.2 64).2.1 (textS l (textS l a b 160).2.1 (textS l a b 160).2.2 64).2.2 0 1073741824).2.2 30).1.toNat l (countS l (numS l (textS l (textS l a b 160).2.1 (textS l a b 160).2.2 64).2.1 (textS l (textS l a b 160).2.1 (textS l a b 160).2.2 64).2.2 0 1073741824).2.1 (numS l (textS l (textS l a b 160).2.1 (textS l a b 160).2.2 64).2.1 (textS l (textS l a b 160).2.1 (textS l a b 160).2.2 64).2.2 0 1073741824).2.2 30).2).2) := rfl
        clear g1 g2 g3
        generalize textS l a b 160 = t1 at *
        generalize textS l t1.2.1 t1.2.2 64 = t2 at *
        generalize numS l t2.2.1 t2.2.2 0 1073741824 = t5 at *
        have hrg2 := cnt_rng l t5.2.1 t5.2.2 30 (by decide)
        generalize countS l t5.2.1 t5.2.2 30 = t6 at *
        obtain ⟨M, C0, D0⟩ := t6
        dsimp only at *
        refine Runs.nilCell 4 3 63 32 (pG []) rfl rfl ?_
        show Runs Try.prog 1 (.loop _) _ _
        refine loop_ruleL (N := env (lft Try.prog 1) 0 .std tbR [(125, appMeth 166 sRdNum), (166, appMeth 166 sCount), (128, appMeth 166 sRdText), (126, appMeth 166 sHash)] [(13, [(2000, false), (2005, false), (0, true), (1, true), (2, true), (3, false), (4, false), (5, false), (6, true), (1007, false), (7, false)])]) rfl tbR_ok hC (fun c st K _ h => h) (by kernel_rfl) [] (X := LRepS rHash l M.toNat (C0, D0))
          (S := fun x => ⟨[.c (.ptr 0 0), .any, .c (.ptr 1 0), .c (.ptr 2 0), .c (.int .i64 N), .c (.int .i64 (n : Int)), .c (.ptr 4 0), .c (.int .i64 M), .c (.int .i64 x.i)] ++ List.replicate 54 .any, [.cells 166 [.str l, .int .i64 x.a, .int .i64 x.b], .cells 72 [.int .i64 0, .val (.slice none 0 0)], .cells 72 [.int .i64 c, .row 3], .orow 140 4 n (leafG true p), .cells 140 [.str t1.1, .str t2.1, .int .i64 t5.1, .row 5], .row 63 32 x.n (pG x.p)]⟩) (μ := fun x => M.toNat - x.n) ⟨0, 0, C0, D0, [], rfl, by omega, rfl, g4, rfl⟩ (by kernel_rfl) [0, 1, 2, 3, 4, 5] ?_ ?_
        · refine ⟨rfl, by show List.Nodup [0, 1, 2, 3, 4, 5]; decide, ?_, ?_⟩ <;> repeat' (first | exact trivial | exact rfl | apply And.intro | exact (fun _ _ _ _ => Cell.le_refl _) | (intro i hi; rfl) | (intro i hi; exact absurd hi (Nat.not_lt_zero _)))
        rintro ⟨j, m, a2, b2, q, hm, hmN, hq, hok2, he2⟩
        replace hm : j = @Nat.cast Int instNatCastInt m := hm
        subst hm
        unfold sRdText sRdNum sCount sHash
        generalize hL : lft Try.prog _ = L
        try dsimp only
        try unfold leafG
        generalize ho0 : @lK = zo0, ho1 : @lV = zo1, ho2 : @lI = zo2, ho3 : @lP = zo3, ho4 : @lN = zo4, ho5 : @pG = zo5, ho6 : @rHash = zo6, ho7 : @hashS = zo7, ho8 : @byteI = zo8, ho9 : @okRd = zo9, ho10 : @textS = zo10, ho11 : @numS = zo11, ho12 : @countS = zo12, ho13 : @lenH = zo13, ho14 : @lenL = zo14, ho15 : @rLeafS = zo15, ho16 : @rProofS = zo16
        generalize hA : Arith.std = A
        cbv
        subst hA hL ho0 ho1 ho2 ho3 ho4 ho5 ho6 ho7 ho8 ho9 ho10 ho11 ho12 ho13 ho14 ho15 ho16
        replace hok2 : okRd l a2 b2 := hok2
        have fin2 : (M.toNat ≤ m ∨ b2 ≠ 0) → rLeafS l (a, b) = (⟨t1.1, t2.1, t5.1, q⟩, (a2, b2)) := fun h => by rw [hQ, repS_end h he2]
        refine Ife.mk (fun hlt2 => ?_) (fun hlt2 => ?_)
        · replace hlt2 : (m : Int) < M := of_decide_eq_true (p := (m : Int) < M) hlt2
          refine Ife.mk (fun hb2 => ?_) (fun hb2 => ?_)
          · replace hb2 : b2 = 0 := of_decide_eq_true (p := b2 = 0) hb2
            refine Need.mk hok2 fun _ => ?_
            refine Need.mk (show m + 1 ≤ maxLen ∧ (m + 1) * 32 ≤ 140737488355328 from ⟨by unfold maxLen; omega, by omega⟩) fun _ => ?_
            refine Need.mk (by show fitStd .i64 ((m : Int) + 1); unfold fitStd; omega) fun _ => ?_
            refine ⟨⟨(m : Int) + 1, m + 1, (rHash l (a2, b2)).2.1, (rHash l (a2, b2)).2.2, q ++ [(rHash l (a2, b2)).1], by omega, by omega, by simp; omega, ok_hash hok2, repS_next (by omega) hb2 he2⟩, [0, 1, 2, 3, 4, 7], (by show M.toNat - (m + 1) < M.toNat - m; omega), ?_⟩
            refine ⟨rfl, by show List.Nodup [0, 1, 2, 3, 4, 7]; decide, by repeat' (first | exact trivial | exact rfl | apply And.intro | exact (fun _ _ _ _ => Cell.le_refl _) | (intro i hi; rfl) | (intro i hi; exact absurd hi (Nat.not_lt_zero _))), ?_⟩
            repeat' (first | exact trivial | exact rfl | apply And.intro | exact (fun _ _ _ _ => Cell.le_refl _))
            exact pG_push hq _
          · replace hb2 : ¬ b2 = 0 := of_decide_eq_false (p := b2 = 0) hb2
            have fq := fin2 (Or.inr hb2)
            refine Need.mk ⟨show n + 1 ≤ maxLen ∧ (n + 1) * 64 ≤ 140737488355328 from ⟨by unfold maxLen; clear hlt hrg; omega, by clear hlt hrg; omega⟩, trivial⟩ fun _ => ?_
            refine Need.mk (show fitStd .i64 (@Nat.cast Int instNatCastInt n + 1) by clear hlt hrg; unfold fitStd; omega) fun _ => ?_
            have nx := repS_next hn2 hb he
            rw [fq] at nx
            refine ⟨⟨(n : Int) + 1, n + 1, a2, b2, p ++ [⟨t1.1, t2.1, t5.1, q⟩], rfl, hn2, by rw [List.length_append, hp]; rfl, hok2, nx⟩, [0, 1, 2, 7], (Nat.sub_succ_lt_self _ _ hn2), ?_⟩
            refine ⟨rfl, by show List.Nodup [0, 1, 2, 7]; decide, by repeat' (first | exact trivial | exact rfl | apply And.intro | exact (fun _ _ _ _ => Cell.le_refl _) | (intro i hi; rfl) | (intro i hi; exact absurd hi (Nat.not_lt_zero _))), ?_⟩
            repeat' (first | exact trivial | exact rfl | apply And.intro)
            have z := leafG_push hp ⟨t1.1, t2.1, t5.1, q⟩
            rw [show lenH q = m from hq] at z
            exact z
        · replace hlt2 : ¬ (m : Int) < M := of_decide_eq_false (p := (m : Int) < M) hlt2
          have fq := fin2 (Or.inl (by omega))
          refine Need.mk ⟨show n + 1 ≤ maxLen ∧ (n + 1) * 64 ≤ 140737488355328 from ⟨by unfold maxLen; clear hlt hrg; omega, by clear hlt hrg; omega⟩, trivial⟩ fun _ => ?_
          refine Need.mk (show fitStd .i64 (@Nat.cast Int instNatCastInt n + 1) by clear hlt hrg; unfold fitStd; omega) fun _ => ?_
          have nx := repS_next hn2 hb he
          rw [fq] at nx
          refine ⟨⟨(n : Int) + 1, n + 1, a2, b2, p ++ [⟨t1.1, t2.1, t5.1, q⟩], rfl, hn2, by rw [List.length_append, hp]; rfl, hok2, nx⟩, [0, 1, 2, 7], (Nat.sub_succ_lt_self _ _ hn2), ?_⟩
          refine ⟨rfl, by show List.Nodup [0, 1, 2, 7]; decide, by repeat' (first | exact trivial | exact rfl | apply And.intro | exact (fun _ _ _ _ => Cell.le_refl _) | (intro i hi; rfl) | (intro i hi; exact absurd hi (Nat.not_lt_zero _))), ?_⟩
          repeat' (first | exact trivial | exact rfl | apply And.intro)
          have z := leafG_push hp ⟨t1.1, t2.1, t5.1, q⟩
          rw [show lenH q = m from hq] at z
          exact z
      · replace hb : ¬ b = 0 := of_decide_eq_false (p := b = 0) hb
        have hE := repS_end (Or.inr hb) he
        rw [fin _ hE]
        refine ⟨[3], [0, 3], ⟨?fz, rfl, (by repeat' (first | exact trivial | exact rfl | apply And.intro | exact (fun _ _ _ _ => Cell.le_refl _) | (intro i hi; rfl) | (intro i hi; exact absurd hi (Nat.not_lt_zero _)))), (by show [0].Nodup; decide), rfl, ?hh⟩⟩
        case fz =>
          refine ⟨fun i j hi hj => ?_, trivial⟩
          rcases four hj with rfl | rfl | rfl | rfl
          · trivial
          · trivial
          · trivial
          · exact rfl
        case hh =>
          repeat' (first | exact trivial | exact rfl | apply And.intro)
          · exact hp.symm
          · exact fun _ _ _ _ => Cell.le_refl _
    · replace hlt : ¬ (n : Int) < N := of_decide_eq_false (p := (n : Int) < N) hlt
      have hE := repS_end (Or.inl (by omega)) he
      rw [fin _ hE]
      refine ⟨[3], [0, 3], ⟨?fz, rfl, (by repeat' (first | exact trivial | exact rfl | apply And.intro | exact (fun _ _ _ _ => Cell.le_refl _) | (intro i hi; rfl) | (intro i hi; exact absurd hi (Nat.not_lt_zero _)))), (by show [0].Nodup; decide), rfl, ?hh⟩⟩
      case fz =>
        refine ⟨fun i j hi hj => ?_, trivial⟩
        rcases four hj with rfl | rfl | rfl | rfl
        · trivial
        · trivial
        · trivial
        · exact rfl
      case hh =>
        repeat' (first | exact trivial | exact rfl | apply And.intro)
        · exact hp.symm
        · exact fun _ _ _ _ => Cell.le_refl _

end Go.Proofs.Ytcgoaicifjndpaa.Vx
end

section
/- The document's messages decoded, by the walker. -/
namespace Go.Proofs.Ytcgoaicifjndpaa.Vx
open Go.RowKit
set_option linter.unusedVariables false
set_option linter.unusedSimpArgs false
def rRestS (k : Int) (l : List UInt8) (s : Int × Int) : MRest × Int × Int :=
  let h := rIf (decide (k = 1)) (0, 0, noRt) rHdr l s
  let p := rIf (decide (k ≠ 1)) noPkt rPk l h.2
  let a := rIf (decide (k = 3)) [] (rText 32) l p.2
  let n := rIf (nextB k) 0 (rNum 0 1099511627777) l a.2
  let g := rIf (decide (k ≠ 1)) 0 (rNum 1 1099511627776) l n.2
  let q := rIf (decide (k ≠ 1)) (0, []) rProofS l g.2
  let c := rIf (decide (k = 5)) (0, []) rProofS l q.2
  ((h.1, p.1, a.1, n.1, g.1, q.1, c.1), c.2)
def rMsgS (l : List UInt8) (s : Int × Int) : PMsg × Int × Int :=
  let k := rNum 1 5 l s
  let z := rRestS k.1 l k.2
  (msgK k.1 z.1, z.2)
theorem rMsgS_upd {l : List UInt8} {s s1 s2 s3 : Int × Int} {x y : Int} (h1 : rNum 1 5 l s = (1, s1)) (h2 : rNum 1 1099511627776 l s1 = (x, s2)) (h3 : rNum 0 1099511627776 l s2 = (y, s3)) :
    rMsgS l s = (⟨1, x, y, numsOf (hashS l s3.1 s3.2).1, noPkt, [], 0, 0, 0, [], 0, []⟩, (hashS l s3.1 s3.2).2) := by
  show (msgK (rNum 1 5 l s).1 (rRestS (rNum 1 5 l s).1 l (rNum 1 5 l s).2).1, (rRestS (rNum 1 5 l s).1 l (rNum 1 5 l s).2).2) = _
  rw [h1]
  show (msgK 1 ((rHdr l s1).1, noPkt, [], 0, 0, (0, []), (0, [])), (rHdr l s1).2) = _
  unfold rHdr
  dsimp only
  rw [h2]
  dsimp only
  rw [h3]
  rfl
theorem rMsgS_oth {l : List UInt8} {s : Int × Int} {k : Int} {s1 : Int × Int} (hk : rNum 1 5 l s = (k, s1)) (h : k ≠ 1) {p : Pkt} {s2 : Int × Int} (hp : rPk l s1 = (p, s2)) {a : List UInt8} {s3 : Int × Int} (ha : rIf (decide (k = 3)) [] (rText 32) l s2 = (a, s3)) {n : Int} {s4 : Int × Int} (hn : rIf (nextB k) 0 (rNum 0 1099511627777) l s3 = (n, s4)) {g : Int} {s5 : Int × Int} (hg : rNum 1 1099511627776 l s4 = (g, s5)) {q : Int × List PLeaf} {s6 : Int × Int} (hq : rProofS l s5 = (q, s6)) {c : Int × List PLeaf} {s7 : Int × Int} (hc : rIf (decide (k = 5)) (0, []) rProofS l s6 = (c, s7)) :
    rMsgS l s = (⟨k, 0, 0, noRt, p, a, n, g, q.1, q.2, c.1, c.2⟩, s7) := by
  show (msgK (rNum 1 5 l s).1 (rRestS (rNum 1 5 l s).1 l (rNum 1 5 l s).2).1, (rRestS (rNum 1 5 l s).1 l (rNum 1 5 l s).2).2) = _
  rw [hk]
  unfold rRestS
  dsimp only
  rw [show decide (k = 1) = false from decide_eq_false h, show decide (k ≠ 1) = true from decide_eq_true h]
  simp only [rIf, if_true, Bool.false_eq_true, if_false] at *
  rw [hp]
  dsimp only
  rw [ha]
  dsimp only
  rw [hn]
  dsimp only
  rw [hg]
  dsimp only
  rw [hq]
  dsimp only
  rw [hc]
  rfl
theorem agRest (k : Int) : Agree (rRest k) (rRestS k) := by
  have aq := agProof.ite (decide (k ≠ 1)) (0, [])
  have ac := agProof.ite (decide (k = 5)) (0, [])
  have cc := codecProof.ite (decide (k = 5)) (0, [])
  refine ⟨fun l s => ?_, fun l s h => ?_⟩
  · unfold rRestS rRest
    dsimp only
    rw [aq.st, ac.st]
  · unfold rRest at h
    unfold rRestS rRest
    dsimp only at h ⊢
    rw [aq.st, ac.val _ _ h]
    rw [aq.val _ _ (Decidable.byContradiction fun hb => hb (by rw [← cc.stick l _ hb]; exact h))]
theorem agMsg : Agree rMsg rMsgS := by
  refine ⟨fun l s => (agRest _).st _ _, fun l s h => ?_⟩
  have e := (agRest (rNum 1 5 l s).1).val l (rNum 1 5 l s).2 h
  show msgK (rNum 1 5 l s).1 (rRestS (rNum 1 5 l s).1 l (rNum 1 5 l s).2).1 = _
  rw [e]
  rfl
theorem endS_zero {l : List UInt8} {a b : Int} (h : endS l a b = 0) : b = 0 := by
  unfold endS at h
  split at h
  · exact absurd h (by decide)
  · exact h
theorem rMsgS_eq {l : List UInt8} (h : endS l (rMsgS l (0, 0)).2.1 (rMsgS l (0, 0)).2.2 = 0) : rMsgS l (0, 0) = rMsg l (0, 0) := by
  have e := agMsg.st l (0, 0)
  have h2 := endS_zero h
  rw [e] at h2
  exact Prod.ext (agMsg.val l (0, 0) h2) e
theorem rMsgS_V {l : List UInt8} (h : endS l (rMsgS l (0, 0)).2.1 (rMsgS l (0, 0)).2.2 = 0) : msgV (rMsgS l (0, 0)).1 := by
  have e := rMsgS_eq h
  rw [e] at h ⊢
  exact rMsg_V h
theorem decMsgS_eq (l : List UInt8) : decMsg l = if endS l (rMsgS l (0, 0)).2.1 (rMsgS l (0, 0)).2.2 ≠ 0 then (zeroMsg, endS l (rMsgS l (0, 0)).2.1 (rMsgS l (0, 0)).2.2) else if mayM (rMsgS l (0, 0)).1 then ((rMsgS l (0, 0)).1, 0) else (zeroMsg, 1) := by
  have e := agMsg.st l (0, 0)
  by_cases h : endS l (rMsgS l (0, 0)).2.1 (rMsgS l (0, 0)).2.2 = 0
  · have e2 := rMsgS_eq h
    rw [decMsg_eq, e2]
  · have h2 : endS l (rMsg l (0, 0)).2.1 (rMsg l (0, 0)).2.2 ≠ 0 := by rw [← e]; exact h
    rw [decMsg_eq, if_pos h2, if_pos h, e]
theorem okS_proofS {l : List UInt8} {a b : Int} (h : okRd l a b) : okRd l (rProofS l (a, b)).2.1 (rProofS l (a, b)).2.2 := by
  rw [agProof.st]
  exact ok_proof h
theorem numS_rng (l : List UInt8) (a b lo hi : Int) : (numS l a b lo hi).1 = 0 ∨ lo ≤ (numS l a b lo hi).1 ∧ (numS l a b lo hi).1 ≤ hi := by
  unfold numS
  split
  · exact Or.inl rfl
  · split
    · exact Or.inl rfl
    · split
      · exact Or.inl rfl
      · exact Or.inr (by dsimp only; omega)
theorem msgPre_h {m : PMsg} (h : MsgOk m) {cs : List CV} {a b : CV} {n n' : Nat} {get get' : Nat → Nat → Cell} {ty ty' sz sz' : Nat} (hcs : cs = msgC m a b) (e : leafL n get = m.pl) (e' : leafL n' get' = m.cl) (p : leavesPre ty sz n get) (p' : leavesPre ty' sz' n' get') : msgPre cs a b ty sz n get ty' sz' n' get' := by
  subst hcs
  refine ⟨?_, p, p', ?_⟩
  · rw [msgOf_msgC h.fit.len e e']
  · rw [msgOf_msgC h.fit.len e e']
    exact h.fit
theorem msgOf_h {m : PMsg} (h : MsgOk m) {cs : List CV} {a b : CV} {n n' : Nat} {get get' : Nat → Nat → Cell} (hcs : cs = msgC m a b) (e : leafL n get = m.pl) (e' : leafL n' get' = m.cl) : msgOf cs n get n' get' = m := by
  subst hcs
  exact msgOf_msgC h.fit.len e e'
theorem leavesPre_0 {get : Nat → Nat → Cell} : leavesPre 140 4 0 get := ⟨rfl, rfl, fun i j hi _ => absurd hi (Nat.not_lt_zero _), fun x hx => absurd hx (by simp [leafL]), by omega⟩
theorem Ife.conv {b b' : Bool} {p q : Prop} (h : b = b') (x : Ife b' p q) : Ife b p q := by rw [h]; exact x
set_option maxRecDepth 100000 in
set_option maxHeartbeats 16000000 in
theorem rdecMP : Fn Try.prog 66 [] [] sDecM := by
  have hC : CtsOk Try.prog [(125, appMeth 166 sRdNum), (128, appMeth 166 sRdText), (126, appMeth 166 sHash), (127, appMeth 166 sRdPk), (129, appFn [] [] sRRProof), (130, appMeth 166 sRdEnd), (47, appFn [] [(140, 204), (140, 204)] sMayM)] := CtsOk.cons (Meth.ct refNumP) <| CtsOk.cons (Meth.ct refTextP) <| CtsOk.cons (Meth.ct refHashP) <| CtsOk.cons (Meth.ct refPkP) <| CtsOk.cons (Fn.ct rrProofP) <| CtsOk.cons (Meth.ct refEndP) <| CtsOk.cons (Fn.ct rmayMP) <| CtsOk.nil _
  refine Fn.ofZ (E := tbR) [] 0 [] tbR_ok hC (by kernel_rfl) Try.func66 rfl rfl rfl (by kernel_rfl) (by kernel_rfl) 0 (.data true 140 4 0 fun _ _ => .pl .tt) rfl ?_ ?_
  · intro args h pre r h' hs
    unfold sDecM at hs
    split at hs
    · cases hs; exact ⟨rfl, rfl, Nat.le_of_ble_eq_true rfl⟩
    · cases hs
  · intro args h pre r h' hs hp
    unfold sDecM at hs
    split at hs
    rotate_left
    · cases hs
    rename_i l
    cases hs
    refine ⟨[], trivial, ?_⟩
    unfold sRdNum
    generalize hg0 : (List.length : List UInt8 → Nat) = g0
    try unfold leafG
    try unfold msgC
    generalize ho0 : @lK = zo0, ho1 : @lV = zo1, ho2 : @lI = zo2, ho3 : @lP = zo3, ho4 : @lN = zo4, ho5 : @pG = zo5, ho6 : @rN = zo6, ho7 : @msgPre = zo7, ho8 : @lenL = zo8, ho9 : @nextB = zo9, ho10 : @mayM = zo10, ho11 : @msgOf = zo11, ho12 : @decMsg = zo12, ho13 : @okRd = zo13, ho14 : @endS = zo14, ho15 : @hashS = zo15, ho16 : @byteI = zo16, ho17 : @textS = zo17, ho18 : @numS = zo18, ho19 : @rPk = zo19, ho20 : @rProofS = zo20
    generalize hs0 : @sHash = zs0, hs1 : @sRdText = zs1, hs2 : @sRdPk = zs2, hs3 : @sRRProof = zs3, hs4 : @sRdEnd = zs4, hs5 : @sMayM = zs5
    generalize hA : Arith.std = A
    cbv
    subst hA hg0 ho0 ho1 ho2 ho3 ho4 ho5 ho6 ho7 ho8 ho9 ho10 ho11 ho12 ho13 ho14 ho15 ho16 ho17 ho18 ho19 ho20 hs0 hs1 hs2 hs3 hs4 hs5
    unfold sHash sRdText sRdPk
    generalize hg0 : (List.length : List UInt8 → Nat) = g0
    try unfold leafG
    try unfold msgC
    generalize ho0 : @lK = zo0, ho1 : @lV = zo1, ho2 : @lI = zo2, ho3 : @lP = zo3, ho4 : @lN = zo4, ho5 : @pG = zo5, ho6 : @rN = zo6, ho7 : @msgPre = zo7, ho8 : @lenL = zo8, ho9 : @nextB = zo9, ho10 : @mayM = zo10, ho11 : @msgOf = zo11, ho12 : @decMsg = zo12, ho13 : @okRd = zo13, ho14 : @endS = zo14, ho15 : @hashS = zo15, ho16 : @byteI = zo16, ho17 : @textS = zo17, ho18 : @numS = zo18, ho19 : @rPk = zo19, ho20 : @rProofS = zo20
    generalize hs0 : @sRRProof = zs0, hs1 : @sRdEnd = zs1, hs2 : @sMayM = zs2
    generalize hA : Arith.std = A
    cbv
    subst hA hg0 ho0 ho1 ho2 ho3 ho4 ho5 ho6 ho7 ho8 ho9 ho10 ho11 ho12 ho13 ho14 ho15 ho16 ho17 ho18 ho19 ho20 hs0 hs1 hs2
    unfold sRRProof
    generalize hg0 : (List.length : List UInt8 → Nat) = g0
    try unfold leafG
    try unfold msgC
    generalize ho0 : @lK = zo0, ho1 : @lV = zo1, ho2 : @lI = zo2, ho3 : @lP = zo3, ho4 : @lN = zo4, ho5 : @pG = zo5, ho6 : @rN = zo6, ho7 : @msgPre = zo7, ho8 : @lenL = zo8, ho9 : @nextB = zo9, ho10 : @mayM = zo10, ho11 : @msgOf = zo11, ho12 : @decMsg = zo12, ho13 : @okRd = zo13, ho14 : @endS = zo14, ho15 : @hashS = zo15, ho16 : @byteI = zo16, ho17 : @textS = zo17, ho18 : @numS = zo18, ho19 : @rPk = zo19, ho20 : @rProofS = zo20
    generalize hs0 : @sRdEnd = zs0, hs1 : @sMayM = zs1
    generalize hA : Arith.std = A
    cbv
    subst hA hg0 ho0 ho1 ho2 ho3 ho4 ho5 ho6 ho7 ho8 ho9 ho10 ho11 ho12 ho13 ho14 ho15 ho16 ho17 ho18 ho19 ho20 hs0 hs1
    have hok := ok_start hp
    have z1 := ok_num (lo := 1) (hi := 5) hok
    have kr := numS_rng l 0 0 1 5
    generalize e1 : numS l 0 0 1 5 = t at *
    obtain ⟨k, a1, b1⟩ := t
    dsimp only at *
    refine Need.mk hok fun _ => Ife.mk (fun hk => ?_) (fun hk => ?_)
    · replace hk : k = 1 := of_decide_eq_true (p := k = 1) hk
      subst hk
      have z2 := ok_num (lo := 1) (hi := 1099511627776) z1
      generalize e2 : numS l a1 b1 1 1099511627776 = t at *
      obtain ⟨x, a2, b2⟩ := t
      dsimp only at *
      have z3 := ok_num (lo := 0) (hi := 1099511627776) z2
      generalize e3 : numS l a2 b2 0 1099511627776 = t at *
      obtain ⟨y, a3, b3⟩ := t
      dsimp only at *
      have z4 := ok_hash z3
      refine Need.mk z1 fun _ => Need.mk z2 fun _ => Need.mk z3 fun _ => ?_
      have hM := rMsgS_upd (s := (0, 0)) (s1 := (a1, b1)) (s2 := (a2, b2)) (s3 := (a3, b3)) e1 e2 e3
      have hdec := decMsgS_eq l
      have hV0 := fun h => rMsgS_V (l := l) h
      rw [hM] at hdec hV0
      dsimp only at hdec hV0
      clear hM
      unfold sRdEnd sMayM
      generalize hg0 : (List.length : List UInt8 → Nat) = g0
      try unfold leafG
      try unfold msgC
      generalize ho0 : @lK = zo0, ho1 : @lV = zo1, ho2 : @lI = zo2, ho3 : @lP = zo3, ho4 : @lN = zo4, ho5 : @pG = zo5, ho6 : @rN = zo6, ho7 : @msgPre = zo7, ho8 : @lenL = zo8, ho9 : @nextB = zo9, ho10 : @mayM = zo10, ho11 : @msgOf = zo11, ho12 : @decMsg = zo12, ho13 : @okRd = zo13, ho14 : @endS = zo14, ho15 : @hashS = zo15, ho16 : @byteI = zo16, ho17 : @textS = zo17, ho18 : @numS = zo18, ho19 : @rPk = zo19, ho20 : @rProofS = zo20
      generalize hA : Arith.std = A
      cbv
      subst hA hg0 ho0 ho1 ho2 ho3 ho4 ho5 ho6 ho7 ho8 ho9 ho10 ho11 ho12 ho13 ho14 ho15 ho16 ho17 ho18 ho19 ho20
      refine Need.mk z4 fun _ => Ife.mk (fun h9 => ?_) (fun h9 => ?_)
      rotate_left
      · have h9 : endS l (hashS l a3 b3).2.1 (hashS l a3 b3).2.2 ≠ 0 := by simpa [Arith.std] using h9
        rw [hdec, if_pos h9]
        refine Ife.yes (by simpa [Arith.std] using h9) ?_
        exact ⟨[], [3, 3], ⟨trivial, rfl, (by repeat' (first | exact (fun i j hi _ => absurd hi (Nat.not_lt_zero _)) | exact trivial | exact rfl | apply And.intro | exact (fun _ _ _ _ => Cell.le_refl _) | (intro i hi; rfl) | (intro i hi; exact absurd hi (Nat.not_lt_zero _)))), (by show List.Nodup []; exact List.nodup_nil), rfl, (by repeat' (first | exact (fun i j hi _ => absurd hi (Nat.not_lt_zero _)) | exact trivial | exact rfl | apply And.intro | exact (fun _ _ _ _ => Cell.le_refl _) | (intro i hi; rfl) | (intro i hi; exact absurd hi (Nat.not_lt_zero _))))⟩⟩
      have h9 : endS l (hashS l a3 b3).2.1 (hashS l a3 b3).2.2 = 0 := by simpa [Arith.std] using h9
      rw [if_neg (by simp [h9])] at hdec
      have hok0 := msgV_ok (hV0 h9)
      refine Need.mk (msgPre_h hok0 (msgC_nums (k := 1) (x := x) (y := y) (m := (hashS l a3 b3).1) (pk := noPkt) (ack := []) (nx := 0) (hg := 0) (pc := 0) (pl := []) (cc := 0) (cl := []) (u := .row 0) (v := .row 1)).symm rfl rfl leavesPre_0 leavesPre_0) fun _ => ?_
      refine Ife.conv (congrArg (fun m => !mayM m) (msgOf_h (a := .row 0) (b := .row 1) hok0 (msgC_nums (k := 1) (x := x) (y := y) (m := (hashS l a3 b3).1) (pk := noPkt) (ack := []) (nx := 0) (hg := 0) (pc := 0) (pl := []) (cc := 0) (cl := []) (u := .row 0) (v := .row 1)).symm rfl rfl)) ?_
      refine Ife.mk (fun hm => ?_) (fun hm => ?_)
      · rw [Bool.not_eq_true'] at hm
        rw [hdec, if_neg (by rw [hm]; decide)]
        refine Ife.yes rfl ?_
        exact ⟨[], [5, 5], ⟨trivial, rfl, (by repeat' (first | exact (fun i j hi _ => absurd hi (Nat.not_lt_zero _)) | exact trivial | exact rfl | apply And.intro | exact (fun _ _ _ _ => Cell.le_refl _) | (intro i hi; rfl) | (intro i hi; exact absurd hi (Nat.not_lt_zero _)))), (by show List.Nodup []; exact List.nodup_nil), rfl, (by repeat' (first | exact (fun i j hi _ => absurd hi (Nat.not_lt_zero _)) | exact trivial | exact rfl | apply And.intro | exact (fun _ _ _ _ => Cell.le_refl _) | (intro i hi; rfl) | (intro i hi; exact absurd hi (Nat.not_lt_zero _))))⟩⟩
      · rw [Bool.not_eq_false'] at hm
        rw [hdec, if_pos hm]
        try dsimp only
        rw [show msgCP rN = msgC from rfl, msgC_nums]
        refine Ife.no (by simpa [Arith.std] using h9) ?_
        exact ⟨[], [5, 5], ⟨trivial, rfl, (by repeat' (first | exact (fun i j hi _ => absurd hi (Nat.not_lt_zero _)) | exact trivial | exact rfl | apply And.intro | exact (fun _ _ _ _ => Cell.le_refl _) | (intro i hi; rfl) | (intro i hi; exact absurd hi (Nat.not_lt_zero _)))), (by show List.Nodup []; exact List.nodup_nil), rfl, (by repeat' (first | exact (fun i j hi _ => absurd hi (Nat.not_lt_zero _)) | exact trivial | exact rfl | apply And.intro | exact (fun _ _ _ _ => Cell.le_refl _) | (intro i hi; rfl) | (intro i hi; exact absurd hi (Nat.not_lt_zero _))))⟩⟩
    replace hk : ¬ k = 1 := of_decide_eq_false (p := k = 1) hk
    have z2 := ok_pk' z1
    generalize e2 : rPk l (a1, b1) = t at *
    obtain ⟨⟨sp, sc, dp, dc, sq, da, th, ta⟩, a2, b2⟩ := t
    dsimp only at *
    refine Need.mk z1 fun _ => ?_
    refine Ife.mk (fun h3 => ?_) (fun h3 => ?_)
    · replace h3 : k = 3 := of_decide_eq_true (p := k = 3) h3
      have z3 := ok_text (hi := 32) z2
      generalize e3 : textS l a2 b2 32 = t at *
      obtain ⟨ack, a3, b3⟩ := t
      dsimp only at *
      refine Need.mk z2 fun _ => ?_
      have hn : nextB k = false := by simp [nextB, h3]
      refine Ife.no (decide_eq_false (p := 4 ≤ k) (by omega)) ?_
      have z5 := ok_num (lo := 1) (hi := 1099511627776) z3
      generalize e5 : numS l a3 b3 1 1099511627776 = t at *
      obtain ⟨hg, a5, b5⟩ := t
      dsimp only at *
      have z6 := okS_proofS z5
      generalize e6 : rProofS l (a5, b5) = t at *
      obtain ⟨⟨pc, pl⟩, a6, b6⟩ := t
      dsimp only at *
      refine Need.mk z3 fun _ => Need.mk z5 fun _ => ?_
      have h5 : ¬ k = 5 := by omega
      refine Ife.no (decide_eq_false (p := k = 5) h5) ?_
      have hM := rMsgS_oth (s := (0, 0)) (s1 := (a1, b1)) (p := ⟨sp, sc, dp, dc, sq, da, th, ta⟩) (s2 := (a2, b2)) (a := ack) (s3 := (a3, b3)) (n := 0) (s4 := (a3, b3)) (g := hg) (s5 := (a5, b5)) (q := (pc, pl)) (s6 := (a6, b6)) (c := (0, [])) (s7 := (a6, b6)) e1 hk e2 (by rw [decide_eq_true h3]; exact e3) (by rw [hn]; rfl) e5 e6 (by rw [decide_eq_false h5]; rfl)
      have hdec := decMsgS_eq l
      have hV0 := fun h => rMsgS_V (l := l) h
      rw [hM] at hdec hV0
      dsimp only at hdec hV0
      clear hM
      unfold sRdEnd sMayM
      generalize hg0 : (List.length : List UInt8 → Nat) = g0
      try unfold leafG
      try unfold msgC
      generalize ho0 : @lK = zo0, ho1 : @lV = zo1, ho2 : @lI = zo2, ho3 : @lP = zo3, ho4 : @lN = zo4, ho5 : @pG = zo5, ho6 : @rN = zo6, ho7 : @msgPre = zo7, ho8 : @lenL = zo8, ho9 : @nextB = zo9, ho10 : @mayM = zo10, ho11 : @msgOf = zo11, ho12 : @decMsg = zo12, ho13 : @okRd = zo13, ho14 : @endS = zo14, ho15 : @hashS = zo15, ho16 : @byteI = zo16, ho17 : @textS = zo17, ho18 : @numS = zo18, ho19 : @rPk = zo19, ho20 : @rProofS = zo20
      generalize hA : Arith.std = A
      cbv
      subst hA hg0 ho0 ho1 ho2 ho3 ho4 ho5 ho6 ho7 ho8 ho9 ho10 ho11 ho12 ho13 ho14 ho15 ho16 ho17 ho18 ho19 ho20
      refine Need.mk z6 fun _ => Ife.mk (fun h9 => ?_) (fun h9 => ?_)
      rotate_left
      · have h9 : endS l a6 b6 ≠ 0 := by simpa [Arith.std] using h9
        rw [hdec, if_pos h9]
        refine Ife.yes (by simpa [Arith.std] using h9) ?_
        exact ⟨[], [4, 4], ⟨trivial, rfl, (by repeat' (first | exact (fun i j hi _ => absurd hi (Nat.not_lt_zero _)) | exact trivial | exact rfl | apply And.intro | exact (fun _ _ _ _ => Cell.le_refl _) | (intro i hi; rfl) | (intro i hi; exact absurd hi (Nat.not_lt_zero _)))), (by show List.Nodup []; exact List.nodup_nil), rfl, (by repeat' (first | exact (fun i j hi _ => absurd hi (Nat.not_lt_zero _)) | exact trivial | exact rfl | apply And.intro | exact (fun _ _ _ _ => Cell.le_refl _) | (intro i hi; rfl) | (intro i hi; exact absurd hi (Nat.not_lt_zero _))))⟩⟩
      have h9 : endS l a6 b6 = 0 := by simpa [Arith.std] using h9
      rw [if_neg (by simp [h9])] at hdec
      have hok0 := msgV_ok (hV0 h9)
      refine Need.mk (msgPre_h hok0 rfl (leavesL_n rfl hok0.po) rfl (leavesPre_n rfl hok0.po hok0.pn) leavesPre_0) fun _ => ?_
      refine Ife.conv (congrArg (fun m => !mayM m) (msgOf_h (a := .row 0) (b := .row 1) hok0 rfl (leavesL_n rfl hok0.po) rfl)) ?_
      refine Ife.mk (fun hm => ?_) (fun hm => ?_)
      · rw [Bool.not_eq_true'] at hm
        rw [hdec, if_neg (by rw [hm]; decide)]
        refine Ife.yes rfl ?_
        exact ⟨[], [6, 6], ⟨trivial, rfl, (by repeat' (first | exact (fun i j hi _ => absurd hi (Nat.not_lt_zero _)) | exact trivial | exact rfl | apply And.intro | exact (fun _ _ _ _ => Cell.le_refl _) | (intro i hi; rfl) | (intro i hi; exact absurd hi (Nat.not_lt_zero _)))), (by show List.Nodup []; exact List.nodup_nil), rfl, (by repeat' (first | exact (fun i j hi _ => absurd hi (Nat.not_lt_zero _)) | exact trivial | exact rfl | apply And.intro | exact (fun _ _ _ _ => Cell.le_refl _) | (intro i hi; rfl) | (intro i hi; exact absurd hi (Nat.not_lt_zero _))))⟩⟩
      · rw [Bool.not_eq_false'] at hm
        rw [hdec, if_pos hm]
        refine Ife.no (by simpa [Arith.std] using h9) ?_
        exact ⟨[], [3, 6], ⟨trivial, rfl, (by repeat' (first | exact (fun i j hi _ => absurd hi (Nat.not_lt_zero _)) | exact trivial | exact rfl | apply And.intro | exact (fun _ _ _ _ => Cell.le_refl _) | (intro i hi; rfl) | (intro i hi; exact absurd hi (Nat.not_lt_zero _)))), (by show List.Nodup []; exact List.nodup_nil), rfl, (by repeat' (first | exact (fun i j hi _ => absurd hi (Nat.not_lt_zero _)) | exact trivial | exact rfl | apply And.intro | exact (fun _ _ _ _ => Cell.le_refl _) | (intro i hi; rfl) | (intro i hi; exact absurd hi (Nat.not_lt_zero _))))⟩⟩
    · replace h3 : ¬ k = 3 := of_decide_eq_false (p := k = 3) h3
      refine Ife.mk (fun h4 => ?_) (fun h4 => ?_)
      · replace h4 : 4 ≤ k := of_decide_eq_true (p := 4 ≤ k) h4
        have hn : nextB k = true := by simp [nextB]; omega
        have z4 := ok_num (lo := 0) (hi := 1099511627777) z2
        generalize e4 : numS l a2 b2 0 1099511627777 = t at *
        obtain ⟨nx, a4, b4⟩ := t
        dsimp only at *
        refine Need.mk z2 fun _ => ?_
        have z5 := ok_num (lo := 1) (hi := 1099511627776) z4
        generalize e5 : numS l a4 b4 1 1099511627776 = t at *
        obtain ⟨hg, a5, b5⟩ := t
        dsimp only at *
        have z6 := okS_proofS z5
        generalize e6 : rProofS l (a5, b5) = t at *
        obtain ⟨⟨pc, pl⟩, a6, b6⟩ := t
        dsimp only at *
        refine Need.mk z4 fun _ => Need.mk z5 fun _ => ?_
        refine Ife.mk (fun h5 => ?_) (fun h5 => ?_)
        · replace h5 : k = 5 := of_decide_eq_true (p := k = 5) h5
          have z7 := okS_proofS z6
          generalize e7 : rProofS l (a6, b6) = t at *
          obtain ⟨⟨cc, cl⟩, a7, b7⟩ := t
          dsimp only at *
          refine Need.mk z6 fun _ => ?_
          have hM := rMsgS_oth (s := (0, 0)) (s1 := (a1, b1)) (p := ⟨sp, sc, dp, dc, sq, da, th, ta⟩) (s2 := (a2, b2)) (a := []) (s3 := (a2, b2)) (n := nx) (s4 := (a4, b4)) (g := hg) (s5 := (a5, b5)) (q := (pc, pl)) (s6 := (a6, b6)) (c := (cc, cl)) (s7 := (a7, b7)) e1 hk e2 (by rw [decide_eq_false h3]; rfl) (by rw [hn]; exact e4) e5 e6 (by rw [decide_eq_true h5]; exact e7)
          have hdec := decMsgS_eq l
          have hV0 := fun h => rMsgS_V (l := l) h
          rw [hM] at hdec hV0
          dsimp only at hdec hV0
          clear hM
          unfold sRdEnd sMayM
          generalize hg0 : (List.length : List UInt8 → Nat) = g0
          try unfold leafG
          try unfold msgC
          generalize ho0 : @lK = zo0, ho1 : @lV = zo1, ho2 : @lI = zo2, ho3 : @lP = zo3, ho4 : @lN = zo4, ho5 : @pG = zo5, ho6 : @rN = zo6, ho7 : @msgPre = zo7, ho8 : @lenL = zo8, ho9 : @nextB = zo9, ho10 : @mayM = zo10, ho11 : @msgOf = zo11, ho12 : @decMsg = zo12, ho13 : @okRd = zo13, ho14 : @endS = zo14, ho15 : @hashS = zo15, ho16 : @byteI = zo16, ho17 : @textS = zo17, ho18 : @numS = zo18, ho19 : @rPk = zo19, ho20 : @rProofS = zo20
          generalize hA : Arith.std = A
          cbv
          subst hA hg0 ho0 ho1 ho2 ho3 ho4 ho5 ho6 ho7 ho8 ho9 ho10 ho11 ho12 ho13 ho14 ho15 ho16 ho17 ho18 ho19 ho20
          refine Need.mk z7 fun _ => Ife.mk (fun h9 => ?_) (fun h9 => ?_)
          rotate_left
          · have h9 : endS l a7 b7 ≠ 0 := by simpa [Arith.std] using h9
            rw [hdec, if_pos h9]
            refine Ife.yes (by simpa [Arith.std] using h9) ?_
            exact ⟨[], [5, 5], ⟨trivial, rfl, (by repeat' (first | exact (fun i j hi _ => absurd hi (Nat.not_lt_zero _)) | exact trivial | exact rfl | apply And.intro | exact (fun _ _ _ _ => Cell.le_refl _) | (intro i hi; rfl) | (intro i hi; exact absurd hi (Nat.not_lt_zero _)))), (by show List.Nodup []; exact List.nodup_nil), rfl, (by repeat' (first | exact (fun i j hi _ => absurd hi (Nat.not_lt_zero _)) | exact trivial | exact rfl | apply And.intro | exact (fun _ _ _ _ => Cell.le_refl _) | (intro i hi; rfl) | (intro i hi; exact absurd hi (Nat.not_lt_zero _))))⟩⟩
          have h9 : endS l a7 b7 = 0 := by simpa [Arith.std] using h9
          rw [if_neg (by simp [h9])] at hdec
          have hok0 := msgV_ok (hV0 h9)
          refine Need.mk (msgPre_h hok0 rfl (leavesL_n rfl hok0.po) (leavesL_n rfl hok0.co) (leavesPre_n rfl hok0.po hok0.pn) (leavesPre_n rfl hok0.co hok0.cn)) fun _ => ?_
          refine Ife.conv (congrArg (fun m => !mayM m) (msgOf_h (a := .row 0) (b := .row 1) hok0 rfl (leavesL_n rfl hok0.po) (leavesL_n rfl hok0.co))) ?_
          refine Ife.mk (fun hm => ?_) (fun hm => ?_)
          · rw [Bool.not_eq_true'] at hm
            rw [hdec, if_neg (by rw [hm]; decide)]
            refine Ife.yes rfl ?_
            exact ⟨[], [7, 7], ⟨trivial, rfl, (by repeat' (first | exact (fun i j hi _ => absurd hi (Nat.not_lt_zero _)) | exact trivial | exact rfl | apply And.intro | exact (fun _ _ _ _ => Cell.le_refl _) | (intro i hi; rfl) | (intro i hi; exact absurd hi (Nat.not_lt_zero _)))), (by show List.Nodup []; exact List.nodup_nil), rfl, (by repeat' (first | exact (fun i j hi _ => absurd hi (Nat.not_lt_zero _)) | exact trivial | exact rfl | apply And.intro | exact (fun _ _ _ _ => Cell.le_refl _) | (intro i hi; rfl) | (intro i hi; exact absurd hi (Nat.not_lt_zero _))))⟩⟩
          · rw [Bool.not_eq_false'] at hm
            rw [hdec, if_pos hm]
            refine Ife.no (by simpa [Arith.std] using h9) ?_
            exact ⟨[], [3, 4], ⟨trivial, rfl, (by repeat' (first | exact (fun i j hi _ => absurd hi (Nat.not_lt_zero _)) | exact trivial | exact rfl | apply And.intro | exact (fun _ _ _ _ => Cell.le_refl _) | (intro i hi; rfl) | (intro i hi; exact absurd hi (Nat.not_lt_zero _)))), (by show List.Nodup []; exact List.nodup_nil), rfl, (by repeat' (first | exact (fun i j hi _ => absurd hi (Nat.not_lt_zero _)) | exact trivial | exact rfl | apply And.intro | exact (fun _ _ _ _ => Cell.le_refl _) | (intro i hi; rfl) | (intro i hi; exact absurd hi (Nat.not_lt_zero _))))⟩⟩
        · replace h5 : ¬ k = 5 := of_decide_eq_false (p := k = 5) h5
          have hM := rMsgS_oth (s := (0, 0)) (s1 := (a1, b1)) (p := ⟨sp, sc, dp, dc, sq, da, th, ta⟩) (s2 := (a2, b2)) (a := []) (s3 := (a2, b2)) (n := nx) (s4 := (a4, b4)) (g := hg) (s5 := (a5, b5)) (q := (pc, pl)) (s6 := (a6, b6)) (c := (0, [])) (s7 := (a6, b6)) e1 hk e2 (by rw [decide_eq_false h3]; rfl) (by rw [hn]; exact e4) e5 e6 (by rw [decide_eq_false h5]; rfl)
          have hdec := decMsgS_eq l
          have hV0 := fun h => rMsgS_V (l := l) h
          rw [hM] at hdec hV0
          dsimp only at hdec hV0
          clear hM
          unfold sRdEnd sMayM
          generalize hg0 : (List.length : List UInt8 → Nat) = g0
          try unfold leafG
          try unfold msgC
          generalize ho0 : @lK = zo0, ho1 : @lV = zo1, ho2 : @lI = zo2, ho3 : @lP = zo3, ho4 : @lN = zo4, ho5 : @pG = zo5, ho6 : @rN = zo6, ho7 : @msgPre = zo7, ho8 : @lenL = zo8, ho9 : @nextB = zo9, ho10 : @mayM = zo10, ho11 : @msgOf = zo11, ho12 : @decMsg = zo12, ho13 : @okRd = zo13, ho14 : @endS = zo14, ho15 : @hashS = zo15, ho16 : @byteI = zo16, ho17 : @textS = zo17, ho18 : @numS = zo18, ho19 : @rPk = zo19, ho20 : @rProofS = zo20
          generalize hA : Arith.std = A
          cbv
          subst hA hg0 ho0 ho1 ho2 ho3 ho4 ho5 ho6 ho7 ho8 ho9 ho10 ho11 ho12 ho13 ho14 ho15 ho16 ho17 ho18 ho19 ho20
          refine Need.mk z6 fun _ => Ife.mk (fun h9 => ?_) (fun h9 => ?_)
          rotate_left
          · have h9 : endS l a6 b6 ≠ 0 := by simpa [Arith.std] using h9
            rw [hdec, if_pos h9]
            refine Ife.yes (by simpa [Arith.std] using h9) ?_
            exact ⟨[], [4, 4], ⟨trivial, rfl, (by repeat' (first | exact (fun i j hi _ => absurd hi (Nat.not_lt_zero _)) | exact trivial | exact rfl | apply And.intro | exact (fun _ _ _ _ => Cell.le_refl _) | (intro i hi; rfl) | (intro i hi; exact absurd hi (Nat.not_lt_zero _)))), (by show List.Nodup []; exact List.nodup_nil), rfl, (by repeat' (first | exact (fun i j hi _ => absurd hi (Nat.not_lt_zero _)) | exact trivial | exact rfl | apply And.intro | exact (fun _ _ _ _ => Cell.le_refl _) | (intro i hi; rfl) | (intro i hi; exact absurd hi (Nat.not_lt_zero _))))⟩⟩
          have h9 : endS l a6 b6 = 0 := by simpa [Arith.std] using h9
          rw [if_neg (by simp [h9])] at hdec
          have hok0 := msgV_ok (hV0 h9)
          refine Need.mk (msgPre_h hok0 rfl (leavesL_n rfl hok0.po) rfl (leavesPre_n rfl hok0.po hok0.pn) leavesPre_0) fun _ => ?_
          refine Ife.conv (congrArg (fun m => !mayM m) (msgOf_h (a := .row 0) (b := .row 1) hok0 rfl (leavesL_n rfl hok0.po) rfl)) ?_
          refine Ife.mk (fun hm => ?_) (fun hm => ?_)
          · rw [Bool.not_eq_true'] at hm
            rw [hdec, if_neg (by rw [hm]; decide)]
            refine Ife.yes rfl ?_
            exact ⟨[], [6, 6], ⟨trivial, rfl, (by repeat' (first | exact (fun i j hi _ => absurd hi (Nat.not_lt_zero _)) | exact trivial | exact rfl | apply And.intro | exact (fun _ _ _ _ => Cell.le_refl _) | (intro i hi; rfl) | (intro i hi; exact absurd hi (Nat.not_lt_zero _)))), (by show List.Nodup []; exact List.nodup_nil), rfl, (by repeat' (first | exact (fun i j hi _ => absurd hi (Nat.not_lt_zero _)) | exact trivial | exact rfl | apply And.intro | exact (fun _ _ _ _ => Cell.le_refl _) | (intro i hi; rfl) | (intro i hi; exact absurd hi (Nat.not_lt_zero _))))⟩⟩
          · rw [Bool.not_eq_false'] at hm
            rw [hdec, if_pos hm]
            refine Ife.no (by simpa [Arith.std] using h9) ?_
            exact ⟨[], [3, 6], ⟨trivial, rfl, (by repeat' (first | exact (fun i j hi _ => absurd hi (Nat.not_lt_zero _)) | exact trivial | exact rfl | apply And.intro | exact (fun _ _ _ _ => Cell.le_refl _) | (intro i hi; rfl) | (intro i hi; exact absurd hi (Nat.not_lt_zero _)))), (by show List.Nodup []; exact List.nodup_nil), rfl, (by repeat' (first | exact (fun i j hi _ => absurd hi (Nat.not_lt_zero _)) | exact trivial | exact rfl | apply And.intro | exact (fun _ _ _ _ => Cell.le_refl _) | (intro i hi; rfl) | (intro i hi; exact absurd hi (Nat.not_lt_zero _))))⟩⟩
      · replace h4 : ¬ 4 ≤ k := of_decide_eq_false (p := 4 ≤ k) h4
        have hn : nextB k = false := by simp [nextB]; omega
        have z5 := ok_num (lo := 1) (hi := 1099511627776) z2
        generalize e5 : numS l a2 b2 1 1099511627776 = t at *
        obtain ⟨hg, a5, b5⟩ := t
        dsimp only at *
        have z6 := okS_proofS z5
        generalize e6 : rProofS l (a5, b5) = t at *
        obtain ⟨⟨pc, pl⟩, a6, b6⟩ := t
        dsimp only at *
        refine Need.mk z2 fun _ => Need.mk z5 fun _ => ?_
        have h5 : ¬ k = 5 := by omega
        refine Ife.no (decide_eq_false (p := k = 5) h5) ?_
        have hM := rMsgS_oth (s := (0, 0)) (s1 := (a1, b1)) (p := ⟨sp, sc, dp, dc, sq, da, th, ta⟩) (s2 := (a2, b2)) (a := []) (s3 := (a2, b2)) (n := 0) (s4 := (a2, b2)) (g := hg) (s5 := (a5, b5)) (q := (pc, pl)) (s6 := (a6, b6)) (c := (0, [])) (s7 := (a6, b6)) e1 hk e2 (by rw [decide_eq_false h3]; rfl) (by rw [hn]; rfl) e5 e6 (by rw [decide_eq_false h5]; rfl)
        have hdec := decMsgS_eq l
        have hV0 := fun h => rMsgS_V (l := l) h
        rw [hM] at hdec hV0
        dsimp only at hdec hV0
        clear hM
        unfold sRdEnd sMayM
        generalize hg0 : (List.length : List UInt8 → Nat) = g0
        try unfold leafG
        try unfold msgC
        generalize ho0 : @lK = zo0, ho1 : @lV = zo1, ho2 : @lI = zo2, ho3 : @lP = zo3, ho4 : @lN = zo4, ho5 : @pG = zo5, ho6 : @rN = zo6, ho7 : @msgPre = zo7, ho8 : @lenL = zo8, ho9 : @nextB = zo9, ho10 : @mayM = zo10, ho11 : @msgOf = zo11, ho12 : @decMsg = zo12, ho13 : @okRd = zo13, ho14 : @endS = zo14, ho15 : @hashS = zo15, ho16 : @byteI = zo16, ho17 : @textS = zo17, ho18 : @numS = zo18, ho19 : @rPk = zo19, ho20 : @rProofS = zo20
        generalize hA : Arith.std = A
        cbv
        subst hA hg0 ho0 ho1 ho2 ho3 ho4 ho5 ho6 ho7 ho8 ho9 ho10 ho11 ho12 ho13 ho14 ho15 ho16 ho17 ho18 ho19 ho20
        refine Need.mk z6 fun _ => Ife.mk (fun h9 => ?_) (fun h9 => ?_)
        rotate_left
        · have h9 : endS l a6 b6 ≠ 0 := by simpa [Arith.std] using h9
          rw [hdec, if_pos h9]
          refine Ife.yes (by simpa [Arith.std] using h9) ?_
          exact ⟨[], [4, 4], ⟨trivial, rfl, (by repeat' (first | exact (fun i j hi _ => absurd hi (Nat.not_lt_zero _)) | exact trivial | exact rfl | apply And.intro | exact (fun _ _ _ _ => Cell.le_refl _) | (intro i hi; rfl) | (intro i hi; exact absurd hi (Nat.not_lt_zero _)))), (by show List.Nodup []; exact List.nodup_nil), rfl, (by repeat' (first | exact (fun i j hi _ => absurd hi (Nat.not_lt_zero _)) | exact trivial | exact rfl | apply And.intro | exact (fun _ _ _ _ => Cell.le_refl _) | (intro i hi; rfl) | (intro i hi; exact absurd hi (Nat.not_lt_zero _))))⟩⟩
        have h9 : endS l a6 b6 = 0 := by simpa [Arith.std] using h9
        rw [if_neg (by simp [h9])] at hdec
        have hok0 := msgV_ok (hV0 h9)
        refine Need.mk (msgPre_h hok0 rfl (leavesL_n rfl hok0.po) rfl (leavesPre_n rfl hok0.po hok0.pn) leavesPre_0) fun _ => ?_
        refine Ife.conv (congrArg (fun m => !mayM m) (msgOf_h (a := .row 0) (b := .row 1) hok0 rfl (leavesL_n rfl hok0.po) rfl)) ?_
        refine Ife.mk (fun hm => ?_) (fun hm => ?_)
        · rw [Bool.not_eq_true'] at hm
          rw [hdec, if_neg (by rw [hm]; decide)]
          refine Ife.yes rfl ?_
          exact ⟨[], [6, 6], ⟨trivial, rfl, (by repeat' (first | exact (fun i j hi _ => absurd hi (Nat.not_lt_zero _)) | exact trivial | exact rfl | apply And.intro | exact (fun _ _ _ _ => Cell.le_refl _) | (intro i hi; rfl) | (intro i hi; exact absurd hi (Nat.not_lt_zero _)))), (by show List.Nodup []; exact List.nodup_nil), rfl, (by repeat' (first | exact (fun i j hi _ => absurd hi (Nat.not_lt_zero _)) | exact trivial | exact rfl | apply And.intro | exact (fun _ _ _ _ => Cell.le_refl _) | (intro i hi; rfl) | (intro i hi; exact absurd hi (Nat.not_lt_zero _))))⟩⟩
        · rw [Bool.not_eq_false'] at hm
          rw [hdec, if_pos hm]
          refine Ife.no (by simpa [Arith.std] using h9) ?_
          exact ⟨[], [3, 6], ⟨trivial, rfl, (by repeat' (first | exact (fun i j hi _ => absurd hi (Nat.not_lt_zero _)) | exact trivial | exact rfl | apply And.intro | exact (fun _ _ _ _ => Cell.le_refl _) | (intro i hi; rfl) | (intro i hi; exact absurd hi (Nat.not_lt_zero _)))), (by show List.Nodup []; exact List.nodup_nil), rfl, (by repeat' (first | exact (fun i j hi _ => absurd hi (Nat.not_lt_zero _)) | exact trivial | exact rfl | apply And.intro | exact (fun _ _ _ _ => Cell.le_refl _) | (intro i hi; rfl) | (intro i hi; exact absurd hi (Nat.not_lt_zero _))))⟩⟩

end Go.Proofs.Ytcgoaicifjndpaa.Vx
end
