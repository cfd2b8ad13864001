/- Messages encoded and decoded, by the walker. -/
import Derived.Test.YtcgoaicifjndpaaM31
section
namespace Go.Proofs.Ytcgoaicifjndpaa.Vx
open Go.RowKit
set_option linter.unusedVariables false
set_option linter.unusedSimpArgs false
theorem encMsg_yes {m : PMsg} (h : mayM m = true) : encMsg m = (msgB m, 0) := by unfold encMsg; rw [if_pos h]
theorem encMsg_no {m : PMsg} (h : mayM m = false) : encMsg m = ([], 1) := by unfold encMsg; rw [h]; rfl
theorem decMsg_eq (l : List UInt8) : decMsg l = if endS l (rMsg l (0, 0)).2.1 (rMsg l (0, 0)).2.2 ≠ 0 then (zeroMsg, endS l (rMsg l (0, 0)).2.1 (rMsg l (0, 0)).2.2) else if mayM (rMsg l (0, 0)).1 then ((rMsg l (0, 0)).1, 0) else (zeroMsg, 1) := rfl
theorem ok_msg {l : List UInt8} {a b : Int} (h : okRd l a b) : okRd l (rMsg l (a, b)).2.1 (rMsg l (a, b)).2.2 := by
  have aux : ∀ (k : Int) (s : Int × Int), okS l s → okS l (rRest k l s).2 := fun k s h => by
    have hdr : ∀ s, okS l s → okS l (rHdr l s).2 := fun s h => okS_hash (okS_num (okS_num h))
    have step : ∀ {α : Type} (c : Bool) (d : α) (r : List UInt8 → Int × Int → α × Int × Int) (s : Int × Int), (∀ s, okS l s → okS l (r l s).2) → okS l s → okS l (rIf c d r l s).2 := fun c d r s hr h => by
      unfold rIf
      split
      · exact hr s h
      · exact h
    unfold rRest
    dsimp only
    exact step _ _ _ _ (fun _ => okS_proof) (step _ _ _ _ (fun _ => okS_proof) (step _ _ _ _ (fun _ => okS_num) (step _ _ _ _ (fun _ => okS_num) (step _ _ _ _ (fun _ => okS_text) (step _ _ _ _ (fun _ => okS_pk) (step _ _ _ _ hdr h))))))
  exact aux _ _ (okS_num (s := (a, b)) h)
def sEncM : SpecF
  | [.agg cs], [.data fr ty sz n get, .data fr' ty' sz' n' get'] => some (msgPre cs (.row 0) (.row 1) ty sz n get ty' sz' n' get', .tup [(some (.str (encMsg (msgOf cs n get n' get')).1), []), (some (.int .i64 (encMsg (msgOf cs n get n' get')).2), [])], [.dead, .dead])
  | _, _ => none

set_option maxRecDepth 100000 in
set_option maxHeartbeats 16000000 in
theorem encMP : Fn Try.prog 61 [] [(140, 204), (140, 204)] sEncM := by
  have hC : CtsOk Try.prog [(50, appFn [] [(140, 204), (140, 204)] sMayM), (109, appMakesW 190 5), (110, appFn [] [(140, 204), (140, 204)] sWMsg), (111, appW 190 5 sBytes)] := CtsOk.cons (Fn.ct mayMP) <| CtsOk.cons (MakesW.ct newWP) <| CtsOk.cons (Fn.ct wMsgP) <| CtsOk.cons (MethW.ct bytesP) <| CtsOk.nil _
  refine Fn.of (E := tbR) [] 0 [] tbR_ok hC (by kernel_rfl) Try.func61 rfl rfl rfl (by kernel_rfl) (by kernel_rfl) 2 5 1 ?_ ?_
  · intro args h pre r h' hs
    unfold sEncM at hs
    split at hs
    · cases hs; exact ⟨rfl, rfl, Nat.le_of_ble_eq_true rfl⟩
    · cases hs
  · intro args h pre r h' hs hp
    unfold sEncM at hs
    split at hs
    rotate_left
    · cases hs
    rename_i cs fr ty sz n get fr' ty' sz' n' get'
    cases hs
    obtain ⟨hcs, ⟨rfl, rfl, hst, hok, hm⟩, ⟨rfl, rfl, hst', hok', hm'⟩, hfit⟩ := hp
    refine ⟨[.data fr 140 4 n (leafG false (leafL n get)), .data fr' 140 4 n' (leafG false (leafL n' get'))], ⟨⟨rfl, rfl, rfl, rfl, fun i j hi hj => by rw [hst i j hi hj]; exact Cell.le_refl _⟩, ⟨rfl, rfl, rfl, rfl, fun i j hi hj => by rw [hst' i j hi hj]; exact Cell.le_refl _⟩, trivial⟩, ?_⟩
    have hL : (leafL n get).length = n := leafL_len
    have hL' : (leafL n' get').length = n' := leafL_len
    have e1 : (msgOf cs n get n' get').pl = leafL n get := rfl
    have e2 : (msgOf cs n get n' get').cl = leafL n' get' := rfl
    generalize msgOf cs n get n' get' = m at *
    subst hcs
    obtain ⟨k, hh, ht, hr, ⟨sp, sc, dp, dc, sq, da, th, ta⟩, ack, nx, hg, pc, pl, cc, cl⟩ := m
    replace e1 : pl = leafL n get := e1
    replace e2 : cl = leafL n' get' := e2
    clear hst hst'
    subst e1 e2
    generalize leafL n get = pl at *
    generalize leafL n' get' = cl at *
    have hok0 : MsgOk ⟨k, hh, ht, hr, ⟨sp, sc, dp, dc, sq, da, th, ta⟩, ack, nx, hg, pc, pl, cc, cl⟩ := ⟨hfit, hok, hok', by show pl.length ≤ _; omega, by show cl.length ≤ _; omega⟩
    obtain ⟨hpk, hack, hrl, hrb⟩ := hfit
    replace hack : ack.length ≤ 1000000000 := hack
    replace hrl : hr.length = 32 := hrl
    replace hrb : ∀ b ∈ hr, 0 ≤ b ∧ b < 256 := hrb
    unfold sMayM sWMsg sBytes
    generalize hg0 : (List.length : List UInt8 → Nat) = g0
    try unfold leafG
    try unfold msgC
    generalize ho0 : @lK = zo0, ho1 : @lV = zo1, ho2 : @lI = zo2, ho3 : @lP = zo3, ho4 : @lN = zo4, ho5 : @pG = zo5, ho6 : @leafL = zo6, ho7 : @rN = zo7, ho8 : @msgPre = zo8, ho9 : @mayM = zo9, ho10 : @msgOf = zo10, ho11 : @wMsg = zo11, ho12 : @wMsgPre = zo12, ho13 : @encMsg = zo13, ho14 : @bytesW = zo14, ho15 : @badW = zo15
    generalize hA : Arith.std = A
    cbv
    subst hA hg0 ho0 ho1 ho2 ho3 ho4 ho5 ho6 ho7 ho8 ho9 ho10 ho11 ho12 ho13 ho14 ho15
    refine Need.mk (msgPre_n (m := ⟨k, hh, ht, hr, ⟨sp, sc, dp, dc, sq, da, th, ta⟩, ack, nx, hg, pc, pl, cc, cl⟩) hok0 hL hL') fun _ => ?_
    have z := msgOf_n (m := ⟨k, hh, ht, hr, ⟨sp, sc, dp, dc, sq, da, th, ta⟩, ack, nx, hg, pc, pl, cc, cl⟩) (a := .row 0) (b := .row 1) (fr := false) (fr' := false) hok0 hL hL'
    simp only [msgC, msgCP, h32, pkC, List.cons_append, List.nil_append] at z
    rw [z]
    refine Ife.mk (fun hm => ?_) (fun hm => ?_)
    · replace hm : (!mayM ⟨k, hh, ht, hr, ⟨sp, sc, dp, dc, sq, da, th, ta⟩, ack, nx, hg, pc, pl, cc, cl⟩) = true := hm
      rw [Bool.not_eq_true'] at hm
      rw [encMsg_no hm]
      exact ⟨[0, 1], ⟨rfl, by repeat' (first | exact trivial | exact rfl | apply And.intro | exact (fun _ _ _ _ => Cell.le_refl _) | (intro i hi; rfl) | (intro i hi; exact absurd hi (Nat.not_lt_zero _))), by decide, rfl, by repeat' (first | exact trivial | exact rfl | apply And.intro | exact (fun _ _ _ _ => Cell.le_refl _) | (intro i hi; rfl) | (intro i hi; exact absurd hi (Nat.not_lt_zero _)))⟩⟩
    replace hm : (!mayM ⟨k, hh, ht, hr, ⟨sp, sc, dp, dc, sq, da, th, ta⟩, ack, nx, hg, pc, pl, cc, cl⟩) = false := hm
    rw [Bool.not_eq_false'] at hm
    have hV := mayM_V hm hok0
    have z2 := msgOf_n (m := ⟨k, hh, ht, hr, ⟨sp, sc, dp, dc, sq, da, th, ta⟩, ack, nx, hg, pc, pl, cc, cl⟩) (a := .row 2) (b := .row 3) (fr := false) (fr' := false) hok0 hL hL'
    simp only [msgC, msgCP, h32, pkC, List.cons_append, List.nil_append] at z2
    rw [z2]
    refine Need.mk trivial fun _ => Need.mk ⟨⟨rfl, rfl, hV, by decide⟩, msgPre_n (m := ⟨k, hh, ht, hr, ⟨sp, sc, dp, dc, sq, da, th, ta⟩, ack, nx, hg, pc, pl, cc, cl⟩) (a := .row 2) (b := .row 3) hok0 hL hL'⟩ fun _ => ?_
    rw [wMsg_ok hV [], encMsg_yes hm]
    refine Need.mk trivial fun _ => ?_
    exact ⟨[0, 1], ⟨rfl, by repeat' (first | exact trivial | exact rfl | apply And.intro | exact (fun _ _ _ _ => Cell.le_refl _) | (intro i hi; rfl) | (intro i hi; exact absurd hi (Nat.not_lt_zero _))), by decide, rfl, by repeat' (first | exact trivial | exact rfl | apply And.intro | exact (fun _ _ _ _ => Cell.le_refl _) | (intro i hi; rfl) | (intro i hi; exact absurd hi (Nat.not_lt_zero _)))⟩⟩

end Go.Proofs.Ytcgoaicifjndpaa.Vx
end

section
/- Messages decoded, by the walker. -/
namespace Go.Proofs.Ytcgoaicifjndpaa.Vx
open Go.RowKit
set_option linter.unusedVariables false
set_option linter.unusedSimpArgs false
def sDecM : SpecF
  | [.c (.str l)], [] => some (l.length ≤ 140737488351232, .tup [(none, msgC (decMsg l).1 (.row 0) (.row 1)), (some (.int .i64 (decMsg l).2), [])], [.data true 140 4 (lenL (decMsg l).1.pl) (leafG true (decMsg l).1.pl), .data true 140 4 (lenL (decMsg l).1.cl) (leafG true (decMsg l).1.cl)])
  | _, _ => none

set_option maxRecDepth 100000 in
set_option maxHeartbeats 16000000 in
theorem decMP : Fn Try.prog 62 [] [] sDecM := by
  have hC : CtsOk Try.prog [(112, appPure sLebNext), (113, appMakes 196 sOf), (114, appFn [] [] sRMsg), (115, appMeth 196 sRdEnd), (50, appFn [] [(140, 204), (140, 204)] sMayM)] := CtsOk.cons (Pure.ct lebNextP) <| CtsOk.cons (Makes.ct ofP) <| CtsOk.cons (Fn.ct rMsgP) <| CtsOk.cons (Meth.ct rdEndP) <| CtsOk.cons (Fn.ct mayMP) <| CtsOk.nil _
  refine Fn.ofZ (E := tbR) [] 0 [] tbR_ok hC (by kernel_rfl) Try.func62 rfl rfl rfl (by kernel_rfl) (by kernel_rfl) 0 (.data true 140 4 0 fun _ _ => .pl .tt) rfl ?_ ?_
  · intro args h pre r h' hs
    unfold sDecM at hs
    split at hs
    · cases hs; exact ⟨rfl, rfl, Nat.le_of_ble_eq_true rfl⟩
    · cases hs
  · intro args h pre r h' hs hp
    unfold sDecM at hs
    split at hs
    rotate_left
    · cases hs
    rename_i l
    cases hs
    refine ⟨[], trivial, ?_⟩
    unfold sLebNext sOf sRMsg sRdEnd sMayM
    generalize hg0 : (List.length : List UInt8 → Nat) = g0
    try unfold leafG
    try unfold msgC
    generalize ho0 : @lK = zo0, ho1 : @lV = zo1, ho2 : @lI = zo2, ho3 : @lP = zo3, ho4 : @lN = zo4, ho5 : @pG = zo5, ho6 : @rN = zo6, ho7 : @msgPre = zo7, ho8 : @lenL = zo8, ho9 : @mayM = zo9, ho10 : @msgOf = zo10, ho11 : @isI64 = zo11, ho12 : @rMsg = zo12, ho13 : @decMsg = zo13, ho14 : @Leb.next = zo14, ho15 : @okRd = zo15, ho16 : @endS = zo16
    generalize hA : Arith.std = A
    cbv
    subst hA hg0 ho0 ho1 ho2 ho3 ho4 ho5 ho6 ho7 ho8 ho9 ho10 ho11 ho12 ho13 ho14 ho15 ho16
    refine Need.mk ⟨hp, by unfold isI64; omega⟩ fun _ => Ife.mk (fun h1 => ?_) (fun h1 => ?_)
    · have h1 : (Leb.next l 0).2.2 ≠ 0 := by simpa [Arith.std] using h1
      rw [decMsg_bad h1]
      exact ⟨[], [1, 1], ⟨trivial, rfl, (by repeat' (first | exact (fun i j hi _ => absurd hi (Nat.not_lt_zero _)) | exact trivial | exact rfl | apply And.intro | exact (fun _ _ _ _ => Cell.le_refl _) | (intro i hi; rfl) | (intro i hi; exact absurd hi (Nat.not_lt_zero _)))), (by show List.Nodup []; exact List.nodup_nil), rfl, (by repeat' (first | exact (fun i j hi _ => absurd hi (Nat.not_lt_zero _)) | exact trivial | exact rfl | apply And.intro | exact (fun _ _ _ _ => Cell.le_refl _) | (intro i hi; rfl) | (intro i hi; exact absurd hi (Nat.not_lt_zero _))))⟩⟩
    have h0 : okRd l 0 0 := ok_start hp
    have h2 := ok_msg h0
    have hdec := decMsg_eq l
    have hV0 := fun h => rMsg_V (l := l) h
    refine Need.mk trivial fun _ => Need.mk h0 fun _ => ?_
    generalize rMsg l (0, 0) = M at *
    obtain ⟨⟨k, hh, ht, hr, ⟨sp, sc, dp, dc, sq, da, th, ta⟩, ack, nx, hg, pc, pl, cc, cl⟩, a1, b1⟩ := M
    dsimp only at *
    refine Need.mk h2 fun _ => Ife.mk (fun h3 => ?_) (fun h3 => ?_)
    · have h3 : endS l a1 b1 ≠ 0 := by simpa [Arith.std] using h3
      rw [hdec, if_pos h3]
      exact ⟨[], [5, 5], ⟨trivial, rfl, (by repeat' (first | exact (fun i j hi _ => absurd hi (Nat.not_lt_zero _)) | exact trivial | exact rfl | apply And.intro | exact (fun _ _ _ _ => Cell.le_refl _) | (intro i hi; rfl) | (intro i hi; exact absurd hi (Nat.not_lt_zero _)))), (by show List.Nodup []; exact List.nodup_nil), rfl, (by repeat' (first | exact (fun i j hi _ => absurd hi (Nat.not_lt_zero _)) | exact trivial | exact rfl | apply And.intro | exact (fun _ _ _ _ => Cell.le_refl _) | (intro i hi; rfl) | (intro i hi; exact absurd hi (Nat.not_lt_zero _))))⟩⟩
    have h3 : endS l a1 b1 = 0 := by simpa [Arith.std] using h3
    rw [if_neg (by simp [h3])] at hdec
    have hok0 := msgV_ok (hV0 h3)
    refine Need.mk (msgPre_n (m := ⟨k, hh, ht, hr, ⟨sp, sc, dp, dc, sq, da, th, ta⟩, ack, nx, hg, pc, pl, cc, cl⟩) (a := .row 0) (b := .row 1) hok0 rfl rfl) fun _ => ?_
    have z := msgOf_n (m := ⟨k, hh, ht, hr, ⟨sp, sc, dp, dc, sq, da, th, ta⟩, ack, nx, hg, pc, pl, cc, cl⟩) (a := .row 0) (b := .row 1) (n := lenL pl) (n' := lenL cl) (fr := true) (fr' := true) hok0 rfl rfl
    simp only [msgC, msgCP, h32, pkC, List.cons_append, List.nil_append] at z
    rw [z]
    refine Ife.mk (fun hm => ?_) (fun hm => ?_)
    · replace hm : (!mayM ⟨k, hh, ht, hr, ⟨sp, sc, dp, dc, sq, da, th, ta⟩, ack, nx, hg, pc, pl, cc, cl⟩) = true := hm
      rw [Bool.not_eq_true'] at hm
      rw [hdec, if_neg (by rw [hm]; decide)]
      exact ⟨[], [7, 7], ⟨trivial, rfl, (by repeat' (first | exact (fun i j hi _ => absurd hi (Nat.not_lt_zero _)) | exact trivial | exact rfl | apply And.intro | exact (fun _ _ _ _ => Cell.le_refl _) | (intro i hi; rfl) | (intro i hi; exact absurd hi (Nat.not_lt_zero _)))), (by show List.Nodup []; exact List.nodup_nil), rfl, (by repeat' (first | exact (fun i j hi _ => absurd hi (Nat.not_lt_zero _)) | exact trivial | exact rfl | apply And.intro | exact (fun _ _ _ _ => Cell.le_refl _) | (intro i hi; rfl) | (intro i hi; exact absurd hi (Nat.not_lt_zero _))))⟩⟩
    replace hm : (!mayM ⟨k, hh, ht, hr, ⟨sp, sc, dp, dc, sq, da, th, ta⟩, ack, nx, hg, pc, pl, cc, cl⟩) = false := hm
    rw [Bool.not_eq_false'] at hm
    rw [hdec, if_pos hm]
    exact ⟨[], [2, 3], ⟨trivial, rfl, (by repeat' (first | exact (fun i j hi _ => absurd hi (Nat.not_lt_zero _)) | exact trivial | exact rfl | apply And.intro | exact (fun _ _ _ _ => Cell.le_refl _) | (intro i hi; rfl) | (intro i hi; exact absurd hi (Nat.not_lt_zero _)))), (by show List.Nodup []; exact List.nodup_nil), rfl, (by repeat' (first | exact (fun i j hi _ => absurd hi (Nat.not_lt_zero _)) | exact trivial | exact rfl | apply And.intro | exact (fun _ _ _ _ => Cell.le_refl _) | (intro i hi; rfl) | (intro i hi; exact absurd hi (Nat.not_lt_zero _))))⟩⟩

end Go.Proofs.Ytcgoaicifjndpaa.Vx
end

section
/- What chapter 8's examples fix, by the walker. -/
namespace Go.Proofs.Ytcgoaicifjndpaa.Vx
open Go.RowKit
set_option linter.unusedVariables false
set_option linter.unusedSimpArgs false
theorem dec_nil : (decMsg []).2 = 2 := by
  rw [decMsg_bad (by decide)]
  show (Leb.next [] 0).2.2 = 2
  decide
theorem decMsg_st {l : List UInt8} {a e : Int} (h : (rMsg l (0, 0)).2 = (a, e)) (he : e ≠ 0) : decMsg l = (zeroMsg, e) := by
  have : endS l (rMsg l (0, 0)).2.1 (rMsg l (0, 0)).2.2 = e := by
    rw [h]
    unfold endS
    rw [if_neg (by simp [he])]
  unfold decMsg decOf
  rw [this, if_pos he]
theorem next_nine : Leb.next [9] 0 = (9, 1, 0) := by decide
theorem num_nine : rNum 1 5 [9] (0, 0) = (0, 0, 1) := by
  unfold rNum numS
  rw [next_nine]
  rfl
theorem rMsg_num {l : List UInt8} {k : Int} {s1 : Int × Int} (h : rNum 1 5 l (0, 0) = (k, s1)) (hs : s1.2 ≠ 0) : (rMsg l (0, 0)).2 = s1 := by
  show (rRest (rNum 1 5 l (0, 0)).1 l (rNum 1 5 l (0, 0)).2).2 = _
  rw [h]
  exact (codecRest k).stick l s1 hs
theorem decMsg_num {l : List UInt8} {k a e : Int} (h : rNum 1 5 l (0, 0) = (k, a, e)) (he : e ≠ 0) : (decMsg l).2 = e := by
  rw [decMsg_st (rMsg_num h he) he]
theorem dec_nine : (decMsg [9]).2 = 1 := decMsg_num num_nine (by decide)
def sTx0 : SpecF
  | [.c (.row 0)], [.data fr ty sz n get] => some (ty = 74 ∧ sz = 50 ∧ n = 0, .tup [(some (.str [0]), []), (some (.int .i64 0), [])], [.dead])
  | _, _ => none

set_option maxRecDepth 100000 in
set_option maxHeartbeats 2000000 in
theorem tx0P : Fn Try.prog 69 [] [(74, 250)] sTx0 := by
  have hC : CtsOk Try.prog [(109, appMakesW 190 5), (132, appW 190 5 sNum), (111, appW 190 5 sBytes)] := CtsOk.cons (MakesW.ct newWP) <| CtsOk.cons (MethW.ct numP) <| CtsOk.cons (MethW.ct bytesP) <| CtsOk.nil _
  refine Fn.of (E := tbR) [] 1 [] tbR_ok hC (by kernel_rfl) Try.func69 rfl rfl rfl (by kernel_rfl) (by kernel_rfl) 1 5 1 ?_ ?_
  · intro args h pre r h' hs
    unfold sTx0 at hs
    split at hs
    · cases hs; exact ⟨rfl, rfl, Nat.le_of_ble_eq_true rfl⟩
    · cases hs
  · intro args h pre r h' hs hp
    unfold sTx0 at hs
    split at hs
    rotate_left
    · cases hs
    rename_i fr ty sz n get
    cases hs
    obtain ⟨rfl, rfl, rfl⟩ := hp
    refine ⟨[.data fr 74 50 0 get], ⟨⟨rfl, rfl, rfl, rfl, fun i j hi hj => Cell.le_refl _⟩, trivial⟩, ?_⟩
    unfold sNum sBytes
    generalize hg0 : (List.length : List UInt8 → Nat) = g0
    generalize ho0 : @numW = zo0, ho1 : @numBad = zo1, ho2 : @fitNum = zo2, ho3 : @isI64 = zo3, ho4 : @bytesW = zo4, ho5 : @badW = zo5
    generalize hA : Arith.std = A
    cbv
    subst hA hg0 ho0 ho1 ho2 ho3 ho4 ho5
    refine Ife.mk (fun h => absurd (of_decide_eq_true (p := (64 : Int) < ((0 : Nat) : Int)) h) (by decide)) (fun _ => ?_)
    refine Need.mk trivial fun _ => Need.mk (show fitNum [] 0 from ⟨by unfold isI64; omega, by decide⟩) fun _ => ?_
    refine Ife.mk (fun h => absurd (of_decide_eq_true (p := (0 : Int) < ((0 : Nat) : Int)) h) (by decide)) (fun _ => ?_)
    refine Need.mk trivial fun _ => ?_
    exact ⟨[0], ⟨rfl, by repeat' (first | exact trivial | exact rfl | apply And.intro | exact (fun _ _ _ _ => Cell.le_refl _) | (intro i hi; rfl) | (intro i hi; exact absurd hi (Nat.not_lt_zero _))), by decide, rfl, by repeat' (first | exact trivial | exact rfl | apply And.intro | exact (fun _ _ _ _ => Cell.le_refl _) | (intro i hi; rfl) | (intro i hi; exact absurd hi (Nat.not_lt_zero _)))⟩⟩

def sTrue8 : List SV → Option (Prop × SV)
  | [] => some (True, .c .tt)
  | _ => none

set_option maxRecDepth 100000 in
set_option maxHeartbeats 2000000 in
theorem first8P : Pure Try.prog 60 sTrue8 := by
  have hC : CtsOk Try.prog [(69, appFn [] [(74, 250)] sTx0), (62, appFn [] [] sDecM)] := CtsOk.cons (Fn.ct tx0P) <| CtsOk.cons (Fn.ct decMP) <| CtsOk.nil _
  refine Pure.of (E := tbR) (C := [(69, appFn [] [(74, 250)] sTx0), (62, appFn [] [] sDecM)]) [] 0 [] tbR_ok hC (by kernel_rfl) Try.func60 rfl rfl rfl (by kernel_rfl) (by kernel_rfl) ?_ ?_
  · intro args pre r h
    unfold sTrue8 at h
    split at h
    · cases h; rfl
    · cases h
  · intro args pre r h hp
    unfold sTrue8 at h
    split at h
    rotate_left
    · cases h
    cases h
    unfold sTx0 sDecM
    generalize hg0 : (List.length : List UInt8 → Nat) = g0
    try unfold leafG
    try unfold msgC
    generalize ho0 : @lK = zo0, ho1 : @lV = zo1, ho2 : @lI = zo2, ho3 : @lP = zo3, ho4 : @lN = zo4, ho5 : @pG = zo5, ho6 : @rN = zo6, ho7 : @lenL = zo7, ho8 : @decMsg = zo8
    generalize hA : Arith.std = A
    cbv
    subst hA hg0 ho0 ho1 ho2 ho3 ho4 ho5 ho6 ho7 ho8
    refine Need.mk trivial fun _ => Need.mk (Nat.zero_le _) fun _ => Need.mk (show 1 ≤ 140737488351232 by decide) fun _ => ?_
    refine Ife.mk (fun _ => ?_) (fun h => absurd h (by decide))
    refine Ife.mk (fun _ => ?_) (fun h => absurd h (by decide))
    refine Ife.mk (fun _ => ?_) (fun h => absurd (decide_eq_true dec_nil) (by rw [show decide ((decMsg []).2 = 2) = false from h]; decide))
    exact decide_eq_true dec_nine

end Go.Proofs.Ytcgoaicifjndpaa.Vx
end
