/- Messages encoded and decoded, by the walker. -/
import Derived.Test.YthomoliklfmnkaaM23
import Derived.Test.YthomoliklfmnkaaM22
import Derived.Test.YthomoliklfmnkaaVMs6
section
namespace Go.Proofs.Ythomoliklfmnkaa.Vx
open Go.RowKit
set_option linter.unusedVariables false
set_option linter.unusedSimpArgs false
theorem encMsg_yes {m : PMsg} (h : mayM m = true) : encMsg m = (msgB m, 0) := by unfold encMsg; rw [if_pos h]
theorem encMsg_no {m : PMsg} (h : mayM m = false) : encMsg m = ([], 1) := by unfold encMsg; rw [h]; rfl
def sEncM : SpecF
  | [.agg cs], [.data fr ty sz n get, .data fr' ty' sz' n' get'] => some (msgPre cs (.row 0) (.row 1) ty sz n get ty' sz' n' get', .tup [(some (.str (encMsg (msgOf cs n get n' get')).1), []), (some (.int .i64 (encMsg (msgOf cs n get n' get')).2), [])], [.dead, .dead])
  | _, _ => none

set_option maxRecDepth 100000 in
set_option maxHeartbeats 16000000 in
theorem encMP : Fn Try.prog 56 [] [(118, 204), (118, 204)] sEncM := by
  have hC : CtsOk Try.prog [(68, appFn [] [(118, 204), (118, 204)] sMayM), (54, appMakesW 120 5), (69, appFn [] [(118, 204), (118, 204)] sWMsg), (58, appW 120 5 sBytes)] := CtsOk.cons (Fn.ct mayMP) <| CtsOk.cons (MakesW.ct newWP) <| CtsOk.cons (Fn.ct wMsgP) <| CtsOk.cons (MethW.ct bytesP) <| CtsOk.nil _
  refine Fn.of (E := tbR) [] 0 [] tbR_ok hC (by kernel_rfl) Try.func56 rfl rfl rfl (by kernel_rfl) (by kernel_rfl) 2 5 1 ?_ ?_
  · intro args h pre r h' hs
    unfold sEncM at hs
    split at hs
    · cases hs; exact ⟨rfl, rfl, Nat.le_of_ble_eq_true rfl⟩
    · cases hs
  · intro args h pre r h' hs hp
    unfold sEncM at hs
    split at hs
    rotate_left
    · cases hs
    rename_i cs fr ty sz n get fr' ty' sz' n' get'
    cases hs
    obtain ⟨hcs, ⟨rfl, rfl, hst, hok, hm⟩, ⟨rfl, rfl, hst', hok', hm'⟩, hfit⟩ := hp
    refine ⟨[.data fr 118 4 n (leafG false (leafL n get)), .data fr' 118 4 n' (leafG false (leafL n' get'))], ⟨⟨rfl, rfl, rfl, rfl, fun i j hi hj => by rw [hst i j hi hj]; exact Cell.le_refl _⟩, ⟨rfl, rfl, rfl, rfl, fun i j hi hj => by rw [hst' i j hi hj]; exact Cell.le_refl _⟩, trivial⟩, ?_⟩
    have hL : (leafL n get).length = n := leafL_len
    have hL' : (leafL n' get').length = n' := leafL_len
    have e1 : (msgOf cs n get n' get').pl = leafL n get := rfl
    have e2 : (msgOf cs n get n' get').cl = leafL n' get' := rfl
    generalize msgOf cs n get n' get' = m at *
    subst hcs
    obtain ⟨k, hh, ht, hr, ⟨sp, sc, dp, dc, sq, da, th, ta⟩, ack, nx, hg, pc, pl, cc, cl⟩ := m
    replace e1 : pl = leafL n get := e1
    replace e2 : cl = leafL n' get' := e2
    clear hst hst'
    subst e1 e2
    generalize leafL n get = pl at *
    generalize leafL n' get' = cl at *
    have hok0 : MsgOk ⟨k, hh, ht, hr, ⟨sp, sc, dp, dc, sq, da, th, ta⟩, ack, nx, hg, pc, pl, cc, cl⟩ := ⟨hfit, hok, hok', by show pl.length ≤ _; omega, by show cl.length ≤ _; omega⟩
    obtain ⟨hpk, hack, hrl, hrb⟩ := hfit
    replace hack : ack.length ≤ 1000000000 := hack
    replace hrl : hr.length = 32 := hrl
    replace hrb : ∀ b ∈ hr, 0 ≤ b ∧ b < 256 := hrb
    unfold sMayM sWMsg sBytes
    generalize hg0 : (List.length : List UInt8 → Nat) = g0
    try unfold leafG
    try unfold msgC
    generalize ho0 : @lK = zo0, ho1 : @lV = zo1, ho2 : @lI = zo2, ho3 : @lP = zo3, ho4 : @lN = zo4, ho5 : @pG = zo5, ho6 : @leafL = zo6, ho7 : @rN = zo7, ho8 : @msgPre = zo8, ho9 : @mayM = zo9, ho10 : @msgOf = zo10, ho11 : @wMsg = zo11, ho12 : @wMsgPre = zo12, ho13 : @encMsg = zo13, ho14 : @bytesW = zo14, ho15 : @badW = zo15
    generalize hA : Arith.std = A
    cbv
    subst hA hg0 ho0 ho1 ho2 ho3 ho4 ho5 ho6 ho7 ho8 ho9 ho10 ho11 ho12 ho13 ho14 ho15
    refine Need.mk (msgPre_n (m := ⟨k, hh, ht, hr, ⟨sp, sc, dp, dc, sq, da, th, ta⟩, ack, nx, hg, pc, pl, cc, cl⟩) hok0 hL hL') fun _ => ?_
    have z := msgOf_n (m := ⟨k, hh, ht, hr, ⟨sp, sc, dp, dc, sq, da, th, ta⟩, ack, nx, hg, pc, pl, cc, cl⟩) (a := .row 0) (b := .row 1) (fr := false) (fr' := false) hok0 hL hL'
    simp only [msgC, msgCP, h32, pkC, List.cons_append, List.nil_append] at z
    rw [z]
    refine Ife.mk (fun hm => ?_) (fun hm => ?_)
    · replace hm : (!mayM ⟨k, hh, ht, hr, ⟨sp, sc, dp, dc, sq, da, th, ta⟩, ack, nx, hg, pc, pl, cc, cl⟩) = true := hm
      rw [Bool.not_eq_true'] at hm
      rw [encMsg_no hm]
      exact ⟨[0, 1], ⟨rfl, by repeat' (first | exact trivial | exact rfl | apply And.intro | exact (fun _ _ _ _ => Cell.le_refl _) | (intro i hi; rfl) | (intro i hi; exact absurd hi (Nat.not_lt_zero _))), by decide, rfl, by repeat' (first | exact trivial | exact rfl | apply And.intro | exact (fun _ _ _ _ => Cell.le_refl _) | (intro i hi; rfl) | (intro i hi; exact absurd hi (Nat.not_lt_zero _)))⟩⟩
    replace hm : (!mayM ⟨k, hh, ht, hr, ⟨sp, sc, dp, dc, sq, da, th, ta⟩, ack, nx, hg, pc, pl, cc, cl⟩) = false := hm
    rw [Bool.not_eq_false'] at hm
    have hV := mayM_V hm hok0
    have z2 := msgOf_n (m := ⟨k, hh, ht, hr, ⟨sp, sc, dp, dc, sq, da, th, ta⟩, ack, nx, hg, pc, pl, cc, cl⟩) (a := .row 2) (b := .row 3) (fr := false) (fr' := false) hok0 hL hL'
    simp only [msgC, msgCP, h32, pkC, List.cons_append, List.nil_append] at z2
    rw [z2]
    refine Need.mk trivial fun _ => Need.mk ⟨⟨rfl, rfl, hV, by decide⟩, msgPre_n (m := ⟨k, hh, ht, hr, ⟨sp, sc, dp, dc, sq, da, th, ta⟩, ack, nx, hg, pc, pl, cc, cl⟩) (a := .row 2) (b := .row 3) hok0 hL hL'⟩ fun _ => ?_
    rw [wMsg_ok hV [], encMsg_yes hm]
    refine Need.mk trivial fun _ => ?_
    exact ⟨[0, 1], ⟨rfl, by repeat' (first | exact trivial | exact rfl | apply And.intro | exact (fun _ _ _ _ => Cell.le_refl _) | (intro i hi; rfl) | (intro i hi; exact absurd hi (Nat.not_lt_zero _))), by decide, rfl, by repeat' (first | exact trivial | exact rfl | apply And.intro | exact (fun _ _ _ _ => Cell.le_refl _) | (intro i hi; rfl) | (intro i hi; exact absurd hi (Nat.not_lt_zero _)))⟩⟩

end Go.Proofs.Ythomoliklfmnkaa.Vx
end

section
/- Messages decoded, by the walker. -/
namespace Go.Proofs.Ythomoliklfmnkaa.Vx
open Go.RowKit
set_option linter.unusedVariables false
set_option linter.unusedSimpArgs false


end Go.Proofs.Ythomoliklfmnkaa.Vx
end

section
/- What chapter 8's examples fix, by the walker. -/
namespace Go.Proofs.Ythomoliklfmnkaa.Vx
open Go.RowKit
set_option linter.unusedVariables false
set_option linter.unusedSimpArgs false




end Go.Proofs.Ythomoliklfmnkaa.Vx
end

section
/- The document's proofs as bytes, by the walker. -/
namespace Go.Proofs.Ythomoliklfmnkaa.Vx
open Go.RowKit
set_option linter.unusedVariables false
set_option linter.unusedSimpArgs false
theorem flatE_take {α : Type} (E : α → List UInt8) {p : List α} {i : Nat} (h : i < p.length) : flatE E (p.take (i + 1)) = flatE E (p.take i) ++ E p[i] := by
  unfold flatE
  rw [List.take_add_one, List.getElem?_eq_getElem h, List.map_append, List.flatten_append]
  simp


end Go.Proofs.Ythomoliklfmnkaa.Vx
end

section
/- The document's own readers and writers of packets, by the walker. -/
namespace Go.Proofs.Ythomoliklfmnkaa
open Go.RowKit
set_option linter.unusedVariables false
set_option linter.unusedSimpArgs false
namespace Vx





end Vx
end Go.Proofs.Ythomoliklfmnkaa
end

section
/- The document's messages as bytes, by the walker. -/
namespace Go.Proofs.Ythomoliklfmnkaa.Vx
open Go.RowKit
set_option linter.unusedVariables false
set_option linter.unusedSimpArgs false
theorem Ife.no {b : Bool} {p q : Prop} (h : b = false) (x : q) : Ife b p q := Ife.mk (fun g => by rw [h] at g; cases g) fun _ => x
theorem Ife.yes {b : Bool} {p q : Prop} (h : b = true) (x : p) : Ife b p q := Ife.mk (fun _ => x) fun g => by rw [h] at g; cases g
    

end Go.Proofs.Ythomoliklfmnkaa.Vx
end
