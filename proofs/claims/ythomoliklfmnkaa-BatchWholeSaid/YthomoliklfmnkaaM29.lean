/- The document's transactions as bytes, by the walker. -/
import Derived.Test.YthomoliklfmnkaaM28
import Derived.Test.YthomoliklfmnkaaM24
import Derived.Test.YthomoliklfmnkaaM25
import Derived.Test.YthomoliklfmnkaaM17
import Derived.Test.YthomoliklfmnkaaM12
section
namespace Go.Proofs.Ythomoliklfmnkaa.Vx
open Go.RowKit
set_option linter.unusedVariables false
set_option linter.unusedSimpArgs false

end Go.Proofs.Ythomoliklfmnkaa.Vx
end

section
/- Transactions read, by the walker. -/
namespace Go.Proofs.Ythomoliklfmnkaa.Vx
open Go.RowKit
set_option linter.unusedVariables false
set_option linter.unusedSimpArgs false


end Go.Proofs.Ythomoliklfmnkaa.Vx
end

section
/- Transactions, plainly: what is written is read back, what is read is written so; a message that may be is short. -/
namespace Go.Proofs.Ythomoliklfmnkaa.Vx
open Go.RowKit
set_option linter.unusedVariables false
set_option linter.unusedSimpArgs false
theorem ifB_len {c : Bool} {l : List UInt8} {V W : Prop} {k : Nat} (h : if c then V else W) (hv : V → l.length ≤ k) : (if c then l else []).length ≤ k := by
  cases c
  · exact Nat.zero_le _
  · exact hv h
theorem leafB_small {x : PLeaf} (h : leafV x) : (leafB x).length ≤ 1300 := by
  obtain ⟨h1, h2, h3, h4, h5⟩ := h
  have a1 := textB_len x.k
  have a2 := textB_len x.v
  have a3 := Leb.put_len_le x.i
  have a4 := Leb.put_len_le (x.p.length : Int)
  have a5 := flatE_le (E := hashOf) (c := 32) (p := x.p) fun h hh => by rw [hashOf_len, (h5 h hh).1]; omega
  unfold leafB
  simp only [List.length_append]
  omega
theorem proofB_small {p : Int × List PLeaf} (h : proofV p) : (proofB p).length ≤ 2700 := by
  obtain ⟨h1, h2, h3⟩ := h
  have a3 := Leb.put_len_le p.1
  have a4 := Leb.put_len_le (p.2.length : Int)
  have a5 := flatE_le (E := leafB) (c := 1300) (p := p.2) fun x hx => leafB_small (h3 x hx)
  unfold proofB
  simp only [List.length_append]
  omega
theorem pkB_small {p : Pkt} (h : pkV p) : (pkB p).length ≤ 400 := by
  obtain ⟨⟨h1, -⟩, ⟨h2, -⟩, -, h3, -⟩ := h
  have a1 := textB_len p.sp
  have a2 := textB_len p.dp
  have a3 := textB_len p.data
  have b1 := Leb.put_len_le p.sc
  have b2 := Leb.put_len_le p.dc
  have b3 := Leb.put_len_le p.seq
  have b4 := Leb.put_len_le p.th
  have b5 := Leb.put_len_le p.ta
  unfold pkB
  simp only [List.length_append]
  omega
theorem hdrB_small {z : Int × Int × List Int} (h : hdrV z) : (hdrB z).length ≤ 50 := by
  have a3 := Leb.put_len_le z.1
  have a4 := Leb.put_len_le z.2.1
  have a5 := hashOf_len z.2.2
  have a6 := h.2.2.1
  unfold hdrB
  simp only [List.length_append]
  omega
theorem msgB_small {m : PMsg} (h : msgV m) : (msgB m).length ≤ 6500 := by
  obtain ⟨hk, h1, h2, h3, h4, h5, h6, h7⟩ := h
  have a0 := Leb.put_len_le m.kind
  have a1 := ifB_len (l := hdrB (restOf m).1) h1 hdrB_small
  have a2 := ifB_len (l := pkB (restOf m).2.1) h2 pkB_small
  have a3 := ifB_len (l := textB (restOf m).2.2.1) (k := 41) h3 fun h => by have := textB_len (restOf m).2.2.1; omega
  have a4 := ifB_len (l := Leb.put (restOf m).2.2.2.1) (k := 8) h4 fun h => Leb.put_len_le _
  have a5 := ifB_len (l := Leb.put (restOf m).2.2.2.2.1) (k := 8) h5 fun h => Leb.put_len_le _
  have a6 := ifB_len (l := proofB (restOf m).2.2.2.2.2.1) h6 proofB_small
  have a7 := ifB_len (l := proofB (restOf m).2.2.2.2.2.2) h7 proofB_small
  unfold msgB restB
  simp only [List.length_append]
  omega
end Go.Proofs.Ythomoliklfmnkaa.Vx
end

section
/- The law MsgTells, by the walker. -/
namespace Go.Proofs.Ythomoliklfmnkaa.Vx
open Go.RowKit
set_option linter.unusedVariables false
set_option linter.unusedSimpArgs false
def sSizeM : SpecF
  | [.agg cs], [.data fr ty sz n get, .data fr' ty' sz' n' get'] => some (msgPre cs (.row 0) (.row 1) ty sz n get ty' sz' n' get', .c (.int .i64 ((encMsg (msgOf cs n get n' get')).1.length : Int)), [.dead, .dead])
  | _, _ => none

set_option maxRecDepth 100000 in
set_option maxHeartbeats 16000000 in
theorem sizeMP : Fn Try.prog 70 [] [(118, 204), (118, 204)] sSizeM := by
  have hC : CtsOk Try.prog [(56, appFn [] [(118, 204), (118, 204)] sEncM)] := CtsOk.cons (Fn.ct encMP) <| CtsOk.nil _
  refine Fn.of (E := tbR) [] 0 [] tbR_ok hC (by kernel_rfl) Try.func70 rfl rfl rfl (by kernel_rfl) (by kernel_rfl) 2 5 1 ?_ ?_
  · intro args h pre r h' hs
    unfold sSizeM at hs
    split at hs
    · cases hs; exact ⟨rfl, rfl, Nat.le_of_ble_eq_true rfl⟩
    · cases hs
  · intro args h pre r h' hs hp
    unfold sSizeM at hs
    split at hs
    rotate_left
    · cases hs
    rename_i cs fr ty sz n get fr' ty' sz' n' get'
    cases hs
    obtain ⟨hcs, ⟨rfl, rfl, hst, hok, hm⟩, ⟨rfl, rfl, hst', hok', hm'⟩, hfit⟩ := hp
    refine ⟨[.data fr 118 4 n (leafG false (leafL n get)), .data fr' 118 4 n' (leafG false (leafL n' get'))], ⟨⟨rfl, rfl, rfl, rfl, fun i j hi hj => by rw [hst i j hi hj]; exact Cell.le_refl _⟩, ⟨rfl, rfl, rfl, rfl, fun i j hi hj => by rw [hst' i j hi hj]; exact Cell.le_refl _⟩, trivial⟩, ?_⟩
    have hL : (leafL n get).length = n := leafL_len
    have hL' : (leafL n' get').length = n' := leafL_len
    have e1 : (msgOf cs n get n' get').pl = leafL n get := rfl
    have e2 : (msgOf cs n get n' get').cl = leafL n' get' := rfl
    generalize msgOf cs n get n' get' = m at *
    subst hcs
    obtain ⟨k, hh, ht, hr, ⟨sp, sc, dp, dc, sq, da, th, ta⟩, ack, nx, hg, pc, pl, cc, cl⟩ := m
    replace e1 : pl = leafL n get := e1
    replace e2 : cl = leafL n' get' := e2
    clear hst hst'
    subst e1 e2
    generalize leafL n get = pl at *
    generalize leafL n' get' = cl at *
    have hok0 : MsgOk ⟨k, hh, ht, hr, ⟨sp, sc, dp, dc, sq, da, th, ta⟩, ack, nx, hg, pc, pl, cc, cl⟩ := ⟨hfit, hok, hok', by show pl.length ≤ _; omega, by show cl.length ≤ _; omega⟩
    obtain ⟨hpk, hack, hrl, hrb⟩ := hfit
    replace hack : ack.length ≤ 1000000000 := hack
    replace hrl : hr.length = 32 := hrl
    replace hrb : ∀ b ∈ hr, 0 ≤ b ∧ b < 256 := hrb
    unfold sEncM
    generalize hg0 : (List.length : List UInt8 → Nat) = g0
    try unfold leafG
    try unfold msgC
    generalize ho0 : @lK = zo0, ho1 : @lV = zo1, ho2 : @lI = zo2, ho3 : @lP = zo3, ho4 : @lN = zo4, ho5 : @pG = zo5, ho6 : @leafL = zo6, ho7 : @rN = zo7, ho8 : @msgPre = zo8, ho9 : @msgOf = zo9, ho10 : @encMsg = zo10
    generalize hA : Arith.std = A
    cbv
    subst hA hg0 ho0 ho1 ho2 ho3 ho4 ho5 ho6 ho7 ho8 ho9 ho10
    refine Need.mk (msgPre_n (m := ⟨k, hh, ht, hr, ⟨sp, sc, dp, dc, sq, da, th, ta⟩, ack, nx, hg, pc, pl, cc, cl⟩) hok0 hL hL') fun _ => ?_
    have z := msgOf_n (m := ⟨k, hh, ht, hr, ⟨sp, sc, dp, dc, sq, da, th, ta⟩, ack, nx, hg, pc, pl, cc, cl⟩) (a := .row 0) (b := .row 1) (fr := false) (fr' := false) hok0 hL hL'
    simp only [msgC, msgCP, h32, pkC, List.cons_append, List.nil_append] at z
    rw [z]
    exact ⟨[0, 1], ⟨rfl, by repeat' (first | exact trivial | exact rfl | apply And.intro | exact (fun _ _ _ _ => Cell.le_refl _) | (intro i hi; rfl) | (intro i hi; exact absurd hi (Nat.not_lt_zero _))), by decide, rfl, by repeat' (first | exact trivial | exact rfl | apply And.intro | exact (fun _ _ _ _ => Cell.le_refl _) | (intro i hi; rfl) | (intro i hi; exact absurd hi (Nat.not_lt_zero _)))⟩⟩



end Go.Proofs.Ythomoliklfmnkaa.Vx
namespace Go.Proofs.Ythomoliklfmnkaa
open Go.RowKit
set_option linter.unusedVariables false
end Go.Proofs.Ythomoliklfmnkaa
end

section
/- What messages cost, by the walker. -/
namespace Go.Proofs.Ythomoliklfmnkaa.Vx
open Go.RowKit
set_option linter.unusedVariables false
set_option linter.unusedSimpArgs false
def priceM (m : PMsg) : Int := if mayM m then 1000 + 3 * ((msgB m).length : Int) + 50 * (stepsL m.pl + stepsL m.cl) else 0
def totalM (L : List PMsg) : Int := (L.map priceM).sum
theorem sum_small : ∀ {l : List PLeaf}, (∀ x ∈ l, (x.p.length : Int) ≤ 30) → 0 ≤ (l.map fun x => (x.p.length : Int)).sum ∧ (l.map fun x => (x.p.length : Int)).sum ≤ 30 * (l.length : Int)
  | [], _ => by simp
  | x :: l, h => by
    have a := sum_small (l := l) fun y hy => h y (by simp [hy])
    have b := h x (by simp)
    simp only [List.map_cons, List.sum_cons, List.length_cons]
    omega
theorem steps_small {p : Int × List PLeaf} (h : proofV p) : 0 ≤ stepsL p.2 ∧ stepsL p.2 ≤ 62 := by
  have a := sum_small (l := p.2) fun x hx => (h.2.2 x hx).2.2.2.1.2
  have b := h.2.1
  unfold stepsL
  omega
theorem may_steps {m : PMsg} (h : mayM m = true) (ho : MsgOk m) : (0 ≤ stepsL m.pl ∧ stepsL m.pl ≤ 62) ∧ 0 ≤ stepsL m.cl ∧ stepsL m.cl ≤ 62 := by
  obtain ⟨-, -, -, -, -, -, h6, h7⟩ := mayM_V h ho
  have z : 0 ≤ stepsL [] ∧ stepsL [] ≤ 62 := ⟨by decide, by decide⟩
  refine ⟨?_, ?_⟩
  · split at h6
    · exact steps_small h6
    · have : m.pl = [] := congrArg (fun z : Int × List PLeaf => z.2) h6
      rw [this]; exact z
  · split at h7
    · exact steps_small h7
    · have : m.cl = [] := congrArg (fun z : Int × List PLeaf => z.2) h7
      rw [this]; exact z
theorem price_yes {m : PMsg} (h : mayM m = true) : priceM m = 1000 + 3 * ((msgB m).length : Int) + 50 * (stepsL m.pl + stepsL m.cl) := by unfold priceM; rw [if_pos h]
theorem price_no {m : PMsg} (h : mayM m = false) : priceM m = 0 := by unfold priceM; rw [h]; rfl
theorem price_may {m : PMsg} (h : mayM m = true) (ho : MsgOk m) : 1003 ≤ priceM m ∧ priceM m ≤ 30000 := by
  have a := may_steps h ho
  have b := msgB_small (mayM_V h ho)
  have c := List.length_pos_iff.2 (msgB_ne h ho)
  rw [price_yes h]
  omega
theorem price_rng {m : PMsg} (ho : MsgOk m) : 0 ≤ priceM m ∧ priceM m ≤ 30000 := by
  cases h : mayM m
  · rw [price_no h]; decide
  · have := price_may h ho
    omega
theorem total_rng : ∀ {L : List PMsg}, (∀ m ∈ L, MsgOk m) → 0 ≤ totalM L ∧ totalM L ≤ 30000 * (L.length : Int)
  | [], _ => by simp [totalM]
  | m :: L, h => by
    have a := total_rng (L := L) fun y hy => h y (by simp [hy])
    have b := price_rng (h m (by simp))
    unfold totalM at a ⊢
    simp only [List.map_cons, List.sum_cons, List.length_cons]
    omega
theorem total_take {L : List PMsg} {k : Nat} (h : k < L.length) : totalM (L.take (k + 1)) = totalM (L.take k) + priceM (gM L k) := by
  have e : L.take (k + 1) = L.take k ++ [L[k]] := List.take_succ_eq_append_getElem h
  unfold totalM
  rw [gM_eq h, e, List.map_append, List.sum_append, List.map_singleton, List.sum_singleton]
/-- The cost of the first messages. -/
structure LGs (L : List PMsg) where
  i : Int
  k : Nat
  s : Int
  hk : i = (k : Int)
  h1 : k ≤ L.length
  hs : s = totalM (L.take k)
def sTrue17 : List SV → Option (Prop × SV)
  | [] => some (True, .c .tt)
  | _ => none

def sPriceM : SpecF
  | [.agg cs], [.data fr ty sz n get, .data fr' ty' sz' n' get'] => some (msgPre cs (.row 0) (.row 1) ty sz n get ty' sz' n' get', .c (.int .i64 (priceM (msgOf cs n get n' get'))), [.dead, .dead])
  | _, _ => none

set_option maxRecDepth 100000 in
set_option maxHeartbeats 16000000 in
theorem priceP : Fn Try.prog 59 [] [(118, 204), (118, 204)] sPriceM := by
  have hC : CtsOk Try.prog [(68, appFn [] [(118, 204), (118, 204)] sMayM), (70, appFn [] [(118, 204), (118, 204)] sSizeM), (71, appFn [] [(118, 204)] sSteps)] := CtsOk.cons (Fn.ct mayMP) <| CtsOk.cons (Fn.ct sizeMP) <| CtsOk.cons (Fn.ct stepsP) <| CtsOk.nil _
  refine Fn.of (E := tbR) [] 0 [(3, [(0, true), (4, true), (5, true), (7, true), (8, true), (1, false), (2, true), (3, true), (6, false), (9, false), (10, true), (11, true), (12, true), (13, true)])] tbR_ok hC (by kernel_rfl) Try.func59 rfl rfl rfl (by kernel_rfl) (by kernel_rfl) 2 5 1 ?_ ?_
  · intro args h pre r h' hs
    unfold sPriceM at hs
    split at hs
    · cases hs; exact ⟨rfl, rfl, Nat.le_of_ble_eq_true rfl⟩
    · cases hs
  · intro args h pre r h' hs hp
    unfold sPriceM at hs
    split at hs
    rotate_left
    · cases hs
    rename_i cs fr ty sz n get fr' ty' sz' n' get'
    cases hs
    obtain ⟨hcs, ⟨rfl, rfl, hst, hok, hm⟩, ⟨rfl, rfl, hst', hok', hm'⟩, hfit⟩ := hp
    refine ⟨[.data fr 118 4 n (leafG false (leafL n get)), .data fr' 118 4 n' (leafG false (leafL n' get'))], ⟨⟨rfl, rfl, rfl, rfl, fun i j hi hj => by rw [hst i j hi hj]; exact Cell.le_refl _⟩, ⟨rfl, rfl, rfl, rfl, fun i j hi hj => by rw [hst' i j hi hj]; exact Cell.le_refl _⟩, trivial⟩, ?_⟩
    have hL : (leafL n get).length = n := leafL_len
    have hL' : (leafL n' get').length = n' := leafL_len
    have e1 : (msgOf cs n get n' get').pl = leafL n get := rfl
    have e2 : (msgOf cs n get n' get').cl = leafL n' get' := rfl
    generalize msgOf cs n get n' get' = m at *
    subst hcs
    obtain ⟨k, hh, ht, hr, ⟨sp, sc, dp, dc, sq, da, th, ta⟩, ack, nx, hg, pc, pl, cc, cl⟩ := m
    replace e1 : pl = leafL n get := e1
    replace e2 : cl = leafL n' get' := e2
    clear hst hst'
    subst e1 e2
    generalize leafL n get = pl at *
    generalize leafL n' get' = cl at *
    have hok0 : MsgOk ⟨k, hh, ht, hr, ⟨sp, sc, dp, dc, sq, da, th, ta⟩, ack, nx, hg, pc, pl, cc, cl⟩ := ⟨hfit, hok, hok', by show pl.length ≤ _; omega, by show cl.length ≤ _; omega⟩
    obtain ⟨hpk, hack, hrl, hrb⟩ := hfit
    replace hack : ack.length ≤ 1000000000 := hack
    replace hrl : hr.length = 32 := hrl
    replace hrb : ∀ b ∈ hr, 0 ≤ b ∧ b < 256 := hrb
    unfold sMayM sSizeM sSteps
    generalize hg0 : (List.length : List UInt8 → Nat) = g0
    try unfold leafG
    try unfold msgC
    generalize ho0 : @lK = zo0, ho1 : @lV = zo1, ho2 : @lI = zo2, ho3 : @lP = zo3, ho4 : @lN = zo4, ho5 : @pG = zo5, ho6 : @leafL = zo6, ho7 : @leavesPre = zo7, ho8 : @rN = zo8, ho9 : @msgPre = zo9, ho10 : @mayM = zo10, ho11 : @msgOf = zo11, ho12 : @msgB = zo12, ho13 : @encMsg = zo13, ho14 : @stepsL = zo14, ho15 : @priceM = zo15
    generalize hA : Arith.std = A
    cbv
    subst hA hg0 ho0 ho1 ho2 ho3 ho4 ho5 ho6 ho7 ho8 ho9 ho10 ho11 ho12 ho13 ho14 ho15
    refine Need.mk (msgPre_n (m := ⟨k, hh, ht, hr, ⟨sp, sc, dp, dc, sq, da, th, ta⟩, ack, nx, hg, pc, pl, cc, cl⟩) hok0 hL hL') fun _ => ?_
    have z := msgOf_n (m := ⟨k, hh, ht, hr, ⟨sp, sc, dp, dc, sq, da, th, ta⟩, ack, nx, hg, pc, pl, cc, cl⟩) (a := .row 0) (b := .row 1) (fr := false) (fr' := false) hok0 hL hL'
    simp only [msgC, msgCP, h32, pkC, List.cons_append, List.nil_append] at z
    rw [z]
    refine Ife.mk (fun hy => ?_) (fun hy => ?_)
    · replace hy : mayM ⟨k, hh, ht, hr, ⟨sp, sc, dp, dc, sq, da, th, ta⟩, ack, nx, hg, pc, pl, cc, cl⟩ = false := (Bool.not_eq_true' _).mp hy
      rw [price_no hy]
      exact ⟨[0, 1], ⟨rfl, by repeat' (first | exact trivial | exact rfl | apply And.intro | exact (fun _ _ _ _ => Cell.le_refl _) | (intro i hi; rfl) | (intro i hi; exact absurd hi (Nat.not_lt_zero _))), by decide, rfl, by repeat' (first | exact trivial | exact rfl | apply And.intro | exact (fun _ _ _ _ => Cell.le_refl _) | (intro i hi; rfl) | (intro i hi; exact absurd hi (Nat.not_lt_zero _)))⟩⟩
    replace hy : mayM ⟨k, hh, ht, hr, ⟨sp, sc, dp, dc, sq, da, th, ta⟩, ack, nx, hg, pc, pl, cc, cl⟩ = true := (Bool.not_eq_false' _).mp hy
    refine Need.mk (msgPre_n (m := ⟨k, hh, ht, hr, ⟨sp, sc, dp, dc, sq, da, th, ta⟩, ack, nx, hg, pc, pl, cc, cl⟩) hok0 hL hL') fun _ => ?_
    rw [encMsg_yes hy]
    have sm := may_steps hy hok0
    have bs := msgB_small (mayM_V hy hok0)
    have sp1 : 0 ≤ stepsL pl ∧ stepsL pl ≤ 62 := sm.1
    have sp2 : 0 ≤ stepsL cl ∧ stepsL cl ≤ 62 := sm.2
    rw [price_yes hy]
    generalize hB : msgB ⟨k, hh, ht, hr, ⟨sp, sc, dp, dc, sq, da, th, ta⟩, ack, nx, hg, pc, pl, cc, cl⟩ = B at *
    refine Need.mk (by show fitStd .i64 (3 * (B.length : Int)); unfold fitStd; omega) fun _ => ?_
    refine Need.mk (by show fitStd .i64 (1000 + 3 * (B.length : Int)); unfold fitStd; omega) fun _ => ?_
    refine Need.mk (leavesPre_n hL hok hm) fun _ => ?_
    refine Need.mk (leavesPre_n hL' hok' hm') fun _ => ?_
    rw [leavesL_n hL hok, leavesL_n hL' hok']
    refine Need.mk (by show fitStd .i64 (stepsL pl + stepsL cl); unfold fitStd; omega) fun _ => ?_
    refine Need.mk (by show fitStd .i64 (50 * (stepsL pl + stepsL cl)); unfold fitStd; omega) fun _ => ?_
    refine Need.mk (by show fitStd .i64 ((1000 + 3 * (B.length : Int)) + 50 * (stepsL pl + stepsL cl)); unfold fitStd; omega) fun _ => ?_
    exact ⟨[0, 1], ⟨rfl, by repeat' (first | exact trivial | exact rfl | apply And.intro | exact (fun _ _ _ _ => Cell.le_refl _) | (intro i hi; rfl) | (intro i hi; exact absurd hi (Nat.not_lt_zero _))), by decide, rfl, by repeat' (first | exact trivial | exact rfl | apply And.intro | exact (fun _ _ _ _ => Cell.le_refl _) | (intro i hi; rfl) | (intro i hi; exact absurd hi (Nat.not_lt_zero _)))⟩⟩


def sTotalM : SpecF
  | [.c (.row 0)], [.data fr ty sz n get] => some (msgsPre ty sz n get, .c (.int .i64 (totalM (msgsL n get))), [.dead])
  | _, _ => none

set_option maxRecDepth 100000 in
set_option maxHeartbeats 16000000 in
theorem totalP : Fn Try.prog 39 [] [(60, 250)] sTotalM := by
  have hC : CtsOk Try.prog [(59, appFn [] [(118, 204), (118, 204)] sPriceM)] := CtsOk.cons (Fn.ct priceP) <| CtsOk.nil _
  refine Fn.of (E := tbR) [] 0 [] tbR_ok hC (by kernel_rfl) Try.func39 rfl rfl rfl (by kernel_rfl) (by kernel_rfl) 1 5 1 ?_ ?_
  · intro args h pre r h' hs
    unfold sTotalM at hs
    split at hs
    · cases hs; exact ⟨rfl, rfl, Nat.le_of_ble_eq_true rfl⟩
    · cases hs
  · intro args h pre r h' hs hp
    unfold sTotalM at hs
    split at hs
    rotate_left
    · cases hs
    rename_i fr ty sz n get
    cases hs
    obtain ⟨rfl, rfl, hst, hok, hm⟩ := hp
    refine ⟨[.data fr 60 50 n (msgG false (msgsL n get))], ⟨⟨rfl, rfl, rfl, rfl, fun i j hi hj => by rw [hst i j hi hj]; exact Cell.le_refl _⟩, trivial⟩, ?_⟩
    have hL : (msgsL n get).length = n := msgsL_len
    generalize msgsL n get = L at *
    clear hst
    have ho := gM_all hok zeroMsg_ok
    unfold sPriceM
    generalize hL : lft Try.prog _ = L
    try unfold leafG
    try unfold msgCl
    try unfold msgG
    try unfold msgC
    generalize ho0 : @lK = zo0, ho1 : @lV = zo1, ho2 : @lI = zo2, ho3 : @lP = zo3, ho4 : @lN = zo4, ho5 : @pG = zo5, ho6 : @rN = zo6, ho7 : @msgPre = zo7, ho8 : @lenL = zo8, ho9 : @msgOf = zo9, ho10 : @gM = zo10, ho11 : @msgsL = zo11, ho12 : @msgsPre = zo12, ho13 : @priceM = zo13, ho14 : @totalM = zo14
    generalize hA : Arith.std = A
    cbv
    subst hA hL ho0 ho1 ho2 ho3 ho4 ho5 ho6 ho7 ho8 ho9 ho10 ho11 ho12 ho13 ho14
    show Runs Try.prog 1 (.loop _) _ _
    refine loop_ruleL (N := env (lft Try.prog 1) 0 .std tbR [(59, appFn [] [(118, 204), (118, 204)] sPriceM)] []) rfl tbR_ok hC (fun c st K _ h => h) (by kernel_rfl) [] (X := LGs L)
      (S := fun x => ⟨[.c (.row 0), .any, .any, .c (.int .i64 x.s), .any, .any, .c (.row 0), .c (.int .i64 n), .c (.int .i64 x.i)] ++ List.replicate 9 .any, [.data fr 60 50 n (msgG false L)]⟩) (μ := fun x => L.length - x.k) ⟨0, 0, 0, rfl, by omega, by simp [totalM]⟩ (by kernel_rfl) [0] ?_ ?_
    · refine ⟨rfl, by show List.Nodup []; exact List.nodup_nil, ?_, ?_⟩ <;> repeat' (first | exact trivial | exact rfl | apply And.intro | exact (fun _ _ _ _ => Cell.le_refl _) | (intro i hi; rfl) | (intro i hi; exact absurd hi (Nat.not_lt_zero _)))
    rintro ⟨i, k, s, hk, h1, hs⟩
    replace hk : i = @Nat.cast Int instNatCastInt k := hk
    subst hk
    unfold sPriceM
    generalize hL : lft Try.prog _ = L
    try dsimp only
    try unfold leafG
    try unfold msgCl
    try unfold msgG
    try unfold msgC
    generalize ho0 : @lK = zo0, ho1 : @lV = zo1, ho2 : @lI = zo2, ho3 : @lP = zo3, ho4 : @lN = zo4, ho5 : @pG = zo5, ho6 : @rN = zo6, ho7 : @msgPre = zo7, ho8 : @lenL = zo8, ho9 : @msgOf = zo9, ho10 : @gM = zo10, ho11 : @msgsL = zo11, ho12 : @msgsPre = zo12, ho13 : @priceM = zo13, ho14 : @totalM = zo14
    generalize hA : Arith.std = A
    cbv
    subst hA hL ho0 ho1 ho2 ho3 ho4 ho5 ho6 ho7 ho8 ho9 ho10 ho11 ho12 ho13 ho14
    refine Ife.mk (fun hlt => ?_) (fun hlt => ?_)
    · replace hlt : (k : Int) < @Nat.cast Int instNatCastInt n := of_decide_eq_true (p := (k : Int) < (n : Int)) hlt
      have hkL : k < L.length := by omega
      refine Need.mk (show 0 ≤ (k : Int) ∧ (k : Int) < (n : Int) by omega) fun _ => Need.mk (show k < n by omega) fun _ => ?_
      refine Need.mk (msgPre_n (m := gM L k) (a := .row 0) (b := .row 1) (ho _) rfl rfl) fun _ => ?_
      generalize hE : priceM _ = E
      replace hE : priceM (gM L k) = E := (congrArg priceM (msgOf_g (a := .row 0) (b := .row 1) (ho k).raw)).symm.trans hE
      have r1 := total_rng (L := L.take k) fun m hm => hok m (List.mem_of_mem_take hm)
      have r2 := price_rng (ho k)
      have r3 : (L.take k).length = k := by rw [List.length_take]; omega
      refine Need.mk (by show fitStd .i64 (s + E); unfold fitStd; omega) fun _ => ?_
      refine Need.mk (by show fitStd .i64 ((k : Int) + 1); unfold fitStd; omega) fun _ => ?_
      refine ⟨⟨(k : Int) + 1, k + 1, s + E, by omega, by omega, by rw [total_take hkL, ← hs, hE]⟩, [0], (by show L.length - (k + 1) < L.length - k; omega), ?_⟩
      refine ⟨rfl, by show List.Nodup []; exact List.nodup_nil, ?_, ?_⟩ <;> repeat' (first | exact trivial | exact rfl | apply And.intro | exact (fun _ _ _ _ => Cell.le_refl _) | (intro i hi; rfl) | (intro i hi; exact absurd hi (Nat.not_lt_zero _)))
    · replace hlt : ¬ (k : Int) < @Nat.cast Int instNatCastInt n := of_decide_eq_false (p := (k : Int) < (n : Int)) hlt
      rw [show totalM L = s by rw [hs, List.take_of_length_le (by omega)]]
      exact ⟨[0], ⟨rfl, by repeat' (first | exact trivial | exact rfl | apply And.intro | exact (fun _ _ _ _ => Cell.le_refl _) | (intro i hi; rfl) | (intro i hi; exact absurd hi (Nat.not_lt_zero _))), by decide, rfl, by repeat' (first | exact trivial | exact rfl | apply And.intro | exact (fun _ _ _ _ => Cell.le_refl _) | (intro i hi; rfl) | (intro i hi; exact absurd hi (Nat.not_lt_zero _)))⟩⟩

end Go.Proofs.Ythomoliklfmnkaa.Vx
end

section
/- Do messages fit into a transaction? By the walker. -/
namespace Go.Proofs.Ythomoliklfmnkaa.Vx
open Go.RowKit
set_option linter.unusedVariables false
set_option linter.unusedSimpArgs false
def tbB : Tbl where
  T :=
    (3, ⟨1, false, [.int .i64 (0)], .int .i64, 8⟩) ::
    (4, ⟨1, false, [.ff], .bool, 1⟩) ::
    (9, ⟨1, false, [.str []], .str, 16⟩) ::
    (5, ⟨1, false, [.int .u8 (0)], .int .u8, 1⟩) ::
    (113, ⟨1, false, [.val (.slice none 0 0)], .slice 5, 24⟩) ::
    (27, ⟨1, false, [.int .i64 (0)], .int .i64, 8⟩) ::
    (118, ⟨4, true, [.str [], .str [], .int .i64 (0), .val (.slice none 0 0)], .struct [(0, (1, false)), (1, (1, false)), (2, (1, false)), (3, (1, false))], 64⟩) ::
    (56, ⟨1, false, [.val (.slice none 0 0)], .slice 118, 24⟩) ::
    (58, ⟨2, true, [.int .i64 (0), .val (.slice none 0 0)], .struct [(0, (1, false)), (1, (1, false))], 32⟩) ::
    (49, ⟨32, true, [.int .u8 (0), .int .u8 (0), .int .u8 (0), .int .u8 (0), .int .u8 (0), .int .u8 (0), .int .u8 (0), .int .u8 (0), .int .u8 (0), .int .u8 (0), .int .u8 (0), .int .u8 (0), .int .u8 (0), .int .u8 (0), .int .u8 (0), .int .u8 (0), .int .u8 (0), .int .u8 (0), .int .u8 (0), .int .u8 (0), .int .u8 (0), .int .u8 (0), .int .u8 (0), .int .u8 (0), .int .u8 (0), .int .u8 (0), .int .u8 (0), .int .u8 (0), .int .u8 (0), .int .u8 (0), .int .u8 (0), .int .u8 (0)], .array 32 5, 32⟩) ::
    (116, ⟨1, false, [.val (.slice none 0 0)], .slice 49, 24⟩) ::
    (60, ⟨50, true, [.int .i64 (0), .int .i64 (0), .int .i64 (0), .int .u8 (0), .int .u8 (0), .int .u8 (0), .int .u8 (0), .int .u8 (0), .int .u8 (0), .int .u8 (0), .int .u8 (0), .int .u8 (0), .int .u8 (0), .int .u8 (0), .int .u8 (0), .int .u8 (0), .int .u8 (0), .int .u8 (0), .int .u8 (0), .int .u8 (0), .int .u8 (0), .int .u8 (0), .int .u8 (0), .int .u8 (0), .int .u8 (0), .int .u8 (0), .int .u8 (0), .int .u8 (0), .int .u8 (0), .int .u8 (0), .int .u8 (0), .int .u8 (0), .int .u8 (0), .int .u8 (0), .int .u8 (0), .str [], .int .i64 (0), .str [], .int .i64 (0), .int .i64 (0), .str [], .int .i64 (0), .int .i64 (0), .str [], .int .i64 (0), .int .i64 (0), .int .i64 (0), .val (.slice none 0 0), .int .i64 (0), .val (.slice none 0 0)], .struct [(0, (1, false)), (1, (34, true)), (35, (8, true)), (43, (1, false)), (44, (1, false)), (45, (1, false)), (46, (2, true)), (48, (2, true))], 240⟩) ::
    (38, ⟨1, false, [.val (.slice none 0 0)], .slice 60, 24⟩) ::
    (51, ⟨34, true, [.int .i64 (0), .int .i64 (0), .int .u8 (0), .int .u8 (0), .int .u8 (0), .int .u8 (0), .int .u8 (0), .int .u8 (0), .int .u8 (0), .int .u8 (0), .int .u8 (0), .int .u8 (0), .int .u8 (0), .int .u8 (0), .int .u8 (0), .int .u8 (0), .int .u8 (0), .int .u8 (0), .int .u8 (0), .int .u8 (0), .int .u8 (0), .int .u8 (0), .int .u8 (0), .int .u8 (0), .int .u8 (0), .int .u8 (0), .int .u8 (0), .int .u8 (0), .int .u8 (0), .int .u8 (0), .int .u8 (0), .int .u8 (0), .int .u8 (0), .int .u8 (0)], .struct [(0, (1, false)), (1, (1, false)), (2, (32, true))], 48⟩) ::
    (55, ⟨8, true, [.str [], .int .i64 (0), .str [], .int .i64 (0), .int .i64 (0), .str [], .int .i64 (0), .int .i64 (0)], .struct [(0, (2, true)), (2, (2, true)), (4, (1, false)), (5, (1, false)), (6, (1, false)), (7, (1, false))], 88⟩) ::
    (53, ⟨2, true, [.str [], .int .i64 (0)], .struct [(0, (1, false)), (1, (1, false))], 24⟩) ::
    (120, ⟨2, true, [.val (.slice none 0 0), .ff], .struct [(0, (1, false)), (1, (1, false))], 32⟩) ::
    (105, ⟨1, false, [.val (.pointer none)], .ptr 120, 8⟩) ::
    (39, ⟨1, false, [.val (.slice none 0 0)], .slice 3, 24⟩) ::
    (41, ⟨1, false, [.val (.slice none 0 0)], .slice 39, 24⟩) ::
    (37, ⟨3, true, [.int .i64 (0), .int .i64 (0), .int .i64 (0)], .struct [(0, (1, false)), (1, (1, false)), (2, (1, false))], 24⟩) ::
    (104, ⟨1, false, [.val (.map none)], .map 3 3, 8⟩) ::
    []
  F :=
    (49, [0, 0, 0, 0, 0, 0, 0, 0, 0, 0, 0, 0, 0, 0, 0, 0, 0, 0, 0, 0, 0, 0, 0, 0, 0, 0, 0, 0, 0, 0, 0, 0]) ::
    (55, [1, 0, 1, 0, 0, 1, 0, 0]) ::
    (51, [0, 0, 0, 0, 0, 0, 0, 0, 0, 0, 0, 0, 0, 0, 0, 0, 0, 0, 0, 0, 0, 0, 0, 0, 0, 0, 0, 0, 0, 0, 0, 0, 0, 0]) ::
    []

theorem tbB_ok : tbB.Ok Try.prog where
  T :=
    TblOk.cons (by kernel_rfl) <|
    TblOk.cons (by kernel_rfl) <|
    TblOk.cons (by kernel_rfl) <|
    TblOk.cons (by kernel_rfl) <|
    TblOk.cons (by kernel_rfl) <|
    TblOk.cons (by kernel_rfl) <|
    TblOk.cons (by kernel_rfl) <|
    TblOk.cons (by kernel_rfl) <|
    TblOk.cons (by kernel_rfl) <|
    TblOk.cons (by kernel_rfl) <|
    TblOk.cons (by kernel_rfl) <|
    TblOk.cons (by kernel_rfl) <|
    TblOk.cons (by kernel_rfl) <|
    TblOk.cons (by kernel_rfl) <|
    TblOk.cons (by kernel_rfl) <|
    TblOk.cons (by kernel_rfl) <|
    TblOk.cons (by kernel_rfl) <|
    TblOk.cons (by kernel_rfl) <|
    TblOk.cons (by kernel_rfl) <|
    TblOk.cons (by kernel_rfl) <|
    TblOk.cons (by kernel_rfl) <|
    TblOk.cons (by kernel_rfl) <|
    TblOk.nil _
  F :=
    FlatsOk.cons (FlatOk.of (D := .array 32 5) 6 (by decide) (by kernel_rfl) (by kernel_rfl) rfl (by kernel_rfl)) <|
    FlatsOk.cons (FlatOk.of (D := .struct (Try.prog.fieldsOf 55)) 6 (by decide) (by kernel_rfl) (by kernel_rfl) rfl (by kernel_rfl)) <|
    FlatsOk.cons (FlatOk.of (D := .struct (Try.prog.fieldsOf 51)) 6 (by decide) (by kernel_rfl) (by kernel_rfl) rfl (by kernel_rfl)) <|
    FlatsOk.nil _

def fitsM (g b c : Int) (L : List PMsg) : Bool := L.all mayM && (decide ((L.length : Int) ≤ c ∧ L.length ≤ 64) && (decide (((txB L).length : Int) ≤ b ∧ (txB L).length ≤ 1048576) && decide (totalM L ≤ g)))
theorem txM_ok {L : List PMsg} (h : (txM L).2 = 0) : L.length ≤ 64 ∧ L.all mayM = true ∧ (txM L).1 = txB L := by
  unfold txM at h ⊢
  split at h
  · cases h
  · rename_i h1
    rw [if_neg h1]
    split at h
    · rename_i h2
      exact ⟨by omega, h2, by rw [if_pos h2]⟩
    · cases h
theorem txM_no {L : List PMsg} (h : (txM L).2 ≠ 0) : L.length ≤ 64 → L.all mayM = false := by
  unfold txM at h
  intro h1
  rw [if_neg (by omega)] at h
  cases hA : L.all mayM
  · rfl
  · rw [if_pos hA] at h
    exact absurd rfl h
theorem fits_bad {g b c : Int} {L : List PMsg} (h : (txM L).2 ≠ 0) : fitsM g b c L = false := by
  unfold fitsM
  by_cases h1 : L.length ≤ 64
  · rw [txM_no h h1]; rfl
  · have : decide ((L.length : Int) ≤ c ∧ L.length ≤ 64) = false := decide_eq_false (by omega)
    rw [this]; simp
theorem fits_len {g b c : Int} {L : List PMsg} (h : ¬ ((L.length : Int) ≤ c ∧ L.length ≤ 64)) : fitsM g b c L = false := by
  unfold fitsM
  rw [decide_eq_false h]; simp
theorem fits_by {g b c : Int} {L : List PMsg} (h : ¬ (((txB L).length : Int) ≤ b ∧ (txB L).length ≤ 1048576)) : fitsM g b c L = false := by
  unfold fitsM
  rw [decide_eq_false h]; simp
theorem fits_tot {g b c : Int} {L : List PMsg} (h : (txM L).2 = 0) (h1 : (L.length : Int) ≤ c ∧ L.length ≤ 64) (h2 : ((txB L).length : Int) ≤ b ∧ (txB L).length ≤ 1048576) : fitsM g b c L = decide (totalM L ≤ g) := by
  unfold fitsM
  rw [(txM_ok h).2.1, decide_eq_true h1, decide_eq_true h2]; rfl
def sFits : SpecF
  | [.agg [.int .i64 g, .int .i64 b, .int .i64 c], .c (.row 0)], [.data fr ty sz n get] => some (msgsPre ty sz n get, .c (.bool (fitsM g b c (msgsL n get))), [.dead])
  | _, _ => none

set_option maxRecDepth 100000 in
set_option maxHeartbeats 16000000 in
theorem fitsP : Fn Try.prog 20 [] [(60, 250)] sFits := by
  have hC : CtsOk Try.prog [(38, appFn [] [(60, 250)] sTxM), (39, appFn [] [(60, 250)] sTotalM)] := CtsOk.cons (Fn.ct txMP) <| CtsOk.cons (Fn.ct totalP) <| CtsOk.nil _
  refine Fn.of (E := tbB) [] 0 [(4, [(0, true), (1, true), (2, true), (3, true), (4, true), (5, true), (6, true), (7, true), (9, true), (10, true), (8, false), (11, true), (12, true), (13, true)])] tbB_ok hC (by kernel_rfl) Try.func20 rfl rfl rfl (by kernel_rfl) (by kernel_rfl) 1 5 1 ?_ ?_
  · intro args h pre r h' hs
    unfold sFits at hs
    split at hs
    · cases hs; exact ⟨rfl, rfl, Nat.le_of_ble_eq_true rfl⟩
    · cases hs
  · intro args h pre r h' hs hp
    unfold sFits at hs
    split at hs
    rotate_left
    · cases hs
    rename_i g b c fr ty sz n get
    cases hs
    obtain ⟨rfl, rfl, hst, hok, hm⟩ := hp
    refine ⟨[.data fr 60 50 n (msgG false (msgsL n get))], ⟨⟨rfl, rfl, rfl, rfl, fun i j hi hj => by rw [hst i j hi hj]; exact Cell.le_refl _⟩, trivial⟩, ?_⟩
    have pm : msgsPre 60 50 n get := ⟨rfl, rfl, hst, hok, hm⟩
    have hL : (msgsL n get).length = n := msgsL_len
    generalize msgsL n get = L at *
    clear hst pm
    have ho := gM_all hok zeroMsg_ok
    have pm := msgsPre_n (fr := false) hL hok hm
    have pe := msgsL_n (fr := false) hL hok
    unfold sTxM sTotalM
    generalize hg0 : (List.length : List UInt8 → Nat) = g0
    generalize hL : lft Try.prog _ = L
    try unfold leafG
    try unfold msgCl
    try unfold msgG
    try unfold msgC
    generalize ho0 : @lK = zo0, ho1 : @lV = zo1, ho2 : @lI = zo2, ho3 : @lP = zo3, ho4 : @lN = zo4, ho5 : @pG = zo5, ho6 : @rN = zo6, ho7 : @lenL = zo7, ho8 : @gM = zo8, ho9 : @msgsL = zo9, ho10 : @msgsPre = zo10, ho11 : @txM = zo11, ho12 : @txB = zo12, ho13 : @totalM = zo13, ho14 : @fitsM = zo14
    generalize hA : Arith.std = A
    cbv
    subst hA hg0 hL ho0 ho1 ho2 ho3 ho4 ho5 ho6 ho7 ho8 ho9 ho10 ho11 ho12 ho13 ho14
    refine Need.mk pm fun _ => ?_
    rw [pe]
    have bad : (txM L).2 ≠ 0 → fitsM g b c L = false := fits_bad
    have good := txM_ok (L := L)
    have tot := fits_tot (g := g) (b := b) (c := c) (L := L)
    generalize txM L = T at *
    obtain ⟨S, e⟩ := T
    dsimp only at *
    by_cases he : e = 0
    · obtain ⟨h64, hall, h1⟩ := good he
      refine Ife.no (by show (!decide (e = 0)) = false; rw [decide_eq_true he]; rfl) ?_
      refine Ife.mk (fun h => ?_) (fun h => ?_)
      · replace h : min c 64 < @Nat.cast Int instNatCastInt n := of_decide_eq_true (p := min c 64 < (n : Int)) h
        rw [fits_len (by omega)]
        exact ⟨[0], ⟨rfl, by repeat' (first | exact trivial | exact rfl | apply And.intro | exact (fun _ _ _ _ => Cell.le_refl _) | (intro i hi; rfl) | (intro i hi; exact absurd hi (Nat.not_lt_zero _))), by decide, rfl, by repeat' (first | exact trivial | exact rfl | apply And.intro | exact (fun _ _ _ _ => Cell.le_refl _) | (intro i hi; rfl) | (intro i hi; exact absurd hi (Nat.not_lt_zero _)))⟩⟩
      replace h : ¬ min c 64 < @Nat.cast Int instNatCastInt n := of_decide_eq_false (p := min c 64 < (n : Int)) h
      subst h1
      have hc : (L.length : Int) ≤ c ∧ L.length ≤ 64 := by omega
      refine Ife.mk (fun h2 => ?_) (fun h2 => ?_)
      · replace h2 : ((txB L).length : Int) ≤ min b 1048576 := of_decide_eq_true (p := ((txB L).length : Int) ≤ min b 1048576) h2
        rw [tot he hc (by omega)]
        refine Need.mk pm fun _ => ?_
        exact ⟨[0], ⟨rfl, by repeat' (first | exact trivial | exact rfl | apply And.intro | exact (fun _ _ _ _ => Cell.le_refl _) | (intro i hi; rfl) | (intro i hi; exact absurd hi (Nat.not_lt_zero _))), by decide, rfl, by repeat' (first | exact trivial | exact rfl | apply And.intro | exact (fun _ _ _ _ => Cell.le_refl _) | (intro i hi; rfl) | (intro i hi; exact absurd hi (Nat.not_lt_zero _)))⟩⟩
      · replace h2 : ¬ ((txB L).length : Int) ≤ min b 1048576 := of_decide_eq_false (p := ((txB L).length : Int) ≤ min b 1048576) h2
        rw [fits_by (by omega)]
        exact ⟨[0], ⟨rfl, by repeat' (first | exact trivial | exact rfl | apply And.intro | exact (fun _ _ _ _ => Cell.le_refl _) | (intro i hi; rfl) | (intro i hi; exact absurd hi (Nat.not_lt_zero _))), by decide, rfl, by repeat' (first | exact trivial | exact rfl | apply And.intro | exact (fun _ _ _ _ => Cell.le_refl _) | (intro i hi; rfl) | (intro i hi; exact absurd hi (Nat.not_lt_zero _)))⟩⟩
    · refine Ife.yes (by show (!decide (e = 0)) = true; rw [decide_eq_false he]; rfl) ?_
      rw [bad he]
      exact ⟨[0], ⟨rfl, by repeat' (first | exact trivial | exact rfl | apply And.intro | exact (fun _ _ _ _ => Cell.le_refl _) | (intro i hi; rfl) | (intro i hi; exact absurd hi (Nat.not_lt_zero _))), by decide, rfl, by repeat' (first | exact trivial | exact rfl | apply And.intro | exact (fun _ _ _ _ => Cell.le_refl _) | (intro i hi; rfl) | (intro i hi; exact absurd hi (Nat.not_lt_zero _)))⟩⟩


end Go.Proofs.Ythomoliklfmnkaa.Vx
end
