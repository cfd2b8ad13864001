/- The law MsgPlain, by the walker. -/
import Derived.Test.YtcgoaicifjndpaaM24
import Derived.Test.YtcgoaicifjndpaaM27
import Derived.Test.YtcgoaicifjndpaaM25
section
namespace Go.Proofs.Ytcgoaicifjndpaa.Vx
open Go.RowKit
set_option linter.unusedVariables false
set_option linter.unusedSimpArgs false
/-- A message that comes in. -/
def lawPre (cs : List CV) (a b : CV) (ty sz n : Nat) (get : Nat → Nat → Cell) (ty' sz' n' : Nat) (get' : Nat → Nat → Cell) : Prop :=
  msgPre0 cs a b ty sz n get ty' sz' n' get' ∧ (msgOf cs n get n' get').hr.length = 32 ∧ (∀ b ∈ (msgOf cs n get n' get').hr, 0 ≤ b ∧ b < 256) ∧ (msgOf cs n get n' get').ack.length ≤ 9223372036854775807 ∧
    (∀ y ∈ (msgOf cs n get n' get').pl, ∀ h ∈ y.p, h.length = 32 ∧ ∀ b ∈ h, 0 ≤ b ∧ b < 256) ∧ (∀ y ∈ (msgOf cs n get n' get').cl, ∀ h ∈ y.p, h.length = 32 ∧ ∀ b ∈ h, 0 ≤ b ∧ b < 256)
theorem lightL_ok {L : List PLeaf} (h : lightL L = true) (hr : ∀ y ∈ L, ∀ h ∈ y.p, h.length = 32 ∧ ∀ b ∈ h, 0 ≤ b ∧ b < 256) : (∀ x ∈ L, x.ok) ∧ L.length ≤ 5 := by
  simp only [lightL, Bool.and_eq_true, decide_eq_true_iff] at h
  refine ⟨fun x hx => ?_, h.1⟩
  obtain ⟨i, hi, rfl⟩ := List.getElem_of_mem hx
  have hm := lightAt_iff.1 (List.all_eq_true.1 h.2 i (List.mem_range.2 hi))
  have e : L.getD i .none = L[i] := by simp [List.getD, hi]
  unfold lK lV lN lP at hm
  rw [e] at hm
  exact ⟨by omega, by omega, by omega, hr _ hx⟩
theorem light_ok {m : PMsg} (h : lightM m = true) (hf : m.pk.fits) (h1 : m.hr.length = 32) (h2 : ∀ b ∈ m.hr, 0 ≤ b ∧ b < 256) (po : ∀ y ∈ m.pl, ∀ h ∈ y.p, h.length = 32 ∧ ∀ b ∈ h, 0 ≤ b ∧ b < 256) (co : ∀ y ∈ m.cl, ∀ h ∈ y.p, h.length = 32 ∧ ∀ b ∈ h, 0 ≤ b ∧ b < 256) : MsgOk m := by
  simp only [lightM, Bool.and_eq_true, decide_eq_true_iff] at h
  obtain ⟨a1, a2⟩ := lightL_ok h.2.2.1 po
  obtain ⟨b1, b2⟩ := lightL_ok h.2.2.2 co
  exact ⟨⟨hf, by omega, h1, h2⟩, a1, b1, by omega, by omega⟩
theorem sameM_self (m : PMsg) : sameM m m = true := decide_eq_true rfl
theorem leafOf_eq0 {fr : Bool} {l : List PLeaf} {i : Nat} (hi : i < l.length) (hok : ∀ x ∈ l, ∀ h ∈ x.p, h.length = 32) : leafOf (leafG fr l i) = l[i] := by
  have e : l.getD i .none = l[i] := by simp [List.getD, hi]
  have hx := hok l[i] (List.getElem_mem hi)
  have ep : cHs (leafG fr l i 3) = l[i].p := by
    show (List.range (lN l i)).map (fun j => (pG (lP l i) j).map vInt) = _
    unfold lN lP
    rw [e]
    apply List.ext_getElem?
    intro j
    rw [List.getElem?_map]
    by_cases hj : j < l[i].p.length
    · rw [List.getElem?_range hj, List.getElem?_eq_getElem hj, Option.map_some]
      congr 1
      unfold pG
      rw [show l[i].p.getD j [] = l[i].p[j] by simp [List.getD, hj]]
      exact pG_vInt (hx _ (List.getElem_mem hj))
    · rw [List.getElem?_eq_none (by simp; omega), List.getElem?_eq_none (by omega)]; rfl
  unfold leafOf
  rw [ep]
  show PLeaf.mk (lK l i) (lV l i) (lI l i) _ = _
  unfold lK lV lI
  rw [e]
theorem leafL_eq0 {n : Nat} {get : Nat → Nat → Cell} {fr : Bool} {l : List PLeaf} (hn : l.length = n) (hok : ∀ x ∈ l, ∀ h ∈ x.p, h.length = 32) (h : ∀ i j, i < n → j < 4 → get i j = leafG fr l i j) : leafL n get = l := by
  apply List.ext_getElem (by simp [leafL, hn])
  intro i h1 h2
  have : leafOf (get i) = leafOf (leafG fr l i) := by
    unfold leafOf
    rw [h i 0 (by omega) (by omega), h i 1 (by omega) (by omega), h i 2 (by omega) (by omega), h i 3 (by omega) (by omega)]
  simp only [leafL, List.getElem_map, List.getElem_range, this]
  exact leafOf_eq0 h2 hok
theorem leaves_den {w : World} {L : List PLeaf} {v : Value} {ρ : List Pl} {k : Nat} {q : Pl} (hs : (Cell.ns false 140 4 L.length (leafG false L)).shows w (fun _ b => b < w.heap.size) v) (hq : q.v = v) (hk : ρ[k]? = some q := by rfl) : CV.den ρ (.row k) = some v := by
  obtain ⟨a, cap, h1, -⟩ := hs
  simp only [CV.den, hk]
  rw [hq, h1]
  rfl


end Go.Proofs.Ytcgoaicifjndpaa.Vx
namespace Go.Proofs.Ytcgoaicifjndpaa
open Go.RowKit
set_option linter.unusedVariables false
end Go.Proofs.Ytcgoaicifjndpaa
end

section
/- The law MsgTells, by the walker. -/
namespace Go.Proofs.Ytcgoaicifjndpaa.Vx
open Go.RowKit
set_option linter.unusedVariables false
set_option linter.unusedSimpArgs false
theorem msgIn_preAt {w : World} {l : List Value} {m : PMsg} (h : MsgIn w l m) (a b : CV) : lawPre (msgC m a b) a b 140 4 m.pl.length (leafG false m.pl) 140 4 m.cl.length (leafG false m.cl) := by
  have e1 : leafL m.pl.length (leafG false m.pl) = m.pl := leafL_eq0 (fr := false) rfl (fun x hx y hy => (h.pok x hx y hy).1) fun _ _ _ _ => rfl
  have e2 : leafL m.cl.length (leafG false m.cl) = m.cl := leafL_eq0 (fr := false) rfl (fun x hx y hy => (h.cok x hx y hy).1) fun _ _ _ _ => rfl
  have e := msgOf_msgC (m := m) (a := a) (b := b) h.len e1 e2
  unfold lawPre msgPre0
  rw [e]
  exact ⟨⟨rfl, ⟨rfl, rfl, fun i j _ _ => by rw [e1]⟩, ⟨rfl, rfl, fun i j _ _ => by rw [e2]⟩, h.fits⟩, h.len, h.by', h.ack, h.pok, h.cok⟩
def sSizeM : SpecF
  | [.agg cs], [.data fr ty sz n get, .data fr' ty' sz' n' get'] => some (msgPre cs (.row 0) (.row 1) ty sz n get ty' sz' n' get', .c (.int .i64 ((encMsg (msgOf cs n get n' get')).1.length : Int)), [.dead, .dead])
  | _, _ => none

set_option maxRecDepth 100000 in
set_option maxHeartbeats 16000000 in
theorem sizeMP : Fn Try.prog 51 [] [(140, 204), (140, 204)] sSizeM := by
  have hC : CtsOk Try.prog [(61, appFn [] [(140, 204), (140, 204)] sEncM)] := CtsOk.cons (Fn.ct encMP) <| CtsOk.nil _
  refine Fn.of (E := tbR) [] 0 [] tbR_ok hC (by kernel_rfl) Try.func51 rfl rfl rfl (by kernel_rfl) (by kernel_rfl) 2 5 1 ?_ ?_
  · intro args h pre r h' hs
    unfold sSizeM at hs
    split at hs
    · cases hs; exact ⟨rfl, rfl, Nat.le_of_ble_eq_true rfl⟩
    · cases hs
  · intro args h pre r h' hs hp
    unfold sSizeM at hs
    split at hs
    rotate_left
    · cases hs
    rename_i cs fr ty sz n get fr' ty' sz' n' get'
    cases hs
    obtain ⟨hcs, ⟨rfl, rfl, hst, hok, hm⟩, ⟨rfl, rfl, hst', hok', hm'⟩, hfit⟩ := hp
    refine ⟨[.data fr 140 4 n (leafG false (leafL n get)), .data fr' 140 4 n' (leafG false (leafL n' get'))], ⟨⟨rfl, rfl, rfl, rfl, fun i j hi hj => by rw [hst i j hi hj]; exact Cell.le_refl _⟩, ⟨rfl, rfl, rfl, rfl, fun i j hi hj => by rw [hst' i j hi hj]; exact Cell.le_refl _⟩, trivial⟩, ?_⟩
    have hL : (leafL n get).length = n := leafL_len
    have hL' : (leafL n' get').length = n' := leafL_len
    have e1 : (msgOf cs n get n' get').pl = leafL n get := rfl
    have e2 : (msgOf cs n get n' get').cl = leafL n' get' := rfl
    generalize msgOf cs n get n' get' = m at *
    subst hcs
    obtain ⟨k, hh, ht, hr, ⟨sp, sc, dp, dc, sq, da, th, ta⟩, ack, nx, hg, pc, pl, cc, cl⟩ := m
    replace e1 : pl = leafL n get := e1
    replace e2 : cl = leafL n' get' := e2
    clear hst hst'
    subst e1 e2
    generalize leafL n get = pl at *
    generalize leafL n' get' = cl at *
    have hok0 : MsgOk ⟨k, hh, ht, hr, ⟨sp, sc, dp, dc, sq, da, th, ta⟩, ack, nx, hg, pc, pl, cc, cl⟩ := ⟨hfit, hok, hok', by show pl.length ≤ _; omega, by show cl.length ≤ _; omega⟩
    obtain ⟨hpk, hack, hrl, hrb⟩ := hfit
    replace hack : ack.length ≤ 1000000000 := hack
    replace hrl : hr.length = 32 := hrl
    replace hrb : ∀ b ∈ hr, 0 ≤ b ∧ b < 256 := hrb
    unfold sEncM
    generalize hg0 : (List.length : List UInt8 → Nat) = g0
    try unfold leafG
    try unfold msgC
    generalize ho0 : @lK = zo0, ho1 : @lV = zo1, ho2 : @lI = zo2, ho3 : @lP = zo3, ho4 : @lN = zo4, ho5 : @pG = zo5, ho6 : @leafL = zo6, ho7 : @rN = zo7, ho8 : @msgPre = zo8, ho9 : @msgOf = zo9, ho10 : @encMsg = zo10
    generalize hA : Arith.std = A
    cbv
    subst hA hg0 ho0 ho1 ho2 ho3 ho4 ho5 ho6 ho7 ho8 ho9 ho10
    refine Need.mk (msgPre_n (m := ⟨k, hh, ht, hr, ⟨sp, sc, dp, dc, sq, da, th, ta⟩, ack, nx, hg, pc, pl, cc, cl⟩) hok0 hL hL') fun _ => ?_
    have z := msgOf_n (m := ⟨k, hh, ht, hr, ⟨sp, sc, dp, dc, sq, da, th, ta⟩, ack, nx, hg, pc, pl, cc, cl⟩) (a := .row 0) (b := .row 1) (fr := false) (fr' := false) hok0 hL hL'
    simp only [msgC, msgCP, h32, pkC, List.cons_append, List.nil_append] at z
    rw [z]
    exact ⟨[0, 1], ⟨rfl, by repeat' (first | exact trivial | exact rfl | apply And.intro | exact (fun _ _ _ _ => Cell.le_refl _) | (intro i hi; rfl) | (intro i hi; exact absurd hi (Nat.not_lt_zero _))), by decide, rfl, by repeat' (first | exact trivial | exact rfl | apply And.intro | exact (fun _ _ _ _ => Cell.le_refl _) | (intro i hi; rfl) | (intro i hi; exact absurd hi (Nat.not_lt_zero _)))⟩⟩

def sMsgTells : SpecF
  | [.agg cs, .agg ds, .c (.str s)], [.data false ty sz n get, .data false ty' sz' n' get', .data false uy tz p het, .data false uy' tz' p' het'] => some (((lawPre cs (.row 0) (.row 1) ty sz n get ty' sz' n' get' ∧ lawPre ds (.row 2) (.row 3) uy tz p het uy' tz' p' het') ∧ s.length ≤ 9223372036854775807), .c .tt, [.dead, .dead, .dead, .dead])
  | _, _ => none

set_option maxRecDepth 100000 in
set_option maxHeartbeats 32000000 in
theorem msgTellsP : Fn Try.prog 14 [] [(140, 204), (140, 204), (140, 204), (140, 204)] sMsgTells := by
  have hC : CtsOk Try.prog [(60, appPure sTrue8), (49, appFn [] [(140, 204), (140, 204)] sLightM), (61, appFn [] [(140, 204), (140, 204)] sEncM), (65, appFn [] [(140, 204), (140, 204)] sEncM), (62, appFn [] [] sDecM), (66, appFn [] [] sDecM), (50, appFn [] [(140, 204), (140, 204)] sMayM), (47, appFn [] [(140, 204), (140, 204)] sMayM), (63, appFn [] [(140, 204), (140, 204), (140, 204), (140, 204)] sSameM), (67, appFn [] [(140, 204), (140, 204), (140, 204), (140, 204)] sSameM), (64, appFn [] [(140, 204), (140, 204)] sPlainM), (68, appFn [] [(140, 204), (140, 204)] sPlainRM), (51, appFn [] [(140, 204), (140, 204)] sSizeM)] := CtsOk.cons (Pure.ct first8P) <| CtsOk.cons (Fn.ct lightMP) <| CtsOk.cons (Fn.ct encMP) <| CtsOk.cons (Fn.ct rencMP) <| CtsOk.cons (Fn.ct decMP) <| CtsOk.cons (Fn.ct rdecMP) <| CtsOk.cons (Fn.ct mayMP) <| CtsOk.cons (Fn.ct rmayMP) <| CtsOk.cons (Fn.ct sameMP) <| CtsOk.cons (Fn.ct rsameMP) <| CtsOk.cons (Fn.ct plainMP) <| CtsOk.cons (Fn.ct plainRMP) <| CtsOk.cons (Fn.ct sizeMP) <| CtsOk.nil _
  refine Fn.of (E := tbR) [] 0 [(9, [(0, true), (2, true), (1, false), (3, false), (4, true), (5, true), (6, true), (7, true), (9, true), (10, true), (8, false), (11, false), (12, true), (13, true), (14, true), (15, true), (17, true), (16, false), (18, false), (19, false), (20, true), (21, true), (22, true), (23, true), (24, true), (25, true), (26, true), (27, true), (28, true), (29, true), (30, true), (31, true), (32, true), (34, true), (35, true), (33, false), (36, true), (37, true), (38, true), (39, true), (40, true), (41, false), (42, true), (43, true), (44, true), (45, true), (46, true), (47, true), (48, true)])] tbR_ok hC (by kernel_rfl) Try.func14 rfl rfl rfl (by kernel_rfl) (by kernel_rfl) 4 5 1 ?_ ?_
  · intro args h pre r h' hs
    unfold sMsgTells at hs
    split at hs
    · cases hs; exact ⟨rfl, rfl, Nat.le_of_ble_eq_true rfl⟩
    · cases hs
  · intro args h pre r h' hs hp
    unfold sMsgTells at hs
    split at hs
    rotate_left
    · cases hs
    rename_i cs ds s ty sz n get ty' sz' n' get' uy tz p het uy' tz' p' het'
    cases hs
    obtain ⟨⟨⟨⟨hcsA, ⟨rfl, rfl, hst⟩, ⟨rfl, rfl, hst'⟩, hpk⟩, hrl, hrb, hal, hpo, hco⟩, ⟨⟨hcsB, ⟨rfl, rfl, ist⟩, ⟨rfl, rfl, ist'⟩, ipk⟩, irl, irb, ial, ipo, ico⟩⟩, hs⟩ := hp
    have k1 := leaves0 hst
    have k2 := leaves0 hst'
    have j1 := leaves0 ist
    have j2 := leaves0 ist'
    refine ⟨[.data false 140 4 n (leafG false (leafL n get)), .data false 140 4 n' (leafG false (leafL n' get')), .data false 140 4 p (leafG false (leafL p het)), .data false 140 4 p' (leafG false (leafL p' het'))], ⟨⟨rfl, rfl, rfl, rfl, fun i j hi hj => by rw [hst i j hi hj]; exact Cell.le_refl _⟩, ⟨rfl, rfl, rfl, rfl, fun i j hi hj => by rw [hst' i j hi hj]; exact Cell.le_refl _⟩, ⟨rfl, rfl, rfl, rfl, fun i j hi hj => by rw [ist i j hi hj]; exact Cell.le_refl _⟩, ⟨rfl, rfl, rfl, rfl, fun i j hi hj => by rw [ist' i j hi hj]; exact Cell.le_refl _⟩, trivial⟩, ?_⟩
    have hL : (leafL n get).length = n := leafL_len
    have hL' : (leafL n' get').length = n' := leafL_len
    have iL : (leafL p het).length = p := leafL_len
    have iL' : (leafL p' het').length = p' := leafL_len
    have e1 : (msgOf cs n get n' get').pl = leafL n get := rfl
    have e2 : (msgOf cs n get n' get').cl = leafL n' get' := rfl
    have e3 : (msgOf ds p het p' het').pl = leafL p het := rfl
    have e4 : (msgOf ds p het p' het').cl = leafL p' het' := rfl
    generalize msgOf cs n get n' get' = m at *
    generalize msgOf ds p het p' het' = q at *
    subst hcsA hcsB
    obtain ⟨k, hh, ht, hr, ⟨sp, sc, dp, dc, sq, da, th, ta⟩, ack, nx, hg, pc, pl, cc, cl⟩ := m
    obtain ⟨k', hh', ht', hr', ⟨sp', sc', dp', dc', sq', da', th', ta'⟩, ack', nx', hg', pc', pl', cc', cl'⟩ := q
    replace e1 : pl = leafL n get := e1
    replace e2 : cl = leafL n' get' := e2
    replace e3 : pl' = leafL p het := e3
    replace e4 : cl' = leafL p' het' := e4
    clear hst hst' ist ist'
    subst e1 e2 e3 e4
    generalize leafL n get = pl at *
    generalize leafL n' get' = cl at *
    generalize leafL p het = pl' at *
    generalize leafL p' het' = cl' at *
    replace hal : ack.length ≤ 9223372036854775807 := hal
    replace hrl : hr.length = 32 := hrl
    replace ial : ack'.length ≤ 9223372036854775807 := ial
    replace irl : hr'.length = 32 := irl
    unfold sTrue8 sLightM
    generalize hg0 : (List.length : List UInt8 → Nat) = g0
    try unfold leafG
    try unfold msgC
    generalize ho0 : @lK = zo0, ho1 : @lV = zo1, ho2 : @lI = zo2, ho3 : @lP = zo3, ho4 : @lN = zo4, ho5 : @pG = zo5, ho6 : @leafL = zo6, ho7 : @rN = zo7, ho8 : @plainM = zo8, ho9 : @msgPre = zo9, ho10 : @lenL = zo10, ho11 : @sameM = zo11, ho12 : @mayM = zo12, ho13 : @msgOf = zo13, ho14 : @encMsg = zo14, ho15 : @decMsg = zo15, ho16 : @lightM = zo16, ho17 : @msgPre0 = zo17, ho18 : @lawPre = zo18
    generalize hs0 : @sEncM = zs0, hs1 : @sDecM = zs1, hs2 : @sMayM = zs2, hs3 : @sSameM = zs3, hs4 : @sPlainM = zs4, hs5 : @sPlainRM = zs5, hs6 : @sSizeM = zs6
    generalize hA : Arith.std = A
    cbv
    subst hA hg0 ho0 ho1 ho2 ho3 ho4 ho5 ho6 ho7 ho8 ho9 ho10 ho11 ho12 ho13 ho14 ho15 ho16 ho17 ho18 hs0 hs1 hs2 hs3 hs4 hs5 hs6
    unfold sEncM
    generalize hg0 : (List.length : List UInt8 → Nat) = g0
    try unfold leafG
    try unfold msgC
    generalize ho0 : @lK = zo0, ho1 : @lV = zo1, ho2 : @lI = zo2, ho3 : @lP = zo3, ho4 : @lN = zo4, ho5 : @pG = zo5, ho6 : @leafL = zo6, ho7 : @rN = zo7, ho8 : @plainM = zo8, ho9 : @msgPre = zo9, ho10 : @lenL = zo10, ho11 : @sameM = zo11, ho12 : @mayM = zo12, ho13 : @msgOf = zo13, ho14 : @encMsg = zo14, ho15 : @decMsg = zo15, ho16 : @lightM = zo16, ho17 : @msgPre0 = zo17, ho18 : @lawPre = zo18
    generalize hs0 : @sDecM = zs0, hs1 : @sMayM = zs1, hs2 : @sSameM = zs2, hs3 : @sPlainM = zs3, hs4 : @sPlainRM = zs4, hs5 : @sSizeM = zs5
    generalize hA : Arith.std = A
    cbv
    subst hA hg0 ho0 ho1 ho2 ho3 ho4 ho5 ho6 ho7 ho8 ho9 ho10 ho11 ho12 ho13 ho14 ho15 ho16 ho17 ho18 hs0 hs1 hs2 hs3 hs4 hs5
    unfold sDecM
    generalize hg0 : (List.length : List UInt8 → Nat) = g0
    try unfold leafG
    try unfold msgC
    generalize ho0 : @lK = zo0, ho1 : @lV = zo1, ho2 : @lI = zo2, ho3 : @lP = zo3, ho4 : @lN = zo4, ho5 : @pG = zo5, ho6 : @leafL = zo6, ho7 : @rN = zo7, ho8 : @plainM = zo8, ho9 : @msgPre = zo9, ho10 : @lenL = zo10, ho11 : @sameM = zo11, ho12 : @mayM = zo12, ho13 : @msgOf = zo13, ho14 : @encMsg = zo14, ho15 : @decMsg = zo15, ho16 : @lightM = zo16, ho17 : @msgPre0 = zo17, ho18 : @lawPre = zo18
    generalize hs0 : @sMayM = zs0, hs1 : @sSameM = zs1, hs2 : @sPlainM = zs2, hs3 : @sPlainRM = zs3, hs4 : @sSizeM = zs4
    generalize hA : Arith.std = A
    cbv
    subst hA hg0 ho0 ho1 ho2 ho3 ho4 ho5 ho6 ho7 ho8 ho9 ho10 ho11 ho12 ho13 ho14 ho15 ho16 ho17 ho18 hs0 hs1 hs2 hs3 hs4
    unfold sMayM
    generalize hg0 : (List.length : List UInt8 → Nat) = g0
    try unfold leafG
    try unfold msgC
    generalize ho0 : @lK = zo0, ho1 : @lV = zo1, ho2 : @lI = zo2, ho3 : @lP = zo3, ho4 : @lN = zo4, ho5 : @pG = zo5, ho6 : @leafL = zo6, ho7 : @rN = zo7, ho8 : @plainM = zo8, ho9 : @msgPre = zo9, ho10 : @lenL = zo10, ho11 : @sameM = zo11, ho12 : @mayM = zo12, ho13 : @msgOf = zo13, ho14 : @encMsg = zo14, ho15 : @decMsg = zo15, ho16 : @lightM = zo16, ho17 : @msgPre0 = zo17, ho18 : @lawPre = zo18
    generalize hs0 : @sSameM = zs0, hs1 : @sPlainM = zs1, hs2 : @sPlainRM = zs2, hs3 : @sSizeM = zs3
    generalize hA : Arith.std = A
    cbv
    subst hA hg0 ho0 ho1 ho2 ho3 ho4 ho5 ho6 ho7 ho8 ho9 ho10 ho11 ho12 ho13 ho14 ho15 ho16 ho17 ho18 hs0 hs1 hs2 hs3
    unfold sSameM
    generalize hg0 : (List.length : List UInt8 → Nat) = g0
    try unfold leafG
    try unfold msgC
    generalize ho0 : @lK = zo0, ho1 : @lV = zo1, ho2 : @lI = zo2, ho3 : @lP = zo3, ho4 : @lN = zo4, ho5 : @pG = zo5, ho6 : @leafL = zo6, ho7 : @rN = zo7, ho8 : @plainM = zo8, ho9 : @msgPre = zo9, ho10 : @lenL = zo10, ho11 : @sameM = zo11, ho12 : @mayM = zo12, ho13 : @msgOf = zo13, ho14 : @encMsg = zo14, ho15 : @decMsg = zo15, ho16 : @lightM = zo16, ho17 : @msgPre0 = zo17, ho18 : @lawPre = zo18
    generalize hs0 : @sPlainM = zs0, hs1 : @sPlainRM = zs1, hs2 : @sSizeM = zs2
    generalize hA : Arith.std = A
    cbv
    subst hA hg0 ho0 ho1 ho2 ho3 ho4 ho5 ho6 ho7 ho8 ho9 ho10 ho11 ho12 ho13 ho14 ho15 ho16 ho17 ho18 hs0 hs1 hs2
    unfold sPlainM sPlainRM
    generalize hg0 : (List.length : List UInt8 → Nat) = g0
    try unfold leafG
    try unfold msgC
    generalize ho0 : @lK = zo0, ho1 : @lV = zo1, ho2 : @lI = zo2, ho3 : @lP = zo3, ho4 : @lN = zo4, ho5 : @pG = zo5, ho6 : @leafL = zo6, ho7 : @rN = zo7, ho8 : @plainM = zo8, ho9 : @msgPre = zo9, ho10 : @lenL = zo10, ho11 : @sameM = zo11, ho12 : @mayM = zo12, ho13 : @msgOf = zo13, ho14 : @encMsg = zo14, ho15 : @decMsg = zo15, ho16 : @lightM = zo16, ho17 : @msgPre0 = zo17, ho18 : @lawPre = zo18
    generalize hs0 : @sSizeM = zs0
    generalize hA : Arith.std = A
    cbv
    subst hA hg0 ho0 ho1 ho2 ho3 ho4 ho5 ho6 ho7 ho8 ho9 ho10 ho11 ho12 ho13 ho14 ho15 ho16 ho17 ho18 hs0
    unfold sSizeM
    generalize hg0 : (List.length : List UInt8 → Nat) = g0
    try unfold leafG
    try unfold msgC
    generalize ho0 : @lK = zo0, ho1 : @lV = zo1, ho2 : @lI = zo2, ho3 : @lP = zo3, ho4 : @lN = zo4, ho5 : @pG = zo5, ho6 : @leafL = zo6, ho7 : @rN = zo7, ho8 : @plainM = zo8, ho9 : @msgPre = zo9, ho10 : @lenL = zo10, ho11 : @sameM = zo11, ho12 : @mayM = zo12, ho13 : @msgOf = zo13, ho14 : @encMsg = zo14, ho15 : @decMsg = zo15, ho16 : @lightM = zo16, ho17 : @msgPre0 = zo17, ho18 : @lawPre = zo18
    generalize hA : Arith.std = A
    cbv
    subst hA hg0 ho0 ho1 ho2 ho3 ho4 ho5 ho6 ho7 ho8 ho9 ho10 ho11 ho12 ho13 ho14 ho15 ho16 ho17 ho18
    refine Need.mk trivial fun _ => ?_
    have zz := msgOf_msgC (m := ⟨k, hh, ht, hr, ⟨sp, sc, dp, dc, sq, da, th, ta⟩, ack, nx, hg, pc, pl, cc, cl⟩) (a := .row 0) (b := .row 1) hrl k1 k2
    simp only [msgC, msgCP, h32, pkC, List.cons_append, List.nil_append] at zz
    have yy := msgOf_msgC (m := ⟨k', hh', ht', hr', ⟨sp', sc', dp', dc', sq', da', th', ta'⟩, ack', nx', hg', pc', pl', cc', cl'⟩) (a := .row 0) (b := .row 1) irl j1 j2
    simp only [msgC, msgCP, h32, pkC, List.cons_append, List.nil_append] at yy
    refine Need.mk ⟨by rw [zz]; rfl, leavesAt0_of k1, leavesAt0_of k2, by rw [zz]; exact hpk⟩ fun _ => ?_
    rw [zz]
    refine Ife.mk (fun hl => ?_) (fun hl => ?_)
    · refine Need.mk trivial fun _ => ?_
      exact ⟨[0, 1, 2, 3], ⟨rfl, by repeat' (first | exact trivial | exact rfl | apply And.intro | exact (fun _ _ _ _ => Cell.le_refl _) | (intro i hi; rfl) | (intro i hi; exact absurd hi (Nat.not_lt_zero _))), by decide, rfl, by repeat' (first | exact trivial | exact rfl | apply And.intro | exact (fun _ _ _ _ => Cell.le_refl _) | (intro i hi; rfl) | (intro i hi; exact absurd hi (Nat.not_lt_zero _)))⟩⟩
    replace hl : (!lightM ⟨k, hh, ht, hr, ⟨sp, sc, dp, dc, sq, da, th, ta⟩, ack, nx, hg, pc, pl, cc, cl⟩) = false := hl
    rw [Bool.not_eq_false'] at hl
    have hok0 := light_ok hl hpk hrl hrb hpo hco
    refine Need.mk ⟨by rw [yy]; rfl, leavesAt0_of j1, leavesAt0_of j2, by rw [yy]; exact ipk⟩ fun _ => ?_
    rw [yy]
    refine Ife.mk (fun hl2 => ?_) (fun hl2 => ?_)
    · refine Need.mk trivial fun _ => ?_
      exact ⟨[0, 1, 2, 3], ⟨rfl, by repeat' (first | exact trivial | exact rfl | apply And.intro | exact (fun _ _ _ _ => Cell.le_refl _) | (intro i hi; rfl) | (intro i hi; exact absurd hi (Nat.not_lt_zero _))), by decide, rfl, by repeat' (first | exact trivial | exact rfl | apply And.intro | exact (fun _ _ _ _ => Cell.le_refl _) | (intro i hi; rfl) | (intro i hi; exact absurd hi (Nat.not_lt_zero _)))⟩⟩
    replace hl2 : (!lightM ⟨k', hh', ht', hr', ⟨sp', sc', dp', dc', sq', da', th', ta'⟩, ack', nx', hg', pc', pl', cc', cl'⟩) = false := hl2
    rw [Bool.not_eq_false'] at hl2
    have ok2 := light_ok hl2 ipk irl irb ipo ico
    refine Ife.mk (fun h => ?_) (fun h => ?_)
    · refine Need.mk trivial fun _ => ?_
      exact ⟨[0, 1, 2, 3], ⟨rfl, by repeat' (first | exact trivial | exact rfl | apply And.intro | exact (fun _ _ _ _ => Cell.le_refl _) | (intro i hi; rfl) | (intro i hi; exact absurd hi (Nat.not_lt_zero _))), by decide, rfl, by repeat' (first | exact trivial | exact rfl | apply And.intro | exact (fun _ _ _ _ => Cell.le_refl _) | (intro i hi; rfl) | (intro i hi; exact absurd hi (Nat.not_lt_zero _)))⟩⟩
    replace h : ¬ (4000 : Int) < (s.length : Int) := of_decide_eq_false (p := (4000 : Int) < (s.length : Int)) h
    have hs' : s.length ≤ 4000 := by omega
    have pm := msgPre_n (m := ⟨k, hh, ht, hr, ⟨sp, sc, dp, dc, sq, da, th, ta⟩, ack, nx, hg, pc, pl, cc, cl⟩) (a := .row 0) (b := .row 1) (fr := false) (fr' := false) hok0 hL hL'
    refine Need.mk pm fun _ => Need.mk pm fun _ => ?_
    have hsl : s.length ≤ 140737488351232 := by omega
    refine Need.mk hsl fun _ => Need.mk hsl fun _ => ?_
    refine Need.mk pm fun _ => Need.mk pm fun _ => ?_
    refine Ife.yes (by first | exact decide_eq_true rfl | exact beq_self_eq_true _) ?_
    refine Need.mk ⟨pm, msgPre_n (m := ⟨k', hh', ht', hr', ⟨sp', sc', dp', dc', sq', da', th', ta'⟩, ack', nx', hg', pc', pl', cc', cl'⟩) (a := .row 2) (b := .row 3) (fr := false) (fr' := false) ok2 iL iL'⟩ fun _ => ?_
    refine Need.mk ⟨pm, msgPre_n (m := ⟨k', hh', ht', hr', ⟨sp', sc', dp', dc', sq', da', th', ta'⟩, ack', nx', hg', pc', pl', cc', cl'⟩) (a := .row 2) (b := .row 3) (fr := false) (fr' := false) ok2 iL iL'⟩ fun _ => ?_
    refine Ife.yes (by first | exact decide_eq_true rfl | exact beq_self_eq_true _) ?_
    refine Need.mk pm fun _ => Need.mk pm fun _ => ?_
    have hq0 := plain_ok hok0
    generalize hQ : plainM ⟨k, hh, ht, hr, ⟨sp, sc, dp, dc, sq, da, th, ta⟩, ack, nx, hg, pc, pl, cc, cl⟩ = Q at hq0 ⊢
    refine Need.mk ⟨msgPre_n (m := Q) (a := .row 0) (b := .row 1) (n := lenL Q.pl) (n' := lenL Q.cl) (fr := true) (fr' := true) hq0 rfl rfl, msgPre_n (m := Q) (a := .row 2) (b := .row 3) (n := lenL Q.pl) (n' := lenL Q.cl) (fr := false) (fr' := false) hq0 rfl rfl⟩ fun _ => ?_
    refine Ife.yes ((congr (congrArg sameM (msgOf_n (m := Q) (a := .row 0) (b := .row 1) (n := lenL Q.pl) (n' := lenL Q.cl) (fr := true) (fr' := true) hq0 rfl rfl)) (msgOf_n (m := Q) (a := .row 2) (b := .row 3) (n := lenL Q.pl) (n' := lenL Q.cl) (fr := false) (fr' := false) hq0 rfl rfl)).trans (sameM_self Q)) ?_
    refine Ife.yes (by first | exact decide_eq_true rfl | exact beq_self_eq_true _) ?_
    refine Ife.yes (by first | exact decide_eq_true rfl | exact beq_self_eq_true _) ?_
    refine Need.mk pm fun _ => ?_
    refine Ife.yes (by first | exact decide_eq_true rfl | exact beq_self_eq_true _) ?_
    have hD := decMsg_ok s
    generalize decMsg s = D at hD ⊢
    obtain ⟨D, e⟩ := D
    dsimp only at hD ⊢
    refine Need.mk ⟨msgPre_n (m := D) (a := .row 0) (b := .row 1) (n := lenL D.pl) (n' := lenL D.cl) (fr := true) (fr' := true) hD rfl rfl, msgPre_n (m := D) (a := .row 2) (b := .row 3) (n := lenL D.pl) (n' := lenL D.cl) (fr := true) (fr' := true) hD rfl rfl⟩ fun _ => ?_
    refine Ife.yes ((congr (congrArg sameM (msgOf_n (m := D) (a := .row 0) (b := .row 1) (n := lenL D.pl) (n' := lenL D.cl) (fr := true) (fr' := true) hD rfl rfl)) (msgOf_n (m := D) (a := .row 2) (b := .row 3) (n := lenL D.pl) (n' := lenL D.cl) (fr := true) (fr' := true) hD rfl rfl)).trans (sameM_self D)) ?_
    exact ⟨[0, 1, 2, 3], ⟨rfl, by repeat' (first | exact trivial | exact (decide_eq_true rfl) | exact (congrArg CV.bool (decide_eq_true rfl)) | exact (congrArg (fun b => SV.c (CV.bool b)) (decide_eq_true rfl)) | exact rfl | apply And.intro | exact (fun _ _ _ _ => Cell.le_refl _) | (intro i hi; rfl) | (intro i hi; exact absurd hi (Nat.not_lt_zero _))), by decide, rfl, by repeat' (first | exact trivial | exact rfl | apply And.intro | exact (fun _ _ _ _ => Cell.le_refl _) | (intro i hi; rfl) | (intro i hi; exact absurd hi (Nat.not_lt_zero _)))⟩⟩

end Go.Proofs.Ytcgoaicifjndpaa.Vx
namespace Go.Proofs.Ytcgoaicifjndpaa
open Go.RowKit
set_option linter.unusedVariables false
theorem msgTellsWalk (w : World) (l : List Value) (m : Vx.PMsg) (hm : MsgIn w l m) (l2 : List Value) (m2 : Vx.PMsg) (hm2 : MsgIn w l2 m2) (s : ByteArray) (hs : s.size ≤ maxLen) :
    Calls Try.prog 14 #[.agg l.toArray, .agg l2.toArray, .string s] w fun e w' => e = .returned (.bool true) ∧ Below w.heap.size w w' := by
  obtain ⟨b, rfl, hl⟩ := bytesOf s hs
  obtain ⟨q, hq, r1⟩ := Vx.Rel.addLeaves (Vx.Rel.refl w) hm.pl
  obtain ⟨q', hq', r2⟩ := Vx.Rel.addLeaves r1 hm.cl
  obtain ⟨p, hp, r3⟩ := Vx.Rel.addLeaves r2 hm2.pl
  obtain ⟨p', hp', r4⟩ := Vx.Rel.addLeaves r3 hm2.cl
  have d : Vx.CV.den [q, q', p, p'] (.row 0) = some hm.v := Vx.leaves_den hm.pl hq
  have d' : Vx.CV.den [q, q', p, p'] (.row 1) = some hm.v' := Vx.leaves_den hm.cl hq'
  have c : Vx.CV.den [q, q', p, p'] (.row 2) = some hm2.v := Vx.leaves_den hm2.pl hp
  have c' : Vx.CV.den [q, q', p, p'] (.row 3) = some hm2.v' := Vx.leaves_den hm2.cl hp'
  refine Calls.mono (Vx.msgTellsP.run [.agg (Vx.msgC m (.row 0) (.row 1)), .agg (Vx.msgC m2 (.row 2) (.row 3)), .c (.str b)] [.data false 140 4 m.pl.length (Vx.leafG false m.pl), .data false 140 4 m.cl.length (Vx.leafG false m.cl), .data false 140 4 m2.pl.length (Vx.leafG false m2.pl), .data false 140 4 m2.cl.length (Vx.leafG false m2.cl)] _ _ _ rfl ⟨⟨(Vx.msgIn_preAt hm) _ _, (Vx.msgIn_preAt hm2) _ _⟩, hl⟩ [q, q', p, p'] w _ r4 ⟨_, _, rfl, ⟨l, hm.is d d', rfl⟩, _, _, rfl, ⟨l2, hm2.is c c', rfl⟩, _, _, rfl, rfl, rfl⟩) fun e W' he => ?_
  obtain ⟨u, ρ', rfl, hu, hr⟩ := he
  obtain rfl : .bool true = u := Option.some.inj hu
  exact ⟨rfl, Vx.Rel.toBelow hr⟩
end Go.Proofs.Ytcgoaicifjndpaa
end
