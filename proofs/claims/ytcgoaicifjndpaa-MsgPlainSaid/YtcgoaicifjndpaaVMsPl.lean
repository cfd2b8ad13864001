/- The law MsgPlain, by the walker. -/
import Derived.Test.YtcgoaicifjndpaaM22
import Derived.Test.YtcgoaicifjndpaaM24
namespace Go.Proofs.Ytcgoaicifjndpaa.Vx
open Go.RowKit
set_option linter.unusedVariables false
set_option linter.unusedSimpArgs false
/-- A message that comes in. -/
def lawPre (cs : List CV) (a b : CV) (ty sz n : Nat) (get : Nat → Nat → Cell) (ty' sz' n' : Nat) (get' : Nat → Nat → Cell) : Prop :=
  msgPre0 cs a b ty sz n get ty' sz' n' get' ∧ (msgOf cs n get n' get').hr.length = 32 ∧ (∀ b ∈ (msgOf cs n get n' get').hr, 0 ≤ b ∧ b < 256) ∧ (msgOf cs n get n' get').ack.length ≤ 9223372036854775807 ∧
    (∀ y ∈ (msgOf cs n get n' get').pl, ∀ h ∈ y.p, h.length = 32 ∧ ∀ b ∈ h, 0 ≤ b ∧ b < 256) ∧ (∀ y ∈ (msgOf cs n get n' get').cl, ∀ h ∈ y.p, h.length = 32 ∧ ∀ b ∈ h, 0 ≤ b ∧ b < 256)
theorem lightL_ok {L : List PLeaf} (h : lightL L = true) (hr : ∀ y ∈ L, ∀ h ∈ y.p, h.length = 32 ∧ ∀ b ∈ h, 0 ≤ b ∧ b < 256) : (∀ x ∈ L, x.ok) ∧ L.length ≤ 5 := by
  simp only [lightL, Bool.and_eq_true, decide_eq_true_iff] at h
  refine ⟨fun x hx => ?_, h.1⟩
  obtain ⟨i, hi, rfl⟩ := List.getElem_of_mem hx
  have hm := lightAt_iff.1 (List.all_eq_true.1 h.2 i (List.mem_range.2 hi))
  have e : L.getD i .none = L[i] := by simp [List.getD, hi]
  unfold lK lV lN lP at hm
  rw [e] at hm
  exact ⟨by omega, by omega, by omega, hr _ hx⟩
theorem light_ok {m : PMsg} (h : lightM m = true) (hf : m.pk.fits) (h1 : m.hr.length = 32) (h2 : ∀ b ∈ m.hr, 0 ≤ b ∧ b < 256) (po : ∀ y ∈ m.pl, ∀ h ∈ y.p, h.length = 32 ∧ ∀ b ∈ h, 0 ≤ b ∧ b < 256) (co : ∀ y ∈ m.cl, ∀ h ∈ y.p, h.length = 32 ∧ ∀ b ∈ h, 0 ≤ b ∧ b < 256) : MsgOk m := by
  simp only [lightM, Bool.and_eq_true, decide_eq_true_iff] at h
  obtain ⟨a1, a2⟩ := lightL_ok h.2.2.1 po
  obtain ⟨b1, b2⟩ := lightL_ok h.2.2.2 co
  exact ⟨⟨hf, by omega, h1, h2⟩, a1, b1, by omega, by omega⟩
theorem plain_kind (m : PMsg) : (plainM m).kind = m.kind := by
  unfold plainM
  repeat' split
  all_goals rfl
theorem plain_idem (m : PMsg) : plainM (plainM m) = plainM m := by
  by_cases h1 : m.kind = 1
  · simp [plainM, h1]
  by_cases h2 : m.kind = 2
  · simp [plainM, h2]
  by_cases h3 : m.kind = 3
  · simp [plainM, h3]
  by_cases h4 : m.kind = 4
  · simp [plainM, h4]
  by_cases h5 : m.kind = 5
  · simp [plainM, h5]
  simp [plainM, h1, h2, h3, h4, h5]
theorem may_plain {m : PMsg} (h : mayM m = true) : m = plainM m := by
  simp only [mayM, Bool.and_eq_true] at h
  exact of_decide_eq_true h.2.1
theorem plain_ack {m : PMsg} (h : ¬ m.kind = 3) : (plainM m).ack = [] := by
  unfold plainM
  repeat' split
  all_goals first | rfl | contradiction
theorem sameM_upd (Q : PMsg) (s : List UInt8) (v : Int) : sameM Q ⟨Q.kind, Q.hh, Q.ht, Q.hr, Q.pk, s, v, Q.height, Q.pc, Q.pl, Q.cc, Q.cl⟩ = (decide (Q.ack = s) && decide (Q.next = v)) := by
  obtain ⟨k, hh, ht, hr, pk, ack, nx, hg, pc, pl, cc, cl⟩ := Q
  unfold sameM
  rw [Bool.eq_iff_iff]
  simp
theorem sameM_self (m : PMsg) : sameM m m = true := decide_eq_true rfl
theorem leafOf_eq0 {fr : Bool} {l : List PLeaf} {i : Nat} (hi : i < l.length) (hok : ∀ x ∈ l, ∀ h ∈ x.p, h.length = 32) : leafOf (leafG fr l i) = l[i] := by
  have e : l.getD i .none = l[i] := by simp [List.getD, hi]
  have hx := hok l[i] (List.getElem_mem hi)
  have ep : cHs (leafG fr l i 3) = l[i].p := by
    show (List.range (lN l i)).map (fun j => (pG (lP l i) j).map vInt) = _
    unfold lN lP
    rw [e]
    apply List.ext_getElem?
    intro j
    rw [List.getElem?_map]
    by_cases hj : j < l[i].p.length
    · rw [List.getElem?_range hj, List.getElem?_eq_getElem hj, Option.map_some]
      congr 1
      unfold pG
      rw [show l[i].p.getD j [] = l[i].p[j] by simp [List.getD, hj]]
      exact pG_vInt (hx _ (List.getElem_mem hj))
    · rw [List.getElem?_eq_none (by simp; omega), List.getElem?_eq_none (by omega)]; rfl
  unfold leafOf
  rw [ep]
  show PLeaf.mk (lK l i) (lV l i) (lI l i) _ = _
  unfold lK lV lI
  rw [e]
theorem leafL_eq0 {n : Nat} {get : Nat → Nat → Cell} {fr : Bool} {l : List PLeaf} (hn : l.length = n) (hok : ∀ x ∈ l, ∀ h ∈ x.p, h.length = 32) (h : ∀ i j, i < n → j < 4 → get i j = leafG fr l i j) : leafL n get = l := by
  apply List.ext_getElem (by simp [leafL, hn])
  intro i h1 h2
  have : leafOf (get i) = leafOf (leafG fr l i) := by
    unfold leafOf
    rw [h i 0 (by omega) (by omega), h i 1 (by omega) (by omega), h i 2 (by omega) (by omega), h i 3 (by omega) (by omega)]
  simp only [leafL, List.getElem_map, List.getElem_range, this]
  exact leafOf_eq0 h2 hok
theorem leaves_den {w : World} {L : List PLeaf} {v : Value} {ρ : List Pl} {k : Nat} {q : Pl} (hs : (Cell.ns false 140 4 L.length (leafG false L)).shows w (fun _ b => b < w.heap.size) v) (hq : q.v = v) (hk : ρ[k]? = some q := by rfl) : CV.den ρ (.row k) = some v := by
  obtain ⟨a, cap, h1, -⟩ := hs
  simp only [CV.den, hk]
  rw [hq, h1]
  rfl
theorem msgIn_pre {w : World} {l : List Value} {m : PMsg} (h : MsgIn w l m) : lawPre (msgC m (.row 0) (.row 1)) (.row 0) (.row 1) 140 4 m.pl.length (leafG false m.pl) 140 4 m.cl.length (leafG false m.cl) := by
  have e1 : leafL m.pl.length (leafG false m.pl) = m.pl := leafL_eq0 (fr := false) rfl (fun x hx y hy => (h.pok x hx y hy).1) fun _ _ _ _ => rfl
  have e2 : leafL m.cl.length (leafG false m.cl) = m.cl := leafL_eq0 (fr := false) rfl (fun x hx y hy => (h.cok x hx y hy).1) fun _ _ _ _ => rfl
  have e := msgOf_msgC (m := m) (a := .row 0) (b := .row 1) h.len e1 e2
  unfold lawPre msgPre0
  rw [e]
  exact ⟨⟨rfl, ⟨rfl, rfl, fun i j _ _ => by rw [e1]⟩, ⟨rfl, rfl, fun i j _ _ => by rw [e2]⟩, h.fits⟩, h.len, h.by', h.ack, h.pok, h.cok⟩
def sMsgPlain : SpecF
  | [.agg cs, .c (.str s), .c (.int .i64 v)], [.data false ty sz n get, .data false ty' sz' n' get'] => some (lawPre cs (.row 0) (.row 1) ty sz n get ty' sz' n' get' ∧ s.length ≤ 9223372036854775807, .c .tt, [.dead, .dead])
  | _, _ => none

set_option maxRecDepth 100000 in
set_option maxHeartbeats 16000000 in
theorem msgPlainP : Fn Try.prog 13 [] [(140, 204), (140, 204)] sMsgPlain := by
  have hC : CtsOk Try.prog [(60, appPure sTrue8), (49, appFn [] [(140, 204), (140, 204)] sLightM), (64, appFn [] [(140, 204), (140, 204)] sPlainM), (63, appFn [] [(140, 204), (140, 204), (140, 204), (140, 204)] sSameM), (50, appFn [] [(140, 204), (140, 204)] sMayM)] := CtsOk.cons (Pure.ct first8P) <| CtsOk.cons (Fn.ct lightMP) <| CtsOk.cons (Fn.ct plainMP) <| CtsOk.cons (Fn.ct sameMP) <| CtsOk.cons (Fn.ct mayMP) <| CtsOk.nil _
  refine Fn.of (E := tbR) [] 0 [(8, [(0, true), (1, true), (2, false), (3, false), (4, true), (5, true), (6, true), (7, false), (8, true), (9, true), (10, true), (11, false), (12, true), (13, true), (14, true), (15, true), (16, true), (17, true), (19, true), (20, true), (21, true), (22, true), (18, false), (23, true), (24, true), (25, true), (26, true), (27, true), (28, true), (29, true), (30, true)])] tbR_ok hC (by kernel_rfl) Try.func13 rfl rfl rfl (by kernel_rfl) (by kernel_rfl) 2 5 1 ?_ ?_
  · intro args h pre r h' hs
    unfold sMsgPlain at hs
    split at hs
    · cases hs; exact ⟨rfl, rfl, Nat.le_of_ble_eq_true rfl⟩
    · cases hs
  · intro args h pre r h' hs hp
    unfold sMsgPlain at hs
    split at hs
    rotate_left
    · cases hs
    rename_i cs s v ty sz n get ty' sz' n' get'
    cases hs
    obtain ⟨⟨⟨hcs, ⟨rfl, rfl, hst⟩, ⟨rfl, rfl, hst'⟩, hpk⟩, hrl, hrb, hal, hpo, hco⟩, hs⟩ := hp
    have k1 := leaves0 hst
    have k2 := leaves0 hst'
    refine ⟨[.data false 140 4 n (leafG false (leafL n get)), .data false 140 4 n' (leafG false (leafL n' get'))], ⟨⟨rfl, rfl, rfl, rfl, fun i j hi hj => by rw [hst i j hi hj]; exact Cell.le_refl _⟩, ⟨rfl, rfl, rfl, rfl, fun i j hi hj => by rw [hst' i j hi hj]; exact Cell.le_refl _⟩, trivial⟩, ?_⟩
    have hL : (leafL n get).length = n := leafL_len
    have hL' : (leafL n' get').length = n' := leafL_len
    have e1 : (msgOf cs n get n' get').pl = leafL n get := rfl
    have e2 : (msgOf cs n get n' get').cl = leafL n' get' := rfl
    generalize msgOf cs n get n' get' = m at *
    subst hcs
    obtain ⟨k, hh, ht, hr, ⟨sp, sc, dp, dc, sq, da, th, ta⟩, ack, nx, hg, pc, pl, cc, cl⟩ := m
    replace e1 : pl = leafL n get := e1
    replace e2 : cl = leafL n' get' := e2
    clear hst hst'
    subst e1 e2
    generalize leafL n get = pl at *
    generalize leafL n' get' = cl at *
    replace hal : ack.length ≤ 9223372036854775807 := hal
    replace hrl : hr.length = 32 := hrl
    unfold sTrue8 sLightM
    generalize hg0 : (List.length : List UInt8 → Nat) = g0
    try unfold leafG
    try unfold msgC
    generalize ho0 : @lK = zo0, ho1 : @lV = zo1, ho2 : @lI = zo2, ho3 : @lP = zo3, ho4 : @lN = zo4, ho5 : @pG = zo5, ho6 : @leafL = zo6, ho7 : @rN = zo7, ho8 : @plainM = zo8, ho9 : @msgPre = zo9, ho10 : @lenL = zo10, ho11 : @sameM = zo11, ho12 : @mayM = zo12, ho13 : @msgOf = zo13, ho14 : @lightM = zo14, ho15 : @msgPre0 = zo15, ho16 : @lawPre = zo16
    generalize hs0 : @sPlainM = zs0, hs1 : @sSameM = zs1, hs2 : @sMayM = zs2
    generalize hA : Arith.std = A
    cbv
    subst hA hg0 ho0 ho1 ho2 ho3 ho4 ho5 ho6 ho7 ho8 ho9 ho10 ho11 ho12 ho13 ho14 ho15 ho16 hs0 hs1 hs2
    unfold sPlainM
    generalize hg0 : (List.length : List UInt8 → Nat) = g0
    try unfold leafG
    try unfold msgC
    generalize ho0 : @lK = zo0, ho1 : @lV = zo1, ho2 : @lI = zo2, ho3 : @lP = zo3, ho4 : @lN = zo4, ho5 : @pG = zo5, ho6 : @leafL = zo6, ho7 : @rN = zo7, ho8 : @plainM = zo8, ho9 : @msgPre = zo9, ho10 : @lenL = zo10, ho11 : @sameM = zo11, ho12 : @mayM = zo12, ho13 : @msgOf = zo13, ho14 : @lightM = zo14, ho15 : @msgPre0 = zo15, ho16 : @lawPre = zo16
    generalize hs0 : @sSameM = zs0, hs1 : @sMayM = zs1
    generalize hA : Arith.std = A
    cbv
    subst hA hg0 ho0 ho1 ho2 ho3 ho4 ho5 ho6 ho7 ho8 ho9 ho10 ho11 ho12 ho13 ho14 ho15 ho16 hs0 hs1
    unfold sSameM
    generalize hg0 : (List.length : List UInt8 → Nat) = g0
    try unfold leafG
    try unfold msgC
    generalize ho0 : @lK = zo0, ho1 : @lV = zo1, ho2 : @lI = zo2, ho3 : @lP = zo3, ho4 : @lN = zo4, ho5 : @pG = zo5, ho6 : @leafL = zo6, ho7 : @rN = zo7, ho8 : @plainM = zo8, ho9 : @msgPre = zo9, ho10 : @lenL = zo10, ho11 : @sameM = zo11, ho12 : @mayM = zo12, ho13 : @msgOf = zo13, ho14 : @lightM = zo14, ho15 : @msgPre0 = zo15, ho16 : @lawPre = zo16
    generalize hs0 : @sMayM = zs0
    generalize hA : Arith.std = A
    cbv
    subst hA hg0 ho0 ho1 ho2 ho3 ho4 ho5 ho6 ho7 ho8 ho9 ho10 ho11 ho12 ho13 ho14 ho15 ho16 hs0
    unfold sMayM
    generalize hg0 : (List.length : List UInt8 → Nat) = g0
    try unfold leafG
    try unfold msgC
    generalize ho0 : @lK = zo0, ho1 : @lV = zo1, ho2 : @lI = zo2, ho3 : @lP = zo3, ho4 : @lN = zo4, ho5 : @pG = zo5, ho6 : @leafL = zo6, ho7 : @rN = zo7, ho8 : @plainM = zo8, ho9 : @msgPre = zo9, ho10 : @lenL = zo10, ho11 : @sameM = zo11, ho12 : @mayM = zo12, ho13 : @msgOf = zo13, ho14 : @lightM = zo14, ho15 : @msgPre0 = zo15, ho16 : @lawPre = zo16
    generalize hA : Arith.std = A
    cbv
    subst hA hg0 ho0 ho1 ho2 ho3 ho4 ho5 ho6 ho7 ho8 ho9 ho10 ho11 ho12 ho13 ho14 ho15 ho16
    refine Need.mk trivial fun _ => ?_
    have zz := msgOf_msgC (m := ⟨k, hh, ht, hr, ⟨sp, sc, dp, dc, sq, da, th, ta⟩, ack, nx, hg, pc, pl, cc, cl⟩) (a := .row 0) (b := .row 1) hrl k1 k2
    simp only [msgC, msgCP, h32, pkC, List.cons_append, List.nil_append] at zz
    refine Need.mk ⟨by rw [zz]; rfl, leavesAt0_of k1, leavesAt0_of k2, by rw [zz]; exact hpk⟩ fun _ => ?_
    rw [zz]
    refine Ife.mk (fun hl => ?_) (fun hl => ?_)
    · refine Need.mk trivial fun _ => ?_
      exact ⟨[0, 1], ⟨rfl, by repeat' (first | exact trivial | exact rfl | apply And.intro | exact (fun _ _ _ _ => Cell.le_refl _) | (intro i hi; rfl) | (intro i hi; exact absurd hi (Nat.not_lt_zero _))), by decide, rfl, by repeat' (first | exact trivial | exact rfl | apply And.intro | exact (fun _ _ _ _ => Cell.le_refl _) | (intro i hi; rfl) | (intro i hi; exact absurd hi (Nat.not_lt_zero _)))⟩⟩
    replace hl : (!lightM ⟨k, hh, ht, hr, ⟨sp, sc, dp, dc, sq, da, th, ta⟩, ack, nx, hg, pc, pl, cc, cl⟩) = false := hl
    rw [Bool.not_eq_false'] at hl
    have hok0 := light_ok hl hpk hrl hrb hpo hco
    refine Ife.mk (fun h => ?_) (fun h => ?_)
    · refine Need.mk trivial fun _ => ?_
      exact ⟨[0, 1], ⟨rfl, by repeat' (first | exact trivial | exact rfl | apply And.intro | exact (fun _ _ _ _ => Cell.le_refl _) | (intro i hi; rfl) | (intro i hi; exact absurd hi (Nat.not_lt_zero _))), by decide, rfl, by repeat' (first | exact trivial | exact rfl | apply And.intro | exact (fun _ _ _ _ => Cell.le_refl _) | (intro i hi; rfl) | (intro i hi; exact absurd hi (Nat.not_lt_zero _)))⟩⟩
    replace h : ¬ (100 : Int) < (s.length : Int) := of_decide_eq_false (p := (100 : Int) < (s.length : Int)) h
    have hs' : s.length ≤ 1000000000 := by omega
    refine Need.mk (msgPre_n (m := ⟨k, hh, ht, hr, ⟨sp, sc, dp, dc, sq, da, th, ta⟩, ack, nx, hg, pc, pl, cc, cl⟩) hok0 hL hL') fun _ => ?_
    have hq0 := plain_ok hok0
    have hmp : mayM ⟨k, hh, ht, hr, ⟨sp, sc, dp, dc, sq, da, th, ta⟩, ack, nx, hg, pc, pl, cc, cl⟩ = true → ⟨k, hh, ht, hr, ⟨sp, sc, dp, dc, sq, da, th, ta⟩, ack, nx, hg, pc, pl, cc, cl⟩ = plainM ⟨k, hh, ht, hr, ⟨sp, sc, dp, dc, sq, da, th, ta⟩, ack, nx, hg, pc, pl, cc, cl⟩ := may_plain
    have hk := plain_kind ⟨k, hh, ht, hr, ⟨sp, sc, dp, dc, sq, da, th, ta⟩, ack, nx, hg, pc, pl, cc, cl⟩
    have hi := plain_idem ⟨k, hh, ht, hr, ⟨sp, sc, dp, dc, sq, da, th, ta⟩, ack, nx, hg, pc, pl, cc, cl⟩
    have hak := plain_ack (m := ⟨k, hh, ht, hr, ⟨sp, sc, dp, dc, sq, da, th, ta⟩, ack, nx, hg, pc, pl, cc, cl⟩)
    generalize plainM ⟨k, hh, ht, hr, ⟨sp, sc, dp, dc, sq, da, th, ta⟩, ack, nx, hg, pc, pl, cc, cl⟩ = Q at *
    refine Need.mk (msgPre_n (m := Q) hq0 rfl rfl) fun _ => ?_
    have z2 := msgOf_n (m := Q) (a := .row 0) (b := .row 1) (n := lenL Q.pl) (n' := lenL Q.cl) (fr := true) (fr' := true) hq0 rfl rfl
    simp only [msgC, msgCP, h32, pkC, List.cons_append, List.nil_append] at z2
    rw [z2, hi]
    refine Need.mk ⟨msgPre_n (m := Q) hq0 rfl rfl, msgPre_n (m := Q) hq0 rfl rfl⟩ fun _ => ?_
    have z3 := msgOf_n (m := Q) (a := .row 2) (b := .row 3) (n := lenL Q.pl) (n' := lenL Q.cl) (fr := true) (fr' := true) hq0 rfl rfl
    simp only [msgC, msgCP, h32, pkC, List.cons_append, List.nil_append] at z3
    rw [z3]
    refine Ife.mk (fun hb => ?_) (fun _ => ?_)
    · replace hb : (!sameM Q Q) = true := hb
      rw [sameM_self] at hb
      cases hb
    have hR : MsgOk (⟨Q.kind, Q.hh, Q.ht, Q.hr, Q.pk, s, v, Q.height, Q.pc, Q.pl, Q.cc, Q.cl⟩ : PMsg) := ⟨⟨hq0.fit.pk, hs', hq0.fit.len, hq0.fit.by'⟩, hq0.po, hq0.co, hq0.pn, hq0.cn⟩
    have z4 := msgOf_n (m := (⟨Q.kind, Q.hh, Q.ht, Q.hr, Q.pk, s, v, Q.height, Q.pc, Q.pl, Q.cc, Q.cl⟩ : PMsg)) (a := .row 2) (b := .row 3) (n := lenL Q.pl) (n' := lenL Q.cl) (fr := true) (fr' := true) hR rfl rfl
    simp only [msgC, msgCP, h32, pkC, List.cons_append, List.nil_append] at z4
    have z5 := msgOf_n (m := (⟨Q.kind, Q.hh, Q.ht, Q.hr, Q.pk, s, v, Q.height, Q.pc, Q.pl, Q.cc, Q.cl⟩ : PMsg)) (a := .row 0) (b := .row 1) (n := lenL Q.pl) (n' := lenL Q.cl) (fr := true) (fr' := true) hR rfl rfl
    simp only [msgC, msgCP, h32, pkC, List.cons_append, List.nil_append] at z5
    refine Need.mk (msgPre_n (m := ⟨k, hh, ht, hr, ⟨sp, sc, dp, dc, sq, da, th, ta⟩, ack, nx, hg, pc, pl, cc, cl⟩) hok0 hL hL') fun _ => ?_
    refine Ife.mk (fun hm => ?_) (fun hm => ?_)
    · have hsq : sameM ⟨k, hh, ht, hr, ⟨sp, sc, dp, dc, sq, da, th, ta⟩, ack, nx, hg, pc, pl, cc, cl⟩ Q = true := decide_eq_true (hmp hm)
      refine Need.mk ⟨msgPre_n (m := ⟨k, hh, ht, hr, ⟨sp, sc, dp, dc, sq, da, th, ta⟩, ack, nx, hg, pc, pl, cc, cl⟩) hok0 hL hL', msgPre_n (m := Q) (a := .row 2) (b := .row 3) hq0 rfl rfl⟩ fun _ => ?_
      refine Ife.mk (fun hb => ?_) (fun _ => ?_)
      · replace hb : (!sameM ⟨k, hh, ht, hr, ⟨sp, sc, dp, dc, sq, da, th, ta⟩, ack, nx, hg, pc, pl, cc, cl⟩ Q) = true := hb
        rw [hsq] at hb
        cases hb
      refine Need.mk ⟨msgPre_n (m := Q) hq0 rfl rfl, msgPre_n (m := (⟨Q.kind, Q.hh, Q.ht, Q.hr, Q.pk, s, v, Q.height, Q.pc, Q.pl, Q.cc, Q.cl⟩ : PMsg)) (a := .row 2) (b := .row 3) hR rfl rfl⟩ fun _ => ?_
      rw [z4]
      have hu := sameM_upd Q s v
      generalize sameM Q (⟨Q.kind, Q.hh, Q.ht, Q.hr, Q.pk, s, v, Q.height, Q.pc, Q.pl, Q.cc, Q.cl⟩ : PMsg) = B at *
      have hend : ∀ {p : Prop}, (mayM (⟨Q.kind, Q.hh, Q.ht, Q.hr, Q.pk, s, v, Q.height, Q.pc, Q.pl, Q.cc, Q.cl⟩ : PMsg) = false → p) → (k = 3 → p) → (s = [] → p) → p := fun {p} h1 h2 h3 => by
        by_cases hk3 : k = 3
        · exact h2 hk3
        by_cases hs0 : s = []
        · exact h3 hs0
        refine h1 (Bool.eq_false_iff.2 fun hc => ?_)
        have hx := may_plain hc
        have hy := plain_ack (m := (⟨Q.kind, Q.hh, Q.ht, Q.hr, Q.pk, s, v, Q.height, Q.pc, Q.pl, Q.cc, Q.cl⟩ : PMsg)) (fun e => hk3 (hk.symm.trans e))
        rw [← hx] at hy
        exact hs0 hy
      refine Ife.mk (fun ha => ?_) (fun ha => ?_)
      · replace ha : Q.ack = s := of_decide_eq_true (p := Q.ack = s) ha
        rw [decide_eq_true ha, Bool.true_and] at hu
        refine Ife.mk (fun hb => ?_) (fun _ => ?_)
        · replace hb : (!(B == decide (Q.next = v))) = true := hb
          rw [hu] at hb
          simp at hb
        refine Ife.mk (fun h3 => ?_) (fun h3 => ?_)
        · exact ⟨[0, 1], ⟨rfl, by repeat' (first | exact trivial | exact rfl | apply And.intro | exact (fun _ _ _ _ => Cell.le_refl _) | (intro i hi; rfl) | (intro i hi; exact absurd hi (Nat.not_lt_zero _))), by decide, rfl, by repeat' (first | exact trivial | exact rfl | apply And.intro | exact (fun _ _ _ _ => Cell.le_refl _) | (intro i hi; rfl) | (intro i hi; exact absurd hi (Nat.not_lt_zero _)))⟩⟩
        replace h3 : ¬ k = 3 := of_decide_eq_false (p := k = 3) h3
        refine Ife.mk (fun h4 => ?_) (fun h4 => ?_)
        · exact ⟨[0, 1], ⟨rfl, by repeat' (first | exact trivial | exact rfl | apply And.intro | exact (fun _ _ _ _ => Cell.le_refl _) | (intro i hi; rfl) | (intro i hi; exact absurd hi (Nat.not_lt_zero _))), by decide, rfl, by repeat' (first | exact trivial | exact rfl | apply And.intro | exact (fun _ _ _ _ => Cell.le_refl _) | (intro i hi; rfl) | (intro i hi; exact absurd hi (Nat.not_lt_zero _)))⟩⟩
        replace h4 : ¬ s = [] := of_decide_eq_false (p := s = []) h4
        refine Need.mk (msgPre_n (m := (⟨Q.kind, Q.hh, Q.ht, Q.hr, Q.pk, s, v, Q.height, Q.pc, Q.pl, Q.cc, Q.cl⟩ : PMsg)) hR rfl rfl) fun _ => ?_
        rw [z5]
        rw [show mayM (⟨Q.kind, Q.hh, Q.ht, Q.hr, Q.pk, s, v, Q.height, Q.pc, Q.pl, Q.cc, Q.cl⟩ : PMsg) = false from hend id (fun e => absurd e h3) (fun e => absurd e h4)]
        exact ⟨[0, 1], ⟨rfl, by repeat' (first | exact trivial | exact rfl | apply And.intro | exact (fun _ _ _ _ => Cell.le_refl _) | (intro i hi; rfl) | (intro i hi; exact absurd hi (Nat.not_lt_zero _))), by decide, rfl, by repeat' (first | exact trivial | exact rfl | apply And.intro | exact (fun _ _ _ _ => Cell.le_refl _) | (intro i hi; rfl) | (intro i hi; exact absurd hi (Nat.not_lt_zero _)))⟩⟩
      · replace ha : ¬ Q.ack = s := of_decide_eq_false (p := Q.ack = s) ha
        rw [decide_eq_false ha, Bool.false_and] at hu
        refine Ife.mk (fun hb => ?_) (fun _ => ?_)
        · replace hb : (!(!B)) = true := hb
          rw [hu] at hb
          cases hb
        refine Ife.mk (fun h3 => ?_) (fun h3 => ?_)
        · exact ⟨[0, 1], ⟨rfl, by repeat' (first | exact trivial | exact rfl | apply And.intro | exact (fun _ _ _ _ => Cell.le_refl _) | (intro i hi; rfl) | (intro i hi; exact absurd hi (Nat.not_lt_zero _))), by decide, rfl, by repeat' (first | exact trivial | exact rfl | apply And.intro | exact (fun _ _ _ _ => Cell.le_refl _) | (intro i hi; rfl) | (intro i hi; exact absurd hi (Nat.not_lt_zero _)))⟩⟩
        replace h3 : ¬ k = 3 := of_decide_eq_false (p := k = 3) h3
        refine Ife.mk (fun h4 => ?_) (fun h4 => ?_)
        · exact ⟨[0, 1], ⟨rfl, by repeat' (first | exact trivial | exact rfl | apply And.intro | exact (fun _ _ _ _ => Cell.le_refl _) | (intro i hi; rfl) | (intro i hi; exact absurd hi (Nat.not_lt_zero _))), by decide, rfl, by repeat' (first | exact trivial | exact rfl | apply And.intro | exact (fun _ _ _ _ => Cell.le_refl _) | (intro i hi; rfl) | (intro i hi; exact absurd hi (Nat.not_lt_zero _)))⟩⟩
        replace h4 : ¬ s = [] := of_decide_eq_false (p := s = []) h4
        refine Need.mk (msgPre_n (m := (⟨Q.kind, Q.hh, Q.ht, Q.hr, Q.pk, s, v, Q.height, Q.pc, Q.pl, Q.cc, Q.cl⟩ : PMsg)) hR rfl rfl) fun _ => ?_
        rw [z5]
        rw [show mayM (⟨Q.kind, Q.hh, Q.ht, Q.hr, Q.pk, s, v, Q.height, Q.pc, Q.pl, Q.cc, Q.cl⟩ : PMsg) = false from hend id (fun e => absurd e h3) (fun e => absurd e h4)]
        exact ⟨[0, 1], ⟨rfl, by repeat' (first | exact trivial | exact rfl | apply And.intro | exact (fun _ _ _ _ => Cell.le_refl _) | (intro i hi; rfl) | (intro i hi; exact absurd hi (Nat.not_lt_zero _))), by decide, rfl, by repeat' (first | exact trivial | exact rfl | apply And.intro | exact (fun _ _ _ _ => Cell.le_refl _) | (intro i hi; rfl) | (intro i hi; exact absurd hi (Nat.not_lt_zero _)))⟩⟩
    refine Need.mk ⟨msgPre_n (m := Q) hq0 rfl rfl, msgPre_n (m := (⟨Q.kind, Q.hh, Q.ht, Q.hr, Q.pk, s, v, Q.height, Q.pc, Q.pl, Q.cc, Q.cl⟩ : PMsg)) (a := .row 2) (b := .row 3) hR rfl rfl⟩ fun _ => ?_
    rw [z4]
    have hu := sameM_upd Q s v
    generalize sameM Q (⟨Q.kind, Q.hh, Q.ht, Q.hr, Q.pk, s, v, Q.height, Q.pc, Q.pl, Q.cc, Q.cl⟩ : PMsg) = B at *
    have hend : ∀ {p : Prop}, (mayM (⟨Q.kind, Q.hh, Q.ht, Q.hr, Q.pk, s, v, Q.height, Q.pc, Q.pl, Q.cc, Q.cl⟩ : PMsg) = false → p) → (k = 3 → p) → (s = [] → p) → p := fun {p} h1 h2 h3 => by
      by_cases hk3 : k = 3
      · exact h2 hk3
      by_cases hs0 : s = []
      · exact h3 hs0
      refine h1 (Bool.eq_false_iff.2 fun hc => ?_)
      have hx := may_plain hc
      have hy := plain_ack (m := (⟨Q.kind, Q.hh, Q.ht, Q.hr, Q.pk, s, v, Q.height, Q.pc, Q.pl, Q.cc, Q.cl⟩ : PMsg)) (fun e => hk3 (hk.symm.trans e))
      rw [← hx] at hy
      exact hs0 hy
    refine Ife.mk (fun ha => ?_) (fun ha => ?_)
    · replace ha : Q.ack = s := of_decide_eq_true (p := Q.ack = s) ha
      rw [decide_eq_true ha, Bool.true_and] at hu
      refine Ife.mk (fun hb => ?_) (fun _ => ?_)
      · replace hb : (!(B == decide (Q.next = v))) = true := hb
        rw [hu] at hb
        simp at hb
      refine Ife.mk (fun h3 => ?_) (fun h3 => ?_)
      · exact ⟨[0, 1], ⟨rfl, by repeat' (first | exact trivial | exact rfl | apply And.intro | exact (fun _ _ _ _ => Cell.le_refl _) | (intro i hi; rfl) | (intro i hi; exact absurd hi (Nat.not_lt_zero _))), by decide, rfl, by repeat' (first | exact trivial | exact rfl | apply And.intro | exact (fun _ _ _ _ => Cell.le_refl _) | (intro i hi; rfl) | (intro i hi; exact absurd hi (Nat.not_lt_zero _)))⟩⟩
      replace h3 : ¬ k = 3 := of_decide_eq_false (p := k = 3) h3
      refine Ife.mk (fun h4 => ?_) (fun h4 => ?_)
      · exact ⟨[0, 1], ⟨rfl, by repeat' (first | exact trivial | exact rfl | apply And.intro | exact (fun _ _ _ _ => Cell.le_refl _) | (intro i hi; rfl) | (intro i hi; exact absurd hi (Nat.not_lt_zero _))), by decide, rfl, by repeat' (first | exact trivial | exact rfl | apply And.intro | exact (fun _ _ _ _ => Cell.le_refl _) | (intro i hi; rfl) | (intro i hi; exact absurd hi (Nat.not_lt_zero _)))⟩⟩
      replace h4 : ¬ s = [] := of_decide_eq_false (p := s = []) h4
      refine Need.mk (msgPre_n (m := (⟨Q.kind, Q.hh, Q.ht, Q.hr, Q.pk, s, v, Q.height, Q.pc, Q.pl, Q.cc, Q.cl⟩ : PMsg)) hR rfl rfl) fun _ => ?_
      rw [z5]
      rw [show mayM (⟨Q.kind, Q.hh, Q.ht, Q.hr, Q.pk, s, v, Q.height, Q.pc, Q.pl, Q.cc, Q.cl⟩ : PMsg) = false from hend id (fun e => absurd e h3) (fun e => absurd e h4)]
      exact ⟨[0, 1], ⟨rfl, by repeat' (first | exact trivial | exact rfl | apply And.intro | exact (fun _ _ _ _ => Cell.le_refl _) | (intro i hi; rfl) | (intro i hi; exact absurd hi (Nat.not_lt_zero _))), by decide, rfl, by repeat' (first | exact trivial | exact rfl | apply And.intro | exact (fun _ _ _ _ => Cell.le_refl _) | (intro i hi; rfl) | (intro i hi; exact absurd hi (Nat.not_lt_zero _)))⟩⟩
    · replace ha : ¬ Q.ack = s := of_decide_eq_false (p := Q.ack = s) ha
      rw [decide_eq_false ha, Bool.false_and] at hu
      refine Ife.mk (fun hb => ?_) (fun _ => ?_)
      · replace hb : (!(!B)) = true := hb
        rw [hu] at hb
        cases hb
      refine Ife.mk (fun h3 => ?_) (fun h3 => ?_)
      · exact ⟨[0, 1], ⟨rfl, by repeat' (first | exact trivial | exact rfl | apply And.intro | exact (fun _ _ _ _ => Cell.le_refl _) | (intro i hi; rfl) | (intro i hi; exact absurd hi (Nat.not_lt_zero _))), by decide, rfl, by repeat' (first | exact trivial | exact rfl | apply And.intro | exact (fun _ _ _ _ => Cell.le_refl _) | (intro i hi; rfl) | (intro i hi; exact absurd hi (Nat.not_lt_zero _)))⟩⟩
      replace h3 : ¬ k = 3 := of_decide_eq_false (p := k = 3) h3
      refine Ife.mk (fun h4 => ?_) (fun h4 => ?_)
      · exact ⟨[0, 1], ⟨rfl, by repeat' (first | exact trivial | exact rfl | apply And.intro | exact (fun _ _ _ _ => Cell.le_refl _) | (intro i hi; rfl) | (intro i hi; exact absurd hi (Nat.not_lt_zero _))), by decide, rfl, by repeat' (first | exact trivial | exact rfl | apply And.intro | exact (fun _ _ _ _ => Cell.le_refl _) | (intro i hi; rfl) | (intro i hi; exact absurd hi (Nat.not_lt_zero _)))⟩⟩
      replace h4 : ¬ s = [] := of_decide_eq_false (p := s = []) h4
      refine Need.mk (msgPre_n (m := (⟨Q.kind, Q.hh, Q.ht, Q.hr, Q.pk, s, v, Q.height, Q.pc, Q.pl, Q.cc, Q.cl⟩ : PMsg)) hR rfl rfl) fun _ => ?_
      rw [z5]
      rw [show mayM (⟨Q.kind, Q.hh, Q.ht, Q.hr, Q.pk, s, v, Q.height, Q.pc, Q.pl, Q.cc, Q.cl⟩ : PMsg) = false from hend id (fun e => absurd e h3) (fun e => absurd e h4)]
      exact ⟨[0, 1], ⟨rfl, by repeat' (first | exact trivial | exact rfl | apply And.intro | exact (fun _ _ _ _ => Cell.le_refl _) | (intro i hi; rfl) | (intro i hi; exact absurd hi (Nat.not_lt_zero _))), by decide, rfl, by repeat' (first | exact trivial | exact rfl | apply And.intro | exact (fun _ _ _ _ => Cell.le_refl _) | (intro i hi; rfl) | (intro i hi; exact absurd hi (Nat.not_lt_zero _)))⟩⟩

end Go.Proofs.Ytcgoaicifjndpaa.Vx
namespace Go.Proofs.Ytcgoaicifjndpaa
open Go.RowKit
set_option linter.unusedVariables false
theorem msgPlainWalk (w : World) (l : List Value) (m : Vx.PMsg) (hm : MsgIn w l m) (s : ByteArray) (hs : s.size ≤ maxLen) (v : Int) (_hv : -9223372036854775808 ≤ v ∧ v ≤ 9223372036854775807) :
    Calls Try.prog 13 #[.agg l.toArray, .string s, .int .i64 v] w fun e w' => e = .returned (.bool true) ∧ Below w.heap.size w w' := by
  obtain ⟨b, rfl, hl⟩ := bytesOf s hs
  obtain ⟨q, hq, r1⟩ := Vx.Rel.addLeaves (Vx.Rel.refl w) hm.pl
  obtain ⟨q', hq', r2⟩ := Vx.Rel.addLeaves r1 hm.cl
  have d : Vx.CV.den [q, q'] (.row 0) = some hm.v := Vx.leaves_den hm.pl hq
  have d' : Vx.CV.den [q, q'] (.row 1) = some hm.v' := Vx.leaves_den hm.cl hq'
  refine Calls.mono (Vx.msgPlainP.run [.agg (Vx.msgC m (.row 0) (.row 1)), .c (.str b), .c (.int .i64 v)] [.data false 140 4 m.pl.length (Vx.leafG false m.pl), .data false 140 4 m.cl.length (Vx.leafG false m.cl)] _ _ _ rfl ⟨(Vx.msgIn_pre hm), hl⟩ [q, q'] w _ r2 ⟨_, _, rfl, ⟨l, hm.is d d', rfl⟩, _, _, rfl, rfl, _, _, rfl, rfl, rfl⟩) fun e W' he => ?_
  obtain ⟨u, ρ', rfl, hu, hr⟩ := he
  obtain rfl : .bool true = u := Option.some.inj hu
  exact ⟨rfl, Vx.Rel.toBelow hr⟩
end Go.Proofs.Ytcgoaicifjndpaa
