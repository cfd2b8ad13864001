/- The law MsgPlain, by the walker. -/
import Derived.Test.YtcgoaicifjndpaaM31
import Derived.Test.YtcgoaicifjndpaaM33
section
namespace Go.Proofs.Ytcgoaicifjndpaa.Vx
open Go.RowKit
set_option linter.unusedVariables false
set_option linter.unusedSimpArgs false
/-- A message that comes in. -/
def lawPre (cs : List CV) (a b : CV) (ty sz n : Nat) (get : Nat → Nat → Cell) (ty' sz' n' : Nat) (get' : Nat → Nat → Cell) : Prop :=
  msgPre0 cs a b ty sz n get ty' sz' n' get' ∧ (msgOf cs n get n' get').hr.length = 32 ∧ (∀ b ∈ (msgOf cs n get n' get').hr, 0 ≤ b ∧ b < 256) ∧ (msgOf cs n get n' get').ack.length ≤ 9223372036854775807 ∧
    (∀ y ∈ (msgOf cs n get n' get').pl, ∀ h ∈ y.p, h.length = 32 ∧ ∀ b ∈ h, 0 ≤ b ∧ b < 256) ∧ (∀ y ∈ (msgOf cs n get n' get').cl, ∀ h ∈ y.p, h.length = 32 ∧ ∀ b ∈ h, 0 ≤ b ∧ b < 256)
theorem lightL_ok {L : List PLeaf} (h : lightL L = true) (hr : ∀ y ∈ L, ∀ h ∈ y.p, h.length = 32 ∧ ∀ b ∈ h, 0 ≤ b ∧ b < 256) : (∀ x ∈ L, x.ok) ∧ L.length ≤ 5 := by
  simp only [lightL, Bool.and_eq_true, decide_eq_true_iff] at h
  refine ⟨fun x hx => ?_, h.1⟩
  obtain ⟨i, hi, rfl⟩ := List.getElem_of_mem hx
  have hm := lightAt_iff.1 (List.all_eq_true.1 h.2 i (List.mem_range.2 hi))
  have e : L.getD i .none = L[i] := by simp [List.getD, hi]
  unfold lK lV lN lP at hm
  rw [e] at hm
  exact ⟨by omega, by omega, by omega, hr _ hx⟩
theorem light_ok {m : PMsg} (h : lightM m = true) (hf : m.pk.fits) (h1 : m.hr.length = 32) (h2 : ∀ b ∈ m.hr, 0 ≤ b ∧ b < 256) (po : ∀ y ∈ m.pl, ∀ h ∈ y.p, h.length = 32 ∧ ∀ b ∈ h, 0 ≤ b ∧ b < 256) (co : ∀ y ∈ m.cl, ∀ h ∈ y.p, h.length = 32 ∧ ∀ b ∈ h, 0 ≤ b ∧ b < 256) : MsgOk m := by
  simp only [lightM, Bool.and_eq_true, decide_eq_true_iff] at h
  obtain ⟨a1, a2⟩ := lightL_ok h.2.2.1 po
  obtain ⟨b1, b2⟩ := lightL_ok h.2.2.2 co
  exact ⟨⟨hf, by omega, h1, h2⟩, a1, b1, by omega, by omega⟩
theorem sameM_self (m : PMsg) : sameM m m = true := decide_eq_true rfl
theorem leafOf_eq0 {fr : Bool} {l : List PLeaf} {i : Nat} (hi : i < l.length) (hok : ∀ x ∈ l, ∀ h ∈ x.p, h.length = 32) : leafOf (leafG fr l i) = l[i] := by
  have e : l.getD i .none = l[i] := by simp [List.getD, hi]
  have hx := hok l[i] (List.getElem_mem hi)
  have ep : cHs (leafG fr l i 3) = l[i].p := by
    show (List.range (lN l i)).map (fun j => (pG (lP l i) j).map vInt) = _
    unfold lN lP
    rw [e]
    apply List.ext_getElem?
    intro j
    rw [List.getElem?_map]
    by_cases hj : j < l[i].p.length
    · rw [List.getElem?_range hj, List.getElem?_eq_getElem hj, Option.map_some]
      congr 1
      unfold pG
      rw [show l[i].p.getD j [] = l[i].p[j] by simp [List.getD, hj]]
      exact pG_vInt (hx _ (List.getElem_mem hj))
    · rw [List.getElem?_eq_none (by simp; omega), List.getElem?_eq_none (by omega)]; rfl
  unfold leafOf
  rw [ep]
  show PLeaf.mk (lK l i) (lV l i) (lI l i) _ = _
  unfold lK lV lI
  rw [e]
theorem leafL_eq0 {n : Nat} {get : Nat → Nat → Cell} {fr : Bool} {l : List PLeaf} (hn : l.length = n) (hok : ∀ x ∈ l, ∀ h ∈ x.p, h.length = 32) (h : ∀ i j, i < n → j < 4 → get i j = leafG fr l i j) : leafL n get = l := by
  apply List.ext_getElem (by simp [leafL, hn])
  intro i h1 h2
  have : leafOf (get i) = leafOf (leafG fr l i) := by
    unfold leafOf
    rw [h i 0 (by omega) (by omega), h i 1 (by omega) (by omega), h i 2 (by omega) (by omega), h i 3 (by omega) (by omega)]
  simp only [leafL, List.getElem_map, List.getElem_range, this]
  exact leafOf_eq0 h2 hok
theorem leaves_den {w : World} {L : List PLeaf} {v : Value} {ρ : List Pl} {k : Nat} {q : Pl} (hs : (Cell.ns false 140 4 L.length (leafG false L)).shows w (fun _ b => b < w.heap.size) v) (hq : q.v = v) (hk : ρ[k]? = some q := by rfl) : CV.den ρ (.row k) = some v := by
  obtain ⟨a, cap, h1, -⟩ := hs
  simp only [CV.den, hk]
  rw [hq, h1]
  rfl
theorem msgIn_pre {w : World} {l : List Value} {m : PMsg} (h : MsgIn w l m) : lawPre (msgC m (.row 0) (.row 1)) (.row 0) (.row 1) 140 4 m.pl.length (leafG false m.pl) 140 4 m.cl.length (leafG false m.cl) := by
  have e1 : leafL m.pl.length (leafG false m.pl) = m.pl := leafL_eq0 (fr := false) rfl (fun x hx y hy => (h.pok x hx y hy).1) fun _ _ _ _ => rfl
  have e2 : leafL m.cl.length (leafG false m.cl) = m.cl := leafL_eq0 (fr := false) rfl (fun x hx y hy => (h.cok x hx y hy).1) fun _ _ _ _ => rfl
  have e := msgOf_msgC (m := m) (a := .row 0) (b := .row 1) h.len e1 e2
  unfold lawPre msgPre0
  rw [e]
  exact ⟨⟨rfl, ⟨rfl, rfl, fun i j _ _ => by rw [e1]⟩, ⟨rfl, rfl, fun i j _ _ => by rw [e2]⟩, h.fits⟩, h.len, h.by', h.ack, h.pok, h.cok⟩


end Go.Proofs.Ytcgoaicifjndpaa.Vx
namespace Go.Proofs.Ytcgoaicifjndpaa
open Go.RowKit
set_option linter.unusedVariables false
end Go.Proofs.Ytcgoaicifjndpaa
end

section
/- The law MsgBack, by the walker. -/
namespace Go.Proofs.Ytcgoaicifjndpaa.Vx
open Go.RowKit
set_option linter.unusedVariables false
set_option linter.unusedSimpArgs false
theorem msgB_len {m : PMsg} (h : msgV m) : (msgB m).length ≤ 90000000 := by
  have e := wMsg_ok h []
  have hw : (wMsg m ([], false)).1.length ≤ 90000000 := by
    obtain ⟨k, hh, ht, hr, pk, ack, nx, hg, pc, pl, cc, cl⟩ := m
    have hok := msgV_ok h
    obtain ⟨hk, h1, h2, h3, h4, h5, h6, h7⟩ := h
    replace hk : 1 ≤ k ∧ k ≤ 5 := hk
    unfold wMsg
    dsimp only
    by_cases k1 : k = 1
    · rw [if_pos k1]
      have a1 := wN_len k ([], false)
      have a2 := wN_len hh (wN k ([], false))
      have a3 := wN_len ht (wN hh (wN k ([], false)))
      have a4 := wH_len (h := hr) (wN ht (wN hh (wN k ([], false))))
      have a5 : hr.length = 32 := hok.fit.len
      dsimp only [List.length_nil] at a1
      omega
    · rw [if_neg k1]
      have v2 : pkV pk := by
        replace h2 : (if decide (k ≠ 1) = true then pkV pk else pk = noPkt) := h2
        rwa [if_pos (decide_eq_true k1)] at h2
      have v6 : proofV (pc, pl) := by
        replace h6 : (if decide (k ≠ 1) = true then proofV (pc, pl) else (pc, pl) = (0, [])) := h6
        rwa [if_pos (decide_eq_true k1)] at h6
      have a1 := wN_len k ([], false)
      have a2 := wPk_len0 v2 (wN k ([], false))
      have v3 : ack.length ≤ 32 ∨ ¬ k = 3 := by
        by_cases k3 : k = 3
        · replace h3 : (if decide (k = 3) = true then (ack.length : Int) ≤ 32 else ack = []) := h3
          rw [if_pos (decide_eq_true k3)] at h3
          exact Or.inl (by omega)
        · exact Or.inr k3
      have a3 := wT_len ack (wPk pk (wN k ([], false)))
      obtain ⟨sb, hb⟩ : ∃ sb, sb = (if k = 3 then wT ack (wPk pk (wN k ([], false))) else wPk pk (wN k ([], false))) := ⟨_, rfl⟩
      have b1 : sb.1.length ≤ 1000 := by
        rw [hb]
        dsimp only [List.length_nil] at a1
        split <;> omega
      rw [← hb]
      have a4 := wN_len nx sb
      obtain ⟨sc, hc⟩ : ∃ sc, sc = (if nextB k = true then wN nx sb else sb) := ⟨_, rfl⟩
      have b2 : sc.1.length ≤ 1009 := by
        rw [hc]
        split <;> omega
      rw [← hc]
      have a5 := wN_len hg sc
      have f6 : PrFit pc pl (wN hg sc).1 := proofV_fit v6 (by omega)
      have a6 := wProof_len (s := wN hg sc) f6
      split
      · rename_i k5
        have v7 : proofV (cc, cl) := by
          replace h7 : (if decide (k = 5) = true then proofV (cc, cl) else (cc, cl) = (0, [])) := h7
          rwa [if_pos (decide_eq_true k5)] at h7
        have f7 : PrFit cc cl (wProof pc pl (wN hg sc)).1 := proofV_fit v7 (by omega)
        have a7 := wProof_len (s := wProof pc pl (wN hg sc)) f7
        omega
      · omega
  rw [e] at hw
  simpa using hw
/-- The zero message, as a call has it. -/
theorem zero_of {g g' : Nat → Nat → Cell} {a b : CV} : msgOf (msgC zeroMsg a b) 0 g 0 g' = zeroMsg := msgOf_msgC (m := zeroMsg) rfl rfl rfl
theorem zero_pre {g g' : Nat → Nat → Cell} {a b : CV} : msgPre (msgC zeroMsg a b) a b 140 4 0 g 140 4 0 g' :=
  ⟨by rw [zero_of], ⟨rfl, rfl, fun i j hi => absurd hi (Nat.not_lt_zero _), fun x hx => absurd hx (by simp [leafL]), by decide⟩, ⟨rfl, rfl, fun i j hi => absurd hi (Nat.not_lt_zero _), fun x hx => absurd hx (by simp [leafL]), by decide⟩, by rw [zero_of]; exact zeroMsg_ok.fit⟩
theorem zero_of23 {g g' : Nat → Nat → Cell} : msgOf [.int .i64 0, .int .i64 0, .int .i64 0, .int .u8 0, .int .u8 0, .int .u8 0, .int .u8 0, .int .u8 0, .int .u8 0, .int .u8 0, .int .u8 0, .int .u8 0, .int .u8 0, .int .u8 0, .int .u8 0, .int .u8 0, .int .u8 0, .int .u8 0, .int .u8 0, .int .u8 0, .int .u8 0, .int .u8 0, .int .u8 0, .int .u8 0, .int .u8 0, .int .u8 0, .int .u8 0, .int .u8 0, .int .u8 0, .int .u8 0, .int .u8 0, .int .u8 0, .int .u8 0, .int .u8 0, .int .u8 0, .str [], .int .i64 0, .str [], .int .i64 0, .int .i64 0, .str [], .int .i64 0, .int .i64 0, .str [], .int .i64 0, .int .i64 0, .int .i64 0, .row 2, .int .i64 0, .row 3] 0 g 0 g' = zeroMsg := zero_of (a := .row 2) (b := .row 3)
def sMsgBack : SpecF
  | [.agg cs, .c (.str s)], [.data false ty sz n get, .data false ty' sz' n' get'] => some (lawPre cs (.row 0) (.row 1) ty sz n get ty' sz' n' get' ∧ s.length ≤ 9223372036854775807, .c .tt, [.dead, .dead])
  | _, _ => none

set_option maxRecDepth 100000 in
set_option maxHeartbeats 16000000 in
theorem msgBackP : Fn Try.prog 12 [] [(140, 204), (140, 204)] sMsgBack := by
  have hC : CtsOk Try.prog [(60, appPure sTrue8), (49, appFn [] [(140, 204), (140, 204)] sLightM), (61, appFn [] [(140, 204), (140, 204)] sEncM), (50, appFn [] [(140, 204), (140, 204)] sMayM), (62, appFn [] [] sDecM), (63, appFn [] [(140, 204), (140, 204), (140, 204), (140, 204)] sSameM)] := CtsOk.cons (Pure.ct first8P) <| CtsOk.cons (Fn.ct lightMP) <| CtsOk.cons (Fn.ct encMP) <| CtsOk.cons (Fn.ct mayMP) <| CtsOk.cons (Fn.ct decMP) <| CtsOk.cons (Fn.ct sameMP) <| CtsOk.nil _
  refine Fn.of (E := tbR) [] 0 [] tbR_ok hC (by kernel_rfl) Try.func12 rfl rfl rfl (by kernel_rfl) (by kernel_rfl) 2 5 1 ?_ ?_
  · intro args h pre r h' hs
    unfold sMsgBack at hs
    split at hs
    · cases hs; exact ⟨rfl, rfl, Nat.le_of_ble_eq_true rfl⟩
    · cases hs
  · intro args h pre r h' hs hp
    unfold sMsgBack at hs
    split at hs
    rotate_left
    · cases hs
    rename_i cs s ty sz n get ty' sz' n' get'
    cases hs
    obtain ⟨⟨⟨hcs, ⟨rfl, rfl, hst⟩, ⟨rfl, rfl, hst'⟩, hpk⟩, hrl, hrb, hal, hpo, hco⟩, hs⟩ := hp
    have k1 := leaves0 hst
    have k2 := leaves0 hst'
    refine ⟨[.data false 140 4 n (leafG false (leafL n get)), .data false 140 4 n' (leafG false (leafL n' get'))], ⟨⟨rfl, rfl, rfl, rfl, fun i j hi hj => by rw [hst i j hi hj]; exact Cell.le_refl _⟩, ⟨rfl, rfl, rfl, rfl, fun i j hi hj => by rw [hst' i j hi hj]; exact Cell.le_refl _⟩, trivial⟩, ?_⟩
    have hL : (leafL n get).length = n := leafL_len
    have hL' : (leafL n' get').length = n' := leafL_len
    have e1 : (msgOf cs n get n' get').pl = leafL n get := rfl
    have e2 : (msgOf cs n get n' get').cl = leafL n' get' := rfl
    generalize msgOf cs n get n' get' = m at *
    subst hcs
    obtain ⟨k, hh, ht, hr, ⟨sp, sc, dp, dc, sq, da, th, ta⟩, ack, nx, hg, pc, pl, cc, cl⟩ := m
    replace e1 : pl = leafL n get := e1
    replace e2 : cl = leafL n' get' := e2
    clear hst hst'
    subst e1 e2
    generalize leafL n get = pl at *
    generalize leafL n' get' = cl at *
    replace hal : ack.length ≤ 9223372036854775807 := hal
    replace hrl : hr.length = 32 := hrl
    unfold sTrue8 sLightM
    generalize hg0 : (List.length : List UInt8 → Nat) = g0
    try unfold leafG
    try unfold msgC
    generalize ho0 : @lK = zo0, ho1 : @lV = zo1, ho2 : @lI = zo2, ho3 : @lP = zo3, ho4 : @lN = zo4, ho5 : @pG = zo5, ho6 : @leafL = zo6, ho7 : @rN = zo7, ho8 : @msgPre = zo8, ho9 : @lenL = zo9, ho10 : @sameM = zo10, ho11 : @mayM = zo11, ho12 : @msgOf = zo12, ho13 : @msgB = zo13, ho14 : @encMsg = zo14, ho15 : @decMsg = zo15, ho16 : @lightM = zo16, ho17 : @msgPre0 = zo17, ho18 : @lawPre = zo18
    generalize hs0 : @sEncM = zs0, hs1 : @sMayM = zs1, hs2 : @sDecM = zs2, hs3 : @sSameM = zs3
    generalize hA : Arith.std = A
    cbv
    subst hA hg0 ho0 ho1 ho2 ho3 ho4 ho5 ho6 ho7 ho8 ho9 ho10 ho11 ho12 ho13 ho14 ho15 ho16 ho17 ho18 hs0 hs1 hs2 hs3
    unfold sEncM
    generalize hg0 : (List.length : List UInt8 → Nat) = g0
    try unfold leafG
    try unfold msgC
    generalize ho0 : @lK = zo0, ho1 : @lV = zo1, ho2 : @lI = zo2, ho3 : @lP = zo3, ho4 : @lN = zo4, ho5 : @pG = zo5, ho6 : @leafL = zo6, ho7 : @rN = zo7, ho8 : @msgPre = zo8, ho9 : @lenL = zo9, ho10 : @sameM = zo10, ho11 : @mayM = zo11, ho12 : @msgOf = zo12, ho13 : @msgB = zo13, ho14 : @encMsg = zo14, ho15 : @decMsg = zo15, ho16 : @lightM = zo16, ho17 : @msgPre0 = zo17, ho18 : @lawPre = zo18
    generalize hs0 : @sMayM = zs0, hs1 : @sDecM = zs1, hs2 : @sSameM = zs2
    generalize hA : Arith.std = A
    cbv
    subst hA hg0 ho0 ho1 ho2 ho3 ho4 ho5 ho6 ho7 ho8 ho9 ho10 ho11 ho12 ho13 ho14 ho15 ho16 ho17 ho18 hs0 hs1 hs2
    unfold sMayM
    generalize hg0 : (List.length : List UInt8 → Nat) = g0
    try unfold leafG
    try unfold msgC
    generalize ho0 : @lK = zo0, ho1 : @lV = zo1, ho2 : @lI = zo2, ho3 : @lP = zo3, ho4 : @lN = zo4, ho5 : @pG = zo5, ho6 : @leafL = zo6, ho7 : @rN = zo7, ho8 : @msgPre = zo8, ho9 : @lenL = zo9, ho10 : @sameM = zo10, ho11 : @mayM = zo11, ho12 : @msgOf = zo12, ho13 : @msgB = zo13, ho14 : @encMsg = zo14, ho15 : @decMsg = zo15, ho16 : @lightM = zo16, ho17 : @msgPre0 = zo17, ho18 : @lawPre = zo18
    generalize hs0 : @sDecM = zs0, hs1 : @sSameM = zs1
    generalize hA : Arith.std = A
    cbv
    subst hA hg0 ho0 ho1 ho2 ho3 ho4 ho5 ho6 ho7 ho8 ho9 ho10 ho11 ho12 ho13 ho14 ho15 ho16 ho17 ho18 hs0 hs1
    unfold sDecM
    generalize hg0 : (List.length : List UInt8 → Nat) = g0
    try unfold leafG
    try unfold msgC
    generalize ho0 : @lK = zo0, ho1 : @lV = zo1, ho2 : @lI = zo2, ho3 : @lP = zo3, ho4 : @lN = zo4, ho5 : @pG = zo5, ho6 : @leafL = zo6, ho7 : @rN = zo7, ho8 : @msgPre = zo8, ho9 : @lenL = zo9, ho10 : @sameM = zo10, ho11 : @mayM = zo11, ho12 : @msgOf = zo12, ho13 : @msgB = zo13, ho14 : @encMsg = zo14, ho15 : @decMsg = zo15, ho16 : @lightM = zo16, ho17 : @msgPre0 = zo17, ho18 : @lawPre = zo18
    generalize hs0 : @sSameM = zs0
    generalize hA : Arith.std = A
    cbv
    subst hA hg0 ho0 ho1 ho2 ho3 ho4 ho5 ho6 ho7 ho8 ho9 ho10 ho11 ho12 ho13 ho14 ho15 ho16 ho17 ho18 hs0
    unfold sSameM
    generalize hg0 : (List.length : List UInt8 → Nat) = g0
    try unfold leafG
    try unfold msgC
    generalize ho0 : @lK = zo0, ho1 : @lV = zo1, ho2 : @lI = zo2, ho3 : @lP = zo3, ho4 : @lN = zo4, ho5 : @pG = zo5, ho6 : @leafL = zo6, ho7 : @rN = zo7, ho8 : @msgPre = zo8, ho9 : @lenL = zo9, ho10 : @sameM = zo10, ho11 : @mayM = zo11, ho12 : @msgOf = zo12, ho13 : @msgB = zo13, ho14 : @encMsg = zo14, ho15 : @decMsg = zo15, ho16 : @lightM = zo16, ho17 : @msgPre0 = zo17, ho18 : @lawPre = zo18
    generalize hA : Arith.std = A
    cbv
    subst hA hg0 ho0 ho1 ho2 ho3 ho4 ho5 ho6 ho7 ho8 ho9 ho10 ho11 ho12 ho13 ho14 ho15 ho16 ho17 ho18
    refine Need.mk trivial fun _ => ?_
    have zz := msgOf_msgC (m := ⟨k, hh, ht, hr, ⟨sp, sc, dp, dc, sq, da, th, ta⟩, ack, nx, hg, pc, pl, cc, cl⟩) (a := .row 0) (b := .row 1) hrl k1 k2
    simp only [msgC, msgCP, h32, pkC, List.cons_append, List.nil_append] at zz
    refine Need.mk ⟨by rw [zz]; rfl, leavesAt0_of k1, leavesAt0_of k2, by rw [zz]; exact hpk⟩ fun _ => ?_
    rw [zz]
    refine Ife.mk (fun hl => ?_) (fun hl => ?_)
    · refine Need.mk trivial fun _ => ?_
      exact ⟨[0, 1], ⟨rfl, by repeat' (first | exact trivial | exact rfl | apply And.intro | exact (fun _ _ _ _ => Cell.le_refl _) | (intro i hi; rfl) | (intro i hi; exact absurd hi (Nat.not_lt_zero _))), by decide, rfl, by repeat' (first | exact trivial | exact rfl | apply And.intro | exact (fun _ _ _ _ => Cell.le_refl _) | (intro i hi; rfl) | (intro i hi; exact absurd hi (Nat.not_lt_zero _)))⟩⟩
    replace hl : (!lightM ⟨k, hh, ht, hr, ⟨sp, sc, dp, dc, sq, da, th, ta⟩, ack, nx, hg, pc, pl, cc, cl⟩) = false := hl
    rw [Bool.not_eq_false'] at hl
    have hok0 := light_ok hl hpk hrl hrb hpo hco
    refine Ife.mk (fun h => ?_) (fun h => ?_)
    · refine Need.mk trivial fun _ => ?_
      exact ⟨[0, 1], ⟨rfl, by repeat' (first | exact trivial | exact rfl | apply And.intro | exact (fun _ _ _ _ => Cell.le_refl _) | (intro i hi; rfl) | (intro i hi; exact absurd hi (Nat.not_lt_zero _))), by decide, rfl, by repeat' (first | exact trivial | exact rfl | apply And.intro | exact (fun _ _ _ _ => Cell.le_refl _) | (intro i hi; rfl) | (intro i hi; exact absurd hi (Nat.not_lt_zero _)))⟩⟩
    replace h : ¬ (4000 : Int) < (s.length : Int) := of_decide_eq_false (p := (4000 : Int) < (s.length : Int)) h
    have hs' : s.length ≤ 4000 := by omega
    refine Need.mk (msgPre_n (m := ⟨k, hh, ht, hr, ⟨sp, sc, dp, dc, sq, da, th, ta⟩, ack, nx, hg, pc, pl, cc, cl⟩) hok0 hL hL') fun _ => Need.mk (msgPre_n (m := ⟨k, hh, ht, hr, ⟨sp, sc, dp, dc, sq, da, th, ta⟩, ack, nx, hg, pc, pl, cc, cl⟩) hok0 hL hL') fun _ => ?_
    by_cases hm : mayM ⟨k, hh, ht, hr, ⟨sp, sc, dp, dc, sq, da, th, ta⟩, ack, nx, hg, pc, pl, cc, cl⟩ = true
    rotate_left
    · rw [Bool.not_eq_true] at hm
      rw [encMsg_no hm, hm]
      try dsimp only
      refine Ife.mk (fun hb => ?_) (fun _ => ?_)
      · exact absurd (show (!(decide ((1 : Int) = 0) == false)) = true from hb) (by decide)
      refine Ife.mk (fun hb => ?_) (fun _ => ?_)
      · exact absurd (of_decide_eq_true (p := (1 : Int) = 0) hb) (by decide)
      refine Need.mk (show s.length ≤ 140737488351232 by omega) fun _ => ?_
      have hD := decMsg_ok s
      have hz0 := @decMsg_zero s
      have ho1 := @decMsg_one s
      generalize decMsg s = D at *
      obtain ⟨D, e⟩ := D
      dsimp only at *
      have zd := msgOf_n (m := D) (a := .row 0) (b := .row 1) (n := lenL D.pl) (n' := lenL D.cl) (fr := true) (fr' := true) hD rfl rfl
      simp only [msgC, msgCP, h32, pkC, List.cons_append, List.nil_append] at zd
      refine Ife.mk (fun hb => ?_) (fun hb => ?_)
      · replace hb : ¬ e = 0 := by simpa using (show (!decide (e = 0)) = true from hb)
        refine Need.mk ⟨msgPre_n (m := D) hD rfl rfl, zero_pre⟩ fun _ => ?_
        rw [zd, zero_of23, hz0 hb, sameM_self]
        exact ⟨[0, 1], ⟨rfl, by repeat' (first | exact trivial | exact rfl | apply And.intro | exact (fun _ _ _ _ => Cell.le_refl _) | (intro i hi; rfl) | (intro i hi; exact absurd hi (Nat.not_lt_zero _))), by decide, rfl, by repeat' (first | exact trivial | exact rfl | apply And.intro | exact (fun _ _ _ _ => Cell.le_refl _) | (intro i hi; rfl) | (intro i hi; exact absurd hi (Nat.not_lt_zero _)))⟩⟩
      have hb : e = 0 := by simpa using (show (!decide (e = 0)) = false from hb)
      obtain ⟨m1, m2⟩ := ho1 hb
      refine Need.mk (msgPre_n (m := D) hD rfl rfl) fun _ => Need.mk (msgPre_n (m := D) hD rfl rfl) fun _ => ?_
      rw [zd, encMsg_yes m1, m1]
      try dsimp only
      refine Ife.mk (fun _ => ?_) (fun h => absurd h (by decide))
      refine Ife.mk (fun _ => ?_) (fun h => absurd m2 (of_decide_eq_false (p := msgB D = s) h))
      exact ⟨[0, 1], ⟨rfl, by repeat' (first | exact trivial | exact rfl | apply And.intro | exact (fun _ _ _ _ => Cell.le_refl _) | (intro i hi; rfl) | (intro i hi; exact absurd hi (Nat.not_lt_zero _))), by decide, rfl, by repeat' (first | exact trivial | exact rfl | apply And.intro | exact (fun _ _ _ _ => Cell.le_refl _) | (intro i hi; rfl) | (intro i hi; exact absurd hi (Nat.not_lt_zero _)))⟩⟩
    have hV := mayM_V hm hok0
    have hlen := msgB_len hV
    have hne := msgB_ne hm hok0
    have d1 := decMsg_back hm hok0
    have d2 : (decMsg (msgB ⟨k, hh, ht, hr, ⟨sp, sc, dp, dc, sq, da, th, ta⟩, ack, nx, hg, pc, pl, cc, cl⟩ ++ [0])).2 = 3 := by rw [decMsg_long hm hok0 (by simp)]
    have hpos : 0 < (msgB ⟨k, hh, ht, hr, ⟨sp, sc, dp, dc, sq, da, th, ta⟩, ack, nx, hg, pc, pl, cc, cl⟩).length := List.length_pos_iff.2 hne
    have d3 : ∀ n : Nat, n < (msgB ⟨k, hh, ht, hr, ⟨sp, sc, dp, dc, sq, da, th, ta⟩, ack, nx, hg, pc, pl, cc, cl⟩).length → (decMsg ((msgB ⟨k, hh, ht, hr, ⟨sp, sc, dp, dc, sq, da, th, ta⟩, ack, nx, hg, pc, pl, cc, cl⟩).take n)).2 = 2 := fun n hn => by rw [decMsg_short hm hok0 hn]
    rw [encMsg_yes hm, hm]
    try dsimp only
    generalize msgB ⟨k, hh, ht, hr, ⟨sp, sc, dp, dc, sq, da, th, ta⟩, ack, nx, hg, pc, pl, cc, cl⟩ = B at *
    rw [d1]
    try dsimp only
    refine Ife.mk (fun hb => ?_) (fun _ => ?_)
    · exact absurd (show (!(decide ((0 : Int) = 0) == true)) = true from hb) (by decide)
    refine Ife.mk (fun _ => ?_) (fun hb => absurd (show (0 : Int) = 0 from rfl) (of_decide_eq_false (p := (0 : Int) = 0) hb))
    refine Need.mk (show B.length ≤ 140737488351232 by omega) fun _ => ?_
    refine Need.mk (show (B.length : Int) + ((1 : Nat) : Int) ≤ 9223372036854775807 by omega) fun _ => ?_
    refine Need.mk (show (B ++ [0]).length ≤ 140737488351232 by rw [List.length_append]; show B.length + 1 ≤ _; omega) fun _ => ?_
    refine Ife.mk (fun hb => ?_) (fun _ => ?_)
    · exact absurd (show (!decide ((0 : Int) = 0)) = true from hb) (by decide)
    refine Need.mk ⟨msgPre_n (m := ⟨k, hh, ht, hr, ⟨sp, sc, dp, dc, sq, da, th, ta⟩, ack, nx, hg, pc, pl, cc, cl⟩) hok0 rfl rfl, msgPre_n (m := ⟨k, hh, ht, hr, ⟨sp, sc, dp, dc, sq, da, th, ta⟩, ack, nx, hg, pc, pl, cc, cl⟩) (a := .row 2) (b := .row 3) hok0 hL hL'⟩ fun _ => ?_
    have zx := msgOf_n (m := ⟨k, hh, ht, hr, ⟨sp, sc, dp, dc, sq, da, th, ta⟩, ack, nx, hg, pc, pl, cc, cl⟩) (a := .row 0) (b := .row 1) (n := lenL pl) (n' := lenL cl) (fr := true) (fr' := true) hok0 rfl rfl
    have zm := msgOf_n (m := ⟨k, hh, ht, hr, ⟨sp, sc, dp, dc, sq, da, th, ta⟩, ack, nx, hg, pc, pl, cc, cl⟩) (a := .row 2) (b := .row 3) (fr := false) (fr' := false) hok0 hL hL'
    simp only [msgC, msgCP, h32, pkC, List.cons_append, List.nil_append] at zx zm
    rw [zx, zm, sameM_self]
    refine Ife.mk (fun hb => ?_) (fun _ => ?_)
    · exact absurd (show (!true) = true from hb) (by decide)
    refine Ife.mk (fun hb => ?_) (fun _ => ?_)
    · replace hb : (!decide ((decMsg (B ++ [0])).2 = 3)) = true := hb
      rw [d2] at hb
      exact absurd hb (by decide)
    refine Ife.mk (fun hb => ?_) (fun _ => ?_)
    · replace hb : (B.length : Int) = 0 := of_decide_eq_true (p := (B.length : Int) = 0) hb
      omega
    refine Need.mk (by show fitStd .i64 ((B.length : Int) - 1); unfold fitStd; omega) fun _ => ?_
    have hT : (B.take ((B.length : Int) - 1).toNat).drop (0 : Int).toNat = B.take (B.length - 1) := by
      rw [show ((B.length : Int) - 1).toNat = B.length - 1 by omega]
      rfl
    refine Need.mk (show 0 ≤ (0 : Int) ∧ (0 : Int) ≤ (B.length : Int) - 1 ∧ (B.length : Int) - 1 ≤ (B.length : Int) by omega) fun _ => ?_
    refine Need.mk (show ((B.take ((B.length : Int) - 1).toNat).drop (0 : Int).toNat).length ≤ 140737488351232 by rw [hT, List.length_take]; omega) fun _ => ?_
    refine Ife.mk (fun hb => ?_) (fun _ => ?_)
    · replace hb : (!decide ((decMsg ((B.take ((B.length : Int) - 1).toNat).drop (0 : Int).toNat)).2 = 2)) = true := hb
      rw [hT, d3 _ (by omega)] at hb
      exact absurd hb (by decide)
    refine Need.mk (show s.length ≤ 140737488351232 by omega) fun _ => ?_
    have hD := decMsg_ok s
    have hz0 := @decMsg_zero s
    have ho1 := @decMsg_one s
    generalize decMsg s = D at *
    obtain ⟨D, e⟩ := D
    dsimp only at *
    have zd := msgOf_n (m := D) (a := .row 0) (b := .row 1) (n := lenL D.pl) (n' := lenL D.cl) (fr := true) (fr' := true) hD rfl rfl
    simp only [msgC, msgCP, h32, pkC, List.cons_append, List.nil_append] at zd
    refine Ife.mk (fun hb => ?_) (fun hb => ?_)
    · replace hb : ¬ e = 0 := by simpa using (show (!decide (e = 0)) = true from hb)
      refine Need.mk ⟨msgPre_n (m := D) hD rfl rfl, zero_pre⟩ fun _ => ?_
      rw [zd, zero_of23, hz0 hb, sameM_self]
      exact ⟨[0, 1], ⟨rfl, by repeat' (first | exact trivial | exact rfl | apply And.intro | exact (fun _ _ _ _ => Cell.le_refl _) | (intro i hi; rfl) | (intro i hi; exact absurd hi (Nat.not_lt_zero _))), by decide, rfl, by repeat' (first | exact trivial | exact rfl | apply And.intro | exact (fun _ _ _ _ => Cell.le_refl _) | (intro i hi; rfl) | (intro i hi; exact absurd hi (Nat.not_lt_zero _)))⟩⟩
    have hb : e = 0 := by simpa using (show (!decide (e = 0)) = false from hb)
    obtain ⟨m1, m2⟩ := ho1 hb
    refine Need.mk (msgPre_n (m := D) hD rfl rfl) fun _ => Need.mk (msgPre_n (m := D) hD rfl rfl) fun _ => ?_
    rw [zd, encMsg_yes m1, m1]
    try dsimp only
    refine Ife.mk (fun _ => ?_) (fun h => absurd h (by decide))
    refine Ife.mk (fun _ => ?_) (fun h => absurd m2 (of_decide_eq_false (p := msgB D = s) h))
    exact ⟨[0, 1], ⟨rfl, by repeat' (first | exact trivial | exact rfl | apply And.intro | exact (fun _ _ _ _ => Cell.le_refl _) | (intro i hi; rfl) | (intro i hi; exact absurd hi (Nat.not_lt_zero _))), by decide, rfl, by repeat' (first | exact trivial | exact rfl | apply And.intro | exact (fun _ _ _ _ => Cell.le_refl _) | (intro i hi; rfl) | (intro i hi; exact absurd hi (Nat.not_lt_zero _)))⟩⟩

end Go.Proofs.Ytcgoaicifjndpaa.Vx
namespace Go.Proofs.Ytcgoaicifjndpaa
open Go.RowKit
set_option linter.unusedVariables false
theorem msgBackWalk (w : World) (l : List Value) (m : Vx.PMsg) (hm : MsgIn w l m) (s : ByteArray) (hs : s.size ≤ maxLen) :
    Calls Try.prog 12 #[.agg l.toArray, .string s] w fun e w' => e = .returned (.bool true) ∧ Below w.heap.size w w' := by
  obtain ⟨b, rfl, hl⟩ := bytesOf s hs
  obtain ⟨q, hq, r1⟩ := Vx.Rel.addLeaves (Vx.Rel.refl w) hm.pl
  obtain ⟨q', hq', r2⟩ := Vx.Rel.addLeaves r1 hm.cl
  have d : Vx.CV.den [q, q'] (.row 0) = some hm.v := Vx.leaves_den hm.pl hq
  have d' : Vx.CV.den [q, q'] (.row 1) = some hm.v' := Vx.leaves_den hm.cl hq'
  refine Calls.mono (Vx.msgBackP.run [.agg (Vx.msgC m (.row 0) (.row 1)), .c (.str b)] [.data false 140 4 m.pl.length (Vx.leafG false m.pl), .data false 140 4 m.cl.length (Vx.leafG false m.cl)] _ _ _ rfl ⟨(Vx.msgIn_pre hm), hl⟩ [q, q'] w _ r2 ⟨_, _, rfl, ⟨l, hm.is d d', rfl⟩, _, _, rfl, rfl, rfl⟩) fun e W' he => ?_
  obtain ⟨u, ρ', rfl, hu, hr⟩ := he
  obtain rfl : .bool true = u := Option.some.inj hu
  exact ⟨rfl, Vx.Rel.toBelow hr⟩
end Go.Proofs.Ytcgoaicifjndpaa
end
