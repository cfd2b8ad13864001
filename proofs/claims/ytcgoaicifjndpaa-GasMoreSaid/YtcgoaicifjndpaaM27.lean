/- The law MsgPlain, by the walker. -/
import Derived.Test.YtcgoaicifjndpaaM23
import Derived.Test.YtcgoaicifjndpaaM26
import Derived.Test.YtcgoaicifjndpaaVMs6
section
namespace Go.Proofs.Ytcgoaicifjndpaa.Vx
open Go.RowKit
set_option linter.unusedVariables false
set_option linter.unusedSimpArgs false
/-- A message that comes in. -/
def lawPre (cs : List CV) (a b : CV) (ty sz n : Nat) (get : Nat → Nat → Cell) (ty' sz' n' : Nat) (get' : Nat → Nat → Cell) : Prop :=
  msgPre0 cs a b ty sz n get ty' sz' n' get' ∧ (msgOf cs n get n' get').hr.length = 32 ∧ (∀ b ∈ (msgOf cs n get n' get').hr, 0 ≤ b ∧ b < 256) ∧ (msgOf cs n get n' get').ack.length ≤ 9223372036854775807 ∧
    (∀ y ∈ (msgOf cs n get n' get').pl, ∀ h ∈ y.p, h.length = 32 ∧ ∀ b ∈ h, 0 ≤ b ∧ b < 256) ∧ (∀ y ∈ (msgOf cs n get n' get').cl, ∀ h ∈ y.p, h.length = 32 ∧ ∀ b ∈ h, 0 ≤ b ∧ b < 256)
theorem lightL_ok {L : List PLeaf} (h : lightL L = true) (hr : ∀ y ∈ L, ∀ h ∈ y.p, h.length = 32 ∧ ∀ b ∈ h, 0 ≤ b ∧ b < 256) : (∀ x ∈ L, x.ok) ∧ L.length ≤ 5 := by
  simp only [lightL, Bool.and_eq_true, decide_eq_true_iff] at h
  refine ⟨fun x hx => ?_, h.1⟩
  obtain ⟨i, hi, rfl⟩ := List.getElem_of_mem hx
  have hm := lightAt_iff.1 (List.all_eq_true.1 h.2 i (List.mem_range.2 hi))
  have e : L.getD i .none = L[i] := by simp [List.getD, hi]
  unfold lK lV lN lP at hm
  rw [e] at hm
  exact ⟨by omega, by omega, by omega, hr _ hx⟩
theorem light_ok {m : PMsg} (h : lightM m = true) (hf : m.pk.fits) (h1 : m.hr.length = 32) (h2 : ∀ b ∈ m.hr, 0 ≤ b ∧ b < 256) (po : ∀ y ∈ m.pl, ∀ h ∈ y.p, h.length = 32 ∧ ∀ b ∈ h, 0 ≤ b ∧ b < 256) (co : ∀ y ∈ m.cl, ∀ h ∈ y.p, h.length = 32 ∧ ∀ b ∈ h, 0 ≤ b ∧ b < 256) : MsgOk m := by
  simp only [lightM, Bool.and_eq_true, decide_eq_true_iff] at h
  obtain ⟨a1, a2⟩ := lightL_ok h.2.2.1 po
  obtain ⟨b1, b2⟩ := lightL_ok h.2.2.2 co
  exact ⟨⟨hf, by omega, h1, h2⟩, a1, b1, by omega, by omega⟩
theorem leafOf_eq0 {fr : Bool} {l : List PLeaf} {i : Nat} (hi : i < l.length) (hok : ∀ x ∈ l, ∀ h ∈ x.p, h.length = 32) : leafOf (leafG fr l i) = l[i] := by
  have e : l.getD i .none = l[i] := by simp [List.getD, hi]
  have hx := hok l[i] (List.getElem_mem hi)
  have ep : cHs (leafG fr l i 3) = l[i].p := by
    show (List.range (lN l i)).map (fun j => (pG (lP l i) j).map vInt) = _
    unfold lN lP
    rw [e]
    apply List.ext_getElem?
    intro j
    rw [List.getElem?_map]
    by_cases hj : j < l[i].p.length
    · rw [List.getElem?_range hj, List.getElem?_eq_getElem hj, Option.map_some]
      congr 1
      unfold pG
      rw [show l[i].p.getD j [] = l[i].p[j] by simp [List.getD, hj]]
      exact pG_vInt (hx _ (List.getElem_mem hj))
    · rw [List.getElem?_eq_none (by simp; omega), List.getElem?_eq_none (by omega)]; rfl
  unfold leafOf
  rw [ep]
  show PLeaf.mk (lK l i) (lV l i) (lI l i) _ = _
  unfold lK lV lI
  rw [e]
theorem leafL_eq0 {n : Nat} {get : Nat → Nat → Cell} {fr : Bool} {l : List PLeaf} (hn : l.length = n) (hok : ∀ x ∈ l, ∀ h ∈ x.p, h.length = 32) (h : ∀ i j, i < n → j < 4 → get i j = leafG fr l i j) : leafL n get = l := by
  apply List.ext_getElem (by simp [leafL, hn])
  intro i h1 h2
  have : leafOf (get i) = leafOf (leafG fr l i) := by
    unfold leafOf
    rw [h i 0 (by omega) (by omega), h i 1 (by omega) (by omega), h i 2 (by omega) (by omega), h i 3 (by omega) (by omega)]
  simp only [leafL, List.getElem_map, List.getElem_range, this]
  exact leafOf_eq0 h2 hok
theorem leaves_den {w : World} {L : List PLeaf} {v : Value} {ρ : List Pl} {k : Nat} {q : Pl} (hs : (Cell.ns false 140 4 L.length (leafG false L)).shows w (fun _ b => b < w.heap.size) v) (hq : q.v = v) (hk : ρ[k]? = some q := by rfl) : CV.den ρ (.row k) = some v := by
  obtain ⟨a, cap, h1, -⟩ := hs
  simp only [CV.den, hk]
  rw [hq, h1]
  rfl
theorem _root_.Go.Proofs.Ytcgoaicifjndpaa.MsgIn.pre {w : World} {l : List Value} {m : PMsg} (h : MsgIn w l m) : lawPre (msgC m (.row 0) (.row 1)) (.row 0) (.row 1) 140 4 m.pl.length (leafG false m.pl) 140 4 m.cl.length (leafG false m.cl) := by
  have e1 : leafL m.pl.length (leafG false m.pl) = m.pl := leafL_eq0 (fr := false) rfl (fun x hx y hy => (h.pok x hx y hy).1) fun _ _ _ _ => rfl
  have e2 : leafL m.cl.length (leafG false m.cl) = m.cl := leafL_eq0 (fr := false) rfl (fun x hx y hy => (h.cok x hx y hy).1) fun _ _ _ _ => rfl
  have e := msgOf_msgC (m := m) (a := .row 0) (b := .row 1) h.len e1 e2
  unfold lawPre msgPre0
  rw [e]
  exact ⟨⟨rfl, ⟨rfl, rfl, fun i j _ _ => by rw [e1]⟩, ⟨rfl, rfl, fun i j _ _ => by rw [e2]⟩, h.fits⟩, h.len, h.by', h.ack, h.pok, h.cok⟩
attribute [local cbv_opaque] lK lV lI lP lN pG leafL leafOf leavesPre hsL rN plainM msgPre lenL nextB between sameM mayM msgOf mayPkt wN wT wH wLeaf wPath wLeaves wProof wPk wMsg wMsgPre prWPre hashOf putW numW numBad textW fitNum fitText fitPut fitPk isI64 msgB encMsg bytesW badW Pkt.fits Leb.next noRt zeroMsg lightM msgPre0 leavesAt0 lawPre sameM mayM plainM
end Go.Proofs.Ytcgoaicifjndpaa.Vx
namespace Go.Proofs.Ytcgoaicifjndpaa
open Go.RowKit
set_option linter.unusedVariables false
end Go.Proofs.Ytcgoaicifjndpaa
end

section
/- Slices of messages as data that hold data. -/
namespace Go.Proofs.Ytcgoaicifjndpaa.Vx
open Go.RowKit
set_option linter.unusedVariables false
set_option linter.unusedSimpArgs false
def gM (L : List PMsg) (i : Nat) : PMsg := L.getD i zeroMsg
/-- The cells of a message; its leaves lie elsewhere. -/
def msgCl (fr : Bool) (m : PMsg) : List Cell :=
  .pl (.int .i64 m.kind) :: .pl (.int .i64 m.hh) :: .pl (.int .i64 m.ht) :: ((h32 (rN m.hr)).map Cell.pl ++ ((pkC m.pk).map Cell.pl ++ [.pl (.str m.ack), .pl (.int .i64 m.next), .pl (.int .i64 m.height), .pl (.int .i64 m.pc), .ns fr 140 4 (lenL m.pl) (leafG fr m.pl), .pl (.int .i64 m.cc), .ns fr 140 4 (lenL m.cl) (leafG fr m.cl)]))
def msgG (fr : Bool) (L : List PMsg) (i j : Nat) : Cell := (msgCl fr (gM L i)).getD j (.pl .tt)
def cPl : Cell → CV
  | .pl x => x
  | _ => .tt
def cN : Cell → Nat
  | .ns _ _ _ n _ => n
  | _ => 0
def cG : Cell → Nat → Nat → Cell
  | .ns _ _ _ _ g => g
  | _ => fun _ _ => .pl .tt
def cMsg (g : Nat → Cell) : PMsg := msgOf ((List.range 50).map fun j => cPl (g j)) (cN (g 47)) (cG (g 47)) (cN (g 49)) (cG (g 49))
def msgsL (n : Nat) (get : Nat → Nat → Cell) : List PMsg := (List.range n).map fun i => cMsg (get i)
/-- A message whose sums have 32 numbers. -/
structure Raw (m : PMsg) : Prop where
  len : m.hr.length = 32
  po : ∀ y ∈ m.pl, ∀ h ∈ y.p, h.length = 32
  co : ∀ y ∈ m.cl, ∀ h ∈ y.p, h.length = 32
theorem MsgOk.raw {m : PMsg} (h : MsgOk m) : Raw m := ⟨h.fit.len, fun y hy x hx => ((h.po y hy).hs x hx).1, fun y hy x hx => ((h.co y hy).hs x hx).1⟩
theorem gM_eq {L : List PMsg} {i : Nat} (h : i < L.length) : gM L i = L[i] := by simp [gM, List.getD, h]
theorem gM_zero {L : List PMsg} {i : Nat} (h : ¬ i < L.length) : gM L i = zeroMsg := by
  unfold gM
  rw [List.getD_eq_getElem?_getD, List.getElem?_eq_none (by omega)]
  rfl
theorem gM_all {P : PMsg → Prop} {L : List PMsg} (h : ∀ m ∈ L, P m) (h0 : P zeroMsg) (i : Nat) : P (gM L i) := by
  by_cases hi : i < L.length
  · rw [gM_eq hi]; exact h _ (List.getElem_mem hi)
  · rw [gM_zero hi]; exact h0
theorem cMsg_G {fr : Bool} {L : List PMsg} {i : Nat} (h : Raw (gM L i)) : cMsg (msgG fr L i) = gM L i := by
  have e1 : leafL (cN (msgG fr L i 47)) (cG (msgG fr L i 47)) = (gM L i).pl := leafL_eq0 (fr := fr) rfl h.po fun _ _ _ _ => rfl
  have e2 : leafL (cN (msgG fr L i 49)) (cG (msgG fr L i 49)) = (gM L i).cl := leafL_eq0 (fr := fr) rfl h.co fun _ _ _ _ => rfl
  have e : ((List.range 50).map fun j => cPl (msgG fr L i j)) = msgC (gM L i) .tt .tt := rfl
  unfold cMsg
  rw [e]
  exact msgOf_msgC h.len e1 e2
theorem msgCl_old {fr : Bool} {m : PMsg} : (msgCl fr m).map Cell.old = msgCl false m := by
  have e : ∀ l, (fun i j => (leafG fr l i j).old) = leafG false l := fun l => by
    funext i j
    exact leafG_old
  unfold msgCl
  simp [Cell.old, e, Function.comp_def]
theorem msgG_old {fr : Bool} {L : List PMsg} {i j : Nat} : (msgG fr L i j).old = msgG false L i j := by
  unfold msgG
  rw [← msgCl_old (fr := fr), List.getD_eq_getElem?_getD, List.getD_eq_getElem?_getD, List.getElem?_map]
  cases (msgCl fr (gM L i))[j]? <;> rfl
theorem msgsL_len {n : Nat} {get : Nat → Nat → Cell} : (msgsL n get).length = n := by simp [msgsL]
theorem msgsL_eq {n : Nat} {get : Nat → Nat → Cell} {L : List PMsg} (hn : L.length = n) (hr : ∀ m ∈ L, Raw m) (h : ∀ i j, i < n → j < 50 → get i j = msgG false L i j) : msgsL n get = L := by
  apply List.ext_getElem (by simp [msgsL, hn])
  intro i h1 h2
  simp only [msgsL, List.getElem_map, List.getElem_range]
  have hi : i < n := by omega
  have hg : gM L i = L[i] := gM_eq h2
  have e : cMsg (get i) = cMsg (msgG false L i) := by
    unfold cMsg
    rw [h i 47 hi (by omega), h i 49 hi (by omega)]
    congr 1
    apply List.map_congr_left
    intro j hj
    rw [h i j hi (List.mem_range.1 hj)]
  rw [e, cMsg_G (by rw [hg]; exact hr _ (List.getElem_mem h2)), hg]
def MsgsAt (n : Nat) (get : Nat → Nat → Cell) : Prop := ∀ i j, i < n → j < 50 → get i j = msgG false (msgsL n get) i j
def msgsPre (ty sz n : Nat) (get : Nat → Nat → Cell) : Prop := ty = 74 ∧ sz = 50 ∧ MsgsAt n get ∧ (∀ m ∈ msgsL n get, MsgOk m) ∧ n ≤ 1000000
/-- A message as a law has it. -/
structure MsgRaw (m : PMsg) : Prop where
  fits : m.pk.fits
  len : m.hr.length = 32
  by' : ∀ b ∈ m.hr, 0 ≤ b ∧ b < 256
  ack : m.ack.length ≤ 9223372036854775807
  po : ∀ y ∈ m.pl, ∀ h ∈ y.p, h.length = 32 ∧ ∀ b ∈ h, 0 ≤ b ∧ b < 256
  co : ∀ y ∈ m.cl, ∀ h ∈ y.p, h.length = 32 ∧ ∀ b ∈ h, 0 ≤ b ∧ b < 256
theorem MsgRaw.raw {m : PMsg} (h : MsgRaw m) : Raw m := ⟨h.len, fun y hy x hx => (h.po y hy x hx).1, fun y hy x hx => (h.co y hy x hx).1⟩
theorem MsgRaw.ok {m : PMsg} (h : MsgRaw m) (hl : lightM m = true) : MsgOk m := light_ok hl h.fits h.len h.by' h.po h.co
end Go.Proofs.Ytcgoaicifjndpaa.Vx
end

section
/- Slices of messages: are they light? By the walker. -/
namespace Go.Proofs.Ytcgoaicifjndpaa.Vx
open Go.RowKit
set_option linter.unusedVariables false
set_option linter.unusedSimpArgs false
theorem leavesL_raw {fr : Bool} {L : List PLeaf} (h : ∀ y ∈ L, ∀ h ∈ y.p, h.length = 32) : leafL (lenL L) (fun i j => (leafG fr L i j).old) = L := leafL_eq0 (fr := false) rfl h fun i j _ _ => leafG_old
theorem msgOf_g {m : PMsg} (h : Raw m) {a b : CV} {fr fr' : Bool} : msgOf (msgC m a b) (lenL m.pl) (fun i j => (leafG fr m.pl i j).old) (lenL m.cl) (fun i j => (leafG fr' m.cl i j).old) = m := msgOf_msgC h.len (leavesL_raw h.po) (leavesL_raw h.co)
attribute [local cbv_opaque] lK lV lI lP lN pG leafL leafOf leavesPre hsL rN plainM msgPre lenL nextB between sameM mayM msgOf mayPkt wN wT wH wLeaf wPath wLeaves wProof wPk wMsg wMsgPre prWPre hashOf putW numW numBad textW fitNum fitText fitPut fitPk isI64 msgB encMsg bytesW badW Pkt.fits Leb.next noRt zeroMsg lightM msgPre0 leavesAt0 lawPre sameM mayM plainM gM msgsL msgsPre
end Go.Proofs.Ytcgoaicifjndpaa.Vx
end

section
/- Slices of messages compared, by the walker. -/
namespace Go.Proofs.Ytcgoaicifjndpaa.Vx
open Go.RowKit
set_option linter.unusedVariables false
set_option linter.unusedSimpArgs false
attribute [local cbv_opaque] lK lV lI lP lN pG leafL leafOf leavesPre hsL rN plainM msgPre lenL nextB between sameM mayM msgOf mayPkt wN wT wH wLeaf wPath wLeaves wProof wPk wMsg wMsgPre prWPre hashOf putW numW numBad textW fitNum fitText fitPut fitPk isI64 msgB encMsg bytesW badW Pkt.fits Leb.next noRt zeroMsg lightM msgPre0 leavesAt0 lawPre sameM mayM plainM gM msgsL msgsPre
end Go.Proofs.Ytcgoaicifjndpaa.Vx
end

section
/- The law MsgBack, by the walker. -/
namespace Go.Proofs.Ytcgoaicifjndpaa.Vx
open Go.RowKit
set_option linter.unusedVariables false
set_option linter.unusedSimpArgs false
attribute [local cbv_opaque] lK lV lI lP lN pG leafL leafOf leavesPre hsL rN plainM msgPre lenL nextB between sameM mayM msgOf mayPkt wN wT wH wLeaf wPath wLeaves wProof wPk wMsg wMsgPre prWPre hashOf putW numW numBad textW fitNum fitText fitPut fitPk isI64 msgB encMsg bytesW badW Pkt.fits Leb.next noRt zeroMsg lightM msgPre0 leavesAt0 lawPre sameM mayM plainM
end Go.Proofs.Ytcgoaicifjndpaa.Vx
namespace Go.Proofs.Ytcgoaicifjndpaa
open Go.RowKit
set_option linter.unusedVariables false
end Go.Proofs.Ytcgoaicifjndpaa
end

section
/- Transactions written, by the walker. -/
namespace Go.Proofs.Ytcgoaicifjndpaa.Vx
open Go.RowKit
set_option linter.unusedVariables false
set_option linter.unusedSimpArgs false
theorem flatE_le {α : Type} {E : α → List UInt8} {c : Nat} : ∀ {p : List α}, (∀ x ∈ p, (E x).length ≤ c) → (flatE E p).length ≤ c * p.length
  | [], _ => by simp [flatE]
  | x :: p, h => by
    have a := h x (by simp)
    have b := flatE_le (p := p) fun y hy => h y (by simp [hy])
    have e : flatE E (x :: p) = E x ++ flatE E p := by simp [flatE]
    rw [e, List.length_append, List.length_cons, Nat.mul_add]
    omega
attribute [local cbv_opaque] lK lV lI lP lN pG leafL leafOf leavesPre hsL rN plainM msgPre lenL nextB between sameM mayM msgOf mayPkt wN wT wH wLeaf wPath wLeaves wProof wPk wMsg wMsgPre prWPre hashOf putW numW numBad textW fitNum fitText fitPut fitPk isI64 msgB encMsg bytesW badW Pkt.fits Leb.next noRt zeroMsg lightM msgPre0 leavesAt0 lawPre sameM mayM plainM gM msgsL msgsPre flatE textB textW numW numBad
end Go.Proofs.Ytcgoaicifjndpaa.Vx
end
