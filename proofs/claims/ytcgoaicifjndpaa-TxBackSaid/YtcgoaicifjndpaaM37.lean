/- The law MsgPlain, by the walker. -/
import Derived.Test.YtcgoaicifjndpaaM32
import Derived.Test.YtcgoaicifjndpaaM36
section
namespace Go.Proofs.Ytcgoaicifjndpaa.Vx
open Go.RowKit
set_option linter.unusedVariables false
set_option linter.unusedSimpArgs false
theorem lightL_ok {L : List PLeaf} (h : lightL L = true) (hr : ∀ y ∈ L, ∀ h ∈ y.p, h.length = 32 ∧ ∀ b ∈ h, 0 ≤ b ∧ b < 256) : (∀ x ∈ L, x.ok) ∧ L.length ≤ 5 := by
  simp only [lightL, Bool.and_eq_true, decide_eq_true_iff] at h
  refine ⟨fun x hx => ?_, h.1⟩
  obtain ⟨i, hi, rfl⟩ := List.getElem_of_mem hx
  have hm := lightAt_iff.1 (List.all_eq_true.1 h.2 i (List.mem_range.2 hi))
  have e : L.getD i .none = L[i] := by simp [List.getD, hi]
  unfold lK lV lN lP at hm
  rw [e] at hm
  exact ⟨by omega, by omega, by omega, hr _ hx⟩
theorem light_ok {m : PMsg} (h : lightM m = true) (hf : m.pk.fits) (h1 : m.hr.length = 32) (h2 : ∀ b ∈ m.hr, 0 ≤ b ∧ b < 256) (po : ∀ y ∈ m.pl, ∀ h ∈ y.p, h.length = 32 ∧ ∀ b ∈ h, 0 ≤ b ∧ b < 256) (co : ∀ y ∈ m.cl, ∀ h ∈ y.p, h.length = 32 ∧ ∀ b ∈ h, 0 ≤ b ∧ b < 256) : MsgOk m := by
  simp only [lightM, Bool.and_eq_true, decide_eq_true_iff] at h
  obtain ⟨a1, a2⟩ := lightL_ok h.2.2.1 po
  obtain ⟨b1, b2⟩ := lightL_ok h.2.2.2 co
  exact ⟨⟨hf, by omega, h1, h2⟩, a1, b1, by omega, by omega⟩
theorem leafOf_eq0 {fr : Bool} {l : List PLeaf} {i : Nat} (hi : i < l.length) (hok : ∀ x ∈ l, ∀ h ∈ x.p, h.length = 32) : leafOf (leafG fr l i) = l[i] := by
  have e : l.getD i .none = l[i] := by simp [List.getD, hi]
  have hx := hok l[i] (List.getElem_mem hi)
  have ep : cHs (leafG fr l i 3) = l[i].p := by
    show (List.range (lN l i)).map (fun j => (pG (lP l i) j).map vInt) = _
    unfold lN lP
    rw [e]
    apply List.ext_getElem?
    intro j
    rw [List.getElem?_map]
    by_cases hj : j < l[i].p.length
    · rw [List.getElem?_range hj, List.getElem?_eq_getElem hj, Option.map_some]
      congr 1
      unfold pG
      rw [show l[i].p.getD j [] = l[i].p[j] by simp [List.getD, hj]]
      exact pG_vInt (hx _ (List.getElem_mem hj))
    · rw [List.getElem?_eq_none (by simp; omega), List.getElem?_eq_none (by omega)]; rfl
  unfold leafOf
  rw [ep]
  show PLeaf.mk (lK l i) (lV l i) (lI l i) _ = _
  unfold lK lV lI
  rw [e]
theorem leafL_eq0 {n : Nat} {get : Nat → Nat → Cell} {fr : Bool} {l : List PLeaf} (hn : l.length = n) (hok : ∀ x ∈ l, ∀ h ∈ x.p, h.length = 32) (h : ∀ i j, i < n → j < 4 → get i j = leafG fr l i j) : leafL n get = l := by
  apply List.ext_getElem (by simp [leafL, hn])
  intro i h1 h2
  have : leafOf (get i) = leafOf (leafG fr l i) := by
    unfold leafOf
    rw [h i 0 (by omega) (by omega), h i 1 (by omega) (by omega), h i 2 (by omega) (by omega), h i 3 (by omega) (by omega)]
  simp only [leafL, List.getElem_map, List.getElem_range, this]
  exact leafOf_eq0 h2 hok


end Go.Proofs.Ytcgoaicifjndpaa.Vx
namespace Go.Proofs.Ytcgoaicifjndpaa
open Go.RowKit
set_option linter.unusedVariables false
end Go.Proofs.Ytcgoaicifjndpaa
end

section
/- Slices of messages as data that hold data. -/
namespace Go.Proofs.Ytcgoaicifjndpaa.Vx
open Go.RowKit
set_option linter.unusedVariables false
set_option linter.unusedSimpArgs false
def gM (L : List PMsg) (i : Nat) : PMsg := L.getD i zeroMsg
/-- The cells of a message; its leaves lie elsewhere. -/
def msgClP (zp0 : type_of% @lenL) (zp1 : type_of% @rN) (zp2 : type_of% @lI) (zp3 : type_of% @lK) (zp4 : type_of% @lN) (zp5 : type_of% @lP) (zp6 : type_of% @lV) (zp7 : type_of% @pG) (fr : Bool) (m : PMsg) : List Cell :=
  .pl (.int .i64 m.kind) :: .pl (.int .i64 m.hh) :: .pl (.int .i64 m.ht) :: ((h32 (zp1 m.hr)).map Cell.pl ++ ((pkC m.pk).map Cell.pl ++ [.pl (.str m.ack), .pl (.int .i64 m.next), .pl (.int .i64 m.height), .pl (.int .i64 m.pc), .ns fr 140 4 (zp0 m.pl) (leafGP zp2 zp3 zp4 zp5 zp6 zp7 fr m.pl), .pl (.int .i64 m.cc), .ns fr 140 4 (zp0 m.cl) (leafGP zp2 zp3 zp4 zp5 zp6 zp7 fr m.cl)]))
@[reducible] def msgCl := msgClP lenL rN lI lK lN lP lV pG
def msgGP (zp0 : type_of% @gM) (zp1 : type_of% @lenL) (zp2 : type_of% @rN) (zp3 : type_of% @lI) (zp4 : type_of% @lK) (zp5 : type_of% @lN) (zp6 : type_of% @lP) (zp7 : type_of% @lV) (zp8 : type_of% @pG) (fr : Bool) (L : List PMsg) (i j : Nat) : Cell := (msgClP zp1 zp2 zp3 zp4 zp5 zp6 zp7 zp8 fr (zp0 L i)).getD j (.pl .tt)
@[reducible] def msgG := msgGP gM lenL rN lI lK lN lP lV pG
def cPl : Cell → CV
  | .pl x => x
  | _ => .tt
def cN : Cell → Nat
  | .ns _ _ _ n _ => n
  | _ => 0
def cG : Cell → Nat → Nat → Cell
  | .ns _ _ _ _ g => g
  | _ => fun _ _ => .pl .tt
def cMsg (g : Nat → Cell) : PMsg := msgOf ((List.range 50).map fun j => cPl (g j)) (cN (g 47)) (cG (g 47)) (cN (g 49)) (cG (g 49))
def msgsL (n : Nat) (get : Nat → Nat → Cell) : List PMsg := (List.range n).map fun i => cMsg (get i)
/-- A message whose sums have 32 numbers. -/
structure Raw (m : PMsg) : Prop where
  len : m.hr.length = 32
  po : ∀ y ∈ m.pl, ∀ h ∈ y.p, h.length = 32
  co : ∀ y ∈ m.cl, ∀ h ∈ y.p, h.length = 32
theorem MsgOk.raw {m : PMsg} (h : MsgOk m) : Raw m := ⟨h.fit.len, fun y hy x hx => ((h.po y hy).hs x hx).1, fun y hy x hx => ((h.co y hy).hs x hx).1⟩
theorem gM_eq {L : List PMsg} {i : Nat} (h : i < L.length) : gM L i = L[i] := by simp [gM, List.getD, h]
theorem gM_zero {L : List PMsg} {i : Nat} (h : ¬ i < L.length) : gM L i = zeroMsg := by
  unfold gM
  rw [List.getD_eq_getElem?_getD, List.getElem?_eq_none (by omega)]
  rfl
theorem gM_all {P : PMsg → Prop} {L : List PMsg} (h : ∀ m ∈ L, P m) (h0 : P zeroMsg) (i : Nat) : P (gM L i) := by
  by_cases hi : i < L.length
  · rw [gM_eq hi]; exact h _ (List.getElem_mem hi)
  · rw [gM_zero hi]; exact h0
theorem cMsg_G {fr : Bool} {L : List PMsg} {i : Nat} (h : Raw (gM L i)) : cMsg (msgG fr L i) = gM L i := by
  have e1 : leafL (cN (msgG fr L i 47)) (cG (msgG fr L i 47)) = (gM L i).pl := leafL_eq0 (fr := fr) rfl h.po fun _ _ _ _ => rfl
  have e2 : leafL (cN (msgG fr L i 49)) (cG (msgG fr L i 49)) = (gM L i).cl := leafL_eq0 (fr := fr) rfl h.co fun _ _ _ _ => rfl
  have e : ((List.range 50).map fun j => cPl (msgG fr L i j)) = msgC (gM L i) .tt .tt := rfl
  unfold cMsg
  rw [e]
  exact msgOf_msgC h.len e1 e2
theorem msgCl_old {fr : Bool} {m : PMsg} : (msgCl fr m).map Cell.old = msgCl false m := by
  have e : ∀ l, (fun i j => (leafG fr l i j).old) = leafG false l := fun l => by
    funext i j
    exact leafG_old
  unfold msgCl msgClP
  simp [Cell.old, e, Function.comp_def]
theorem msgG_eq {fr : Bool} {L : List PMsg} {i j : Nat} : msgG fr L i j = (msgCl fr (gM L i)).getD j (.pl .tt) := rfl
theorem msgG_old {fr : Bool} {L : List PMsg} {i j : Nat} : (msgG fr L i j).old = msgG false L i j := by
  simp only [msgG_eq]
  rw [← msgCl_old (fr := fr), List.getD_eq_getElem?_getD, List.getD_eq_getElem?_getD, List.getElem?_map]
  cases (msgCl fr (gM L i))[j]? <;> rfl
theorem msgsL_len {n : Nat} {get : Nat → Nat → Cell} : (msgsL n get).length = n := by simp [msgsL]
theorem msgsL_eq {n : Nat} {get : Nat → Nat → Cell} {L : List PMsg} (hn : L.length = n) (hr : ∀ m ∈ L, Raw m) (h : ∀ i j, i < n → j < 50 → get i j = msgG false L i j) : msgsL n get = L := by
  apply List.ext_getElem (by simp [msgsL, hn])
  intro i h1 h2
  simp only [msgsL, List.getElem_map, List.getElem_range]
  have hi : i < n := by omega
  have hg : gM L i = L[i] := gM_eq h2
  have e : cMsg (get i) = cMsg (msgG false L i) := by
    unfold cMsg
    rw [h i 47 hi (by omega), h i 49 hi (by omega)]
    congr 1
    apply List.map_congr_left
    intro j hj
    rw [h i j hi (List.mem_range.1 hj)]
  rw [e, cMsg_G (by rw [hg]; exact hr _ (List.getElem_mem h2)), hg]
theorem msgsL_old {fr : Bool} {L : List PMsg} (hr : ∀ m ∈ L, Raw m) : msgsL L.length (fun i j => (msgG fr L i j).old) = L := msgsL_eq rfl hr fun i j _ _ => msgG_old
def MsgsAt (n : Nat) (get : Nat → Nat → Cell) : Prop := ∀ i j, i < n → j < 50 → get i j = msgG false (msgsL n get) i j
def msgsPre (ty sz n : Nat) (get : Nat → Nat → Cell) : Prop := ty = 74 ∧ sz = 50 ∧ MsgsAt n get ∧ (∀ m ∈ msgsL n get, MsgOk m) ∧ n ≤ 1000000
theorem msgsPre_n {fr : Bool} {L : List PMsg} {n : Nat} (hn : L.length = n) (h : ∀ m ∈ L, MsgOk m) (hl : n ≤ 1000000) : msgsPre 74 50 n fun i j => (msgG fr L i j).old := by
  subst hn
  have e := msgsL_old (fr := fr) fun m hm => (h m hm).raw
  exact ⟨rfl, rfl, fun i j _ _ => by rw [e]; exact msgG_old, by rw [e]; exact h, hl⟩
theorem msgsL_n {fr : Bool} {L : List PMsg} {n : Nat} (hn : L.length = n) (h : ∀ m ∈ L, MsgOk m) : msgsL n (fun i j => (msgG fr L i j).old) = L := by
  subst hn
  exact msgsL_old fun m hm => (h m hm).raw
/-- A message as a law has it. -/
structure MsgRaw (m : PMsg) : Prop where
  fits : m.pk.fits
  len : m.hr.length = 32
  by' : ∀ b ∈ m.hr, 0 ≤ b ∧ b < 256
  ack : m.ack.length ≤ 9223372036854775807
  po : ∀ y ∈ m.pl, ∀ h ∈ y.p, h.length = 32 ∧ ∀ b ∈ h, 0 ≤ b ∧ b < 256
  co : ∀ y ∈ m.cl, ∀ h ∈ y.p, h.length = 32 ∧ ∀ b ∈ h, 0 ≤ b ∧ b < 256
theorem MsgRaw.raw {m : PMsg} (h : MsgRaw m) : Raw m := ⟨h.len, fun y hy x hx => (h.po y hy x hx).1, fun y hy x hx => (h.co y hy x hx).1⟩
theorem MsgRaw.ok {m : PMsg} (h : MsgRaw m) (hl : lightM m = true) : MsgOk m := light_ok hl h.fits h.len h.by' h.po h.co
theorem MsgOk.msgRaw {m : PMsg} (h : MsgOk m) : MsgRaw m := ⟨h.fit.pk, h.fit.len, h.fit.by', by have := h.fit.ack; omega, fun y hy => (h.po y hy).hs, fun y hy => (h.co y hy).hs⟩
/-- Messages as a law has them: of any number and size. -/
def msgsPre0 (ty sz n : Nat) (get : Nat → Nat → Cell) : Prop := ty = 74 ∧ sz = 50 ∧ MsgsAt n get ∧ (∀ m ∈ msgsL n get, MsgRaw m) ∧ n ≤ 9223372036854775807
theorem msgs0 {n : Nat} {get : Nat → Nat → Cell} (h : MsgsAt n get) (hr : ∀ m ∈ msgsL n get, MsgRaw m) : msgsL n (fun i j => (msgG false (msgsL n get) i j).old) = msgsL n get := msgsL_eq msgsL_len (fun m hm => (hr m hm).raw) fun _ _ _ _ => msgG_old
theorem msgsPre0_n {fr : Bool} {L : List PMsg} {n : Nat} (hn : L.length = n) (h : ∀ m ∈ L, MsgRaw m) (hl : n ≤ 9223372036854775807) : msgsPre0 74 50 n fun i j => (msgG fr L i j).old := by
  subst hn
  have e := msgsL_old (fr := fr) fun m hm => (h m hm).raw
  exact ⟨rfl, rfl, fun i j _ _ => by rw [e]; exact msgG_old, by rw [e]; exact h, hl⟩
end Go.Proofs.Ytcgoaicifjndpaa.Vx
end

section
/- Slices of messages: are they light? By the walker. -/
namespace Go.Proofs.Ytcgoaicifjndpaa.Vx
open Go.RowKit
set_option linter.unusedVariables false
set_option linter.unusedSimpArgs false
def lightMs (L : List PMsg) : Bool := decide (L.length ≤ 70) && (List.range L.length).all fun i => lightM (gM L i)
def lightMAt (L : List PMsg) (i : Nat) : Bool := lightM (gM L i)
theorem leavesL_raw {fr : Bool} {L : List PLeaf} (h : ∀ y ∈ L, ∀ h ∈ y.p, h.length = 32) : leafL (lenL L) (fun i j => (leafG fr L i j).old) = L := leafL_eq0 (fr := false) rfl h fun i j _ _ => leafG_old
theorem msgOf_g {m : PMsg} (h : Raw m) {a b : CV} {fr fr' : Bool} : msgOf (msgC m a b) (lenL m.pl) (fun i j => (leafG fr m.pl i j).old) (lenL m.cl) (fun i j => (leafG fr' m.cl i j).old) = m := msgOf_msgC h.len (leavesL_raw h.po) (leavesL_raw h.co)
theorem msgPre0_g {m : PMsg} (h : MsgRaw m) {a b : CV} {fr fr' : Bool} : msgPre0 (msgC m a b) a b 140 4 (lenL m.pl) (fun i j => (leafG fr m.pl i j).old) 140 4 (lenL m.cl) (fun i j => (leafG fr' m.cl i j).old) := by
  refine ⟨by rw [msgOf_g h.raw], ⟨rfl, rfl, fun i j _ _ => ?_⟩, ⟨rfl, rfl, fun i j _ _ => ?_⟩, by rw [msgOf_g h.raw]; exact h.fits⟩
  · rw [leavesL_raw h.raw.po]; exact leafG_old
  · rw [leavesL_raw h.raw.co]; exact leafG_old
theorem zero_raw : MsgRaw zeroMsg := zeroMsg_ok.msgRaw
theorem Ife.conv' {b b' : Bool} {p q : Prop} (h : b = b') (x : Ife b' p q) : Ife b p q := by rw [h]; exact x
def sLightMs : SpecF
  | [.c (.row 0)], [.data fr ty sz n get] => some (msgsPre0 ty sz n get, .c (.bool (lightMs (msgsL n get))), [.dead])
  | _, _ => none

set_option maxRecDepth 100000 in
set_option maxHeartbeats 16000000 in
theorem lightMsP : Fn Try.prog 44 [] [(74, 250)] sLightMs := by
  have hC : CtsOk Try.prog [(49, appFn [] [(140, 204), (140, 204)] sLightM)] := CtsOk.cons (Fn.ct lightMP) <| CtsOk.nil _
  refine Fn.of (E := tbR) [] 0 [] tbR_ok hC (by kernel_rfl) Try.func44 rfl rfl rfl (by kernel_rfl) (by kernel_rfl) 1 5 1 ?_ ?_
  · intro args h pre r h' hs
    unfold sLightMs at hs
    split at hs
    · cases hs; exact ⟨rfl, rfl, Nat.le_of_ble_eq_true rfl⟩
    · cases hs
  · intro args h pre r h' hs hp
    unfold sLightMs at hs
    split at hs
    rotate_left
    · cases hs
    rename_i fr ty sz n get
    cases hs
    obtain ⟨rfl, rfl, hst, hraw, hm⟩ := hp
    have k0 := msgs0 hst hraw
    refine ⟨[.data fr 74 50 n (msgG false (msgsL n get))], ⟨⟨rfl, rfl, rfl, rfl, fun i j hi hj => by rw [hst i j hi hj]; exact Cell.le_refl _⟩, trivial⟩, ?_⟩
    have hL : (msgsL n get).length = n := msgsL_len
    generalize msgsL n get = L at *
    clear hst
    have hrw := gM_all hraw zero_raw
    unfold sLightM
    generalize hL : lft Try.prog _ = L
    try unfold leafG
    try unfold msgCl
    try unfold msgG
    try unfold msgC
    generalize ho0 : @lK = zo0, ho1 : @lV = zo1, ho2 : @lI = zo2, ho3 : @lP = zo3, ho4 : @lN = zo4, ho5 : @pG = zo5, ho6 : @rN = zo6, ho7 : @lenL = zo7, ho8 : @msgOf = zo8, ho9 : @lightM = zo9, ho10 : @msgPre0 = zo10, ho11 : @gM = zo11, ho12 : @msgsL = zo12, ho13 : @msgsPre0 = zo13, ho14 : @lightMs = zo14, ho15 : @lightMAt = zo15
    generalize hA : Arith.std = A
    cbv
    subst hA hL ho0 ho1 ho2 ho3 ho4 ho5 ho6 ho7 ho8 ho9 ho10 ho11 ho12 ho13 ho14 ho15
    refine Ife.mk (fun h => ?_) (fun h => ?_)
    · replace h : (70 : Int) < @Nat.cast Int instNatCastInt n := of_decide_eq_true (p := (70 : Int) < (n : Int)) h
      rw [show lightMs L = false from by unfold lightMs; rw [decide_eq_false (by omega), Bool.false_and]]
      exact ⟨[0], ⟨rfl, by repeat' (first | exact trivial | exact rfl | apply And.intro | exact (fun _ _ _ _ => Cell.le_refl _) | (intro i hi; rfl) | (intro i hi; exact absurd hi (Nat.not_lt_zero _))), by decide, rfl, by repeat' (first | exact trivial | exact rfl | apply And.intro | exact (fun _ _ _ _ => Cell.le_refl _) | (intro i hi; rfl) | (intro i hi; exact absurd hi (Nat.not_lt_zero _)))⟩⟩
    replace h : ¬ (70 : Int) < @Nat.cast Int instNatCastInt n := of_decide_eq_false (p := (70 : Int) < (n : Int)) h
    have hn : n ≤ 70 := by omega
    show Runs Try.prog 1 (.loop _) _ _
    refine loop_ruleL (N := env (lft Try.prog 1) 0 .std tbR [(49, appFn [] [(140, 204), (140, 204)] sLightM)] []) rfl tbR_ok hC (fun c st K _ h => h) (by kernel_rfl) [] (X := LIx n (lightMAt L))
      (S := fun x => ⟨[.c (.row 0), .any, .any, .c (.int .i64 x.i)] ++ List.replicate 15 .any, [.data fr 74 50 n (msgG false L)]⟩) (μ := fun x => n - x.i.toNat) ⟨0, by omega, by omega, fun k hk => absurd hk (Nat.not_lt_zero _)⟩ (by kernel_rfl) [0] ?_ ?_
    · refine ⟨rfl, by show List.Nodup []; exact List.nodup_nil, ?_, ?_⟩ <;> repeat' (first | exact trivial | exact rfl | apply And.intro | exact (fun _ _ _ _ => Cell.le_refl _) | (intro i hi; rfl) | (intro i hi; exact absurd hi (Nat.not_lt_zero _)))
    rintro ⟨j, hj0, hjn, hP⟩
    unfold sLightM
    generalize hL : lft Try.prog _ = L
    try dsimp only
    try unfold leafG
    try unfold msgCl
    try unfold msgG
    try unfold msgC
    generalize ho0 : @lK = zo0, ho1 : @lV = zo1, ho2 : @lI = zo2, ho3 : @lP = zo3, ho4 : @lN = zo4, ho5 : @pG = zo5, ho6 : @rN = zo6, ho7 : @lenL = zo7, ho8 : @msgOf = zo8, ho9 : @lightM = zo9, ho10 : @msgPre0 = zo10, ho11 : @gM = zo11, ho12 : @msgsL = zo12, ho13 : @msgsPre0 = zo13, ho14 : @lightMs = zo14, ho15 : @lightMAt = zo15
    generalize hA : Arith.std = A
    cbv
    subst hA hL ho0 ho1 ho2 ho3 ho4 ho5 ho6 ho7 ho8 ho9 ho10 ho11 ho12 ho13 ho14 ho15
    replace hj0 : 0 ≤ j := hj0
    replace hjn : j ≤ @Nat.cast Int instNatCastInt n := hjn
    replace hP : ∀ i, i < j.toNat → lightMAt L i = true := hP
    refine Ife.mk (fun hlt => ?_) (fun hlt => ?_)
    · replace hlt : j < @Nat.cast Int instNatCastInt n := of_decide_eq_true (p := j < (n : Int)) hlt
      refine Need.mk (show 0 ≤ j ∧ j < (n : Int) by omega) fun _ => Need.mk (show j.toNat < n by omega) fun _ => ?_
      have hr := hrw j.toNat
      refine Need.mk (msgPre0_g hr) fun _ => ?_
      refine Ife.conv' (b' := !lightMAt L j.toNat) (congrArg (fun m => !lightM m) (msgOf_g (a := .row 0) (b := .row 1) hr.raw)) ?_
      refine Ife.mk (fun hq => ?_) (fun hq => ?_)
      · rw [Bool.not_eq_true'] at hq
        have e : lightMs L = false := by
          unfold lightMs
          rw [Bool.and_eq_false_iff]
          refine Or.inr ?_
          rw [← Bool.not_eq_true, List.all_eq_true]
          intro ha
          have := ha j.toNat (List.mem_range.2 (by omega))
          rw [show lightM (gM L j.toNat) = false from hq] at this
          cases this
        rw [e]
        exact ⟨[0], ⟨rfl, by repeat' (first | exact trivial | exact rfl | apply And.intro | exact (fun _ _ _ _ => Cell.le_refl _) | (intro i hi; rfl) | (intro i hi; exact absurd hi (Nat.not_lt_zero _))), by decide, rfl, by repeat' (first | exact trivial | exact rfl | apply And.intro | exact (fun _ _ _ _ => Cell.le_refl _) | (intro i hi; rfl) | (intro i hi; exact absurd hi (Nat.not_lt_zero _)))⟩⟩
      · rw [Bool.not_eq_false'] at hq
        refine Need.mk (by show fitStd .i64 (j + 1); unfold fitStd; omega) fun _ => ?_
        refine ⟨⟨j + 1, by omega, by omega, lix_next hj0 hP hq⟩, [0], (by show n - (j + 1).toNat < n - j.toNat; omega), ?_⟩
        refine ⟨rfl, by show List.Nodup []; exact List.nodup_nil, ?_, ?_⟩ <;> repeat' (first | exact trivial | exact rfl | apply And.intro | exact (fun _ _ _ _ => Cell.le_refl _) | (intro i hi; rfl) | (intro i hi; exact absurd hi (Nat.not_lt_zero _)))
    · replace hlt : ¬ j < @Nat.cast Int instNatCastInt n := of_decide_eq_false (p := j < (n : Int)) hlt
      have e : lightMs L = true := by
        unfold lightMs
        rw [decide_eq_true (by omega), Bool.true_and, List.all_eq_true]
        intro i hi
        exact hP i (by have := List.mem_range.1 hi; omega)
      rw [e]
      exact ⟨[0], ⟨rfl, by repeat' (first | exact trivial | exact rfl | apply And.intro | exact (fun _ _ _ _ => Cell.le_refl _) | (intro i hi; rfl) | (intro i hi; exact absurd hi (Nat.not_lt_zero _))), by decide, rfl, by repeat' (first | exact trivial | exact rfl | apply And.intro | exact (fun _ _ _ _ => Cell.le_refl _) | (intro i hi; rfl) | (intro i hi; exact absurd hi (Nat.not_lt_zero _)))⟩⟩

end Go.Proofs.Ytcgoaicifjndpaa.Vx
end
