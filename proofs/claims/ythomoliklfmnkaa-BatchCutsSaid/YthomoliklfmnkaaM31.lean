/- The document's transactions read, by the walker. -/
import Derived.Test.YthomoliklfmnkaaM29
import Derived.Test.YthomoliklfmnkaaM27
import Derived.Test.YthomoliklfmnkaaM28
import Derived.Test.YthomoliklfmnkaaM30
import Derived.Test.YthomoliklfmnkaaM26
section
namespace Go.Proofs.Ythomoliklfmnkaa.Vx
open Go.RowKit
set_option linter.unusedVariables false
set_option linter.unusedSimpArgs false
attribute [local cbv_opaque] lK lV lI lP lN pG leafL leafOf leavesPre hsL rN plainM msgPre lenL nextB between sameM mayM msgOf mayPkt wN wT wH wLeaf wPath wLeaves wProof wPk wMsg wMsgPre prWPre hashOf putW numW numBad textW fitNum fitText fitPut fitPk isI64 msgB encMsg bytesW badW Pkt.fits noRt zeroMsg lightM msgPre0 leavesAt0 gM msgsL msgsPre msgsPre0 lightMs lightMAt txM txB flatE textB Leb.put

end Go.Proofs.Ythomoliklfmnkaa.Vx
end

section
/- Slices of messages that come in, opened. -/
namespace Go.Proofs.Ythomoliklfmnkaa
open Go.ChangeShapes Go.WideShapes Go.ChangeAt Go.RowKit
set_option linter.unusedVariables false
set_option linter.unusedSimpArgs false
set_option maxRecDepth 100000
section
variable {H : Type} {enc : TypeId × Value → H} {w : World} {base : Nat}
/-- Values that cells show. -/
def ShL (w : World) (D : Bool → Nat → Prop) : List Vx.Cell → List Value → Prop
  | [], [] => True
  | c :: cs, v :: vs => c.shows w D v ∧ ShL w D cs vs
  | _, _ => False
theorem ShL.app {D : Bool → Nat → Prop} : ∀ {a b : List Vx.Cell} {x y : List Value}, ShL w D a x → ShL w D b y → ShL w D (a ++ b) (x ++ y)
  | [], _, [], _, _, h => h
  | _ :: _, _, _ :: _, _, h, k => ⟨h.1, h.2.app k⟩
  | [], _, _ :: _, _, h, _ => absurd h id
  | _ :: _, _, [], _, h, _ => absurd h id
theorem ShL.pl {D : Bool → Nat → Prop} : ∀ {cs : List Vx.CV} {vs : List Value}, Vx.IsL [] cs vs → ShL w D (cs.map Vx.Cell.pl) vs
  | [], [], _ => trivial
  | c :: cs, v :: vs, h => by
    have h : c.den [] :: cs.map (Vx.CV.den []) = some v :: vs.map some := h
    exact ⟨(List.cons.inj h).1, ShL.pl (List.cons.inj h).2⟩
  | [], _ :: _, h => by cases h
  | _ :: _, [], h => by cases h
theorem ShL.get {D : Bool → Nat → Prop} : ∀ {cs : List Vx.Cell} {vs : List Value} {j : Nat}, ShL w D cs vs → j < cs.length → ∃ u, vs[j]? = some u ∧ (cs.getD j (.pl .tt)).shows w D u
  | c :: cs, v :: vs, 0, h, _ => ⟨v, rfl, h.1⟩
  | c :: cs, v :: vs, j + 1, h, hj => by
    obtain ⟨u, h1, h2⟩ := h.2.get (j := j) (by simpa using hj)
    exact ⟨u, by simpa using h1, by simpa using h2⟩
  | [], _, _, _, hj => absurd hj (by simp)
  | _ :: _, [], _, h, _ => absurd h id
theorem MsgIn.sh {l : List Value} {m : Vx.PMsg} (h : MsgIn w l m) : ShL w (fun _ b => b < w.heap.size) (Vx.msgCl false m) l := by
  rw [h.cells]
  unfold Vx.msgCl
  refine ⟨rfl, rfl, rfl, ShL.app (ShL.pl (isL_h32r h.len)) (ShL.app ?_ ⟨rfl, rfl, rfl, rfl, h.pl, rfl, h.cl, trivial⟩)⟩
  exact ShL.pl (cs := Vx.pkC m.pk) (vs := m.pk.cells.toList) rfl
theorem MsgIn.raw {l : List Value} {m : Vx.PMsg} (h : MsgIn w l m) : Vx.MsgRaw m := ⟨h.fits, h.len, h.by', h.ack, h.pok, h.cok⟩
/-- Messages that come in, as data. -/
theorem trod_Msgs {fuel : Nat} {l : List Value} {x : DataW H × List MemPlace} (hf : DataW.trod enc Try.prog w 0 (fun _ => true) true fuel 38 l = some x) :
    ∃ (v : Value) (L : List Vx.PMsg), l = [v] ∧ (Vx.Cell.ns false 60 50 L.length (Vx.msgG false L)).shows w (fun _ b => b < w.heap.size) v ∧ L.length ≤ maxLen ∧ ∀ m ∈ L, Vx.MsgRaw m := by
  obtain ⟨a, cap, xs, e, hsl, hx⟩ := trod_sl (sz := 50) (P := fun l => ∃ m, Nonempty (MsgIn w l m)) (by decide) Try.underlying38 cellsM_Msg (fun fuel l x hl => ⟨by
    obtain ⟨xs, m, _, _, hl, hlen, hff⟩ := DataW.trod_struct Try.underlying60 hl
    rw [cellsM_Msg] at hl
    exact hl, trod_Msg hl⟩) hf
  obtain ⟨f, hf⟩ : ∃ f : Nat → Vx.PMsg, ∀ i (hi : i < xs.length), Nonempty (MsgIn w xs[i] (f i)) := by
    refine ⟨fun i => if h : i < xs.length then Classical.choose (hx xs[i] (List.getElem_mem h)).2 else Vx.zeroMsg, fun i hi => ?_⟩
    dsimp only
    rw [dif_pos hi]
    exact Classical.choose_spec (hx xs[i] (List.getElem_mem hi)).2
  refine ⟨_, (List.range xs.length).map f, e, ⟨a, cap, by simp, by simpa using hsl.cap, fun h0 => ?_⟩, by simpa using hsl.max, fun y hy => ?_⟩
  rotate_left
  · obtain ⟨i, hi, rfl⟩ := List.mem_map.1 hy
    obtain ⟨k⟩ := hf i (by simpa using hi)
    exact k.raw
  obtain ⟨b, off, ha, hb, hc⟩ := hsl.lt (by simpa using h0)
  refine ⟨b, off, ha, hb, fun i j hi hj => ?_⟩
  have hi' : i < xs.length := by simpa using hi
  obtain ⟨k⟩ := hf i hi'
  have el : Vx.gM ((List.range xs.length).map f) i = f i := by simp [Vx.gM, List.getD, hi']
  obtain ⟨u, h1, h2⟩ := k.sh.get (j := j) hj
  refine ⟨u, hc i hi' j u h1, ?_⟩
  unfold Vx.msgG
  rw [el]
  exact h2
theorem open_Msgs {v : Value} {d : DataW H} {p : List MemPlace} (hv : Value.okWide Try.prog w .any base 38 v) (h : DataW.Trod enc Try.prog w 0 (fun _ => true) true 38 v d p) :
    ∃ L : List Vx.PMsg, (Vx.Cell.ns false 60 50 L.length (Vx.msgG false L)).shows w (fun _ b => b < w.heap.size) v ∧ L.length ≤ maxLen ∧ ∀ m ∈ L, Vx.MsgRaw m := by
  obtain ⟨a, n, cap, rfl, _⟩ := okWide_slice Try.underlying38 hv
  obtain ⟨fuel, hf⟩ := h
  simp only [Value.cells] at hf
  obtain ⟨v, L, e, h1, h2, h3⟩ := trod_Msgs hf
  obtain rfl : Value.slice a n cap = v := by simpa using e
  exact ⟨L, h1, h2, h3⟩
/-- Messages that came in, as an entry of a law's start. -/
theorem Vx.Rel.addMsgs {ρ : List Vx.Pl} {h : List Vx.Ent} (r : Vx.Rel w (Vx.Gs.all []) ρ h w) {L : List Vx.PMsg} {v : Value} (hs : (Vx.Cell.ns false 60 50 L.length (Vx.msgG false L)).shows w (fun _ b => b < w.heap.size) v) :
    ∃ q : Vx.Pl, q.v = v ∧ Vx.Rel w (Vx.Gs.all []) (ρ ++ [q]) (h ++ [.data false 60 50 L.length (Vx.msgG false L)]) w := by
  have old : ∀ D' : Bool → Nat → Prop, (∀ b, b < w.heap.size → D' false b) → (Vx.Cell.ns false 60 50 L.length (Vx.msgG false L)).shows w D' v := fun D' hD => by
    have e : (Vx.Cell.ns false 60 50 L.length (Vx.msgG false L)).old = .ns false 60 50 L.length (Vx.msgG false L) := by
      show Vx.Cell.ns false _ _ _ (fun i j => (Vx.msgG false L i j).old) = _
      congr 1
      funext i j
      exact Vx.msgG_old
    have := Vx.Cell.shows_old (D' := D') (fun fr b hb => ⟨hD b hb, rfl⟩) hs
    rwa [e] at this
  have hs0 := hs
  obtain ⟨a, cap, h1, h2, h3⟩ := hs0
  by_cases hn : 0 < L.length
  · obtain ⟨b, o, ha, _, _⟩ := h3 hn
    exact ⟨⟨b, v, o⟩, rfl, r.addS (en := .data false _ 50 L.length (Vx.msgG false L)) (q := ⟨b, v, o⟩) rfl ⟨a, cap, h1, h2, fun _ => ha⟩ fun _ => old _ fun b hb => Or.inl ⟨hb, by simp, trivial⟩⟩
  · exact ⟨⟨0, v, 0⟩, rfl, r.addS (en := .data false _ 50 L.length (Vx.msgG false L)) (q := ⟨0, v, 0⟩) rfl ⟨a, cap, h1, h2, fun h => absurd h hn⟩ fun _ => old _ fun b hb => Or.inl ⟨hb, by simp, trivial⟩⟩
end
end Go.Proofs.Ythomoliklfmnkaa
end

section
/- The law TxTells, by the walker. -/
namespace Go.Proofs.Ythomoliklfmnkaa.Vx
open Go.RowKit
set_option linter.unusedVariables false
set_option linter.unusedSimpArgs false
theorem lightMs_ok {L : List PMsg} (h : lightMs L = true) (hr : ∀ m ∈ L, MsgRaw m) : L.length ≤ 70 ∧ ∀ m ∈ L, MsgOk m := by
  unfold lightMs at h
  simp only [Bool.and_eq_true, decide_eq_true_iff] at h
  refine ⟨h.1, fun m hm => ?_⟩
  obtain ⟨i, hi, rfl⟩ := List.getElem_of_mem hm
  have := List.all_eq_true.1 h.2 i (List.mem_range.2 hi)
  rw [gM_eq hi] at this
  exact (hr _ hm).ok this
theorem msgs_den {w : World} {L : List PMsg} {v : Value} {ρ : List Pl} {k : Nat} {q : Pl} (hs : (Cell.ns false 60 50 L.length (msgG false L)).shows w (fun _ b => b < w.heap.size) v) (hq : q.v = v) (hk : ρ[k]? = some q := by rfl) : CV.den ρ (.row k) = some v := by
  obtain ⟨a, cap, h1, -⟩ := hs
  simp only [CV.den, hk]
  rw [hq, h1]
  rfl
theorem msgsPre0_law {L : List PMsg} (h : ∀ m ∈ L, MsgRaw m) (hl : L.length ≤ 9223372036854775807) : msgsPre0 60 50 L.length (msgG false L) := by
  have e : msgsL L.length (msgG false L) = L := msgsL_eq rfl (fun m hm => (h m hm).raw) fun _ _ _ _ => rfl
  exact ⟨rfl, rfl, fun i j _ _ => by rw [e], by rw [e]; exact h, hl⟩
attribute [local cbv_opaque] lK lV lI lP lN pG leafL leafOf leavesPre hsL rN plainM msgPre lenL nextB between sameM mayM msgOf mayPkt wN wT wH wLeaf wPath wLeaves wProof wPk wMsg wMsgPre prWPre hashOf putW numW numBad textW fitNum fitText fitPut fitPk isI64 msgB encMsg bytesW badW Pkt.fits noRt zeroMsg lightM msgPre0 leavesAt0 gM msgsL msgsPre msgsPre0 lightMs lightMAt txM txB flatE textB Leb.put


end Go.Proofs.Ythomoliklfmnkaa.Vx
namespace Go.Proofs.Ythomoliklfmnkaa
open Go.RowKit
set_option linter.unusedVariables false
end Go.Proofs.Ythomoliklfmnkaa
end

section
/- The law BatchMore, by the walker. -/
namespace Go.Proofs.Ythomoliklfmnkaa.Vx
open Go.RowKit
set_option linter.unusedVariables false
set_option linter.unusedSimpArgs false
theorem more_lost {F F' : Nat → Bool} {G : Nat → Int} (h : ∀ i, F i = true → F' i = true) : ∀ n, (skip F' G n).lg.Sublist (skip F G n).lg ∧ (skip F' G n).lost.Sublist (skip F G n).lost
  | 0 => ⟨List.Sublist.refl _, List.Sublist.refl _⟩
  | n + 1 => by
    obtain ⟨h1, h2⟩ := more_lost h n
    rw [skip_succ, skip_succ]
    unfold skStep
    by_cases o' : skOut F' G (skip F' G n).lg n = true
    · have o : skOut F G (skip F G n).lg n = true := by
        unfold skOut at o' ⊢
        simp only [Bool.or_eq_true, Bool.and_eq_true, decide_eq_true_iff, Bool.not_eq_true'] at o' ⊢
        rcases o' with ⟨a, b⟩ | a
        · exact Or.inl ⟨a, h1.subset b⟩
        · refine Or.inr ?_
          cases hF : F n
          · rfl
          · rw [h n hF] at a; cases a
      rw [if_pos o', if_pos o]
      exact ⟨h1.append (List.Sublist.refl _), h2.append (List.Sublist.refl _)⟩
    · rw [if_neg o']
      split
      · exact ⟨h1.trans (List.sublist_append_left _ _), h2.trans (List.sublist_append_left _ _)⟩
      · exact ⟨h1, h2⟩
theorem mem_take_succ {A : List Int} {k : Nat} {x : Int} (h : k < A.length) : decide (x ∈ A.take (k + 1)) = (decide (x ∈ A.take k) || decide (iA A k = x)) := by
  rw [take_snoc h, Bool.eq_iff_iff]
  simp only [decide_eq_true_iff, Bool.or_eq_true, List.mem_append, List.mem_singleton]
  exact ⟨fun h => h.imp id Eq.symm, fun h => h.imp id Eq.symm⟩
def inPre2b (ty one n : Nat) (get : Nat → List CV) : Prop := ty = 3 ∧ one = 1 ∧ InAt n get ∧ n ≤ 9223372036854775807
attribute [local cbv_opaque] lK lV lI lP lN pG leafL leafOf leavesPre hsL rN plainM msgPre lenL nextB between sameM mayM msgOf mayPkt wN wT wH wLeaf wPath wLeaves wProof wPk wMsg wMsgPre prWPre hashOf putW numW numBad textW fitNum fitText fitPut fitPk isI64 msgB encMsg bytesW badW Pkt.fits noRt zeroMsg lightM msgPre0 leavesAt0 gM msgsL msgsPre msgsPre0 lightMs lightMAt txM txB flatE textB Leb.put stepsL priceM totalM fitsM skip skStep skOut skPre IsMs mpGet mpSet groupOf iA iL catC pushC inPre rgo placeM skOf cutT oneM txG lightMs lightMAt msgsPre0 inPre2b


end Go.Proofs.Ythomoliklfmnkaa.Vx
namespace Go.Proofs.Ythomoliklfmnkaa
open Go.RowKit
set_option linter.unusedVariables false
end Go.Proofs.Ythomoliklfmnkaa
end

section
/- ligref22.Cut, by the walker. -/
namespace Go.Proofs.Ythomoliklfmnkaa.Vx
open Go.RowKit
set_option linter.unusedVariables false
set_option linter.unusedSimpArgs false
/-- One place more. -/
def rstep (F : List PMsg → Bool) (m : Int → PMsg) (s : List (List Int) × List Int × List PMsg) (r : Int) : List (List Int) × List Int × List PMsg :=
  if s.2.1 ≠ [] ∧ F (s.2.2 ++ [m r]) = false then (s.1 ++ [s.2.1], [r], [m r]) else (s.1, s.2.1 ++ [r], s.2.2 ++ [m r])
def rfin (s : List (List Int) × List Int × List PMsg) : List (List Int) := if s.2.1 = [] then s.1 else s.1 ++ [s.2.1]
theorem rgo_fold (F : List PMsg → Bool) (m : Int → PMsg) : ∀ (rs : List Int) (T : List (List Int)) (now : List Int) (cur : List PMsg), rgo F m T now cur rs = rfin (rs.foldl (rstep F m) (T, now, cur))
  | [], T, now, cur => rfl
  | r :: rs, T, now, cur => by
    rw [List.foldl_cons]
    unfold rgo
    split
    · rename_i h
      rw [rgo_fold F m rs, show rstep F m (T, now, cur) r = (T ++ [now], [r], [m r]) from if_pos h]
    · rename_i h
      rw [rgo_fold F m rs, show rstep F m (T, now, cur) r = (T, now ++ [r], cur ++ [m r]) from if_neg h]
theorem cutT_fold {g b c : Int} {U M : List PMsg} {gs : List Int} : cutT g b c U M gs = rfin ((skOf g b c U M gs).rest.foldl (rstep (fitsM g b c) (placeM M)) ([], [], U)) := rgo_fold _ _ _ _ _ _
theorem fold_snoc {α β : Type} (f : β → α → β) (l : List α) (x : α) (s : β) : (l ++ [x]).foldl f s = f (l.foldl f s) x := by rw [List.foldl_append]; rfl
theorem push_new {T : List (List Int)} {na n ty : Nat} {g : Nat → List CV} : newR (na + 1) 1 (pushC na (txG T) [.es true ty 1 n g]) := fun i j hi hj => by
  have hj0 : j = 0 := by omega
  subst hj0
  unfold pushC
  cases Nat.blt i na <;> rfl
/-- The document's loop. -/
structure LCu (F : List PMsg → Bool) (m : Int → PMsg) (U : List PMsg) (FW : Nat → Bool) (G : Nat → Int) (n : Nat) where
  k : Nat
  lg : List Int
  lost : List Int
  rest : List Int
  T : List (List Int)
  now : List Int
  cur : List PMsg
  na : Nat
  nl : Nat
  nT : Nat
  nn : Nat
  nc : Nat
  h1 : k ≤ n
  hs : skip FW G k = ⟨lg, lost, rest⟩
  hr : rest.foldl (rstep F m) ([], [], U) = (T, now, cur)
  ok : ∀ x ∈ cur, MsgOk x
  ha : na = lg.length
  hl : nl = lost.length
  hT : nT = T.length
  hn : nn = now.length
  hc : cur.length = nc
  bT : nT ≤ k
  bn : nn ≤ k
  bc : nc ≤ k + 1
/-- Was the group lost? -/
structure LIl (lg : List Int) (g : Int) (o0 : Bool) (na : Nat) where
  q : Nat
  b : Bool
  h1 : q ≤ na
  hb : b = (o0 || (decide (0 < g) && decide (g ∈ lg.take q)))
theorem lost_succ {lg : List Int} {g : Int} {o0 b : Bool} {q : Nat} (h : q < lg.length) (hb : b = (o0 || (decide (0 < g) && decide (g ∈ lg.take q)))) : (o0 || (decide (0 < g) && decide (g ∈ lg.take (q + 1)))) = (b || (decide (0 < g) && decide (iA lg q = g))) := by
  rw [mem_take_succ h, hb]
  cases o0 <;> cases decide (0 < g) <;> cases decide (g ∈ lg.take q) <;> rfl
attribute [local cbv_opaque] lK lV lI lP lN pG leafL leafOf leavesPre hsL rN plainM msgPre lenL nextB between sameM mayM msgOf mayPkt wN wT wH wLeaf wPath wLeaves wProof wPk wMsg wMsgPre prWPre hashOf putW numW numBad textW fitNum fitText fitPut fitPk isI64 msgB encMsg bytesW badW Pkt.fits noRt zeroMsg lightM msgPre0 leavesAt0 gM msgsL msgsPre msgsPre0 lightMs lightMAt txM txB flatE textB Leb.put stepsL priceM totalM fitsM skip skStep skOut skPre IsMs mpGet mpSet groupOf iA iL catC pushC inPre rgo placeM skOf cutT oneM txG rstep rfin lightMs
set_option maxRecDepth 100000 in
set_option maxHeartbeats 32000000 in
theorem rcutP : Fn Try.prog 17 [] [(60, 250), (60, 250), (3, 1)] sCut := by
  have hC : CtsOk Try.prog [(36, appWith1), (37, appWith), (21, appFn [] [(60, 250)] sFits)] := CtsOk.cons (with1Ct) <| CtsOk.cons (withCt) <| CtsOk.cons (Fn.ct rfitsP) <| CtsOk.nil _
  refine Fn.ofRZ (E := tbB) tbB_ok Try.func17 rfl rfl rfl (by kernel_rfl) 3 (.orow 39 1 0 (txG [])) rfl ?_ ?_
  · intro args h pre r h' hs
    unfold sCut at hs
    split at hs
    · cases hs; exact ⟨rfl, rfl, Nat.le_of_ble_eq_true rfl⟩
    · cases hs
  · intro args h pre r h' hs hp
    unfold sCut at hs
    split at hs
    rotate_left
    · cases hs
    rename_i g b c ty sz n get ty' sz' n' get' it one n2 get2
    cases hs
    obtain ⟨⟨rfl, rfl, hst, hok, hm⟩, ⟨rfl, rfl, hst', hok', hm'⟩, ⟨rfl, rfl, hin, hi2⟩, hn1, hn2⟩ := hp
    refine ⟨[.data false 60 50 n (msgG false (msgsL n get)), .data false 60 50 n' (msgG false (msgsL n' get')), .elems 3 1 n2 (inG (iL n2 get2))], ⟨⟨rfl, rfl, rfl, rfl, fun i j hi hj => by rw [hst i j hi hj]; exact Cell.le_refl _⟩, ⟨rfl, rfl, rfl, rfl, fun i j hi hj => by rw [hst' i j hi hj]; exact Cell.le_refl _⟩, ⟨rfl, rfl, rfl, fun i hi => by rw [← hin.eq hi]⟩, trivial⟩, ?_⟩
    have hL : (msgsL n get).length = n := msgsL_len
    have hL' : (msgsL n' get').length = n' := msgsL_len
    have hZ : (iL n2 get2).length = n2 := iL_len
    generalize msgsL n get = L at *
    generalize msgsL n' get' = K at *
    generalize iL n2 get2 = Z at *
    clear hst hst' hin
    have ho := gM_all hok zeroMsg_ok
    have ho' := gM_all hok' zeroMsg_ok
    have hn0 : (min (n : Int) 1 - 0).toNat ≤ n ∧ (min (n : Int) 1 - 0).toNat ≤ 1 := by omega
    have hU := IsMs.take hL hn0.1
    have hU1 : L.take (min (n : Int) 1 - 0).toNat = L.take 1 := by
      rcases (by omega : n = 0 ∨ (min (n : Int) 1 - 0).toNat = 1) with h | h
      · have : L = [] := List.eq_nil_of_length_eq_zero (by omega)
        rw [this]; simp
      · rw [h]
    rw [hU1] at hU
    obtain ⟨U, hUd⟩ : ∃ U, U = L.take 1 := ⟨_, rfl⟩
    rw [← hUd] at hU
    rw [show oneM L = U from hUd.symm]
    have hokU : ∀ x ∈ U, MsgOk x := fun x hx => hok x (List.mem_of_mem_take (hUd ▸ hx))
    have hUl : U.length = (min (n : Int) 1 - 0).toNat := hU.1
    obtain ⟨nu, hnu⟩ : ∃ nu, U.length = nu := ⟨_, rfl⟩
    have hnu1 : nu ≤ 1 := by omega
    have hUn : (min (n : Int) 1 - 0).toNat = nu := by omega
    have hUe : ∀ i j, i < nu → j < 50 → Cell.le (msgG false L (0 + i) j) (msgG false U i j) := fun i j hi hj => by
      have h := hU.2 i j (hUn.symm ▸ hi) hj
      rw [show (msgG false L (0 + i) j).old = msgG false L (0 + i) j from msgG_old] at h
      show Cell.le (msgG false L (0 + i) j) _
      rw [h]
      exact Cell.le_refl _
    rw [cutT_fold]
    have hS : skOf g b c U K Z = skip (fitsWith g b c U K) (groupOf n' Z) n' := by unfold skOf; rw [hL']
    rw [hS]
    refine Runs.cutT ⟨[.any, .c (.row 0), .c (.row 1), .c (.row 2), .c (.ptr 3 0)] ++ List.replicate 111 .any, [.data false 60 50 n (msgG false L), .data false 60 50 n' (msgG false K), .elems 3 1 n2 (inG Z), .cells 37 [.int .i64 g, .int .i64 b, .int .i64 c]]⟩ ?_ ?_
    · refine exec_ok (N := env (lft Try.prog 3) 0 .std tbB [(36, appWith1), (37, appWith), (21, appFn [] [(60, 250)] sFits)] [(11, [(0, true), (1, true), (2, true), (3, true), (4, true), (5, false), (6, false), (7, false), (8, true), (9, true)]), (19, [(0, true), (1, true), (2, true), (3, true), (4, true), (5, true), (6, true), (7, true), (8, true), (9, false), (10, false), (11, false), (12, true), (13, true)])]) rfl tbB_ok hC (fun c st K _ h => h) (by kernel_rfl) [] _ _ _ (by kernel_rfl) ?_
      unfold sFits
      generalize hg0 : (List.length : List UInt8 → Nat) = g0
      generalize hL : lft Try.prog _ = L
      generalize hA : Arith.std = A
      set_option cbv.maxSteps 6000000 in cbv
      subst hA hg0 hL
      exact StT.ofL (σ := [0, 1, 2, 3]) ⟨rfl, by show List.Nodup [3]; decide, by repeat' (first | exact trivial | exact rfl | apply And.intro | exact (fun _ _ _ _ => Cell.le_refl _) | (intro i hi; rfl) | (intro i hi; exact absurd hi (Nat.not_lt_zero _))), by repeat' (first | exact trivial | exact rfl | apply And.intro | exact (fun _ _ _ _ => Cell.le_refl _) | (intro i hi; rfl) | (intro i hi; exact absurd hi (Nat.not_lt_zero _)))⟩
    refine Runs.cutT ⟨[.any, .c (.row 4), .c (.row 1), .c (.row 2), .c (.ptr 3 0)] ++ List.replicate 111 .any, [.data false 60 50 n (msgG false L), .data false 60 50 n' (msgG false K), .elems 3 1 n2 (inG Z), .cells 37 [.int .i64 g, .int .i64 b, .int .i64 c], .data false 60 50 nu (msgG false U)]⟩ ?_ ?_
    · refine exec_ok (N := env (lft Try.prog 3) 0 .std tbB [(36, appWith1), (37, appWith), (21, appFn [] [(60, 250)] sFits)] [(11, [(0, true), (1, true), (2, true), (3, true), (4, true), (5, false), (6, false), (7, false), (8, true), (9, true)]), (19, [(0, true), (1, true), (2, true), (3, true), (4, true), (5, true), (6, true), (7, true), (8, true), (9, false), (10, false), (11, false), (12, true), (13, true)])]) rfl tbB_ok hC (fun c st K _ h => h) (by kernel_rfl) [] _ _ _ (by kernel_rfl) ?_
      unfold sFits
      generalize hg0 : (List.length : List UInt8 → Nat) = g0
      generalize hL : lft Try.prog _ = L
      generalize hA : Arith.std = A
      set_option cbv.maxSteps 6000000 in cbv
      subst hA hg0 hL
      refine Need.mk (show (0 : Int) ≤ 0 ∧ (0 : Int) ≤ min (n : Int) 1 ∧ min (n : Int) 1 ≤ (n : Int) by omega) fun _ => ?_
      exact StT.trans (StT.part (d := 1) rfl rfl) (StT.ofL (σ := [0, 1, 2, 3, 4]) ⟨rfl, by show List.Nodup [3]; decide, by repeat' (first | exact trivial | exact hUn | exact hUe | exact rfl | apply And.intro | exact (fun _ _ _ _ => Cell.le_refl _) | (intro i hi; rfl) | (intro i hi; exact absurd hi (Nat.not_lt_zero _))), by repeat' (first | exact trivial | exact hUn | exact hUe | exact rfl | apply And.intro | exact (fun _ _ _ _ => Cell.le_refl _) | (intro i hi; rfl) | (intro i hi; exact absurd hi (Nat.not_lt_zero _)))⟩)
    refine exec_ok (N := env (lft Try.prog 3) 0 .std tbB [(36, appWith1), (37, appWith), (21, appFn [] [(60, 250)] sFits)] [(11, [(0, true), (1, true), (2, true), (3, true), (4, true), (5, false), (6, false), (7, false), (8, true), (9, true)]), (19, [(0, true), (1, true), (2, true), (3, true), (4, true), (5, true), (6, true), (7, true), (8, true), (9, false), (10, false), (11, false), (12, true), (13, true)])]) rfl tbB_ok hC (fun c st K _ h => h) (by kernel_rfl) [] _ _ _ (by kernel_rfl) ?_
    unfold sFits
    generalize hg0 : (List.length : List UInt8 → Nat) = g0
    generalize hL : lft Try.prog _ = L
    generalize hA : Arith.std = A
    set_option cbv.maxSteps 6000000 in cbv
    subst hA hg0 hL
    refine Need.mk (show nu ≤ 1000000 by omega) fun _ => ?_
    show Runs Try.prog 3 (.loop _) _ _
    refine loop_ruleE (N := env (lft Try.prog 3) 0 .std tbB [(36, appWith1), (37, appWith), (21, appFn [] [(60, 250)] sFits)] [(11, [(0, true), (1, true), (2, true), (3, true), (4, true), (5, false), (6, false), (7, false), (8, true), (9, true)]), (19, [(0, true), (1, true), (2, true), (3, true), (4, true), (5, true), (6, true), (7, true), (8, true), (9, false), (10, false), (11, false), (12, true), (13, true)])]) rfl tbB_ok hC (fun c st K _ h => h) (by kernel_rfl) [] (X := LCu (fitsM g b c) (placeM K) U (fitsWith g b c U K) (groupOf n' Z) n')
      (S := fun x => ⟨[.any, .c (.row 4), .c (.row 1), .c (.row 2), .c (.ptr 3 0), .any, .any, .any, .any, .any, .c (.row 5), .c (.row 6), .c (.row 7), .c (.row 8), .c (.row 9), .c (.int .i64 (x.k : Int))] ++ List.replicate 100 .any, [.data false 60 50 n (msgG false L), .data false 60 50 n' (msgG false K), .elems 3 1 n2 (inG Z), .cells 37 [.int .i64 g, .int .i64 b, .int .i64 c], .data false 60 50 nu (msgG false U), .orow 39 1 x.nT (txG x.T), .row 3 1 x.nl (inG x.lost), .row 3 1 x.nn (inG x.now), .row 3 1 x.na (inG x.lg), .orow 60 50 x.nc (msgG false x.cur)]⟩) (μ := fun x => n' - x.k) ⟨0, [], [], [], [], [], U, 0, 0, 0, 0, nu, by omega, rfl, rfl, hokU, rfl, rfl, rfl, rfl, hnu, by omega, by omega, by omega⟩ (by kernel_rfl) ?h0 ?rd
    case h0 =>
      exact StT.trans (StT.nil (d := 10) (.orow 39 1 0 (txG [])) rfl rfl) (StT.trans (StT.nil (d := 11) (.row 3 1 0 (inG [])) rfl rfl) (StT.trans (StT.nil (d := 12) (.row 3 1 0 (inG [])) rfl rfl) (StT.trans (StT.nil (d := 13) (.row 3 1 0 (inG [])) rfl rfl) (StT.ofL (σ := [0, 1, 2, 3, 4, 6, 7, 8, 9, 5]) ⟨rfl, by show List.Nodup [3, 6, 7, 8, 9, 5]; decide, by repeat' (first | exact trivial | exact rfl | apply And.intro | exact (fun _ _ _ _ => Cell.le_refl _) | (intro i hi; rfl) | (intro i hi; exact absurd hi (Nat.not_lt_zero _))), by repeat' (first | exact trivial | exact rfl | apply And.intro | exact (fun _ _ _ _ => Cell.le_refl _) | (intro i hi; rfl) | (intro i hi; exact absurd hi (Nat.not_lt_zero _)))⟩))))
    rintro ⟨k, lg, lost, rest, T, now, cur, na, nl, nT, nn, nc, hk1, hs, hr, hokc, ha, hl, hT, hn, hc, bT, bn, bc⟩
    unfold sFits
    generalize hg0 : (List.length : List UInt8 → Nat) = g0
    generalize hL : lft Try.prog _ = L
    generalize hA : Arith.std = A
    set_option cbv.maxSteps 6000000 in cbv
    subst hA hg0 hL
    refine Ife.mk (fun hlt => ?_) (fun hlt => ?_)
    · have hkn : k < n' := Int.ofNat_lt.mp (of_decide_eq_true (p := (k : Int) < (n' : Int)) hlt)
      clear hlt
      have hkK : k < K.length := by omega
      have hokp : ∀ m ∈ U ++ [gM K k], MsgOk m := fun m hm => by
        rcases List.mem_append.1 hm with h | h
        · exact hokU m h
        · rw [List.mem_singleton.1 h]; exact ho' k
      have hokq : ∀ m ∈ cur ++ [gM K k], MsgOk m := fun m hm => by
        rcases List.mem_append.1 hm with h | h
        · exact hokc m h
        · rw [List.mem_singleton.1 h]; exact ho' k
      have pU := IsMs.pre (L := U ++ [gM K k]) (IsMs.push (g := msgG false U) (ls := msgCl false (gM K k)) (IsMs.msg (fr := false) hnu) msgCl_old) hokp (by omega)
      have pC := IsMs.pre (L := cur ++ [gM K k]) (IsMs.push (g := msgG false cur) (ls := msgCl false (gM K k)) (IsMs.msg (fr := false) hc) msgCl_old) hokq (by omega)
      have hlen := skip_len (F := fitsWith g b c U K) (G := groupOf n' Z) k
      rw [hs] at hlen
      replace hlen : lg.length = lost.length ∧ lost.length + rest.length = k := hlen
      have hpl : placeM K (k : Int) = gM K k := rfl
      have ix : 0 ≤ (k : Int) ∧ (k : Int) < (n' : Int) := ⟨Int.natCast_nonneg k, Int.ofNat_lt.mpr hkn⟩
      refine Ife.mk (fun hn => ?_) (fun hn => ?_)
      · have hnn : n2 = n' := Int.ofNat_inj.mp (of_decide_eq_true (p := (n2 : Int) = (n' : Int)) hn)
        clear hn
        refine Need.mk (show 0 ≤ (k : Int) ∧ (k : Int) < (n2 : Int) from ⟨Int.natCast_nonneg k, Int.ofNat_lt.mpr (hnn.symm ▸ hkn)⟩) fun _ => Need.mk (show k < n2 from hnn.symm ▸ hkn) fun _ => ?_
        generalize hx : iA Z _ = gx
        replace hx : iA Z k = gx := hx
        have eG : groupOf n' Z k = gx := by
          unfold groupOf
          rw [if_pos (hZ.trans hnn), hx]
        refine Need.mk ix fun _ => Need.mk hkn fun _ => ?_
        refine Need.mk (show nu ≤ 1000000 by omega) fun _ => ?_
        refine Need.mk pU.1 fun _ => ?_
        generalize hE : fitsM g b c _ = E
        replace hE : fitsWith g b c U K k = E := (congrArg (fitsM g b c) pU.2.symm).trans hE
        show Runs Try.prog 3 (.loop _) _ _
        refine loop_ruleE (N := env (lft Try.prog 3) 0 .std tbB [(36, appWith1), (37, appWith), (21, appFn [] [(60, 250)] sFits)] [(11, [(0, true), (1, true), (2, true), (3, true), (4, true), (5, false), (6, false), (7, false), (8, true), (9, true)]), (19, [(0, true), (1, true), (2, true), (3, true), (4, true), (5, true), (6, true), (7, true), (8, true), (9, false), (10, false), (11, false), (12, true), (13, true)])]) rfl tbB_ok hC (fun c st K _ h => h) (by kernel_rfl) [] (X := LIl lg gx (!E) na)
          (S := fun x => ⟨[.any, .c (.row 4), .c (.row 1), .c (.row 2), .c (.ptr 3 0), .any, .any, .any, .any, .any, .c (.row 5), .c (.row 6), .c (.row 7), .c (.row 8), .c (.row 9), .c (.int .i64 (k : Int)), .c (.int .i64 gx), .c (.bool x.b), .c (.int .i64 (x.q : Int))] ++ List.replicate 97 .any, [.data false 60 50 n (msgG false L), .data false 60 50 n' (msgG false K), .elems 3 1 n2 (inG Z), .cells 37 [.int .i64 g, .int .i64 b, .int .i64 c], .data false 60 50 nu (msgG false U), .orow 39 1 nT (txG T), .row 3 1 nl (inG lost), .row 3 1 nn (inG now), .row 3 1 na (inG lg), .orow 60 50 nc (msgG false cur)]⟩) (μ := fun x => na - x.q) ⟨0, !E, by omega, by simp⟩ (by kernel_rfl) ?i0 ?ird
        case i0 => exact StT.ofL (σ := [0, 1, 2, 3, 4, 5, 6, 7, 8, 9]) ⟨rfl, by show List.Nodup [3, 5, 6, 7, 8, 9]; decide, by repeat' (first | exact trivial | exact rfl | apply And.intro | exact (fun _ _ _ _ => Cell.le_refl _) | (intro i hi; rfl) | (intro i hi; exact absurd hi (Nat.not_lt_zero _))), by repeat' (first | exact trivial | exact rfl | apply And.intro | exact (fun _ _ _ _ => Cell.le_refl _) | (intro i hi; rfl) | (intro i hi; exact absurd hi (Nat.not_lt_zero _)))⟩
        rintro ⟨q, b1, hq, hb⟩
        unfold sFits
        generalize hg0 : (List.length : List UInt8 → Nat) = g0
        generalize hL : lft Try.prog _ = L
        generalize hA : Arith.std = A
        set_option cbv.maxSteps 6000000 in cbv
        subst hA hg0 hL
        refine Ife.mk (fun hql => ?_) (fun hql => ?_)
        · have hqa : q < na := Int.ofNat_lt.mp (of_decide_eq_true (p := (q : Int) < (na : Int)) hql)
          clear hql
          have hs1 := lost_succ (lg := lg) (g := gx) (o0 := !E) (b := b1) (q := q) (by omega) hb
          refine Ife.mk (fun hb1 => ?_) (fun hb1 => ?_)
          · replace hb1 : b1 = true := hb1
            subst hb1
            refine Need.mk (by show fitStd .i64 ((q : Int) + 1); unfold fitStd; omega) fun _ => ?_
            refine ⟨⟨q + 1, true, by omega, by rw [hs1]; rfl⟩, (by show na - (q + 1) < na - q; omega), ?_⟩
            exact StT.ofL (σ := [0, 1, 2, 3, 4, 5, 6, 7, 8, 9]) ⟨rfl, by show List.Nodup [3, 5, 6, 7, 8, 9]; decide, by repeat' (first | exact trivial | exact rfl | apply And.intro | exact (fun _ _ _ _ => Cell.le_refl _) | (intro i hi; rfl) | (intro i hi; exact absurd hi (Nat.not_lt_zero _))), by repeat' (first | exact trivial | exact rfl | apply And.intro | exact (fun _ _ _ _ => Cell.le_refl _) | (intro i hi; rfl) | (intro i hi; exact absurd hi (Nat.not_lt_zero _)))⟩
          · replace hb1 : b1 = false := hb1
            subst hb1
            refine Ife.mk (fun hx0 => ?_) (fun hx0 => ?_)
            · have hx0 : decide ((0 : Int) < gx) = true := hx0
              refine Need.mk (show 0 ≤ (q : Int) ∧ (q : Int) < (na : Int) from ⟨Int.natCast_nonneg q, Int.ofNat_lt.mpr hqa⟩) fun _ => Need.mk (show q < na from hqa) fun _ => ?_
              refine Need.mk (by show fitStd .i64 ((q : Int) + 1); unfold fitStd; omega) fun _ => ?_
              refine ⟨⟨q + 1, decide (iA lg q = gx), by omega, by rw [hs1, hx0]; rfl⟩, (by show na - (q + 1) < na - q; omega), ?_⟩
              exact StT.ofL (σ := [0, 1, 2, 3, 4, 5, 6, 7, 8, 9]) ⟨rfl, by show List.Nodup [3, 5, 6, 7, 8, 9]; decide, by repeat' (first | exact trivial | exact rfl | apply And.intro | exact (fun _ _ _ _ => Cell.le_refl _) | (intro i hi; rfl) | (intro i hi; exact absurd hi (Nat.not_lt_zero _))), by repeat' (first | exact trivial | exact rfl | apply And.intro | exact (fun _ _ _ _ => Cell.le_refl _) | (intro i hi; rfl) | (intro i hi; exact absurd hi (Nat.not_lt_zero _)))⟩
            · have hx0 : decide ((0 : Int) < gx) = false := hx0
              refine Need.mk (by show fitStd .i64 ((q : Int) + 1); unfold fitStd; omega) fun _ => ?_
              refine ⟨⟨q + 1, false, by omega, by rw [hs1, hx0]; rfl⟩, (by show na - (q + 1) < na - q; omega), ?_⟩
              exact StT.ofL (σ := [0, 1, 2, 3, 4, 5, 6, 7, 8, 9]) ⟨rfl, by show List.Nodup [3, 5, 6, 7, 8, 9]; decide, by repeat' (first | exact trivial | exact rfl | apply And.intro | exact (fun _ _ _ _ => Cell.le_refl _) | (intro i hi; rfl) | (intro i hi; exact absurd hi (Nat.not_lt_zero _))), by repeat' (first | exact trivial | exact rfl | apply And.intro | exact (fun _ _ _ _ => Cell.le_refl _) | (intro i hi; rfl) | (intro i hi; exact absurd hi (Nat.not_lt_zero _)))⟩
        have hqe : ¬ q < na := fun h => of_decide_eq_false (p := (q : Int) < (na : Int)) hql (Int.ofNat_lt.mpr h)
        clear hql
        rw [List.take_of_length_le (by omega)] at hb
        have ho : skOut (fitsWith g b c U K) (groupOf n' Z) lg k = b1 := by
          unfold skOut
          rw [eG, hE, hb]
          exact Bool.or_comm _ _
        refine Ife.mk (fun hb1 => ?_) (fun hb1 => ?_)
        · replace hb1 : b1 = true := hb1
          rw [hb1] at ho
          refine Need.mk (show nl + 1 ≤ maxLen ∧ (nl + 1) * 8 ≤ 140737488355328 by unfold maxLen; omega) fun _ => ?_
          refine Need.mk (show na + 1 ≤ maxLen ∧ (na + 1) * 8 ≤ 140737488355328 by unfold maxLen; omega) fun _ => ?_
          refine Need.mk (by show fitStd .i64 ((k : Int) + 1); unfold fitStd; omega) fun _ => ?_
          refine ⟨⟨k + 1, lg ++ [gx], lost ++ [(k : Int)], rest, T, now, cur, na + 1, nl + 1, nT, nn, nc, by omega, ?hs, hr, hokc, by simp [ha], by simp [hl], hT, hn, hc, by omega, by omega, by omega⟩, (by show n' - (k + 1) < n' - k; omega), ?st⟩
          case hs => rw [skip_succ, hs]; unfold skStep; rw [if_pos ho, eG]
          case st => exact StT.ofL (σ := [0, 1, 2, 3, 4, 5, 11, 7, 13, 9]) ⟨rfl, by show List.Nodup [3, 5, 11, 7, 13, 9]; decide, by repeat' (first | exact trivial | exact in_push ha | exact in_push hl | exact htx | exact hnow | exact hcur | exact rfl | apply And.intro | exact (fun _ _ _ _ => Cell.le_refl _) | (intro i hi; rfl) | (intro i hi; exact absurd hi (Nat.not_lt_zero _))), by repeat' (first | exact trivial | exact in_push ha | exact in_push hl | exact htx | exact hnow | exact hcur | exact rfl | apply And.intro | exact (fun _ _ _ _ => Cell.le_refl _) | (intro i hi; rfl) | (intro i hi; exact absurd hi (Nat.not_lt_zero _)))⟩
        replace hb1 : b1 = false := hb1
        rw [hb1] at ho
        have hs2 : skip (fitsWith g b c U K) (groupOf n' Z) (k + 1) = ⟨lg, lost, rest ++ [(k : Int)]⟩ := by
          rw [skip_succ, hs]
          unfold skStep
          rw [if_neg (by rw [ho]; decide)]
        have hr2 : (rest ++ [(k : Int)]).foldl (rstep (fitsM g b c) (placeM K)) ([], [], U) = rstep (fitsM g b c) (placeM K) (T, now, cur) (k : Int) := by rw [fold_snoc, hr]
        refine Ife.mk (fun hn0 => ?_) (fun hn0 => ?_)
        · have hnn0 : 0 < nn := Int.natCast_pos.1 (of_decide_eq_true (p := (0 : Int) < (nn : Int)) hn0)
          have hne : now ≠ [] := fun h => by rw [h] at hn; simp at hn; omega
          refine Need.mk ix fun _ => Need.mk hkn fun _ => ?_
          refine Need.mk (show nc ≤ 1000000 by omega) fun _ => ?_
          refine Need.mk pC.1 fun _ => ?_
          generalize hE2 : fitsM g b c _ = E2
          replace hE2 : fitsM g b c (cur ++ [gM K k]) = E2 := (congrArg (fitsM g b c) pC.2.symm).trans hE2
          refine Ife.mk (fun hf => ?_) (fun hf => ?_)
          · replace hf : E2 = false := by simpa [Arith.std] using hf
            rw [hf] at hE2
            refine Need.mk ⟨show nT + 1 ≤ maxLen ∧ (nT + 1) * 24 ≤ 140737488355328 by unfold maxLen; omega, trivial⟩ fun _ => ?_
            refine Need.mk ⟨(by show 0 + 0 ≤ maxLen ∧ (0 + 0) * 8 ≤ 140737488355328; unfold maxLen; omega), fun i hi => absurd hi (Nat.not_lt_zero _)⟩ fun _ => ?_
            refine Need.mk (show 0 + 1 ≤ maxLen ∧ (0 + 1) * 8 ≤ 140737488355328 by unfold maxLen; omega) fun _ => ?_
            refine Need.mk ix fun _ => Need.mk hkn fun _ => Need.mk trivial fun _ => ?_
            refine Need.mk (by show fitStd .i64 ((k : Int) + 1); unfold fitStd; omega) fun _ => ?_
            refine ⟨⟨k + 1, lg, lost, rest ++ [(k : Int)], T ++ [now], [(k : Int)], [gM K k], na, nl, nT + 1, 1, 1, by omega, hs2, ?hr, fun x hx => by rw [List.mem_singleton.1 hx]; exact ho' k, ha, hl, by simp [hT], rfl, rfl, by omega, by omega, by omega⟩, (by show n' - (k + 1) < n' - k; omega), ?st⟩
            case hr => rw [hr2]; unfold rstep; rw [if_pos ⟨hne, hE2⟩]; rfl
            case st =>
              have htx : ∀ i j, i < nT + 1 → j < 1 → Cell.le (pushC nT (txG T) [.es true 3 1 nn (inG now)] i j) (txG (T ++ [now]) i j) := txG_push hT hn fun i hi => rfl
              have hnow : ∀ i, i < 0 + 1 → pushG 0 (fun _ => []) [.int .i64 (k : Int)] i = inG [(k : Int)] i := fun i hi => by
                have : i = 0 := by omega
                subst this
                rfl
              have hcur : ∀ i j, i < 0 + 1 → j < 50 → Cell.le (pushC 0 (fun _ _ => Cell.pl .tt) (msgCl false (gM K k)) i j) (msgG false [gM K k] i j) := fun i j hi hj => by
                have : i = 0 := by omega
                subst this
                exact Cell.le_refl _
              exact StT.ofL (σ := [0, 1, 2, 3, 4, 18, 6, 21, 8, 28]) ⟨rfl, by show List.Nodup [3, 18, 6, 21, 8, 28]; decide, by repeat' (first | exact trivial | exact in_push ha | exact in_push hl | exact htx | exact hnow | exact hcur | exact rfl | apply And.intro | exact (fun _ _ _ _ => Cell.le_refl _) | (intro i hi; rfl) | (intro i hi; exact absurd hi (Nat.not_lt_zero _))), by repeat' (first | exact trivial | exact in_push ha | exact in_push hl | exact htx | exact hnow | exact hcur | exact rfl | apply And.intro | exact (fun _ _ _ _ => Cell.le_refl _) | (intro i hi; rfl) | (intro i hi; exact absurd hi (Nat.not_lt_zero _)))⟩
          · replace hf : E2 = true := by simpa [Arith.std] using hf
            rw [hf] at hE2
            have hst : rstep (fitsM g b c) (placeM K) (T, now, cur) (k : Int) = (T, now ++ [(k : Int)], cur ++ [gM K k]) := by
              unfold rstep
              rw [if_neg (fun h => by have h2 := h.2; rw [hpl] at h2; rw [hE2] at h2; cases h2), hpl]
            refine Need.mk ⟨(by show 0 + nn ≤ maxLen ∧ (0 + nn) * 8 ≤ 140737488355328; unfold maxLen; omega), fun i hi => rfl⟩ fun _ => ?_
            refine Need.mk (show nn + 1 ≤ maxLen ∧ (nn + 1) * 8 ≤ 140737488355328 by unfold maxLen; omega) fun _ => ?_
            refine Need.mk ix fun _ => Need.mk hkn fun _ => Need.mk (show nc ≤ 1000000 by omega) fun _ => ?_
            refine Need.mk (by show fitStd .i64 ((k : Int) + 1); unfold fitStd; omega) fun _ => ?_
            refine ⟨⟨k + 1, lg, lost, rest ++ [(k : Int)], T, now ++ [(k : Int)], cur ++ [gM K k], na, nl, nT, nn + 1, nc + 1, by omega, hs2, hr2.trans hst, hokq, ha, hl, hT, by simp [hn], by simp [hc], by omega, by omega, by omega⟩, (by show n' - (k + 1) < n' - k; omega), ?st⟩
            case st =>
              have htx : True := trivial
              have hnow := in_push (x := (k : Int)) hn
              have hcur := pushC_le (fr := false) (x := gM K k) hc rfl
              exact StT.ofL (σ := [0, 1, 2, 3, 4, 5, 6, 19, 8, 25]) ⟨rfl, by show List.Nodup [3, 5, 6, 19, 8, 25]; decide, by repeat' (first | exact trivial | exact in_push ha | exact in_push hl | exact htx | exact hnow | exact hcur | exact rfl | apply And.intro | exact (fun _ _ _ _ => Cell.le_refl _) | (intro i hi; rfl) | (intro i hi; exact absurd hi (Nat.not_lt_zero _))), by repeat' (first | exact trivial | exact in_push ha | exact in_push hl | exact htx | exact hnow | exact hcur | exact rfl | apply And.intro | exact (fun _ _ _ _ => Cell.le_refl _) | (intro i hi; rfl) | (intro i hi; exact absurd hi (Nat.not_lt_zero _)))⟩
        · have hnn0 : ¬ 0 < nn := fun h => of_decide_eq_false (p := (0 : Int) < (nn : Int)) hn0 (Int.natCast_pos.2 h)
          have hne : now = [] := List.eq_nil_of_length_eq_zero (by omega)
          have hst : rstep (fitsM g b c) (placeM K) (T, now, cur) (k : Int) = (T, now ++ [(k : Int)], cur ++ [gM K k]) := by
            unfold rstep
            rw [if_neg (fun h => h.1 hne), hpl]
          refine Need.mk ⟨(by show 0 + nn ≤ maxLen ∧ (0 + nn) * 8 ≤ 140737488355328; unfold maxLen; omega), fun i hi => rfl⟩ fun _ => ?_
          refine Need.mk (show nn + 1 ≤ maxLen ∧ (nn + 1) * 8 ≤ 140737488355328 by unfold maxLen; omega) fun _ => ?_
          refine Need.mk ix fun _ => Need.mk hkn fun _ => Need.mk (show nc ≤ 1000000 by omega) fun _ => ?_
          refine Need.mk (by show fitStd .i64 ((k : Int) + 1); unfold fitStd; omega) fun _ => ?_
          refine ⟨⟨k + 1, lg, lost, rest ++ [(k : Int)], T, now ++ [(k : Int)], cur ++ [gM K k], na, nl, nT, nn + 1, nc + 1, by omega, hs2, hr2.trans hst, hokq, ha, hl, hT, by simp [hn], by simp [hc], by omega, by omega, by omega⟩, (by show n' - (k + 1) < n' - k; omega), ?st⟩
          case st =>
            have htx : True := trivial
            have hnow := in_push (x := (k : Int)) hn
            have hcur := pushC_le (fr := false) (x := gM K k) hc rfl
            exact StT.ofL (σ := [0, 1, 2, 3, 4, 5, 6, 12, 8, 18]) ⟨rfl, by show List.Nodup [3, 5, 6, 12, 8, 18]; decide, by repeat' (first | exact trivial | exact in_push ha | exact in_push hl | exact htx | exact hnow | exact hcur | exact rfl | apply And.intro | exact (fun _ _ _ _ => Cell.le_refl _) | (intro i hi; rfl) | (intro i hi; exact absurd hi (Nat.not_lt_zero _))), by repeat' (first | exact trivial | exact in_push ha | exact in_push hl | exact htx | exact hnow | exact hcur | exact rfl | apply And.intro | exact (fun _ _ _ _ => Cell.le_refl _) | (intro i hi; rfl) | (intro i hi; exact absurd hi (Nat.not_lt_zero _)))⟩
      · have hnn : ¬ n2 = n' := fun h => of_decide_eq_false (p := (n2 : Int) = (n' : Int)) hn (by rw [h])
        clear hn
        have eG : groupOf n' Z k = 0 := by
          unfold groupOf
          rw [if_neg (by rw [hZ]; exact hnn)]
        refine Need.mk ix fun _ => Need.mk hkn fun _ => ?_
        refine Need.mk (show nu ≤ 1000000 by omega) fun _ => ?_
        refine Need.mk pU.1 fun _ => ?_
        generalize hE : fitsM g b c _ = E
        replace hE : fitsWith g b c U K k = E := (congrArg (fitsM g b c) pU.2.symm).trans hE
        show Runs Try.prog 3 (.loop _) _ _
        refine loop_ruleE (N := env (lft Try.prog 3) 0 .std tbB [(36, appWith1), (37, appWith), (21, appFn [] [(60, 250)] sFits)] [(11, [(0, true), (1, true), (2, true), (3, true), (4, true), (5, false), (6, false), (7, false), (8, true), (9, true)]), (19, [(0, true), (1, true), (2, true), (3, true), (4, true), (5, true), (6, true), (7, true), (8, true), (9, false), (10, false), (11, false), (12, true), (13, true)])]) rfl tbB_ok hC (fun c st K _ h => h) (by kernel_rfl) [] (X := LIl lg 0 (!E) na)
          (S := fun x => ⟨[.any, .c (.row 4), .c (.row 1), .c (.row 2), .c (.ptr 3 0), .any, .any, .any, .any, .any, .c (.row 5), .c (.row 6), .c (.row 7), .c (.row 8), .c (.row 9), .c (.int .i64 (k : Int)), .c (.int .i64 0), .c (.bool x.b), .c (.int .i64 (x.q : Int))] ++ List.replicate 97 .any, [.data false 60 50 n (msgG false L), .data false 60 50 n' (msgG false K), .elems 3 1 n2 (inG Z), .cells 37 [.int .i64 g, .int .i64 b, .int .i64 c], .data false 60 50 nu (msgG false U), .orow 39 1 nT (txG T), .row 3 1 nl (inG lost), .row 3 1 nn (inG now), .row 3 1 na (inG lg), .orow 60 50 nc (msgG false cur)]⟩) (μ := fun x => na - x.q) ⟨0, !E, by omega, by simp⟩ (by kernel_rfl) ?i0z ?irdz
        case i0z => exact StT.ofL (σ := [0, 1, 2, 3, 4, 5, 6, 7, 8, 9]) ⟨rfl, by show List.Nodup [3, 5, 6, 7, 8, 9]; decide, by repeat' (first | exact trivial | exact rfl | apply And.intro | exact (fun _ _ _ _ => Cell.le_refl _) | (intro i hi; rfl) | (intro i hi; exact absurd hi (Nat.not_lt_zero _))), by repeat' (first | exact trivial | exact rfl | apply And.intro | exact (fun _ _ _ _ => Cell.le_refl _) | (intro i hi; rfl) | (intro i hi; exact absurd hi (Nat.not_lt_zero _)))⟩
        rintro ⟨q, b1, hq, hb⟩
        unfold sFits
        generalize hg0 : (List.length : List UInt8 → Nat) = g0
        generalize hL : lft Try.prog _ = L
        generalize hA : Arith.std = A
        set_option cbv.maxSteps 6000000 in cbv
        subst hA hg0 hL
        refine Ife.mk (fun hql => ?_) (fun hql => ?_)
        · have hqa : q < na := Int.ofNat_lt.mp (of_decide_eq_true (p := (q : Int) < (na : Int)) hql)
          clear hql
          have hs1 := lost_succ (lg := lg) (g := 0) (o0 := !E) (b := b1) (q := q) (by omega) hb
          refine Ife.mk (fun hb1 => ?_) (fun hb1 => ?_)
          · replace hb1 : b1 = true := hb1
            subst hb1
            refine Need.mk (by show fitStd .i64 ((q : Int) + 1); unfold fitStd; omega) fun _ => ?_
            refine ⟨⟨q + 1, true, by omega, by rw [hs1]; rfl⟩, (by show na - (q + 1) < na - q; omega), ?_⟩
            exact StT.ofL (σ := [0, 1, 2, 3, 4, 5, 6, 7, 8, 9]) ⟨rfl, by show List.Nodup [3, 5, 6, 7, 8, 9]; decide, by repeat' (first | exact trivial | exact rfl | apply And.intro | exact (fun _ _ _ _ => Cell.le_refl _) | (intro i hi; rfl) | (intro i hi; exact absurd hi (Nat.not_lt_zero _))), by repeat' (first | exact trivial | exact rfl | apply And.intro | exact (fun _ _ _ _ => Cell.le_refl _) | (intro i hi; rfl) | (intro i hi; exact absurd hi (Nat.not_lt_zero _)))⟩
          · replace hb1 : b1 = false := hb1
            subst hb1
            refine Ife.mk (fun hx0 => ?_) (fun hx0 => ?_)
            · have hx0 : decide ((0 : Int) < 0) = true := hx0
              refine Need.mk (show 0 ≤ (q : Int) ∧ (q : Int) < (na : Int) from ⟨Int.natCast_nonneg q, Int.ofNat_lt.mpr hqa⟩) fun _ => Need.mk (show q < na from hqa) fun _ => ?_
              refine Need.mk (by show fitStd .i64 ((q : Int) + 1); unfold fitStd; omega) fun _ => ?_
              refine ⟨⟨q + 1, decide (iA lg q = 0), by omega, by rw [hs1, hx0]; rfl⟩, (by show na - (q + 1) < na - q; omega), ?_⟩
              exact StT.ofL (σ := [0, 1, 2, 3, 4, 5, 6, 7, 8, 9]) ⟨rfl, by show List.Nodup [3, 5, 6, 7, 8, 9]; decide, by repeat' (first | exact trivial | exact rfl | apply And.intro | exact (fun _ _ _ _ => Cell.le_refl _) | (intro i hi; rfl) | (intro i hi; exact absurd hi (Nat.not_lt_zero _))), by repeat' (first | exact trivial | exact rfl | apply And.intro | exact (fun _ _ _ _ => Cell.le_refl _) | (intro i hi; rfl) | (intro i hi; exact absurd hi (Nat.not_lt_zero _)))⟩
            · have hx0 : decide ((0 : Int) < 0) = false := hx0
              refine Need.mk (by show fitStd .i64 ((q : Int) + 1); unfold fitStd; omega) fun _ => ?_
              refine ⟨⟨q + 1, false, by omega, by rw [hs1, hx0]; rfl⟩, (by show na - (q + 1) < na - q; omega), ?_⟩
              exact StT.ofL (σ := [0, 1, 2, 3, 4, 5, 6, 7, 8, 9]) ⟨rfl, by show List.Nodup [3, 5, 6, 7, 8, 9]; decide, by repeat' (first | exact trivial | exact rfl | apply And.intro | exact (fun _ _ _ _ => Cell.le_refl _) | (intro i hi; rfl) | (intro i hi; exact absurd hi (Nat.not_lt_zero _))), by repeat' (first | exact trivial | exact rfl | apply And.intro | exact (fun _ _ _ _ => Cell.le_refl _) | (intro i hi; rfl) | (intro i hi; exact absurd hi (Nat.not_lt_zero _)))⟩
        have hqe : ¬ q < na := fun h => of_decide_eq_false (p := (q : Int) < (na : Int)) hql (Int.ofNat_lt.mpr h)
        clear hql
        rw [List.take_of_length_le (by omega)] at hb
        have ho : skOut (fitsWith g b c U K) (groupOf n' Z) lg k = b1 := by
          unfold skOut
          rw [eG, hE, hb]
          exact Bool.or_comm _ _
        refine Ife.mk (fun hb1 => ?_) (fun hb1 => ?_)
        · replace hb1 : b1 = true := hb1
          rw [hb1] at ho
          refine Need.mk (show nl + 1 ≤ maxLen ∧ (nl + 1) * 8 ≤ 140737488355328 by unfold maxLen; omega) fun _ => ?_
          refine Need.mk (show na + 1 ≤ maxLen ∧ (na + 1) * 8 ≤ 140737488355328 by unfold maxLen; omega) fun _ => ?_
          refine Need.mk (by show fitStd .i64 ((k : Int) + 1); unfold fitStd; omega) fun _ => ?_
          refine ⟨⟨k + 1, lg ++ [0], lost ++ [(k : Int)], rest, T, now, cur, na + 1, nl + 1, nT, nn, nc, by omega, ?hsz, hr, hokc, by simp [ha], by simp [hl], hT, hn, hc, by omega, by omega, by omega⟩, (by show n' - (k + 1) < n' - k; omega), ?stz⟩
          case hsz => rw [skip_succ, hs]; unfold skStep; rw [if_pos ho, eG]
          case stz => exact StT.ofL (σ := [0, 1, 2, 3, 4, 5, 11, 7, 13, 9]) ⟨rfl, by show List.Nodup [3, 5, 11, 7, 13, 9]; decide, by repeat' (first | exact trivial | exact in_push ha | exact in_push hl | exact htx | exact hnow | exact hcur | exact rfl | apply And.intro | exact (fun _ _ _ _ => Cell.le_refl _) | (intro i hi; rfl) | (intro i hi; exact absurd hi (Nat.not_lt_zero _))), by repeat' (first | exact trivial | exact in_push ha | exact in_push hl | exact htx | exact hnow | exact hcur | exact rfl | apply And.intro | exact (fun _ _ _ _ => Cell.le_refl _) | (intro i hi; rfl) | (intro i hi; exact absurd hi (Nat.not_lt_zero _)))⟩
        replace hb1 : b1 = false := hb1
        rw [hb1] at ho
        have hs2 : skip (fitsWith g b c U K) (groupOf n' Z) (k + 1) = ⟨lg, lost, rest ++ [(k : Int)]⟩ := by
          rw [skip_succ, hs]
          unfold skStep
          rw [if_neg (by rw [ho]; decide)]
        have hr2 : (rest ++ [(k : Int)]).foldl (rstep (fitsM g b c) (placeM K)) ([], [], U) = rstep (fitsM g b c) (placeM K) (T, now, cur) (k : Int) := by rw [fold_snoc, hr]
        refine Ife.mk (fun hn0 => ?_) (fun hn0 => ?_)
        · have hnn0 : 0 < nn := Int.natCast_pos.1 (of_decide_eq_true (p := (0 : Int) < (nn : Int)) hn0)
          have hne : now ≠ [] := fun h => by rw [h] at hn; simp at hn; omega
          refine Need.mk ix fun _ => Need.mk hkn fun _ => ?_
          refine Need.mk (show nc ≤ 1000000 by omega) fun _ => ?_
          refine Need.mk pC.1 fun _ => ?_
          generalize hE2 : fitsM g b c _ = E2
          replace hE2 : fitsM g b c (cur ++ [gM K k]) = E2 := (congrArg (fitsM g b c) pC.2.symm).trans hE2
          refine Ife.mk (fun hf => ?_) (fun hf => ?_)
          · replace hf : E2 = false := by simpa [Arith.std] using hf
            rw [hf] at hE2
            refine Need.mk ⟨show nT + 1 ≤ maxLen ∧ (nT + 1) * 24 ≤ 140737488355328 by unfold maxLen; omega, trivial⟩ fun _ => ?_
            refine Need.mk ⟨(by show 0 + 0 ≤ maxLen ∧ (0 + 0) * 8 ≤ 140737488355328; unfold maxLen; omega), fun i hi => absurd hi (Nat.not_lt_zero _)⟩ fun _ => ?_
            refine Need.mk (show 0 + 1 ≤ maxLen ∧ (0 + 1) * 8 ≤ 140737488355328 by unfold maxLen; omega) fun _ => ?_
            refine Need.mk ix fun _ => Need.mk hkn fun _ => Need.mk trivial fun _ => ?_
            refine Need.mk (by show fitStd .i64 ((k : Int) + 1); unfold fitStd; omega) fun _ => ?_
            refine ⟨⟨k + 1, lg, lost, rest ++ [(k : Int)], T ++ [now], [(k : Int)], [gM K k], na, nl, nT + 1, 1, 1, by omega, hs2, ?hrz, fun x hx => by rw [List.mem_singleton.1 hx]; exact ho' k, ha, hl, by simp [hT], rfl, rfl, by omega, by omega, by omega⟩, (by show n' - (k + 1) < n' - k; omega), ?stz⟩
            case hrz => rw [hr2]; unfold rstep; rw [if_pos ⟨hne, hE2⟩]; rfl
            case stz =>
              have htx : ∀ i j, i < nT + 1 → j < 1 → Cell.le (pushC nT (txG T) [.es true 3 1 nn (inG now)] i j) (txG (T ++ [now]) i j) := txG_push hT hn fun i hi => rfl
              have hnow : ∀ i, i < 0 + 1 → pushG 0 (fun _ => []) [.int .i64 (k : Int)] i = inG [(k : Int)] i := fun i hi => by
                have : i = 0 := by omega
                subst this
                rfl
              have hcur : ∀ i j, i < 0 + 1 → j < 50 → Cell.le (pushC 0 (fun _ _ => Cell.pl .tt) (msgCl false (gM K k)) i j) (msgG false [gM K k] i j) := fun i j hi hj => by
                have : i = 0 := by omega
                subst this
                exact Cell.le_refl _
              exact StT.ofL (σ := [0, 1, 2, 3, 4, 18, 6, 21, 8, 28]) ⟨rfl, by show List.Nodup [3, 18, 6, 21, 8, 28]; decide, by repeat' (first | exact trivial | exact in_push ha | exact in_push hl | exact htx | exact hnow | exact hcur | exact rfl | apply And.intro | exact (fun _ _ _ _ => Cell.le_refl _) | (intro i hi; rfl) | (intro i hi; exact absurd hi (Nat.not_lt_zero _))), by repeat' (first | exact trivial | exact in_push ha | exact in_push hl | exact htx | exact hnow | exact hcur | exact rfl | apply And.intro | exact (fun _ _ _ _ => Cell.le_refl _) | (intro i hi; rfl) | (intro i hi; exact absurd hi (Nat.not_lt_zero _)))⟩
          · replace hf : E2 = true := by simpa [Arith.std] using hf
            rw [hf] at hE2
            have hst : rstep (fitsM g b c) (placeM K) (T, now, cur) (k : Int) = (T, now ++ [(k : Int)], cur ++ [gM K k]) := by
              unfold rstep
              rw [if_neg (fun h => by have h2 := h.2; rw [hpl] at h2; rw [hE2] at h2; cases h2), hpl]
            refine Need.mk ⟨(by show 0 + nn ≤ maxLen ∧ (0 + nn) * 8 ≤ 140737488355328; unfold maxLen; omega), fun i hi => rfl⟩ fun _ => ?_
            refine Need.mk (show nn + 1 ≤ maxLen ∧ (nn + 1) * 8 ≤ 140737488355328 by unfold maxLen; omega) fun _ => ?_
            refine Need.mk ix fun _ => Need.mk hkn fun _ => Need.mk (show nc ≤ 1000000 by omega) fun _ => ?_
            refine Need.mk (by show fitStd .i64 ((k : Int) + 1); unfold fitStd; omega) fun _ => ?_
            refine ⟨⟨k + 1, lg, lost, rest ++ [(k : Int)], T, now ++ [(k : Int)], cur ++ [gM K k], na, nl, nT, nn + 1, nc + 1, by omega, hs2, hr2.trans hst, hokq, ha, hl, hT, by simp [hn], by simp [hc], by omega, by omega, by omega⟩, (by show n' - (k + 1) < n' - k; omega), ?stz⟩
            case stz =>
              have htx : True := trivial
              have hnow := in_push (x := (k : Int)) hn
              have hcur := pushC_le (fr := false) (x := gM K k) hc rfl
              exact StT.ofL (σ := [0, 1, 2, 3, 4, 5, 6, 19, 8, 25]) ⟨rfl, by show List.Nodup [3, 5, 6, 19, 8, 25]; decide, by repeat' (first | exact trivial | exact in_push ha | exact in_push hl | exact htx | exact hnow | exact hcur | exact rfl | apply And.intro | exact (fun _ _ _ _ => Cell.le_refl _) | (intro i hi; rfl) | (intro i hi; exact absurd hi (Nat.not_lt_zero _))), by repeat' (first | exact trivial | exact in_push ha | exact in_push hl | exact htx | exact hnow | exact hcur | exact rfl | apply And.intro | exact (fun _ _ _ _ => Cell.le_refl _) | (intro i hi; rfl) | (intro i hi; exact absurd hi (Nat.not_lt_zero _)))⟩
        · have hnn0 : ¬ 0 < nn := fun h => of_decide_eq_false (p := (0 : Int) < (nn : Int)) hn0 (Int.natCast_pos.2 h)
          have hne : now = [] := List.eq_nil_of_length_eq_zero (by omega)
          have hst : rstep (fitsM g b c) (placeM K) (T, now, cur) (k : Int) = (T, now ++ [(k : Int)], cur ++ [gM K k]) := by
            unfold rstep
            rw [if_neg (fun h => h.1 hne), hpl]
          refine Need.mk ⟨(by show 0 + nn ≤ maxLen ∧ (0 + nn) * 8 ≤ 140737488355328; unfold maxLen; omega), fun i hi => rfl⟩ fun _ => ?_
          refine Need.mk (show nn + 1 ≤ maxLen ∧ (nn + 1) * 8 ≤ 140737488355328 by unfold maxLen; omega) fun _ => ?_
          refine Need.mk ix fun _ => Need.mk hkn fun _ => Need.mk (show nc ≤ 1000000 by omega) fun _ => ?_
          refine Need.mk (by show fitStd .i64 ((k : Int) + 1); unfold fitStd; omega) fun _ => ?_
          refine ⟨⟨k + 1, lg, lost, rest ++ [(k : Int)], T, now ++ [(k : Int)], cur ++ [gM K k], na, nl, nT, nn + 1, nc + 1, by omega, hs2, hr2.trans hst, hokq, ha, hl, hT, by simp [hn], by simp [hc], by omega, by omega, by omega⟩, (by show n' - (k + 1) < n' - k; omega), ?stz⟩
          case stz =>
            have htx : True := trivial
            have hnow := in_push (x := (k : Int)) hn
            have hcur := pushC_le (fr := false) (x := gM K k) hc rfl
            exact StT.ofL (σ := [0, 1, 2, 3, 4, 5, 6, 12, 8, 18]) ⟨rfl, by show List.Nodup [3, 5, 6, 12, 8, 18]; decide, by repeat' (first | exact trivial | exact in_push ha | exact in_push hl | exact htx | exact hnow | exact hcur | exact rfl | apply And.intro | exact (fun _ _ _ _ => Cell.le_refl _) | (intro i hi; rfl) | (intro i hi; exact absurd hi (Nat.not_lt_zero _))), by repeat' (first | exact trivial | exact in_push ha | exact in_push hl | exact htx | exact hnow | exact hcur | exact rfl | apply And.intro | exact (fun _ _ _ _ => Cell.le_refl _) | (intro i hi; rfl) | (intro i hi; exact absurd hi (Nat.not_lt_zero _)))⟩
    · have hkn : ¬ k < n' := fun h => of_decide_eq_false (p := (k : Int) < (n' : Int)) hlt (Int.ofNat_lt.mpr h)
      have hke : k = n' := by omega
      rw [hke] at hs
      rw [hs]
      have hrf : rfin (rest.foldl (rstep (fitsM g b c) (placeM K)) ([], [], U)) = if now = [] then T else T ++ [now] := by rw [hr]; rfl
      rw [hrf]
      clear hrf
      refine Ife.mk (fun hn0 => ?_) (fun hn0 => ?_)
      · have hnn0 : 0 < nn := Int.natCast_pos.1 (of_decide_eq_true (p := (0 : Int) < (nn : Int)) hn0)
        have hne : now ≠ [] := fun h => by rw [h] at hn; simp at hn; omega
        refine Need.mk ⟨show nT + 1 ≤ maxLen ∧ (nT + 1) * 24 ≤ 140737488355328 by unfold maxLen; omega, trivial⟩ fun _ => ?_
        rw [if_neg hne]
        have hlen : nT + 1 = (T ++ [now]).length := by simp [hT]
        have hget : ∀ i j, i < nT + 1 → j < 1 → Cell.le (pushC nT (txG T) [.es true 3 1 nn (inG now)] i j) (txG (T ++ [now]) i j) := txG_push hT hn fun i hi => rfl
        have hlen' : (∀ i j, i < nT + 1 → j < 1 → Cell.le (pushC nT (txG T) [.es true 3 1 nn (inG now)] i j) (txG (T ++ [now]) i j)) → ∀ i j, i < (T ++ [now]).length → j < 1 → Cell.le (pushC nT (txG T) [.es true 3 1 nn (inG now)] i j) (txG (T ++ [now]) i j) := fun h => by rw [← hlen]; exact h
        exact ⟨[11], [0, 1, 2, 11, 6], ⟨⟨push_new, trivial⟩, rfl, by repeat' (first | exact trivial | exact rfl | apply And.intro | exact (fun _ _ _ _ => Cell.le_refl _) | (intro i hi; rfl) | (intro i hi; exact absurd hi (Nat.not_lt_zero _))), by show List.Nodup [6]; decide, rfl, by repeat' (first | exact trivial | exact hlen | exact hlen' hget | exact hget | exact hl | exact rfl | apply And.intro | exact (fun _ _ _ _ => Cell.le_refl _) | (intro i hi; rfl) | (intro i hi; exact absurd hi (Nat.not_lt_zero _)))⟩⟩
      · have hnn0 : ¬ 0 < nn := fun h => of_decide_eq_false (p := (0 : Int) < (nn : Int)) hn0 (Int.natCast_pos.2 h)
        have hne : now = [] := List.eq_nil_of_length_eq_zero (by omega)
        rw [if_pos hne]
        have hlen := hT
        have hget : True := trivial
        exact ⟨[5], [0, 1, 2, 5, 6], ⟨⟨fun i j _ _ => rfl, trivial⟩, rfl, by repeat' (first | exact trivial | exact rfl | apply And.intro | exact (fun _ _ _ _ => Cell.le_refl _) | (intro i hi; rfl) | (intro i hi; exact absurd hi (Nat.not_lt_zero _))), by show List.Nodup [6]; decide, rfl, by repeat' (first | exact trivial | exact hlen | exact hlen' hget | exact hget | exact hl | exact rfl | apply And.intro | exact (fun _ _ _ _ => Cell.le_refl _) | (intro i hi; rfl) | (intro i hi; exact absurd hi (Nat.not_lt_zero _)))⟩⟩

end Go.Proofs.Ythomoliklfmnkaa.Vx
end
