/- The document's transactions read, by the walker. -/
import Derived.Test.YtcgoaicifjndpaaM27
import Derived.Test.YtcgoaicifjndpaaM25
import Derived.Test.YtcgoaicifjndpaaM26
section
namespace Go.Proofs.Ytcgoaicifjndpaa.Vx
open Go.RowKit
set_option linter.unusedVariables false
set_option linter.unusedSimpArgs false
attribute [local cbv_opaque] lK lV lI lP lN pG leafL leafOf leavesPre hsL rN plainM msgPre lenL nextB between sameM mayM msgOf mayPkt wN wT wH wLeaf wPath wLeaves wProof wPk wMsg wMsgPre prWPre hashOf putW numW numBad textW fitNum fitText fitPut fitPk isI64 msgB encMsg bytesW badW Pkt.fits Leb.next noRt zeroMsg lightM msgPre0 leavesAt0 lawPre gM msgsL msgsPre msgsPre0 lightMs lightMAt flatE textB Leb.put
end Go.Proofs.Ytcgoaicifjndpaa.Vx
end

section
/- Slices of messages that come in, opened. -/
namespace Go.Proofs.Ytcgoaicifjndpaa
open Go.ChangeShapes Go.WideShapes Go.ChangeAt Go.RowKit
set_option linter.unusedVariables false
set_option linter.unusedSimpArgs false
set_option maxRecDepth 100000
section
variable {H : Type} {enc : TypeId × Value → H} {w : World} {base : Nat}
/-- Values that cells show. -/
def ShL (w : World) (D : Bool → Nat → Prop) : List Vx.Cell → List Value → Prop
  | [], [] => True
  | c :: cs, v :: vs => c.shows w D v ∧ ShL w D cs vs
  | _, _ => False
theorem ShL.app {D : Bool → Nat → Prop} : ∀ {a b : List Vx.Cell} {x y : List Value}, ShL w D a x → ShL w D b y → ShL w D (a ++ b) (x ++ y)
  | [], _, [], _, _, h => h
  | _ :: _, _, _ :: _, _, h, k => ⟨h.1, h.2.app k⟩
  | [], _, _ :: _, _, h, _ => absurd h id
  | _ :: _, _, [], _, h, _ => absurd h id
theorem ShL.pl {D : Bool → Nat → Prop} : ∀ {cs : List Vx.CV} {vs : List Value}, Vx.IsL [] cs vs → ShL w D (cs.map Vx.Cell.pl) vs
  | [], [], _ => trivial
  | c :: cs, v :: vs, h => by
    have h : c.den [] :: cs.map (Vx.CV.den []) = some v :: vs.map some := h
    exact ⟨(List.cons.inj h).1, ShL.pl (List.cons.inj h).2⟩
  | [], _ :: _, h => by cases h
  | _ :: _, [], h => by cases h
theorem ShL.get {D : Bool → Nat → Prop} : ∀ {cs : List Vx.Cell} {vs : List Value} {j : Nat}, ShL w D cs vs → j < cs.length → ∃ u, vs[j]? = some u ∧ (cs.getD j (.pl .tt)).shows w D u
  | c :: cs, v :: vs, 0, h, _ => ⟨v, rfl, h.1⟩
  | c :: cs, v :: vs, j + 1, h, hj => by
    obtain ⟨u, h1, h2⟩ := h.2.get (j := j) (by simpa using hj)
    exact ⟨u, by simpa using h1, by simpa using h2⟩
  | [], _, _, _, hj => absurd hj (by simp)
  | _ :: _, [], _, h, _ => absurd h id
theorem MsgIn.sh {l : List Value} {m : Vx.PMsg} (h : MsgIn w l m) : ShL w (fun _ b => b < w.heap.size) (Vx.msgCl false m) l := by
  rw [h.cells]
  unfold Vx.msgCl
  refine ⟨rfl, rfl, rfl, ShL.app (ShL.pl (isL_h32r h.len)) (ShL.app ?_ ⟨rfl, rfl, rfl, rfl, h.pl, rfl, h.cl, trivial⟩)⟩
  exact ShL.pl (cs := Vx.pkC m.pk) (vs := m.pk.cells.toList) rfl
theorem MsgIn.raw {l : List Value} {m : Vx.PMsg} (h : MsgIn w l m) : Vx.MsgRaw m := ⟨h.fits, h.len, h.by', h.ack, h.pok, h.cok⟩
/-- Messages that come in, as data. -/
theorem trod_Msgs {fuel : Nat} {l : List Value} {x : DataW H × List MemPlace} (hf : DataW.trod enc Try.prog w 0 (fun _ => true) true fuel 59 l = some x) :
    ∃ (v : Value) (L : List Vx.PMsg), l = [v] ∧ (Vx.Cell.ns false 74 50 L.length (Vx.msgG false L)).shows w (fun _ b => b < w.heap.size) v ∧ L.length ≤ maxLen ∧ ∀ m ∈ L, Vx.MsgRaw m := by
  obtain ⟨a, cap, xs, e, hsl, hx⟩ := trod_sl (sz := 50) (P := fun l => ∃ m, Nonempty (MsgIn w l m)) (by decide) Try.underlying59 cellsM_Msg (fun fuel l x hl => ⟨by
    obtain ⟨xs, m, _, _, hl, hlen, hff⟩ := DataW.trod_struct Try.underlying74 hl
    rw [cellsM_Msg] at hl
    exact hl, trod_Msg hl⟩) hf
  obtain ⟨f, hf⟩ : ∃ f : Nat → Vx.PMsg, ∀ i (hi : i < xs.length), Nonempty (MsgIn w xs[i] (f i)) := by
    refine ⟨fun i => if h : i < xs.length then Classical.choose (hx xs[i] (List.getElem_mem h)).2 else Vx.zeroMsg, fun i hi => ?_⟩
    dsimp only
    rw [dif_pos hi]
    exact Classical.choose_spec (hx xs[i] (List.getElem_mem hi)).2
  refine ⟨_, (List.range xs.length).map f, e, ⟨a, cap, by simp, by simpa using hsl.cap, fun h0 => ?_⟩, by simpa using hsl.max, fun y hy => ?_⟩
  rotate_left
  · obtain ⟨i, hi, rfl⟩ := List.mem_map.1 hy
    obtain ⟨k⟩ := hf i (by simpa using hi)
    exact k.raw
  obtain ⟨b, off, ha, hb, hc⟩ := hsl.lt (by simpa using h0)
  refine ⟨b, off, ha, hb, fun i j hi hj => ?_⟩
  have hi' : i < xs.length := by simpa using hi
  obtain ⟨k⟩ := hf i hi'
  have el : Vx.gM ((List.range xs.length).map f) i = f i := by simp [Vx.gM, List.getD, hi']
  obtain ⟨u, h1, h2⟩ := k.sh.get (j := j) hj
  refine ⟨u, hc i hi' j u h1, ?_⟩
  unfold Vx.msgG
  rw [el]
  exact h2
theorem open_Msgs {v : Value} {d : DataW H} {p : List MemPlace} (hv : Value.okWide Try.prog w .any base 59 v) (h : DataW.Trod enc Try.prog w 0 (fun _ => true) true 59 v d p) :
    ∃ L : List Vx.PMsg, (Vx.Cell.ns false 74 50 L.length (Vx.msgG false L)).shows w (fun _ b => b < w.heap.size) v ∧ L.length ≤ maxLen ∧ ∀ m ∈ L, Vx.MsgRaw m := by
  obtain ⟨a, n, cap, rfl, _⟩ := okWide_slice Try.underlying59 hv
  obtain ⟨fuel, hf⟩ := h
  simp only [Value.cells] at hf
  obtain ⟨v, L, e, h1, h2, h3⟩ := trod_Msgs hf
  obtain rfl : Value.slice a n cap = v := by simpa using e
  exact ⟨L, h1, h2, h3⟩
/-- Messages that came in, as an entry of a law's start. -/
theorem Vx.Rel.addMsgs {ρ : List Vx.Pl} {h : List Vx.Ent} (r : Vx.Rel w (Vx.Gs.all []) ρ h w) {L : List Vx.PMsg} {v : Value} (hs : (Vx.Cell.ns false 74 50 L.length (Vx.msgG false L)).shows w (fun _ b => b < w.heap.size) v) :
    ∃ q : Vx.Pl, q.v = v ∧ Vx.Rel w (Vx.Gs.all []) (ρ ++ [q]) (h ++ [.data false 74 50 L.length (Vx.msgG false L)]) w := by
  have old : ∀ D' : Bool → Nat → Prop, (∀ b, b < w.heap.size → D' false b) → (Vx.Cell.ns false 74 50 L.length (Vx.msgG false L)).shows w D' v := fun D' hD => by
    have e : (Vx.Cell.ns false 74 50 L.length (Vx.msgG false L)).old = .ns false 74 50 L.length (Vx.msgG false L) := by
      show Vx.Cell.ns false _ _ _ (fun i j => (Vx.msgG false L i j).old) = _
      congr 1
      funext i j
      exact Vx.msgG_old
    have := Vx.Cell.shows_old (D' := D') (fun fr b hb => ⟨hD b hb, rfl⟩) hs
    rwa [e] at this
  have hs0 := hs
  obtain ⟨a, cap, h1, h2, h3⟩ := hs0
  by_cases hn : 0 < L.length
  · obtain ⟨b, o, ha, _, _⟩ := h3 hn
    exact ⟨⟨b, v, o⟩, rfl, r.addS (en := .data false _ 50 L.length (Vx.msgG false L)) (q := ⟨b, v, o⟩) rfl ⟨a, cap, h1, h2, fun _ => ha⟩ fun _ => old _ fun b hb => Or.inl ⟨hb, by simp, trivial⟩⟩
  · exact ⟨⟨0, v, 0⟩, rfl, r.addS (en := .data false _ 50 L.length (Vx.msgG false L)) (q := ⟨0, v, 0⟩) rfl ⟨a, cap, h1, h2, fun h => absurd h hn⟩ fun _ => old _ fun b hb => Or.inl ⟨hb, by simp, trivial⟩⟩
end
end Go.Proofs.Ytcgoaicifjndpaa
end

section
/- The law TxTells, by the walker. -/
namespace Go.Proofs.Ytcgoaicifjndpaa.Vx
open Go.RowKit
set_option linter.unusedVariables false
set_option linter.unusedSimpArgs false
theorem lightMs_ok {L : List PMsg} (h : lightMs L = true) (hr : ∀ m ∈ L, MsgRaw m) : L.length ≤ 70 ∧ ∀ m ∈ L, MsgOk m := by
  unfold lightMs at h
  simp only [Bool.and_eq_true, decide_eq_true_iff] at h
  refine ⟨h.1, fun m hm => ?_⟩
  obtain ⟨i, hi, rfl⟩ := List.getElem_of_mem hm
  have := List.all_eq_true.1 h.2 i (List.mem_range.2 hi)
  rw [gM_eq hi] at this
  exact (hr _ hm).ok this
theorem msgs_den {w : World} {L : List PMsg} {v : Value} {ρ : List Pl} {k : Nat} {q : Pl} (hs : (Cell.ns false 74 50 L.length (msgG false L)).shows w (fun _ b => b < w.heap.size) v) (hq : q.v = v) (hk : ρ[k]? = some q := by rfl) : CV.den ρ (.row k) = some v := by
  obtain ⟨a, cap, h1, -⟩ := hs
  simp only [CV.den, hk]
  rw [hq, h1]
  rfl
theorem msgsPre0_law {L : List PMsg} (h : ∀ m ∈ L, MsgRaw m) (hl : L.length ≤ 9223372036854775807) : msgsPre0 74 50 L.length (msgG false L) := by
  have e : msgsL L.length (msgG false L) = L := msgsL_eq rfl (fun m hm => (h m hm).raw) fun _ _ _ _ => rfl
  exact ⟨rfl, rfl, fun i j _ _ => by rw [e], by rw [e]; exact h, hl⟩
attribute [local cbv_opaque] lK lV lI lP lN pG leafL leafOf leavesPre hsL rN plainM msgPre lenL nextB between sameM mayM msgOf mayPkt wN wT wH wLeaf wPath wLeaves wProof wPk wMsg wMsgPre prWPre hashOf putW numW numBad textW fitNum fitText fitPut fitPk isI64 msgB encMsg bytesW badW Pkt.fits Leb.next noRt zeroMsg lightM msgPre0 leavesAt0 lawPre gM msgsL msgsPre msgsPre0 lightMs lightMAt flatE textB Leb.put
end Go.Proofs.Ytcgoaicifjndpaa.Vx
namespace Go.Proofs.Ytcgoaicifjndpaa
open Go.RowKit
set_option linter.unusedVariables false
end Go.Proofs.Ytcgoaicifjndpaa
end

section
/- The law GasTells, by the walker. -/
namespace Go.Proofs.Ytcgoaicifjndpaa.Vx
open Go.RowKit
set_option linter.unusedVariables false
set_option linter.unusedSimpArgs false
attribute [local cbv_opaque] lK lV lI lP lN pG leafL leafOf leavesPre hsL rN plainM msgPre lenL nextB between sameM mayM msgOf mayPkt wN wT wH wLeaf wPath wLeaves wProof wPk wMsg wMsgPre prWPre hashOf putW numW numBad textW fitNum fitText fitPut fitPk isI64 msgB encMsg bytesW badW Pkt.fits Leb.next noRt zeroMsg lightM msgPre0 leavesAt0 lawPre gM msgsL msgsPre msgsPre0 lightMs lightMAt flatE textB Leb.put stepsL priceM totalM
def sGasTells : SpecF
  | [.c (.row 0)], [.data false ty sz n get] => some (msgsPre0 ty sz n get, .c .tt, [.dead])
  | _, _ => none

set_option maxRecDepth 100000 in
set_option maxHeartbeats 32000000 in
theorem gasTellsP : Fn Try.prog 6 [] [(74, 250)] sGasTells := by
  have hC : CtsOk Try.prog [(43, appPure sTrue17), (44, appFn [] [(74, 250)] sLightMs), (45, appFn [] [(140, 204), (140, 204)] sPriceM), (46, appFn [] [(140, 204), (140, 204)] sPriceM), (47, appFn [] [(140, 204), (140, 204)] sMayM), (48, appFn [] [(74, 250)] sTotalM)] := CtsOk.cons (Pure.ct first17P) <| CtsOk.cons (Fn.ct lightMsP) <| CtsOk.cons (Fn.ct priceP) <| CtsOk.cons (Fn.ct rpriceP) <| CtsOk.cons (Fn.ct rmayMP) <| CtsOk.cons (Fn.ct totalP) <| CtsOk.nil _
  refine Fn.of (E := tbR) [] 0 [] tbR_ok hC (by kernel_rfl) Try.func6 rfl rfl rfl (by kernel_rfl) (by kernel_rfl) 1 5 1 ?_ ?_
  · intro args h pre r h' hs
    unfold sGasTells at hs
    split at hs
    · cases hs; exact ⟨rfl, rfl, Nat.le_of_ble_eq_true rfl⟩
    · cases hs
  · intro args h pre r h' hs hp
    unfold sGasTells at hs
    split at hs
    rotate_left
    · cases hs
    rename_i ty sz n get
    cases hs
    obtain ⟨rfl, rfl, hst, hraw, hm⟩ := hp
    have k0 := msgs0 hst hraw
    refine ⟨[.data false 74 50 n (msgG false (msgsL n get))], ⟨⟨rfl, rfl, rfl, rfl, fun i j hi hj => by rw [hst i j hi hj]; exact Cell.le_refl _⟩, trivial⟩, ?_⟩
    have hL : (msgsL n get).length = n := msgsL_len
    generalize msgsL n get = L at *
    clear hst
    have hrw := gM_all hraw zero_raw
    unfold sTrue17 sLightMs sPriceM sMayM sTotalM
    generalize hg0 : (List.length : List UInt8 → Nat) = g0
    generalize hL : lft Try.prog _ = L
    generalize hA : Arith.std = A
    set_option cbv.maxSteps 20000000 in cbv
    subst hA hg0 hL
    refine Need.mk trivial fun _ => ?_
    refine Need.mk (msgsPre0_n hL hraw hm) fun _ => ?_
    rw [k0]
    refine Ife.mk (fun hl => ?_) (fun hl => ?_)
    · refine Need.mk trivial fun _ => ?_
      exact ⟨[0], ⟨rfl, by repeat' (first | exact trivial | exact rfl | apply And.intro | exact (fun _ _ _ _ => Cell.le_refl _) | (intro i hi; rfl) | (intro i hi; exact absurd hi (Nat.not_lt_zero _))), by decide, rfl, by repeat' (first | exact trivial | exact rfl | apply And.intro | exact (fun _ _ _ _ => Cell.le_refl _) | (intro i hi; rfl) | (intro i hi; exact absurd hi (Nat.not_lt_zero _)))⟩⟩
    replace hl : (!lightMs L) = false := hl
    rw [Bool.not_eq_false'] at hl
    obtain ⟨hn, hok⟩ := lightMs_ok hl hraw
    have hn : n ≤ 70 := by omega
    have ho := gM_all hok zeroMsg_ok
    show Runs Try.prog 1 (.loop _) _ _
    refine loop_ruleL (N := env (lft Try.prog 1) 0 .std tbR [(43, appPure sTrue17), (44, appFn [] [(74, 250)] sLightMs), (45, appFn [] [(140, 204), (140, 204)] sPriceM), (46, appFn [] [(140, 204), (140, 204)] sPriceM), (47, appFn [] [(140, 204), (140, 204)] sMayM), (48, appFn [] [(74, 250)] sTotalM)] []) rfl tbR_ok hC (fun c st K _ h => h) (by kernel_rfl) [] (X := LGs L)
      (S := fun x => ⟨[.c (.row 0), .any, .any, .c (.int .i64 x.s), .c (.int .i64 x.i)] ++ List.replicate 50 .any, [.data false 74 50 n (msgG false L)]⟩) (μ := fun x => L.length - x.k) ⟨0, 0, 0, rfl, by omega, by simp [totalM]⟩ (by kernel_rfl) [0] ?_ ?_
    · refine ⟨rfl, by show List.Nodup []; exact List.nodup_nil, ?_, ?_⟩ <;> repeat' (first | exact trivial | exact rfl | apply And.intro | exact (fun _ _ _ _ => Cell.le_refl _) | (intro i hi; rfl) | (intro i hi; exact absurd hi (Nat.not_lt_zero _)))
    rintro ⟨i, k, s, hk, h1, hs⟩
    replace hk : i = @Nat.cast Int instNatCastInt k := hk
    subst hk
    unfold sTrue17 sLightMs sPriceM sMayM sTotalM
    generalize hg0 : (List.length : List UInt8 → Nat) = g0
    generalize hL : lft Try.prog _ = L
    generalize hA : Arith.std = A
    set_option cbv.maxSteps 20000000 in cbv
    subst hA hg0 hL
    refine Ife.mk (fun hlt => ?_) (fun hlt => ?_)
    · replace hlt : (k : Int) < @Nat.cast Int instNatCastInt n := of_decide_eq_true (p := (k : Int) < (n : Int)) hlt
      have hkL : k < L.length := by omega
      have pm := msgPre_n (m := gM L k) (a := .row 0) (b := .row 1) (fr := false) (fr' := false) (ho k) rfl rfl
      have ge := msgOf_g (a := .row 0) (b := .row 1) (fr := false) (fr' := false) (ho k).raw
      have ix : 0 ≤ (k : Int) ∧ (k : Int) < (n : Int) := by omega
      have ix2 : k < n := by omega
      generalize hE : priceM _ = E
      replace hE : priceM (gM L k) = E := (congrArg priceM ge).symm.trans hE
      refine Need.mk ix fun _ => Need.mk ix2 fun _ => Need.mk pm fun _ => Need.mk ix fun _ => Need.mk ix2 fun _ => Need.mk pm fun _ => ?_
      have r1 := total_rng (L := L.take k) fun m hm => hok m (List.mem_of_mem_take hm)
      have r2 := price_rng (ho k)
      have r3 : (L.take k).length = k := by rw [List.length_take]; omega
      have hd : decide (0 < E) = mayM (gM L k) := by
        cases hm : mayM (gM L k)
        · rw [price_no hm] at hE
          rw [← hE]; decide
        · have := price_may hm (ho k)
          exact decide_eq_true (by omega)
      refine Ife.no (by show (!decide (E = E)) = false; simp) ?_
      refine Need.mk ix fun _ => Need.mk ix2 fun _ => Need.mk pm fun _ => ?_
      generalize hB : mayM _ = B
      replace hB : mayM (gM L k) = B := (congrArg mayM ge).symm.trans hB
      rw [hB] at hd
      refine Ife.no (by show (!(decide (0 < E) == B)) = false; rw [hd]; simp) ?_
      refine Ife.mk (fun h0 => ?_) (fun h0 => ?_)
      · replace h0 : decide (0 < E) = true := h0
        have hE2 : ¬ E < 1003 := by
          have := price_may (hB.trans (hd.symm.trans h0)) (ho k)
          omega
        refine Ife.no (decide_eq_false hE2) ?_
        refine Need.mk (by show fitStd .i64 (s + E); unfold fitStd; omega) fun _ => ?_
        refine Need.mk (by show fitStd .i64 ((k : Int) + 1); unfold fitStd; omega) fun _ => ?_
        refine ⟨⟨(k : Int) + 1, k + 1, s + E, by omega, by omega, by rw [total_take hkL, ← hs, hE]⟩, [0], (by show L.length - (k + 1) < L.length - k; omega), ?_⟩
        refine ⟨rfl, by show List.Nodup []; exact List.nodup_nil, ?_, ?_⟩ <;> repeat' (first | exact trivial | exact rfl | apply And.intro | exact (fun _ _ _ _ => Cell.le_refl _) | (intro i hi; rfl) | (intro i hi; exact absurd hi (Nat.not_lt_zero _)))
      · refine Need.mk (by show fitStd .i64 (s + E); unfold fitStd; omega) fun _ => ?_
        refine Need.mk (by show fitStd .i64 ((k : Int) + 1); unfold fitStd; omega) fun _ => ?_
        refine ⟨⟨(k : Int) + 1, k + 1, s + E, by omega, by omega, by rw [total_take hkL, ← hs, hE]⟩, [0], (by show L.length - (k + 1) < L.length - k; omega), ?_⟩
        refine ⟨rfl, by show List.Nodup []; exact List.nodup_nil, ?_, ?_⟩ <;> repeat' (first | exact trivial | exact rfl | apply And.intro | exact (fun _ _ _ _ => Cell.le_refl _) | (intro i hi; rfl) | (intro i hi; exact absurd hi (Nat.not_lt_zero _)))
    · replace hlt : ¬ (k : Int) < @Nat.cast Int instNatCastInt n := of_decide_eq_false (p := (k : Int) < (n : Int)) hlt
      refine Need.mk (msgsPre_n (fr := false) hL hok (by omega)) fun _ => ?_
      rw [k0]
      rw [show totalM L = s by rw [hs, List.take_of_length_le (by omega)]]
      exact ⟨[0], ⟨rfl, by repeat' (first | exact trivial | exact (decide_eq_true rfl) | exact (congrArg CV.bool (decide_eq_true rfl)) | exact (congrArg (fun b => SV.c (CV.bool b)) (decide_eq_true rfl)) | exact rfl | apply And.intro | exact (fun _ _ _ _ => Cell.le_refl _) | (intro i hi; rfl) | (intro i hi; exact absurd hi (Nat.not_lt_zero _))), by decide, rfl, by repeat' (first | exact trivial | exact (decide_eq_true rfl) | exact (congrArg CV.bool (decide_eq_true rfl)) | exact (congrArg (fun b => SV.c (CV.bool b)) (decide_eq_true rfl)) | exact rfl | apply And.intro | exact (fun _ _ _ _ => Cell.le_refl _) | (intro i hi; rfl) | (intro i hi; exact absurd hi (Nat.not_lt_zero _)))⟩⟩

end Go.Proofs.Ytcgoaicifjndpaa.Vx
namespace Go.Proofs.Ytcgoaicifjndpaa
open Go.RowKit
set_option linter.unusedVariables false
theorem gasTellsWalk (w : World) (v : Value) (L : List Vx.PMsg) (hv : (Vx.Cell.ns false 74 50 L.length (Vx.msgG false L)).shows w (fun _ b => b < w.heap.size) v) (hn : L.length ≤ maxLen) (hr : ∀ m ∈ L, Vx.MsgRaw m) :
    Calls Try.prog 6 #[v] w fun e w' => e = .returned (.bool true) ∧ Below w.heap.size w w' := by
  obtain ⟨q, hq, r1⟩ := Vx.Rel.addMsgs (Vx.Rel.refl w) hv
  have d : Vx.CV.den [q] (.row 0) = some v := Vx.msgs_den hv hq
  refine Calls.mono (Vx.gasTellsP.run [.c (.row 0)] [.data false 74 50 L.length (Vx.msgG false L)] _ _ _ rfl (Vx.msgsPre0_law hr hn) [q] w _ r1 ⟨_, _, rfl, d, rfl⟩) fun e W' he => ?_
  obtain ⟨u, ρ', rfl, hu, hr⟩ := he
  obtain rfl : .bool true = u := Option.some.inj hu
  exact ⟨rfl, Vx.Rel.toBelow hr⟩
end Go.Proofs.Ytcgoaicifjndpaa
end
