/- The document's transactions read, by the walker. -/
import Derived.Test.YtcgoaicifjndpaaM39
import Derived.Test.YtcgoaicifjndpaaM36
import Derived.Test.YtcgoaicifjndpaaM37
section
namespace Go.Proofs.Ytcgoaicifjndpaa.Vx
open Go.RowKit
set_option linter.unusedVariables false
set_option linter.unusedSimpArgs false

end Go.Proofs.Ytcgoaicifjndpaa.Vx
end

section
/- Slices of messages that come in, opened. -/
namespace Go.Proofs.Ytcgoaicifjndpaa
open Go.ChangeShapes Go.WideShapes Go.ChangeAt Go.RowKit
set_option linter.unusedVariables false
set_option linter.unusedSimpArgs false
set_option maxRecDepth 100000
section
variable {H : Type} {enc : TypeId × Value → H} {w : World} {base : Nat}
/-- Values that cells show. -/
def ShL (w : World) (D : Bool → Nat → Prop) : List Vx.Cell → List Value → Prop
  | [], [] => True
  | c :: cs, v :: vs => c.shows w D v ∧ ShL w D cs vs
  | _, _ => False
theorem ShL.app {D : Bool → Nat → Prop} : ∀ {a b : List Vx.Cell} {x y : List Value}, ShL w D a x → ShL w D b y → ShL w D (a ++ b) (x ++ y)
  | [], _, [], _, _, h => h
  | _ :: _, _, _ :: _, _, h, k => ⟨h.1, h.2.app k⟩
  | [], _, _ :: _, _, h, _ => absurd h id
  | _ :: _, _, [], _, h, _ => absurd h id
theorem ShL.pl {D : Bool → Nat → Prop} : ∀ {cs : List Vx.CV} {vs : List Value}, Vx.IsL [] cs vs → ShL w D (cs.map Vx.Cell.pl) vs
  | [], [], _ => trivial
  | c :: cs, v :: vs, h => by
    have h : c.den [] :: cs.map (Vx.CV.den []) = some v :: vs.map some := h
    exact ⟨(List.cons.inj h).1, ShL.pl (List.cons.inj h).2⟩
  | [], _ :: _, h => by cases h
  | _ :: _, [], h => by cases h
theorem ShL.get {D : Bool → Nat → Prop} : ∀ {cs : List Vx.Cell} {vs : List Value} {j : Nat}, ShL w D cs vs → j < cs.length → ∃ u, vs[j]? = some u ∧ (cs.getD j (.pl .tt)).shows w D u
  | c :: cs, v :: vs, 0, h, _ => ⟨v, rfl, h.1⟩
  | c :: cs, v :: vs, j + 1, h, hj => by
    obtain ⟨u, h1, h2⟩ := h.2.get (j := j) (by simpa using hj)
    exact ⟨u, by simpa using h1, by simpa using h2⟩
  | [], _, _, _, hj => absurd hj (by simp)
  | _ :: _, [], _, h, _ => absurd h id
theorem MsgIn.sh {l : List Value} {m : Vx.PMsg} (h : MsgIn w l m) : ShL w (fun _ b => b < w.heap.size) (Vx.msgCl false m) l := by
  rw [h.cells]
  unfold Vx.msgCl Vx.msgClP
  refine ⟨rfl, rfl, rfl, ShL.app (ShL.pl (isL_h32r h.len)) (ShL.app ?_ ⟨rfl, rfl, rfl, rfl, h.pl, rfl, h.cl, trivial⟩)⟩
  exact ShL.pl (cs := Vx.pkC m.pk) (vs := m.pk.cells.toList) rfl
theorem MsgIn.raw {l : List Value} {m : Vx.PMsg} (h : MsgIn w l m) : Vx.MsgRaw m := ⟨h.fits, h.len, h.by', h.ack, h.pok, h.cok⟩
/-- Messages that come in, as data. -/
theorem trod_Msgs {fuel : Nat} {l : List Value} {x : DataW H × List MemPlace} (hf : DataW.trod enc Try.prog w 0 (fun _ => true) true fuel 59 l = some x) :
    ∃ (v : Value) (L : List Vx.PMsg), l = [v] ∧ (Vx.Cell.ns false 74 50 L.length (Vx.msgG false L)).shows w (fun _ b => b < w.heap.size) v ∧ L.length ≤ maxLen ∧ ∀ m ∈ L, Vx.MsgRaw m := by
  obtain ⟨a, cap, xs, e, hsl, hx⟩ := trod_sl (sz := 50) (P := fun l => ∃ m, Nonempty (MsgIn w l m)) (by decide) Try.underlying59 cellsM_Msg (fun fuel l x hl => ⟨by
    obtain ⟨xs, m, _, _, hl, hlen, hff⟩ := DataW.trod_struct Try.underlying74 hl
    rw [cellsM_Msg] at hl
    exact hl, trod_Msg hl⟩) hf
  obtain ⟨f, hf⟩ : ∃ f : Nat → Vx.PMsg, ∀ i (hi : i < xs.length), Nonempty (MsgIn w xs[i] (f i)) := by
    refine ⟨fun i => if h : i < xs.length then Classical.choose (hx xs[i] (List.getElem_mem h)).2 else Vx.zeroMsg, fun i hi => ?_⟩
    dsimp only
    rw [dif_pos hi]
    exact Classical.choose_spec (hx xs[i] (List.getElem_mem hi)).2
  refine ⟨_, (List.range xs.length).map f, e, ⟨a, cap, by simp, by simpa using hsl.cap, fun h0 => ?_⟩, by simpa using hsl.max, fun y hy => ?_⟩
  rotate_left
  · obtain ⟨i, hi, rfl⟩ := List.mem_map.1 hy
    obtain ⟨k⟩ := hf i (by simpa using hi)
    exact k.raw
  obtain ⟨b, off, ha, hb, hc⟩ := hsl.lt (by simpa using h0)
  refine ⟨b, off, ha, hb, fun i j hi hj => ?_⟩
  have hi' : i < xs.length := by simpa using hi
  obtain ⟨k⟩ := hf i hi'
  have el : Vx.gM ((List.range xs.length).map f) i = f i := by simp [Vx.gM, List.getD, hi']
  obtain ⟨u, h1, h2⟩ := k.sh.get (j := j) hj
  refine ⟨u, hc i hi' j u h1, ?_⟩
  unfold Vx.msgG Vx.msgGP
  rw [el]
  exact h2
theorem open_Msgs {v : Value} {d : DataW H} {p : List MemPlace} (hv : Value.okWide Try.prog w .any base 59 v) (h : DataW.Trod enc Try.prog w 0 (fun _ => true) true 59 v d p) :
    ∃ L : List Vx.PMsg, (Vx.Cell.ns false 74 50 L.length (Vx.msgG false L)).shows w (fun _ b => b < w.heap.size) v ∧ L.length ≤ maxLen ∧ ∀ m ∈ L, Vx.MsgRaw m := by
  obtain ⟨a, n, cap, rfl, _⟩ := okWide_slice Try.underlying59 hv
  obtain ⟨fuel, hf⟩ := h
  simp only [Value.cells] at hf
  obtain ⟨v, L, e, h1, h2, h3⟩ := trod_Msgs hf
  obtain rfl : Value.slice a n cap = v := by simpa using e
  exact ⟨L, h1, h2, h3⟩
/-- Messages that came in, as an entry of a law's start. -/
theorem Vx.Rel.addMsgs {ρ : List Vx.Pl} {h : List Vx.Ent} (r : Vx.Rel w (Vx.Gs.all []) ρ h w) {L : List Vx.PMsg} {v : Value} (hs : (Vx.Cell.ns false 74 50 L.length (Vx.msgG false L)).shows w (fun _ b => b < w.heap.size) v) :
    ∃ q : Vx.Pl, q.v = v ∧ Vx.Rel w (Vx.Gs.all []) (ρ ++ [q]) (h ++ [.data false 74 50 L.length (Vx.msgG false L)]) w := by
  have old : ∀ D' : Bool → Nat → Prop, (∀ b, b < w.heap.size → D' false b) → (Vx.Cell.ns false 74 50 L.length (Vx.msgG false L)).shows w D' v := fun D' hD => by
    have e : (Vx.Cell.ns false 74 50 L.length (Vx.msgG false L)).old = .ns false 74 50 L.length (Vx.msgG false L) := by
      show Vx.Cell.ns false _ _ _ (fun i j => (Vx.msgG false L i j).old) = _
      congr 1
      funext i j
      exact Vx.msgG_old
    have := Vx.Cell.shows_old (D' := D') (fun fr b hb => ⟨hD b hb, rfl⟩) hs
    rwa [e] at this
  have hs0 := hs
  obtain ⟨a, cap, h1, h2, h3⟩ := hs0
  by_cases hn : 0 < L.length
  · obtain ⟨b, o, ha, _, _⟩ := h3 hn
    exact ⟨⟨b, v, o⟩, rfl, r.addS (en := .data false _ 50 L.length (Vx.msgG false L)) (q := ⟨b, v, o⟩) rfl ⟨a, cap, h1, h2, fun _ => ha⟩ fun _ => old _ fun b hb => Or.inl ⟨hb, by simp, trivial⟩⟩
  · exact ⟨⟨0, v, 0⟩, rfl, r.addS (en := .data false _ 50 L.length (Vx.msgG false L)) (q := ⟨0, v, 0⟩) rfl ⟨a, cap, h1, h2, fun h => absurd h hn⟩ fun _ => old _ fun b hb => Or.inl ⟨hb, by simp, trivial⟩⟩
end
end Go.Proofs.Ytcgoaicifjndpaa
end

section
/- The law TxTells, by the walker. -/
namespace Go.Proofs.Ytcgoaicifjndpaa.Vx
open Go.RowKit
set_option linter.unusedVariables false
set_option linter.unusedSimpArgs false
theorem lightMs_ok {L : List PMsg} (h : lightMs L = true) (hr : ∀ m ∈ L, MsgRaw m) : L.length ≤ 70 ∧ ∀ m ∈ L, MsgOk m := by
  unfold lightMs at h
  simp only [Bool.and_eq_true, decide_eq_true_iff] at h
  refine ⟨h.1, fun m hm => ?_⟩
  obtain ⟨i, hi, rfl⟩ := List.getElem_of_mem hm
  have := List.all_eq_true.1 h.2 i (List.mem_range.2 hi)
  rw [gM_eq hi] at this
  exact (hr _ hm).ok this
theorem sameMs_self (L : List PMsg) : sameMs L L = true := decide_eq_true rfl
theorem msgs_den {w : World} {L : List PMsg} {v : Value} {ρ : List Pl} {k : Nat} {q : Pl} (hs : (Cell.ns false 74 50 L.length (msgG false L)).shows w (fun _ b => b < w.heap.size) v) (hq : q.v = v) (hk : ρ[k]? = some q := by rfl) : CV.den ρ (.row k) = some v := by
  obtain ⟨a, cap, h1, -⟩ := hs
  simp only [CV.den, hk]
  rw [hq, h1]
  rfl
theorem msgsPre0_law {L : List PMsg} (h : ∀ m ∈ L, MsgRaw m) (hl : L.length ≤ 9223372036854775807) : msgsPre0 74 50 L.length (msgG false L) := by
  have e : msgsL L.length (msgG false L) = L := msgsL_eq rfl (fun m hm => (h m hm).raw) fun _ _ _ _ => rfl
  exact ⟨rfl, rfl, fun i j _ _ => by rw [e], by rw [e]; exact h, hl⟩


end Go.Proofs.Ytcgoaicifjndpaa.Vx
namespace Go.Proofs.Ytcgoaicifjndpaa
open Go.RowKit
set_option linter.unusedVariables false
end Go.Proofs.Ytcgoaicifjndpaa
end
