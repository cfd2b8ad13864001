/- A proof that comes in, opened; the walk of ProofTells. -/
import Derived.Test.YthomoliklfmnkaaDoorM36
import Derived.Test.YthomoliklfmnkaaDoorM30
import Derived.Test.YthomoliklfmnkaaDoorM24
import Derived.Test.YthomoliklfmnkaaDoorM19
import Derived.Test.YthomoliklfmnkaaDoorM18
namespace Go.Proofs.YthomoliklfmnkaaDoor.Vx
open Sha
set_option linter.unusedVariables false
set_option linter.unusedSimpArgs false
theorem leafOf_eq0 {fr : Bool} {l : List PLeaf} {i : Nat} (hi : i < l.length) (hok : ∀ x ∈ l, ∀ h ∈ x.p, h.length = 32) : leafOf (leafG fr l i) = l[i] := by
  have e : l.getD i .none = l[i] := by simp [List.getD, hi]
  have hx := hok l[i] (List.getElem_mem hi)
  have ep : cHs (leafG fr l i 3) = l[i].p := by
    show (List.range (lN l i)).map (fun j => (pG (lP l i) j).map vInt) = _
    unfold lN lP
    rw [e]
    apply List.ext_getElem?
    intro j
    rw [List.getElem?_map]
    by_cases hj : j < l[i].p.length
    · rw [List.getElem?_range hj, List.getElem?_eq_getElem hj, Option.map_some]
      congr 1
      unfold pG
      rw [show l[i].p.getD j [] = l[i].p[j] by simp [List.getD, hj]]
      exact pG_vInt (hx _ (List.getElem_mem hj))
    · rw [List.getElem?_eq_none (by simp; omega), List.getElem?_eq_none (by omega)]; rfl
  unfold leafOf
  rw [ep]
  show PLeaf.mk (lK l i) (lV l i) (lI l i) _ = _
  unfold lK lV lI
  rw [e]
theorem leafL_eq0 {n : Nat} {get : Nat → Nat → Cell} {fr : Bool} {l : List PLeaf} (hn : l.length = n) (hok : ∀ x ∈ l, ∀ h ∈ x.p, h.length = 32) (h : ∀ i j, i < n → j < 4 → get i j = leafG fr l i j) : leafL n get = l := by
  apply List.ext_getElem (by simp [leafL, hn])
  intro i h1 h2
  have : leafOf (get i) = leafOf (leafG fr l i) := by
    unfold leafOf
    rw [h i 0 (by omega) (by omega), h i 1 (by omega) (by omega), h i 2 (by omega) (by omega), h i 3 (by omega) (by omega)]
  simp only [leafL, List.getElem_map, List.getElem_range, this]
  exact leafOf_eq0 h2 hok
theorem leaves_den {w : World} {L : List PLeaf} {v : Value} {ρ : List Pl} {k : Nat} {q : Pl} (hs : (Cell.ns false 115 4 L.length (leafG false L)).shows w (fun _ b => b < w.heap.size) v) (hq : q.v = v) (hk : ρ[k]? = some q := by rfl) : CV.den ρ (.row k) = some v := by
  obtain ⟨a, cap, h1, -⟩ := hs
  simp only [CV.den, hk]
  rw [hq, h1]
  rfl
theorem leafL_in {L : List PLeaf} (h : RawP L) : leafL L.length (leafG false L) = L := leafL_eq0 (fr := false) rfl (fun x hx y hy => (h x hx y hy).1) fun _ _ _ _ => rfl
theorem leavesAt0_in {L : List PLeaf} (h : RawP L) : leavesAt0 115 4 L.length (leafG false L) := ⟨rfl, rfl, fun i j _ _ => by rw [leafL_in h]⟩
end Go.Proofs.YthomoliklfmnkaaDoor.Vx
namespace Go.Proofs.YthomoliklfmnkaaDoor
open Go.ChangeShapes Go.WideShapes Go.ChangeAt Go.RowKit
set_option linter.unusedVariables false
set_option maxRecDepth 100000
/-- A proof that comes in: its leaves as data. -/
structure PfIn (w : World) (l : List Value) (c : Int) (L : List Vx.PLeaf) where
  v : Value
  cells : l = [.int .i64 c, v]
  sh : (Vx.Cell.ns false 115 4 L.length (Vx.leafG false L)).shows w (fun _ b => b < w.heap.size) v
  raw : Vx.RawP L
section
variable {H : Type} {enc : TypeId × Value → H} {w : World} {base : Nat}
theorem open_Pf {v : Value} {d : DataW H} {p : List MemPlace} (hv : Value.okWide Tryd.prog w .any base 27 v) (h : DataW.Trod enc Tryd.prog w 0 (fun _ => true) true 27 v d p) :
    ∃ (l : List Value) (c : Int) (L : List Vx.PLeaf), v = .agg l.toArray ∧ Nonempty (PfIn w l c L) := by
  obtain ⟨cs, rfl, hz⟩ := okWide_struct Tryd.underlying27 hv
  obtain ⟨fuel, hf⟩ := h
  obtain ⟨l, rfl⟩ : ∃ l : List Value, cs = l.toArray := ⟨cs.toList, by simp⟩
  simp only [Value.cells] at hf
  obtain ⟨c, v, L, e, h1, h2, h3⟩ := trod_Proof hf
  exact ⟨l, c, L, rfl, ⟨⟨v, e, h1, fun x hx => (h3 x hx).2.2⟩⟩⟩
end
theorem proofTellsWalk (w : World) (hk : ∀ i, i < 64 → w.cell? ⟨0, i, none⟩ = some (.int .u32 (Sha.kOf i))) (p : Option Addr) (cap : Nat) (ls : List Vx.PP) (hs : SlIn w p 2 cap (ls.map Vx.prVals)) (s : ByteArray) (hs2 : s.size ≤ maxLen) (t : ByteArray) (ht2 : t.size ≤ maxLen) (f : Nat → Int) (hf : ∀ i, 0 ≤ f i ∧ f i < 256) (l : List Value) (c : Int) (L : List Vx.PLeaf) (hm : PfIn w l c L) (own : Bool) :
    Calls Tryd.prog 3 #[.slice p ls.length cap, .string s, .string t, .agg (hashV f).toArray, .agg l.toArray, .bool own] w fun e w' => e = .returned (.bool true) ∧ Below w.heap.size w w' := by
  obtain ⟨b, rfl, hl⟩ := bytesOf s hs2
  obtain ⟨b2, rfl, hl2⟩ := bytesOf t ht2
  obtain ⟨q, hq, gd⟩ := prs_good hs
  rw [← hq]
  obtain ⟨q', hq', r2⟩ := Vx.Rel.addLeaves (Vx.Rel.addV (Vx.relGlob hk) 46 gd) hm.sh
  have d' : Vx.CV.den [⟨0, undef, 0⟩, q, q'] (.row 2) = some hm.v := Vx.leaves_den hm.sh hq'
  refine Calls.mono (Vx.proofTellsP.run [.c (.row 1), .c (.str b), .c (.str b2), .agg (Vx.hashC f), .agg [.int .i64 c, .row 2], .c (.bool own)] [.glob 0 1 64 (fun i => [.int .u32 (Sha.kOf i)]), .elems 46 2 ls.length (Vx.prG ls), .data false 115 4 L.length (Vx.leafG false L)] _ _ _ rfl ⟨Vx.ksAt_self, ⟨rfl, rfl, Vx.prAt_prG _ _⟩, ⟨f, rfl, hf⟩, Vx.leavesAt0_in hm.raw, by rw [Vx.leafL_in hm.raw]; exact hm.raw⟩ [⟨0, undef, 0⟩, q, q'] w _ r2
    ⟨_, _, rfl, (by obtain ⟨a', cap', e, _⟩ := gd.sl; simp [Vx.SV.is, Vx.CV.den, e, Vx.one] : Vx.SV.is [⟨0, undef, 0⟩, q, q'] (.c (.row 1)) q.v), _, _, rfl, rfl, _, _, rfl, rfl, _, _, rfl, ⟨_, hashC_is f _, rfl⟩, _, _, rfl, ⟨l, by rw [hm.cells]; exact Vx.IsL.cons rfl (Vx.IsL.cons d' (Vx.IsL.nil _)), rfl⟩, _, _, rfl, rfl, rfl⟩) fun e W' he => ?_
  obtain ⟨u, ρ', rfl, hu, hr⟩ := he
  obtain rfl : .bool true = u := Option.some.inj hu
  exact ⟨rfl, Vx.Rel.toBelow hr⟩
end Go.Proofs.YthomoliklfmnkaaDoor
