/- Acts that come in, opened. -/
import Derived.Test.YtbbpgicoklhheaaDoorM18
import Derived.Test.YtbbpgicoklhheaaDoorM36
section
namespace Go.Proofs.YtbbpgicoklhheaaDoor.Vx
/-- An act's values. -/
def adVals (x : DC) : List Value := [.int .i64 x.1, .int .i64 x.2.1, .int .i64 x.2.2.1, .string ⟨x.2.2.2.1.toArray⟩, .string ⟨x.2.2.2.2.toArray⟩]
end Go.Proofs.YtbbpgicoklhheaaDoor.Vx
namespace Go.Proofs.YtbbpgicoklhheaaDoor
open Go.ChangeShapes Go.WideShapes Go.ChangeAt Go.RowKit
set_option linter.unusedVariables false
set_option linter.unusedSimpArgs false
section
variable {H : Type} {enc : TypeId × Value → H} {w : World} {base : Nat}
theorem cells_Ads : Tryd.prog.cellsOf 30 = 5 := by kernel_rfl
set_option maxRecDepth 100000 in
theorem open_Ads {v : Value} {d : DataW H} {p : List MemPlace} (hv : Value.okWide Tryd.prog w .any base 22 v) (h : DataW.Trod enc Tryd.prog w 0 (fun _ => true) true 22 v d p) :
    ∃ (a : Option Addr) (cap : Nat) (ls : List Vx.DC), v = .slice a ls.length cap ∧ SlIn w a 5 cap (ls.map Vx.adVals) := by
  obtain ⟨a, cap, xs, rfl, hs, hx⟩ := open_slice (sz := 5) (P := fun l => ∃ x : Vx.DC, l = Vx.adVals x) (by decide) Tryd.underlying22 cells_Ads (fun fuel l x hl => by
    obtain ⟨ys, m, _, _, hl2, hlen, hff⟩ := DataW.trod_struct Tryd.underlying30 hl
    rw [cells_Ads] at hl2
    match l, hl2 with
    | [c0, c1, c2, c3, c4], _ =>
      match ys, hlen with
      | [y0, y1, y2, y3, y4], _ =>
        have f0 := hff 0 _ rfl
        have f1 := hff 1 _ rfl
        have f2 := hff 2 _ rfl
        have f3 := hff 3 _ rfl
        have f4 := hff 4 _ rfl
        simp [cells_int, cells_string] at f0 f1 f2 f3 f4
        obtain ⟨n0, e0, _, _⟩ := DataW.trod_int Tryd.underlying3 f0
        obtain ⟨n1, e1, _, _⟩ := DataW.trod_int Tryd.underlying3 f1
        obtain ⟨n2, e2, _, _⟩ := DataW.trod_int Tryd.underlying3 f2
        obtain ⟨s3, e3, _, hs3⟩ := DataW.trod_string Tryd.underlying9 f3
        obtain ⟨s4, e4, _, hs4⟩ := DataW.trod_string Tryd.underlying9 f4
        simp at e0 e1 e2 e3 e4
        obtain ⟨n3, rfl, b3⟩ := bytesOf s3 hs3
        obtain ⟨n4, rfl, b4⟩ := bytesOf s4 hs4
        exact ⟨rfl, (n0, n1, n2, n3, n4), by simp [Vx.adVals, e0, e1, e2, e3, e4]⟩) hv h
  obtain ⟨f, hf⟩ : ∃ f : Nat → Vx.DC, ∀ i (hi : i < xs.length), xs[i] = Vx.adVals (f i) := by
    have key : ∀ i, ∃ n : Vx.DC, ∀ hi : i < xs.length, xs[i] = Vx.adVals n := fun i => by
      by_cases hi : i < xs.length
      · obtain ⟨n, e⟩ := (hx _ (List.getElem_mem hi)).2
        exact ⟨n, fun _ => e⟩
      · exact ⟨Vx.adD, fun h => absurd h hi⟩
    exact ⟨fun i => (key i).choose, fun i hi => (key i).choose_spec hi⟩
  have e : xs = ((List.range xs.length).map f).map Vx.adVals := by
    apply List.ext_getElem (by simp)
    intro i h1 h2
    simp [hf i h1]
  refine ⟨a, cap, (List.range xs.length).map f, by simp, ?_⟩
  rw [← e]
  exact hs
theorem Ads_good {w : World} {a : Option Addr} {cap : Nat} {ls : List Vx.DC} (hs : SlIn w a 5 cap (ls.map Vx.adVals)) : ∃ p : Vx.Pl, p.v = .slice a ls.length cap ∧ Vx.Good w 5 (ls.length, Vx.adG ls) p := by
  obtain ⟨p, hp, g⟩ := hs.good (get := Vx.adG ls) (fun i hi => by
    have hi' : i < ls.length := by simpa using hi
    rw [List.getElem_map]
    have e : ls.getD i Vx.adD = ls[i] := by simp [List.getD, hi']
    unfold Vx.adG Vx.adK Vx.adN Vx.adM Vx.adS Vx.adV
    rw [e]
    rfl)
  simp only [List.length_map] at hp g
  exact ⟨p, hp, g⟩
end
end Go.Proofs.YtbbpgicoklhheaaDoor
end

section
/- PastProves: what a law's call answers. -/
namespace Go.Proofs.YtbbpgicoklhheaaDoor
open Go.RowKit
set_option linter.unusedVariables false
theorem pastProvesWalk (w : World) (hk : ∀ i, i < 64 → w.cell? ⟨1, i, none⟩ = some (.int .u32 (Sha.kOf i))) (p0 : Option Addr) (cap0 : Nat) (ls0 : List Vx.DC) (hs0 : SlIn w p0 5 cap0 (ls0.map Vx.adVals)) (s1 : ByteArray) (hz1 : s1.size ≤ maxLen) :
    Calls Tryd.prog 4 #[.slice p0 ls0.length cap0, .string s1] w fun e w' => e = .returned (.bool true) ∧ Below w.heap.size w w' := by
  obtain ⟨q0, hq0, gd0⟩ := Ads_good hs0
  rw [← hq0]
  obtain ⟨b1, rfl, hl1⟩ := bytesOf s1 hz1
  refine Calls.mono (Vx.pastProvesP.run [.c (.row 1), .c (.str b1)] [.glob 1 1 64 (fun i => [.int .u32 (Sha.kOf i)]), .elems 30 5 ls0.length (Vx.adG ls0)] _ _ _ rfl ⟨Vx.ksAt_self, rfl, rfl, Vx.adAt_adG _ _⟩ [⟨1, undef, 0⟩, q0] w _ (Vx.Rel.addV (Vx.relGlob hk) 30 gd0)
    ⟨_, _, rfl, (by obtain ⟨a', cap', e, _⟩ := gd0.sl; simp [Vx.SV.is, Vx.CV.den, e, Vx.one] : Vx.SV.is [⟨1, undef, 0⟩, q0] (.c (.row 1)) q0.v), ⟨_, _, rfl, rfl, rfl⟩⟩) fun e W' he => ?_
  obtain ⟨u, ρ', rfl, hu, hr⟩ := he
  obtain rfl : .bool true = u := Option.some.inj hu
  exact ⟨rfl, Vx.Rel.toBelow hr⟩
end Go.Proofs.YtbbpgicoklhheaaDoor
end
