/- Slices of integers and of ranges that come in. -/
import Derived.Test.YtonkpggnlkkghaaVAdd
import Derived.Test.YtonkpggnlkkghaaVSpan
namespace Go.Proofs.Ytonkpggnlkkghaa
open Go.ChangeShapes Go.WideShapes Go.ChangeAt Go.RowKit
set_option linter.unusedVariables false
set_option linter.unusedSimpArgs false
section
variable {H : Type} {enc : TypeId × Value → H} {w : World} {base : Nat}
theorem cellsG_int : Try.prog.cellsOf 3 = 1 := by kernel_rfl
theorem cellsG_rg : Try.prog.cellsOf 62 = 2 := by kernel_rfl
set_option maxRecDepth 100000 in
theorem open_Inz {v : Value} {d : DataW H} {p : List MemPlace} (hv : Value.okWide Try.prog w .any base 22 v) (h : DataW.Trod enc Try.prog w 0 (fun _ => true) true 22 v d p) :
    ∃ (a : Option Addr) (cap : Nat) (ls : List Int), v = .slice a ls.length cap ∧ SlIn w a 1 cap (ls.map fun n => [.int .i64 n]) := by
  obtain ⟨a, cap, xs, rfl, hs, hx⟩ := open_slice (sz := 1) (P := fun l => ∃ n : Int, l = [.int .i64 n]) (by decide) Try.underlying22 cellsG_int (fun fuel l x hl => by
    obtain ⟨n, e, _, hn⟩ := DataW.trod_int Try.underlying3 hl
    exact ⟨by rw [e]; rfl, n, e⟩) hv h
  obtain ⟨f, hf⟩ : ∃ f : Nat → Int, ∀ i (hi : i < xs.length), xs[i] = [.int .i64 (f i)] := by
    have key : ∀ i, ∃ n : Int, ∀ hi : i < xs.length, xs[i] = [.int .i64 n] := fun i => by
      by_cases hi : i < xs.length
      · obtain ⟨n, e⟩ := (hx _ (List.getElem_mem hi)).2
        exact ⟨n, fun _ => e⟩
      · exact ⟨0, fun h => absurd h hi⟩
    exact ⟨fun i => (key i).choose, fun i hi => (key i).choose_spec hi⟩
  have e : xs = ((List.range xs.length).map f).map fun n => [.int .i64 n] := by
    apply List.ext_getElem (by simp)
    intro i h1 h2
    simp [hf i h1]
  refine ⟨a, cap, (List.range xs.length).map f, by simp, ?_⟩
  rw [← e]
  exact hs
theorem inz_good {w : World} {a : Option Addr} {cap : Nat} {ls : List Int} (hs : SlIn w a 1 cap (ls.map fun n => [.int .i64 n])) : ∃ p : Vx.Pl, p.v = .slice a ls.length cap ∧ Vx.Good w 1 (ls.length, Vx.inG ls) p := by
  obtain ⟨p, hp, g⟩ := hs.good (get := Vx.inG ls) (fun i hi => by
    have hi' : i < ls.length := by simpa using hi
    rw [List.getElem_map]
    show [some (Value.int .i64 (Vx.iA ls i))] = [some (Value.int .i64 ls[i])]
    simp [Vx.iA, List.getD, hi'])
  simp only [List.length_map] at hp g
  exact ⟨p, hp, g⟩
set_option maxRecDepth 100000 in
theorem open_Rgs {v : Value} {d : DataW H} {p : List MemPlace} (hv : Value.okWide Try.prog w .any base 24 v) (h : DataW.Trod enc Try.prog w 0 (fun _ => true) true 24 v d p) :
    ∃ (a : Option Addr) (cap : Nat) (ls : List (Int × Int)), v = .slice a ls.length cap ∧ SlIn w a 2 cap (ls.map fun r => [.int .i64 r.1, .int .i64 r.2]) := by
  obtain ⟨a, cap, xs, rfl, hs, hx⟩ := open_slice (sz := 2) (P := fun l => ∃ r : Int × Int, l = [.int .i64 r.1, .int .i64 r.2]) (by decide) Try.underlying24 cellsG_rg (fun fuel l x hl => by
    obtain ⟨y0, y1, m, _, hlen, h0, h1⟩ := trod_struct2 Try.underlying62 hl
    rw [cellsG_rg] at hlen
    match l, hlen with
    | [c0, c1], _ =>
      simp only [cellsG_int] at h0 h1
      obtain ⟨n, e0, _, hn⟩ := DataW.trod_int Try.underlying3 h0
      obtain ⟨m, e1, _, hm⟩ := DataW.trod_int Try.underlying3 h1
      simp at e0 e1
      exact ⟨rfl, (n, m), by rw [e0, e1]⟩) hv h
  obtain ⟨f, hf⟩ : ∃ f : Nat → Int × Int, ∀ i (hi : i < xs.length), xs[i] = [.int .i64 (f i).1, .int .i64 (f i).2] := by
    have key : ∀ i, ∃ n : Int × Int, ∀ hi : i < xs.length, xs[i] = [.int .i64 n.1, .int .i64 n.2] := fun i => by
      by_cases hi : i < xs.length
      · obtain ⟨n, e⟩ := (hx _ (List.getElem_mem hi)).2
        exact ⟨n, fun _ => e⟩
      · exact ⟨(0, 0), fun h => absurd h hi⟩
    exact ⟨fun i => (key i).choose, fun i hi => (key i).choose_spec hi⟩
  have e : xs = ((List.range xs.length).map f).map fun r => [.int .i64 r.1, .int .i64 r.2] := by
    apply List.ext_getElem (by simp)
    intro i h1 h2
    simp [hf i h1]
  refine ⟨a, cap, (List.range xs.length).map f, by simp, ?_⟩
  rw [← e]
  exact hs
theorem rgs_good {w : World} {a : Option Addr} {cap : Nat} {ls : List (Int × Int)} (hs : SlIn w a 2 cap (ls.map fun r => [.int .i64 r.1, .int .i64 r.2])) : ∃ p : Vx.Pl, p.v = .slice a ls.length cap ∧ Vx.Good w 2 (ls.length, Vx.rgG ls) p := by
  obtain ⟨p, hp, g⟩ := hs.good (get := Vx.rgG ls) (fun i hi => by
    have hi' : i < ls.length := by simpa using hi
    rw [List.getElem_map]
    show [some (Value.int .i64 (Vx.rA ls i)), some (Value.int .i64 (Vx.rB ls i))] = [some (Value.int .i64 ls[i].1), some (Value.int .i64 ls[i].2)]
    simp [Vx.rA, Vx.rB, List.getD, hi'])
  simp only [List.length_map] at hp g
  exact ⟨p, hp, g⟩
end
end Go.Proofs.Ytonkpggnlkkghaa
