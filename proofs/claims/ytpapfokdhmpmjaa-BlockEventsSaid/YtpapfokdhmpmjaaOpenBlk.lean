/- A block that comes in, opened. -/
import Derived.Test.YtpapfokdhmpmjaaOpenEv
import Derived.Test.YtpapfokdhmpmjaaVBlk2
import Derived.Test.YtpapfokdhmpmjaaBase
namespace Go.Proofs.Ytpapfokdhmpmjaa
open Go.ChangeShapes Go.WideShapes Go.ChangeAt Go.RowKit
set_option linter.unusedVariables false
section
variable {H : Type} {enc : TypeId × Value → H} {w : World} {base : Nat}
theorem cells_Block : Try.prog.cellsOf 40 = 4 := by kernel_rfl
theorem cells_evs : Try.prog.cellsOf 30 = 1 := by kernel_rfl

/-- A slice of events, as it reads. -/
structure EvsIn (w : World) (a : Option Addr) (xs : List Ev) : Prop where
  fits : ∀ x ∈ xs, x.fits
  lt : 0 < xs.length → ∃ b off, a = some ⟨b, off, none⟩ ∧ b < w.heap.size ∧ ∀ i (h : i < xs.length), ∀ j v, (evCells xs[i])[j]? = some v → w.cell? ⟨b, off + i * 13 + j, none⟩ = some v

theorem trod_Evs {spare : Nat → Bool} {held : Bool} {fuel : Nat} {l : List Value} {x : DataW H × List MemPlace} (hf : DataW.trod enc Try.prog w base spare held fuel 30 l = some x) :
    ∃ (a : Option Addr) (cap : Nat) (xs : List Ev), l = [.slice a xs.length cap] ∧ xs.length ≤ maxLen ∧ EvsIn w a xs := by
  rcases DataW.trod_slice Try.underlying30 hf with ⟨rfl, _⟩ | ⟨a, len, cap, elems, rest, n, _, rfl, rfl, hb, hl, hm, hlen, hel, hsp, hns⟩
  · exact ⟨none, 0, [], rfl, by simp, ⟨by simp, fun h => absurd h (by simp)⟩⟩
  · have each : ∀ i, i < len → ∃ q : Ev, q.fits ∧ ∃ cs, w.cells? base (a.add (i * 13)) 13 = some cs ∧ cs = evCells q := fun i hi => by
      have h := hel i hi
      simp only [cells_Event] at h
      have e := List.getElem?_eq_getElem (l := elems) (i := i) (by omega)
      rw [e] at h
      obtain ⟨cs, h1, h2⟩ := Option.bind_eq_some_iff.1 h
      obtain ⟨q, e, hq⟩ := trod_Ev h2
      exact ⟨q, hq, cs, h1, e⟩
    obtain ⟨f, hf⟩ : ∃ f : Nat → Ev, ∀ i, i < len → (f i).fits ∧ w.cells? base (a.add (i * 13)) 13 = some (evCells (f i)) := by
      refine ⟨fun i => if h : i < len then Classical.choose (each i h) else zeroEv, fun i hi => ?_⟩
      dsimp only
      rw [dif_pos hi]
      obtain ⟨h1, cs, h2, h3⟩ := Classical.choose_spec (each i hi)
      exact ⟨h1, h2.trans (congrArg some h3)⟩
    refine ⟨some a, cap, (List.range len).map f, by simp, by simp; omega, ⟨fun x hx => ?_, fun h0 => ?_⟩⟩
    · simp only [List.mem_map, List.mem_range] at hx
      obtain ⟨i, hi, rfl⟩ := hx
      exact (hf i hi).1
    · simp only [List.length_map, List.length_range] at h0 ⊢
      obtain ⟨b, off, spot⟩ := a
      have h1 := World.cells?_some (hf 0 h0).2
      have h2 : w.cell? (((⟨b, off, spot⟩ : Addr).add (0 * 13)).add 0) = some (.int .i64 (f 0).kind) := h1.2.2 0 (by decide)
      have hspot : spot = none := by simpa [Addr.add] using World.cell?_spot h2
      subst hspot
      have ha : ∀ i j : Nat, (((⟨b, off, none⟩ : Addr).add (i * 13)).add j) = ⟨b, off + i * 13 + j, none⟩ := fun i j => by
        unfold Addr.add
        repeat' split
        all_goals first
          | rfl
          | simp_all
      refine ⟨b, off, rfl, ?_, fun i hi j v hv => ?_⟩
      · rw [ha] at h2
        exact World.block_lt_of_cell? w _ h2
      · have h3 := (World.cells?_some (hf i hi).2).2.2 j (by
          have := (List.getElem?_eq_some_iff.1 hv).1
          simpa using this)
        rw [ha] at h3
        rw [h3]
        simpa using hv
/-- The values of a block that came in. -/
structure BlIn (w : World) (v : Value) where
  c : List UInt8
  ht : Int
  tm : Int
  a : Option Addr
  cap : Nat
  xs : List Ev
  v : v = .agg #[.string ⟨c.toArray⟩, .int .i64 ht, .int .i64 tm, .slice a xs.length cap]
  hc : c.length ≤ 9223372036854775807
  hn : xs.length ≤ maxLen
  ev : EvsIn w a xs

theorem open_Blk {spare : Nat → Bool} {held : Bool} {v : Value} {d : DataW H} {p : List MemPlace} (hv : Value.okWide Try.prog w .any base 40 v) (h : DataW.Trod enc Try.prog w 0 spare held 40 v d p) :
    Nonempty (BlIn w v) := by
  obtain ⟨cs, rfl, hz⟩ := okWide_struct Try.underlying40 hv
  obtain ⟨fuel, hf⟩ := h
  simp only [Value.cells] at hf
  obtain ⟨xs, m, _, _, hl, hlen, hff⟩ := DataW.trod_struct Try.underlying40 hf
  rw [cells_Block] at hl
  obtain ⟨l, rfl⟩ : ∃ l : List Value, cs = l.toArray := ⟨cs.toList, by simp⟩
  simp only at hff hl
  match l, hl with
  | [c0, c1, c2, c3], _ =>
    match xs, hlen with
    | [y0, y1, y2, y3], _ =>
      have f0 := hff 0 _ rfl
      have f1 := hff 1 _ rfl
      have f2 := hff 2 _ rfl
      have f3 := hff 3 _ rfl
      simp [cells_int, cells_string, cells_evs] at f0 f1 f2 f3
      obtain ⟨s0, e0, _, hs0⟩ := DataW.trod_string Try.underlying9 f0
      obtain ⟨n1, e1, _, _⟩ := DataW.trod_int Try.underlying3 f1
      obtain ⟨n2, e2, _, _⟩ := DataW.trod_int Try.underlying3 f2
      obtain ⟨a, cap, es, e3, hn, hE⟩ := trod_Evs f3
      simp at e0 e1 e2 e3
      obtain ⟨l0, rfl, b0⟩ := bytesOf s0 hs0
      exact ⟨⟨l0, n1, n2, a, cap, es, by simp [e0, e1, e2, e3], b0, hn, hE⟩⟩

namespace Vx
theorem EvsIn.good {a : Option Addr} {cap : Nat} {xs : List Ev} (h : EvsIn w a xs) : ∃ p : Pl, p.v = .slice a xs.length cap ∧ Good w 13 (xs.length, fun i => evC (xs.getD i zeroEv)) p := by
  by_cases h0 : 0 < xs.length
  · obtain ⟨b, off, rfl, hb, hc⟩ := h.lt h0
    refine ⟨⟨b, .slice (some ⟨b, off, none⟩) xs.length cap, off⟩, rfl, ⟨_, _, rfl, fun _ => rfl⟩, fun _ => hb, fun i hi => ⟨evCells xs[i], ?_, fun j v hv => hc i hi j v hv⟩⟩
    have : xs.getD i zeroEv = xs[i] := by simp [List.getD, show i < xs.length from hi]
    show IsL [] (evC (xs.getD i zeroEv)) _
    rw [this]
    exact evC_is _
  · exact ⟨⟨0, .slice a xs.length cap, 0⟩, rfl, ⟨_, _, rfl, fun h => absurd h h0⟩, fun h => absurd h h0, fun i hi => absurd (Nat.lt_of_le_of_lt (Nat.zero_le _) hi) h0⟩
end Vx
theorem EvsIn.at_ {a : Option Addr} {xs : List Ev} (h : EvsIn w a xs) : Vx.EvsAt xs.length (fun i => Vx.evC (xs.getD i zeroEv)) := fun i hi => ⟨xs.getD i zeroEv, rfl, h.fits _ (by
  have : xs.getD i zeroEv = xs[i] := by simp [List.getD, hi]
  rw [this]
  exact List.getElem_mem hi)⟩

theorem blockPeekWalk (w : World) {v : Value} (b : BlIn w v) (s : ByteArray) (hs : s.size ≤ maxLen) :
    Calls Try.prog 5 #[v, .string s] w fun e w' => e = .returned (.bool true) ∧ Below w.heap.size w w' := by
  obtain ⟨l, rfl, hl⟩ := bytesOf s hs
  obtain ⟨c, ht, tm, a, cap, xs, rfl, hc, hn, hE⟩ := b
  obtain ⟨p, hp, g⟩ := Vx.EvsIn.good (cap := cap) hE
  rw [← hp]
  refine Calls.mono (Vx.peekLawP.run [.agg [.str c, .int .i64 ht, .int .i64 tm, .row 0], .c (.str l)] [(xs.length, fun i => Vx.evC (xs.getD i zeroEv))] _ _ rfl ⟨⟨hc, hE.at_, hn⟩, hl⟩ w [p] _ (Vx.GoodL.cons g (Vx.GoodL.nil _ _))
    ⟨_, _, rfl, ⟨[.string ⟨c.toArray⟩, .int .i64 ht, .int .i64 tm, p.v], by
      obtain ⟨a', cap', e, _⟩ := g.sl
      simp [Vx.IsL, Vx.CV.den, e, Vx.one], rfl⟩, _, _, rfl, rfl, rfl⟩) fun e W' he => ?_
  obtain ⟨u, rfl, h, hb⟩ := he
  obtain rfl : .bool true = u := Option.some.inj h
  exact ⟨rfl, hb⟩
end
end Go.Proofs.Ytpapfokdhmpmjaa
