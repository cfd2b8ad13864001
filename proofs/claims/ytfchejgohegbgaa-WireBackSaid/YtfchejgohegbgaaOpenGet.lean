/- A slice of questions that comes in, opened. -/
import Derived.Test.YtfchejgohegbgaaBase
import Derived.Test.YtfchejgohegbgaaVxRds
import Derived.ProofKit
import Derived.OpenShut
import Derived.ShutString
import Derived.ChangeOld
namespace Go.Proofs.Ytfchejgohegbgaa
open Go.ChangeShapes Go.WideShapes Go.ChangeAt Go.RowKit
set_option linter.unusedVariables false
theorem bytesOfG (s : ByteArray) (hs : s.size ≤ maxLen) : ∃ l : List UInt8, s = ⟨l.toArray⟩ ∧ l.length ≤ 9223372036854775807 := by
  refine ⟨s.data.toList, ?_, ?_⟩
  · cases s; simp
  · have : s.size = s.data.toList.length := by rw [Array.length_toList]; rfl
    unfold maxLen at hs
    omega
/-- A question to a reader. -/
structure Gt where
  k : Int
  lo : Int
  hi : Int
def zeroGt : Gt := ⟨0, 0, 0⟩
def gtCells (x : Gt) : List Value := [.int .i64 x.k, .int .i64 x.lo, .int .i64 x.hi]
theorem len_gtCells (x : Gt) : (gtCells x).length = 3 := rfl
namespace Vx
def gtC (x : Gt) : List CV := [.int .i64 x.k, .int .i64 x.lo, .int .i64 x.hi]
def gtOf : List CV → Option Gt
  | [.int .i64 k, .int .i64 lo, .int .i64 hi] => some ⟨k, lo, hi⟩
  | _ => none
theorem gtOf_spec {cs : List CV} {x : Gt} (h : gtOf cs = some x) : cs = gtC x := by
  unfold gtOf at h
  split at h
  · cases h; rfl
  · cases h
theorem gtC_is (x : Gt) : IsL [] (gtC x) (gtCells x) := rfl
def gtAt (cs : List CV) : Gt := (gtOf cs).getD zeroGt
def GtsAt (n : Nat) (get : Nat → List CV) : Prop := ∀ i, i < n → ∃ x, gtOf (get i) = some x
theorem GtsAt.same {n : Nat} {get : Nat → List CV} (h : GtsAt n get) : SameV [(n, get)] [(n, fun i => gtC (gtAt (get i)))] := SameV.one fun i hi => by
  obtain ⟨x, h1⟩ := h i hi
  unfold gtAt
  rw [h1]
  exact gtOf_spec h1
end Vx
section
variable {H : Type} {enc : TypeId × Value → H} {w : World} {base : Nat}
theorem cells_int' : Try.prog.cellsOf 3 = 1 := by kernel_rfl
theorem cells_Get : Try.prog.cellsOf 74 = 3 := by kernel_rfl
theorem trod_Get {spare : Nat → Bool} {held : Bool} {fuel : Nat} {l : List Value} {x : DataW H × List MemPlace} (hf : DataW.trod enc Try.prog w base spare held fuel 74 l = some x) :
    ∃ q : Gt, l = gtCells q := by
  obtain ⟨xs, m, _, _, hl, hlen, hff⟩ := DataW.trod_struct Try.underlying74 hf
  rw [cells_Get] at hl
  match l, hl with
  | [c0, c1, c2], _ =>
    match xs, hlen with
    | [y0, y1, y2], _ =>
      have f0 := hff 0 _ rfl
      have f1 := hff 1 _ rfl
      have f2 := hff 2 _ rfl
      simp [cells_int'] at f0 f1 f2
      obtain ⟨n0, e0, _, _⟩ := DataW.trod_int Try.underlying3 f0
      obtain ⟨n1, e1, _, _⟩ := DataW.trod_int Try.underlying3 f1
      obtain ⟨n2, e2, _, _⟩ := DataW.trod_int Try.underlying3 f2
      simp at e0 e1 e2
      exact ⟨⟨n0, n1, n2⟩, by simp [gtCells, e0, e1, e2]⟩

/-- A slice of questions, as it reads. -/
structure GtsIn (w : World) (a : Option Addr) (xs : List Gt) : Prop where
  lt : 0 < xs.length → ∃ b off, a = some ⟨b, off, none⟩ ∧ b < w.heap.size ∧ ∀ i (h : i < xs.length), ∀ j v, (gtCells xs[i])[j]? = some v → w.cell? ⟨b, off + i * 3 + j, none⟩ = some v

theorem trod_Gts {spare : Nat → Bool} {held : Bool} {fuel : Nat} {l : List Value} {x : DataW H × List MemPlace} (hf : DataW.trod enc Try.prog w base spare held fuel 67 l = some x) :
    ∃ (a : Option Addr) (cap : Nat) (xs : List Gt), l = [.slice a xs.length cap] ∧ xs.length ≤ maxLen ∧ GtsIn w a xs := by
  rcases DataW.trod_slice Try.underlying67 hf with ⟨rfl, _⟩ | ⟨a, len, cap, elems, rest, n, _, rfl, rfl, hb, hl, hm, hlen, hel, hsp, hns⟩
  · exact ⟨none, 0, [], rfl, by simp, ⟨fun h => absurd h (by simp)⟩⟩
  · have each : ∀ i, i < len → ∃ q : Gt, ∃ cs, w.cells? base (a.add (i * 3)) 3 = some cs ∧ cs = gtCells q := fun i hi => by
      have h := hel i hi
      simp only [cells_Get] at h
      have e := List.getElem?_eq_getElem (l := elems) (i := i) (by omega)
      rw [e] at h
      obtain ⟨cs, h1, h2⟩ := Option.bind_eq_some_iff.1 h
      obtain ⟨q, e⟩ := trod_Get h2
      exact ⟨q, cs, h1, e⟩
    obtain ⟨f, hf⟩ : ∃ f : Nat → Gt, ∀ i, i < len → w.cells? base (a.add (i * 3)) 3 = some (gtCells (f i)) := by
      refine ⟨fun i => if h : i < len then Classical.choose (each i h) else zeroGt, fun i hi => ?_⟩
      dsimp only
      rw [dif_pos hi]
      obtain ⟨cs, h2, h3⟩ := Classical.choose_spec (each i hi)
      exact h2.trans (congrArg some h3)
    refine ⟨some a, cap, (List.range len).map f, by simp, by simp; omega, ⟨fun h0 => ?_⟩⟩
    simp only [List.length_map, List.length_range] at h0 ⊢
    obtain ⟨b, off, spot⟩ := a
    have h1 := World.cells?_some (hf 0 h0)
    have h2 : w.cell? (((⟨b, off, spot⟩ : Addr).add (0 * 3)).add 0) = some (.int .i64 (f 0).k) := h1.2.2 0 (by decide)
    have hspot : spot = none := by simpa [Addr.add] using World.cell?_spot h2
    subst hspot
    have ha : ∀ i j : Nat, (((⟨b, off, none⟩ : Addr).add (i * 3)).add j) = ⟨b, off + i * 3 + j, none⟩ := fun i j => by
      unfold Addr.add
      repeat' split
      all_goals first
        | rfl
        | simp_all
    refine ⟨b, off, rfl, ?_, fun i hi j v hv => ?_⟩
    · rw [ha] at h2
      exact World.block_lt_of_cell? w _ h2
    · have h3 := (World.cells?_some (hf i hi)).2.2 j (by
        have := (List.getElem?_eq_some_iff.1 hv).1
        rw [len_gtCells] at this
        exact this)
      rw [ha] at h3
      rw [h3]
      simpa using hv

theorem open_Gts {v : Value} {d : DataW H} {p : List MemPlace} (hv : Value.okWide Try.prog w .any base 67 v) (h : DataW.Trod enc Try.prog w 0 (fun _ => true) true 67 v d p) :
    ∃ (a : Option Addr) (cap : Nat) (xs : List Gt), v = .slice a xs.length cap ∧ GtsIn w a xs ∧ xs.length ≤ maxLen := by
  obtain ⟨a, len, cap, rfl⟩ := okWide_slice Try.underlying67 hv
  obtain ⟨fuel, hf⟩ := h
  simp only [Value.cells] at hf
  obtain ⟨a', cap', xs, e, hm, hg⟩ := trod_Gts hf
  simp at e
  obtain ⟨rfl, rfl, rfl⟩ := e
  exact ⟨a, cap, xs, rfl, hg, hm⟩
theorem GtsIn.good {a : Option Addr} {cap : Nat} {xs : List Gt} (h : GtsIn w a xs) : ∃ p : Vx.Pl, p.v = .slice a xs.length cap ∧ Vx.Good w 3 (xs.length, fun i => Vx.gtC (xs.getD i zeroGt)) p := by
  by_cases h0 : 0 < xs.length
  · obtain ⟨b, off, rfl, hb, hc⟩ := h.lt h0
    refine ⟨⟨b, .slice (some ⟨b, off, none⟩) xs.length cap, off⟩, rfl, ⟨_, _, rfl, fun _ => rfl⟩, fun _ => hb, fun i hi => ⟨gtCells xs[i], ?_, fun j v hv => hc i hi j v hv⟩⟩
    have : xs.getD i zeroGt = xs[i] := by simp [List.getD, show i < xs.length from hi]
    show Vx.IsL [] (Vx.gtC (xs.getD i zeroGt)) _
    rw [this]
    exact Vx.gtC_is _
  · exact ⟨⟨0, .slice a xs.length cap, 0⟩, rfl, ⟨_, _, rfl, fun h => absurd h h0⟩, fun h => absurd h h0, fun i hi => absurd (Nat.lt_of_le_of_lt (Nat.zero_le _) hi) h0⟩
theorem GtsIn.at_ {a : Option Addr} {xs : List Gt} (h : GtsIn w a xs) : Vx.GtsAt xs.length (fun i => Vx.gtC (xs.getD i zeroGt)) := fun i hi => ⟨xs.getD i zeroGt, rfl⟩
end
end Go.Proofs.Ytfchejgohegbgaa
