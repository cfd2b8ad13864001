/- A slice of things to write that comes in, opened. -/
import Derived.Test.YtfchejgohegbgaaOpenGet
import Derived.Test.YtfchejgohegbgaaVWire
namespace Go.Proofs.Ytfchejgohegbgaa
open Go.ChangeShapes Go.WideShapes Go.ChangeAt Go.RowKit
set_option linter.unusedVariables false
/-- A thing to write: a number, a text or a sum. -/
structure Pu where
  k : Int
  n : Int
  s : List UInt8
  h : List UInt8
def zeroPu : Pu := ⟨0, 0, [], List.replicate 32 0⟩
structure Pu.ok (x : Pu) : Prop where
  k : isI64 x.k
  n : isI64 x.n
  s : x.s.length ≤ 9223372036854775807
  h : x.h.length = 32
def puCells (x : Pu) : List Value := [.int .i64 x.k, .int .i64 x.n, .string ⟨x.s.toArray⟩] ++ x.h.map Vx.byteV
theorem len_puCells {x : Pu} (h : x.ok) : (puCells x).length = 35 := by simp [puCells, h.h]
namespace Vx
def puE (f : List UInt8 → Nat → Int) (x : Pu) : List CV := .int .i64 x.k :: .int .i64 x.n :: .str x.s :: [.int .u8 (f x.h 0), .int .u8 (f x.h 1), .int .u8 (f x.h 2), .int .u8 (f x.h 3), .int .u8 (f x.h 4), .int .u8 (f x.h 5), .int .u8 (f x.h 6), .int .u8 (f x.h 7), .int .u8 (f x.h 8), .int .u8 (f x.h 9), .int .u8 (f x.h 10), .int .u8 (f x.h 11), .int .u8 (f x.h 12), .int .u8 (f x.h 13), .int .u8 (f x.h 14), .int .u8 (f x.h 15), .int .u8 (f x.h 16), .int .u8 (f x.h 17), .int .u8 (f x.h 18), .int .u8 (f x.h 19), .int .u8 (f x.h 20), .int .u8 (f x.h 21), .int .u8 (f x.h 22), .int .u8 (f x.h 23), .int .u8 (f x.h 24), .int .u8 (f x.h 25), .int .u8 (f x.h 26), .int .u8 (f x.h 27), .int .u8 (f x.h 28), .int .u8 (f x.h 29), .int .u8 (f x.h 30), .int .u8 (f x.h 31)]
def puC (x : Pu) : List CV := puE byteI x
theorem puC_is {x : Pu} (h : x.ok) : IsL [] (puC x) (puCells x) := by
  have e : puC x = [.int .i64 x.k, .int .i64 x.n, .str x.s] ++ (List.range 32).map (fun i => CV.int .u8 (byteI x.h i)) := rfl
  rw [e]
  refine IsL.app (by rfl) ?_
  unfold IsL
  apply List.ext_getElem
  · simp [h.h]
  · intro i h1 h2
    simp only [List.length_map, List.length_range] at h1
    simp only [List.getElem_map, List.getElem_range, CV.den, byteV, byteI]
    congr 4
    rw [List.getD_eq_getElem?_getD, List.getElem?_eq_getElem (by rw [h.h]; exact h1)]
    rfl
open Classical in
noncomputable def puAt (cs : List CV) : Pu := if h : ∃ x : Pu, cs = puC x ∧ x.ok then Classical.choose h else zeroPu
def PutsAt (n : Nat) (get : Nat → List CV) : Prop := ∀ i, i < n → ∃ x : Pu, get i = puC x ∧ x.ok
theorem puAt_ok {n : Nat} {get : Nat → List CV} (h : PutsAt n get) {i : Nat} (hi : i < n) : get i = puC (puAt (get i)) ∧ (puAt (get i)).ok := by
  have := h i hi
  unfold puAt
  rw [dif_pos this]
  exact Classical.choose_spec this
theorem PutsAt.same {n : Nat} {get : Nat → List CV} (h : PutsAt n get) : SameV [(n, get)] [(n, fun i => puC (puAt (get i)))] := SameV.one fun i hi => (puAt_ok h hi).1
end Vx
section
variable {H : Type} {enc : TypeId × Value → H} {w : World} {base : Nat}
theorem cells_str' : Try.prog.cellsOf 9 = 1 := by kernel_rfl
theorem cells_u8' : Try.prog.cellsOf 5 = 1 := by kernel_rfl
theorem cells_Hash' : Try.prog.cellsOf 59 = 32 := by kernel_rfl
theorem cells_Put : Try.prog.cellsOf 61 = 35 := by kernel_rfl
theorem trod_Hash' {spare : Nat → Bool} {held : Bool} {fuel : Nat} {l : List Value} {x : DataW H × List MemPlace} (hf : DataW.trod enc Try.prog w base spare held fuel 59 l = some x) :
    ∃ q : List UInt8, q.length = 32 ∧ l = q.map Vx.byteV := by
  obtain ⟨xs, m, _, _, hl, hlen, hff⟩ := DataW.trod_array Try.underlying59 hf
  rw [cells_Hash'] at hl
  have each : ∀ i (h : i < 32), ∃ c : UInt8, l[i]'(by omega) = Vx.byteV c := fun i h => by
    have f := hff i h
    rw [cells_u8'] at f
    have e := List.getElem?_eq_getElem (l := xs) (i := i) (by omega)
    rw [e] at f
    obtain ⟨n, e1, _, hw⟩ := DataW.trod_int Try.underlying5 f
    have hb : 0 ≤ n ∧ n ≤ 255 := bounds_u8 hw
    have e2 : (List.drop (i * 1) l).take 1 = [l[i]'(by omega)] := by
      rw [Nat.mul_one, List.drop_eq_getElem_cons (by omega)]
      rfl
    rw [e2] at e1
    have e3 : l[i]'(by omega) = .int .u8 n := by simpa using e1
    refine ⟨UInt8.ofNat n.toNat, ?_⟩
    rw [e3, Vx.byteV]
    congr 1
    have := Leb.toNat_ofNat (n := n.toNat) (by omega)
    omega
  refine ⟨(List.range 32).map fun i => if h : i < 32 then Classical.choose (each i h) else 0, by simp, ?_⟩
  apply List.ext_getElem
  · simp [hl]
  · intro i h1 h2
    simp only [List.length_map, List.length_range] at h2
    simp only [List.getElem_map, List.getElem_range]
    rw [dif_pos h2]
    exact Classical.choose_spec (each i h2)
theorem trod_Put {spare : Nat → Bool} {held : Bool} {fuel : Nat} {l : List Value} {x : DataW H × List MemPlace} (hf : DataW.trod enc Try.prog w base spare held fuel 61 l = some x) :
    ∃ q : Pu, q.ok ∧ l = puCells q := by
  obtain ⟨xs, m, _, _, hl, hlen, hff⟩ := DataW.trod_struct Try.underlying61 hf
  rw [cells_Put] at hl
  match xs, hlen with
  | [y0, y1, y2, y3], _ =>
    have f0 := hff 0 _ rfl
    have f1 := hff 1 _ rfl
    have f2 := hff 2 _ rfl
    have f3 := hff 3 _ rfl
    simp [cells_int', cells_str', cells_Hash'] at f0 f1 f2 f3
    obtain ⟨n0, e0, _, g0⟩ := DataW.trod_int Try.underlying3 f0
    obtain ⟨n1, e1, _, g1⟩ := DataW.trod_int Try.underlying3 f1
    obtain ⟨n2, e2, _, g2⟩ := DataW.trod_string Try.underlying9 f2
    obtain ⟨q, hq, e3⟩ := trod_Hash' f3
    obtain ⟨l2, rfl, b2⟩ := bytesOfG n2 g2
    refine ⟨⟨n0, n1, l2, q⟩, ⟨bounds_i64 g0, bounds_i64 g1, b2, hq⟩, ?_⟩
    have hd : ∀ l : List Value, l.length = 35 → l = l.take 1 ++ (l.tail.take 1 ++ ((l.drop 2).take 1 ++ (l.drop 3).take 32)) := fun l hl => by
      cases l with
      | nil => simp at hl
      | cons a0 l => cases l with
        | nil => simp at hl
        | cons a1 l => cases l with
          | nil => simp at hl
          | cons a2 r =>
            simp only [List.length_cons] at hl
            simp only [List.take_succ_cons, List.take_zero, List.tail_cons, List.drop_succ_cons, List.drop_zero, List.cons_append, List.nil_append]
            rw [List.take_of_length_le (by omega)]
    rw [hd l hl, e0, e1, e2, e3]
    rfl

/-- A slice of things, as it reads. -/
structure PutsIn (w : World) (a : Option Addr) (xs : List Pu) : Prop where
  lt : 0 < xs.length → ∃ b off, a = some ⟨b, off, none⟩ ∧ b < w.heap.size ∧ ∀ i (h : i < xs.length), ∀ j v, (puCells xs[i])[j]? = some v → w.cell? ⟨b, off + i * 35 + j, none⟩ = some v
  ok : ∀ i (h : i < xs.length), xs[i].ok

theorem trod_Puts {spare : Nat → Bool} {held : Bool} {fuel : Nat} {l : List Value} {x : DataW H × List MemPlace} (hf : DataW.trod enc Try.prog w base spare held fuel 51 l = some x) :
    ∃ (a : Option Addr) (cap : Nat) (xs : List Pu), l = [.slice a xs.length cap] ∧ xs.length ≤ maxLen ∧ PutsIn w a xs := by
  rcases DataW.trod_slice Try.underlying51 hf with ⟨rfl, _⟩ | ⟨a, len, cap, elems, rest, n, _, rfl, rfl, hb, hl, hm, hlen, hel, hsp, hns⟩
  · exact ⟨none, 0, [], rfl, by simp, ⟨fun h => absurd h (by simp), fun i h => absurd h (by simp)⟩⟩
  · have each : ∀ i, i < len → ∃ q : Pu, ∃ cs, w.cells? base (a.add (i * 35)) 35 = some cs ∧ q.ok ∧ cs = puCells q := fun i hi => by
      have h := hel i hi
      simp only [cells_Put] at h
      have e := List.getElem?_eq_getElem (l := elems) (i := i) (by omega)
      rw [e] at h
      obtain ⟨cs, h1, h2⟩ := Option.bind_eq_some_iff.1 h
      obtain ⟨q, ho, e⟩ := trod_Put h2
      exact ⟨q, cs, h1, ho, e⟩
    obtain ⟨f, hf⟩ : ∃ f : Nat → Pu, ∀ i, i < len → (f i).ok ∧ w.cells? base (a.add (i * 35)) 35 = some (puCells (f i)) := by
      refine ⟨fun i => if h : i < len then Classical.choose (each i h) else zeroPu, fun i hi => ?_⟩
      dsimp only
      rw [dif_pos hi]
      obtain ⟨cs, h2, h4, h3⟩ := Classical.choose_spec (each i hi)
      exact ⟨h4, h2.trans (congrArg some h3)⟩
    refine ⟨some a, cap, (List.range len).map f, by simp, by simp; omega, ⟨fun h0 => ?_, fun i hi => ?_⟩⟩
    rotate_left
    · simp only [List.length_map, List.length_range] at hi
      simp only [List.getElem_map, List.getElem_range]
      exact (hf i hi).1
    simp only [List.length_map, List.length_range] at h0 ⊢
    obtain ⟨b, off, spot⟩ := a
    have h1 := World.cells?_some (hf 0 h0).2
    have h2 : w.cell? (((⟨b, off, spot⟩ : Addr).add (0 * 35)).add 0) = some (.int .i64 (f 0).k) := h1.2.2 0 (by decide)
    have hspot : spot = none := by simpa [Addr.add] using World.cell?_spot h2
    subst hspot
    have ha : ∀ i j : Nat, (((⟨b, off, none⟩ : Addr).add (i * 35)).add j) = ⟨b, off + i * 35 + j, none⟩ := fun i j => by
      unfold Addr.add
      repeat' split
      all_goals first
        | rfl
        | simp_all
    refine ⟨b, off, rfl, ?_, fun i hi j v hv => ?_⟩
    · rw [ha] at h2
      exact World.block_lt_of_cell? w _ h2
    · have h3 := (World.cells?_some (hf i hi).2).2.2 j (by
        have := (List.getElem?_eq_some_iff.1 hv).1
        simp only [List.getElem_map, List.getElem_range] at this
        rw [len_puCells (hf i (by simpa using hi)).1] at this
        exact this)
      rw [ha] at h3
      rw [h3]
      simpa using hv

theorem open_Puts {v : Value} {d : DataW H} {p : List MemPlace} (hv : Value.okWide Try.prog w .any base 51 v) (h : DataW.Trod enc Try.prog w 0 (fun _ => true) true 51 v d p) :
    ∃ (a : Option Addr) (cap : Nat) (xs : List Pu), v = .slice a xs.length cap ∧ PutsIn w a xs ∧ xs.length ≤ maxLen := by
  obtain ⟨a, len, cap, rfl⟩ := okWide_slice Try.underlying51 hv
  obtain ⟨fuel, hf⟩ := h
  simp only [Value.cells] at hf
  obtain ⟨a', cap', xs, e, hm, hg⟩ := trod_Puts hf
  simp at e
  obtain ⟨rfl, rfl, rfl⟩ := e
  exact ⟨a, cap, xs, rfl, hg, hm⟩
theorem PutsIn.good {a : Option Addr} {cap : Nat} {xs : List Pu} (h : PutsIn w a xs) : ∃ p : Vx.Pl, p.v = .slice a xs.length cap ∧ Vx.Good w 35 (xs.length, fun i => Vx.puC (xs.getD i zeroPu)) p := by
  by_cases h0 : 0 < xs.length
  · obtain ⟨b, off, rfl, hb, hc⟩ := h.lt h0
    refine ⟨⟨b, .slice (some ⟨b, off, none⟩) xs.length cap, off⟩, rfl, ⟨_, _, rfl, fun _ => rfl⟩, fun _ => hb, fun i hi => ⟨puCells xs[i], ?_, fun j v hv => hc i hi j v hv⟩⟩
    have : xs.getD i zeroPu = xs[i] := by simp [List.getD, show i < xs.length from hi]
    show Vx.IsL [] (Vx.puC (xs.getD i zeroPu)) _
    rw [this]
    exact Vx.puC_is (h.ok i _)
  · exact ⟨⟨0, .slice a xs.length cap, 0⟩, rfl, ⟨_, _, rfl, fun h => absurd h h0⟩, fun h => absurd h h0, fun i hi => absurd (Nat.lt_of_le_of_lt (Nat.zero_le _) hi) h0⟩
theorem PutsIn.at_ {a : Option Addr} {xs : List Pu} (h : PutsIn w a xs) : Vx.PutsAt xs.length (fun i => Vx.puC (xs.getD i zeroPu)) := fun i hi => ⟨xs.getD i zeroPu, rfl, by
  have : xs.getD i zeroPu = xs[i] := by simp [List.getD, show i < xs.length from hi]
  rw [this]; exact h.ok i hi⟩
end
end Go.Proofs.Ytfchejgohegbgaa
