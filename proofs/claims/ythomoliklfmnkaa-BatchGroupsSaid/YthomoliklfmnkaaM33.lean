/- liglaw28.lists and the law BatchCuts, by the walker. -/
import Derived.Test.YthomoliklfmnkaaM32
import Derived.Test.YthomoliklfmnkaaM2
import Derived.Test.YthomoliklfmnkaaM14
section
namespace Go.Proofs.Ythomoliklfmnkaa.Vx
open Go.RowKit
set_option linter.unusedVariables false
set_option linter.unusedSimpArgs false
attribute [local cbv_opaque] lK lV lI lP lN pG leafL leafOf leavesPre hsL rN plainM msgPre lenL nextB between sameM mayM msgOf mayPkt wN wT wH wLeaf wPath wLeaves wProof wPk wMsg wMsgPre prWPre hashOf putW numW numBad textW fitNum fitText fitPut fitPk isI64 msgB encMsg bytesW badW Pkt.fits noRt zeroMsg lightM msgPre0 leavesAt0 gM msgsL msgsPre txM txB flatE textB Leb.put stepsL priceM totalM fitsM skip skStep skOut skPre IsMs mpGet mpSet groupOf iA iL catC pushC inPre rgo placeM skOf cutT oneM txG


end Go.Proofs.Ythomoliklfmnkaa.Vx
end

section
/- The law BatchCuts, by the walker. -/
namespace Go.Proofs.Ythomoliklfmnkaa.Vx
open Go.RowKit
set_option linter.unusedVariables false
set_option linter.unusedSimpArgs false
attribute [local cbv_opaque] lK lV lI lP lN pG leafL leafOf leavesPre hsL rN plainM msgPre lenL nextB between sameM mayM msgOf mayPkt wN wT wH wLeaf wPath wLeaves wProof wPk wMsg wMsgPre prWPre hashOf putW numW numBad textW fitNum fitText fitPut fitPk isI64 msgB encMsg bytesW badW Pkt.fits noRt zeroMsg lightM msgPre0 leavesAt0 gM msgsL msgsPre txM txB flatE textB Leb.put stepsL priceM totalM fitsM skip skStep skOut skPre IsMs mpGet mpSet groupOf iA iL catC pushC inPre rgo placeM skOf cutT oneM txG


end Go.Proofs.Ythomoliklfmnkaa.Vx
namespace Go.Proofs.Ythomoliklfmnkaa
open Go.RowKit
set_option linter.unusedVariables false
end Go.Proofs.Ythomoliklfmnkaa
end

section
/- Items and flags that come in, opened. -/
namespace Go.Proofs.Ythomoliklfmnkaa.Vx
open Go.RowKit
set_option linter.unusedVariables false
set_option linter.unusedSimpArgs false
/-- An item. -/
structure It where
  kind : Int
  to : Int
  port : List UInt8
  chan : Int
  seq : Int
def it0 : It := ⟨0, 0, [], 0, 0⟩
def itK (L : List It) (i : Nat) : Int := (L.getD i it0).kind
def itT (L : List It) (i : Nat) : Int := (L.getD i it0).to
def itP (L : List It) (i : Nat) : List UInt8 := (L.getD i it0).port
def itC (L : List It) (i : Nat) : Int := (L.getD i it0).chan
def itS (L : List It) (i : Nat) : Int := (L.getD i it0).seq
def bA (O : List Bool) (i : Nat) : Bool := O.getD i false
/-- An item's cells. -/
def itG (L : List It) (i : Nat) : List CV := [.int .i64 (itK L i), .int .i64 (itT L i), .str (itP L i), .int .i64 (itC L i), .int .i64 (itS L i)]
def boG (O : List Bool) (i : Nat) : List CV := [.bool (bA O i)]
def It.vals (x : It) : List Value := [.int .i64 x.kind, .int .i64 x.to, .string ⟨x.port.toArray⟩, .int .i64 x.chan, .int .i64 x.seq]
end Go.Proofs.Ythomoliklfmnkaa.Vx
namespace Go.Proofs.Ythomoliklfmnkaa
open Go.ChangeShapes Go.WideShapes Go.ChangeAt Go.RowKit
set_option linter.unusedVariables false
set_option linter.unusedSimpArgs false
section
variable {H : Type} {enc : TypeId × Value → H} {w : World} {base : Nat}
theorem cells_Item : Try.prog.cellsOf 66 = 5 := by kernel_rfl
theorem cells_bool : Try.prog.cellsOf 4 = 1 := by kernel_rfl
set_option maxRecDepth 100000 in
theorem open_Its {v : Value} {d : DataW H} {p : List MemPlace} (hv : Value.okWide Try.prog w .any base 62 v) (h : DataW.Trod enc Try.prog w 0 (fun _ => true) true 62 v d p) :
    ∃ (a : Option Addr) (cap : Nat) (ls : List Vx.It), v = .slice a ls.length cap ∧ SlIn w a 5 cap (ls.map Vx.It.vals) := by
  obtain ⟨a, cap, xs, rfl, hs, hx⟩ := open_slice (sz := 5) (P := fun l => ∃ x : Vx.It, l = x.vals) (by decide) Try.underlying62 cells_Item (fun fuel l x hl => by
    obtain ⟨ys, m, _, _, hl2, hlen, hff⟩ := DataW.trod_struct Try.underlying66 hl
    rw [cells_Item] at hl2
    match l, hl2 with
    | [c0, c1, c2, c3, c4], _ =>
      match ys, hlen with
      | [y0, y1, y2, y3], _ =>
        have f0 := hff 0 _ rfl
        have f1 := hff 1 _ rfl
        have f2 := hff 2 _ rfl
        have f3 := hff 3 _ rfl
        simp [cells_End, cells_int, cells_string] at f0 f1 f2 f3
        obtain ⟨n0, e0, _, _⟩ := DataW.trod_int Try.underlying3 f0
        obtain ⟨n1, e1, _, _⟩ := DataW.trod_int Try.underlying3 f1
        obtain ⟨s2, n2, e2, hs2, _⟩ := trod_End f2
        obtain ⟨n3, e3, _, _⟩ := DataW.trod_int Try.underlying3 f3
        simp at e0 e1 e2 e3
        obtain ⟨l2, rfl, b2⟩ := bytesOf s2 hs2
        exact ⟨rfl, ⟨n0, n1, l2, n2, n3⟩, by simp [Vx.It.vals, e0, e1, e2, e3]⟩) hv h
  obtain ⟨f, hf⟩ : ∃ f : Nat → Vx.It, ∀ i (hi : i < xs.length), xs[i] = (f i).vals := by
    have key : ∀ i, ∃ n : Vx.It, ∀ hi : i < xs.length, xs[i] = n.vals := fun i => by
      by_cases hi : i < xs.length
      · obtain ⟨n, e⟩ := (hx _ (List.getElem_mem hi)).2
        exact ⟨n, fun _ => e⟩
      · exact ⟨Vx.it0, fun h => absurd h hi⟩
    exact ⟨fun i => (key i).choose, fun i hi => (key i).choose_spec hi⟩
  have e : xs = ((List.range xs.length).map f).map Vx.It.vals := by
    apply List.ext_getElem (by simp)
    intro i h1 h2
    simp [hf i h1]
  refine ⟨a, cap, (List.range xs.length).map f, by simp, ?_⟩
  rw [← e]
  exact hs
theorem its_good {w : World} {a : Option Addr} {cap : Nat} {ls : List Vx.It} (hs : SlIn w a 5 cap (ls.map Vx.It.vals)) : ∃ p : Vx.Pl, p.v = .slice a ls.length cap ∧ Vx.Good w 5 (ls.length, Vx.itG ls) p := by
  obtain ⟨p, hp, g⟩ := hs.good (get := Vx.itG ls) (fun i hi => by
    have hi' : i < ls.length := by simpa using hi
    rw [List.getElem_map]
    have e : ls.getD i Vx.it0 = ls[i] := by simp [List.getD, hi']
    unfold Vx.itG Vx.itK Vx.itT Vx.itP Vx.itC Vx.itS
    rw [e]
    rfl)
  simp only [List.length_map] at hp g
  exact ⟨p, hp, g⟩
set_option maxRecDepth 100000 in
theorem open_Bos {v : Value} {d : DataW H} {p : List MemPlace} (hv : Value.okWide Try.prog w .any base 63 v) (h : DataW.Trod enc Try.prog w 0 (fun _ => true) true 63 v d p) :
    ∃ (a : Option Addr) (cap : Nat) (ls : List Bool), v = .slice a ls.length cap ∧ SlIn w a 1 cap (ls.map fun n => [.bool n]) := by
  obtain ⟨a, cap, xs, rfl, hs, hx⟩ := open_slice (sz := 1) (P := fun l => ∃ n : Bool, l = [.bool n]) (by decide) Try.underlying63 cells_bool (fun fuel l x hl => by
    obtain ⟨n, e, _⟩ := DataW.trod_bool Try.underlying4 hl
    exact ⟨by rw [e]; rfl, n, e⟩) hv h
  obtain ⟨f, hf⟩ : ∃ f : Nat → Bool, ∀ i (hi : i < xs.length), xs[i] = [.bool (f i)] := by
    have key : ∀ i, ∃ n : Bool, ∀ hi : i < xs.length, xs[i] = [.bool n] := fun i => by
      by_cases hi : i < xs.length
      · obtain ⟨n, e⟩ := (hx _ (List.getElem_mem hi)).2
        exact ⟨n, fun _ => e⟩
      · exact ⟨false, fun h => absurd h hi⟩
    exact ⟨fun i => (key i).choose, fun i hi => (key i).choose_spec hi⟩
  have e : xs = ((List.range xs.length).map f).map fun n => [.bool n] := by
    apply List.ext_getElem (by simp)
    intro i h1 h2
    simp [hf i h1]
  refine ⟨a, cap, (List.range xs.length).map f, by simp, ?_⟩
  rw [← e]
  exact hs
theorem bos_good {w : World} {a : Option Addr} {cap : Nat} {ls : List Bool} (hs : SlIn w a 1 cap (ls.map fun n => [.bool n])) : ∃ p : Vx.Pl, p.v = .slice a ls.length cap ∧ Vx.Good w 1 (ls.length, Vx.boG ls) p := by
  obtain ⟨p, hp, g⟩ := hs.good (get := Vx.boG ls) (fun i hi => by
    have hi' : i < ls.length := by simpa using hi
    rw [List.getElem_map]
    show [some (Value.bool (Vx.bA ls i))] = [some (Value.bool ls[i])]
    simp [Vx.bA, List.getD, hi'])
  simp only [List.length_map] at hp g
  exact ⟨p, hp, g⟩
end
end Go.Proofs.Ythomoliklfmnkaa
end

section
/- What is skipped, and what is in the transactions: plainly. -/
namespace Go.Proofs.Ythomoliklfmnkaa.Vx
open Go.RowKit
set_option linter.unusedVariables false
set_option linter.unusedSimpArgs false
theorem iA_lt {l : List Int} {x : Int} {k : Nat} (h : k < l.length) : iA (l ++ [x]) k = iA l k := by
  unfold iA
  rw [List.getD_eq_getElem?_getD, List.getD_eq_getElem?_getD, List.getElem?_append_left h]
theorem iA_last {l : List Int} {x : Int} : iA (l ++ [x]) l.length = x := by
  unfold iA
  rw [List.getD_eq_getElem?_getD, List.getElem?_append_right (Nat.le_refl _)]
  simp
/-! ### Each transaction fits -/
/-! ### Places, one behind the other -/
end Go.Proofs.Ythomoliklfmnkaa.Vx
end

section
/- Groups of jobs: by the walker. -/
namespace Go.Proofs.Ythomoliklfmnkaa.Vx
open Go.RowKit
set_option linter.unusedVariables false
set_option linter.unusedSimpArgs false
def tbGr : Tbl where
  T :=
    (3, ⟨1, false, [.int .i64 (0)], .int .i64, 8⟩) ::
    (4, ⟨1, false, [.ff], .bool, 1⟩) ::
    (9, ⟨1, false, [.str []], .str, 16⟩) ::
    (39, ⟨1, false, [.val (.slice none 0 0)], .slice 3, 24⟩) ::
    (53, ⟨2, true, [.str [], .int .i64 (0)], .struct [(0, (1, false)), (1, (1, false))], 24⟩) ::
    (66, ⟨5, true, [.int .i64 (0), .int .i64 (0), .str [], .int .i64 (0), .int .i64 (0)], .struct [(0, (1, false)), (1, (1, false)), (2, (2, true)), (4, (1, false))], 48⟩) ::
    (62, ⟨1, false, [.val (.slice none 0 0)], .slice 66, 24⟩) ::
    (63, ⟨1, false, [.val (.slice none 0 0)], .slice 4, 24⟩) ::
    (55, ⟨8, true, [.str [], .int .i64 (0), .str [], .int .i64 (0), .int .i64 (0), .str [], .int .i64 (0), .int .i64 (0)], .struct [(0, (2, true)), (2, (2, true)), (4, (1, false)), (5, (1, false)), (6, (1, false)), (7, (1, false))], 88⟩) ::
    (68, ⟨17, true, [.int .i64 (0), .int .i64 (0), .str [], .int .i64 (0), .int .i64 (0), .str [], .int .i64 (0), .str [], .int .i64 (0), .int .i64 (0), .str [], .int .i64 (0), .int .i64 (0), .str [], .int .i64 (0), .int .i64 (0), .ff], .struct [(0, (5, true)), (5, (8, true)), (13, (1, false)), (14, (1, false)), (15, (1, false)), (16, (1, false))], 176⟩) ::
    (64, ⟨1, false, [.val (.slice none 0 0)], .slice 68, 24⟩) ::
    (94, ⟨1, false, [.val (.map none)], .map 66 3, 8⟩) ::
    []
  F :=
    (66, [0, 0, 1, 0, 0]) ::
    (53, [1, 0]) ::
    []

theorem tbGr_ok : tbGr.Ok Try.prog where
  T :=
    TblOk.cons (by kernel_rfl) <|
    TblOk.cons (by kernel_rfl) <|
    TblOk.cons (by kernel_rfl) <|
    TblOk.cons (by kernel_rfl) <|
    TblOk.cons (by kernel_rfl) <|
    TblOk.cons (by kernel_rfl) <|
    TblOk.cons (by kernel_rfl) <|
    TblOk.cons (by kernel_rfl) <|
    TblOk.cons (by kernel_rfl) <|
    TblOk.cons (by kernel_rfl) <|
    TblOk.cons (by kernel_rfl) <|
    TblOk.cons (by kernel_rfl) <|
    TblOk.nil _
  F :=
    FlatsOk.cons (FlatOk.of (D := .struct (Try.prog.fieldsOf 66)) 6 (by decide) (by kernel_rfl) (by kernel_rfl) rfl (by kernel_rfl)) <|
    FlatsOk.cons (FlatOk.of (D := .struct (Try.prog.fieldsOf 53)) 6 (by decide) (by kernel_rfl) (by kernel_rfl) rfl (by kernel_rfl)) <|
    FlatsOk.nil _

/-- Jobs of these items, no more: their cells. -/
def jbG (L : List It) (O : List Bool) (i : Nat) : List CV := [.int .i64 (itK L i), .int .i64 (itT L i), .str (itP L i), .int .i64 (itC L i), .int .i64 (itS L i), .str [], .int .i64 0, .str [], .int .i64 0, .int .i64 0, .str [], .int .i64 0, .int .i64 0, .str [], .int .i64 0, .int .i64 0, .bool (bA O i)]
def itOf : List CV → It
  | [.int _ k, .int _ t, .str p, .int _ c, .int _ s, _, _, _, _, _, _, _, _, _, _, _, _] => ⟨k, t, p, c, s⟩
  | _ => it0
def boOf : List CV → Bool
  | [_, _, _, _, _, _, _, _, _, _, _, _, _, _, _, _, .bool b] => b
  | _ => false
def jbL (n : Nat) (get : Nat → List CV) : List It := (List.range n).map fun i => itOf (get i)
def jbO (n : Nat) (get : Nat → List CV) : List Bool := (List.range n).map fun i => boOf (get i)
def jbPre (ty sz n : Nat) (get : Nat → List CV) : Prop := ty = 68 ∧ sz = 17 ∧ (∀ i, i < n → get i = jbG (jbL n get) (jbO n get) i) ∧ n ≤ 1000000
theorem jb_at {L : List It} {O : List Bool} {n : Nat} (hL : L.length = n) (hO : O.length = n) : jbL n (jbG L O) = L ∧ jbO n (jbG L O) = O := by
  constructor
  · apply List.ext_getElem (by simp [jbL, hL])
    intro i h1 h2
    simp only [jbL, List.getElem_map, List.getElem_range]
    show (⟨itK L i, itT L i, itP L i, itC L i, itS L i⟩ : It) = L[i]
    unfold itK itT itP itC itS
    rw [show L.getD i it0 = L[i] by simp [List.getD, h2]]
  · apply List.ext_getElem (by simp [jbO, hO])
    intro i h1 h2
    simp only [jbO, List.getElem_map, List.getElem_range]
    show bA O i = O[i]
    simp [bA, List.getD, h2]
theorem jbPre_of {L : List It} {O : List Bool} {n : Nat} (hL : L.length = n) (hO : O.length = n) (hn : n ≤ 1000000) : jbPre 68 17 n (jbG L O) := by
  obtain ⟨e1, e2⟩ := jb_at hL hO
  exact ⟨rfl, rfl, fun i _ => by rw [e1, e2], hn⟩
/-- The key of a job. -/
def itKey (L : List It) (i : Nat) : Value := .agg #[.int .i64 (itK L i), .int .i64 (itT L i), .string ⟨(itP L i).toArray⟩, .int .i64 (itC L i), .int .i64 0]
def gIn (L : List It) (O : List Bool) (i : Nat) : Bool := bA O i && (decide (itK L i = 1) || decide (itK L i = 2))
noncomputable def gMap (L : List It) (m : List (Value × Int)) (i : Nat) : List (Value × Int) := if mpGet (itKey L i) m = 0 then mpSet (itKey L i) ((mpLen m : Int) + 1) m else m
noncomputable def gStep (L : List It) (O : List Bool) (s : List (Value × Int) × List Int) (i : Nat) : List (Value × Int) × List Int :=
  if gIn L O i = true then (gMap L s.1 i, s.2 ++ [mpGet (itKey L i) (gMap L s.1 i)]) else (s.1, s.2 ++ [0])
noncomputable def gRun (L : List It) (O : List Bool) (k : Nat) : List (Value × Int) × List Int := (List.range k).foldl (gStep L O) ([], [])
theorem gRun_succ {L : List It} {O : List Bool} {k : Nat} : gRun L O (k + 1) = gStep L O (gRun L O k) k := by simp [gRun, List.range_succ]
noncomputable def grpL (L : List It) (O : List Bool) (n : Nat) : List Int := (gRun L O n).2
/-- What the map says, so far. -/
structure GM (m : List (Value × Int)) : Prop where
  pos : ∀ q ∈ m, 0 < q.2
  rng : ∀ k, 0 ≤ mpGet k m ∧ mpGet k m ≤ (m.length : Int)
  inj : ∀ k k', 0 < mpGet k m → mpGet k m = mpGet k' m → k = k'
theorem mpSet_new {k : Value} {n : Int} : ∀ {m : List (Value × Int)}, (∀ q ∈ m, q.1 ≠ k) → mpSet k n m = m ++ [(k, n)]
  | [], _ => rfl
  | q :: m, h => by
    unfold mpSet
    rw [if_neg (h q (by simp)), mpSet_new fun x hx => h x (by simp [hx])]
    rfl
theorem mpGet_has {k : Value} : ∀ {m : List (Value × Int)}, (∀ q ∈ m, 0 < q.2) → (∃ q ∈ m, q.1 = k) → 0 < mpGet k m
  | [], _, ⟨q, hq, _⟩ => absurd hq (by simp)
  | a :: m, hp, ⟨q, hq, e⟩ => by
    unfold mpGet
    split
    · exact hp a (by simp)
    · rename_i h1
      rcases List.mem_cons.1 hq with rfl | h2
      · exact absurd e h1
      · exact mpGet_has (fun x hx => hp x (by simp [hx])) ⟨q, h2, e⟩
theorem GM.nil : GM [] := ⟨fun q hq => absurd hq (by simp), fun k => by simp [mpGet], fun k k' h => by simp [mpGet] at h⟩
open Classical in
/-- One more group. -/
theorem GM.step {L : List It} {m : List (Value × Int)} (h : GM m) (i : Nat) : GM (gMap L m i) ∧ (gMap L m i).length ≤ m.length + 1 ∧ 0 < mpGet (itKey L i) (gMap L m i) ∧ (∀ k, 0 < mpGet k m → mpGet k (gMap L m i) = mpGet k m) ∧ (∀ k, 0 < mpGet k (gMap L m i) → k = itKey L i ∨ mpGet k (gMap L m i) = mpGet k m) ∧ (mpGet (itKey L i) (gMap L m i) ≤ m.length ∧ (gMap L m i).length = m.length ∨ mpGet (itKey L i) (gMap L m i) = (m.length : Int) + 1 ∧ (gMap L m i).length = m.length + 1) := by
  unfold gMap
  have hml : (mpLen m : Int) = (m.length : Int) := rfl
  rw [hml]
  by_cases h0 : mpGet (itKey L i) m = 0
  · rw [if_pos h0]
    have hno : ∀ q ∈ m, q.1 ≠ itKey L i := fun q hq e => by
      have := mpGet_has h.pos ⟨q, hq, e⟩
      omega
    have hl : (mpSet (itKey L i) ((m.length : Int) + 1) m).length = m.length + 1 := by rw [mpSet_new hno]; simp
    have hg : ∀ k, mpGet k (mpSet (itKey L i) ((m.length : Int) + 1) m) = if itKey L i = k then (m.length : Int) + 1 else mpGet k m := fun k => mpGet_set
    refine ⟨⟨fun q hq => ?_, fun k => ?_, fun k k' h1 h2 => ?_⟩, by omega, ?_, fun k hk => ?_, fun k hk => ?_, Or.inr ⟨?_, hl⟩⟩
    · rw [mpSet_new hno] at hq
      rcases List.mem_append.1 hq with h1 | h1
      · exact h.pos q h1
      · rw [List.mem_singleton.1 h1]; show (0 : Int) < (m.length : Int) + 1; omega
    · rw [hg k, hl]
      have := h.rng k
      split <;> omega
    · rw [hg k, hg k'] at h2
      rw [hg k] at h1
      have r1 := h.rng k
      have r2 := h.rng k'
      split at h2
      · rename_i e1
        split at h2
        · rename_i e2
          rw [← e1, ← e2]
        · omega
      · rename_i e1
        rw [if_neg e1] at h1
        split at h2
        · omega
        · exact h.inj k k' h1 h2
    · rw [hg, if_pos rfl]; omega
    · rw [hg]
      split
      · rename_i e
        rw [← e] at hk
        omega
      · rfl
    · by_cases e : itKey L i = k
      · exact Or.inl e.symm
      · right
        rw [hg, if_neg e]
    · rw [hg, if_pos rfl]
  · rw [if_neg h0]
    have := h.rng (itKey L i)
    exact ⟨h, by omega, by omega, fun k _ => rfl, fun k _ => Or.inr rfl, Or.inl ⟨by omega, rfl⟩⟩
/-- The groups, so far. -/
structure GOk (L : List It) (O : List Bool) (k : Nat) (s : List (Value × Int) × List Int) : Prop where
  gm : GM s.1
  len : s.2.length = k
  ml : s.1.length ≤ k
  out : ∀ j, j < k → gIn L O j = false → iA s.2 j = 0
  inn : ∀ j, j < k → gIn L O j = true → 0 < iA s.2 j ∧ iA s.2 j = mpGet (itKey L j) s.1
theorem gOk {L : List It} {O : List Bool} : ∀ k, GOk L O k (gRun L O k)
  | 0 => ⟨GM.nil, rfl, Nat.le_refl _, fun j hj => absurd hj (by omega), fun j hj => absurd hj (by omega)⟩
  | k + 1 => by
    have h := gOk (L := L) (O := O) k
    rw [gRun_succ]
    generalize gRun L O k = s at *
    unfold gStep
    by_cases hi : gIn L O k = true
    · rw [if_pos hi]
      obtain ⟨h1, h2, h3, h4, -, -⟩ := h.gm.step (L := L) k
      refine ⟨h1, by simp [h.len], by have := h.ml; show (gMap L s.1 k).length ≤ k + 1; omega, fun j hj he => ?_, fun j hj he => ?_⟩
      · rcases Nat.lt_succ_iff_lt_or_eq.1 hj with h5 | rfl
        · show iA (s.2 ++ [_]) j = 0
          rw [iA_lt (by rw [h.len]; exact h5)]
          exact h.out j h5 he
        · rw [he] at hi; cases hi
      · show 0 < iA (s.2 ++ [mpGet (itKey L k) (gMap L s.1 k)]) j ∧ iA (s.2 ++ [mpGet (itKey L k) (gMap L s.1 k)]) j = mpGet (itKey L j) (gMap L s.1 k)
        rcases Nat.lt_succ_iff_lt_or_eq.1 hj with h5 | rfl
        · rw [iA_lt (by rw [h.len]; exact h5)]
          obtain ⟨h6, h7⟩ := h.inn j h5 he
          exact ⟨h6, by rw [h4 _ (by omega)]; exact h7⟩
        · have e : iA (s.2 ++ [mpGet (itKey L j) (gMap L s.1 j)]) j = mpGet (itKey L j) (gMap L s.1 j) := by
            have := iA_last (l := s.2) (x := mpGet (itKey L j) (gMap L s.1 j))
            rw [h.len] at this
            exact this
          rw [e]
          exact ⟨h3, rfl⟩
    · rw [if_neg hi]
      refine ⟨h.gm, by simp [h.len], by have := h.ml; show s.1.length ≤ k + 1; omega, fun j hj he => ?_, fun j hj he => ?_⟩
      · show iA (s.2 ++ [0]) j = 0
        rcases Nat.lt_succ_iff_lt_or_eq.1 hj with h5 | rfl
        · rw [iA_lt (by rw [h.len]; exact h5)]
          exact h.out j h5 he
        · have := iA_last (l := s.2) (x := 0)
          rw [h.len] at this
          exact this
      · rcases Nat.lt_succ_iff_lt_or_eq.1 hj with h5 | rfl
        · show 0 < iA (s.2 ++ [0]) j ∧ iA (s.2 ++ [0]) j = mpGet (itKey L j) s.1
          rw [iA_lt (by rw [h.len]; exact h5)]
          exact h.inn j h5 he
        · exact absurd he hi
structure LGr (L : List It) (O : List Bool) (n : Nat) where
  k : Nat
  ml : List (Value × Int)
  out : List Int
  h1 : k ≤ n
  hs : gRun L O k = (ml, out)
attribute [local cbv_opaque] itK itT itP itC itS bA itKey jbL jbO jbPre gIn gMap gStep gRun grpL mpGet mpSet mpLen iL iA
noncomputable def sGroups : SpecF
  | [.c (.row 0)], [.elems ty sz n get] => some (jbPre ty sz n get, .c (.row 1), [.dead, .row 3 1 n (inG (grpL (jbL n get) (jbO n get) n))])
  | _, _ => none

set_option maxRecDepth 100000 in
set_option maxHeartbeats 8000000 in
theorem groupsP : Fn Try.prog 22 [] [(68, 17)] sGroups := by
  have hC : CtsOk Try.prog [] := CtsOk.nil _
  refine Fn.of (E := tbGr) [] 0 [] tbGr_ok hC (by kernel_rfl) Try.func22 rfl rfl rfl (by kernel_rfl) (by kernel_rfl) 1 5 1 ?_ ?_
  · intro args h pre r h' hs
    unfold sGroups at hs
    split at hs
    · cases hs; exact ⟨rfl, rfl, Nat.le_of_ble_eq_true rfl⟩
    · cases hs
  · intro args h pre r h' hs hp
    unfold sGroups at hs
    split at hs
    rotate_left
    · cases hs
    rename_i ty sz n get
    cases hs
    obtain ⟨rfl, rfl, hst, hm⟩ := hp
    refine ⟨[.elems 68 17 n (jbG (jbL n get) (jbO n get))], ⟨⟨rfl, rfl, rfl, fun i hi => by rw [hst i hi]⟩, trivial⟩, ?_⟩
    generalize jbL n get = L at *
    generalize jbO n get = O at *
    clear hst
    generalize hg0 : (List.length : List (Value × Int) → Nat) = g0
    generalize hL : lft Try.prog _ = L
    generalize hA : Arith.std = A
    set_option cbv.maxSteps 6000000 in cbv
    subst hA hg0 hL
    show Runs Try.prog 1 (.loop _) _ _
    refine loop_ruleE (N := env (lft Try.prog 1) 0 .std tbGr [] []) rfl tbGr_ok hC (fun c st K _ h => h) (by kernel_rfl) [] (X := LGr L O n)
      (S := fun x => ⟨[.any, .any, .any, .c (.row 1), .c (.row 2), .any, .any, .any, .any, .any, .c (.row 0), .c (.int .i64 (n : Int)), .c (.int .i64 (x.k : Int))] ++ List.replicate 36 .any, [.elems 68 17 n (jbG L O), .mp [0, 0, 1, 0, 0] x.ml, .row 3 1 x.k (inG x.out)]⟩) (μ := fun x => n - x.k) ⟨0, [], [], by omega, rfl⟩ (by kernel_rfl) ?h0 ?rd
    case h0 => exact StT.trans (StT.nil (d := 4) (.row 3 1 0 (inG [])) rfl rfl) (StT.ofL (σ := [0, 1, 2]) ⟨rfl, by show List.Nodup [1, 2]; decide, by repeat' (first | exact trivial | exact rfl | apply And.intro | exact (fun _ _ _ _ => Cell.le_refl _) | (intro i hi; rfl) | (intro i hi; exact absurd hi (Nat.not_lt_zero _))), by repeat' (first | exact trivial | exact rfl | apply And.intro | exact (fun _ _ _ _ => Cell.le_refl _) | (intro i hi; rfl) | (intro i hi; exact absurd hi (Nat.not_lt_zero _)))⟩)
    rintro ⟨k, ml, out, h1, hs⟩
    have hok := gOk (L := L) (O := O) k
    rw [hs] at hok
    generalize hg0 : (List.length : List (Value × Int) → Nat) = g0
    generalize hL : lft Try.prog _ = L
    generalize hA : Arith.std = A
    set_option cbv.maxSteps 6000000 in cbv
    subst hA hg0 hL
    refine Ife.mk (fun hlt => ?_) (fun hlt => ?_)
    · have hk : k < n := Int.ofNat_lt.mp (of_decide_eq_true (p := (k : Int) < (n : Int)) hlt)
      clear hlt
      have hlo : k = out.length := hok.len.symm
      have hml : mpLen ml ≤ k := hok.ml
      have hfr : k + 1 ≤ maxLen ∧ (k + 1) * 8 ≤ 140737488355328 := by unfold maxLen; omega
      have hfk : fitStd .i64 ((k : Int) + 1) := by unfold fitStd; omega
      refine Need.mk (show 0 ≤ (k : Int) ∧ (k : Int) < (n : Int) from ⟨Int.natCast_nonneg k, Int.ofNat_lt.mpr hk⟩) fun _ => Need.mk hk fun _ => ?_
      refine Ife.mk (fun hb => ?_) (fun hb => ?_)
      · have hb' : bA O k = true := hb
        refine Ife.mk (fun h1 => ?_) (fun h1 => ?_)
        · have h1' : decide (itK L k = 1) = true := h1
          have hin : gIn L O k = true := by unfold gIn; rw [hb', h1']; rfl
          have hst : gRun L O (k + 1) = (gMap L ml k, out ++ [mpGet (itKey L k) (gMap L ml k)]) := by
            rw [gRun_succ, hs]
            unfold gStep
            rw [if_pos hin]
          refine Ife.mk (fun h0 => ?_) (fun h0 => ?_)
          · have h0' : mpGet (itKey L k) ml = 0 := of_decide_eq_true (p := mpGet (itKey L k) ml = 0) h0
            have hm2 : gMap L ml k = mpSet (itKey L k) ((mpLen ml : Int) + 1) ml := if_pos h0'
            rw [hm2] at hst
            have hp1 := in_push (x := mpGet (itKey L k) (mpSet (itKey L k) ((mpLen ml : Int) + 1) ml)) hlo
            have hp2 : True := trivial
            refine Need.mk (show fitStd .i64 ((mpLen ml : Int) + 1) by unfold fitStd; omega) fun _ => ?_
            refine Need.mk hfr fun _ => Need.mk hfk fun _ => ?_
            refine ⟨⟨k + 1, mpSet (itKey L k) ((mpLen ml : Int) + 1) ml, _, by omega, hst⟩, (by show n - (k + 1) < n - k; omega), ?_⟩
            exact StT.ofL (σ := [0, 1, 6]) ⟨rfl, by show List.Nodup [1, 6]; decide, by repeat' (first | exact trivial | exact hp1 | exact hp2 | exact rfl | apply And.intro | exact (fun _ _ _ _ => Cell.le_refl _) | (intro i hi; rfl) | (intro i hi; exact absurd hi (Nat.not_lt_zero _))), by repeat' (first | exact trivial | exact hp1 | exact hp2 | exact rfl | apply And.intro | exact (fun _ _ _ _ => Cell.le_refl _) | (intro i hi; rfl) | (intro i hi; exact absurd hi (Nat.not_lt_zero _)))⟩
          · have h0' : ¬ mpGet (itKey L k) ml = 0 := of_decide_eq_false (p := mpGet (itKey L k) ml = 0) h0
            have hm2 : gMap L ml k = ml := if_neg h0'
            rw [hm2] at hst
            have hp1 := in_push (x := mpGet (itKey L k) ml) hlo
            have hp2 : True := trivial
            refine Need.mk hfr fun _ => Need.mk hfk fun _ => ?_
            refine ⟨⟨k + 1, ml, _, by omega, hst⟩, (by show n - (k + 1) < n - k; omega), ?_⟩
            exact StT.ofL (σ := [0, 1, 6]) ⟨rfl, by show List.Nodup [1, 6]; decide, by repeat' (first | exact trivial | exact hp1 | exact hp2 | exact rfl | apply And.intro | exact (fun _ _ _ _ => Cell.le_refl _) | (intro i hi; rfl) | (intro i hi; exact absurd hi (Nat.not_lt_zero _))), by repeat' (first | exact trivial | exact hp1 | exact hp2 | exact rfl | apply And.intro | exact (fun _ _ _ _ => Cell.le_refl _) | (intro i hi; rfl) | (intro i hi; exact absurd hi (Nat.not_lt_zero _)))⟩
        · have h1' : decide (itK L k = 1) = false := h1
          refine Ife.mk (fun h2 => ?_) (fun h2 => ?_)
          · have h2' : decide (itK L k = 2) = true := h2
            have hin : gIn L O k = true := by unfold gIn; rw [hb', h1', h2']; rfl
            have hst : gRun L O (k + 1) = (gMap L ml k, out ++ [mpGet (itKey L k) (gMap L ml k)]) := by
              rw [gRun_succ, hs]
              unfold gStep
              rw [if_pos hin]
            refine Ife.mk (fun h0 => ?_) (fun h0 => ?_)
            · have h0' : mpGet (itKey L k) ml = 0 := of_decide_eq_true (p := mpGet (itKey L k) ml = 0) h0
              have hm2 : gMap L ml k = mpSet (itKey L k) ((mpLen ml : Int) + 1) ml := if_pos h0'
              rw [hm2] at hst
              have hp1 := in_push (x := mpGet (itKey L k) (mpSet (itKey L k) ((mpLen ml : Int) + 1) ml)) hlo
              have hp2 : True := trivial
              refine Need.mk (show fitStd .i64 ((mpLen ml : Int) + 1) by unfold fitStd; omega) fun _ => ?_
              refine Need.mk hfr fun _ => Need.mk hfk fun _ => ?_
              refine ⟨⟨k + 1, mpSet (itKey L k) ((mpLen ml : Int) + 1) ml, _, by omega, hst⟩, (by show n - (k + 1) < n - k; omega), ?_⟩
              exact StT.ofL (σ := [0, 1, 6]) ⟨rfl, by show List.Nodup [1, 6]; decide, by repeat' (first | exact trivial | exact hp1 | exact hp2 | exact rfl | apply And.intro | exact (fun _ _ _ _ => Cell.le_refl _) | (intro i hi; rfl) | (intro i hi; exact absurd hi (Nat.not_lt_zero _))), by repeat' (first | exact trivial | exact hp1 | exact hp2 | exact rfl | apply And.intro | exact (fun _ _ _ _ => Cell.le_refl _) | (intro i hi; rfl) | (intro i hi; exact absurd hi (Nat.not_lt_zero _)))⟩
            · have h0' : ¬ mpGet (itKey L k) ml = 0 := of_decide_eq_false (p := mpGet (itKey L k) ml = 0) h0
              have hm2 : gMap L ml k = ml := if_neg h0'
              rw [hm2] at hst
              have hp1 := in_push (x := mpGet (itKey L k) ml) hlo
              have hp2 : True := trivial
              refine Need.mk hfr fun _ => Need.mk hfk fun _ => ?_
              refine ⟨⟨k + 1, ml, _, by omega, hst⟩, (by show n - (k + 1) < n - k; omega), ?_⟩
              exact StT.ofL (σ := [0, 1, 6]) ⟨rfl, by show List.Nodup [1, 6]; decide, by repeat' (first | exact trivial | exact hp1 | exact hp2 | exact rfl | apply And.intro | exact (fun _ _ _ _ => Cell.le_refl _) | (intro i hi; rfl) | (intro i hi; exact absurd hi (Nat.not_lt_zero _))), by repeat' (first | exact trivial | exact hp1 | exact hp2 | exact rfl | apply And.intro | exact (fun _ _ _ _ => Cell.le_refl _) | (intro i hi; rfl) | (intro i hi; exact absurd hi (Nat.not_lt_zero _)))⟩
          · have h2' : decide (itK L k = 2) = false := h2
            have hin : gIn L O k = false := by unfold gIn; rw [hb', h1', h2']; rfl
            have hst : gRun L O (k + 1) = (ml, out ++ [0]) := by
              rw [gRun_succ, hs]
              unfold gStep
              rw [if_neg (by rw [hin]; decide)]
            have hp1 := in_push (x := 0) hlo
            have hp2 : True := trivial
            refine Need.mk hfr fun _ => Need.mk hfk fun _ => ?_
            refine ⟨⟨k + 1, ml, _, by omega, hst⟩, (by show n - (k + 1) < n - k; omega), ?_⟩
            exact StT.ofL (σ := [0, 1, 6]) ⟨rfl, by show List.Nodup [1, 6]; decide, by repeat' (first | exact trivial | exact hp1 | exact hp2 | exact rfl | apply And.intro | exact (fun _ _ _ _ => Cell.le_refl _) | (intro i hi; rfl) | (intro i hi; exact absurd hi (Nat.not_lt_zero _))), by repeat' (first | exact trivial | exact hp1 | exact hp2 | exact rfl | apply And.intro | exact (fun _ _ _ _ => Cell.le_refl _) | (intro i hi; rfl) | (intro i hi; exact absurd hi (Nat.not_lt_zero _)))⟩
      · have hb' : bA O k = false := hb
        have hin : gIn L O k = false := by unfold gIn; rw [hb']; rfl
        have hst : gRun L O (k + 1) = (ml, out ++ [0]) := by
          rw [gRun_succ, hs]
          unfold gStep
          rw [if_neg (by rw [hin]; decide)]
        have hp1 := in_push (x := 0) hlo
        have hp2 : True := trivial
        refine Need.mk hfr fun _ => Need.mk hfk fun _ => ?_
        refine ⟨⟨k + 1, ml, _, by omega, hst⟩, (by show n - (k + 1) < n - k; omega), ?_⟩
        exact StT.ofL (σ := [0, 1, 6]) ⟨rfl, by show List.Nodup [1, 6]; decide, by repeat' (first | exact trivial | exact hp1 | exact hp2 | exact rfl | apply And.intro | exact (fun _ _ _ _ => Cell.le_refl _) | (intro i hi; rfl) | (intro i hi; exact absurd hi (Nat.not_lt_zero _))), by repeat' (first | exact trivial | exact hp1 | exact hp2 | exact rfl | apply And.intro | exact (fun _ _ _ _ => Cell.le_refl _) | (intro i hi; rfl) | (intro i hi; exact absurd hi (Nat.not_lt_zero _)))⟩
    · have hke : ¬ k < n := fun h => of_decide_eq_false (p := (k : Int) < (n : Int)) hlt (Int.ofNat_lt.mpr h)
      clear hlt
      have hkn : k = n := by omega
      subst hkn
      have hp1 : ∀ i, i < k → inG out i = inG (grpL L O k) i := fun i _ => by
        unfold grpL
        rw [hs]
      have hp2 : True := trivial
      exact ⟨[0, 2], ⟨rfl, by repeat' (first | exact trivial | exact rfl | apply And.intro | exact (fun _ _ _ _ => Cell.le_refl _) | (intro i hi; rfl) | (intro i hi; exact absurd hi (Nat.not_lt_zero _))), by show List.Nodup [2]; decide, rfl, by repeat' (first | exact trivial | exact hp1 | exact hp2 | exact rfl | apply And.intro | exact (fun _ _ _ _ => Cell.le_refl _) | (intro i hi; rfl) | (intro i hi; exact absurd hi (Nat.not_lt_zero _)))⟩⟩

end Go.Proofs.Ythomoliklfmnkaa.Vx
end
