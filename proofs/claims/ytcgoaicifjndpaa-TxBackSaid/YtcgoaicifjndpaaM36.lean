/- Proofs that come in, opened: slices whose elements hold slices. -/
import Derived.Test.YtcgoaicifjndpaaM35
import Derived.Test.YtcgoaicifjndpaaM23
section
namespace Go.Proofs.Ytcgoaicifjndpaa
open Go.ChangeShapes Go.WideShapes Go.ChangeAt Go.RowKit
set_option linter.unusedVariables false
set_option linter.unusedSimpArgs false
set_option maxRecDepth 100000
section
variable {H : Type} {enc : TypeId × Value → H} {w : World} {base : Nat}
theorem cellsM_u8 : Try.prog.cellsOf 5 = 1 := by kernel_rfl
theorem cellsM_int : Try.prog.cellsOf 3 = 1 := by kernel_rfl
theorem cellsM_str : Try.prog.cellsOf 9 = 1 := by kernel_rfl
theorem cellsM_Hash : Try.prog.cellsOf 63 = 32 := by kernel_rfl
theorem cellsM_Hashes : Try.prog.cellsOf 138 = 1 := by kernel_rfl
theorem cellsM_Leaf : Try.prog.cellsOf 140 = 4 := by kernel_rfl
/-- A slice, of its one cell. -/
theorem trod_sl {t e sz : Nat} {P : List Value → Prop} (hpos : 0 < sz) (ht : Try.prog.underlying t = some (.slice e)) (hsz : Try.prog.cellsOf e = sz)
    (hP : ∀ (fuel : Nat) (l : List Value) (x : DataW H × List MemPlace), DataW.trod enc Try.prog w 0 (fun _ => true) true fuel e l = some x → l.length = sz ∧ P l)
    {fuel : Nat} {l : List Value} {x : DataW H × List MemPlace} (hf : DataW.trod enc Try.prog w 0 (fun _ => true) true fuel t l = some x) :
    ∃ (a : Option Addr) (cap : Nat) (xs : List (List Value)), l = [.slice a xs.length cap] ∧ SlIn w a sz cap xs ∧ ∀ x ∈ xs, x.length = sz ∧ P x := by
  rcases DataW.trod_slice ht hf with ⟨e0, _⟩ | ⟨a2, len, cap, elems, rest, n, _, e0, _, hb, hl, hm, hlen, hel, hsp, hns⟩
  · exact ⟨none, 0, [], by simpa using e0, ⟨Nat.le_refl _, Nat.zero_le _, fun h => absurd h (by simp)⟩, fun x hx => absurd hx (by simp)⟩
  · have each : ∀ i, i < len → ∃ cs, w.cells? 0 (a2.add (i * sz)) sz = some cs ∧ cs.length = sz ∧ P cs := fun i hi => by
      have h := hel i hi
      simp only [hsz] at h
      have e := List.getElem?_eq_getElem (l := elems) (i := i) (by omega)
      rw [e] at h
      obtain ⟨cs, h1, h2⟩ := Option.bind_eq_some_iff.1 h
      obtain ⟨h3, h4⟩ := hP _ _ _ h2
      exact ⟨cs, h1, h3, h4⟩
    obtain ⟨f, hf⟩ : ∃ f : Nat → List Value, ∀ i, i < len → w.cells? 0 (a2.add (i * sz)) sz = some (f i) ∧ (f i).length = sz ∧ P (f i) := by
      refine ⟨fun i => if h : i < len then Classical.choose (each i h) else [], fun i hi => ?_⟩
      dsimp only
      rw [dif_pos hi]
      exact Classical.choose_spec (each i hi)
    refine ⟨some a2, cap, (List.range len).map f, by simpa using e0, ⟨by simp; omega, by simp; omega, fun h0 => ?_⟩, fun x hx => ?_⟩
    rotate_left
    · obtain ⟨i, hi, rfl⟩ := List.mem_map.1 hx
      exact (hf i (by simpa using hi)).2
    simp only [List.length_map, List.length_range] at h0 ⊢
    obtain ⟨b, off, spot⟩ := a2
    have h1 := World.cells?_some (hf 0 h0).1
    have hl0 : 0 < (f 0).length := by rw [(hf 0 h0).2.1]; exact hpos
    have h2 := h1.2.2 0 (by first | exact hl0 | exact hpos)
    have hspot : spot = none := by
      have h3 : ∃ v, w.cell? (((⟨b, off, spot⟩ : Addr).add (0 * sz)).add 0) = some v := ⟨_, h2.trans (List.getElem?_eq_getElem hl0)⟩
      obtain ⟨v, h3⟩ := h3
      simpa [Addr.add] using World.cell?_spot h3
    subst hspot
    have ha : ∀ i j : Nat, (((⟨b, off, none⟩ : Addr).add (i * sz)).add j) = ⟨b, off + i * sz + j, none⟩ := fun i j => by
      rw [Vx.addr_add, Vx.addr_add]
    refine ⟨b, off, rfl, ?_, fun i hi j v hv => ?_⟩
    · rw [ha, List.getElem?_eq_getElem hl0] at h2
      exact World.block_lt_of_cell? w _ h2
    · have hfi := hf i hi
      have hj : j < (f i).length := by
        have := (List.getElem?_eq_some_iff.1 hv).1
        simpa using this
      have h3 := (World.cells?_some hfi.1).2.2 j (by first | exact hj | (rw [← hfi.2.1]; exact hj))
      rw [ha] at h3
      rw [h3]
      simpa using hv
/-- A sum, by its 32 numbers. -/
theorem trod_H32 {spare : Nat → Bool} {held : Bool} {b0 fuel : Nat} {l : List Value} {x : DataW H × List MemPlace} (hf : DataW.trod enc Try.prog w b0 spare held fuel 63 l = some x) :
    l.length = 32 ∧ ∃ h : List Int, h.length = 32 ∧ (∀ b ∈ h, 0 ≤ b ∧ b < 256) ∧ l = h.map (Value.int .u8) := by
  obtain ⟨xs, m, _, _, hl, hlen, hff⟩ := DataW.trod_array Try.underlying63 hf
  rw [cellsM_Hash] at hl
  have each : ∀ i (h : i < 32), ∃ n : Int, l[i]'(by omega) = .int .u8 n ∧ 0 ≤ n ∧ n < 256 := fun i h => by
    have f := hff i h
    rw [cellsM_u8] at f
    have e := List.getElem?_eq_getElem (l := xs) (i := i) (by omega)
    rw [e] at f
    obtain ⟨n, e1, _, hw⟩ := DataW.trod_int Try.underlying5 f
    have hb : 0 ≤ n ∧ n ≤ 255 := bounds_u8 hw
    have e2 : (List.drop (i * 1) l).take 1 = [l[i]'(by omega)] := by
      rw [Nat.mul_one, List.drop_eq_getElem_cons (by omega)]
      rfl
    rw [e2] at e1
    exact ⟨n, by simpa using e1, hb.1, by omega⟩
  obtain ⟨f, hf⟩ : ∃ f : Nat → Int, ∀ i (h : i < 32), l[i]'(by omega) = .int .u8 (f i) ∧ 0 ≤ f i ∧ f i < 256 := by
    refine ⟨fun i => if h : i < 32 then Classical.choose (each i h) else 0, fun i hi => ?_⟩
    dsimp only
    rw [dif_pos hi]
    exact Classical.choose_spec (each i hi)
  refine ⟨hl, (List.range 32).map f, by simp, fun b hb => ?_, ?_⟩
  · obtain ⟨i, hi, rfl⟩ := List.mem_map.1 hb
    exact (hf i (by simpa using hi)).2
  · apply List.ext_getElem
    · simp [hl]
    · intro i h1 h2
      rw [(hf i (by omega)).1]
      simp
/-- The cells of a leaf that comes in. -/
def LeafIn (w : World) (l : List Value) (x : Vx.PLeaf) : Prop :=
  ∃ a cap, l = [.string ⟨x.k.toArray⟩, .string ⟨x.v.toArray⟩, .int .i64 x.i, .slice a x.p.length cap] ∧ SlIn w a 32 cap (x.p.map fun h => h.map (Value.int .u8)) ∧ x.k.length ≤ maxLen ∧ x.v.length ≤ maxLen ∧ ∀ h ∈ x.p, h.length = 32 ∧ ∀ b ∈ h, 0 ≤ b ∧ b < 256
theorem trod_Leaf {fuel : Nat} {l : List Value} {x : DataW H × List MemPlace} (hf : DataW.trod enc Try.prog w 0 (fun _ => true) true fuel 140 l = some x) :
    l.length = 4 ∧ ∃ y, LeafIn w l y := by
  obtain ⟨xs, m, _, _, hl, hlen, hff⟩ := DataW.trod_struct Try.underlying140 hf
  rw [cellsM_Leaf] at hl
  refine ⟨hl, ?_⟩
  match l, hl with
  | [c0, c1, c2, c3], _ =>
    match xs, hlen with
    | [y0, y1, y2, y3], _ =>
      have f0 := hff 0 _ rfl
      have f1 := hff 1 _ rfl
      have f2 := hff 2 _ rfl
      have f3 := hff 3 _ rfl
      simp [cellsM_int, cellsM_str, cellsM_Hashes] at f0 f1 f2 f3
      obtain ⟨s0, e0, _, hs0⟩ := DataW.trod_string Try.underlying9 f0
      obtain ⟨s1, e1, _, hs1⟩ := DataW.trod_string Try.underlying9 f1
      obtain ⟨n2, e2, _, _⟩ := DataW.trod_int Try.underlying3 f2
      obtain ⟨a, cap, hs, e3, hsl, hx⟩ := trod_sl (sz := 32) (P := fun l => ∃ h : List Int, h.length = 32 ∧ (∀ b ∈ h, 0 ≤ b ∧ b < 256) ∧ l = h.map (Value.int .u8)) (by decide) Try.underlying138 cellsM_Hash (fun fuel l x hl => trod_H32 hl) f3
      obtain ⟨f, hf⟩ : ∃ f : Nat → List Int, ∀ i (hi : i < hs.length), (f i).length = 32 ∧ (∀ b ∈ f i, 0 ≤ b ∧ b < 256) ∧ hs[i] = (f i).map (Value.int .u8) := by
        refine ⟨fun i => if h : i < hs.length then Classical.choose (hx hs[i] (List.getElem_mem h)).2 else [], fun i hi => ?_⟩
        dsimp only
        rw [dif_pos hi]
        exact Classical.choose_spec (hx hs[i] (List.getElem_mem hi)).2
      have e : ((List.range hs.length).map f).map (fun h => h.map (Value.int .u8)) = hs := by
        apply List.ext_getElem
        · simp
        · intro i h1 h2
          rw [(hf i h2).2.2]
          simp
      obtain ⟨b0, hb0⟩ : ∃ b : List UInt8, b = s0.data.toList := ⟨_, rfl⟩
      obtain ⟨b1, hb1⟩ : ∃ b : List UInt8, b = s1.data.toList := ⟨_, rfl⟩
      refine ⟨⟨b0, b1, n2, (List.range hs.length).map f⟩, a, cap, ?_, ?_, ?_, ?_, ?_⟩
      · simp at e0 e1 e2 e3
        rw [e0, e1, e2, e3, hb0, hb1]
        simp
      · show SlIn w a 32 cap (((List.range hs.length).map f).map fun h => h.map (Value.int .u8))
        rw [e]; exact hsl
      · show b0.length ≤ maxLen
        rw [hb0]
        have : s0.size = s0.data.toList.length := by rw [Array.length_toList]; rfl
        omega
      · show b1.length ≤ maxLen
        rw [hb1]
        have : s1.size = s1.data.toList.length := by rw [Array.length_toList]; rfl
        omega
      · intro h hh
        obtain ⟨i, hi, rfl⟩ := List.mem_map.1 hh
        have := hf i (by simpa using hi)
        exact ⟨this.1, this.2.1⟩
theorem isL_h32 {h : List Int} (hl : h.length = 32) : Vx.IsL [] (Vx.h32 fun j => h.getD j 0) (h.map (Value.int .u8)) := by
  have e : (Vx.h32 fun j => h.getD j 0) = (List.range 32).map fun j => Vx.CV.int .u8 (h.getD j 0) := rfl
  unfold Vx.IsL
  rw [e]
  apply List.ext_getElem
  · simp [hl]
  · intro i h1 h2
    have hi : i < 32 := by simpa using h1
    simp [Vx.CV.den, List.getD, hl, hi]
theorem leaf_at {n : Nat} {f : Nat → Vx.PLeaf} {i : Nat} (hi : i < n) : ((List.range n).map f).getD i .none = f i := by simp [List.getD, hi]
/-- Leaves that come in, as data. -/
theorem trod_Leaves {fuel : Nat} {l : List Value} {x : DataW H × List MemPlace} (hf : DataW.trod enc Try.prog w 0 (fun _ => true) true fuel 70 l = some x) :
    ∃ (v : Value) (L : List Vx.PLeaf), l = [v] ∧ (Vx.Cell.ns false 140 4 L.length (Vx.leafG false L)).shows w (fun _ b => b < w.heap.size) v ∧ L.length ≤ maxLen ∧ ∀ y ∈ L, y.k.length ≤ maxLen ∧ y.v.length ≤ maxLen ∧ ∀ h ∈ y.p, h.length = 32 ∧ ∀ b ∈ h, 0 ≤ b ∧ b < 256 := by
  obtain ⟨a, cap, xs, e, hsl, hx⟩ := trod_sl (sz := 4) (P := fun l => ∃ y, LeafIn w l y) (by decide) Try.underlying70 cellsM_Leaf (fun fuel l x hl => trod_Leaf hl) hf
  obtain ⟨f, hf⟩ : ∃ f : Nat → Vx.PLeaf, ∀ i (hi : i < xs.length), LeafIn w xs[i] (f i) := by
    refine ⟨fun i => if h : i < xs.length then Classical.choose (hx xs[i] (List.getElem_mem h)).2 else .none, fun i hi => ?_⟩
    dsimp only
    rw [dif_pos hi]
    exact Classical.choose_spec (hx xs[i] (List.getElem_mem hi)).2
  refine ⟨_, (List.range xs.length).map f, e, ⟨a, cap, by simp, by simpa using hsl.cap, fun h0 => ?_⟩, by simpa using hsl.max, fun y hy => ?_⟩
  rotate_left
  · obtain ⟨i, hi, rfl⟩ := List.mem_map.1 hy
    obtain ⟨a2, cap2, _, _, h3, h4, h5⟩ := hf i (by simpa using hi)
    exact ⟨h3, h4, h5⟩
  obtain ⟨b, off, ha, hb, hc⟩ := hsl.lt (by simpa using h0)
  refine ⟨b, off, ha, hb, fun i j hi hj => ?_⟩
  have hi' : i < xs.length := by simpa using hi
  obtain ⟨a2, cap2, ex, hs2, _, _, hh⟩ := hf i hi'
  have el := leaf_at (f := f) hi'
  rcases Vx.four hj with rfl | rfl | rfl | rfl
  · refine ⟨_, hc i hi' 0 (.string ⟨(f i).k.toArray⟩) (by rw [ex]; rfl), ?_⟩
    show Vx.CV.den [] (.str (Vx.lK _ i)) = _
    unfold Vx.lK
    rw [el]; rfl
  · refine ⟨_, hc i hi' 1 (.string ⟨(f i).v.toArray⟩) (by rw [ex]; rfl), ?_⟩
    show Vx.CV.den [] (.str (Vx.lV _ i)) = _
    unfold Vx.lV
    rw [el]; rfl
  · refine ⟨_, hc i hi' 2 (.int .i64 (f i).i) (by rw [ex]; rfl), ?_⟩
    show Vx.CV.den [] (.int .i64 (Vx.lI _ i)) = _
    unfold Vx.lI
    rw [el]; rfl
  · refine ⟨_, hc i hi' 3 (.slice a2 (f i).p.length cap2) (by rw [ex]; rfl), ?_⟩
    show (Vx.Cell.es false _ 32 (Vx.lN _ i) (Vx.pG (Vx.lP _ i))).shows _ _ _
    unfold Vx.lN Vx.lP
    rw [el]
    refine ⟨a2, cap2, rfl, by simpa using hs2.cap, fun h1 => ?_⟩
    obtain ⟨b2, o2, hb2, hl2, hc2⟩ := hs2.lt (by simpa using h1)
    refine ⟨b2, o2, hb2, hl2, fun q hq => ?_⟩
    have hq' : q < ((f i).p.map fun h => h.map (Value.int .u8)).length := by simpa using hq
    refine ⟨_, ?_, fun r v hv => hc2 q hq' r v hv⟩
    unfold Vx.pG
    rw [show (f i).p.getD q [] = (f i).p[q] by simp [List.getD, hq], List.getElem_map]
    exact isL_h32 (hh _ (List.getElem_mem hq)).1
end
end Go.Proofs.Ytcgoaicifjndpaa
end

section
/- Headers and proofs that come in, opened. -/
namespace Go.Proofs.Ytcgoaicifjndpaa
open Go.ChangeShapes Go.WideShapes Go.ChangeAt Go.RowKit
set_option linter.unusedVariables false
set_option linter.unusedSimpArgs false
set_option maxRecDepth 100000
section
variable {H : Type} {enc : TypeId × Value → H} {w : World} {base : Nat}
theorem cellsM_Header : Try.prog.cellsOf 65 = 34 := by kernel_rfl
theorem cellsM_Proof : Try.prog.cellsOf 72 = 2 := by kernel_rfl
theorem cellsM_Leaves : Try.prog.cellsOf 70 = 1 := by kernel_rfl
theorem trod_Header {spare : Nat → Bool} {held : Bool} {fuel b0 : Nat} {l : List Value} {x : DataW H × List MemPlace} (hf : DataW.trod enc Try.prog w b0 spare held fuel 65 l = some x) :
    ∃ (a b : Int) (h : List Int), h.length = 32 ∧ (∀ b ∈ h, 0 ≤ b ∧ b < 256) ∧ l = .int .i64 a :: .int .i64 b :: h.map (Value.int .u8) := by
  obtain ⟨xs, m, _, _, hl, hlen, hff⟩ := DataW.trod_struct Try.underlying65 hf
  rw [cellsM_Header] at hl
  match l, hl with
  | c0 :: c1 :: r, hl =>
    have hr : r.length = 32 := by simpa using hl
    match xs, hlen with
    | [y0, y1, y2], _ =>
      have f0 := hff 0 _ rfl
      have f1 := hff 1 _ rfl
      have f2 := hff 2 _ rfl
      simp [cellsM_int, cellsM_Hash] at f0 f1 f2
      obtain ⟨n0, e0, _, _⟩ := DataW.trod_int Try.underlying3 f0
      obtain ⟨n1, e1, _, _⟩ := DataW.trod_int Try.underlying3 f1
      obtain ⟨_, h, h1, h2, e2⟩ := trod_H32 f2
      rw [List.take_of_length_le (by omega)] at e2
      simp at e0 e1
      exact ⟨n0, n1, h, h1, h2, by rw [e0, e1, e2]⟩
theorem trod_Proof {fuel : Nat} {l : List Value} {x : DataW H × List MemPlace} (hf : DataW.trod enc Try.prog w 0 (fun _ => true) true fuel 72 l = some x) :
    ∃ (c : Int) (v : Value) (L : List Vx.PLeaf), l = [.int .i64 c, v] ∧ (Vx.Cell.ns false 140 4 L.length (Vx.leafG false L)).shows w (fun _ b => b < w.heap.size) v ∧ L.length ≤ maxLen ∧ ∀ y ∈ L, y.k.length ≤ maxLen ∧ y.v.length ≤ maxLen ∧ ∀ h ∈ y.p, h.length = 32 ∧ ∀ b ∈ h, 0 ≤ b ∧ b < 256 := by
  obtain ⟨xs, m, _, _, hl, hlen, hff⟩ := DataW.trod_struct Try.underlying72 hf
  rw [cellsM_Proof] at hl
  match l, hl with
  | [c0, c1], _ =>
    match xs, hlen with
    | [y0, y1], _ =>
      have f0 := hff 0 _ rfl
      have f1 := hff 1 _ rfl
      simp [cellsM_int, cellsM_Leaves] at f0 f1
      obtain ⟨n0, e0, _, _⟩ := DataW.trod_int Try.underlying3 f0
      obtain ⟨v, L, e1, h1, h2, h3⟩ := trod_Leaves f1
      simp at e0 e1
      exact ⟨n0, v, L, by rw [e0, e1], h1, h2, h3⟩
theorem cellsM_Packet : Try.prog.cellsOf 69 = 8 := by kernel_rfl
theorem cellsM_End : Try.prog.cellsOf 67 = 2 := by kernel_rfl
theorem cellsM_Msg : Try.prog.cellsOf 74 = 50 := by kernel_rfl
theorem trod_Pkt {spare : Nat → Bool} {held : Bool} {fuel b0 : Nat} {l : List Value} {x : DataW H × List MemPlace} (hf : DataW.trod enc Try.prog w b0 spare held fuel 69 l = some x) :
    ∃ q : Pkt, l = q.cells.toList ∧ q.fits := by
  obtain ⟨xs, m, _, _, hl, hlen, hff⟩ := DataW.trod_struct Try.underlying69 hf
  rw [cellsM_Packet] at hl
  match l, hl with
  | [c0, c1, c2, c3, c4, c5, c6, c7], _ =>
    match xs, hlen with
    | [y0, y1, y2, y3, y4, y5], _ =>
      have f0 := hff 0 _ rfl
      have f1 := hff 1 _ rfl
      have f2 := hff 2 _ rfl
      have f3 := hff 3 _ rfl
      have f4 := hff 4 _ rfl
      have f5 := hff 5 _ rfl
      simp [cellsM_End, cellsM_int, cellsM_str] at f0 f1 f2 f3 f4 f5
      obtain ⟨s0, n0, e0, hs0, _⟩ := trod_End f0
      obtain ⟨s1, n1, e1, hs1, _⟩ := trod_End f1
      obtain ⟨n2, e2, _, _⟩ := DataW.trod_int Try.underlying3 f2
      obtain ⟨s3, e3, _, hs3⟩ := DataW.trod_string Try.underlying9 f3
      obtain ⟨n4, e4, _, _⟩ := DataW.trod_int Try.underlying3 f4
      obtain ⟨n5, e5, _, _⟩ := DataW.trod_int Try.underlying3 f5
      simp at e0 e1 e2 e3 e4 e5
      obtain ⟨l0, rfl, b0⟩ := bytesOf s0 hs0
      obtain ⟨l1, rfl, b1⟩ := bytesOf s1 hs1
      obtain ⟨l3, rfl, b3⟩ := bytesOf s3 hs3
      refine ⟨⟨l0, n0, l1, n1, n2, l3, n4, n5⟩, ?_, ⟨b0, b1, b3⟩⟩
      simp [Pkt.cells, e0, e1, e2, e3, e4, e5]
/-- A message that comes in: its cells, its leaves as data. -/
structure MsgIn (w : World) (l : List Value) (m : Vx.PMsg) where
  v : Value
  v' : Value
  cells : l = .int .i64 m.kind :: .int .i64 m.hh :: .int .i64 m.ht :: (m.hr.map (Value.int .u8) ++ (m.pk.cells.toList ++ [.string ⟨m.ack.toArray⟩, .int .i64 m.next, .int .i64 m.height, .int .i64 m.pc, v, .int .i64 m.cc, v']))
  len : m.hr.length = 32
  by' : ∀ b ∈ m.hr, 0 ≤ b ∧ b < 256
  fits : m.pk.fits
  ack : m.ack.length ≤ 9223372036854775807
  pl : (Vx.Cell.ns false 140 4 m.pl.length (Vx.leafG false m.pl)).shows w (fun _ b => b < w.heap.size) v
  cl : (Vx.Cell.ns false 140 4 m.cl.length (Vx.leafG false m.cl)).shows w (fun _ b => b < w.heap.size) v'
  pok : ∀ y ∈ m.pl, ∀ h ∈ y.p, h.length = 32 ∧ ∀ b ∈ h, 0 ≤ b ∧ b < 256
  cok : ∀ y ∈ m.cl, ∀ h ∈ y.p, h.length = 32 ∧ ∀ b ∈ h, 0 ≤ b ∧ b < 256
theorem trod_Msg {fuel : Nat} {l : List Value} {x : DataW H × List MemPlace} (hf : DataW.trod enc Try.prog w 0 (fun _ => true) true fuel 74 l = some x) :
    ∃ m, Nonempty (MsgIn w l m) := by
  obtain ⟨xs, m, _, _, hl, hlen, hff⟩ := DataW.trod_struct Try.underlying74 hf
  rw [cellsM_Msg] at hl
  obtain ⟨c, r1, rfl⟩ : ∃ c r1, l = c :: r1 := by cases l with | nil => simp at hl | cons c r => exact ⟨c, r, rfl⟩
  match xs, hlen with
  | [y0, y1, y2, y3, y4, y5, y6, y7], _ =>
    have f0 := hff 0 _ rfl
    have f1 := hff 1 _ rfl
    have f2 := hff 2 _ rfl
    have f3 := hff 3 _ rfl
    have f4 := hff 4 _ rfl
    have f5 := hff 5 _ rfl
    have f6 := hff 6 _ rfl
    have f7 := hff 7 _ rfl
    simp [cellsM_int, cellsM_str, cellsM_Header, cellsM_Packet, cellsM_Proof] at f0 f1 f2 f3 f4 f5 f6 f7
    have hr : r1.length = 49 := by simpa using hl
    obtain ⟨n0, e0, _, _⟩ := DataW.trod_int Try.underlying3 f0
    obtain ⟨hh, ht, h, h1, h2, e1⟩ := trod_Header f1
    obtain ⟨q, e2, hq⟩ := trod_Pkt f2
    obtain ⟨s3, e3, _, hs3⟩ := DataW.trod_string Try.underlying9 f3
    obtain ⟨n4, e4, _, _⟩ := DataW.trod_int Try.underlying3 f4
    obtain ⟨n5, e5, _, _⟩ := DataW.trod_int Try.underlying3 f5
    obtain ⟨pc, v, L, e6, p1, p2, p3⟩ := trod_Proof f6
    obtain ⟨cc, v', L', e7, k1, k2, k3⟩ := trod_Proof f7
    obtain ⟨ak, rfl, hak⟩ := bytesOf s3 hs3
    simp at e0
    have join : ∀ (r : List Value) (a b : Nat), (r.drop a).take b ++ r.drop (a + b) = r.drop a := fun r a b => by
      rw [← List.drop_drop]; exact List.take_append_drop b (r.drop a)
    refine ⟨⟨n0, hh, ht, h, q, ak, n4, n5, pc, L, cc, L'⟩, ⟨⟨v, v', ?_, h1, h2, hq, hak, p1, k1, fun y hy => (p3 y hy).2.2, fun y hy => (k3 y hy).2.2⟩⟩⟩
    have j1 := List.take_append_drop 34 r1
    have j2 : (r1.drop 34).take 8 ++ r1.drop 42 = r1.drop 34 := join r1 34 8
    have j3 : (r1.drop 42).take 1 ++ r1.drop 43 = r1.drop 42 := join r1 42 1
    have j4 : (r1.drop 43).take 1 ++ r1.drop 44 = r1.drop 43 := join r1 43 1
    have j5 : (r1.drop 44).take 1 ++ r1.drop 45 = r1.drop 44 := join r1 44 1
    have j6 : (r1.drop 45).take 2 ++ r1.drop 47 = r1.drop 45 := join r1 45 2
    have j7 : (r1.drop 47).take 2 ++ r1.drop 49 = r1.drop 47 := join r1 47 2
    have j8 : r1.drop 49 = [] := List.drop_eq_nil_of_le (by omega)
    rw [e1, ← j2, e2, ← j3, e3, ← j4, e4, ← j5, e5, ← j6, e6, ← j7, e7, j8] at j1
    rw [e0, ← j1]
    simp
theorem isL_h32r {ρ : List Vx.Pl} {h : List Int} (hl : h.length = 32) : Vx.IsL ρ (Vx.h32 (Vx.rN h)) (h.map (Value.int .u8)) := by
  have e : (Vx.h32 (Vx.rN h)) = (List.range 32).map fun j => Vx.CV.int .u8 (h.getD j 0) := rfl
  unfold Vx.IsL
  rw [e]
  apply List.ext_getElem
  · simp [hl]
  · intro i h1 h2
    have hi : i < 32 := by simpa using h1
    simp [Vx.CV.den, List.getD, hl, hi]
end
end Go.Proofs.Ytcgoaicifjndpaa
end
