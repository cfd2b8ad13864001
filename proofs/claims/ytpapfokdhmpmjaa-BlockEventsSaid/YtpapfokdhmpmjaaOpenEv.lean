/- An event that comes in, opened. -/
import Derived.Test.YtpapfokdhmpmjaaOpenPkt
import Derived.Test.YtpapfokdhmpmjaaVEv
namespace Go.Proofs.Ytpapfokdhmpmjaa
open Go.ChangeShapes Go.WideShapes Go.ChangeAt Go.RowKit
set_option linter.unusedVariables false

@[reducible] def evCells (e : Ev) : List Value := [.int .i64 e.kind, .string ⟨e.pk.sp.toArray⟩, .int .i64 e.pk.sc, .string ⟨e.pk.dp.toArray⟩, .int .i64 e.pk.dc, .int .i64 e.pk.seq, .string ⟨e.pk.data.toArray⟩, .int .i64 e.pk.th, .int .i64 e.pk.ta, .string ⟨e.ack.toArray⟩, .string ⟨e.ep.toArray⟩, .int .i64 e.ec, .int .i64 e.height]
theorem evC_is (e : Ev) : Vx.IsL [] (Vx.evC e) (evCells e) := rfl

section
variable {H : Type} {enc : TypeId × Value → H} {w : World} {base : Nat}
theorem cells_Event : Try.prog.cellsOf 27 = 13 := by kernel_rfl

theorem trod_Pkt {spare : Nat → Bool} {held : Bool} {fuel : Nat} {l : List Value} {x : DataW H × List MemPlace} (hf : DataW.trod enc Try.prog w base spare held fuel 25 l = some x) :
    ∃ q : Pkt, l = q.cells.toList ∧ q.fits := by
  obtain ⟨xs, m, _, _, hl, hlen, hff⟩ := DataW.trod_struct Try.underlying25 hf
  rw [cells_Packet] at hl
  match l, hl with
  | [c0, c1, c2, c3, c4, c5, c6, c7], _ =>
    match xs, hlen with
    | [y0, y1, y2, y3, y4, y5], _ =>
      have f0 := hff 0 _ rfl
      have f1 := hff 1 _ rfl
      have f2 := hff 2 _ rfl
      have f3 := hff 3 _ rfl
      have f4 := hff 4 _ rfl
      have f5 := hff 5 _ rfl
      simp [cells_End, cells_int, cells_string] at f0 f1 f2 f3 f4 f5
      obtain ⟨s0, n0, e0, hs0, _⟩ := trod_End f0
      obtain ⟨s1, n1, e1, hs1, _⟩ := trod_End f1
      obtain ⟨n2, e2, _, _⟩ := DataW.trod_int Try.underlying3 f2
      obtain ⟨s3, e3, _, hs3⟩ := DataW.trod_string Try.underlying9 f3
      obtain ⟨n4, e4, _, _⟩ := DataW.trod_int Try.underlying3 f4
      obtain ⟨n5, e5, _, _⟩ := DataW.trod_int Try.underlying3 f5
      simp at e0 e1 e2 e3 e4 e5
      obtain ⟨l0, rfl, b0⟩ := bytesOf s0 hs0
      obtain ⟨l1, rfl, b1⟩ := bytesOf s1 hs1
      obtain ⟨l3, rfl, b3⟩ := bytesOf s3 hs3
      refine ⟨⟨l0, n0, l1, n1, n2, l3, n4, n5⟩, ?_, ⟨b0, b1, b3⟩⟩
      simp [e0, e1, e2, e3, e4, e5]

theorem trod_Ev {spare : Nat → Bool} {held : Bool} {fuel : Nat} {l : List Value} {x : DataW H × List MemPlace} (hf : DataW.trod enc Try.prog w base spare held fuel 27 l = some x) :
    ∃ q : Ev, l = evCells q ∧ q.fits := by
  obtain ⟨xs, m, _, _, hl, hlen, hff⟩ := DataW.trod_struct Try.underlying27 hf
  rw [cells_Event] at hl
  match l, hl with
  | [c0, c1, c2, c3, c4, c5, c6, c7, c8, c9, c10, c11, c12], _ =>
    match xs, hlen with
    | [y0, y1, y2, y3, y4], _ =>
      have f0 := hff 0 _ rfl
      have f1 := hff 1 _ rfl
      have f2 := hff 2 _ rfl
      have f3 := hff 3 _ rfl
      have f4 := hff 4 _ rfl
      simp [cells_End, cells_int, cells_string, cells_Packet] at f0 f1 f2 f3 f4
      obtain ⟨n0, e0, _, _⟩ := DataW.trod_int Try.underlying3 f0
      obtain ⟨p, e1, hp⟩ := trod_Pkt f1
      obtain ⟨s2, e2, _, hs2⟩ := DataW.trod_string Try.underlying9 f2
      obtain ⟨s3, n3, e3, hs3, _⟩ := trod_End f3
      obtain ⟨n4, e4, _, _⟩ := DataW.trod_int Try.underlying3 f4
      simp at e0 e1 e2 e3 e4
      obtain ⟨l2, rfl, b2⟩ := bytesOf s2 hs2
      obtain ⟨l3, rfl, b3⟩ := bytesOf s3 hs3
      refine ⟨⟨n0, p, l2, l3, n3, n4⟩, ?_, ⟨hp, b2, b3⟩⟩
      simp [evCells, e0, e1, e2, e3, e4]

theorem open_Ev {spare : Nat → Bool} {held : Bool} {v : Value} {d : DataW H} {p : List MemPlace} (hv : Value.okWide Try.prog w .any base 27 v) (h : DataW.Trod enc Try.prog w 0 spare held 27 v d p) :
    ∃ q : Ev, v = .agg (evCells q).toArray ∧ q.fits := by
  obtain ⟨cs, rfl, hz⟩ := okWide_struct Try.underlying27 hv
  obtain ⟨fuel, hf⟩ := h
  simp only [Value.cells] at hf
  obtain ⟨q, e, hq⟩ := trod_Ev hf
  refine ⟨q, ?_, hq⟩
  congr 1
  rw [← e]
end
end Go.Proofs.Ytpapfokdhmpmjaa
