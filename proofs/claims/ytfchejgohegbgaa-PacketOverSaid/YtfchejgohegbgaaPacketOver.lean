/- PacketOver: an expired packet stays expired; one without timeouts never expires. -/
import Derived.Test.YtfchejgohegbgaaPktOver
import Derived.Deep.RegionHeld3
namespace Go.Proofs.Ytfchejgohegbgaa
open Go.RowKit
set_option linter.unusedVariables false

theorem over_mono (p : Pkt) (h t m k : Int) (hm : 0 ≤ m) (hk : 0 ≤ k) (ho : overPkt p h t = true) : overPkt p (h + m) (t + k) = true := by
  unfold overPkt pastB at *
  simp only [Bool.or_eq_true, decide_eq_true_eq] at *
  omega
theorem over_none (p : Pkt) (h t : Int) (h1 : p.th = 0) (h2 : p.ta = 0) : overPkt p h t = false := by
  unfold overPkt pastB
  rw [h1, h2]
  simp
theorem over_most (p : Pkt) (hp : mayPkt p = true) : overPkt p 1099511627776 1099511627776 = (decide (0 < p.th) || decide (0 < p.ta)) := by
  unfold mayPkt between at hp
  simp only [Bool.and_eq_true, decide_eq_true_eq] at hp
  unfold overPkt pastB
  rw [Bool.eq_iff_iff]
  simp only [Bool.or_eq_true, decide_eq_true_eq]
  omega

theorem Blk.pk {w : World} {g : Nat} {T : TypeId} {p : Pkt} (h : Blk w g T p.cells) :
    w.cell? ⟨g, 0, none⟩ = some (.string ⟨p.sp.toArray⟩) ∧ w.cell? ⟨g, 1, none⟩ = some (.int .i64 p.sc) ∧ w.cell? ⟨g, 2, none⟩ = some (.string ⟨p.dp.toArray⟩) ∧ w.cell? ⟨g, 3, none⟩ = some (.int .i64 p.dc) ∧
    w.cell? ⟨g, 4, none⟩ = some (.int .i64 p.seq) ∧ w.cell? ⟨g, 5, none⟩ = some (.string ⟨p.data.toArray⟩) ∧ w.cell? ⟨g, 6, none⟩ = some (.int .i64 p.th) ∧ w.cell? ⟨g, 7, none⟩ = some (.int .i64 p.ta) :=
  ⟨h.cell 0, h.cell 1, h.cell 2, h.cell 3, h.cell 4, h.cell 5, h.cell 6, h.cell 7⟩

theorem packetSame (p : Pkt) (w : World) : Calls Try.prog 63 #[.agg p.cells, .agg p.cells] w fun e w' => e = .returned (.bool true) ∧ Below w.heap.size w w' := by
  obtain ⟨sp, sc, dp, dc, seq, data, th, ta⟩ := p
  show Calls Try.prog 63 #[.agg #[.string ⟨sp.toArray⟩, .int .i64 sc, .string ⟨dp.toArray⟩, .int .i64 dc, .int .i64 seq, .string ⟨data.toArray⟩, .int .i64 th, .int .i64 ta], .agg #[.string ⟨sp.toArray⟩, .int .i64 sc, .string ⟨dp.toArray⟩, .int .i64 dc, .int .i64 seq, .string ⟨data.toArray⟩, .int .i64 th, .int .i64 ta]] w _
  go_enter Try.func63, Try.ntmps63
  go_wp2
  go_ret
  exact ⟨ret_bool (by simp), ((Below.refl _ _).alloc (Nat.le_refl _) _).alloc (by simp) _⟩

@[reducible] def exP : Pkt := ⟨[116], 1, [116], 1, 1, [], 5, 0⟩
theorem exP_fits : exP.fits := ⟨by decide, by decide, by decide⟩
set_option maxRecDepth 100000 in
set_option maxHeartbeats 1000000 in
theorem pktFirst (w : World) : Calls Try.prog 25 #[] w fun e w' => e = .returned (.bool true) ∧ Below w.heap.size w w' := by
  have HM : Hid (∀ W, _) := fun W => packetMay exP W exP_fits
  have HO : Hid (∀ h u W, _) := fun h u W => pktOver exP h u W
  have HS : Hid (∀ W, _) := fun W => packetSame exP W
  have e1 : mayPkt exP = true := by decide
  have e2 : overPkt exP 5 0 = true := by decide
  have e3 : overPkt exP 4 9 = false := by decide
  have hb := (Below.refl w.heap.size w).alloc (Nat.le_refl _) (.cells #[.string ⟨#[116]⟩, .int .i64 1] 33)
  replace hb := hb.alloc (by simp) (.cells exP.cells 35)
  have hB := Blk.new (w.alloc (.cells #[.string ⟨#[116]⟩, .int .i64 1] 33)) 35 exP.cells
  have hz : w.heap.size < ((w.alloc (.cells #[.string ⟨#[116]⟩, .int .i64 1] 33)).alloc (.cells exP.cells 35)).heap.size := by simp; omega
  rw [show (w.alloc (.cells #[.string ⟨#[116]⟩, .int .i64 1] 33)).heap.size = w.heap.size + 1 from by simp] at hB
  go_enter Try.func25, Try.ntmps25
  go_wp2_with fail
  refine (HM.out _).mono ?_
  rintro e w1 ⟨rfl, hx⟩
  have hb1 := hb.trans (hx.mono (Nat.le_of_lt hz))
  have hz1 := Nat.lt_of_lt_of_le hz hx.size
  have hB1 := hB.keep hx
  clear hx
  rw [e1]
  have hc1 := hB1.pk
  obtain ⟨hc1_0, hc1_1, hc1_2, hc1_3, hc1_4, hc1_5, hc1_6, hc1_7⟩ := hc1
  go_wp2_with fail
  refine (HO.out 5 0 _).mono ?_
  rintro e w2 ⟨rfl, hx⟩
  have hb2 := hb1.trans (hx.mono (Nat.le_of_lt hz1))
  have hz2 := Nat.lt_of_lt_of_le hz1 hx.size
  have hB2 := hB1.keep hx
  clear hx
  rw [e2]
  have hc2 := hB2.pk
  obtain ⟨hc2_0, hc2_1, hc2_2, hc2_3, hc2_4, hc2_5, hc2_6, hc2_7⟩ := hc2
  go_wp2_with fail
  refine (HO.out 4 9 _).mono ?_
  rintro e w3 ⟨rfl, hx⟩
  have hb3 := hb2.trans (hx.mono (Nat.le_of_lt hz2))
  have hz3 := Nat.lt_of_lt_of_le hz2 hx.size
  have hB3 := hB2.keep hx
  clear hx
  rw [e3]
  have hc3 := hB3.pk
  obtain ⟨hc3_0, hc3_1, hc3_2, hc3_3, hc3_4, hc3_5, hc3_6, hc3_7⟩ := hc3
  go_wp2_with fail
  refine (HS.out _).mono ?_
  rintro e w4 ⟨rfl, hx⟩
  have hb4 := hb3.trans (hx.mono (Nat.le_of_lt hz3))
  go_wp2_with fail
  go_ret
  exact ⟨rfl, hb4⟩
end Go.Proofs.Ytfchejgohegbgaa
