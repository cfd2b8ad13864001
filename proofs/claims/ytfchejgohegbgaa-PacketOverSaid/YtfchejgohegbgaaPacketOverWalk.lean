/- PacketOver: the walk. -/
import Derived.Test.YtfchejgohegbgaaPacketOver
import Derived.Deep.RegionHeld3
namespace Go.Proofs.Ytfchejgohegbgaa
open Go.RowKit
set_option linter.unusedVariables false
set_option linter.unusedSimpArgs false

/-- The world behind the start: the packet stands in its box. -/
def PS (w : World) (p : Pkt) (W : World) : Prop := Below w.heap.size w W ∧ w.heap.size < W.heap.size ∧ Blk W w.heap.size 35 p.cells
@[reducible] def PSS (w : World) (p : Pkt) (W : World) : Prop := PS w p W ∧ W.cell? ⟨w.heap.size, 0, none⟩ = some (.string ⟨p.sp.toArray⟩) ∧ W.cell? ⟨w.heap.size, 1, none⟩ = some (.int .i64 p.sc) ∧ W.cell? ⟨w.heap.size, 2, none⟩ = some (.string ⟨p.dp.toArray⟩) ∧ W.cell? ⟨w.heap.size, 3, none⟩ = some (.int .i64 p.dc) ∧
    W.cell? ⟨w.heap.size, 4, none⟩ = some (.int .i64 p.seq) ∧ W.cell? ⟨w.heap.size, 5, none⟩ = some (.string ⟨p.data.toArray⟩) ∧ W.cell? ⟨w.heap.size, 6, none⟩ = some (.int .i64 p.th) ∧ W.cell? ⟨w.heap.size, 7, none⟩ = some (.int .i64 p.ta)
theorem PS.all {w W : World} {p : Pkt} (h : PS w p W) : PSS w p W := ⟨h, h.2.2.pk⟩
theorem PS.drew {w W : World} {p : Pkt} (h : PS w p W) : PS w p W.drew := ⟨h.1.drew, h.2.1, h.2.2⟩
theorem PS.step {w W W' : World} {p : Pkt} (h : PS w p W) (hx : Below W.heap.size W W') : PS w p W' := ⟨h.1.trans (hx.mono (Nat.le_of_lt h.2.1)), Nat.lt_of_lt_of_le h.2.1 hx.size, h.2.2.keep hx⟩
theorem PSS.step {w W W' : World} {p : Pkt} (h : PSS w p W) (hx : Below W.heap.size W W') : PSS w p W' := (h.1.step hx).all

/-- .. and the packet without timeouts in the box g. -/
def PT (w : World) (p q : Pkt) (g : Nat) (W : World) : Prop := PS w p W ∧ g < W.heap.size ∧ Blk W g 35 q.cells
@[reducible] def PTT (w : World) (p q : Pkt) (g : Nat) (W : World) : Prop := PT w p q g W ∧ W.cell? ⟨w.heap.size, 0, none⟩ = some (.string ⟨p.sp.toArray⟩) ∧ W.cell? ⟨w.heap.size, 1, none⟩ = some (.int .i64 p.sc) ∧ W.cell? ⟨w.heap.size, 2, none⟩ = some (.string ⟨p.dp.toArray⟩) ∧ W.cell? ⟨w.heap.size, 3, none⟩ = some (.int .i64 p.dc) ∧
    W.cell? ⟨w.heap.size, 4, none⟩ = some (.int .i64 p.seq) ∧ W.cell? ⟨w.heap.size, 5, none⟩ = some (.string ⟨p.data.toArray⟩) ∧ W.cell? ⟨w.heap.size, 6, none⟩ = some (.int .i64 p.th) ∧ W.cell? ⟨w.heap.size, 7, none⟩ = some (.int .i64 p.ta) ∧
    W.cell? ⟨g, 0, none⟩ = some (.string ⟨q.sp.toArray⟩) ∧ W.cell? ⟨g, 1, none⟩ = some (.int .i64 q.sc) ∧ W.cell? ⟨g, 2, none⟩ = some (.string ⟨q.dp.toArray⟩) ∧ W.cell? ⟨g, 3, none⟩ = some (.int .i64 q.dc) ∧
    W.cell? ⟨g, 4, none⟩ = some (.int .i64 q.seq) ∧ W.cell? ⟨g, 5, none⟩ = some (.string ⟨q.data.toArray⟩) ∧ W.cell? ⟨g, 6, none⟩ = some (.int .i64 q.th) ∧ W.cell? ⟨g, 7, none⟩ = some (.int .i64 q.ta)
theorem PT.all {w W : World} {p q : Pkt} {g : Nat} (h : PT w p q g W) : PTT w p q g W := by
  obtain ⟨a0, a1, a2, a3, a4, a5, a6, a7⟩ := h.1.2.2.pk
  exact ⟨h, a0, a1, a2, a3, a4, a5, a6, a7, h.2.2.pk⟩
theorem PT.drew {w W : World} {p q : Pkt} {g : Nat} (h : PT w p q g W) : PT w p q g W.drew := ⟨h.1.drew, h.2.1, h.2.2⟩
theorem PT.step {w W W' : World} {p q : Pkt} {g : Nat} (h : PT w p q g W) (hx : Below W.heap.size W W') : PT w p q g W' := ⟨h.1.step hx, Nat.lt_of_lt_of_le h.2.1 hx.size, h.2.2.keep hx⟩
theorem PTT.step {w W W' : World} {p q : Pkt} {g : Nat} (h : PTT w p q g W) (hx : Below W.heap.size W W') : PTT w p q g W' := (h.1.step hx).all
theorem PT.new {w W : World} {p : Pkt} (q : Pkt) (h : PS w p W) : PT w p q W.heap.size (W.alloc (.cells q.cells 35)) :=
  ⟨h.step ((Below.refl _ _).alloc (Nat.le_refl _) _), by simp, Blk.new _ _ _⟩

set_option maxRecDepth 100000 in
set_option maxHeartbeats 4000000 in
theorem packetOverWalk (w : World) (p : Pkt) (hp : p.fits) (h : Int) (hh : -9223372036854775808 ≤ h ∧ h ≤ 9223372036854775807) (t : Int) (ht : -9223372036854775808 ≤ t ∧ t ≤ 9223372036854775807) (m : Int) (hm : -9223372036854775808 ≤ m ∧ m ≤ 9223372036854775807) (k : Int) (hk : -9223372036854775808 ≤ k ∧ k ≤ 9223372036854775807) :
    Calls Try.prog 6 #[.agg p.cells, .int .i64 h, .int .i64 t, .int .i64 m, .int .i64 k] w fun e w' => e = .returned (.bool true) ∧ Below w.heap.size w w' := by
  have HF : Hid (∀ W, _) := fun W => pktFirst W
  have HL : Hid (∀ W, _) := fun W => lightPacket p W hp
  have HM : Hid (∀ W, _) := fun W => refMayPacket p W hp
  have HV : Hid (∀ h t W, _) := fun h t W => pktOver p h t W
  have hmono := over_mono p h t
  have hnone := over_none ⟨p.sp, p.sc, p.dp, p.dc, p.seq, p.data, 0, 0⟩ h t rfl rfl
  have hmost := over_most p
  have HV0 : Hid (∀ th ta h t W, _) := fun th ta h t W => pktOver ⟨p.sp, p.sc, p.dp, p.dc, p.seq, p.data, th, ta⟩ h t W
  obtain ⟨sp, sc, dp, dc, seq, data, th, ta⟩ := p
  obtain ⟨l1, l2, l3⟩ := hp
  simp only at l1 l2 l3 hnone hmost
  generalize mayPkt ⟨sp, sc, dp, dc, seq, data, th, ta⟩ = b at *
  generalize lightPkt ⟨sp, sc, dp, dc, seq, data, th, ta⟩ = a at *
  show Calls Try.prog 6 #[.agg #[.string ⟨sp.toArray⟩, .int .i64 sc, .string ⟨dp.toArray⟩, .int .i64 dc, .int .i64 seq, .string ⟨data.toArray⟩, .int .i64 th, .int .i64 ta], .int .i64 h, .int .i64 t, .int .i64 m, .int .i64 k] w _
  have hb := (Below.refl w.heap.size w).alloc (Nat.le_refl _) (.cells #[.string ⟨sp.toArray⟩, .int .i64 sc, .string ⟨dp.toArray⟩, .int .i64 dc, .int .i64 seq, .string ⟨data.toArray⟩, .int .i64 th, .int .i64 ta] 35)
  have hB := Blk.new w 35 (Pkt.cells ⟨sp, sc, dp, dc, seq, data, th, ta⟩)
  have hz : w.heap.size < (w.alloc (.cells (Pkt.cells ⟨sp, sc, dp, dc, seq, data, th, ta⟩) 35)).heap.size := by simp
  go_enter Try.func6, Try.ntmps6
  go_wp2_with fail
  refine (HF.out _).mono ?_
  rintro e w1 ⟨rfl, hx⟩
  have hb1 := hb.trans (hx.mono (Nat.le_of_lt hz))
  have hz1 := Nat.lt_of_lt_of_le hz hx.size
  have hB1 := hB.keep hx
  clear hx hb hz hB
  obtain ⟨hc1_0, hc1_1, hc1_2, hc1_3, hc1_4, hc1_5, hc1_6, hc1_7⟩ := hB1.pk
  go_wp2_with fail
  refine (HL.out _).mono ?_
  rintro e w2 ⟨rfl, hx⟩
  have hb2 := hb1.trans (hx.mono (Nat.le_of_lt hz1))
  have hz2 := Nat.lt_of_lt_of_le hz1 hx.size
  have hB2 := hB1.keep hx
  clear hx hb1 hz1 hB1
  obtain ⟨hc2_0, hc2_1, hc2_2, hc2_3, hc2_4, hc2_5, hc2_6, hc2_7⟩ := hB2.pk
  cases a
  · go_wp2_with fail
    refine (HF.out _).mono ?_
    rintro e w3 ⟨rfl, hx⟩
    have hb3 := hb2.trans (hx.mono (Nat.le_of_lt hz2))
    go_wp2_with fail
    go_ret
    exact ⟨rfl, hb3⟩
  go_wp2_with fail
  refine (HM.out _).mono ?_
  rintro e w3 ⟨rfl, hx⟩
  have hb3 := hb2.trans (hx.mono (Nat.le_of_lt hz2))
  have hz3 := Nat.lt_of_lt_of_le hz2 hx.size
  have hB3 := hB2.keep hx
  clear hx hb2 hz2 hB2
  obtain ⟨hc3_0, hc3_1, hc3_2, hc3_3, hc3_4, hc3_5, hc3_6, hc3_7⟩ := hB3.pk
  cases b
  · go_wp2_with fail
    refine (HF.out _).mono ?_
    rintro e w4 ⟨rfl, hx⟩
    have hb4 := hb3.trans (hx.mono (Nat.le_of_lt hz3))
    go_wp2_with fail
    go_ret
    exact ⟨rfl, hb4⟩
  by_cases d0 : (h < 0 : Prop)
  · go_wp2_with fail
    refine (HF.out _).mono ?_
    rintro e w4 ⟨rfl, hx⟩
    have hb4 := hb3.trans (hx.mono (Nat.le_of_lt hz3))
    go_wp2_with fail
    go_ret
    exact ⟨rfl, hb4⟩
  by_cases d1 : (1099511627776 < h : Prop)
  · go_wp2_with fail
    refine (HF.out _).mono ?_
    rintro e w4 ⟨rfl, hx⟩
    have hb4 := hb3.trans (hx.mono (Nat.le_of_lt hz3))
    go_wp2_with fail
    go_ret
    exact ⟨rfl, hb4⟩
  by_cases d2 : (t < 0 : Prop)
  · go_wp2_with fail
    refine (HF.out _).mono ?_
    rintro e w4 ⟨rfl, hx⟩
    have hb4 := hb3.trans (hx.mono (Nat.le_of_lt hz3))
    go_wp2_with fail
    go_ret
    exact ⟨rfl, hb4⟩
  by_cases d3 : (1099511627776 < t : Prop)
  · go_wp2_with fail
    refine (HF.out _).mono ?_
    rintro e w4 ⟨rfl, hx⟩
    have hb4 := hb3.trans (hx.mono (Nat.le_of_lt hz3))
    go_wp2_with fail
    go_ret
    exact ⟨rfl, hb4⟩
  by_cases d4 : (m < 0 : Prop)
  · go_wp2_with fail
    refine (HF.out _).mono ?_
    rintro e w4 ⟨rfl, hx⟩
    have hb4 := hb3.trans (hx.mono (Nat.le_of_lt hz3))
    go_wp2_with fail
    go_ret
    exact ⟨rfl, hb4⟩
  by_cases d5 : (1099511627776 < m : Prop)
  · go_wp2_with fail
    refine (HF.out _).mono ?_
    rintro e w4 ⟨rfl, hx⟩
    have hb4 := hb3.trans (hx.mono (Nat.le_of_lt hz3))
    go_wp2_with fail
    go_ret
    exact ⟨rfl, hb4⟩
  by_cases d6 : (k < 0 : Prop)
  · go_wp2_with fail
    refine (HF.out _).mono ?_
    rintro e w4 ⟨rfl, hx⟩
    have hb4 := hb3.trans (hx.mono (Nat.le_of_lt hz3))
    go_wp2_with fail
    go_ret
    exact ⟨rfl, hb4⟩
  by_cases d7 : (1099511627776 < k : Prop)
  · go_wp2_with fail
    refine (HF.out _).mono ?_
    rintro e w4 ⟨rfl, hx⟩
    have hb4 := hb3.trans (hx.mono (Nat.le_of_lt hz3))
    go_wp2_with fail
    go_ret
    exact ⟨rfl, hb4⟩
  have hsum : IntKind.i64.wrap (h + m) = h + m := IntWalk.i64_in _ (by omega)
  have hsum2 : IntKind.i64.wrap (t + k) = t + k := IntWalk.i64_in _ (by omega)
  go_wp2_with fail
  have hps : PS w ⟨sp, sc, dp, dc, seq, data, th, ta⟩ w3 := ⟨hb3, hz3, hB3⟩
  go_region_held3 (fun W => PS w ⟨sp, sc, dp, dc, seq, data, th, ta⟩ W ∧ W.cell? ⟨w.heap.size, 0, none⟩ = some (.string ⟨sp.toArray⟩) ∧ W.cell? ⟨w.heap.size, 1, none⟩ = some (.int .i64 sc) ∧ W.cell? ⟨w.heap.size, 2, none⟩ = some (.string ⟨dp.toArray⟩) ∧ W.cell? ⟨w.heap.size, 3, none⟩ = some (.int .i64 dc) ∧ W.cell? ⟨w.heap.size, 4, none⟩ = some (.int .i64 seq) ∧ W.cell? ⟨w.heap.size, 5, none⟩ = some (.string ⟨data.toArray⟩) ∧ W.cell? ⟨w.heap.size, 6, none⟩ = some (.int .i64 th) ∧ W.cell? ⟨w.heap.size, 7, none⟩ = some (.int .i64 ta))
    (first | assumption | exact PS.all (PS.drew (by assumption)) | exact PSS.step (by assumption) (by assumption))
    (first | (go_at_call 28; refine (HV.out _ _ _).mono ?_; rintro e w4 ⟨rfl, hx⟩))
  rename_i w4 _ _
  have hps4 : PS w ⟨sp, sc, dp, dc, seq, data, th, ta⟩ w4 := And.left (by assumption)
  have hmn := hmono m k (by omega) (by omega)
  clear hmono
  generalize overPkt ⟨sp, sc, dp, dc, seq, data, th, ta⟩ h t = now at *
  generalize overPkt ⟨sp, sc, dp, dc, seq, data, th, ta⟩ (h + m) (t + k) = later at *
  go_wp2_with fail
  have hpt := PT.new ⟨sp, sc, dp, dc, seq, data, 0, 0⟩ hps4
  have hmost' := hmost trivial
  clear hmost hps4 hps
  have HN := Lib.hid hnone
  have HO := Lib.hid hmost'
  clear hnone hmost'
  have HE : Hid (0 < th ∨ True) := Or.inr trivial
  rcases Bool.eq_false_or_eq_true (decide (0 < th)) with c1 | c1
  all_goals
    rw [c1] at HO
    cases now <;> cases later
  all_goals try (exfalso; revert hmn; simp; done)
  all_goals clear hmn
  all_goals
    refine wp_region_held_drew (S := (fun W => PT w ⟨sp, sc, dp, dc, seq, data, th, ta⟩ ⟨sp, sc, dp, dc, seq, data, 0, 0⟩ w4.heap.size W ∧ W.cell? ⟨w.heap.size, 0, none⟩ = some (.string ⟨sp.toArray⟩) ∧ W.cell? ⟨w.heap.size, 1, none⟩ = some (.int .i64 sc) ∧ W.cell? ⟨w.heap.size, 2, none⟩ = some (.string ⟨dp.toArray⟩) ∧ W.cell? ⟨w.heap.size, 3, none⟩ = some (.int .i64 dc) ∧ W.cell? ⟨w.heap.size, 4, none⟩ = some (.int .i64 seq) ∧ W.cell? ⟨w.heap.size, 5, none⟩ = some (.string ⟨data.toArray⟩) ∧ W.cell? ⟨w.heap.size, 6, none⟩ = some (.int .i64 th) ∧ W.cell? ⟨w.heap.size, 7, none⟩ = some (.int .i64 ta) ∧ W.cell? ⟨w4.heap.size, 0, none⟩ = some (.string ⟨sp.toArray⟩) ∧ W.cell? ⟨w4.heap.size, 1, none⟩ = some (.int .i64 sc) ∧ W.cell? ⟨w4.heap.size, 2, none⟩ = some (.string ⟨dp.toArray⟩) ∧ W.cell? ⟨w4.heap.size, 3, none⟩ = some (.int .i64 dc) ∧ W.cell? ⟨w4.heap.size, 4, none⟩ = some (.int .i64 seq) ∧ W.cell? ⟨w4.heap.size, 5, none⟩ = some (.string ⟨data.toArray⟩) ∧ W.cell? ⟨w4.heap.size, 6, none⟩ = some (.int .i64 0) ∧ W.cell? ⟨w4.heap.size, 7, none⟩ = some (.int .i64 0))) (by kernel_rfl) (PT.all hpt.drew) (fun hHeld => ?_)
    first
    | (refine wpAnyH_take (i := 0) (v := undef) (by (try simp only [List.getElem?_toArray, List.getElem?_cons_succ, List.getElem?_cons_zero]); rfl) (by kernel_rfl) (by kernel_rfl) (by kernel_rfl) (by intro _ _ _ h; exact h) (Or.inr ⟨by rfl, rfl⟩) (by assumption) ?_)
    | (refine wpAnyH_take (i := 0) (v := ?_) (by (try simp only [List.getElem?_toArray, List.getElem?_cons_succ, List.getElem?_cons_zero]); rfl) (by kernel_rfl) (by kernel_rfl) (by kernel_rfl) (by intro _ _ _ h; exact h) (Or.inl ⟨by rfl, ?_⟩) (by assumption) ?_
       rotate_left
       · intro w hSw
         (try dsimp only at hSw)
         go_simp
         try with_reducible rfl)
    try simp only [Act.put, List.setIfInBounds_toArray, List.set_cons_zero, List.set_cons_succ]
    first
    | (refine wpAnyH_take (i := 1) (v := undef) (by (try simp only [List.getElem?_toArray, List.getElem?_cons_succ, List.getElem?_cons_zero]); rfl) (by kernel_rfl) (by kernel_rfl) (by kernel_rfl) (by intro _ _ _ h; exact h) (Or.inr ⟨by rfl, rfl⟩) (by assumption) ?_)
    | (refine wpAnyH_take (i := 1) (v := ?_) (by (try simp only [List.getElem?_toArray, List.getElem?_cons_succ, List.getElem?_cons_zero]); rfl) (by kernel_rfl) (by kernel_rfl) (by kernel_rfl) (by intro _ _ _ h; exact h) (Or.inl ⟨by rfl, ?_⟩) (by assumption) ?_
       rotate_left
       · intro w hSw
         (try dsimp only at hSw)
         go_simp
         try with_reducible rfl)
    try simp only [Act.put, List.setIfInBounds_toArray, List.set_cons_zero, List.set_cons_succ]
    first
    | (refine wpAnyH_take (i := 2) (v := undef) (by (try simp only [List.getElem?_toArray, List.getElem?_cons_succ, List.getElem?_cons_zero]); rfl) (by kernel_rfl) (by kernel_rfl) (by kernel_rfl) (by intro _ _ _ h; exact h) (Or.inr ⟨by rfl, rfl⟩) (by assumption) ?_)
    | (refine wpAnyH_take (i := 2) (v := ?_) (by (try simp only [List.getElem?_toArray, List.getElem?_cons_succ, List.getElem?_cons_zero]); rfl) (by kernel_rfl) (by kernel_rfl) (by kernel_rfl) (by intro _ _ _ h; exact h) (Or.inl ⟨by rfl, ?_⟩) (by assumption) ?_
       rotate_left
       · intro w hSw
         (try dsimp only at hSw)
         go_simp
         try with_reducible rfl)
    try simp only [Act.put, List.setIfInBounds_toArray, List.set_cons_zero, List.set_cons_succ]
    first
    | (refine wpAnyH_take (i := 3) (v := undef) (by (try simp only [List.getElem?_toArray, List.getElem?_cons_succ, List.getElem?_cons_zero]); rfl) (by kernel_rfl) (by kernel_rfl) (by kernel_rfl) (by intro _ _ _ h; exact h) (Or.inr ⟨by rfl, rfl⟩) (by assumption) ?_)
    | (refine wpAnyH_take (i := 3) (v := ?_) (by (try simp only [List.getElem?_toArray, List.getElem?_cons_succ, List.getElem?_cons_zero]); rfl) (by kernel_rfl) (by kernel_rfl) (by kernel_rfl) (by intro _ _ _ h; exact h) (Or.inl ⟨by rfl, ?_⟩) (by assumption) ?_
       rotate_left
       · intro w hSw
         (try dsimp only at hSw)
         go_simp
         try with_reducible rfl)
    try simp only [Act.put, List.setIfInBounds_toArray, List.set_cons_zero, List.set_cons_succ]
    first
    | (refine wpAnyH_take (i := 4) (v := undef) (by (try simp only [List.getElem?_toArray, List.getElem?_cons_succ, List.getElem?_cons_zero]); rfl) (by kernel_rfl) (by kernel_rfl) (by kernel_rfl) (by intro _ _ _ h; exact h) (Or.inr ⟨by rfl, rfl⟩) (by assumption) ?_)
    | (refine wpAnyH_take (i := 4) (v := ?_) (by (try simp only [List.getElem?_toArray, List.getElem?_cons_succ, List.getElem?_cons_zero]); rfl) (by kernel_rfl) (by kernel_rfl) (by kernel_rfl) (by intro _ _ _ h; exact h) (Or.inl ⟨by rfl, ?_⟩) (by assumption) ?_
       rotate_left
       · intro w hSw
         (try dsimp only at hSw)
         go_simp
         try with_reducible rfl)
    try simp only [Act.put, List.setIfInBounds_toArray, List.set_cons_zero, List.set_cons_succ]
    first
    | (refine wpAnyH_take (i := 5) (v := undef) (by (try simp only [List.getElem?_toArray, List.getElem?_cons_succ, List.getElem?_cons_zero]); rfl) (by kernel_rfl) (by kernel_rfl) (by kernel_rfl) (by intro _ _ _ h; exact h) (Or.inr ⟨by rfl, rfl⟩) (by assumption) ?_)
    | (refine wpAnyH_take (i := 5) (v := ?_) (by (try simp only [List.getElem?_toArray, List.getElem?_cons_succ, List.getElem?_cons_zero]); rfl) (by kernel_rfl) (by kernel_rfl) (by kernel_rfl) (by intro _ _ _ h; exact h) (Or.inl ⟨by rfl, ?_⟩) (by assumption) ?_
       rotate_left
       · intro w hSw
         (try dsimp only at hSw)
         go_simp
         try with_reducible rfl)
    try simp only [Act.put, List.setIfInBounds_toArray, List.set_cons_zero, List.set_cons_succ]
    first
    | (refine wpAnyH_take (i := 6) (v := undef) (by (try simp only [List.getElem?_toArray, List.getElem?_cons_succ, List.getElem?_cons_zero]); rfl) (by kernel_rfl) (by kernel_rfl) (by kernel_rfl) (by intro _ _ _ h; exact h) (Or.inr ⟨by rfl, rfl⟩) (by assumption) ?_)
    | (refine wpAnyH_take (i := 6) (v := ?_) (by (try simp only [List.getElem?_toArray, List.getElem?_cons_succ, List.getElem?_cons_zero]); rfl) (by kernel_rfl) (by kernel_rfl) (by kernel_rfl) (by intro _ _ _ h; exact h) (Or.inl ⟨by rfl, ?_⟩) (by assumption) ?_
       rotate_left
       · intro w hSw
         (try dsimp only at hSw)
         go_simp
         try with_reducible rfl)
    try simp only [Act.put, List.setIfInBounds_toArray, List.set_cons_zero, List.set_cons_succ]
    first
    | (refine wpAnyH_take (i := 7) (v := undef) (by (try simp only [List.getElem?_toArray, List.getElem?_cons_succ, List.getElem?_cons_zero]); rfl) (by kernel_rfl) (by kernel_rfl) (by kernel_rfl) (by intro _ _ _ h; exact h) (Or.inr ⟨by rfl, rfl⟩) (by assumption) ?_)
    | (refine wpAnyH_take (i := 7) (v := ?_) (by (try simp only [List.getElem?_toArray, List.getElem?_cons_succ, List.getElem?_cons_zero]); rfl) (by kernel_rfl) (by kernel_rfl) (by kernel_rfl) (by intro _ _ _ h; exact h) (Or.inl ⟨by rfl, ?_⟩) (by assumption) ?_
       rotate_left
       · intro w hSw
         (try dsimp only at hSw)
         go_simp
         try with_reducible rfl)
    try simp only [Act.put, List.setIfInBounds_toArray, List.set_cons_zero, List.set_cons_succ]
    first
    | (refine wpAnyH_take (i := 8) (v := undef) (by (try simp only [List.getElem?_toArray, List.getElem?_cons_succ, List.getElem?_cons_zero]); rfl) (by kernel_rfl) (by kernel_rfl) (by kernel_rfl) (by intro _ _ _ h; exact h) (Or.inr ⟨by rfl, rfl⟩) (by assumption) ?_)
    | (refine wpAnyH_take (i := 8) (v := ?_) (by (try simp only [List.getElem?_toArray, List.getElem?_cons_succ, List.getElem?_cons_zero]); rfl) (by kernel_rfl) (by kernel_rfl) (by kernel_rfl) (by intro _ _ _ h; exact h) (Or.inl ⟨by rfl, ?_⟩) (by assumption) ?_
       rotate_left
       · intro w hSw
         (try dsimp only at hSw)
         go_simp
         try with_reducible rfl)
    try simp only [Act.put, List.setIfInBounds_toArray, List.set_cons_zero, List.set_cons_succ]
    refine wpAnyH_ready (rs := [9]) (by kernel_rfl) (by simp) ?_
    refine AllReadyH.cons (by (try simp only [List.getElem?_toArray, List.getElem?_cons_succ, List.getElem?_cons_zero]); rfl) (fun K hK => ?_) AllReadyH.nil
    go_simp
    go_at_call 28
    refine (HV0.out _ _ _ _ _).mono ?_
    rintro e w5 ⟨he, hx⟩
    (try rw [HN.out] at he)
    (try rw [HO.out] at he)
    subst he
    go_wp2_with fail
    refine hK.out _ _ (PTT.step (by assumption) hx) (fun hHeld => ?_)
    clear hK K
    try simp only [Act.put, List.setIfInBounds_toArray, List.set_cons_zero, List.set_cons_succ]
    first
    | (refine wpAnyH_take (i := 10) (v := undef) (by (try simp only [List.getElem?_toArray, List.getElem?_cons_succ, List.getElem?_cons_zero]); rfl) (by kernel_rfl) (by kernel_rfl) (by kernel_rfl) (by intro _ _ _ h; exact h) (Or.inr ⟨by rfl, rfl⟩) (by assumption) ?_)
    | (refine wpAnyH_take (i := 10) (v := ?_) (by (try simp only [List.getElem?_toArray, List.getElem?_cons_succ, List.getElem?_cons_zero]); rfl) (by kernel_rfl) (by kernel_rfl) (by kernel_rfl) (by intro _ _ _ h; exact h) (Or.inl ⟨by rfl, ?_⟩) (by assumption) ?_
       rotate_left
       · intro w hSw
         (try dsimp only at hSw)
         go_simp
         try with_reducible rfl)
    try simp only [Act.put, List.setIfInBounds_toArray, List.set_cons_zero, List.set_cons_succ]
    first
    | (refine wpAnyH_take (i := 11) (v := undef) (by (try simp only [List.getElem?_toArray, List.getElem?_cons_succ, List.getElem?_cons_zero]); rfl) (by kernel_rfl) (by kernel_rfl) (by kernel_rfl) (by intro _ _ _ h; exact h) (Or.inr ⟨by rfl, rfl⟩) (by assumption) ?_)
    | (refine wpAnyH_take (i := 11) (v := ?_) (by (try simp only [List.getElem?_toArray, List.getElem?_cons_succ, List.getElem?_cons_zero]); rfl) (by kernel_rfl) (by kernel_rfl) (by kernel_rfl) (by intro _ _ _ h; exact h) (Or.inl ⟨by rfl, ?_⟩) (by assumption) ?_
       rotate_left
       · intro w hSw
         (try dsimp only at hSw)
         go_simp
         try with_reducible rfl)
    try simp only [Act.put, List.setIfInBounds_toArray, List.set_cons_zero, List.set_cons_succ]
    first
    | (refine wpAnyH_take (i := 12) (v := undef) (by (try simp only [List.getElem?_toArray, List.getElem?_cons_succ, List.getElem?_cons_zero]); rfl) (by kernel_rfl) (by kernel_rfl) (by kernel_rfl) (by intro _ _ _ h; exact h) (Or.inr ⟨by rfl, rfl⟩) (by assumption) ?_)
    | (refine wpAnyH_take (i := 12) (v := ?_) (by (try simp only [List.getElem?_toArray, List.getElem?_cons_succ, List.getElem?_cons_zero]); rfl) (by kernel_rfl) (by kernel_rfl) (by kernel_rfl) (by intro _ _ _ h; exact h) (Or.inl ⟨by rfl, ?_⟩) (by assumption) ?_
       rotate_left
       · intro w hSw
         (try dsimp only at hSw)
         go_simp
         try with_reducible rfl)
    try simp only [Act.put, List.setIfInBounds_toArray, List.set_cons_zero, List.set_cons_succ]
    first
    | (refine wpAnyH_take (i := 13) (v := undef) (by (try simp only [List.getElem?_toArray, List.getElem?_cons_succ, List.getElem?_cons_zero]); rfl) (by kernel_rfl) (by kernel_rfl) (by kernel_rfl) (by intro _ _ _ h; exact h) (Or.inr ⟨by rfl, rfl⟩) (by assumption) ?_)
    | (refine wpAnyH_take (i := 13) (v := ?_) (by (try simp only [List.getElem?_toArray, List.getElem?_cons_succ, List.getElem?_cons_zero]); rfl) (by kernel_rfl) (by kernel_rfl) (by kernel_rfl) (by intro _ _ _ h; exact h) (Or.inl ⟨by rfl, ?_⟩) (by assumption) ?_
       rotate_left
       · intro w hSw
         (try dsimp only at hSw)
         go_simp
         try with_reducible rfl)
    try simp only [Act.put, List.setIfInBounds_toArray, List.set_cons_zero, List.set_cons_succ]
    first
    | (refine wpAnyH_take (i := 15) (v := undef) (by (try simp only [List.getElem?_toArray, List.getElem?_cons_succ, List.getElem?_cons_zero]); rfl) (by kernel_rfl) (by kernel_rfl) (by kernel_rfl) (by intro _ _ _ h; exact h) (Or.inr ⟨by rfl, rfl⟩) (by assumption) ?_)
    | (refine wpAnyH_take (i := 15) (v := ?_) (by (try simp only [List.getElem?_toArray, List.getElem?_cons_succ, List.getElem?_cons_zero]); rfl) (by kernel_rfl) (by kernel_rfl) (by kernel_rfl) (by intro _ _ _ h; exact h) (Or.inl ⟨by rfl, ?_⟩) (by assumption) ?_
       rotate_left
       · intro w hSw
         (try dsimp only at hSw)
         go_simp
         try with_reducible rfl)
    try simp only [Act.put, List.setIfInBounds_toArray, List.set_cons_zero, List.set_cons_succ]
    first
    | (refine wpAnyH_take (i := 16) (v := undef) (by (try simp only [List.getElem?_toArray, List.getElem?_cons_succ, List.getElem?_cons_zero]); rfl) (by kernel_rfl) (by kernel_rfl) (by kernel_rfl) (by intro _ _ _ h; exact h) (Or.inr ⟨by rfl, rfl⟩) (by assumption) ?_)
    | (refine wpAnyH_take (i := 16) (v := ?_) (by (try simp only [List.getElem?_toArray, List.getElem?_cons_succ, List.getElem?_cons_zero]); rfl) (by kernel_rfl) (by kernel_rfl) (by kernel_rfl) (by intro _ _ _ h; exact h) (Or.inl ⟨by rfl, ?_⟩) (by assumption) ?_
       rotate_left
       · intro w hSw
         (try dsimp only at hSw)
         go_simp
         try with_reducible rfl)
    try simp only [Act.put, List.setIfInBounds_toArray, List.set_cons_zero, List.set_cons_succ]
    first
    | (refine wpAnyH_take (i := 17) (v := undef) (by (try simp only [List.getElem?_toArray, List.getElem?_cons_succ, List.getElem?_cons_zero]); rfl) (by kernel_rfl) (by kernel_rfl) (by kernel_rfl) (by intro _ _ _ h; exact h) (Or.inr ⟨by rfl, rfl⟩) (by assumption) ?_)
    | (refine wpAnyH_take (i := 17) (v := ?_) (by (try simp only [List.getElem?_toArray, List.getElem?_cons_succ, List.getElem?_cons_zero]); rfl) (by kernel_rfl) (by kernel_rfl) (by kernel_rfl) (by intro _ _ _ h; exact h) (Or.inl ⟨by rfl, ?_⟩) (by assumption) ?_
       rotate_left
       · intro w hSw
         (try dsimp only at hSw)
         go_simp
         try with_reducible rfl)
    try simp only [Act.put, List.setIfInBounds_toArray, List.set_cons_zero, List.set_cons_succ]
    refine wpAnyH_ready (rs := [14]) (by kernel_rfl) (by simp) ?_
    refine AllReadyH.cons (by (try simp only [List.getElem?_toArray, List.getElem?_cons_succ, List.getElem?_cons_zero]); rfl) (fun K hK => ?_) AllReadyH.nil
    go_simp
    go_at_call 28
    refine (HV0.out _ _ _ _ _).mono ?_
    rintro e w5 ⟨he, hx⟩
    (try rw [HN.out] at he)
    (try rw [HO.out] at he)
    subst he
    go_wp2_with fail
    refine hK.out _ _ (PTT.step (by assumption) hx) (fun hHeld => ?_)
    clear hK K
    try simp only [Act.put, List.setIfInBounds_toArray, List.set_cons_zero, List.set_cons_succ]
    first
    | (refine wpAnyH_take (i := 18) (v := undef) (by (try simp only [List.getElem?_toArray, List.getElem?_cons_succ, List.getElem?_cons_zero]); rfl) (by kernel_rfl) (by kernel_rfl) (by kernel_rfl) (by intro _ _ _ h; exact h) (Or.inr ⟨by rfl, rfl⟩) (by assumption) ?_)
    | (refine wpAnyH_take (i := 18) (v := ?_) (by (try simp only [List.getElem?_toArray, List.getElem?_cons_succ, List.getElem?_cons_zero]); rfl) (by kernel_rfl) (by kernel_rfl) (by kernel_rfl) (by intro _ _ _ h; exact h) (Or.inl ⟨by rfl, ?_⟩) (by assumption) ?_
       rotate_left
       · intro w hSw
         (try dsimp only at hSw)
         go_simp
         try with_reducible rfl)
    try simp only [Act.put, List.setIfInBounds_toArray, List.set_cons_zero, List.set_cons_succ]
    first
    | (refine wpAnyH_take (i := 19) (v := undef) (by (try simp only [List.getElem?_toArray, List.getElem?_cons_succ, List.getElem?_cons_zero]); rfl) (by kernel_rfl) (by kernel_rfl) (by kernel_rfl) (by intro _ _ _ h; exact h) (Or.inr ⟨by rfl, rfl⟩) (by assumption) ?_)
    | (refine wpAnyH_take (i := 19) (v := ?_) (by (try simp only [List.getElem?_toArray, List.getElem?_cons_succ, List.getElem?_cons_zero]); rfl) (by kernel_rfl) (by kernel_rfl) (by kernel_rfl) (by intro _ _ _ h; exact h) (Or.inl ⟨by rfl, ?_⟩) (by assumption) ?_
       rotate_left
       · intro w hSw
         (try dsimp only at hSw)
         go_simp
         try with_reducible rfl)
    try simp only [Act.put, List.setIfInBounds_toArray, List.set_cons_zero, List.set_cons_succ]
    first
    | (refine wpAnyH_take (i := 20) (v := undef) (by (try simp only [List.getElem?_toArray, List.getElem?_cons_succ, List.getElem?_cons_zero]); rfl) (by kernel_rfl) (by kernel_rfl) (by kernel_rfl) (by intro _ _ _ h; exact h) (Or.inr ⟨by rfl, rfl⟩) (by assumption) ?_)
    | (refine wpAnyH_take (i := 20) (v := ?_) (by (try simp only [List.getElem?_toArray, List.getElem?_cons_succ, List.getElem?_cons_zero]); rfl) (by kernel_rfl) (by kernel_rfl) (by kernel_rfl) (by intro _ _ _ h; exact h) (Or.inl ⟨by rfl, ?_⟩) (by assumption) ?_
       rotate_left
       · intro w hSw
         (try dsimp only at hSw)
         go_simp
         try with_reducible rfl)
    try simp only [Act.put, List.setIfInBounds_toArray, List.set_cons_zero, List.set_cons_succ]
    first
    | (refine wpAnyH_take (i := 21) (v := undef) (by (try simp only [List.getElem?_toArray, List.getElem?_cons_succ, List.getElem?_cons_zero]); rfl) (by kernel_rfl) (by kernel_rfl) (by kernel_rfl) (by intro _ _ _ h; exact h) (Or.inr ⟨by rfl, rfl⟩) (by assumption) ?_)
    | (refine wpAnyH_take (i := 21) (v := ?_) (by (try simp only [List.getElem?_toArray, List.getElem?_cons_succ, List.getElem?_cons_zero]); rfl) (by kernel_rfl) (by kernel_rfl) (by kernel_rfl) (by intro _ _ _ h; exact h) (Or.inl ⟨by rfl, ?_⟩) (by assumption) ?_
       rotate_left
       · intro w hSw
         (try dsimp only at hSw)
         go_simp
         try with_reducible rfl)
    try simp only [Act.put, List.setIfInBounds_toArray, List.set_cons_zero, List.set_cons_succ]
    first
    | (refine wpAnyH_take (i := 22) (v := undef) (by (try simp only [List.getElem?_toArray, List.getElem?_cons_succ, List.getElem?_cons_zero]); rfl) (by kernel_rfl) (by kernel_rfl) (by kernel_rfl) (by intro _ _ _ h; exact h) (Or.inr ⟨by rfl, rfl⟩) (by assumption) ?_)
    | (refine wpAnyH_take (i := 22) (v := ?_) (by (try simp only [List.getElem?_toArray, List.getElem?_cons_succ, List.getElem?_cons_zero]); rfl) (by kernel_rfl) (by kernel_rfl) (by kernel_rfl) (by intro _ _ _ h; exact h) (Or.inl ⟨by rfl, ?_⟩) (by assumption) ?_
       rotate_left
       · intro w hSw
         (try dsimp only at hSw)
         go_simp
         try with_reducible rfl)
    try simp only [Act.put, List.setIfInBounds_toArray, List.set_cons_zero, List.set_cons_succ]
    first
    | (refine wpAnyH_take (i := 23) (v := undef) (by (try simp only [List.getElem?_toArray, List.getElem?_cons_succ, List.getElem?_cons_zero]); rfl) (by kernel_rfl) (by kernel_rfl) (by kernel_rfl) (by intro _ _ _ h; exact h) (Or.inr ⟨by rfl, rfl⟩) (by assumption) ?_)
    | (refine wpAnyH_take (i := 23) (v := ?_) (by (try simp only [List.getElem?_toArray, List.getElem?_cons_succ, List.getElem?_cons_zero]); rfl) (by kernel_rfl) (by kernel_rfl) (by kernel_rfl) (by intro _ _ _ h; exact h) (Or.inl ⟨by rfl, ?_⟩) (by assumption) ?_
       rotate_left
       · intro w hSw
         (try dsimp only at hSw)
         go_simp
         try with_reducible rfl)
    try simp only [Act.put, List.setIfInBounds_toArray, List.set_cons_zero, List.set_cons_succ]
    first
    | (refine wpAnyH_take (i := 24) (v := undef) (by (try simp only [List.getElem?_toArray, List.getElem?_cons_succ, List.getElem?_cons_zero]); rfl) (by kernel_rfl) (by kernel_rfl) (by kernel_rfl) (by intro _ _ _ h; exact h) (Or.inr ⟨by rfl, rfl⟩) (by assumption) ?_)
    | (refine wpAnyH_take (i := 24) (v := ?_) (by (try simp only [List.getElem?_toArray, List.getElem?_cons_succ, List.getElem?_cons_zero]); rfl) (by kernel_rfl) (by kernel_rfl) (by kernel_rfl) (by intro _ _ _ h; exact h) (Or.inl ⟨by rfl, ?_⟩) (by assumption) ?_
       rotate_left
       · intro w hSw
         (try dsimp only at hSw)
         go_simp
         try with_reducible rfl)
    try simp only [Act.put, List.setIfInBounds_toArray, List.set_cons_zero, List.set_cons_succ]
    first
    | (refine wpAnyH_take (i := 25) (v := undef) (by (try simp only [List.getElem?_toArray, List.getElem?_cons_succ, List.getElem?_cons_zero]); rfl) (by kernel_rfl) (by kernel_rfl) (by kernel_rfl) (by intro _ _ _ h; exact h) (Or.inr ⟨by rfl, rfl⟩) (by assumption) ?_)
    | (refine wpAnyH_take (i := 25) (v := ?_) (by (try simp only [List.getElem?_toArray, List.getElem?_cons_succ, List.getElem?_cons_zero]); rfl) (by kernel_rfl) (by kernel_rfl) (by kernel_rfl) (by intro _ _ _ h; exact h) (Or.inl ⟨by rfl, ?_⟩) (by assumption) ?_
       rotate_left
       · intro w hSw
         (try dsimp only at hSw)
         go_simp
         try with_reducible rfl)
    try simp only [Act.put, List.setIfInBounds_toArray, List.set_cons_zero, List.set_cons_succ]
    refine wpAnyH_done (by kernel_rfl) ?_ _
  all_goals
    have hpt5 := hHeld.1
    go_wp2_with fail
    go_ret
    exact ⟨ret_bool (by simp [c1]), hpt5.1.1⟩
end Go.Proofs.Ytfchejgohegbgaa
