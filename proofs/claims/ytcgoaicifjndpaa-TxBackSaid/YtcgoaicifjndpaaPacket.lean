/- Packets: what May, Over, Same and LightPacket return. -/
import Derived.Test.YtcgoaicifjndpaaM21
namespace Go.Proofs.Ytcgoaicifjndpaa
open Go.RowKit
set_option linter.unusedVariables false

structure Pkt where
  sp : List UInt8
  sc : Int
  dp : List UInt8
  dc : Int
  seq : Int
  data : List UInt8
  th : Int
  ta : Int

@[reducible] def Pkt.cells (p : Pkt) : Array Value := #[.string ⟨p.sp.toArray⟩, .int .i64 p.sc, .string ⟨p.dp.toArray⟩, .int .i64 p.dc, .int .i64 p.seq, .string ⟨p.data.toArray⟩, .int .i64 p.th, .int .i64 p.ta]

/-- The strings are no longer than strings can be. -/
structure Pkt.fits (p : Pkt) : Prop where
  sp : p.sp.length ≤ 9223372036854775807
  dp : p.dp.length ≤ 9223372036854775807
  data : p.data.length ≤ 9223372036854775807

def between (v a b : Int) : Bool := decide (a ≤ v ∧ v ≤ b)
def mayPkt (p : Pkt) : Bool :=
  mayEnd p.sp p.sc && mayEnd p.dp p.dc && between p.seq 1 1099511627776 && decide (p.data.length ≤ 200) && between p.th 0 1099511627776 && between p.ta 0 1099511627776
def lightPkt (p : Pkt) : Bool := decide (p.sp.length ≤ 60 ∧ p.dp.length ≤ 60 ∧ p.data.length ≤ 600)

set_option maxRecDepth 100000 in
set_option maxHeartbeats 1000000 in
theorem pktBetween (v a b : Int) (w : World) : Calls Try.prog 153 #[.int .i64 v, .int .i64 a, .int .i64 b] w fun e w' => e = .returned (.bool (between v a b)) ∧ w = w' := by
  have H : Hid (between v a b = decide (a ≤ v ∧ v ≤ b)) := rfl
  generalize between v a b = r at *
  by_cases h1 : a ≤ v
  · by_cases h2 : v ≤ b
    all_goals
      go_enter Try.func153, Try.ntmps153
      go_wp2_with fail
      go_ret
      exact ⟨ret_bool (by rw [H.out]; simp; omega), rfl⟩
  · skip
    go_enter Try.func153, Try.ntmps153
    go_wp2_with fail
    go_ret
    exact ⟨ret_bool (by rw [H.out]; simp; omega), rfl⟩

set_option maxRecDepth 100000 in
set_option maxHeartbeats 1000000 in
theorem lightPacket (p : Pkt) (w : World) (hp : p.fits) : Calls Try.prog 99 #[.agg p.cells] w fun e w' => e = .returned (.bool (lightPkt p)) ∧ Below w.heap.size w w' := by
  obtain ⟨sp, sc, dp, dc, seq, data, th, ta⟩ := p
  obtain ⟨h1, h2, h3⟩ := hp
  simp only at h1 h2 h3
  have H : Hid (lightPkt ⟨sp, sc, dp, dc, seq, data, th, ta⟩ = decide (sp.length ≤ 60 ∧ dp.length ≤ 60 ∧ data.length ≤ 600)) := rfl
  generalize lightPkt ⟨sp, sc, dp, dc, seq, data, th, ta⟩ = r at *
  show Calls Try.prog 99 #[.agg #[.string ⟨sp.toArray⟩, .int .i64 sc, .string ⟨dp.toArray⟩, .int .i64 dc, .int .i64 seq, .string ⟨data.toArray⟩, .int .i64 th, .int .i64 ta]] w _
  by_cases c1 : (sp.length : Int) ≤ 60
  · by_cases c2 : (dp.length : Int) ≤ 60
    · by_cases c3 : (data.length : Int) ≤ 600
      all_goals
        go_enter Try.func99, Try.ntmps99
        go_wp2_with fail
        go_ret
        exact ⟨ret_bool (by rw [H.out]; simp; omega), (Below.refl _ _).alloc (Nat.le_refl _) _⟩
    · skip
      go_enter Try.func99, Try.ntmps99
      go_wp2_with fail
      go_ret
      exact ⟨ret_bool (by rw [H.out]; simp; omega), (Below.refl _ _).alloc (Nat.le_refl _) _⟩
  · skip
    go_enter Try.func99, Try.ntmps99
    go_wp2_with fail
    go_ret
    exact ⟨ret_bool (by rw [H.out]; simp; omega), (Below.refl _ _).alloc (Nat.le_refl _) _⟩

set_option maxRecDepth 100000 in
set_option maxHeartbeats 2000000 in
theorem packetMay (p : Pkt) (w : World) (hp : p.fits) : Calls Try.prog 103 #[.agg p.cells] w fun e w' => e = .returned (.bool (mayPkt p)) ∧ Below w.heap.size w w' := by
  obtain ⟨sp, sc, dp, dc, seq, data, th, ta⟩ := p
  obtain ⟨l1, l2, l3⟩ := hp
  simp only at l1 l2 l3
  have H : Hid (mayPkt ⟨sp, sc, dp, dc, seq, data, th, ta⟩ = (mayEnd sp sc && mayEnd dp dc && between seq 1 1099511627776 && decide (data.length ≤ 200) && between th 0 1099511627776 && between ta 0 1099511627776)) := rfl
  have H1 : Hid (∀ W, _) := fun W => pathMay sp sc W l1
  have H2 : Hid (∀ W, _) := fun W => pathMay dp dc W l2
  generalize mayEnd sp sc = a at *
  generalize mayEnd dp dc = b at *
  generalize mayPkt ⟨sp, sc, dp, dc, seq, data, th, ta⟩ = r at *
  show Calls Try.prog 103 #[.agg #[.string ⟨sp.toArray⟩, .int .i64 sc, .string ⟨dp.toArray⟩, .int .i64 dc, .int .i64 seq, .string ⟨data.toArray⟩, .int .i64 th, .int .i64 ta]] w _
  have hb := Below.refl w.heap.size w
  have hB := Blk.new w 69 #[.string ⟨sp.toArray⟩, .int .i64 sc, .string ⟨dp.toArray⟩, .int .i64 dc, .int .i64 seq, .string ⟨data.toArray⟩, .int .i64 th, .int .i64 ta]
  replace hb := hb.alloc (Nat.le_refl _) (.cells #[.string ⟨sp.toArray⟩, .int .i64 sc, .string ⟨dp.toArray⟩, .int .i64 dc, .int .i64 seq, .string ⟨data.toArray⟩, .int .i64 th, .int .i64 ta] 69)
  go_enter Try.func103, Try.ntmps103
  go_wp2_with fail
  refine (H1.out _).mono ?_
  rintro e w2 ⟨rfl, hx⟩
  replace hb := hb.trans (hx.mono (by simp))
  have hk := hB.keep hx
  obtain ⟨hc, hf⟩ := bcell hx
  have hz0 := hx.size
  have hz : w.heap.size < w2.heap.size := by simp at hz0; omega
  clear hx hB hz0
  have hH : Hid (Below w.heap.size w w2) := hb
  cases a
  · go_wp2_with (go_at_call 153; refine (pktBetween _ _ _ _).mono ?_; rintro e w4 ⟨rfl, rfl⟩)
    all_goals
      go_ret
      exact ⟨ret_bool (by rw [H.out]; simp), hH.out⟩
  · go_wp2_with fail
    refine (H2.out _).mono ?_
    rintro e w3 ⟨rfl, hx⟩
    obtain ⟨hc3, hf3⟩ := bcell hx
    have hH3 : Hid (Below w.heap.size w w3) := hb.trans (hx.mono (by omega))
    clear hx
    cases b
    · go_wp2_with (go_at_call 153; refine (pktBetween _ _ _ _).mono ?_; rintro e w4 ⟨rfl, rfl⟩)
      all_goals
        go_ret
        exact ⟨ret_bool (by rw [H.out]; simp), hH3.out⟩
    · go_wp2_with (go_at_call 153; refine (pktBetween _ _ _ _).mono ?_; rintro e w4 ⟨rfl, rfl⟩)
      all_goals
        go_ret
        refine ⟨ret_bool ?_, hH3.out⟩
        rw [H.out]
        first | rfl | (simp [*]; done) | (simp [*]; omega) | (unfold between; simp [*]; done) | (unfold between; simp [*]; omega)


end Go.Proofs.Ytcgoaicifjndpaa
