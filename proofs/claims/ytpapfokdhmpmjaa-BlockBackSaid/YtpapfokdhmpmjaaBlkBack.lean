/- The law BlockBack at the values that come in. -/
import Derived.Test.YtpapfokdhmpmjaaOpenBlk
import Derived.Test.YtpapfokdhmpmjaaVBlk5
namespace Go.Proofs.Ytpapfokdhmpmjaa
open Go.ChangeShapes Go.WideShapes Go.ChangeAt Go.RowKit
set_option linter.unusedVariables false
theorem blockBackWalk (w : World) {v : Value} (b : BlIn w v) (s : ByteArray) (hs : s.size ≤ maxLen) (i : Int) (hi : -9223372036854775808 ≤ i ∧ i ≤ 9223372036854775807) :
    Calls Try.prog 7 #[v, .string s, .int .i64 i] w fun e w' => e = .returned (.bool true) ∧ Below w.heap.size w w' := by
  obtain ⟨l, rfl, hl⟩ := bytesOf s hs
  obtain ⟨c, ht, tm, a, cap, xs, rfl, hc, hn, hE⟩ := b
  obtain ⟨p, hp, g⟩ := Vx.EvsIn.good (cap := cap) hE
  rw [← hp]
  refine Calls.mono (Vx.blBackP.run [.agg [.str c, .int .i64 ht, .int .i64 tm, .row 0], .c (.str l), .c (.int .i64 i)] [(xs.length, fun i => Vx.evC (xs.getD i zeroEv))] _ _ rfl ⟨⟨hc, hE.at_, hn⟩, hl, hi⟩ w [p] _ (Vx.GoodL.cons g (Vx.GoodL.nil _ _))
    ⟨_, _, rfl, ⟨[.string ⟨c.toArray⟩, .int .i64 ht, .int .i64 tm, p.v], by
      obtain ⟨a', cap', e, _⟩ := g.sl
      simp [Vx.IsL, Vx.CV.den, e, Vx.one], rfl⟩, _, _, rfl, rfl, _, _, rfl, rfl, rfl⟩) fun e W' he => ?_
  obtain ⟨u, rfl, h, hb⟩ := he
  obtain rfl : .bool true = u := Option.some.inj h
  exact ⟨rfl, hb⟩
end Go.Proofs.Ytpapfokdhmpmjaa
