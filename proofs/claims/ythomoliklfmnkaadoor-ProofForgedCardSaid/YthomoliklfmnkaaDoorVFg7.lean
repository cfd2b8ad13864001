/- ProofForged: what a law's call answers. -/
import Derived.Test.YthomoliklfmnkaaDoorM39
namespace Go.Proofs.YthomoliklfmnkaaDoor
open Go.RowKit
set_option linter.unusedVariables false
theorem proofForgedWalk (w : World) (hk : ∀ i, i < 64 → w.cell? ⟨0, i, none⟩ = some (.int .u32 (Sha.kOf i))) (p : Option Addr) (cap : Nat) (ls : List Vx.PP) (hs : SlIn w p 2 cap (ls.map Vx.prVals)) (s : ByteArray) (hs2 : s.size ≤ maxLen) (l : List Value) (c : Int) (L : List Vx.PLeaf) (hm : PfIn w l c L) :
    Calls Tryd.prog 5 #[.slice p ls.length cap, .string s, .agg l.toArray] w fun e w' => e = .returned (.bool true) ∧ Below w.heap.size w w' := by
  obtain ⟨b, rfl, hl⟩ := bytesOf s hs2
  obtain ⟨q, hq, gd⟩ := prs_good hs
  rw [← hq]
  obtain ⟨q', hq', r2⟩ := Vx.Rel.addLeaves (Vx.Rel.addV (Vx.relGlob hk) 46 gd) hm.sh
  have d' : Vx.CV.den [⟨0, undef, 0⟩, q, q'] (.row 2) = some hm.v := Vx.leaves_den hm.sh hq'
  refine Calls.mono (Vx.proofForgedP.run [.c (.row 1), .c (.str b), .agg [.int .i64 c, .row 2]] [.glob 0 1 64 (fun i => [.int .u32 (Sha.kOf i)]), .elems 46 2 ls.length (Vx.prG ls), .data false 115 4 L.length (Vx.leafG false L)] _ _ _ rfl ⟨Vx.ksAt_self, ⟨rfl, rfl, Vx.prAt_prG _ _⟩, Vx.leavesAt0_in hm.raw, by rw [Vx.leafL_in hm.raw]; exact hm.raw⟩ [⟨0, undef, 0⟩, q, q'] w _ r2
    ⟨_, _, rfl, (by obtain ⟨a', cap', e, _⟩ := gd.sl; simp [Vx.SV.is, Vx.CV.den, e, Vx.one] : Vx.SV.is [⟨0, undef, 0⟩, q, q'] (.c (.row 1)) q.v), _, _, rfl, rfl, _, _, rfl, ⟨l, by rw [hm.cells]; exact Vx.IsL.cons rfl (Vx.IsL.cons d' (Vx.IsL.nil _)), rfl⟩, rfl⟩) fun e W' he => ?_
  obtain ⟨u, ρ', rfl, hu, hr⟩ := he
  obtain rfl : .bool true = u := Option.some.inj hu
  exact ⟨rfl, Vx.Rel.toBelow hr⟩
end Go.Proofs.YthomoliklfmnkaaDoor
