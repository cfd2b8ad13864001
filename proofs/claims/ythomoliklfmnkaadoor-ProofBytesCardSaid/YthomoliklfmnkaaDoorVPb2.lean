/- ProofBytes: what a law's call answers. -/
import Derived.Test.YthomoliklfmnkaaDoorM40
namespace Go.Proofs.YthomoliklfmnkaaDoor
open Go.RowKit
set_option linter.unusedVariables false
theorem proofBytesWalk (w : World) (hk : ∀ i, i < 64 → w.cell? ⟨0, i, none⟩ = some (.int .u32 (Sha.kOf i))) (l : List Value) (c : Int) (L : List Vx.PLeaf) (hm : PfIn w l c L) (l2 : List Value) (c2 : Int) (L2 : List Vx.PLeaf) (hm2 : PfIn w l2 c2 L2) (s : ByteArray) (hs2 : s.size ≤ maxLen) :
    Calls Tryd.prog 10 #[.agg l.toArray, .agg l2.toArray, .string s] w fun e w' => e = .returned (.bool true) ∧ Below w.heap.size w w' := by
  obtain ⟨b, rfl, hl⟩ := bytesOf s hs2
  obtain ⟨q, hq, r1⟩ := Vx.Rel.addLeaves (Vx.relGlob hk) hm.sh
  obtain ⟨q', hq', r2⟩ := Vx.Rel.addLeaves r1 hm2.sh
  have d : Vx.CV.den [⟨0, undef, 0⟩, q, q'] (.row 1) = some hm.v := Vx.leaves_den hm.sh hq
  have d' : Vx.CV.den [⟨0, undef, 0⟩, q, q'] (.row 2) = some hm2.v := Vx.leaves_den hm2.sh hq'
  refine Calls.mono (Vx.proofBytesP.run [.agg [.int .i64 c, .row 1], .agg [.int .i64 c2, .row 2], .c (.str b)] [.glob 0 1 64 (fun i => [.int .u32 (Sha.kOf i)]), .data false 115 4 L.length (Vx.leafG false L), .data false 115 4 L2.length (Vx.leafG false L2)] _ _ _ rfl ⟨Vx.ksAt_self, ⟨Vx.leavesAt0_in hm.raw, by rw [Vx.leafL_in hm.raw]; exact hm.raw⟩, Vx.leavesAt0_in hm2.raw, by rw [Vx.leafL_in hm2.raw]; exact hm2.raw⟩ [⟨0, undef, 0⟩, q, q'] w _ r2
    ⟨_, _, rfl, ⟨l, by rw [hm.cells]; exact Vx.IsL.cons rfl (Vx.IsL.cons d (Vx.IsL.nil _)), rfl⟩, _, _, rfl, ⟨l2, by rw [hm2.cells]; exact Vx.IsL.cons rfl (Vx.IsL.cons d' (Vx.IsL.nil _)), rfl⟩, _, _, rfl, rfl, rfl⟩) fun e W' he => ?_
  obtain ⟨u, ρ', rfl, hu, hr⟩ := he
  obtain rfl : .bool true = u := Option.some.inj hu
  exact ⟨rfl, Vx.Rel.toBelow hr⟩
end Go.Proofs.YthomoliklfmnkaaDoor
