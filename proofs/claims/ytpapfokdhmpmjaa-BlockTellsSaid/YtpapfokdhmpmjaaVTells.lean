/- The law BlockTells, by the walker. -/
import Derived.Test.YtpapfokdhmpmjaaOpenBlk
import Derived.Test.YtpapfokdhmpmjaaVBlk5
import Derived.Test.YtpapfokdhmpmjaaVRef2
namespace Go.Proofs.Ytpapfokdhmpmjaa
open Go.RowKit
set_option linter.unusedVariables false
set_option linter.unusedSimpArgs false

namespace Vx
def sBlTells : SpecR
  | [.agg [.str c, .int .i64 ht, .int .i64 tm, .row 0], .agg [.str c', .int .i64 ht', .int .i64 tm', .row 1], .c (.str s)], [(n, g), (m, k)] => some ((BlAt c n g ∧ BlAt c' m k ∧ s.length ≤ 9223372036854775807), .c (.bool true))
  | _, _ => none

set_option maxRecDepth 100000 in
set_option maxHeartbeats 2000000 in
theorem blTellsP : Rds Try.prog 9 13 sBlTells := by
  have hC : CtsOk Try.prog [(15, appPure sTrue), (16, appRds 13 sLight), (17, appRds 13 sMayBl), (18, appRds 13 sEncBl), (21, appBorn 13 sDecBl), (22, appRds 13 sSameBl), (19, appPure sPeek), (27, appRds 13 sMayBl), (24, appRds 13 sEncBl), (25, appBorn 13 sDecBl), (28, appRds 13 sSameBl), (26, appPure sPeek)] := CtsOk.cons (Pure.ct firstBP) <| CtsOk.cons (Rds.ct lightBlP) <| CtsOk.cons (Rds.ct mayBlP) <| CtsOk.cons (Rds.ct encBlP) <| CtsOk.cons (Born.ct decBlP) <| CtsOk.cons (Rds.ct sameBlP) <| CtsOk.cons (Pure.ct peekP) <| CtsOk.cons (Rds.ct refMayBlP) <| CtsOk.cons (Rds.ct refEncBlP) <| CtsOk.cons (Born.ct refDecBlP) <| CtsOk.cons (Rds.ct refSameBlP) <| CtsOk.cons (Pure.ct refPeekP) <| CtsOk.nil _
  refine Rds.of (E := tb) [] 0 [(11, [(0, true), (2, true), (1, false), (3, false), (4, true), (5, true), (6, true), (7, true), (9, true), (10, true), (8, false), (11, false), (12, true), (13, true), (14, true), (15, true), (16, true), (17, true), (18, true), (19, true), (20, true), (21, true), (22, true), (23, true), (24, true), (25, true), (26, true), (27, false), (28, true), (29, true), (30, true), (31, true), (32, true), (33, true), (34, true), (35, true), (36, true), (37, true), (38, true), (39, true), (40, true), (41, true), (42, true), (43, true), (44, true), (45, true), (46, true), (47, true), (48, true), (49, true)])] tb_ok hC (by kernel_rfl) Try.func9 rfl rfl rfl (by kernel_rfl) (by kernel_rfl) 27 2 ?_ ?_
  · intro args vs pre r h
    unfold sBlTells at h
    split at h
    · cases h; exact ⟨rfl, rfl⟩
    · cases h
  · intro args vs pre r h hp
    unfold sBlTells at h
    split at h
    rotate_left
    · cases h
    rename_i c ht tm c' ht' tm' s n g m k
    cases h
    obtain ⟨hp1, hp2, hp3⟩ := hp
    refine ⟨_, SameV.refl _, ?_⟩
    rw [← exec_assoc, ← exec_assoc]
    refine exec_cut fun K hn hr _ => ?_
    replace hn := Lib.hid hn
    replace hr := Lib.hid hr
    unfold sTrue sLight sMayBl sEncBl sDecBl sSameBl sPeek
    generalize hg0 : lightBl = g0
    generalize hg1 : encBl = g1
    generalize hg2 : BlAt = g2
    generalize hg3 : EvsAt = g3
    generalize hg4 : mayBl = g4
    generalize hg5 : evsOf = g5
    generalize hg6 : decBl = g6
    generalize hg7 : evGet = g7
    generalize hg8 : peekBl = g8
    generalize hg9 : (List.length : List UInt8 → Nat) = g9
    generalize hg10 : (List.length : List Ev → Nat) = g10
    generalize hg11 : (instDecidableEqBl) = g11
    generalize hA : Arith.std = A
    cbv
    subst hA hg0 hg1 hg2 hg3 hg4 hg5 hg6 hg7 hg8 hg9 hg10 hg11
    refine Need.mk trivial fun _ => ?_
    refine Need.mk hp1 fun _ => ?_
    refine Ife.mk (fun _ => Need.mk trivial fun _ => hr.out _ (by rfl)) (fun _ => ?_)
    refine Need.mk hp2 fun _ => ?_
    refine Ife.mk (fun _ => Need.mk trivial fun _ => hr.out _ (by rfl)) (fun _ => ?_)
    refine Ife.mk (fun _ => Need.mk trivial fun _ => hr.out _ (by rfl)) (fun hs => ?_)
    have hs : s.length ≤ 8000 := by
      have h : ¬ (8000 : Int) < s.length := of_decide_eq_false (p := (8000 : Int) < s.length) hs
      exact Int.ofNat_le.mp (Int.not_lt.mp h)
    refine hn.out _ ?_
    clear hn hr
    rw [← exec_assoc, ← exec_assoc, ← exec_assoc, ← exec_assoc, ← exec_assoc]
    refine exec_cut fun K hn hr _ => ?_
    replace hn := Lib.hid hn
    replace hr := Lib.hid hr
    unfold sTrue sLight sMayBl sEncBl sDecBl sSameBl sPeek
    generalize hg0 : lightBl = g0
    generalize hg1 : encBl = g1
    generalize hg2 : BlAt = g2
    generalize hg3 : EvsAt = g3
    generalize hg4 : mayBl = g4
    generalize hg5 : evsOf = g5
    generalize hg6 : decBl = g6
    generalize hg7 : evGet = g7
    generalize hg8 : peekBl = g8
    generalize hg9 : (List.length : List UInt8 → Nat) = g9
    generalize hg10 : (List.length : List Ev → Nat) = g10
    generalize hg11 : (instDecidableEqBl) = g11
    generalize hA : Arith.std = A
    cbv
    subst hA hg0 hg1 hg2 hg3 hg4 hg5 hg6 hg7 hg8 hg9 hg10 hg11
    have hat := decBl_at (l := s) (by omega)
    refine Need.mk hp1 fun _ => ?_
    refine Need.mk hp1 fun _ => ?_
    refine Need.mk (show s.length ≤ _ by omega) fun _ => ?_
    refine Need.mk (show s.length ≤ _ by omega) fun _ => ?_
    refine Need.mk (show s.length ≤ _ by omega) fun _ => ?_
    refine Need.mk (show s.length ≤ _ by omega) fun _ => ?_
    refine hn.out _ ?_
    clear hn hr
    unfold sTrue sLight sMayBl sEncBl sDecBl sSameBl sPeek
    generalize hg0 : lightBl = g0
    generalize hg1 : encBl = g1
    generalize hg2 : BlAt = g2
    generalize hg3 : EvsAt = g3
    generalize hg4 : mayBl = g4
    generalize hg5 : evsOf = g5
    generalize hg6 : decBl = g6
    generalize hg7 : evGet = g7
    generalize hg8 : peekBl = g8
    generalize hg9 : (List.length : List UInt8 → Nat) = g9
    generalize hg10 : (List.length : List Ev → Nat) = g10
    generalize hg11 : (instDecidableEqBl) = g11
    generalize hA : Arith.std = A
    cbv
    subst hA hg0 hg1 hg2 hg3 hg4 hg5 hg6 hg7 hg8 hg9 hg10 hg11
    refine Need.mk hp1 fun _ => ?_
    refine Need.mk hp1 fun _ => ?_
    have f1 : ∀ b : Bool, Arith.std.eqB b b = true := by decide
    have f2 : ∀ b : Int, Arith.std.eq b b = true := fun b => decide_eq_true rfl
    have f3 : ∀ b : List UInt8, Arith.std.eqS b b = true := fun b => decide_eq_true rfl
    refine Ife.mk (fun _ => ?_) (fun h => absurd ((f1 _).symm.trans h) (by decide))
    refine Need.mk ⟨hp1.evs, hp2.evs, hp1.n, hp2.n⟩ fun _ => ?_
    refine Need.mk ⟨hp1.evs, hp2.evs, hp1.n, hp2.n⟩ fun _ => ?_
    refine Ife.mk (fun _ => ?_) (fun h => absurd ((f1 _).symm.trans h) (by decide))
    refine Ife.mk (fun _ => ?_) (fun h => absurd ((f3 _).symm.trans h) (by decide))
    refine Ife.mk (fun _ => ?_) (fun h => absurd ((f2 _).symm.trans h) (by decide))
    refine Need.mk ⟨hat.evs, hat.evs, hat.n, hat.n⟩ fun _ => ?_
    refine Ife.mk (fun _ => ?_) (fun h => absurd h (by decide))
    refine Ife.mk (fun _ => ?_) (fun h => absurd ((f2 _).symm.trans h) (by decide))
    refine Ife.mk (fun _ => ?_) (fun h => absurd ((f3 _).symm.trans h) (by decide))
    simp [Ife_iff, Arith.std]

end Vx
open Go.ChangeShapes Go.WideShapes Go.ChangeAt
theorem blockTellsWalk (w : World) {v v' : Value} (b : BlIn w v) (b' : BlIn w v') (s : ByteArray) (hs : s.size ≤ maxLen) :
    Calls Try.prog 9 #[v, v', .string s] w fun e w' => e = .returned (.bool true) ∧ Below w.heap.size w w' := by
  obtain ⟨l, rfl, hl⟩ := bytesOf s hs
  obtain ⟨c, ht, tm, a, cap, xs, rfl, hc, hn, hE⟩ := b
  obtain ⟨c', ht', tm', a', cap', xs', rfl, hc', hn', hE'⟩ := b'
  obtain ⟨p, hp, g⟩ := Vx.EvsIn.good (cap := cap) hE
  obtain ⟨p', hp', g'⟩ := Vx.EvsIn.good (cap := cap') hE'
  rw [← hp, ← hp']
  refine Calls.mono (Vx.blTellsP.run [.agg [.str c, .int .i64 ht, .int .i64 tm, .row 0], .agg [.str c', .int .i64 ht', .int .i64 tm', .row 1], .c (.str l)] [(xs.length, fun i => Vx.evC (xs.getD i zeroEv)), (xs'.length, fun i => Vx.evC (xs'.getD i zeroEv))] _ _ rfl ⟨⟨hc, hE.at_, hn⟩, ⟨hc', hE'.at_, hn'⟩, hl⟩ w [p, p'] _ (Vx.GoodL.cons g (Vx.GoodL.cons g' (Vx.GoodL.nil _ _)))
    ⟨_, _, rfl, ⟨[.string ⟨c.toArray⟩, .int .i64 ht, .int .i64 tm, p.v], by
      obtain ⟨a', cap', e, _⟩ := g.sl
      simp [Vx.IsL, Vx.CV.den, e, Vx.one], rfl⟩, _, _, rfl, ⟨[.string ⟨c'.toArray⟩, .int .i64 ht', .int .i64 tm', p'.v], by
      obtain ⟨a', cap', e, _⟩ := g'.sl
      simp [Vx.IsL, Vx.CV.den, e, Vx.one], rfl⟩, _, _, rfl, rfl, rfl⟩) fun e W' he => ?_
  obtain ⟨u, rfl, h, hb⟩ := he
  obtain rfl : .bool true = u := Option.some.inj h
  exact ⟨rfl, hb⟩
end Go.Proofs.Ytpapfokdhmpmjaa
