/- The law EventOwn, by the walker. -/
import Derived.Test.YtpapfokdhmpmjaaVEnc2
import Derived.Test.YtpapfokdhmpmjaaVLight
import Derived.Test.YtpapfokdhmpmjaaOpenPkt
namespace Go.Proofs.Ytpapfokdhmpmjaa
set_option linter.unusedVariables false
set_option linter.unusedSimpArgs false

namespace Vx
def sTrue : List SV → Option (Prop × SV)
  | [] => some (True, .c .tt)
  | _ => none

theorem enc73 : encEv ⟨7, ⟨[], 0, [], 0, 0, [], 0, 0⟩, [], [], 0, 3⟩ = ([7, 3], 0) := by decide +kernel
theorem fits0 : Ev.fits ⟨7, ⟨[], 0, [], 0, 0, [], 0, 0⟩, [], [], 0, 3⟩ := ⟨⟨by simp, by simp, by simp⟩, by simp, by simp⟩

set_option maxRecDepth 100000 in
set_option maxHeartbeats 400000 in
theorem firstP : Pure Try.prog 10 sTrue := by
  refine Pure.of (E := tb) (C := [(12, appPure sEnc)]) [] 0 [] tb_ok (CtsOk.cons (Pure.ct encP) <| CtsOk.nil _) (by kernel_rfl) Try.func10 rfl rfl rfl (by kernel_rfl) (by kernel_rfl) ?_ ?_
  · intro args pre r h
    unfold sTrue at h
    split at h
    · cases h; first | rfl | exact ⟨rfl, rfl⟩
    · cases h
  · intro args pre r h hp
    unfold sTrue at h
    split at h
    rotate_left
    · cases h
    cases h
    unfold sEnc
    generalize hg0 : encEv = g0
    generalize hg1 : Ev.fits = g1
    generalize hA : Arith.std = A
    cbv
    subst hA hg0 hg1
    simp only [Arith.std, Int.reduceLT, Int.reduceLE, Int.reduceAdd, Int.reduceSub, Int.reduceEq, decide_true, decide_false, Bool.not_true, Bool.not_false, Ife_tt, Ife_ff, Need_tt, eq_self]
    refine Need.mk fits0 fun _ => ?_
    simp [enc73, Ife_iff]

theorem of_not_ff {b : Bool} (h : Arith.std.not b = false) : b = true := by simpa [Arith.std] using h
theorem of_eql {a b : Int} (h : Arith.std.eq a b = true) : a = b := by simpa [Arith.std] using h
theorem of_eql_ff {a b : Int} (h : Arith.std.eq a b = false) : a ≠ b := by simpa [Arith.std] using h
theorem evsAt1 {l : List CV} {x : Ev} (h : evOf l = some x) (hx : x.fits) : EvsAt 1 (cutC 13 l 0) := by
  intro i hi
  obtain rfl : i = 0 := by omega
  have hl := evOf_spec h
  subst hl
  exact ⟨x, rfl, hx⟩

def sOwnLaw : List SV → Option (Prop × SV)
  | [.agg [.str sp, .int .i64 sc, .str dp, .int .i64 dc, .int .i64 sq, .str da, .int .i64 th, .int .i64 ta], .c (.int .i64 n), .c (.str a)] => some ((Pkt.fits ⟨sp, sc, dp, dc, sq, da, th, ta⟩ ∧ a.length ≤ 9223372036854775807), .c (.bool true))
  | _ => none

set_option maxRecDepth 100000 in
set_option maxHeartbeats 1000000 in
theorem ownLawP : Pure Try.prog 4 sOwnLaw := by
  refine Pure.of (E := tb) (C := [(10, appPure sTrue), (11, appReads 13 sLightEvs), (13, appPure sMayEv), (14, appPure sOwn)]) [] 0 [] tb_ok (CtsOk.cons (Pure.ct firstP) <| CtsOk.cons (Reads.ct lightEvsP) <| CtsOk.cons (Pure.ct mayP) <| CtsOk.cons (Pure.ct ownP) <| CtsOk.nil _) (by kernel_rfl) Try.func4 rfl rfl rfl (by kernel_rfl) (by kernel_rfl) ?_ ?_
  · intro args pre r h
    unfold sOwnLaw at h
    split at h
    · cases h; first | rfl | exact ⟨rfl, rfl⟩
    · cases h
  · intro args pre r h hp
    unfold sOwnLaw at h
    split at h
    rotate_left
    · cases h
    rename_i sp sc dp dc sq da th ta n a
    cases h
    obtain ⟨hp1, hp2⟩ := hp
    rw [← exec_assoc, ← exec_assoc, ← exec_assoc, ← exec_assoc]
    refine exec_cut fun K hn hr _ => ?_
    replace hn := Lib.hid hn
    replace hr := Lib.hid hr
    unfold sTrue sLightEvs sMayEv sOwn
    generalize hg0 : mayEv = g0
    generalize hg1 : ownEv = g1
    generalize hg2 : Ev.fits = g2
    generalize hg3 : lightEvs = g3
    generalize hg4 : EvsAt = g4
    generalize hA : Arith.std = A
    cbv
    subst hA hg0 hg1 hg2 hg3 hg4
    refine Need.mk trivial fun _ => ?_
    refine Ife.mk (fun h3 => ?_) (fun h3 => ?_)
    all_goals
      refine Need.mk (evsAt1 rfl ⟨hp1, by first | exact hp2 | simp, by simp⟩) fun _ => ?_
      refine Ife.mk (fun _ => Need.mk trivial fun _ => hr.out _ (by rfl)) (fun _ => ?_)
      refine Need.mk ⟨hp1, by first | exact hp2 | simp, by simp⟩ fun _ => ?_
      refine Ife.mk (fun _ => Need.mk trivial fun _ => hr.out _ (by rfl)) (fun hm => ?_)
      refine hn.out _ ?_
      unfold sTrue sLightEvs sMayEv sOwn
      generalize hg0 : mayEv = g0
      generalize hg1 : ownEv = g1
      generalize hg2 : Ev.fits = g2
      generalize hg3 : lightEvs = g3
      generalize hg4 : EvsAt = g4
      generalize hA : Arith.std = A
      cbv
      subst hA hg0 hg1 hg2 hg3 hg4
      
      refine Need.mk ⟨hp1, by first | exact hp2 | simp, by simp⟩ fun _ => ?_
      clear hr
      have hm' := of_not_ff hm
      clear hm
      obtain ⟨f1, f2, f3, f4, f5, f6⟩ := mayEv_facts hm'
      clear f2 f3 f4
      dsimp only at f1 f5 f6
      have hk : n = 1 ∨ n = 2 ∨ n = 3 ∨ n = 4 ∨ n = 5 := by
        have g6 : n ≠ 6 := fun e => absurd (f5 e) (by decide)
        have g7 : n ≠ 7 := fun e => absurd (f6 e) (by omega)
        omega
      rcases hk with rfl | rfl | rfl | rfl | rfl <;> first
        | (exact absurd h3 (by decide))
        | (simp [ownEv, hm', Arith.std, Ife_iff, cvSame]
           done)
    

end Vx
open Go.RowKit
theorem eventOwnWalk (w : World) (q : Pkt) (hq : q.fits) (n : Int) (hn : -9223372036854775808 ≤ n ∧ n ≤ 9223372036854775807) (s : ByteArray) (hs : s.size ≤ maxLen) :
    Calls Try.prog 4 #[.agg q.cells, .int .i64 n, .string s] w fun e w' => e = .returned (.bool true) ∧ Below w.heap.size w w' := by
  obtain ⟨l, rfl, hl⟩ := bytesOf s hs
  refine Calls.mono (Vx.ownLawP.run [.agg (Vx.pkC q), .c (.int .i64 n), .c (.str l)] _ _ rfl ⟨hq, hl⟩ _ ⟨_, _, rfl, ⟨q.cells.toList, rfl, rfl⟩, _, _, rfl, rfl, _, _, rfl, rfl, rfl⟩ w) fun e W' he => ?_
  obtain ⟨u, rfl, h, hb⟩ := he
  obtain rfl : .bool true = u := Option.some.inj h
  exact ⟨rfl, hb⟩
end Go.Proofs.Ytpapfokdhmpmjaa
