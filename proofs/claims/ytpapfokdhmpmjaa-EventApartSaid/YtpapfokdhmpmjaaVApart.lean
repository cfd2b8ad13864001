/- The law EventApart, by the walker. -/
import Derived.Test.YtpapfokdhmpmjaaVOwnLaw
import Derived.Test.YtpapfokdhmpmjaaCodecEv
import Derived.Test.YtpapfokdhmpmjaaOpenEv
namespace Go.Proofs.Ytpapfokdhmpmjaa
set_option linter.unusedVariables false
set_option linter.unusedSimpArgs false

namespace Vx
theorem evsAt2 {l : List CV} {x y : Ev} (h : evOf (l.take 13) = some x) (h2 : evOf ((l.drop 13).take 13) = some y) (hx : x.fits) (hy : y.fits) : EvsAt 2 (cutC 13 l 0) := by
  intro i hi
  match i, hi with
  | 0, _ => exact ⟨x, h, hx⟩
  | 1, _ => exact ⟨y, h2, hy⟩
def sApart : List SV → Option (Prop × SV)
  | [.agg [.int .i64 k, .str sp, .int .i64 sc, .str dp, .int .i64 dc, .int .i64 sq, .str da, .int .i64 th, .int .i64 ta, .str ak, .str ep, .int .i64 ec, .int .i64 ht], .agg [.int .i64 k2, .str sp2, .int .i64 sc2, .str dp2, .int .i64 dc2, .int .i64 sq2, .str da2, .int .i64 th2, .int .i64 ta2, .str ak2, .str ep2, .int .i64 ec2, .int .i64 ht2]] => some ((Ev.fits ⟨k, ⟨sp, sc, dp, dc, sq, da, th, ta⟩, ak, ep, ec, ht⟩ ∧ Ev.fits ⟨k2, ⟨sp2, sc2, dp2, dc2, sq2, da2, th2, ta2⟩, ak2, ep2, ec2, ht2⟩), .c (.bool true))
  | _ => none

set_option maxRecDepth 100000 in
set_option maxHeartbeats 1000000 in
theorem apartLawP : Pure Try.prog 3 sApart := by
  refine Pure.of (E := tb) (C := [(10, appPure sTrue), (11, appReads 13 sLightEvs), (13, appPure sMayEv), (12, appPure sEnc)]) [] 0 [] tb_ok (CtsOk.cons (Pure.ct firstP) <| CtsOk.cons (Reads.ct lightEvsP) <| CtsOk.cons (Pure.ct mayP) <| CtsOk.cons (Pure.ct encP) <| CtsOk.nil _) (by kernel_rfl) Try.func3 rfl rfl rfl (by kernel_rfl) (by kernel_rfl) ?_ ?_
  · intro args pre r h
    unfold sApart at h
    split at h
    · cases h; first | rfl | exact ⟨rfl, rfl⟩
    · cases h
  · intro args pre r h hp
    unfold sApart at h
    split at h
    rotate_left
    · cases h
    rename_i k sp sc dp dc sq da th ta ak ep ec ht k2 sp2 sc2 dp2 dc2 sq2 da2 th2 ta2 ak2 ep2 ec2 ht2
    cases h
    obtain ⟨hp1, hp2⟩ := hp
    rw [← exec_assoc, ← exec_assoc]
    refine exec_cut fun K hn hr _ => ?_
    replace hn := Lib.hid hn
    replace hr := Lib.hid hr
    unfold sTrue sLightEvs sMayEv sEnc
    generalize hg0 : mayEv = g0
    generalize hg1 : Ev.fits = g1
    generalize hg2 : lightEvs = g2
    generalize hg3 : EvsAt = g3
    generalize hg4 : encEv = g4
    generalize hA : Arith.std = A
    cbv
    subst hA hg0 hg1 hg2 hg3 hg4
    refine Need.mk trivial fun _ => ?_
    refine Need.mk (evsAt2 rfl rfl hp1 hp2) fun _ => ?_
    refine Ife.mk (fun _ => Need.mk trivial fun _ => hr.out _ (by rfl)) (fun _ => ?_)
    refine hn.out _ ?_
    clear hn hr
    unfold sTrue sLightEvs sMayEv sEnc
    generalize hg0 : mayEv = g0
    generalize hg1 : Ev.fits = g1
    generalize hg2 : lightEvs = g2
    generalize hg3 : EvsAt = g3
    generalize hg4 : encEv = g4
    generalize hA : Arith.std = A
    cbv
    subst hA hg0 hg1 hg2 hg3 hg4
    refine Need.mk hp1 fun _ => ?_
    refine Need.mk hp2 fun _ => ?_
    cases ha : mayEv ⟨k, ⟨sp, sc, dp, dc, sq, da, th, ta⟩, ak, ep, ec, ht⟩ <;> cases hb : mayEv ⟨k2, ⟨sp2, sc2, dp2, dc2, sq2, da2, th2, ta2⟩, ak2, ep2, ec2, ht2⟩
    · simp [enc_not ha, enc_not hb, hp1, hp2, Arith.std, Ife_iff, Need_iff]
    · simp [enc_not ha, enc_may hb, hp1, hp2, Arith.std, Ife_iff, Need_iff]
    · simp [enc_may ha, enc_not hb, hp1, hp2, Arith.std, Ife_iff, Need_iff]
    · have hi := fun h => evB_inj ha hb h
      have hj : evB ⟨k, ⟨sp, sc, dp, dc, sq, da, th, ta⟩, ak, ep, ec, ht⟩ ≠ evB ⟨k2, ⟨sp2, sc2, dp2, dc2, sq2, da2, th2, ta2⟩, ak2, ep2, ec2, ht2⟩ → (⟨k, ⟨sp, sc, dp, dc, sq, da, th, ta⟩, ak, ep, ec, ht⟩ : Ev) ≠ ⟨k2, ⟨sp2, sc2, dp2, dc2, sq2, da2, th2, ta2⟩, ak2, ep2, ec2, ht2⟩ := fun h e => h (by rw [e])
      simp only [enc_may ha, enc_may hb]
      simp [Arith.std, Ife_iff]
      rw [Bool.eq_iff_iff]
      simp only [decide_eq_true_eq, Bool.and_eq_true]
      refine ⟨fun h => ?_, fun h => ?_⟩
      · have e := hi h
        simp only [Ev.mk.injEq, Pkt.mk.injEq] at e
        obtain ⟨rfl, ⟨rfl, rfl, rfl, rfl, rfl, rfl, rfl, rfl⟩, rfl, rfl, rfl, rfl⟩ := e
        simp
      · obtain ⟨rfl, rfl, rfl, rfl, rfl, rfl, rfl, rfl, rfl, rfl, rfl, rfl, rfl⟩ := h
        rfl

end Vx
open Go.RowKit
theorem eventApartWalk (w : World) (x : Ev) (hx : x.fits) (y : Ev) (hy : y.fits) :
    Calls Try.prog 3 #[.agg (evCells x).toArray, .agg (evCells y).toArray] w fun e w' => e = .returned (.bool true) ∧ Below w.heap.size w w' := by
  refine Calls.mono (Vx.apartLawP.run [.agg (Vx.evC x), .agg (Vx.evC y)] _ _ rfl ⟨hx, hy⟩ _ ⟨_, _, rfl, ⟨_, evC_is x, rfl⟩, _, _, rfl, ⟨_, evC_is y, rfl⟩, rfl⟩ w) fun e W' he => ?_
  obtain ⟨u, rfl, h, hb⟩ := he
  obtain rfl : .bool true = u := Option.some.inj h
  exact ⟨rfl, hb⟩
end Go.Proofs.Ytpapfokdhmpmjaa
