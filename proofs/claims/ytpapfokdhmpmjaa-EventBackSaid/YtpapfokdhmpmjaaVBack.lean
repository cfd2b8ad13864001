/- The law EventBack, by the walker. -/
import Derived.Test.YtpapfokdhmpmjaaVOwnLaw
import Derived.Test.YtpapfokdhmpmjaaCodecEv
import Derived.Test.YtpapfokdhmpmjaaOpenEv
namespace Go.Proofs.Ytpapfokdhmpmjaa
set_option linter.unusedVariables false
set_option linter.unusedSimpArgs false

namespace Vx
def sBack : List SV → Option (Prop × SV)
  | [.agg [.int .i64 k, .str sp, .int .i64 sc, .str dp, .int .i64 dc, .int .i64 sq, .str da, .int .i64 th, .int .i64 ta, .str ak, .str ep, .int .i64 ec, .int .i64 ht], .c (.str s), .c (.int .i64 n)] => some ((Ev.fits ⟨k, ⟨sp, sc, dp, dc, sq, da, th, ta⟩, ak, ep, ec, ht⟩ ∧ s.length ≤ 9223372036854775807 ∧ isI64 n), .c (.bool true))
  | _ => none

theorem zero_fits : zeroEv.fits := ⟨⟨by simp [zeroEv, zeroPkt], by simp [zeroEv, zeroPkt], by simp [zeroEv, zeroPkt]⟩, by simp [zeroEv], by simp [zeroEv]⟩
theorem dec_fits {l : List UInt8} (h : l.length ≤ 140737488351232) : (decEv l).1.fits := by
  rw [decEv_eq]
  split
  · exact zero_fits
  · split
    · exact rEv_fits h
    · exact zero_fits
set_option maxRecDepth 100000 in
set_option maxHeartbeats 1000000 in
theorem backLawP : Pure Try.prog 6 sBack := by
  refine Pure.of (E := tb) (C := [(10, appPure sTrue), (11, appReads 13 sLightEvs), (13, appPure sMayEv), (12, appPure sEnc), (20, appPure sDec)]) [] 0 [] tb_ok (CtsOk.cons (Pure.ct firstP) <| CtsOk.cons (Reads.ct lightEvsP) <| CtsOk.cons (Pure.ct mayP) <| CtsOk.cons (Pure.ct encP) <| CtsOk.cons (Pure.ct decP) <| CtsOk.nil _) (by kernel_rfl) Try.func6 rfl rfl rfl (by kernel_rfl) (by kernel_rfl) ?_ ?_
  · intro args pre r h
    unfold sBack at h
    split at h
    · cases h; first | rfl | exact ⟨rfl, rfl⟩
    · cases h
  · intro args pre r h hp
    unfold sBack at h
    split at h
    rotate_left
    · cases h
    rename_i k sp sc dp dc sq da th ta ak ep ec ht s n
    cases h
    obtain ⟨hp1, hp2, hp3⟩ := hp
    rw [← exec_assoc, ← exec_assoc]
    refine exec_cut fun K hn hr _ => ?_
    replace hn := Lib.hid hn
    replace hr := Lib.hid hr
    unfold sTrue sLightEvs sMayEv sEnc sDec
    generalize hg0 : mayEv = g0
    generalize hg1 : Ev.fits = g1
    generalize hg2 : lightEvs = g2
    generalize hg3 : EvsAt = g3
    generalize hg4 : encEv = g4
    generalize hg5 : decEv = g5
    generalize hg6 : (List.length : List UInt8 → Nat) = g6
    generalize hA : Arith.std = A
    cbv
    subst hA hg0 hg1 hg2 hg3 hg4 hg5 hg6
    refine Need.mk trivial fun _ => ?_
    refine Need.mk (evsAt1 rfl hp1) fun _ => ?_
    refine Ife.mk (fun _ => Need.mk trivial fun _ => hr.out _ (by rfl)) (fun _ => ?_)
    refine Ife.mk (fun _ => Need.mk trivial fun _ => hr.out _ (by rfl)) (fun hs => ?_)
    have hs : s.length ≤ 1200 := by
      have h : ¬ (1200 : Int) < s.length := by simpa [Arith.std] using hs
      exact Int.ofNat_le.mp (Int.not_lt.mp h)
    refine hn.out _ ?_
    clear hn hr
    rw [← exec_assoc]
    refine exec_cut fun K hn hr _ => ?_
    replace hn := Lib.hid hn
    replace hr := Lib.hid hr
    unfold sTrue sLightEvs sMayEv sEnc sDec
    generalize hg0 : mayEv = g0
    generalize hg1 : Ev.fits = g1
    generalize hg2 : lightEvs = g2
    generalize hg3 : EvsAt = g3
    generalize hg4 : encEv = g4
    generalize hg5 : decEv = g5
    generalize hg6 : (List.length : List UInt8 → Nat) = g6
    generalize hA : Arith.std = A
    cbv
    subst hA hg0 hg1 hg2 hg3 hg4 hg5 hg6
    refine Need.mk hp1 fun _ => ?_
    refine Need.mk hp1 fun _ => ?_
    refine Ife.mk (fun h => ?_) (fun _ => ?_)
    · exfalso
      cases hm : mayEv ⟨k, ⟨sp, sc, dp, dc, sq, da, th, ta⟩, ak, ep, ec, ht⟩
      · simp [enc_not hm, hm, Arith.std] at h
      · simp [enc_may hm, hm, Arith.std] at h
    refine hn.out _ ?_
    clear hn hr
    refine exec_cut fun K hn hr _ => ?_
    replace hn := Lib.hid hn
    replace hr := Lib.hid hr
    unfold sTrue sLightEvs sMayEv sEnc sDec
    generalize hg0 : mayEv = g0
    generalize hg1 : Ev.fits = g1
    generalize hg2 : lightEvs = g2
    generalize hg3 : EvsAt = g3
    generalize hg4 : encEv = g4
    generalize hg5 : decEv = g5
    generalize hg6 : (List.length : List UInt8 → Nat) = g6
    generalize hA : Arith.std = A
    cbv
    subst hA hg0 hg1 hg2 hg3 hg4 hg5 hg6
    cases hm : mayEv (⟨k, ⟨sp, sc, dp, dc, sq, da, th, ta⟩, ak, ep, ec, ht⟩ : Ev)
    · refine Ife.mk (fun h => ?_) (fun _ => ?_)
      · exfalso
        simp [enc_not hm, Arith.std] at h
      · refine hn.out _ ?_
        clear hn hr
        unfold sTrue sLightEvs sMayEv sEnc sDec
        generalize hg0 : mayEv = g0
        generalize hg1 : Ev.fits = g1
        generalize hg2 : lightEvs = g2
        generalize hg3 : EvsAt = g3
        generalize hg4 : encEv = g4
        generalize hg5 : decEv = g5
        generalize hg6 : (List.length : List UInt8 → Nat) = g6
        generalize hA : Arith.std = A
        cbv
        subst hA hg0 hg1 hg2 hg3 hg4 hg5 hg6
        refine Need.mk (show s.length ≤ _ by omega) fun _ => ?_
        have hfit := dec_fits (l := s) (by omega)
        have ho : (decEv s).2 = 0 → mayEv (decEv s).1 = true ∧ encEv (decEv s).1 = (s, 0) := fun h => ⟨(dec_one h).1, by rw [enc_may (dec_one h).1, (dec_one h).2]⟩
        have hz : (decEv s).2 ≠ 0 → (decEv s).1 = zeroEv := dec_zero
        generalize decEv s = D at hfit ho hz ⊢
        obtain ⟨⟨k3, ⟨sp3, sc3, dp3, dc3, sq3, da3, th3, ta3⟩, ak3, ep3, ec3, ht3⟩, e3⟩ := D
        dsimp only at hfit ho hz ⊢
        refine Ife.mk (fun h => ?_) (fun h => ?_)
        · have h : e3 ≠ 0 := by simpa [Arith.std] using h
          have hz := hz h
          simp only [zeroEv, zeroPkt, Ev.mk.injEq, Pkt.mk.injEq] at hz
          obtain ⟨rfl, ⟨rfl, rfl, rfl, rfl, rfl, rfl, rfl, rfl⟩, rfl, rfl, rfl, rfl⟩ := hz
          simp [Arith.std]
        · have h : e3 = 0 := by simpa [Arith.std] using h
          obtain ⟨m, e⟩ := ho h
          refine Need.mk hfit fun _ => ?_
          refine Need.mk hfit fun _ => ?_
          simp [m, e, Arith.std, Ife_iff]
    
    · have he := enc_may hm
      have he2 : (encEv (⟨k, ⟨sp, sc, dp, dc, sq, da, th, ta⟩, ak, ep, ec, ht⟩ : Ev)).2 = 0 := by rw [he]
      have d1 : decEv (encEv (⟨k, ⟨sp, sc, dp, dc, sq, da, th, ta⟩, ak, ep, ec, ht⟩ : Ev)).1 = ((⟨k, ⟨sp, sc, dp, dc, sq, da, th, ta⟩, ak, ep, ec, ht⟩ : Ev), 0) := by rw [he]; exact dec_back hm
      have d2 : decEv ((encEv (⟨k, ⟨sp, sc, dp, dc, sq, da, th, ta⟩, ak, ep, ec, ht⟩ : Ev)).1 ++ [97]) = (zeroEv, 3) := by rw [he]; exact dec_long hm (by simp)
      have d3 : n < ((encEv (⟨k, ⟨sp, sc, dp, dc, sq, da, th, ta⟩, ak, ep, ec, ht⟩ : Ev)).1.length : Int) → 0 ≤ n → decEv ((encEv (⟨k, ⟨sp, sc, dp, dc, sq, da, th, ta⟩, ak, ep, ec, ht⟩ : Ev)).1.take n.toNat) = (zeroEv, 2) := fun h1 h2 => by
        rw [he] at h1 ⊢
        exact dec_short hm (by dsimp only at h1; omega)
      have hl : (encEv (⟨k, ⟨sp, sc, dp, dc, sq, da, th, ta⟩, ak, ep, ec, ht⟩ : Ev)).1.length ≤ 1000 := by rw [he]; exact evB_len hm
      clear he
      refine Ife.mk (fun _ => ?_) (fun h => absurd h (by simp [he2, Arith.std]))
      refine Need.mk (Nat.le_trans hl (by decide)) fun _ => ?_
      refine Need.mk (show ((encEv (⟨k, ⟨sp, sc, dp, dc, sq, da, th, ta⟩, ak, ep, ec, ht⟩ : Ev)).1.length : Int) + ([97] : List UInt8).length ≤ 9223372036854775807 by simp; omega) fun _ => ?_
      refine Need.mk (show ((encEv (⟨k, ⟨sp, sc, dp, dc, sq, da, th, ta⟩, ak, ep, ec, ht⟩ : Ev)).1 ++ [97]).length ≤ 140737488351232 by simp; omega) fun _ => ?_
      refine Ife.mk (fun h => absurd h (by simp [Arith.std, d1])) (fun _ => ?_)
      refine Ife.mk (fun h => absurd h (by simp [Arith.std, d1])) (fun _ => ?_)
      refine Ife.mk (fun h => absurd h (by simp [Arith.std, d2])) (fun _ => ?_)
      refine Ife.mk (fun h => absurd h (by simp [Arith.std]; exact Int.ofNat_le.mpr hl)) (fun _ => ?_)
      refine Ife.mk (fun h1 => ?_) (fun _ => ?_)
      · have h1 : 0 ≤ n := of_decide_eq_true (p := 0 ≤ n) h1
        refine Ife.mk (fun h2 => ?_) (fun _ => ?_)
        · have h2 : n < ((encEv (⟨k, ⟨sp, sc, dp, dc, sq, da, th, ta⟩, ak, ep, ec, ht⟩ : Ev)).1.length : Int) := of_decide_eq_true (p := n < ((encEv (⟨k, ⟨sp, sc, dp, dc, sq, da, th, ta⟩, ak, ep, ec, ht⟩ : Ev)).1.length : Int)) h2
          have d3 := d3 h2 h1
          refine Need.mk (show (0 : Int) ≤ 0 ∧ (0 : Int) ≤ n ∧ n ≤ ((encEv (⟨k, ⟨sp, sc, dp, dc, sq, da, th, ta⟩, ak, ep, ec, ht⟩ : Ev)).1.length : Int) from ⟨by omega, h1, by omega⟩) fun _ => ?_
          refine Need.mk (show (((encEv (⟨k, ⟨sp, sc, dp, dc, sq, da, th, ta⟩, ak, ep, ec, ht⟩ : Ev)).1.take n.toNat).drop (0 : Int).toNat).length ≤ 140737488351232 by simp; omega) fun _ => ?_
          refine Ife.mk (fun h => absurd h (by simp [Arith.std, d3])) (fun _ => ?_)
          refine hn.out _ ?_
          clear hn hr
          unfold sTrue sLightEvs sMayEv sEnc sDec
          generalize hg0 : mayEv = g0
          generalize hg1 : Ev.fits = g1
          generalize hg2 : lightEvs = g2
          generalize hg3 : EvsAt = g3
          generalize hg4 : encEv = g4
          generalize hg5 : decEv = g5
          generalize hg6 : (List.length : List UInt8 → Nat) = g6
          generalize hA : Arith.std = A
          cbv
          subst hA hg0 hg1 hg2 hg3 hg4 hg5 hg6
          refine Need.mk (show s.length ≤ _ by omega) fun _ => ?_
          have hfit := dec_fits (l := s) (by omega)
          have ho : (decEv s).2 = 0 → mayEv (decEv s).1 = true ∧ encEv (decEv s).1 = (s, 0) := fun h => ⟨(dec_one h).1, by rw [enc_may (dec_one h).1, (dec_one h).2]⟩
          have hz : (decEv s).2 ≠ 0 → (decEv s).1 = zeroEv := dec_zero
          generalize decEv s = D at hfit ho hz ⊢
          obtain ⟨⟨k3, ⟨sp3, sc3, dp3, dc3, sq3, da3, th3, ta3⟩, ak3, ep3, ec3, ht3⟩, e3⟩ := D
          dsimp only at hfit ho hz ⊢
          refine Ife.mk (fun h => ?_) (fun h => ?_)
          · have h : e3 ≠ 0 := by simpa [Arith.std] using h
            have hz := hz h
            simp only [zeroEv, zeroPkt, Ev.mk.injEq, Pkt.mk.injEq] at hz
            obtain ⟨rfl, ⟨rfl, rfl, rfl, rfl, rfl, rfl, rfl, rfl⟩, rfl, rfl, rfl, rfl⟩ := hz
            simp [Arith.std]
          · have h : e3 = 0 := by simpa [Arith.std] using h
            obtain ⟨m, e⟩ := ho h
            refine Need.mk hfit fun _ => ?_
            refine Need.mk hfit fun _ => ?_
            simp [m, e, Arith.std, Ife_iff]
    
        · refine hn.out _ ?_
          clear hn hr
          unfold sTrue sLightEvs sMayEv sEnc sDec
          generalize hg0 : mayEv = g0
          generalize hg1 : Ev.fits = g1
          generalize hg2 : lightEvs = g2
          generalize hg3 : EvsAt = g3
          generalize hg4 : encEv = g4
          generalize hg5 : decEv = g5
          generalize hg6 : (List.length : List UInt8 → Nat) = g6
          generalize hA : Arith.std = A
          cbv
          subst hA hg0 hg1 hg2 hg3 hg4 hg5 hg6
          refine Need.mk (show s.length ≤ _ by omega) fun _ => ?_
          have hfit := dec_fits (l := s) (by omega)
          have ho : (decEv s).2 = 0 → mayEv (decEv s).1 = true ∧ encEv (decEv s).1 = (s, 0) := fun h => ⟨(dec_one h).1, by rw [enc_may (dec_one h).1, (dec_one h).2]⟩
          have hz : (decEv s).2 ≠ 0 → (decEv s).1 = zeroEv := dec_zero
          generalize decEv s = D at hfit ho hz ⊢
          obtain ⟨⟨k3, ⟨sp3, sc3, dp3, dc3, sq3, da3, th3, ta3⟩, ak3, ep3, ec3, ht3⟩, e3⟩ := D
          dsimp only at hfit ho hz ⊢
          refine Ife.mk (fun h => ?_) (fun h => ?_)
          · have h : e3 ≠ 0 := by simpa [Arith.std] using h
            have hz := hz h
            simp only [zeroEv, zeroPkt, Ev.mk.injEq, Pkt.mk.injEq] at hz
            obtain ⟨rfl, ⟨rfl, rfl, rfl, rfl, rfl, rfl, rfl, rfl⟩, rfl, rfl, rfl, rfl⟩ := hz
            simp [Arith.std]
          · have h : e3 = 0 := by simpa [Arith.std] using h
            obtain ⟨m, e⟩ := ho h
            refine Need.mk hfit fun _ => ?_
            refine Need.mk hfit fun _ => ?_
            simp [m, e, Arith.std, Ife_iff]
    
      · refine hn.out _ ?_
        clear hn hr
        unfold sTrue sLightEvs sMayEv sEnc sDec
        generalize hg0 : mayEv = g0
        generalize hg1 : Ev.fits = g1
        generalize hg2 : lightEvs = g2
        generalize hg3 : EvsAt = g3
        generalize hg4 : encEv = g4
        generalize hg5 : decEv = g5
        generalize hg6 : (List.length : List UInt8 → Nat) = g6
        generalize hA : Arith.std = A
        cbv
        subst hA hg0 hg1 hg2 hg3 hg4 hg5 hg6
        refine Need.mk (show s.length ≤ _ by omega) fun _ => ?_
        have hfit := dec_fits (l := s) (by omega)
        have ho : (decEv s).2 = 0 → mayEv (decEv s).1 = true ∧ encEv (decEv s).1 = (s, 0) := fun h => ⟨(dec_one h).1, by rw [enc_may (dec_one h).1, (dec_one h).2]⟩
        have hz : (decEv s).2 ≠ 0 → (decEv s).1 = zeroEv := dec_zero
        generalize decEv s = D at hfit ho hz ⊢
        obtain ⟨⟨k3, ⟨sp3, sc3, dp3, dc3, sq3, da3, th3, ta3⟩, ak3, ep3, ec3, ht3⟩, e3⟩ := D
        dsimp only at hfit ho hz ⊢
        refine Ife.mk (fun h => ?_) (fun h => ?_)
        · have h : e3 ≠ 0 := by simpa [Arith.std] using h
          have hz := hz h
          simp only [zeroEv, zeroPkt, Ev.mk.injEq, Pkt.mk.injEq] at hz
          obtain ⟨rfl, ⟨rfl, rfl, rfl, rfl, rfl, rfl, rfl, rfl⟩, rfl, rfl, rfl, rfl⟩ := hz
          simp [Arith.std]
        · have h : e3 = 0 := by simpa [Arith.std] using h
          obtain ⟨m, e⟩ := ho h
          refine Need.mk hfit fun _ => ?_
          refine Need.mk hfit fun _ => ?_
          simp [m, e, Arith.std, Ife_iff]
    

end Vx
open Go.RowKit
theorem eventBackWalk (w : World) (x : Ev) (hx : x.fits) (s : ByteArray) (hs : s.size ≤ maxLen) (n : Int) (hn : -9223372036854775808 ≤ n ∧ n ≤ 9223372036854775807) :
    Calls Try.prog 6 #[.agg (evCells x).toArray, .string s, .int .i64 n] w fun e w' => e = .returned (.bool true) ∧ Below w.heap.size w w' := by
  obtain ⟨l, rfl, hl⟩ := bytesOf s hs
  refine Calls.mono (Vx.backLawP.run [.agg (Vx.evC x), .c (.str l), .c (.int .i64 n)] _ _ rfl ⟨hx, hl, hn⟩ _ ⟨_, _, rfl, ⟨_, evC_is x, rfl⟩, _, _, rfl, rfl, _, _, rfl, rfl, rfl⟩ w) fun e W' he => ?_
  obtain ⟨u, rfl, h, hb⟩ := he
  obtain rfl : .bool true = u := Option.some.inj h
  exact ⟨rfl, hb⟩
end Go.Proofs.Ytpapfokdhmpmjaa
