/- What events are encoded as, by the walker. -/
import Derived.Test.YtpapfokdhmpmjaaVEnc
namespace Go.Proofs.Ytpapfokdhmpmjaa
set_option linter.unusedVariables false
set_option linter.unusedSimpArgs false

def encEv (x : Ev) : List UInt8 × Int := if mayEv x then (bytesW (wEv x ([], false)).1 (wEv x ([], false)).2, badW (wEv x ([], false)).2) else ([], 1)

theorem name_le {l : List UInt8} (h : nameOk l = true) : l.length ≤ 12 := by
  unfold nameOk at h
  simp at h
  exact h.2.2
theorem mayEnd_facts {l : List UInt8} {c : Int} (h : mayEnd l c = true) : l.length ≤ 12 ∧ 0 ≤ c ∧ c ≤ 999 := by
  unfold mayEnd at h
  simp only [Bool.and_eq_true, decide_eq_true_eq] at h
  exact ⟨name_le h.1, h.2⟩
theorem mayPkt_fit {p : Pkt} (h : mayPkt p = true) {l : List UInt8} (hl : l.length ≤ 10000000) : fitPk p l := by
  unfold mayPkt at h
  simp only [Bool.and_eq_true, decide_eq_true_eq, between] at h
  obtain ⟨⟨⟨⟨⟨h1, h2⟩, h3⟩, h4⟩, h5⟩, h6⟩ := h
  obtain ⟨a1, a2, a3⟩ := mayEnd_facts h1
  obtain ⟨b1, b2, b3⟩ := mayEnd_facts h2
  refine ⟨hl, by omega, by omega, by omega, ?_, ?_, ?_, ?_, ?_⟩ <;> unfold isI64 <;> omega
theorem mayEv_facts {x : Ev} (h : mayEv x = true) : (1 ≤ x.kind ∧ x.kind ≤ 7) ∧ x = plainEv x ∧ (hasPk x.kind = true → mayPkt x.pk = true) ∧ (x.kind = 3 → x.ack ≠ [] ∧ x.ack.length ≤ 32) ∧ (x.kind = 6 → mayEnd x.ep x.ec = true) ∧ (x.kind = 7 → 1 ≤ x.height ∧ x.height ≤ 1099511627776) := by
  unfold mayEv at h
  simp only [Bool.and_eq_true, decide_eq_true_eq, isKind, between] at h
  obtain ⟨⟨⟨h1, h2⟩, h3⟩, h4⟩ := h
  refine ⟨h1, h2, fun hp => ?_, fun h => ?_, fun h => ?_, fun h => ?_⟩
  · rw [hp] at h3; simpa using h3
  · rw [if_pos h] at h4; simpa using h4
  · rw [if_neg (by omega), if_pos h] at h4; exact h4
  · rw [if_neg (by omega), if_neg (by omega), if_pos h] at h4; simpa using h4

theorem len_pk {p : Pkt} (h : mayPkt p = true) {l : List UInt8} {b : Bool} {n : Nat} (hl : l.length ≤ n) : (wPk p (l, b)).1.length ≤ n + 400 := by
  unfold mayPkt at h
  simp only [Bool.and_eq_true, decide_eq_true_eq, between] at h
  obtain ⟨⟨⟨⟨⟨h1, h2⟩, h3⟩, h4⟩, h5⟩, h6⟩ := h
  have a1 := (mayEnd_facts h1).1
  have b1 := (mayEnd_facts h2).1
  have h0 := len_num (v := p.ta) (b := (wN p.th (wT p.data (wN p.seq (wN p.dc (wT p.dp (wN p.sc (wT p.sp (l, b)))))))).2) (len_num (v := p.th) (b := (wT p.data (wN p.seq (wN p.dc (wT p.dp (wN p.sc (wT p.sp (l, b))))))).2)
    (len_text (b := (wN p.seq (wN p.dc (wT p.dp (wN p.sc (wT p.sp (l, b)))))).2) (len_num (v := p.seq) (b := (wN p.dc (wT p.dp (wN p.sc (wT p.sp (l, b))))).2) (len_num (v := p.dc) (b := (wT p.dp (wN p.sc (wT p.sp (l, b)))).2)
      (len_text (b := (wN p.sc (wT p.sp (l, b))).2) (len_num (v := p.sc) (b := (wT p.sp (l, b)).2) (len_text (b := b) hl a1)) b1))) h4))
  exact Nat.le_trans h0 (by omega)

namespace Vx
def sEnc : List SV → Option (Prop × SV)
  | [.agg [.int .i64 k, .str sp, .int .i64 sc, .str dp, .int .i64 dc, .int .i64 sq, .str da, .int .i64 th, .int .i64 ta, .str ak, .str ep, .int .i64 ec, .int .i64 ht]] => some (Ev.fits ⟨k, ⟨sp, sc, dp, dc, sq, da, th, ta⟩, ak, ep, ec, ht⟩, .tup [(some (.str (encEv ⟨k, ⟨sp, sc, dp, dc, sq, da, th, ta⟩, ak, ep, ec, ht⟩).1), []), (some (.int .i64 (encEv ⟨k, ⟨sp, sc, dp, dc, sq, da, th, ta⟩, ak, ep, ec, ht⟩).2), [])])
  | _ => none

set_option maxRecDepth 100000 in
set_option maxHeartbeats 400000 in
theorem encP : Pure Try.prog 12 sEnc := by
  refine Pure.of (E := tb) (C := [(13, appPure sMayEv), (32, appPure sPacked), (30, appMakesW 82 5), (31, appW 82 5 sNum), (34, appW 82 5 sText), (35, appW 82 5 sBytes), (33, appW 82 5 sPkW)]) [1, 2, 3, 4, 5, 6, 7, 8, 9] 0 [] tb_ok (CtsOk.cons (Pure.ct mayP) <| CtsOk.cons (Pure.ct packedP) <| CtsOk.cons (MakesW.ct newWP) <| CtsOk.cons (MethW.ct numP) <| CtsOk.cons (MethW.ct textP) <| CtsOk.cons (MethW.ct bytesP) <| CtsOk.cons (MethW.ct pkWP) <| CtsOk.nil _) (by kernel_rfl) Try.func12 rfl rfl rfl (by kernel_rfl) (by kernel_rfl) ?_ ?_
  · intro args pre r h
    unfold sEnc at h
    split at h
    · cases h; first | rfl | exact ⟨rfl, rfl⟩
    · cases h
  · intro args pre r h hp
    unfold sEnc at h
    split at h
    rotate_left
    · cases h
    rename_i k sp sc dp dc sq da th ta ak ep ec ht
    cases h
    unfold sMayEv sPacked sNum sText sBytes sPkW
    generalize hg0 : mayEv = g0
    generalize hg1 : hasPk = g1
    generalize hg2 : numW = g2
    generalize hg3 : numBad = g3
    generalize hg4 : fitNum = g4
    generalize hg5 : fitText = g5
    generalize hg6 : textW = g6
    generalize hg7 : fitPk = g7
    generalize hg8 : wPk = g8
    generalize hg9 : bytesW = g9
    generalize hg10 : badW = g10
    generalize hg11 : encEv = g11
    generalize hg12 : Ev.fits = g12
    generalize hg13 : (List.length : List UInt8 → Nat) = g13
    generalize hA : Arith.std = A
    cbv
    subst hA hg0 hg1 hg2 hg3 hg4 hg5 hg6 hg7 hg8 hg9 hg10 hg11 hg12 hg13
    simp only [Arith.std, Int.reduceLT, Int.reduceLE, Int.reduceAdd, Int.reduceSub, Int.reduceEq, decide_true, decide_false, Bool.not_true, Bool.not_false, Ife_tt, Ife_ff, Need_tt, eq_self]
    refine Need.mk hp fun _ => ?_
    clear hp
    cases hm : mayEv ⟨k, ⟨sp, sc, dp, dc, sq, da, th, ta⟩, ak, ep, ec, ht⟩
    · simp [Ife_tt, Ife_ff, encEv, hm]
    obtain ⟨f1, f2, f3, f4, f5, f6⟩ := mayEv_facts hm
    clear f2
    dsimp only at f1 f3 f4 f5 f6
    simp only [Bool.not_true, Bool.not_false, Ife_tt, Ife_ff]
    have hk : isI64 k := by unfold isI64; omega
    have hz : ([] : List UInt8).length ≤ 0 := by simp
    have hb : ∀ n : Int, 0 ≤ n → n ≤ 1099511627776 → isI64 n := fun n h1 h2 => by unfold isI64; omega
    by_cases h3 : k = 3
    · subst h3
      obtain ⟨_, g2⟩ := f4 rfl
      have hP : hasPk 3 = true := by decide
      have hM := f3 hP
      simp only [hP, Int.reduceEq, decide_true, decide_false, Ife_tt, Ife_ff]
      repeat' refine Need.mk ?_ fun _ => ?_
      all_goals first
        | (apply fitText_of
           · repeat first | assumption | with_reducible apply len_pk | with_reducible apply len_num | with_reducible apply len_text
           · assumption
           · decide)
        | (apply fitNum_of
           · repeat first | assumption | with_reducible apply len_pk | with_reducible apply len_num | with_reducible apply len_text
           · assumption
           · decide)
        | (exact mayPkt_fit hM (Nat.le_trans (len_num hz) (by decide)))
        | (exact trivial)
        | (refine ⟨?_, ?_, trivial⟩ <;> simp [encEv, hm, wEv, hP, wN, wT])
    by_cases h6 : k = 6
    · subst h6
      obtain ⟨g1, g2, g3⟩ := mayEnd_facts (f5 rfl)
      have g4 := hb ec (by omega) (by omega)
      have hP : hasPk 6 = false := by decide
      simp only [hP, Int.reduceEq, decide_true, decide_false, Ife_tt, Ife_ff]
      repeat' refine Need.mk ?_ fun _ => ?_
      all_goals first
        | (apply fitText_of
           · repeat first | assumption | with_reducible apply len_pk | with_reducible apply len_num | with_reducible apply len_text
           · assumption
           · decide)
        | (apply fitNum_of
           · repeat first | assumption | with_reducible apply len_pk | with_reducible apply len_num | with_reducible apply len_text
           · assumption
           · decide)
        | (exact mayPkt_fit hM (Nat.le_trans (len_num hz) (by decide)))
        | (exact trivial)
        | (refine ⟨?_, ?_, trivial⟩ <;> simp [encEv, hm, wEv, hP, wN, wT])
    by_cases h7 : k = 7
    · subst h7
      obtain ⟨g1, g2⟩ := f6 rfl
      have g4 := hb ht (by omega) (by omega)
      have hP : hasPk 7 = false := by decide
      simp only [hP, Int.reduceEq, decide_true, decide_false, Ife_tt, Ife_ff]
      repeat' refine Need.mk ?_ fun _ => ?_
      all_goals first
        | (apply fitText_of
           · repeat first | assumption | with_reducible apply len_pk | with_reducible apply len_num | with_reducible apply len_text
           · assumption
           · decide)
        | (apply fitNum_of
           · repeat first | assumption | with_reducible apply len_pk | with_reducible apply len_num | with_reducible apply len_text
           · assumption
           · decide)
        | (exact mayPkt_fit hM (Nat.le_trans (len_num hz) (by decide)))
        | (exact trivial)
        | (refine ⟨?_, ?_, trivial⟩ <;> simp [encEv, hm, wEv, hP, wN, wT])
    · have hP : hasPk k = true := by simp [hasPk]; omega
      have hM := f3 hP
      simp only [hP, h3, h6, h7, decide_false, Ife_tt, Ife_ff]
      repeat' refine Need.mk ?_ fun _ => ?_
      all_goals first
        | (apply fitText_of
           · repeat first | assumption | with_reducible apply len_pk | with_reducible apply len_num | with_reducible apply len_text
           · assumption
           · decide)
        | (apply fitNum_of
           · repeat first | assumption | with_reducible apply len_pk | with_reducible apply len_num | with_reducible apply len_text
           · assumption
           · decide)
        | (exact mayPkt_fit hM (Nat.le_trans (len_num hz) (by decide)))
        | (exact trivial)
        | (refine ⟨?_, ?_, trivial⟩ <;> simp [encEv, hm, wEv, hP, h3, h6, h7, wN, wT])

end Vx
end Go.Proofs.Ytpapfokdhmpmjaa
