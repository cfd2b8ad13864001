/- The law WireBack, by the walker. -/
import Derived.Test.YtfchejgohegbgaaWBack
namespace Go.Proofs.Ytfchejgohegbgaa
open Go.RowKit
set_option linter.unusedVariables false
set_option linter.unusedSimpArgs false

namespace Vx
theorem backR_stop (xs : List Pu) (l : List UInt8) (a b : Int) (h : b ≠ 0) : backR xs l (a, b) = some (a, b) := by
  cases xs with
  | nil => rfl
  | cons x xs => rw [backR, if_pos h]
structure LB (s : List UInt8) (xs : List Pu) where
  i : Int
  a : Int
  b : Int
  h0 : 0 ≤ i
  h1 : i ≤ (xs.length : Int)
  ok : okRd s a b
  inv : backR (xs.drop i.toNat) s (a, b) = backR xs s (0, 0)
noncomputable def sBack : SpecR
  | [.c (.str s), .c (.row 0), .c (.int .i64 e)], [(n, get)] => some ((s.length ≤ 140737488351232 ∧ PutsAt n get ∧ n ≤ 9223372036854775807), .c (.bool (backB s (pusOf n get) e)))
  | _, _ => none

set_option maxRecDepth 100000 in
set_option maxHeartbeats 2000000 in
theorem backP : Rds Try.prog 47 35 sBack := by
  have hC : CtsOk Try.prog [(48, appMakes 92 sOf), (49, appMeth 92 sRdNum), (51, appMeth 92 sRdText), (53, appMeth 92 sHash), (58, appMethR 92 sRdErr), (59, appMethR 92 sRdEnd)] := CtsOk.cons (Makes.ct ofP) <| CtsOk.cons (Meth.ct rdNumP) <| CtsOk.cons (Meth.ct rdTextP) <| CtsOk.cons (Meth.ct rdHashP) <| CtsOk.cons (Meth.ctR rdErrP (fun cs args pre res cs' h => by unfold sRdErr at h; split at h <;> cases h; rfl)) <| CtsOk.cons (Meth.ctR rdEndP (fun cs args pre res cs' h => by unfold sRdEnd at h; split at h <;> cases h; rfl)) <| CtsOk.nil _
  refine Rds.of (E := tbW) [] 0 [] tbW_ok hC (by kernel_rfl) Try.func47 rfl rfl rfl (by kernel_rfl) (by kernel_rfl) 61 1 ?_ ?_
  · intro args vs pre r h
    unfold sBack at h
    split at h
    · cases h; exact ⟨rfl, rfl⟩
    · cases h
  · intro args vs pre r h hp
    unfold sBack at h
    split at h
    rotate_left
    · cases h
    rename_i s e n get
    cases h
    obtain ⟨hp0, hp1, hp3⟩ := hp
    have hnl := len_pus n get
    refine ⟨_, hp1.same, ?_⟩
    show exec _ _ _ ⟨_, [.elems 61 35 n (fun i => puE byteI (puAt (get i)))]⟩ _
    generalize hP : pusOf n get = P at hnl ⊢
    rw [← exec_assoc]
    refine exec_cut fun K hn hr _ => ?_
    replace hn := Lib.hid hn
    replace hr := Lib.hid hr
    unfold sOf sRdNum sRdText sHash sRdErr sRdEnd
    generalize hg0 : numS = g0
    generalize hg1 : textS = g1
    generalize hg2 : hashS = g2
    generalize hg3 : endS = g3
    generalize hg4 : okRd = g4
    generalize hg5 : byteI = g5
    generalize hg6 : puAt = g6
    generalize hg7 : backB = g7
    generalize hg8 : (List.length : List UInt8 → Nat) = g8
    generalize hL : lft Try.prog _ = L
    generalize hA : Arith.std = A
    cbv
    subst hA hg0 hg1 hg2 hg3 hg4 hg5 hg6 hg7 hg8 hL
    have h0 : okRd s 0 0 := ok_start (by omega)
    refine Need.mk trivial fun _ => ?_
    refine hn.out _ ?_
    clear hn hr
    generalize hg0 : numS = g0
    generalize hg1 : textS = g1
    generalize hg2 : hashS = g2
    generalize hg3 : endS = g3
    generalize hg4 : okRd = g4
    generalize hg5 : byteI = g5
    generalize hg6 : puAt = g6
    generalize hg7 : backB = g7
    generalize hg8 : (List.length : List UInt8 → Nat) = g8
    generalize hL : lft Try.prog _ = L
    generalize hA : Arith.std = A
    cbv
    subst hA hg0 hg1 hg2 hg3 hg4 hg5 hg6 hg7 hg8 hL
    show Runs Try.prog 1 (.loop _) _ _
    refine loop_ruleR (N := env (lft Try.prog 1) 0 .std tbW [(48, appMakes 92 sOf), (49, appMeth 92 sRdNum), (51, appMeth 92 sRdText), (53, appMeth 92 sHash), (58, appMethR 92 sRdErr), (59, appMethR 92 sRdEnd)] []) rfl tbW_ok hC (fun c st K _ h => h) (by kernel_rfl) [] (X := LB s P)
        (S := fun x => ⟨[.any, .c (.row 0), .c (.int .i64 e), .any, .any, .any, .any, .c (.ptr 1 0), .c (.int .i64 x.i)] ++ List.replicate 59 .any, [.elems 61 35 n (fun i => puE byteI (puAt (get i))), .cells 92 [.str s, .int .i64 x.a, .int .i64 x.b]]⟩) (μ := fun x => n - x.i.toNat) ⟨0, 0, 0, by omega, by omega, h0, rfl⟩ (by kernel_rfl) [0, 1] ?_ ?_
    · refine ⟨rfl, by decide, ?_, ?_⟩ <;> repeat' (first | exact trivial | exact rfl | apply And.intro)
    rintro ⟨i, a, b, hi0, hin, hok, hinv⟩
    refine exec_cut fun K hn hr hx => ?_
    replace hn := Lib.hid hn
    replace hx := Lib.hid hx
    clear hr
    unfold sOf sRdNum sRdText sHash sRdErr sRdEnd
    generalize hg0 : numS = g0
    generalize hg1 : textS = g1
    generalize hg2 : hashS = g2
    generalize hg3 : endS = g3
    generalize hg4 : okRd = g4
    generalize hg5 : byteI = g5
    generalize hg6 : puAt = g6
    generalize hg7 : backB = g7
    generalize hg8 : (List.length : List UInt8 → Nat) = g8
    generalize hL : lft Try.prog _ = L
    generalize hA : Arith.std = A
    cbv
    subst hA hg0 hg1 hg2 hg3 hg4 hg5 hg6 hg7 hg8 hL
    replace hi0 : 0 ≤ i := hi0
    replace hin : i ≤ (P.length : Int) := hin
    have hin : i ≤ @Nat.cast Int instNatCastInt n := by rw [hnl] at hin; exact hin
    refine Ife.mk (fun hc => ?_) (fun hc => ?_)
    rotate_left
    · refine hx.out _ _ ?_
      clear hx hn
      unfold sRdEnd
      generalize hg0 : numS = g0
      generalize hg1 : textS = g1
      generalize hg2 : hashS = g2
      generalize hg3 : endS = g3
      generalize hg4 : okRd = g4
      generalize hg5 : byteI = g5
      generalize hg6 : puAt = g6
      generalize hg7 : backB = g7
      generalize hg8 : (List.length : List UInt8 → Nat) = g8
      generalize hL : lft Try.prog _ = L
      generalize hA : Arith.std = A
      cbv
      subst hA hg0 hg1 hg2 hg3 hg4 hg5 hg6 hg7 hg8 hL
      refine Need.mk hok fun _ => ?_
      have hc : ¬ i < @Nat.cast Int instNatCastInt n := of_decide_eq_false hc
      rw [List.drop_of_length_le (by omega)] at hinv
      show decide (endS s a b = e) = backB s P e
      unfold backB
      rw [← hinv]
      rfl
    have hc : i + 1 ≤ @Nat.cast Int instNatCastInt n := Int.add_one_le_of_lt (of_decide_eq_true (p := i < (n : Int)) hc)
    refine Need.mk trivial fun _ => Ife.mk (fun hb => ?_) (fun hb => ?_)
    rotate_left
    · refine hx.out _ _ ?_
      clear hx hn
      unfold sRdEnd
      generalize hg0 : numS = g0
      generalize hg1 : textS = g1
      generalize hg2 : hashS = g2
      generalize hg3 : endS = g3
      generalize hg4 : okRd = g4
      generalize hg5 : byteI = g5
      generalize hg6 : puAt = g6
      generalize hg7 : backB = g7
      generalize hg8 : (List.length : List UInt8 → Nat) = g8
      generalize hL : lft Try.prog _ = L
      generalize hA : Arith.std = A
      cbv
      subst hA hg0 hg1 hg2 hg3 hg4 hg5 hg6 hg7 hg8 hL
      refine Need.mk hok fun _ => ?_
      have hb : ¬ b = 0 := of_decide_eq_false hb
      rw [backR_stop _ _ _ _ hb] at hinv
      show decide (endS s a b = e) = backB s P e
      unfold backB
      rw [← hinv]
    obtain rfl : b = 0 := of_decide_eq_true hb
    clear hx hb
    refine hn.out _ ?_
    refine exec_cut fun K2 hn2 hr2 hx2 => ?_
    clear hn hx2
    replace hn2 := Lib.hid hn2
    replace hr2 := Lib.hid hr2
    refine exec_block fun K3 hn3 hr3 hx3 => ?_
    clear hx3
    replace hn3 := Lib.hid hn3
    replace hr3 := Lib.hid hr3
    rw [← exec_assoc, ← exec_assoc]
    refine exec_cut fun K4 hn4 hr4 hx4 => ?_
    clear hr4 hx4
    replace hn4 := Lib.hid hn4
    unfold sOf sRdNum sRdText sHash sRdErr sRdEnd
    generalize hg0 : numS = g0
    generalize hg1 : textS = g1
    generalize hg2 : hashS = g2
    generalize hg3 : endS = g3
    generalize hg4 : okRd = g4
    generalize hg5 : byteI = g5
    generalize hg6 : puAt = g6
    generalize hg7 : backB = g7
    generalize hg8 : (List.length : List UInt8 → Nat) = g8
    generalize hL : lft Try.prog _ = L
    generalize hA : Arith.std = A
    cbv
    subst hA hg0 hg1 hg2 hg3 hg4 hg5 hg6 hg7 hg8 hL
    refine Need.mk ⟨hi0, Int.lt_of_add_one_le hc⟩ fun _ => ?_
    replace hc : i + 1 ≤ @Nat.cast Int instNatCastInt n := hc
    refine Need.mk (by show i.toNat < n; omega) fun _ => ?_
    replace hc : i + 1 ≤ @Nat.cast Int instNatCastInt n := hc
    have hdrop : P.drop i.toNat = puAt (get i.toNat) :: P.drop (i + 1).toNat := by
      have e : (i + 1).toNat = i.toNat + 1 := by omega
      rw [List.drop_eq_getElem_cons (by omega), e]
      congr 1
      subst hP
      simp [pusOf]
    rw [hdrop, backR, if_neg (by simp)] at hinv
    generalize hy : puAt (get (Arith.std.natOf i)) = x at *
    have hyx : puAt (get i.toNat) = x := hy
    rw [hyx] at hinv
    have hrok : okRd s (rdX x s (a, 0)).2.1 (rdX x s (a, 0)).2.2 := rdX_ok hok
    refine Ife.mk (fun k0 => ?_) (fun k0 => Ife.mk (fun k1 => ?_) (fun k1 => ?_))
    all_goals refine Need.mk hok fun _ => hn4.out _ ?_
    · have k0 : x.k = 0 := of_decide_eq_true k0
      have hrd : rdX x s (a, 0) = (decide ((numS s a 0 0 72057594037927935).1 = x.n), (numS s a 0 0 72057594037927935).2) := by unfold rdX; rw [if_pos k0]
      rw [hrd] at hinv hrok
      dsimp only at hinv hrok
      unfold sOf sRdNum sRdText sHash sRdErr sRdEnd
      generalize hg0 : numS = g0
      generalize hg1 : textS = g1
      generalize hg2 : hashS = g2
      generalize hg3 : endS = g3
      generalize hg4 : okRd = g4
      generalize hg5 : byteI = g5
      generalize hg6 : puAt = g6
      generalize hg7 : backB = g7
      generalize hg8 : (List.length : List UInt8 → Nat) = g8
      generalize hL : lft Try.prog _ = L
      generalize hA : Arith.std = A
      cbv
      subst hA hg0 hg1 hg2 hg3 hg4 hg5 hg6 hg7 hg8 hL
      refine Ife.mk (fun hs => ?_) (fun hs => ?_)
      · have hs : (decide ((numS s a 0 0 72057594037927935).1 = x.n)) = false := by
          have : (!(decide ((numS s a 0 0 72057594037927935).1 = x.n))) = true := hs
          simpa using this
        refine Need.mk trivial fun _ => Ife.mk (fun he => ?_) (fun he => ?_)
        · have he : (numS s a 0 0 72057594037927935).2.2 = 0 := of_decide_eq_true he
          rw [if_pos ⟨hs, he⟩] at hinv
          refine hr3.out _ (hr2.out _ ?_)
          show backB s P e = false
          unfold backB
          rw [← hinv]
        · have he : ¬ (numS s a 0 0 72057594037927935).2.2 = 0 := of_decide_eq_false he
          rw [if_neg (fun h => he h.2)] at hinv
          refine hn3.out _ (hn2.out _ ?_)
          generalize hg0 : numS = g0
          generalize hg1 : textS = g1
          generalize hg2 : hashS = g2
          generalize hg3 : endS = g3
          generalize hg4 : okRd = g4
          generalize hg5 : byteI = g5
          generalize hg6 : puAt = g6
          generalize hg7 : backB = g7
          generalize hg8 : (List.length : List UInt8 → Nat) = g8
          generalize hL : lft Try.prog _ = L
          generalize hA : Arith.std = A
          cbv
          subst hA hg0 hg1 hg2 hg3 hg4 hg5 hg6 hg7 hg8 hL
          replace hc : i + 1 ≤ @Nat.cast Int instNatCastInt n := hc
          refine Need.mk (by show fitStd .i64 (i + 1); unfold fitStd; omega) fun _ => ?_
          refine ⟨⟨i + 1, (numS s a 0 0 72057594037927935).2.1, (numS s a 0 0 72057594037927935).2.2, by omega, by omega, hrok, hinv⟩, [0, 1], by show n - (i + 1).toNat < n - i.toNat; omega, ?_⟩
          refine ⟨rfl, by decide, ?_, ?_⟩ <;> repeat' (first | exact trivial | exact rfl | apply And.intro)
      · have hs : (decide ((numS s a 0 0 72057594037927935).1 = x.n)) = true := by
          have : (!(decide ((numS s a 0 0 72057594037927935).1 = x.n))) = false := hs
          simpa using this
        rw [if_neg (by rw [hs]; simp)] at hinv
        refine hn3.out _ (hn2.out _ ?_)
        generalize hg0 : numS = g0
        generalize hg1 : textS = g1
        generalize hg2 : hashS = g2
        generalize hg3 : endS = g3
        generalize hg4 : okRd = g4
        generalize hg5 : byteI = g5
        generalize hg6 : puAt = g6
        generalize hg7 : backB = g7
        generalize hg8 : (List.length : List UInt8 → Nat) = g8
        generalize hL : lft Try.prog _ = L
        generalize hA : Arith.std = A
        cbv
        subst hA hg0 hg1 hg2 hg3 hg4 hg5 hg6 hg7 hg8 hL
        replace hc : i + 1 ≤ @Nat.cast Int instNatCastInt n := hc
        refine Need.mk (by show fitStd .i64 (i + 1); unfold fitStd; omega) fun _ => ?_
        refine ⟨⟨i + 1, (numS s a 0 0 72057594037927935).2.1, (numS s a 0 0 72057594037927935).2.2, by omega, by omega, hrok, hinv⟩, [0, 1], by show n - (i + 1).toNat < n - i.toNat; omega, ?_⟩
        refine ⟨rfl, by decide, ?_, ?_⟩ <;> repeat' (first | exact trivial | exact rfl | apply And.intro)
    · have k0 : ¬ x.k = 0 := of_decide_eq_false k0
      have k1 : x.k = 1 := of_decide_eq_true k1
      have hrd : rdX x s (a, 0) = (decide ((textS s a 0 300).1 = x.s), (textS s a 0 300).2) := by unfold rdX; rw [if_neg k0, if_pos k1]
      rw [hrd] at hinv hrok
      dsimp only at hinv hrok
      unfold sOf sRdNum sRdText sHash sRdErr sRdEnd
      generalize hg0 : numS = g0
      generalize hg1 : textS = g1
      generalize hg2 : hashS = g2
      generalize hg3 : endS = g3
      generalize hg4 : okRd = g4
      generalize hg5 : byteI = g5
      generalize hg6 : puAt = g6
      generalize hg7 : backB = g7
      generalize hg8 : (List.length : List UInt8 → Nat) = g8
      generalize hL : lft Try.prog _ = L
      generalize hA : Arith.std = A
      cbv
      subst hA hg0 hg1 hg2 hg3 hg4 hg5 hg6 hg7 hg8 hL
      refine Ife.mk (fun hs => ?_) (fun hs => ?_)
      · have hs : (decide ((textS s a 0 300).1 = x.s)) = false := by
          have : (!(decide ((textS s a 0 300).1 = x.s))) = true := hs
          simpa using this
        refine Need.mk trivial fun _ => Ife.mk (fun he => ?_) (fun he => ?_)
        · have he : (textS s a 0 300).2.2 = 0 := of_decide_eq_true he
          rw [if_pos ⟨hs, he⟩] at hinv
          refine hr3.out _ (hr2.out _ ?_)
          show backB s P e = false
          unfold backB
          rw [← hinv]
        · have he : ¬ (textS s a 0 300).2.2 = 0 := of_decide_eq_false he
          rw [if_neg (fun h => he h.2)] at hinv
          refine hn3.out _ (hn2.out _ ?_)
          generalize hg0 : numS = g0
          generalize hg1 : textS = g1
          generalize hg2 : hashS = g2
          generalize hg3 : endS = g3
          generalize hg4 : okRd = g4
          generalize hg5 : byteI = g5
          generalize hg6 : puAt = g6
          generalize hg7 : backB = g7
          generalize hg8 : (List.length : List UInt8 → Nat) = g8
          generalize hL : lft Try.prog _ = L
          generalize hA : Arith.std = A
          cbv
          subst hA hg0 hg1 hg2 hg3 hg4 hg5 hg6 hg7 hg8 hL
          replace hc : i + 1 ≤ @Nat.cast Int instNatCastInt n := hc
          refine Need.mk (by show fitStd .i64 (i + 1); unfold fitStd; omega) fun _ => ?_
          refine ⟨⟨i + 1, (textS s a 0 300).2.1, (textS s a 0 300).2.2, by omega, by omega, hrok, hinv⟩, [0, 1], by show n - (i + 1).toNat < n - i.toNat; omega, ?_⟩
          refine ⟨rfl, by decide, ?_, ?_⟩ <;> repeat' (first | exact trivial | exact rfl | apply And.intro)
      · have hs : (decide ((textS s a 0 300).1 = x.s)) = true := by
          have : (!(decide ((textS s a 0 300).1 = x.s))) = false := hs
          simpa using this
        rw [if_neg (by rw [hs]; simp)] at hinv
        refine hn3.out _ (hn2.out _ ?_)
        generalize hg0 : numS = g0
        generalize hg1 : textS = g1
        generalize hg2 : hashS = g2
        generalize hg3 : endS = g3
        generalize hg4 : okRd = g4
        generalize hg5 : byteI = g5
        generalize hg6 : puAt = g6
        generalize hg7 : backB = g7
        generalize hg8 : (List.length : List UInt8 → Nat) = g8
        generalize hL : lft Try.prog _ = L
        generalize hA : Arith.std = A
        cbv
        subst hA hg0 hg1 hg2 hg3 hg4 hg5 hg6 hg7 hg8 hL
        replace hc : i + 1 ≤ @Nat.cast Int instNatCastInt n := hc
        refine Need.mk (by show fitStd .i64 (i + 1); unfold fitStd; omega) fun _ => ?_
        refine ⟨⟨i + 1, (textS s a 0 300).2.1, (textS s a 0 300).2.2, by omega, by omega, hrok, hinv⟩, [0, 1], by show n - (i + 1).toNat < n - i.toNat; omega, ?_⟩
        refine ⟨rfl, by decide, ?_, ?_⟩ <;> repeat' (first | exact trivial | exact rfl | apply And.intro)
    · have k0 : ¬ x.k = 0 := of_decide_eq_false k0
      have k1 : ¬ x.k = 1 := of_decide_eq_false k1
      have hrd : rdX x s (a, 0) = (sameH (hashS s a 0).1 x.h, (hashS s a 0).2) := by unfold rdX; rw [if_neg k0, if_neg k1]
      rw [hrd] at hinv hrok
      dsimp only at hinv hrok
      unfold sOf sRdNum sRdText sHash sRdErr sRdEnd
      generalize hg0 : numS = g0
      generalize hg1 : textS = g1
      generalize hg2 : hashS = g2
      generalize hg3 : endS = g3
      generalize hg4 : okRd = g4
      generalize hg5 : byteI = g5
      generalize hg6 : puAt = g6
      generalize hg7 : backB = g7
      generalize hg8 : (List.length : List UInt8 → Nat) = g8
      generalize hL : lft Try.prog _ = L
      generalize hA : Arith.std = A
      cbv
      subst hA hg0 hg1 hg2 hg3 hg4 hg5 hg6 hg7 hg8 hL
      refine Ife.mk (fun hs => ?_) (fun hs => ?_)
      · have hs : (sameH (hashS s a 0).1 x.h) = false := by
          have : (!(sameH (hashS s a 0).1 x.h)) = true := hs
          simpa using this
        refine Need.mk trivial fun _ => Ife.mk (fun he => ?_) (fun he => ?_)
        · have he : (hashS s a 0).2.2 = 0 := of_decide_eq_true he
          rw [if_pos ⟨hs, he⟩] at hinv
          refine hr3.out _ (hr2.out _ ?_)
          show backB s P e = false
          unfold backB
          rw [← hinv]
        · have he : ¬ (hashS s a 0).2.2 = 0 := of_decide_eq_false he
          rw [if_neg (fun h => he h.2)] at hinv
          refine hn3.out _ (hn2.out _ ?_)
          generalize hg0 : numS = g0
          generalize hg1 : textS = g1
          generalize hg2 : hashS = g2
          generalize hg3 : endS = g3
          generalize hg4 : okRd = g4
          generalize hg5 : byteI = g5
          generalize hg6 : puAt = g6
          generalize hg7 : backB = g7
          generalize hg8 : (List.length : List UInt8 → Nat) = g8
          generalize hL : lft Try.prog _ = L
          generalize hA : Arith.std = A
          cbv
          subst hA hg0 hg1 hg2 hg3 hg4 hg5 hg6 hg7 hg8 hL
          replace hc : i + 1 ≤ @Nat.cast Int instNatCastInt n := hc
          refine Need.mk (by show fitStd .i64 (i + 1); unfold fitStd; omega) fun _ => ?_
          refine ⟨⟨i + 1, (hashS s a 0).2.1, (hashS s a 0).2.2, by omega, by omega, hrok, hinv⟩, [0, 1], by show n - (i + 1).toNat < n - i.toNat; omega, ?_⟩
          refine ⟨rfl, by decide, ?_, ?_⟩ <;> repeat' (first | exact trivial | exact rfl | apply And.intro)
      · have hs : (sameH (hashS s a 0).1 x.h) = true := by
          have : (!(sameH (hashS s a 0).1 x.h)) = false := hs
          simpa using this
        rw [if_neg (by rw [hs]; simp)] at hinv
        refine hn3.out _ (hn2.out _ ?_)
        generalize hg0 : numS = g0
        generalize hg1 : textS = g1
        generalize hg2 : hashS = g2
        generalize hg3 : endS = g3
        generalize hg4 : okRd = g4
        generalize hg5 : byteI = g5
        generalize hg6 : puAt = g6
        generalize hg7 : backB = g7
        generalize hg8 : (List.length : List UInt8 → Nat) = g8
        generalize hL : lft Try.prog _ = L
        generalize hA : Arith.std = A
        cbv
        subst hA hg0 hg1 hg2 hg3 hg4 hg5 hg6 hg7 hg8 hL
        replace hc : i + 1 ≤ @Nat.cast Int instNatCastInt n := hc
        refine Need.mk (by show fitStd .i64 (i + 1); unfold fitStd; omega) fun _ => ?_
        refine ⟨⟨i + 1, (hashS s a 0).2.1, (hashS s a 0).2.2, by omega, by omega, hrok, hinv⟩, [0, 1], by show n - (i + 1).toNat < n - i.toNat; omega, ?_⟩
        refine ⟨rfl, by decide, ?_, ?_⟩ <;> repeat' (first | exact trivial | exact rfl | apply And.intro)

theorem puC_inj {x y : Pu} (hx : x.ok) (hy : y.ok) (h : puC x = puC y) : x = y := by
  have h1 := puC_is hx
  have h2 := puC_is hy
  rw [h] at h1
  have h3 := h1.unique h2
  unfold puCells at h3
  simp only [List.cons_append, List.nil_append, List.cons.injEq, Value.int.injEq, Value.string.injEq, true_and] at h3
  obtain ⟨e1, e2, e3, e4⟩ := h3
  have e5 : x.h = y.h := by
    have hinj : Function.Injective byteV := fun a b hab => by
      unfold byteV at hab
      simp only [Value.int.injEq, true_and] at hab
      exact UInt8.toNat_inj.1 (by omega)
    exact (List.map_inj_right (fun a b e => hinj e)).1 e4
  have e6 : x.s = y.s := by
    have := congrArg (fun z : ByteArray => z.data.toList) e3
    simpa using this
  cases x; cases y
  simp_all
theorem puAt_same {n : Nat} {get : Nat → List CV} (h : PutsAt n get) {i : Nat} (hi : i < n) : puAt (puC (puAt (get i))) = puAt (get i) := by
  have h1 := puAt_ok h hi
  have h2 : PutsAt n (fun i => puC (puAt (get i))) := fun i hi => ⟨puAt (get i), rfl, (puAt_ok h hi).2⟩
  have h3 := puAt_ok h2 hi
  exact puC_inj h3.2 h1.2 h3.1.symm
theorem few_same {n : Nat} {get : Nat → List CV} (h : PutsAt n get) : fewB n (fun i => puC (puAt (get i))) = fewB n get := by
  rw [Bool.eq_iff_iff, fewB_iff, fewB_iff]
  constructor
  · rintro ⟨a, b⟩
    exact ⟨a, fun i hi => by rw [← puAt_same h hi]; exact b i hi⟩
  · rintro ⟨a, b⟩
    exact ⟨a, fun i hi => by rw [puAt_same h hi]; exact b i hi⟩
theorem fine_of {n : Nat} {get : Nat → List CV} (h : PutsAt n get) (hf : fewB n get = true) (hb : anyBad (pusOf n get) = false) : ∀ x ∈ pusOf n get, PuFine x := fun x hx => by
  have h1 : isBad x = false := by
    unfold anyBad at hb
    rw [List.any_eq_false] at hb
    simpa using hb x hx
  unfold pusOf at hx
  obtain ⟨i, hi, rfl⟩ := List.mem_map.1 hx
  have hi : i < n := by simpa using hi
  exact ⟨h1, (fewB_iff.1 hf).2 i hi, (puAt_ok h hi).2.h⟩
theorem pus_same {n : Nat} {get : Nat → List CV} (h : PutsAt n get) : pusOf n (fun i => puC (puAt (get i))) = pusOf n get := by
  unfold pusOf
  apply List.map_congr_left
  intro i hi
  have hi : i < n := by simpa using hi
  have h1 := puAt_ok h hi
  have h2 : PutsAt n (fun i => puC (puAt (get i))) := fun i hi => ⟨puAt (get i), rfl, (puAt_ok h hi).2⟩
  have h3 := puAt_ok h2 hi
  exact puC_inj h3.2 h1.2 h3.1.symm
structure LV (n : Nat) (P : List Pu) where
  i : Int
  l : List UInt8
  b : Bool
  h0 : 0 ≤ i
  h1 : i ≤ (n : Int)
  w : wOf (P.take i.toNat) = (l, b)
noncomputable def sWBack : SpecR
  | [.c (.row 0), .c (.str m)], [(n, get)] => some ((PutsAt n get ∧ n ≤ 9223372036854775807 ∧ m.length ≤ 9223372036854775807), .c (.bool true))
  | _, _ => none

set_option maxRecDepth 100000 in
set_option maxHeartbeats 2000000 in
theorem wbackP : Rds Try.prog 13 35 sWBack := by
  have hC : CtsOk Try.prog [(39, appPure sTrueW), (40, appRds 35 sFew), (41, appMakesW 89 5), (44, appW 89 5 sNum), (45, appW 89 5 sText), (46, appW 89 5 sHashW), (43, appW 89 5 sBytes), (47, appRds 35 sBack)] := CtsOk.cons (Pure.ct firstWP) <| CtsOk.cons (Rds.ct fewP) <| CtsOk.cons (MakesW.ct newWP) <| CtsOk.cons (MethW.ct numP) <| CtsOk.cons (MethW.ct textP) <| CtsOk.cons (MethW.ct hashWP) <| CtsOk.cons (MethW.ct bytesP) <| CtsOk.cons (Rds.ct backP) <| CtsOk.nil _
  refine Rds.of (E := tbW) [] 0 [] tbW_ok hC (by kernel_rfl) Try.func13 rfl rfl rfl (by kernel_rfl) (by kernel_rfl) 61 1 ?_ ?_
  · intro args vs pre r h
    unfold sWBack at h
    split at h
    · cases h; exact ⟨rfl, rfl⟩
    · cases h
  · intro args vs pre r h hp
    unfold sWBack at h
    split at h
    rotate_left
    · cases h
    rename_i m n get
    cases h
    obtain ⟨hp1, hp3, hp4⟩ := hp
    refine ⟨_, hp1.same, ?_⟩
    show exec _ _ _ ⟨_, [.elems 61 35 n (fun i => puE byteI (puAt (get i)))]⟩ _
    have hp2 : PutsAt n (fun i => puE byteI (puAt (get i))) := fun i hi => ⟨puAt (get i), rfl, (puAt_ok hp1 hi).2⟩
    have hps : pusOf n (fun i => puE byteI (puAt (get i))) = pusOf n get := pus_same hp1
    rw [← exec_assoc, ← exec_assoc]
    refine exec_cut fun K hn hr _ => ?_
    replace hn := Lib.hid hn
    replace hr := Lib.hid hr
    unfold sTrueW sFew sNum sText sHashW sBytes sBack
    generalize hg0 : fitNum = g0
    generalize hg1 : fitText = g1
    generalize hg2 : numBad = g2
    generalize hg3 : numW = g3
    generalize hg4 : textW = g4
    generalize hg5 : bytesW = g5
    generalize hg6 : badW = g6
    generalize hg7 : putW = g7
    generalize hg8 : byteI = g8
    generalize hg9 : puAt = g9
    generalize hg10 : fewB = g10
    generalize hg11 : hashOf = g11
    generalize hg12 : isI64 = g12
    generalize hg13 : fitPut = g13
    generalize hg14 : Leb.put = g14
    generalize hg15 : pusOf = g15
    generalize hg16 : PutsAt = g16
    generalize hg17 : backB = g17
    generalize hg18 : (List.length : List UInt8 → Nat) = g18
    generalize hA : Arith.std = A
    cbv
    subst hA hg0 hg1 hg2 hg3 hg4 hg5 hg6 hg7 hg8 hg9 hg10 hg11 hg12 hg13 hg14 hg15 hg16 hg17 hg18
    refine Need.mk trivial fun _ => Need.mk ⟨hp2, hp3⟩ fun _ => Ife.mk (fun _ => Need.mk trivial fun _ => hr.out _ (by rfl)) (fun hf => Ife.mk (fun _ => Need.mk trivial fun _ => hr.out _ (by rfl)) (fun hm1 => Ife.mk (fun _ => Need.mk trivial fun _ => hr.out _ (by rfl)) (fun hm2 => ?_)))
    have hf : fewB n (fun i => puE byteI (puAt (get i))) = true := by
      cases h : fewB n (fun i => puE byteI (puAt (get i))) with
      | true => rfl
      | false => rw [h] at hf; cases hf
    have hfew : fewB n get = true := (few_same hp1).symm.trans hf
    have hf2 := fewB_iff.1 hfew
    have hn30 := hf2.1
    have hm1 : m.length ≤ 40 := by
      have : ¬ (40 : Int) < m.length := of_decide_eq_false hm1
      omega
    have hm2 : m ≠ [] := fun h => by subst h; exact absurd hm2 (by decide)
    refine hn.out _ ?_
    clear hn hr hf
    have hnl := len_pus n get
    unfold sTrueW sFew sNum sText sHashW sBytes sBack
    generalize hg0 : fitNum = g0
    generalize hg1 : fitText = g1
    generalize hg2 : numBad = g2
    generalize hg3 : numW = g3
    generalize hg4 : textW = g4
    generalize hg5 : bytesW = g5
    generalize hg6 : badW = g6
    generalize hg7 : putW = g7
    generalize hg8 : byteI = g8
    generalize hg9 : puAt = g9
    generalize hg10 : fewB = g10
    generalize hg11 : hashOf = g11
    generalize hg12 : isI64 = g12
    generalize hg13 : fitPut = g13
    generalize hg14 : Leb.put = g14
    generalize hg15 : pusOf = g15
    generalize hg16 : PutsAt = g16
    generalize hg17 : backB = g17
    generalize hg18 : (List.length : List UInt8 → Nat) = g18
    generalize hL : lft Try.prog _ = L
    generalize hA : Arith.std = A
    cbv
    subst hA hg0 hg1 hg2 hg3 hg4 hg5 hg6 hg7 hg8 hg9 hg10 hg11 hg12 hg13 hg14 hg15 hg16 hg17 hg18 hL
    refine Need.mk trivial fun _ => ?_
    show Runs Try.prog 1 (.loop _) _ _
    refine loop_ruleL (N := env (lft Try.prog 1) 0 .std tbW [(39, appPure sTrueW), (40, appRds 35 sFew), (41, appMakesW 89 5), (44, appW 89 5 sNum), (45, appW 89 5 sText), (46, appW 89 5 sHashW), (43, appW 89 5 sBytes), (47, appRds 35 sBack)] []) rfl tbW_ok hC (fun c st K _ h => h) (by kernel_rfl) [] (X := LV n (pusOf n get))
        (S := fun x => ⟨[.c (.row 0), .c (.str m), .any, .any, .any, .c (.ptr 1 0), .c (.int .i64 x.i)] ++ List.replicate 99 .any, [.elems 61 35 n (fun i => puE byteI (puAt (get i))), .cells 89 [.row 2, .bool x.b], .bytes 5 x.l]⟩) (μ := fun x => n - x.i.toNat) ⟨0, [], false, by omega, by omega, rfl⟩ (by kernel_rfl) [0, 1, 2] ?_ ?_
    · refine ⟨rfl, by show [0, 1, 2].Nodup; decide, ?_, ?_⟩ <;> repeat' (first | exact trivial | exact rfl | apply And.intro)
    rintro ⟨i, l, b, hi0, hin, hw⟩
    refine exec_cut fun K2 hn2 hr2 hx2 => ?_
    replace hn2 := Lib.hid hn2
    replace hx2 := Lib.hid hx2
    clear hr2
    generalize hg0 : fitNum = g0
    generalize hg1 : fitText = g1
    generalize hg2 : numBad = g2
    generalize hg3 : numW = g3
    generalize hg4 : textW = g4
    generalize hg5 : bytesW = g5
    generalize hg6 : badW = g6
    generalize hg7 : putW = g7
    generalize hg8 : byteI = g8
    generalize hg9 : puAt = g9
    generalize hg10 : hashOf = g10
    generalize hg11 : isI64 = g11
    generalize hg12 : fitPut = g12
    generalize hg13 : Leb.put = g13
    generalize hg14 : (List.length : List UInt8 → Nat) = g14
    generalize hL : lft Try.prog _ = L
    generalize hA : Arith.std = A
    cbv
    subst hA hg0 hg1 hg2 hg3 hg4 hg5 hg6 hg7 hg8 hg9 hg10 hg11 hg12 hg13 hg14 hL
    replace hi0 : 0 ≤ i := hi0
    replace hin : i ≤ @Nat.cast Int instNatCastInt n := hin
    refine Ife.mk (fun hc => ?_) (fun hc => ?_)
    rotate_left
    · refine hx2.out _ _ ?_
      clear hn2 hx2
      generalize hg0 : fitNum = g0
      generalize hg1 : fitText = g1
      generalize hg2 : numBad = g2
      generalize hg3 : numW = g3
      generalize hg4 : textW = g4
      generalize hg5 : bytesW = g5
      generalize hg6 : badW = g6
      generalize hg7 : putW = g7
      generalize hg8 : byteI = g8
      generalize hg9 : puAt = g9
      generalize hg10 : hashOf = g10
      generalize hg11 : isI64 = g11
      generalize hg12 : fitPut = g12
      generalize hg13 : Leb.put = g13
      generalize hg14 : (List.length : List UInt8 → Nat) = g14
      generalize hg15 : backB = g15
      generalize hL : lft Try.prog _ = L
      generalize hA : Arith.std = A
      cbv
      subst hA hg0 hg1 hg2 hg3 hg4 hg5 hg6 hg7 hg8 hg9 hg10 hg11 hg12 hg13 hg14 hg15 hL
      replace hc : ¬ i < @Nat.cast Int instNatCastInt n := of_decide_eq_false hc
      replace hin : i ≤ @Nat.cast Int instNatCastInt n := hin
      rw [List.take_of_length_le (by omega)] at hw
      have hinv := WInv.take hfew n (Nat.le_refl n)
      rw [List.take_of_length_le (by omega)] at hinv
      obtain ⟨hi1, hi2, hi3, hi4⟩ := hinv
      rw [hw] at hi1 hi2 hi3
      dsimp only at hi1 hi2 hi3
      refine Need.mk trivial fun _ => ?_
      cases b with
      | true => exact Ife.mk (fun _ => Ife.mk (fun _ => by rfl) (fun h => by cases h)) (fun h => by cases h)
      | false =>
        have hfine := fine_of hp1 hfew hi1.symm
        have hl : l = catR (pusOf n get) := hi2 rfl
        have hll : l.length ≤ 12000 := by omega
        have hG : bytesW l false = l := rfl
        rw [hG]
        refine Ife.mk (fun h => by cases h) (fun _ => ?_)
        have e1 : backB l (pusOf n fun i => puE byteI (puAt (get i))) 0 = true := by rw [hps, hl]; exact backB_full hfine
        have e2 : backB (l ++ m) (pusOf n fun i => puE byteI (puAt (get i))) 3 = true := by rw [hps, hl]; exact backB_more hfine hm2
        refine Need.mk ⟨by show l.length ≤ 140737488351232; omega, hp2, hp3⟩ fun _ => Ife.mk (fun _ => ?_) (fun h => absurd e1 (by rw [h]; simp))
        refine Need.mk (by show (l.length : Int) + (m.length : Int) ≤ 9223372036854775807; omega) fun _ => ?_
        refine Need.mk ⟨by show (l ++ m).length ≤ 140737488351232; rw [List.length_append]; omega, hp2, hp3⟩ fun _ => Ife.mk (fun _ => ?_) (fun h => absurd e2 (by
          have h : backB (l ++ m) (pusOf n fun i => puE byteI (puAt (get i))) 3 = false := h
          rw [h]; simp))
        refine Ife.mk (fun _ => trivial) (fun hn0 => ?_)
        have hn0 : ¬ (@Nat.cast Int instNatCastInt n) = 0 := of_decide_eq_false hn0
        have hne : pusOf n get ≠ [] := fun h => by
          rw [h] at hnl
          simp at hnl
          omega
        have hpos := cat_pos hfine hne
        rw [← hl] at hpos
        have e3 : backB (l.take (l.length - 1)) (pusOf n fun i => puE byteI (puAt (get i))) 2 = true := by rw [hps, hl]; exact backB_less hfine hne
        have e4 : (l.take ((l.length : Int) - 1).toNat).drop (0 : Int).toNat = l.take (l.length - 1) := by
          rw [show ((l.length : Int) - 1).toNat = l.length - 1 by omega]
          rfl
        refine Ife.mk (fun _ => ?_) (fun h => absurd (of_decide_eq_false (p := (0 : Int) < (l.length : Int)) h) (by omega))
        refine Need.mk (by show fitStd .i64 ((l.length : Int) - 1); unfold fitStd; omega) fun _ => ?_
        refine Need.mk (by show (0 : Int) ≤ 0 ∧ 0 ≤ (l.length : Int) - 1 ∧ (l.length : Int) - 1 ≤ (l.length : Int); omega) fun _ => ?_
        refine Need.mk ⟨by show ((l.take ((l.length : Int) - 1).toNat).drop (0 : Int).toNat).length ≤ 140737488351232; rw [e4, List.length_take]; omega, hp2, hp3⟩ fun _ => ?_
        show backB ((l.take ((l.length : Int) - 1).toNat).drop (0 : Int).toNat) (pusOf n fun i => puE byteI (puAt (get i))) 2 = true
        rw [e4]
        exact e3
    refine hn2.out _ ?_
    refine exec_cut fun K3 hn3 hr3 hx3 => ?_
    clear hn2 hx2 hr3 hx3
    replace hn3 := Lib.hid hn3
    unfold sNum sText sHashW
    generalize hg0 : fitNum = g0
    generalize hg1 : fitText = g1
    generalize hg2 : numBad = g2
    generalize hg3 : numW = g3
    generalize hg4 : textW = g4
    generalize hg5 : bytesW = g5
    generalize hg6 : badW = g6
    generalize hg7 : putW = g7
    generalize hg8 : byteI = g8
    generalize hg9 : puAt = g9
    generalize hg10 : hashOf = g10
    generalize hg11 : isI64 = g11
    generalize hg12 : fitPut = g12
    generalize hg13 : Leb.put = g13
    generalize hg14 : (List.length : List UInt8 → Nat) = g14
    generalize hL : lft Try.prog _ = L
    generalize hA : Arith.std = A
    cbv
    subst hA hg0 hg1 hg2 hg3 hg4 hg5 hg6 hg7 hg8 hg9 hg10 hg11 hg12 hg13 hg14 hL
    replace hi0 : 0 ≤ i := hi0
    replace hin : i ≤ @Nat.cast Int instNatCastInt n := hin
    have hc : i + 1 ≤ @Nat.cast Int instNatCastInt n := Int.add_one_le_of_lt (of_decide_eq_true (p := i < (n : Int)) hc)
    refine Need.mk ⟨hi0, Int.lt_of_add_one_le hc⟩ fun _ => ?_
    replace hc : i + 1 ≤ @Nat.cast Int instNatCastInt n := hc
    have hlt : i.toNat < n := by omega
    refine Need.mk hlt fun _ => ?_
    have hx : (puAt (get i.toNat)).s.length ≤ 300 := hf2.2 i.toNat hlt
    have hxn := (puAt_ok hp1 hlt).2.n
    have hsn : (pusOf n get).take (i + 1).toNat = (pusOf n get).take i.toNat ++ [puAt (get i.toNat)] := by
      rw [← take_snoc hlt]
      congr 1
      omega
    have hinv := WInv.take hfew i.toNat (by omega)
    have hl1 := hinv.len
    rw [hw, List.length_take, hnl] at hl1
    have hl1 : l.length ≤ 12000 := by have : l.length ≤ 400 * min i.toNat n := hl1; omega
    generalize hy : puAt (get (Arith.std.natOf i)) = x at *
    have hyx : puAt (get i.toNat) = x := hy
    rw [hyx] at hx hxn hsn
    clear hy hyx hinv
    have N1 : Arith.std.inN i n := ⟨hi0, hc⟩
    have N2 : Arith.std.ltN (Arith.std.natOf i) n := hlt
    refine Ife.mk (fun k0 => ?_) (fun k0 => Ife.mk (fun k1 => ?_) (fun k1 => ?_))
    all_goals refine Need.mk N1 fun _ => Need.mk N2 fun _ => ?_
    · have k0 : x.k = 0 := of_decide_eq_true k0
      refine Need.mk ⟨hxn, by omega⟩ fun _ => ?_
      refine hn3.out _ ?_
      generalize hg0 : fitNum = g0
      generalize hg1 : fitText = g1
      generalize hg2 : numBad = g2
      generalize hg3 : numW = g3
      generalize hg4 : textW = g4
      generalize hg5 : bytesW = g5
      generalize hg6 : badW = g6
      generalize hg7 : putW = g7
      generalize hg8 : byteI = g8
      generalize hg9 : puAt = g9
      generalize hg10 : hashOf = g10
      generalize hg11 : isI64 = g11
      generalize hg12 : fitPut = g12
      generalize hg13 : Leb.put = g13
      generalize hg14 : (List.length : List UInt8 → Nat) = g14
      generalize hL : lft Try.prog _ = L
      generalize hA : Arith.std = A
      cbv
      subst hA hg0 hg1 hg2 hg3 hg4 hg5 hg6 hg7 hg8 hg9 hg10 hg11 hg12 hg13 hg14 hL
      replace hc : i + 1 ≤ @Nat.cast Int instNatCastInt n := hc
      refine Need.mk (by show fitStd .i64 (i + 1); unfold fitStd; omega) fun _ => ?_
      refine ⟨⟨i + 1, numW l x.n b, numBad x.n b, by omega, by omega, ?_⟩, [0, 1, 3], by show n - (i + 1).toNat < n - i.toNat; omega, ?_⟩
      rotate_left
      · refine ⟨rfl, by show [0, 1, 3].Nodup; decide, ?_, ?_⟩ <;> repeat' (first | exact trivial | exact rfl | apply And.intro)
      · rw [hsn, wOf_snoc, hw]; unfold wPut; rw [if_pos k0]
    · have k0 : ¬ x.k = 0 := of_decide_eq_false k0
      have k1 : x.k = 1 := of_decide_eq_true k1
      refine Need.mk (by show l.length + x.s.length ≤ 140737488351000; omega) fun _ => ?_
      refine hn3.out _ ?_
      generalize hg0 : fitNum = g0
      generalize hg1 : fitText = g1
      generalize hg2 : numBad = g2
      generalize hg3 : numW = g3
      generalize hg4 : textW = g4
      generalize hg5 : bytesW = g5
      generalize hg6 : badW = g6
      generalize hg7 : putW = g7
      generalize hg8 : byteI = g8
      generalize hg9 : puAt = g9
      generalize hg10 : hashOf = g10
      generalize hg11 : isI64 = g11
      generalize hg12 : fitPut = g12
      generalize hg13 : Leb.put = g13
      generalize hg14 : (List.length : List UInt8 → Nat) = g14
      generalize hL : lft Try.prog _ = L
      generalize hA : Arith.std = A
      cbv
      subst hA hg0 hg1 hg2 hg3 hg4 hg5 hg6 hg7 hg8 hg9 hg10 hg11 hg12 hg13 hg14 hL
      replace hc : i + 1 ≤ @Nat.cast Int instNatCastInt n := hc
      refine Need.mk (by show fitStd .i64 (i + 1); unfold fitStd; omega) fun _ => ?_
      refine ⟨⟨i + 1, textW l x.s b, numBad x.s.length b, by omega, by omega, ?_⟩, [0, 1, 3], by show n - (i + 1).toNat < n - i.toNat; omega, ?_⟩
      rotate_left
      · refine ⟨rfl, by show [0, 1, 3].Nodup; decide, ?_, ?_⟩ <;> repeat' (first | exact trivial | exact rfl | apply And.intro)
      · rw [hsn, wOf_snoc, hw]; unfold wPut; rw [if_neg k0, if_pos k1]
    · have k0 : ¬ x.k = 0 := of_decide_eq_false k0
      have k1 : ¬ x.k = 1 := of_decide_eq_false k1
      refine Need.mk (by show l.length ≤ 140737488355000; omega) fun _ => ?_
      refine hn3.out _ ?_
      generalize hg0 : fitNum = g0
      generalize hg1 : fitText = g1
      generalize hg2 : numBad = g2
      generalize hg3 : numW = g3
      generalize hg4 : textW = g4
      generalize hg5 : bytesW = g5
      generalize hg6 : badW = g6
      generalize hg7 : putW = g7
      generalize hg8 : byteI = g8
      generalize hg9 : puAt = g9
      generalize hg10 : hashOf = g10
      generalize hg11 : isI64 = g11
      generalize hg12 : fitPut = g12
      generalize hg13 : Leb.put = g13
      generalize hg14 : (List.length : List UInt8 → Nat) = g14
      generalize hL : lft Try.prog _ = L
      generalize hA : Arith.std = A
      cbv
      subst hA hg0 hg1 hg2 hg3 hg4 hg5 hg6 hg7 hg8 hg9 hg10 hg11 hg12 hg13 hg14 hL
      replace hc : i + 1 ≤ @Nat.cast Int instNatCastInt n := hc
      refine Need.mk (by show fitStd .i64 (i + 1); unfold fitStd; omega) fun _ => ?_
      refine ⟨⟨i + 1, putW l (sumB x) b, b, by omega, by omega, ?_⟩, [0, 1, 3], by show n - (i + 1).toNat < n - i.toNat; omega, ?_⟩
      rotate_left
      · refine ⟨rfl, by show [0, 1, 3].Nodup; decide, ?_, ?_⟩ <;> repeat' (first | exact trivial | exact rfl | apply And.intro)
      · rw [hsn, wOf_snoc, hw]; unfold wPut; rw [if_neg k0, if_neg k1]

end Vx
open Go.ChangeShapes Go.WideShapes Go.ChangeAt
theorem wireBackWalk (w : World) (a : Option Addr) (cap : Nat) (xs : List Pu) (hE : PutsIn w a xs) (hn : xs.length ≤ maxLen) (s : ByteArray) (hs : s.size ≤ maxLen) :
    Calls Try.prog 13 #[.slice a xs.length cap, .string s] w fun e w' => e = .returned (.bool true) ∧ Below w.heap.size w w' := by
  obtain ⟨l, rfl, hl⟩ := bytesOfG s hs
  obtain ⟨p, hp, g⟩ := PutsIn.good (cap := cap) hE
  rw [← hp]
  refine Calls.mono (Vx.wbackP.run [.c (.row 0), .c (.str l)] [(xs.length, fun i => Vx.puC (xs.getD i zeroPu))] _ _ rfl ⟨hE.at_, hn, hl⟩ w [p] _ (Vx.GoodL.cons g (Vx.GoodL.nil _ _))
    ⟨_, _, rfl, isRow g, _, _, rfl, rfl, rfl⟩) fun e W' he => ?_
  obtain ⟨u, rfl, h, hb⟩ := he
  obtain rfl : .bool true = u := Option.some.inj h
  exact ⟨rfl, hb⟩
end Go.Proofs.Ytfchejgohegbgaa
