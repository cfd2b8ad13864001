/- The law WireReads, by the walker. -/
import Derived.Test.YtfchejgohegbgaaVWLaw
namespace Go.Proofs.Ytfchejgohegbgaa
open Go.RowKit
set_option linter.unusedVariables false
set_option linter.unusedSimpArgs false
namespace Vx
theorem exec_block {N : Env} {M : List Nat} {id : Nat} {c : Code} {st : St} {K : Ex → St → Prop}
    (h : ∀ K' : Ex → St → Prop, (∀ st', K .normal st' → K' .normal st') → (∀ st', K .ret st' → K' .ret st') → (∀ st', K .normal st' → K' (.exit id) st') → exec N M c st K') : exec N M (.block id c) st K :=
  h _ (fun _ h => h) (fun _ h => h) (fun st' h => by show (if (id == id) = true then K .normal st' else K (.exit id) st'); rw [if_pos (by simp)]; exact h)

def sReads : SpecR
  | [.c (.str s), .c (.row 0)], [(n, get)] => some ((s.length ≤ 9223372036854775807 ∧ GtsAt n get ∧ n ≤ 9223372036854775807), .c (.bool true))
  | _, _ => none

set_option maxRecDepth 100000 in
set_option maxHeartbeats 2000000 in
theorem readsP : Rds Try.prog 14 3 sReads := by
  have hC : CtsOk Try.prog [(39, appPure sTrueW), (48, appMakes 92 sOf), (49, appMeth 92 sRdNum), (51, appMeth 92 sRdText), (53, appMeth 92 sHash), (55, appMeth 92 sCount), (58, appMethR 92 sRdErr), (59, appMethR 92 sRdEnd), (57, appMethR 92 sRdAt), (50, appMeth 72 sRdNum), (52, appMeth 72 sRdText), (54, appMeth 72 sHash), (56, appMeth 72 sCount), (60, appMethR 72 sRdEnd)] := CtsOk.cons (Pure.ct firstWP) <| CtsOk.cons (Makes.ct ofP) <| CtsOk.cons (Meth.ct rdNumP) <| CtsOk.cons (Meth.ct rdTextP) <| CtsOk.cons (Meth.ct rdHashP) <| CtsOk.cons (Meth.ct rdCountP) <| CtsOk.cons (Meth.ctR rdErrP (fun cs args pre res cs' h => by unfold sRdErr at h; split at h <;> cases h; rfl)) <| CtsOk.cons (Meth.ctR rdEndP (fun cs args pre res cs' h => by unfold sRdEnd at h; split at h <;> cases h; rfl)) <| CtsOk.cons (Meth.ctR rdAtP (fun cs args pre res cs' h => by unfold sRdAt at h; split at h <;> cases h; rfl)) <| CtsOk.cons (Meth.ct refNumP) <| CtsOk.cons (Meth.ct refTextP) <| CtsOk.cons (Meth.ct refHashP) <| CtsOk.cons (Meth.ct refCountP) <| CtsOk.cons (Meth.ctR refEndP (fun cs args pre res cs' h => by unfold sRdEnd at h; split at h <;> cases h; rfl)) <| CtsOk.nil _
  refine Rds.of (E := tbW) [] 0 [(16, [(2001, false), (2002, false), (0, true), (1, true), (2, true), (3, true), (4, true), (6, true), (7, true), (8, true), (9, true), (10, true), (5, false), (11, false), (12, true), (13, true)]), (18, [(2001, false), (2002, false), (0, true), (1, true), (2, true), (4, true), (5, true), (6, true), (3, false), (7, false), (8, true), (9, true)]), (14, [(2001, false), (2002, false), (0, true), (1, true), (2, true), (4, true), (5, true), (6, true), (3, false), (7, false), (8, true), (9, true)]), (21, [(0, true), (1, true), (2, true), (3, true), (5, true), (6, true), (7, true), (8, true), (4, false), (9, true), (10, true), (11, true), (12, true), (14, true), (15, true), (16, true), (17, true), (13, false), (18, true), (19, true), (20, true), (21, true), (23, true), (22, false), (24, false), (25, true), (26, true)])] tbW_ok hC (by kernel_rfl) Try.func14 rfl rfl rfl (by kernel_rfl) (by kernel_rfl) 74 1 ?_ ?_
  · intro args vs pre r h
    unfold sReads at h
    split at h
    · cases h; exact ⟨rfl, rfl⟩
    · cases h
  · intro args vs pre r h hp
    unfold sReads at h
    split at h
    rotate_left
    · cases h
    rename_i s n get
    cases h
    obtain ⟨hp1, hp2, hp3⟩ := hp
    refine ⟨_, hp2.same, ?_⟩
    rw [← exec_assoc, ← exec_assoc]
    refine exec_cut fun K hn hr _ => ?_
    replace hn := Lib.hid hn
    replace hr := Lib.hid hr
    unfold sTrueW sOf sRdNum sRdText sHash sCount sRdErr sRdEnd sRdAt
    generalize hg0 : numS = g0
    generalize hg1 : textS = g1
    generalize hg2 : hashS = g2
    generalize hg3 : countS = g3
    generalize hg4 : endS = g4
    generalize hg5 : okRd = g5
    generalize hg6 : byteI = g6
    generalize hg7 : gtAt = g7
    generalize hg8 : (List.length : List UInt8 → Nat) = g8
    generalize hA : Arith.std = A
    cbv
    subst hA hg0 hg1 hg2 hg3 hg4 hg5 hg6 hg7 hg8
    refine Need.mk trivial fun _ => ?_
    refine Ife.mk (fun _ => Need.mk trivial fun _ => hr.out _ (by rfl)) (fun hs => ?_)
    refine Ife.mk (fun _ => Need.mk trivial fun _ => hr.out _ (by rfl)) (fun _ => ?_)
    have hs : s.length ≤ 600 := by
      have h : ¬ (600 : Int) < s.length := of_decide_eq_false (p := (600 : Int) < s.length) hs
      exact Int.ofNat_le.mp (Int.not_lt.mp h)
    refine hn.out _ ?_
    clear hn hr
    unfold sTrueW sOf sRdNum sRdText sHash sCount sRdErr sRdEnd sRdAt
    generalize hg0 : numS = g0
    generalize hg1 : textS = g1
    generalize hg2 : hashS = g2
    generalize hg3 : countS = g3
    generalize hg4 : endS = g4
    generalize hg5 : okRd = g5
    generalize hg6 : byteI = g6
    generalize hg7 : gtAt = g7
    generalize hg8 : (List.length : List UInt8 → Nat) = g8
    generalize hL : lft Try.prog _ = L
    generalize hA : Arith.std = A
    cbv
    subst hA hg0 hg1 hg2 hg3 hg4 hg5 hg6 hg7 hg8 hL
    have h0 : okRd s 0 0 := ok_start (by omega)
    refine Need.mk trivial fun _ => ?_
    show Runs Try.prog 1 (.loop _) _ _
    refine loop_ruleR (N := env (lft Try.prog 1) 0 .std tbW [(39, appPure sTrueW), (48, appMakes 92 sOf), (49, appMeth 92 sRdNum), (51, appMeth 92 sRdText), (53, appMeth 92 sHash), (55, appMeth 92 sCount), (58, appMethR 92 sRdErr), (59, appMethR 92 sRdEnd), (57, appMethR 92 sRdAt), (50, appMeth 72 sRdNum), (52, appMeth 72 sRdText), (54, appMeth 72 sHash), (56, appMeth 72 sCount), (60, appMethR 72 sRdEnd)] [(16, [(2001, false), (2002, false), (0, true), (1, true), (2, true), (3, true), (4, true), (6, true), (7, true), (8, true), (9, true), (10, true), (5, false), (11, false), (12, true), (13, true)]), (18, [(2001, false), (2002, false), (0, true), (1, true), (2, true), (4, true), (5, true), (6, true), (3, false), (7, false), (8, true), (9, true)]), (14, [(2001, false), (2002, false), (0, true), (1, true), (2, true), (4, true), (5, true), (6, true), (3, false), (7, false), (8, true), (9, true)]), (21, [(0, true), (1, true), (2, true), (3, true), (5, true), (6, true), (7, true), (8, true), (4, false), (9, true), (10, true), (11, true), (12, true), (14, true), (15, true), (16, true), (17, true), (13, false), (18, true), (19, true), (20, true), (21, true), (23, true), (22, false), (24, false), (25, true), (26, true)])]) rfl tbW_ok hC (fun c st K _ h => h) (by kernel_rfl) [] (X := LR s n)
        (S := fun x => ⟨[.any, .c (.row 0), .any, .any, .any, .c (.ptr 1 0), .c (.ptr 2 0), .c (.int .i64 x.i)] ++ List.replicate 106 .any, [.elems 74 3 n (fun i => gtC (gtAt (get i))), .cells 92 [.str s, .int .i64 x.a, .int .i64 x.b], .cells 72 [.str s, .int .i64 x.a, .int .i64 x.b]]⟩) (μ := fun x => n - x.i.toNat) ⟨0, 0, 0, by omega, by omega, h0⟩ (by kernel_rfl) [0, 1, 2] ?_ ?_
    · refine ⟨rfl, by decide, ?_, ?_⟩ <;> repeat' (first | exact trivial | exact rfl | apply And.intro)
    rintro ⟨i, a, b, hi0, hin, hok⟩
    refine exec_cut fun K hn hr hx => ?_
    replace hn := Lib.hid hn
    replace hx := Lib.hid hx
    clear hr
    unfold sTrueW sOf sRdNum sRdText sHash sCount sRdErr sRdEnd sRdAt
    generalize hg0 : numS = g0
    generalize hg1 : textS = g1
    generalize hg2 : hashS = g2
    generalize hg3 : countS = g3
    generalize hg4 : endS = g4
    generalize hg5 : okRd = g5
    generalize hg6 : byteI = g6
    generalize hg7 : gtAt = g7
    generalize hg8 : (List.length : List UInt8 → Nat) = g8
    generalize hL : lft Try.prog _ = L
    generalize hA : Arith.std = A
    cbv
    subst hA hg0 hg1 hg2 hg3 hg4 hg5 hg6 hg7 hg8 hL
    refine Ife.mk (fun hc => ?_) (fun hc => ?_)
    rotate_left
    · refine hx.out _ _ ?_
      clear hx hn
      generalize hg0 : numS = g0
      generalize hg1 : textS = g1
      generalize hg2 : hashS = g2
      generalize hg3 : countS = g3
      generalize hg4 : endS = g4
      generalize hg5 : okRd = g5
      generalize hg6 : byteI = g6
      generalize hg7 : gtAt = g7
      generalize hg8 : (List.length : List UInt8 → Nat) = g8
      generalize hL : lft Try.prog _ = L
      generalize hA : Arith.std = A
      cbv
      subst hA hg0 hg1 hg2 hg3 hg4 hg5 hg6 hg7 hg8 hL
      exact Need.mk hok fun _ => Need.mk hok fun _ => decide_eq_true rfl
    refine hn.out _ ?_
    refine exec_cut fun K2 hn2 hr2 hx2 => ?_
    clear hn hx hr2 hx2
    replace hn2 := Lib.hid hn2
    refine exec_block fun K3 hn3 hr3 hx3 => ?_
    clear hr3 hx3
    replace hn3 := Lib.hid hn3
    rw [← exec_assoc, ← exec_assoc]
    refine exec_cut fun K4 hn4 hr4 hx4 => ?_
    clear hr4 hx4
    replace hn4 := Lib.hid hn4
    unfold sTrueW sOf sRdNum sRdText sHash sCount sRdErr sRdEnd sRdAt
    generalize hg0 : numS = g0
    generalize hg1 : textS = g1
    generalize hg2 : hashS = g2
    generalize hg3 : countS = g3
    generalize hg4 : endS = g4
    generalize hg5 : okRd = g5
    generalize hg6 : byteI = g6
    generalize hg7 : gtAt = g7
    generalize hg8 : (List.length : List UInt8 → Nat) = g8
    generalize hL : lft Try.prog _ = L
    generalize hA : Arith.std = A
    cbv
    subst hA hg0 hg1 hg2 hg3 hg4 hg5 hg6 hg7 hg8 hL
    have hc : i < (n : Int) := of_decide_eq_true (p := i < (n : Int)) hc
    replace hc : i + 1 ≤ (n : Int) := Int.add_one_le_of_lt hc
    refine Need.mk ⟨hi0, Int.lt_of_add_one_le hc⟩ fun _ => Need.mk (by show i.toNat < n; omega) fun _ => ?_
    refine Ife.mk (fun _ => ?_) (fun _ => Ife.mk (fun _ => ?_) (fun _ => Ife.mk (fun _ => ?_) (fun _ => ?_)))
    all_goals refine Need.mk hok fun _ => Need.mk hok fun _ => hn4.out _ ?_
    · have hk : okRd s (numS s a b (gtAt (get i.toNat)).lo (gtAt (get i.toNat)).hi).2.1 (numS s a b (gtAt (get i.toNat)).lo (gtAt (get i.toNat)).hi).2.2 := ok_num hok
      unfold sTrueW sOf sRdNum sRdText sHash sCount sRdErr sRdEnd sRdAt
      generalize hg0 : numS = g0
      generalize hg1 : textS = g1
      generalize hg2 : hashS = g2
      generalize hg3 : countS = g3
      generalize hg4 : endS = g4
      generalize hg5 : okRd = g5
      generalize hg6 : byteI = g6
      generalize hg7 : gtAt = g7
      generalize hg8 : (List.length : List UInt8 → Nat) = g8
      generalize hL : lft Try.prog _ = L
      generalize hA : Arith.std = A
      cbv
      subst hA hg0 hg1 hg2 hg3 hg4 hg5 hg6 hg7 hg8 hL
      simp only [Arith.std, decide_true, Bool.not_true, Bool.and_true, Bool.and_self, Int.toNat_natCast]
      repeat (first | refine Ife.mk (fun h => by cases h) fun _ => ?_ | refine Need.mk trivial fun _ => ?_ | refine Need.mk hk fun _ => ?_)
      refine hn3.out _ (hn2.out _ ?_)
      generalize hg0 : numS = g0
      generalize hg1 : textS = g1
      generalize hg2 : hashS = g2
      generalize hg3 : countS = g3
      generalize hg4 : endS = g4
      generalize hg5 : okRd = g5
      generalize hg6 : byteI = g6
      generalize hg7 : gtAt = g7
      generalize hg8 : (List.length : List UInt8 → Nat) = g8
      generalize hL : lft Try.prog _ = L
      generalize hA : Arith.std = A
      cbv
      subst hA hg0 hg1 hg2 hg3 hg4 hg5 hg6 hg7 hg8 hL
      replace hc : i + 1 ≤ @Nat.cast Int instNatCastInt n := hc
      refine Need.mk (by show fitStd .i64 (i + 1); unfold fitStd; omega) fun _ => ?_
      refine ⟨⟨i + 1, (numS s a b (gtAt (get i.toNat)).lo (gtAt (get i.toNat)).hi).2.1, (numS s a b (gtAt (get i.toNat)).lo (gtAt (get i.toNat)).hi).2.2, by omega, by omega, hk⟩, [0, 1, 2], by show n - (i + 1).toNat < n - i.toNat; omega, ?_⟩
      refine ⟨rfl, by decide, ?_, ?_⟩ <;> repeat' (first | exact trivial | exact rfl | apply And.intro)
    · have hk : okRd s (textS s a b (gtAt (get i.toNat)).hi).2.1 (textS s a b (gtAt (get i.toNat)).hi).2.2 := ok_text hok
      unfold sTrueW sOf sRdNum sRdText sHash sCount sRdErr sRdEnd sRdAt
      generalize hg0 : numS = g0
      generalize hg1 : textS = g1
      generalize hg2 : hashS = g2
      generalize hg3 : countS = g3
      generalize hg4 : endS = g4
      generalize hg5 : okRd = g5
      generalize hg6 : byteI = g6
      generalize hg7 : gtAt = g7
      generalize hg8 : (List.length : List UInt8 → Nat) = g8
      generalize hL : lft Try.prog _ = L
      generalize hA : Arith.std = A
      cbv
      subst hA hg0 hg1 hg2 hg3 hg4 hg5 hg6 hg7 hg8 hL
      simp only [Arith.std, decide_true, Bool.not_true, Bool.and_true, Bool.and_self, Int.toNat_natCast]
      repeat (first | refine Ife.mk (fun h => by cases h) fun _ => ?_ | refine Need.mk trivial fun _ => ?_ | refine Need.mk hk fun _ => ?_)
      refine hn3.out _ (hn2.out _ ?_)
      generalize hg0 : numS = g0
      generalize hg1 : textS = g1
      generalize hg2 : hashS = g2
      generalize hg3 : countS = g3
      generalize hg4 : endS = g4
      generalize hg5 : okRd = g5
      generalize hg6 : byteI = g6
      generalize hg7 : gtAt = g7
      generalize hg8 : (List.length : List UInt8 → Nat) = g8
      generalize hL : lft Try.prog _ = L
      generalize hA : Arith.std = A
      cbv
      subst hA hg0 hg1 hg2 hg3 hg4 hg5 hg6 hg7 hg8 hL
      replace hc : i + 1 ≤ @Nat.cast Int instNatCastInt n := hc
      refine Need.mk (by show fitStd .i64 (i + 1); unfold fitStd; omega) fun _ => ?_
      refine ⟨⟨i + 1, (textS s a b (gtAt (get i.toNat)).hi).2.1, (textS s a b (gtAt (get i.toNat)).hi).2.2, by omega, by omega, hk⟩, [0, 1, 2], by show n - (i + 1).toNat < n - i.toNat; omega, ?_⟩
      refine ⟨rfl, by decide, ?_, ?_⟩ <;> repeat' (first | exact trivial | exact rfl | apply And.intro)
    · have hk : okRd s (hashS s a b).2.1 (hashS s a b).2.2 := ok_hash hok
      unfold sTrueW sOf sRdNum sRdText sHash sCount sRdErr sRdEnd sRdAt
      generalize hg0 : numS = g0
      generalize hg1 : textS = g1
      generalize hg2 : hashS = g2
      generalize hg3 : countS = g3
      generalize hg4 : endS = g4
      generalize hg5 : okRd = g5
      generalize hg6 : byteI = g6
      generalize hg7 : gtAt = g7
      generalize hg8 : (List.length : List UInt8 → Nat) = g8
      generalize hL : lft Try.prog _ = L
      generalize hA : Arith.std = A
      cbv
      subst hA hg0 hg1 hg2 hg3 hg4 hg5 hg6 hg7 hg8 hL
      simp only [Arith.std, decide_true, Bool.not_true, Bool.and_true, Bool.and_self, Int.toNat_natCast]
      repeat (first | refine Ife.mk (fun h => by cases h) fun _ => ?_ | refine Need.mk trivial fun _ => ?_ | refine Need.mk hk fun _ => ?_)
      refine hn3.out _ (hn2.out _ ?_)
      generalize hg0 : numS = g0
      generalize hg1 : textS = g1
      generalize hg2 : hashS = g2
      generalize hg3 : countS = g3
      generalize hg4 : endS = g4
      generalize hg5 : okRd = g5
      generalize hg6 : byteI = g6
      generalize hg7 : gtAt = g7
      generalize hg8 : (List.length : List UInt8 → Nat) = g8
      generalize hL : lft Try.prog _ = L
      generalize hA : Arith.std = A
      cbv
      subst hA hg0 hg1 hg2 hg3 hg4 hg5 hg6 hg7 hg8 hL
      replace hc : i + 1 ≤ @Nat.cast Int instNatCastInt n := hc
      refine Need.mk (by show fitStd .i64 (i + 1); unfold fitStd; omega) fun _ => ?_
      refine ⟨⟨i + 1, (hashS s a b).2.1, (hashS s a b).2.2, by omega, by omega, hk⟩, [0, 1, 2], by show n - (i + 1).toNat < n - i.toNat; omega, ?_⟩
      refine ⟨rfl, by decide, ?_, ?_⟩ <;> repeat' (first | exact trivial | exact rfl | apply And.intro)
    · have hk : okRd s (countS s a b (gtAt (get i.toNat)).hi).2.1 (countS s a b (gtAt (get i.toNat)).hi).2.2 := ok_count hok
      unfold sTrueW sOf sRdNum sRdText sHash sCount sRdErr sRdEnd sRdAt
      generalize hg0 : numS = g0
      generalize hg1 : textS = g1
      generalize hg2 : hashS = g2
      generalize hg3 : countS = g3
      generalize hg4 : endS = g4
      generalize hg5 : okRd = g5
      generalize hg6 : byteI = g6
      generalize hg7 : gtAt = g7
      generalize hg8 : (List.length : List UInt8 → Nat) = g8
      generalize hL : lft Try.prog _ = L
      generalize hA : Arith.std = A
      cbv
      subst hA hg0 hg1 hg2 hg3 hg4 hg5 hg6 hg7 hg8 hL
      simp only [Arith.std, decide_true, Bool.not_true, Bool.and_true, Bool.and_self, Int.toNat_natCast]
      repeat (first | refine Ife.mk (fun h => by cases h) fun _ => ?_ | refine Need.mk trivial fun _ => ?_ | refine Need.mk hk fun _ => ?_)
      refine hn3.out _ (hn2.out _ ?_)
      generalize hg0 : numS = g0
      generalize hg1 : textS = g1
      generalize hg2 : hashS = g2
      generalize hg3 : countS = g3
      generalize hg4 : endS = g4
      generalize hg5 : okRd = g5
      generalize hg6 : byteI = g6
      generalize hg7 : gtAt = g7
      generalize hg8 : (List.length : List UInt8 → Nat) = g8
      generalize hL : lft Try.prog _ = L
      generalize hA : Arith.std = A
      cbv
      subst hA hg0 hg1 hg2 hg3 hg4 hg5 hg6 hg7 hg8 hL
      replace hc : i + 1 ≤ @Nat.cast Int instNatCastInt n := hc
      refine Need.mk (by show fitStd .i64 (i + 1); unfold fitStd; omega) fun _ => ?_
      refine ⟨⟨i + 1, (countS s a b (gtAt (get i.toNat)).hi).2.1, (countS s a b (gtAt (get i.toNat)).hi).2.2, by omega, by omega, hk⟩, [0, 1, 2], by show n - (i + 1).toNat < n - i.toNat; omega, ?_⟩
      refine ⟨rfl, by decide, ?_, ?_⟩ <;> repeat' (first | exact trivial | exact rfl | apply And.intro)

end Vx
open Go.ChangeShapes Go.WideShapes Go.ChangeAt
theorem wireReadsWalk (w : World) (s : ByteArray) (hs : s.size ≤ maxLen) (a : Option Addr) (cap : Nat) (xs : List Gt) (hE : GtsIn w a xs) (hn : xs.length ≤ maxLen) :
    Calls Try.prog 14 #[.string s, .slice a xs.length cap] w fun e w' => e = .returned (.bool true) ∧ Below w.heap.size w w' := by
  obtain ⟨l, rfl, hl⟩ := bytesOfG s hs
  obtain ⟨p, hp, g⟩ := GtsIn.good (cap := cap) hE
  rw [← hp]
  refine Calls.mono (Vx.readsP.run [.c (.str l), .c (.row 0)] [(xs.length, fun i => Vx.gtC (xs.getD i zeroGt))] _ _ rfl ⟨hl, hE.at_, hn⟩ w [p] _ (Vx.GoodL.cons g (Vx.GoodL.nil _ _))
    ⟨_, _, rfl, rfl, _, _, rfl, isRow g, rfl⟩) fun e W' he => ?_
  obtain ⟨u, rfl, h, hb⟩ := he
  obtain rfl : .bool true = u := Option.some.inj h
  exact ⟨rfl, hb⟩
end Go.Proofs.Ytfchejgohegbgaa
