/- The laws WireStops and WireReads, by the walker. -/
import Derived.Test.YtfchejgohegbgaaVWire
import Derived.Test.YtfchejgohegbgaaOpenGet
import Derived.Lib.Hide
namespace Go.Proofs.Ytfchejgohegbgaa
open Go.RowKit
set_option linter.unusedVariables false
set_option linter.unusedSimpArgs false

namespace Vx
def sTrueW : List SV → Option (Prop × SV)
  | [] => some (True, .c .tt)
  | _ => none
set_option maxRecDepth 100000 in
set_option maxHeartbeats 400000 in
theorem firstWP : Pure Try.prog 39 sTrueW := by
  refine Pure.of (E := tbW) (C := [(41, appMakesW 89 5), (44, appW 89 5 sNum), (45, appW 89 5 sText), (43, appW 89 5 sBytes), (48, appMakes 92 sOf), (49, appMeth 92 sRdNum), (58, appMethR 92 sRdErr), (57, appMethR 92 sRdAt)]) [] 0 [] tbW_ok (CtsOk.cons (MakesW.ct newWP) <| CtsOk.cons (MethW.ct numP) <| CtsOk.cons (MethW.ct textP) <| CtsOk.cons (MethW.ct bytesP) <| CtsOk.cons (Makes.ct ofP) <| CtsOk.cons (Meth.ct rdNumP) <| CtsOk.cons (Meth.ctR rdErrP (fun cs args pre res cs' h => by unfold sRdErr at h; split at h <;> cases h; rfl)) <| CtsOk.cons (Meth.ctR rdAtP (fun cs args pre res cs' h => by unfold sRdAt at h; split at h <;> cases h; rfl)) <| CtsOk.nil _) (by kernel_rfl) Try.func39 rfl rfl rfl (by kernel_rfl) (by kernel_rfl) ?_ ?_
  · intro args pre r h
    unfold sTrueW at h
    split at h
    · cases h; first | rfl | exact ⟨rfl, rfl⟩
    · cases h
  · intro args pre r h hp
    unfold sTrueW at h
    split at h
    rotate_left
    · cases h
    cases h
    unfold sNum sText sBytes sOf sRdNum sRdErr sRdAt
    generalize hg0 : numW = g0
    generalize hg1 : numBad = g1
    generalize hg2 : fitNum = g2
    generalize hg3 : fitText = g3
    generalize hg4 : textW = g4
    generalize hg5 : bytesW = g5
    generalize hg6 : badW = g6
    generalize hg7 : numS = g7
    generalize hg8 : okRd = g8
    generalize hg9 : (List.length : List UInt8 → Nat) = g9
    generalize hA : Arith.std = A
    cbv
    subst hA hg0 hg1 hg2 hg3 hg4 hg5 hg6 hg7 hg8 hg9
    have e0 : numW [] 5 false = [5] := by decide +kernel
    have e1 : bytesW (textW (numW [] 5 false) [97, 98] (numBad 5 false)) (numBad (([97, 98] : List UInt8).length : Int) (numBad 5 false)) = [5, 2, 97, 98] := by decide +kernel
    have e2 : badW (numBad (([97, 98] : List UInt8).length : Int) (numBad 5 false)) = 0 := by decide +kernel
    have e3 : numS [5, 2, 97, 98] 0 0 0 4 = (0, 0, 1) := by decide +kernel
    refine Need.mk trivial fun _ => ?_
    refine Need.mk ⟨by unfold isI64; omega, by simp⟩ fun _ => ?_
    refine Need.mk (by rw [e0]; unfold fitText; simp) fun _ => ?_
    refine Need.mk trivial fun _ => ?_
    refine Need.mk trivial fun _ => ?_
    refine Need.mk (ok_start (by simp)) fun _ => ?_
    simp only [e1, e2, e3]
    simp [Ife_iff, Need_iff, Arith.std]

theorem num_good {l : List UInt8} {lo hi : Int} (h : (numS l 0 0 lo hi).2.2 = 0) : lo ≤ (numS l 0 0 lo hi).1 ∧ (numS l 0 0 lo hi).1 ≤ hi ∧ 0 < (numS l 0 0 lo hi).2.1 ∧ (numS l 0 0 lo hi).2.1 ≤ l.length := by
  unfold numS at h ⊢
  rw [if_neg (by simp)] at h ⊢
  by_cases he : (Leb.next l 0).2.2 = 0
  · rw [if_neg (by simp [he])] at h ⊢
    by_cases hr : (Leb.next l 0).1 < lo ∨ hi < (Leb.next l 0).1
    · rw [if_pos hr] at h
      simp at h
    · rw [if_neg hr]
      obtain ⟨g1, g2, g3, g4, g5, g6, _⟩ := Leb.next_one l 0 (Leb.next l 0).1 (Leb.next l 0).2.1 (Prod.ext rfl (Prod.ext rfl he))
      dsimp only
      omega
  · rw [if_pos he] at h
    exact absurd h he
theorem num_fail {l : List UInt8} {lo hi : Int} (h : (numS l 0 0 lo hi).2.2 ≠ 0) : (numS l 0 0 lo hi).1 = 0 ∧ (numS l 0 0 lo hi).2.1 = 0 := by
  unfold numS at h ⊢
  rw [if_neg (by simp)] at h ⊢
  by_cases he : (Leb.next l 0).2.2 = 0
  · rw [if_neg (by simp [he])] at h ⊢
    by_cases hr : (Leb.next l 0).1 < lo ∨ hi < (Leb.next l 0).1
    · rw [if_pos hr]; exact ⟨rfl, rfl⟩
    · rw [if_neg hr] at h
      exact absurd rfl h
  · rw [if_pos he]; exact ⟨rfl, rfl⟩
structure LI (n : Nat) where
  i : Int
  h0 : 0 ≤ i
  h1 : i ≤ (n : Int)
structure LR (l : List UInt8) (n : Nat) where
  i : Int
  a : Int
  b : Int
  h0 : 0 ≤ i
  h1 : i ≤ (n : Int)
  ok : okRd l a b
def sStops : SpecR
  | [.c (.str s), .c (.int .i64 lo), .c (.int .i64 hi), .c (.row 0)], [(n, get)] => some ((s.length ≤ 9223372036854775807 ∧ GtsAt n get ∧ n ≤ 9223372036854775807), .c (.bool true))
  | _, _ => none

set_option maxRecDepth 100000 in
set_option maxHeartbeats 2000000 in
theorem stopsP : Rds Try.prog 15 3 sStops := by
  have hC : CtsOk Try.prog [(39, appPure sTrueW), (48, appMakes 92 sOf), (49, appMeth 92 sRdNum), (51, appMeth 92 sRdText), (53, appMeth 92 sHash), (55, appMeth 92 sCount), (58, appMethR 92 sRdErr), (59, appMethR 92 sRdEnd), (57, appMethR 92 sRdAt)] := CtsOk.cons (Pure.ct firstWP) <| CtsOk.cons (Makes.ct ofP) <| CtsOk.cons (Meth.ct rdNumP) <| CtsOk.cons (Meth.ct rdTextP) <| CtsOk.cons (Meth.ct rdHashP) <| CtsOk.cons (Meth.ct rdCountP) <| CtsOk.cons (Meth.ctR rdErrP (fun cs args pre res cs' h => by unfold sRdErr at h; split at h <;> cases h; rfl)) <| CtsOk.cons (Meth.ctR rdEndP (fun cs args pre res cs' h => by unfold sRdEnd at h; split at h <;> cases h; rfl)) <| CtsOk.cons (Meth.ctR rdAtP (fun cs args pre res cs' h => by unfold sRdAt at h; split at h <;> cases h; rfl)) <| CtsOk.nil _
  refine Rds.of (E := tbW) [] 0 [] tbW_ok hC (by kernel_rfl) Try.func15 rfl rfl rfl (by kernel_rfl) (by kernel_rfl) 74 1 ?_ ?_
  · intro args vs pre r h
    unfold sStops at h
    split at h
    · cases h; exact ⟨rfl, rfl⟩
    · cases h
  · intro args vs pre r h hp
    unfold sStops at h
    split at h
    rotate_left
    · cases h
    rename_i s lo hi n get
    cases h
    obtain ⟨hp1, hp2, hp3⟩ := hp
    refine ⟨_, hp2.same, ?_⟩
    rw [← exec_assoc, ← exec_assoc]
    refine exec_cut fun K hn hr _ => ?_
    replace hn := Lib.hid hn
    replace hr := Lib.hid hr
    unfold sTrueW sOf sRdNum sRdText sHash sCount sRdErr sRdEnd sRdAt
    generalize hg0 : numS = g0
    generalize hg1 : textS = g1
    generalize hg2 : hashS = g2
    generalize hg3 : countS = g3
    generalize hg4 : endS = g4
    generalize hg5 : okRd = g5
    generalize hg6 : byteI = g6
    generalize hg7 : gtAt = g7
    generalize hg8 : (List.length : List UInt8 → Nat) = g8
    generalize hA : Arith.std = A
    cbv
    subst hA hg0 hg1 hg2 hg3 hg4 hg5 hg6 hg7 hg8
    refine Need.mk trivial fun _ => ?_
    refine Ife.mk (fun _ => Need.mk trivial fun _ => hr.out _ (by rfl)) (fun hs => ?_)
    refine Ife.mk (fun _ => Need.mk trivial fun _ => hr.out _ (by rfl)) (fun _ => ?_)
    have hs : s.length ≤ 300 := by
      have h : ¬ (300 : Int) < s.length := of_decide_eq_false (p := (300 : Int) < s.length) hs
      exact Int.ofNat_le.mp (Int.not_lt.mp h)
    refine hn.out _ ?_
    clear hn hr
    unfold sTrueW sOf sRdNum sRdText sHash sCount sRdErr sRdEnd sRdAt
    generalize hg0 : numS = g0
    generalize hg1 : textS = g1
    generalize hg2 : hashS = g2
    generalize hg3 : countS = g3
    generalize hg4 : endS = g4
    generalize hg5 : okRd = g5
    generalize hg6 : byteI = g6
    generalize hg7 : gtAt = g7
    generalize hg8 : (List.length : List UInt8 → Nat) = g8
    generalize hL : lft Try.prog _ = L
    generalize hA : Arith.std = A
    cbv
    subst hA hg0 hg1 hg2 hg3 hg4 hg5 hg6 hg7 hg8 hL
    have h0 : okRd s 0 0 := ok_start (by omega)
    refine Need.mk trivial fun _ => ?_
    refine Need.mk h0 fun _ => ?_
    refine Need.mk trivial fun _ => ?_
    refine Need.mk trivial fun _ => ?_
    have hok := ok_num (lo := lo) (hi := hi) h0
    have hg := @num_good s lo hi
    have hf := @num_fail s lo hi
    generalize numS s 0 0 lo hi = t at *
    obtain ⟨v, a, e⟩ := t
    dsimp only at *
    refine Ife.mk (fun h => ?_) (fun h => ?_)
    · have h : e = 0 := by simpa [Arith.std] using h
      obtain ⟨k1, k2, k3, k4⟩ := hg h
      simp [Ife_iff, Need_iff, Arith.std, k1, k2, k3, k4]
    · have h : e ≠ 0 := by simpa [Arith.std] using h
      obtain ⟨k1, k2⟩ := hf h
      subst k1 k2
      show Runs Try.prog 1 (.loop _) _ _
      refine loop_ruleR (N := env (lft Try.prog 1) 0 .std tbW [(39, appPure sTrueW), (48, appMakes 92 sOf), (49, appMeth 92 sRdNum), (51, appMeth 92 sRdText), (53, appMeth 92 sHash), (55, appMeth 92 sCount), (58, appMethR 92 sRdErr), (59, appMethR 92 sRdEnd), (57, appMethR 92 sRdAt)] []) rfl tbW_ok hC (fun c st K _ h => h) (by kernel_rfl) [] (X := LI n)
        (S := fun x => ⟨List.replicate 3 .any ++ [.c (.row 0)] ++ List.replicate 5 .any ++ [.c (.ptr 1 0), .c (.int .i64 0), .c (.int .i64 e), .c (.int .i64 0), .c (.int .i64 x.i)] ++ List.replicate 97 .any, [.elems 74 3 n (fun i => gtC (gtAt (get i))), .cells 92 [.str s, .int .i64 0, .int .i64 e]]⟩) (μ := fun x => n - x.i.toNat) ⟨0, by omega, by omega⟩ (by kernel_rfl) [0, 1] ?_ ?_
      · refine ⟨rfl, by decide, ?_, ?_⟩ <;> repeat' (first | exact trivial | exact rfl | apply And.intro)
      rintro ⟨i, hi0, hin⟩
      have hN : ∀ lo hi, numS s 0 e lo hi = (0, 0, e) := fun lo hi => by unfold numS; rw [if_pos h]
      have hT : ∀ hi, textS s 0 e hi = ([], 0, e) := fun hi => by unfold textS; rw [if_pos h]
      have hH : hashS s 0 e = (List.replicate 32 0, 0, e) := by unfold hashS; rw [if_pos h]
      have hCt : ∀ hi, countS s 0 e hi = (0, 0, e) := fun hi => by unfold countS; rw [if_pos h]
      have hEn : endS s 0 e = e := by unfold endS; rw [if_neg (by simp [h])]
      unfold sTrueW sOf sRdNum sRdText sHash sCount sRdErr sRdEnd sRdAt
      generalize hg0 : numS = g0
      generalize hg1 : textS = g1
      generalize hg2 : hashS = g2
      generalize hg3 : countS = g3
      generalize hg4 : endS = g4
      generalize hg5 : okRd = g5
      generalize hg6 : byteI = g6
      generalize hg7 : gtAt = g7
      generalize hg8 : (List.length : List UInt8 → Nat) = g8
      generalize hL : lft Try.prog _ = L
      generalize hA : Arith.std = A
      cbv
      subst hA hg0 hg1 hg2 hg3 hg4 hg5 hg6 hg7 hg8 hL
      replace hi0 : 0 ≤ i := hi0
      replace hin : i ≤ (n : Int) := hin
      simp only [hN, hT, hH, hCt, hEn, zero_byte]
      refine Ife.mk (fun hc => ?_) (fun hc => ?_)
      · have hc : i < n := of_decide_eq_true (p := i < (n : Int)) hc
        simp only [Arith.std, decide_true, Bool.not_true, Bool.and_true, Bool.and_self, Int.toNat_natCast]
        refine Need.mk hok fun _ => Ife.mk (fun h => by cases h) fun _ => ?_
        refine Need.mk hok fun _ => Ife.mk (fun h => by cases h) fun _ => ?_
        refine Need.mk hok fun _ => Ife.mk (fun h => by cases h) fun _ => ?_
        refine Need.mk ⟨hi0, hc⟩ fun _ => Need.mk (by omega) fun _ => ?_
        refine Need.mk hok fun _ => Ife.mk (fun h => by cases h) fun _ => ?_
        refine Need.mk trivial fun _ => Ife.mk (fun h => by cases h) fun _ => ?_
        refine Need.mk hok fun _ => Ife.mk (fun h => by cases h) fun _ => ?_
        refine Need.mk trivial fun _ => Ife.mk (fun h => by cases h) fun _ => ?_
        refine Need.mk (by unfold fitStd; omega) fun _ => ?_
        refine ⟨⟨i + 1, by omega, by omega⟩, [0, 1], by show n - (i + 1).toNat < n - i.toNat; omega, ?_⟩
        refine ⟨rfl, by decide, ?_, ?_⟩ <;> repeat' (first | exact trivial | exact rfl | apply And.intro)
      · exact Ife.mk (fun _ => by rfl) (fun h => by cases h)

end Vx
open Go.ChangeShapes Go.WideShapes Go.ChangeAt
theorem isRow {w : World} {sz : Nat} {v : Vx.View} {p : Vx.Pl} (g : Vx.Good w sz v p) : Vx.SV.is [p] (.c (.row 0)) p.v := by
  obtain ⟨a', cap', e, _⟩ := g.sl
  simp [Vx.SV.is, Vx.CV.den, e, Vx.one]
theorem wireStopsWalk (w : World) (s : ByteArray) (hs : s.size ≤ maxLen) (lo : Int) (hlo : -9223372036854775808 ≤ lo ∧ lo ≤ 9223372036854775807) (hi : Int) (hhi : -9223372036854775808 ≤ hi ∧ hi ≤ 9223372036854775807) (a : Option Addr) (cap : Nat) (xs : List Gt) (hE : GtsIn w a xs) (hn : xs.length ≤ maxLen) :
    Calls Try.prog 15 #[.string s, .int .i64 lo, .int .i64 hi, .slice a xs.length cap] w fun e w' => e = .returned (.bool true) ∧ Below w.heap.size w w' := by
  obtain ⟨l, rfl, hl⟩ := bytesOfG s hs
  obtain ⟨p, hp, g⟩ := GtsIn.good (cap := cap) hE
  rw [← hp]
  refine Calls.mono (Vx.stopsP.run [.c (.str l), .c (.int .i64 lo), .c (.int .i64 hi), .c (.row 0)] [(xs.length, fun i => Vx.gtC (xs.getD i zeroGt))] _ _ rfl ⟨hl, hE.at_, hn⟩ w [p] _ (Vx.GoodL.cons g (Vx.GoodL.nil _ _))
    ⟨_, _, rfl, rfl, _, _, rfl, rfl, _, _, rfl, rfl, _, _, rfl, isRow g, rfl⟩) fun e W' he => ?_
  obtain ⟨u, rfl, h, hb⟩ := he
  obtain rfl : .bool true = u := Option.some.inj h
  exact ⟨rfl, hb⟩
end Go.Proofs.Ytfchejgohegbgaa
