/- The laws ShaCuts, ShaTells, ShaLess. -/
import Derived.Test.YtophhppklaofaaaDoorVShaLaw
namespace Go.Proofs.YtophhppklaofaaaDoor.Vx
open Go.RowKit Sha
set_option linter.unusedVariables false
set_option linter.unusedSimpArgs false
def sCuts : SpecF
  | [.c (.str s), .c (.int .i64 a), .c (.int .i64 b)], [.glob gg sz n get] => some (KsAt gg sz n get, .c .tt, [.dead])
  | _, _ => none

/-- Two sums are one, byte by byte. -/
def eqH (f g : Nat → Int) : Bool := decide (f 0 = g 0) && (decide (f 1 = g 1) && (decide (f 2 = g 2) && (decide (f 3 = g 3) && (decide (f 4 = g 4) && (decide (f 5 = g 5) && (decide (f 6 = g 6) && (decide (f 7 = g 7) && (decide (f 8 = g 8) && (decide (f 9 = g 9) && (decide (f 10 = g 10) && (decide (f 11 = g 11) && (decide (f 12 = g 12) && (decide (f 13 = g 13) && (decide (f 14 = g 14) && (decide (f 15 = g 15) && (decide (f 16 = g 16) && (decide (f 17 = g 17) && (decide (f 18 = g 18) && (decide (f 19 = g 19) && (decide (f 20 = g 20) && (decide (f 21 = g 21) && (decide (f 22 = g 22) && (decide (f 23 = g 23) && (decide (f 24 = g 24) && (decide (f 25 = g 25) && (decide (f 26 = g 26) && (decide (f 27 = g 27) && (decide (f 28 = g 28) && (decide (f 29 = g 29) && (decide (f 30 = g 30) && (decide (f 31 = g 31) && true)))))))))))))))))))))))))))))))
theorem eqH_self (f : Nat → Int) : eqH f f = true := by simp [eqH]
theorem eqH_of {f g : Nat → Int} (h : f = g) : eqH f g = true := by rw [h]; exact eqH_self g
theorem eqH_iff {f g : Nat → Int} : eqH f g = true ↔ ∀ i, i < 32 → f i = g i := by
  constructor
  · intro h i hi
    simp only [eqH, Bool.and_eq_true, decide_eq_true_iff] at h
    have : i = 0 ∨ i = 1 ∨ i = 2 ∨ i = 3 ∨ i = 4 ∨ i = 5 ∨ i = 6 ∨ i = 7 ∨ i = 8 ∨ i = 9 ∨ i = 10 ∨ i = 11 ∨ i = 12 ∨ i = 13 ∨ i = 14 ∨ i = 15 ∨ i = 16 ∨ i = 17 ∨ i = 18 ∨ i = 19 ∨ i = 20 ∨ i = 21 ∨ i = 22 ∨ i = 23 ∨ i = 24 ∨ i = 25 ∨ i = 26 ∨ i = 27 ∨ i = 28 ∨ i = 29 ∨ i = 30 ∨ i = 31 := by omega
    rcases this with rfl | rfl | rfl | rfl | rfl | rfl | rfl | rfl | rfl | rfl | rfl | rfl | rfl | rfl | rfl | rfl | rfl | rfl | rfl | rfl | rfl | rfl | rfl | rfl | rfl | rfl | rfl | rfl | rfl | rfl | rfl | rfl <;> simp only [h]
  · intro h
    simp [eqH, h]
set_option maxRecDepth 100000 in
set_option maxHeartbeats 8000000 in
theorem cutsP : Fn Tryd.prog 3 [0] [] sCuts := by
  have hC : CtsOk Tryd.prog [(16, appFn [0] [] sFirst2), (17, appFn [0] [(9, 1)] sSum)] := CtsOk.cons (Fn.ct firstP) <| CtsOk.cons (Fn.ct sumP) <| CtsOk.nil _
  refine Fn.of (E := tbC) [0] 0 [(5, [(9999, true), (0, true), (3, true), (4, true), (5, true), (6, true), (7, true), (8, true), (9, true), (10, true), (11, true), (12, true), (3001, false), (3002, false), (13, false), (14, false), (15, true), (16, true), (17, true), (20, true), (3018, false), (3019, false), (21, false), (22, false), (23, true), (24, true), (25, true), (3026, false), (27, false), (28, false), (29, true), (30, true), (31, true), (2999, false), (27, false), (26, false), (28, false), (29, true), (30, true), (31, true), (2999, false), (21, false), (19, false), (22, false), (23, true), (24, true), (25, true), (3026, false), (27, false), (28, false), (29, true), (30, true), (31, true), (2999, false), (27, false), (26, false), (28, false), (29, true), (30, true), (31, true), (2999, false), (21, false), (18, false), (19, false), (22, false), (23, true), (24, true), (25, true), (3026, false), (27, false), (28, false), (29, true), (30, true), (31, true), (2999, false), (27, false), (26, false), (28, false), (29, true), (30, true), (31, true), (2999, false), (13, false), (2, false), (14, false), (15, true), (16, true), (17, true), (20, true), (3018, false), (3019, false), (21, false), (22, false), (23, true), (24, true), (25, true), (3026, false), (27, false), (28, false), (29, true), (30, true), (31, true), (2999, false), (27, false), (26, false), (28, false), (29, true), (30, true), (31, true), (2999, false), (21, false), (19, false), (22, false), (23, true), (24, true), (25, true), (3026, false), (27, false), (28, false), (29, true), (30, true), (31, true), (2999, false), (27, false), (26, false), (28, false), (29, true), (30, true), (31, true), (2999, false), (21, false), (18, false), (19, false), (22, false), (23, true), (24, true), (25, true), (3026, false), (27, false), (28, false), (29, true), (30, true), (31, true), (2999, false), (27, false), (26, false), (28, false), (29, true), (30, true), (31, true), (2999, false), (13, false), (1, false), (2, false), (14, false), (15, true), (16, true), (17, true), (20, true), (3018, false), (3019, false), (21, false), (22, false), (23, true), (24, true), (25, true), (3026, false), (27, false), (28, false), (29, true), (30, true), (31, true), (2999, false), (27, false), (26, false), (28, false), (29, true), (30, true), (31, true), (2999, false), (21, false), (19, false), (22, false), (23, true), (24, true), (25, true), (3026, false), (27, false), (28, false), (29, true), (30, true), (31, true), (2999, false), (27, false), (26, false), (28, false), (29, true), (30, true), (31, true), (2999, false), (21, false), (18, false), (19, false), (22, false), (23, true), (24, true), (25, true), (3026, false), (27, false), (28, false), (29, true), (30, true), (31, true), (2999, false), (27, false), (26, false), (28, false), (29, true), (30, true), (31, true), (2999, false)])] tbC_ok hC (by kernel_rfl) Tryd.func3 rfl rfl rfl (by kernel_rfl) (by kernel_rfl) 1 5 1 ?_ ?_
  · intro args h pre r h' hs
    unfold sCuts at hs
    split at hs
    · cases hs; exact ⟨rfl, rfl, Nat.le_of_ble_eq_true rfl⟩
    · cases hs
  · intro args h pre r h' hs hp
    unfold sCuts at hs
    split at hs
    rotate_left
    · cases hs
    rename_i s a b gg sz n get
    cases hs
    refine ⟨_, KsAt.left hp, ?_⟩
    clear hp
    unfold sSum sFirst2
    generalize hg0 : sumPre = g0
    generalize hg1 : KsAt = g1
    generalize hg2 : joinG = g2
    generalize hg3 : cutC = g3
    generalize hg4 : sumI = g4
    generalize hg5 : kOf = g5
    generalize hg6 : HashC = g6
    generalize hg7 : hexL = g7
    generalize hg8 : u8s = g8
    generalize hg9 : (List.length : List UInt8 → Nat) = g9
    generalize hA : Arith.std = A
    set_option cbv.maxSteps 2000000 in cbv
    subst hA hg0 hg1 hg2 hg3 hg4 hg5 hg6 hg7 hg8 hg9
    refine Need.mk ksAt_self fun _ => ?_
    refine Ife.mk (fun _ => Need.mk ksAt_self fun _ => by exact ⟨[0], ⟨rfl, by repeat' (first | exact trivial | exact rfl | apply And.intro), by decide, rfl, by repeat' (first | exact trivial | exact rfl | apply And.intro)⟩⟩) (fun h1 => ?_)
    refine Ife.mk (fun _ => Need.mk ksAt_self fun _ => by exact ⟨[0], ⟨rfl, by repeat' (first | exact trivial | exact rfl | apply And.intro), by decide, rfl, by repeat' (first | exact trivial | exact rfl | apply And.intro)⟩⟩) (fun h2 => ?_)
    refine Ife.mk (fun _ => Need.mk ksAt_self fun _ => by exact ⟨[0], ⟨rfl, by repeat' (first | exact trivial | exact rfl | apply And.intro), by decide, rfl, by repeat' (first | exact trivial | exact rfl | apply And.intro)⟩⟩) (fun h3 => ?_)
    refine Ife.mk (fun _ => Need.mk ksAt_self fun _ => by exact ⟨[0], ⟨rfl, by repeat' (first | exact trivial | exact rfl | apply And.intro), by decide, rfl, by repeat' (first | exact trivial | exact rfl | apply And.intro)⟩⟩) (fun h4 => ?_)
    have h1 : (s.length : Int) ≤ 600 := by have := of_decide_eq_false (p := (600 : Int) < (s.length : Int)) h1; omega
    have h2 : 0 ≤ a := by have := of_decide_eq_false (p := a < (0 : Int)) h2; omega
    have h3 : a ≤ b := by have := of_decide_eq_false (p := b < a) h3; omega
    have h4 : b ≤ (s.length : Int) := by have := of_decide_eq_false (p := (s.length : Int) < b) h4; omega
    refine Need.mk (by show 0 ≤ 0 ∧ 0 ≤ a ∧ a ≤ (s.length : Int); omega) fun _ => Need.mk (by show 0 ≤ a ∧ a ≤ b ∧ b ≤ (s.length : Int); omega) fun _ => Need.mk (by show 0 ≤ b ∧ b ≤ (s.length : Int) ∧ (s.length : Int) ≤ (s.length : Int); omega) fun _ => ?_
    have hcat : Arith.std.sub_ s 0 a ++ (Arith.std.sub_ s a b ++ Arith.std.sub_ s b (Arith.std.len s)) = s := by
      show (s.take a.toNat).drop (0 : Int).toNat ++ ((s.take b.toNat).drop a.toNat ++ (s.take (s.length : Int).toNat).drop b.toNat) = s
      rw [show (0 : Int).toNat = 0 from rfl, List.drop_zero, show ((s.length : Int)).toNat = s.length by omega, List.take_length]
      have e1 : (s.take b.toNat).drop a.toNat ++ s.drop b.toNat = s.drop a.toNat := by
        conv => rhs; rw [← List.take_append_drop b.toNat s]
        rw [List.drop_append_of_le_length (by rw [List.length_take]; omega)]
      rw [e1, List.take_append_drop]
    have j1 := (strs_cut [s]).2
    have j3 := (strs_cut [Arith.std.sub_ s 0 a, Arith.std.sub_ s a b, Arith.std.sub_ s b (Arith.std.len s)]).2
    have j4 := (strs_cut [[], s, []]).2
    have j5 := (strs_cut [([] : List UInt8)]).2
    have f1 : [s].flatten = s := by simp
    have f3 : [Arith.std.sub_ s 0 a, Arith.std.sub_ s a b, Arith.std.sub_ s b (Arith.std.len s)].flatten = s := by
      show Arith.std.sub_ s 0 a ++ (Arith.std.sub_ s a b ++ (Arith.std.sub_ s b (Arith.std.len s) ++ [])) = s
      rw [List.append_nil, hcat]
    have f4 : [[], s, []].flatten = s := by simp
    have p1 := sumPre_cut [s] (by rw [f1]; omega) (by simp)
    have p3 := sumPre_cut [Arith.std.sub_ s 0 a, Arith.std.sub_ s a b, Arith.std.sub_ s b (Arith.std.len s)] (by rw [f3]; omega) (by simp)
    have p4 := sumPre_cut [[], s, []] (by rw [f4]; omega) (by simp)
    have p5 := sumPre_cut [([] : List UInt8)] (by decide) (by decide)
    have q1 : sumI (joinG 1 (cutC 1 [CV.str s] 0)) = sumI (joinG 3 (cutC 1 [CV.str (Arith.std.sub_ s 0 a), CV.str (Arith.std.sub_ s a b), CV.str (Arith.std.sub_ s b (Arith.std.len s))] 0)) := congrArg sumI (j1.trans (f1.trans (f3.symm.trans j3.symm)))
    have q2 : sumI (joinG 1 (cutC 1 [CV.str s] 0)) = sumI (joinG 3 (cutC 1 [CV.str [], CV.str s, CV.str []] 0)) := congrArg sumI (j1.trans (f1.trans (f4.symm.trans j4.symm)))
    have q3 : sumI (joinG 0 (fun _ => [])) = sumI (joinG 1 (cutC 1 [CV.str []] 0)) := congrArg sumI ((joinG_zero _).trans j5.symm)
    clear j1 j3 j4 j5 f1 f3 f4 hcat
    repeat' (first
      | refine Both.mk ?_ ?_
      | refine Need.mk p1 fun _ => ?_
      | refine Need.mk p3 fun _ => ?_
      | refine Need.mk p4 fun _ => ?_
      | refine Need.mk p5 fun _ => ?_
      | refine Need.mk sumPre_nil fun _ => ?_
      | refine Ife.mk (fun _ => ?_) (fun hb => absurd ((eqH_of q1).symm.trans hb) (by decide))
      | refine Ife.mk (fun _ => ?_) (fun hb => absurd ((eqH_of q2).symm.trans hb) (by decide))
      | exact ⟨[0], ⟨rfl, eqH_of q3, by decide, rfl, by repeat' (first | exact trivial | exact rfl | apply And.intro)⟩⟩
      | exact ⟨[0], ⟨rfl, by repeat' (first | exact trivial | exact rfl | apply And.intro), by decide, rfl, by repeat' (first | exact trivial | exact rfl | apply And.intro)⟩⟩)

end Go.Proofs.YtophhppklaofaaaDoor.Vx
