/- The document's proofs as bytes, by the walker. -/
import Derived.Test.YtcgoaicifjndpaaM30
import Derived.Test.YtcgoaicifjndpaaM28
import Derived.Test.YtcgoaicifjndpaaM27
import Derived.Test.YtcgoaicifjndpaaVMs6
import Derived.Test.YtcgoaicifjndpaaM31
section
namespace Go.Proofs.Ytcgoaicifjndpaa.Vx
open Go.RowKit
set_option linter.unusedVariables false
set_option linter.unusedSimpArgs false
theorem leavesB_len {L : List PLeaf} (h : ∀ x ∈ L, leafV x) : (flatE leafB L).length ≤ 40000 * L.length := by
  have e := wLeaves_ok L [] h
  have l := wLeaves_len L ([], false) fun x hx => leafV_fit (h x hx)
  rw [e] at l
  simpa using l
theorem sumsB_len {p : List (List Int)} (h : ∀ x ∈ p, x.length = 32) : (flatE hashOf p).length ≤ 32 * p.length := by
  have e := wPath_ok p []
  have l := wPath_len p ([], false) h
  rw [e] at l
  simpa using l
theorem flatE_take {α : Type} (E : α → List UInt8) {p : List α} {i : Nat} (h : i < p.length) : flatE E (p.take (i + 1)) = flatE E (p.take i) ++ E p[i] := by
  unfold flatE
  rw [List.take_add_one, List.getElem?_eq_getElem h, List.map_append, List.flatten_append]
  simp
theorem hashOf_lenL (h : List Int) : (hashOf h).length = h.length := by simp [hashOf]
/-- The bytes of the first leaves. -/
structure LPp (L : List PLeaf) (s0 : List UInt8) where
  i : Int
  n : Nat
  l : List UInt8
  hn : i = (n : Int)
  h1 : n ≤ L.length
  w : l = s0 ++ flatE leafB (L.take n)
/-- The bytes of the first sums. -/
structure LPq (p : List (List Int)) (s0 : List UInt8) where
  i : Int
  n : Nat
  l : List UInt8
  hn : i = (n : Int)
  h1 : n ≤ p.length
  w : l = s0 ++ flatE hashOf (p.take n)
def rPutPre (c : Int) (L : List PLeaf) : Prop := proofV (c, L)
def sRPutPr : SpecF
  | [.agg [.int .i64 c, .row 0]], [.data fr ty sz n get] => some (rPutPre c (leafL n get) ∧ leavesPre ty sz n get, .c (.str (proofB (c, leafL n get))), [.dead])
  | _, _ => none

set_option maxRecDepth 100000 in
set_option maxHeartbeats 8000000 in
theorem rputPrP : Fn Try.prog 124 [] [(140, 204)] sRPutPr := by
  have hC : CtsOk Try.prog [(120, appPure sLebPut), (123, appPure sPutText), (121, appPure sHText)] := CtsOk.cons (Pure.ct refPutP) <| CtsOk.cons (Pure.ct refPutTextP) <| CtsOk.cons (Pure.ct refHTextP) <| CtsOk.nil _
  refine Fn.of (E := tbR) [] 0 [(1, [(0, true), (1, true), (3, true), (4, true), (5, true), (2, false), (6, false), (7, true), (8, true)]), (6, [(0, true), (1, true), (2, true), (4, true), (5, true), (8, true), (9, true), (12, true), (13, true), (14, true), (3, false), (6, false), (7, true), (10, false), (11, true), (15, false), (16, true), (17, true), (18, true)])] tbR_ok hC (by kernel_rfl) Try.func124 rfl rfl rfl (by kernel_rfl) (by kernel_rfl) 1 5 1 ?_ ?_
  · intro args h pre r h' hs
    unfold sRPutPr at hs
    split at hs
    · cases hs; exact ⟨rfl, rfl, Nat.le_of_ble_eq_true rfl⟩
    · cases hs
  · intro args h pre r h' hs hp
    unfold sRPutPr at hs
    split at hs
    rotate_left
    · cases hs
    rename_i c fr ty sz n get
    cases hs
    obtain ⟨hV, rfl, rfl, hst, hok, hm⟩ := hp
    refine ⟨[.data fr 140 4 n (leafG false (leafL n get))], ⟨⟨rfl, rfl, rfl, rfl, fun i j hi hj => by rw [hst i j hi hj]; exact Cell.le_refl _⟩, trivial⟩, ?_⟩
    have hL : (leafL n get).length = n := leafL_len
    generalize leafL n get = L at hL hok hV ⊢
    unfold sLebPut sPutText sHText
    generalize hg0 : (List.length : List UInt8 → Nat) = g0
    generalize hL : lft Try.prog _ = L
    try unfold leafG
    generalize ho0 : @lK = zo0, ho1 : @lV = zo1, ho2 : @lI = zo2, ho3 : @lP = zo3, ho4 : @lN = zo4, ho5 : @pG = zo5, ho6 : @leafL = zo6, ho7 : @leavesPre = zo7, ho8 : @hN = zo8, ho9 : @textB = zo9, ho10 : @Leb.put = zo10, ho11 : @hashOf = zo11, ho12 : @flatE = zo12, ho13 : @leafB = zo13, ho14 : @proofB = zo14, ho15 : @isI64 = zo15, ho16 : @rPutPre = zo16
    generalize hA : Arith.std = A
    cbv
    subst hA hg0 hL ho0 ho1 ho2 ho3 ho4 ho5 ho6 ho7 ho8 ho9 ho10 ho11 ho12 ho13 ho14 ho15 ho16
    have hn0 : (L.length : Int) = (n : Int) := by omega
    have hV0 : proofV (c, L) := hV
    obtain ⟨⟨v1, v2⟩, ⟨v3, v4⟩, v5⟩ := hV
    dsimp only at v1 v2 v3 v4 v5
    have v6 : L.length ≤ 2 := Int.ofNat_le.mp v4
    have p1 := Leb.put_len_le c
    have p2 := Leb.put_len_le (n : Int)
    refine Need.mk (show isI64 c by unfold isI64; omega) fun _ => ?_
    refine Need.mk (show isI64 (n : Int) by unfold isI64; omega) fun _ => ?_
    refine Need.mk (show ((Leb.put c).length : Int) + (Leb.put (n : Int)).length ≤ 9223372036854775807 by omega) fun _ => ?_
    show Runs Try.prog 1 (.loop _) _ _
    refine loop_ruleL (N := env (lft Try.prog 1) 0 .std tbR [(120, appPure sLebPut), (123, appPure sPutText), (121, appPure sHText)] [(1, [(0, true), (1, true), (3, true), (4, true), (5, true), (2, false), (6, false), (7, true), (8, true)]), (6, [(0, true), (1, true), (2, true), (4, true), (5, true), (8, true), (9, true), (12, true), (13, true), (14, true), (3, false), (6, false), (7, true), (10, false), (11, true), (15, false), (16, true), (17, true), (18, true)])]) rfl tbR_ok hC (fun c st K _ h => h) (by kernel_rfl) [] (X := LPp L (Leb.put c ++ Leb.put (n : Int)))
      (S := fun x => ⟨[.any, .c (.ptr 1 0), .any, .c (.str x.l), .c (.int .i64 x.i)] ++ List.replicate 56 .any, [.data fr 140 4 n (leafG false L), .cells 72 [.int .i64 c, .row 0]]⟩) (μ := fun x => L.length - x.n) ⟨0, 0, Leb.put c ++ Leb.put (n : Int), rfl, by omega, by simp [flatE]⟩ (by kernel_rfl) [0, 1] ?_ ?_
    · refine ⟨rfl, by show List.Nodup [1]; decide, ?_, ?_⟩ <;> repeat' (first | exact trivial | exact rfl | apply And.intro | exact (fun _ _ _ _ => Cell.le_refl _) | (intro i hi; rfl) | (intro i hi; exact absurd hi (Nat.not_lt_zero _)))
    rintro ⟨i, k, l', hn, h1, w⟩
    replace hn : i = @Nat.cast Int instNatCastInt k := hn
    subst hn
    unfold sLebPut sPutText sHText
    generalize hg0 : (List.length : List UInt8 → Nat) = g0
    generalize hL : lft Try.prog _ = L
    try dsimp only
    try unfold leafG
    generalize ho0 : @lK = zo0, ho1 : @lV = zo1, ho2 : @lI = zo2, ho3 : @lP = zo3, ho4 : @lN = zo4, ho5 : @pG = zo5, ho6 : @leafL = zo6, ho7 : @leavesPre = zo7, ho8 : @hN = zo8, ho9 : @textB = zo9, ho10 : @Leb.put = zo10, ho11 : @hashOf = zo11, ho12 : @flatE = zo12, ho13 : @leafB = zo13, ho14 : @proofB = zo14, ho15 : @isI64 = zo15, ho16 : @rPutPre = zo16
    generalize hA : Arith.std = A
    cbv
    subst hA hg0 hL ho0 ho1 ho2 ho3 ho4 ho5 ho6 ho7 ho8 ho9 ho10 ho11 ho12 ho13 ho14 ho15 ho16
    refine Ife.mk (fun hlt => ?_) (fun hlt => ?_)
    · replace hlt : (k : Int) < @Nat.cast Int instNatCastInt n := of_decide_eq_true (p := (k : Int) < (n : Int)) hlt
      have hk : k < L.length := by omega
      obtain ⟨q1, q2, q3, q4, q5⟩ := lN_eq hk
      have hx := v5 _ (List.getElem_mem hk)
      obtain ⟨x1, x2, ⟨x3, x3'⟩, ⟨x4, x4'⟩, x5⟩ := hx
      rw [← q3] at x1
      rw [← q4] at x2
      rw [← q5] at x3 x3'
      have z := leavesB_len (L := L.take k) fun x hx => v5 x (List.mem_of_mem_take hx)
      have z2 : (L.take k).length ≤ 2 := Nat.le_trans (by rw [List.length_take]; exact Nat.min_le_right _ _) v6
      have x1n : (lK L k).length ≤ 160 := Int.ofNat_le.mp x1
      have x2n : (lV L k).length ≤ 64 := Int.ofNat_le.mp x2
      have hl' : l'.length ≤ 100000 := by rw [w]; simp only [List.length_append]; omega
      have x6 : (lN L k : Int) ≤ 30 := by rw [q1]; exact x4'
      have t1 := textB_len (lK L k)
      have t2 := textB_len (lV L k)
      have t3 := Leb.put_len_le (lI L k)
      have t4 := Leb.put_len_le (lN L k : Int)
      refine Need.mk (show 0 ≤ (k : Int) ∧ (k : Int) < (n : Int) by omega) fun _ => Need.mk (show k < n by omega) fun _ => ?_
      refine Need.mk (show (lK L k).length ≤ 9223372036854770000 by omega) fun _ => ?_
      refine Need.mk (show (lV L k).length ≤ 9223372036854770000 by omega) fun _ => ?_
      refine Need.mk (show ((textB (lK L k)).length : Int) + (textB (lV L k)).length ≤ 9223372036854775807 by omega) fun _ => ?_
      refine Need.mk (show isI64 (lI L k) by unfold isI64; omega) fun _ => ?_
      refine Need.mk (show ((textB (lK L k) ++ textB (lV L k)).length : Int) + (Leb.put (lI L k)).length ≤ 9223372036854775807 by simp only [List.length_append]; omega) fun _ => ?_
      refine Need.mk (show isI64 (lN L k : Int) by unfold isI64; omega) fun _ => ?_
      refine Need.mk (show ((textB (lK L k) ++ textB (lV L k) ++ Leb.put (lI L k)).length : Int) + (Leb.put (lN L k : Int)).length ≤ 9223372036854775807 by simp only [List.length_append]; omega) fun _ => ?_
      refine Need.mk (show (l'.length : Int) + (textB (lK L k) ++ textB (lV L k) ++ Leb.put (lI L k) ++ Leb.put (lN L k : Int)).length ≤ 9223372036854775807 by simp only [List.length_append]; omega) fun _ => ?_
      have hlp : (lP L k).length = lN L k := rfl
      have x7 : lN L k ≤ 30 := Int.ofNat_le.mp x6
      have hs32 : ∀ h ∈ lP L k, h.length = 32 := fun h hh => (x5 h (by rw [← q2]; exact hh)).1
      have hy : (⟨lK L k, lV L k, lI L k, lP L k⟩ : PLeaf) = L[k] := by rw [q2, q3, q4, q5]
      show Runs Try.prog 1 (.loop _) _ _
      refine loop_ruleL (N := env (lft Try.prog 1) 0 .std tbR [(120, appPure sLebPut), (123, appPure sPutText), (121, appPure sHText)] [(1, [(0, true), (1, true), (3, true), (4, true), (5, true), (2, false), (6, false), (7, true), (8, true)]), (6, [(0, true), (1, true), (2, true), (4, true), (5, true), (8, true), (9, true), (12, true), (13, true), (14, true), (3, false), (6, false), (7, true), (10, false), (11, true), (15, false), (16, true), (17, true), (18, true)])]) rfl tbR_ok hC (fun c st K _ h => h) (by kernel_rfl) [] (X := LPq (lP L k) (l' ++ (textB (lK L k) ++ textB (lV L k) ++ Leb.put (lI L k) ++ Leb.put (lN L k : Int))))
        (S := fun x => ⟨[.any, .c (.ptr 1 0), .any, .c (.str x.l), .c (.int .i64 (k : Int)), .c (.ptr 3 0), .c (.int .i64 x.i)] ++ List.replicate 54 .any, [.data fr 140 4 n (leafG false L), .cells 72 [.int .i64 c, .row 0], .elems 63 32 (lN L k) (fun i => h32 (hN (lP L k) i)), .cells 140 [.str (lK L k), .str (lV L k), .int .i64 (lI L k), .row 2]]⟩) (μ := fun x => (lP L k).length - x.n) ⟨0, 0, l' ++ (textB (lK L k) ++ textB (lV L k) ++ Leb.put (lI L k) ++ Leb.put (lN L k : Int)), rfl, by omega, by simp [flatE]⟩ (by kernel_rfl) [0, 1, 2, 3] ?_ ?_
      · refine ⟨rfl, by show List.Nodup [1, 3]; decide, ?_, ?_⟩ <;> repeat' (first | exact trivial | exact rfl | apply And.intro | exact (fun _ _ _ _ => Cell.le_refl _) | (intro i hi; rfl) | (intro i hi; exact absurd hi (Nat.not_lt_zero _)))
      rintro ⟨j, m, l2, hm2, h2, w2⟩
      replace hm2 : j = @Nat.cast Int instNatCastInt m := hm2
      subst hm2
      unfold sLebPut sPutText sHText
      generalize hg0 : (List.length : List UInt8 → Nat) = g0
      generalize hL : lft Try.prog _ = L
      try dsimp only
      try unfold leafG
      generalize ho0 : @lK = zo0, ho1 : @lV = zo1, ho2 : @lI = zo2, ho3 : @lP = zo3, ho4 : @lN = zo4, ho5 : @pG = zo5, ho6 : @leafL = zo6, ho7 : @leavesPre = zo7, ho8 : @hN = zo8, ho9 : @textB = zo9, ho10 : @Leb.put = zo10, ho11 : @hashOf = zo11, ho12 : @flatE = zo12, ho13 : @leafB = zo13, ho14 : @proofB = zo14, ho15 : @isI64 = zo15, ho16 : @rPutPre = zo16
      generalize hA : Arith.std = A
      cbv
      subst hA hg0 hL ho0 ho1 ho2 ho3 ho4 ho5 ho6 ho7 ho8 ho9 ho10 ho11 ho12 ho13 ho14 ho15 ho16
      have y1 := sumsB_len (p := (lP L k).take m) fun h hh => hs32 h (List.mem_of_mem_take hh)
      have y2 : ((lP L k).take m).length ≤ 30 := by rw [List.length_take]; omega
      have y3 : l2.length ≤ 200000 := by rw [w2]; simp only [List.length_append]; omega
      refine Ife.mk (fun hlt2 => ?_) (fun hlt2 => ?_)
      · replace hlt2 : (m : Int) < @Nat.cast Int instNatCastInt (lN L k) := of_decide_eq_true (p := (m : Int) < (lN L k : Int)) hlt2
        have hm3 : m < (lP L k).length := by omega
        refine Need.mk (show 0 ≤ (m : Int) ∧ (m : Int) < (lN L k : Int) by omega) fun _ => Need.mk (show m < lN L k by omega) fun _ => ?_
        have e0 := list32 (getD_32 hm3 hs32)
        have e1 : hashOf [hN (lP L k) m 0, hN (lP L k) m 1, hN (lP L k) m 2, hN (lP L k) m 3, hN (lP L k) m 4, hN (lP L k) m 5, hN (lP L k) m 6, hN (lP L k) m 7, hN (lP L k) m 8, hN (lP L k) m 9, hN (lP L k) m 10, hN (lP L k) m 11, hN (lP L k) m 12, hN (lP L k) m 13, hN (lP L k) m 14, hN (lP L k) m 15, hN (lP L k) m 16, hN (lP L k) m 17, hN (lP L k) m 18, hN (lP L k) m 19, hN (lP L k) m 20, hN (lP L k) m 21, hN (lP L k) m 22, hN (lP L k) m 23, hN (lP L k) m 24, hN (lP L k) m 25, hN (lP L k) m 26, hN (lP L k) m 27, hN (lP L k) m 28, hN (lP L k) m 29, hN (lP L k) m 30, hN (lP L k) m 31] = hashOf ((lP L k).getD m []) := congrArg hashOf e0
        have e2 : (hashOf ((lP L k).getD m [])).length = 32 := by rw [hashOf_lenL]; exact getD_32 hm3 hs32
        have e3 : (hashOf [hN (lP L k) m 0, hN (lP L k) m 1, hN (lP L k) m 2, hN (lP L k) m 3, hN (lP L k) m 4, hN (lP L k) m 5, hN (lP L k) m 6, hN (lP L k) m 7, hN (lP L k) m 8, hN (lP L k) m 9, hN (lP L k) m 10, hN (lP L k) m 11, hN (lP L k) m 12, hN (lP L k) m 13, hN (lP L k) m 14, hN (lP L k) m 15, hN (lP L k) m 16, hN (lP L k) m 17, hN (lP L k) m 18, hN (lP L k) m 19, hN (lP L k) m 20, hN (lP L k) m 21, hN (lP L k) m 22, hN (lP L k) m 23, hN (lP L k) m 24, hN (lP L k) m 25, hN (lP L k) m 26, hN (lP L k) m 27, hN (lP L k) m 28, hN (lP L k) m 29, hN (lP L k) m 30, hN (lP L k) m 31]).length = 32 := by rw [e1]; exact e2
        refine Need.mk trivial fun _ => ?_
        refine Need.mk (show (l2.length : Int) + (hashOf [hN (lP L k) m 0, hN (lP L k) m 1, hN (lP L k) m 2, hN (lP L k) m 3, hN (lP L k) m 4, hN (lP L k) m 5, hN (lP L k) m 6, hN (lP L k) m 7, hN (lP L k) m 8, hN (lP L k) m 9, hN (lP L k) m 10, hN (lP L k) m 11, hN (lP L k) m 12, hN (lP L k) m 13, hN (lP L k) m 14, hN (lP L k) m 15, hN (lP L k) m 16, hN (lP L k) m 17, hN (lP L k) m 18, hN (lP L k) m 19, hN (lP L k) m 20, hN (lP L k) m 21, hN (lP L k) m 22, hN (lP L k) m 23, hN (lP L k) m 24, hN (lP L k) m 25, hN (lP L k) m 26, hN (lP L k) m 27, hN (lP L k) m 28, hN (lP L k) m 29, hN (lP L k) m 30, hN (lP L k) m 31]).length ≤ 9223372036854775807 by rw [e3]; omega) fun _ => ?_
        refine Need.mk (by show fitStd .i64 ((m : Int) + 1); unfold fitStd; omega) fun _ => ?_
        refine ⟨⟨(m : Int) + 1, m + 1, l2 ++ hashOf [hN (lP L k) m 0, hN (lP L k) m 1, hN (lP L k) m 2, hN (lP L k) m 3, hN (lP L k) m 4, hN (lP L k) m 5, hN (lP L k) m 6, hN (lP L k) m 7, hN (lP L k) m 8, hN (lP L k) m 9, hN (lP L k) m 10, hN (lP L k) m 11, hN (lP L k) m 12, hN (lP L k) m 13, hN (lP L k) m 14, hN (lP L k) m 15, hN (lP L k) m 16, hN (lP L k) m 17, hN (lP L k) m 18, hN (lP L k) m 19, hN (lP L k) m 20, hN (lP L k) m 21, hN (lP L k) m 22, hN (lP L k) m 23, hN (lP L k) m 24, hN (lP L k) m 25, hN (lP L k) m 26, hN (lP L k) m 27, hN (lP L k) m 28, hN (lP L k) m 29, hN (lP L k) m 30, hN (lP L k) m 31], by omega, by omega, ?w⟩, [0, 1, 2, 3], (by show (lP L k).length - (m + 1) < (lP L k).length - m; omega), ?st⟩
        case st =>
          refine ⟨rfl, by show List.Nodup [1, 3]; decide, by repeat' (first | exact trivial | exact rfl | apply And.intro | exact (fun _ _ _ _ => Cell.le_refl _) | (intro i hi; rfl) | (intro i hi; exact absurd hi (Nat.not_lt_zero _))), ?_⟩
          repeat' (first | exact trivial | exact rfl | apply And.intro | exact (fun _ _ _ _ => Cell.le_refl _) | (intro i hi; rfl) | (intro i hi; exact absurd hi (Nat.not_lt_zero _)))
        case w =>
          rw [flatE_take hashOf hm3, e1, w2, List.getD_eq_getElem?_getD, List.getElem?_eq_getElem hm3]
          simp
      · replace hlt2 : ¬ (m : Int) < @Nat.cast Int instNatCastInt (lN L k) := of_decide_eq_false (p := (m : Int) < (lN L k : Int)) hlt2
        refine Need.mk (by show fitStd .i64 ((k : Int) + 1); unfold fitStd; omega) fun _ => ?_
        refine ⟨⟨(k : Int) + 1, k + 1, l2, by omega, by omega, ?w⟩, [0, 1], (by show L.length - (k + 1) < L.length - k; omega), ?st⟩
        case st =>
          refine ⟨rfl, by show List.Nodup [1]; decide, by repeat' (first | exact trivial | exact rfl | apply And.intro | exact (fun _ _ _ _ => Cell.le_refl _) | (intro i hi; rfl) | (intro i hi; exact absurd hi (Nat.not_lt_zero _))), ?_⟩
          repeat' (first | exact trivial | exact rfl | apply And.intro | exact (fun _ _ _ _ => Cell.le_refl _) | (intro i hi; rfl) | (intro i hi; exact absurd hi (Nat.not_lt_zero _)))
        case w =>
          rw [List.take_of_length_le (by omega)] at w2
          rw [flatE_take leafB hk, w2, w, ← hy]
          simp [leafB, hlp]
    · replace hlt : ¬ (k : Int) < @Nat.cast Int instNatCastInt n := of_decide_eq_false (p := (k : Int) < (n : Int)) hlt
      rw [List.take_of_length_le (by omega)] at w
      have hw : proofB (c, L) = l' := by
        rw [w]
        simp [proofB, hn0]
      rw [hw]
      exact ⟨[0], ⟨rfl, by repeat' (first | exact trivial | exact rfl | apply And.intro | exact (fun _ _ _ _ => Cell.le_refl _) | (intro i hi; rfl) | (intro i hi; exact absurd hi (Nat.not_lt_zero _))), by decide, rfl, by repeat' (first | exact trivial | exact rfl | apply And.intro | exact (fun _ _ _ _ => Cell.le_refl _) | (intro i hi; rfl) | (intro i hi; exact absurd hi (Nat.not_lt_zero _)))⟩⟩

end Go.Proofs.Ytcgoaicifjndpaa.Vx
end

section
/- The document's own readers and writers of packets, by the walker. -/
namespace Go.Proofs.Ytcgoaicifjndpaa
open Go.RowKit
set_option linter.unusedVariables false
set_option linter.unusedSimpArgs false
namespace Vx

def sPutPk : List SV → Option (Prop × SV)
  | [.agg [.str sp, .int .i64 sc, .str dp, .int .i64 dc, .int .i64 sq, .str da, .int .i64 th, .int .i64 ta]] => some (mayPkt ⟨sp, sc, dp, dc, sq, da, th, ta⟩ = true, .c (.str (pkB ⟨sp, sc, dp, dc, sq, da, th, ta⟩)))
  | _ => none

set_option maxRecDepth 100000 in
set_option maxHeartbeats 400000 in
theorem refPutPkP : Pure Try.prog 122 sPutPk := by
  refine Pure.of (E := tb) (C := [(123, appPure sPutText), (120, appPure sLebPut)]) [] 0 [(1, [(0, true), (1, true), (2, true), (4, true), (5, true), (6, true), (9, true), (10, true), (11, true), (14, true), (15, true), (16, true), (19, true), (20, true), (23, true), (24, true), (27, true), (28, true), (31, true), (32, true), (3, false), (7, false), (8, true), (12, false), (13, true), (17, false), (18, true), (21, false), (22, true), (25, false), (26, true), (29, false), (30, true), (33, false), (34, true), (35, true)])] tb_ok (CtsOk.cons (Pure.ct refPutTextP) <| CtsOk.cons (Pure.ct refPutP) <| CtsOk.nil _) (by kernel_rfl) Try.func122 rfl rfl rfl (by kernel_rfl) (by kernel_rfl) ?_ ?_
  · intro args pre r h
    unfold sPutPk at h
    split at h
    · cases h; first | rfl | exact ⟨rfl, rfl⟩
    · cases h
  · intro args pre r h hp
    unfold sPutPk at h
    split at h
    rotate_left
    · cases h
    rename_i sp sc dp dc sq da th ta
    cases h
    unfold sPutText sLebPut
    generalize hg0 : textB = g0
    generalize hg1 : Leb.put = g1
    generalize hg2 : pkB = g2
    generalize hg3 : mayPkt = g3
    generalize hg4 : isI64 = g4
    generalize hg5 : (List.length : List UInt8 → Nat) = g5
    generalize hA : Arith.std = A
    cbv
    subst hA hg0 hg1 hg2 hg3 hg4 hg5
    have hm := hp
    have hV := mayPk_V hm
    obtain ⟨⟨v1, v2, v3⟩, ⟨v4, v5, v6⟩, ⟨v7, v8⟩, v9, ⟨v10, v11⟩, v12, v13⟩ := hV
    dsimp only at v1 v2 v3 v4 v5 v6 v7 v8 v9 v10 v11 v12 v13
    have e1 := textB_len sp; have e2 := textB_len dp; have e3 := textB_len da
    have q1 := Leb.put_len_le sc; have q2 := Leb.put_len_le dc; have q3 := Leb.put_len_le sq; have q4 := Leb.put_len_le th; have q5 := Leb.put_len_le ta
    refine Need.mk (show sp.length ≤ 9223372036854770000 by omega) fun _ => ?_
    refine Need.mk (show isI64 sc by unfold isI64; omega) fun _ => ?_
    refine Need.mk (show ((textB sp).length : Int) + (Leb.put sc).length ≤ 9223372036854775807 by (try simp only [List.length_append]); omega) fun _ => ?_
    refine Need.mk (show dp.length ≤ 9223372036854770000 by omega) fun _ => ?_
    refine Need.mk (show ((textB sp ++ Leb.put sc).length : Int) + (textB dp).length ≤ 9223372036854775807 by (try simp only [List.length_append]); omega) fun _ => ?_
    refine Need.mk (show isI64 dc by unfold isI64; omega) fun _ => ?_
    refine Need.mk (show ((textB sp ++ Leb.put sc ++ textB dp).length : Int) + (Leb.put dc).length ≤ 9223372036854775807 by (try simp only [List.length_append]); omega) fun _ => ?_
    refine Need.mk (show isI64 sq by unfold isI64; omega) fun _ => ?_
    refine Need.mk (show ((textB sp ++ Leb.put sc ++ textB dp ++ Leb.put dc).length : Int) + (Leb.put sq).length ≤ 9223372036854775807 by (try simp only [List.length_append]); omega) fun _ => ?_
    refine Need.mk (show da.length ≤ 9223372036854770000 by omega) fun _ => ?_
    refine Need.mk (show ((textB sp ++ Leb.put sc ++ textB dp ++ Leb.put dc ++ Leb.put sq).length : Int) + (textB da).length ≤ 9223372036854775807 by (try simp only [List.length_append]); omega) fun _ => ?_
    refine Need.mk (show isI64 th by unfold isI64; omega) fun _ => ?_
    refine Need.mk (show ((textB sp ++ Leb.put sc ++ textB dp ++ Leb.put dc ++ Leb.put sq ++ textB da).length : Int) + (Leb.put th).length ≤ 9223372036854775807 by (try simp only [List.length_append]); omega) fun _ => ?_
    refine Need.mk (show isI64 ta by unfold isI64; omega) fun _ => ?_
    refine Need.mk (show ((textB sp ++ Leb.put sc ++ textB dp ++ Leb.put dc ++ Leb.put sq ++ textB da ++ Leb.put th).length : Int) + (Leb.put ta).length ≤ 9223372036854775807 by (try simp only [List.length_append]); omega) fun _ => ?_
    simp [pkB, Arith.std]



end Vx
end Go.Proofs.Ytcgoaicifjndpaa
end

section
/- The document's messages as bytes, by the walker. -/
namespace Go.Proofs.Ytcgoaicifjndpaa.Vx
open Go.RowKit
set_option linter.unusedVariables false
set_option linter.unusedSimpArgs false
theorem Ife.no {b : Bool} {p q : Prop} (h : b = false) (x : q) : Ife b p q := Ife.mk (fun g => by rw [h] at g; cases g) fun _ => x
theorem Ife.yes {b : Bool} {p q : Prop} (h : b = true) (x : p) : Ife b p q := Ife.mk (fun _ => x) fun g => by rw [h] at g; cases g
theorem proofB_len {c : Int} {L : List PLeaf} (h : proofV (c, L)) : (proofB (c, L)).length ≤ 40001000 := by
  have e := wProof_ok h []
  have l := wProof_len (c := c) (L := L) (s := ([], false)) (proofV_fit h (by simp))
  rw [e] at l
  simpa using l
theorem pkB_len {p : Pkt} (h : pkV p) : (pkB p).length ≤ 400 := by
  have e := wPk_ok h (l := [])
  have l := wPk_len0 h ([], false)
  rw [e] at l
  simpa using l
theorem mayM_pk {m : PMsg} (h : mayM m = true) (hk : m.kind ≠ 1) : mayPkt m.pk = true := by
  unfold mayM at h
  rw [if_neg hk] at h
  simp only [Bool.and_eq_true] at h
  exact h.2.2.2.2.2.1
set_option maxRecDepth 100000 in
set_option maxHeartbeats 16000000 in
theorem rencMP : Fn Try.prog 65 [] [(140, 204), (140, 204)] sEncM := by
  have hC : CtsOk Try.prog [(47, appFn [] [(140, 204), (140, 204)] sMayM), (120, appPure sLebPut), (123, appPure sPutText), (121, appPure sHText), (122, appPure sPutPk), (124, appFn [] [(140, 204)] sRPutPr)] := CtsOk.cons (Fn.ct rmayMP) <| CtsOk.cons (Pure.ct refPutP) <| CtsOk.cons (Pure.ct refPutTextP) <| CtsOk.cons (Pure.ct refHTextP) <| CtsOk.cons (Pure.ct refPutPkP) <| CtsOk.cons (Fn.ct rputPrP) <| CtsOk.nil _
  refine Fn.of (E := tbR) [] 0 [(5, [(0, true), (1, true), (2, true), (3, true), (6, true), (7, true), (8, true), (11, true), (12, true), (13, true), (4, false), (5, true), (9, false), (10, true), (14, false), (15, true), (16, true), (17, true)]), (11, [(0, true), (1, true), (2, true), (4, true), (5, true), (3, false), (6, false), (7, true), (8, true), (9, true)])] tbR_ok hC (by kernel_rfl) Try.func65 rfl rfl rfl (by kernel_rfl) (by kernel_rfl) 2 5 1 ?_ ?_
  · intro args h pre r h' hs
    unfold sEncM at hs
    split at hs
    · cases hs; exact ⟨rfl, rfl, Nat.le_of_ble_eq_true rfl⟩
    · cases hs
  · intro args h pre r h' hs hp
    unfold sEncM at hs
    split at hs
    rotate_left
    · cases hs
    rename_i cs fr ty sz n get fr' ty' sz' n' get'
    cases hs
    obtain ⟨hcs, ⟨rfl, rfl, hst, hok, hm⟩, ⟨rfl, rfl, hst', hok', hm'⟩, hfit⟩ := hp
    refine ⟨[.data fr 140 4 n (leafG false (leafL n get)), .data fr' 140 4 n' (leafG false (leafL n' get'))], ⟨⟨rfl, rfl, rfl, rfl, fun i j hi hj => by rw [hst i j hi hj]; exact Cell.le_refl _⟩, ⟨rfl, rfl, rfl, rfl, fun i j hi hj => by rw [hst' i j hi hj]; exact Cell.le_refl _⟩, trivial⟩, ?_⟩
    have hL : (leafL n get).length = n := leafL_len
    have hL' : (leafL n' get').length = n' := leafL_len
    have e1 : (msgOf cs n get n' get').pl = leafL n get := rfl
    have e2 : (msgOf cs n get n' get').cl = leafL n' get' := rfl
    generalize msgOf cs n get n' get' = m at *
    subst hcs
    obtain ⟨k, hh, ht, hr, ⟨sp, sc, dp, dc, sq, da, th, ta⟩, ack, nx, hg, pc, pl, cc, cl⟩ := m
    replace e1 : pl = leafL n get := e1
    replace e2 : cl = leafL n' get' := e2
    clear hst hst'
    subst e1 e2
    generalize leafL n get = pl at *
    generalize leafL n' get' = cl at *
    have hok0 : MsgOk ⟨k, hh, ht, hr, ⟨sp, sc, dp, dc, sq, da, th, ta⟩, ack, nx, hg, pc, pl, cc, cl⟩ := ⟨hfit, hok, hok', by show pl.length ≤ _; omega, by show cl.length ≤ _; omega⟩
    obtain ⟨hpk, hack, hrl, hrb⟩ := hfit
    replace hack : ack.length ≤ 1000000000 := hack
    replace hrl : hr.length = 32 := hrl
    replace hrb : ∀ b ∈ hr, 0 ≤ b ∧ b < 256 := hrb
    unfold sMayM sLebPut sPutText sHText sPutPk sRPutPr
    generalize hg0 : (List.length : List UInt8 → Nat) = g0
    try unfold leafG
    try unfold msgC
    generalize ho0 : @lK = zo0, ho1 : @lV = zo1, ho2 : @lI = zo2, ho3 : @lP = zo3, ho4 : @lN = zo4, ho5 : @pG = zo5, ho6 : @leafL = zo6, ho7 : @leavesPre = zo7, ho8 : @rN = zo8, ho9 : @msgPre = zo9, ho10 : @nextB = zo10, ho11 : @mayM = zo11, ho12 : @msgOf = zo12, ho13 : @mayPkt = zo13, ho14 : @hashOf = zo14, ho15 : @isI64 = zo15, ho16 : @msgB = zo16, ho17 : @encMsg = zo17, ho18 : @textB = zo18, ho19 : @Leb.put = zo19, ho20 : @proofB = zo20, ho21 : @pkB = zo21, ho22 : @rPutPre = zo22
    generalize hA : Arith.std = A
    cbv
    subst hA hg0 ho0 ho1 ho2 ho3 ho4 ho5 ho6 ho7 ho8 ho9 ho10 ho11 ho12 ho13 ho14 ho15 ho16 ho17 ho18 ho19 ho20 ho21 ho22
    refine Need.mk (msgPre_n (m := ⟨k, hh, ht, hr, ⟨sp, sc, dp, dc, sq, da, th, ta⟩, ack, nx, hg, pc, pl, cc, cl⟩) hok0 hL hL') fun _ => ?_
    have z := msgOf_n (m := ⟨k, hh, ht, hr, ⟨sp, sc, dp, dc, sq, da, th, ta⟩, ack, nx, hg, pc, pl, cc, cl⟩) (a := .row 0) (b := .row 1) (fr := false) (fr' := false) hok0 hL hL'
    simp only [msgC, msgCP, h32, pkC, List.cons_append, List.nil_append] at z
    rw [z]
    have hmn : n ≤ 1000000 := hm
    have hmn' : n' ≤ 1000000 := hm'
    refine Ife.mk (fun hm => ?_) (fun hm => ?_)
    · replace hm : (!mayM ⟨k, hh, ht, hr, ⟨sp, sc, dp, dc, sq, da, th, ta⟩, ack, nx, hg, pc, pl, cc, cl⟩) = true := hm
      rw [Bool.not_eq_true'] at hm
      rw [encMsg_no hm]
      exact ⟨[0, 1], ⟨rfl, by repeat' (first | exact trivial | exact rfl | apply And.intro | exact (fun _ _ _ _ => Cell.le_refl _) | (intro i hi; rfl) | (intro i hi; exact absurd hi (Nat.not_lt_zero _))), by decide, rfl, by repeat' (first | exact trivial | exact rfl | apply And.intro | exact (fun _ _ _ _ => Cell.le_refl _) | (intro i hi; rfl) | (intro i hi; exact absurd hi (Nat.not_lt_zero _)))⟩⟩
    replace hm : (!mayM ⟨k, hh, ht, hr, ⟨sp, sc, dp, dc, sq, da, th, ta⟩, ack, nx, hg, pc, pl, cc, cl⟩) = false := hm
    rw [Bool.not_eq_false'] at hm
    have hV := mayM_V hm hok0
    clear z hok0
    have hk : 1 ≤ k ∧ k ≤ 5 := hV.1
    have hk : k = 1 ∨ k = 2 ∨ k = 3 ∨ k = 4 ∨ k = 5 := by omega
    rcases hk with rfl | rfl | rfl | rfl | rfl
    · obtain ⟨-, h1, -⟩ := hV
      replace h1 : hdrV (hh, ht, hr) := h1
      obtain ⟨⟨a1, a2⟩, ⟨a3, a4⟩, -⟩ := h1
      dsimp only at a1 a2 a3 a4
      have p1 := Leb.put_len_le 1
      have p2 := Leb.put_len_le hh
      have p3 := Leb.put_len_le ht
      refine Need.mk (show isI64 (1 : Int) by unfold isI64; omega) fun _ => ?_
      refine Ife.yes (by decide) ?_
      refine Need.mk (show isI64 hh by unfold isI64; omega) fun _ => ?_
      refine Need.mk (show ((Leb.put 1).length : Int) + (Leb.put hh).length ≤ 9223372036854775807 by (try simp only [List.length_append]); omega) fun _ => ?_
      refine Need.mk (show isI64 ht by unfold isI64; omega) fun _ => ?_
      refine Need.mk (show ((Leb.put 1 ++ Leb.put hh).length : Int) + (Leb.put ht).length ≤ 9223372036854775807 by (try simp only [List.length_append]); omega) fun _ => ?_
      have e0 : hashOf [rN hr 0, rN hr 1, rN hr 2, rN hr 3, rN hr 4, rN hr 5, rN hr 6, rN hr 7, rN hr 8, rN hr 9, rN hr 10, rN hr 11, rN hr 12, rN hr 13, rN hr 14, rN hr 15, rN hr 16, rN hr 17, rN hr 18, rN hr 19, rN hr 20, rN hr 21, rN hr 22, rN hr 23, rN hr 24, rN hr 25, rN hr 26, rN hr 27, rN hr 28, rN hr 29, rN hr 30, rN hr 31] = hashOf hr := congrArg hashOf (list32 hrl)
      have e1 : (hashOf [rN hr 0, rN hr 1, rN hr 2, rN hr 3, rN hr 4, rN hr 5, rN hr 6, rN hr 7, rN hr 8, rN hr 9, rN hr 10, rN hr 11, rN hr 12, rN hr 13, rN hr 14, rN hr 15, rN hr 16, rN hr 17, rN hr 18, rN hr 19, rN hr 20, rN hr 21, rN hr 22, rN hr 23, rN hr 24, rN hr 25, rN hr 26, rN hr 27, rN hr 28, rN hr 29, rN hr 30, rN hr 31]).length = 32 := by rw [e0, hashOf_lenL]; exact hrl
      refine Need.mk trivial fun _ => ?_
      refine Need.mk (show ((Leb.put 1 ++ Leb.put hh ++ Leb.put ht).length : Int) + (hashOf [rN hr 0, rN hr 1, rN hr 2, rN hr 3, rN hr 4, rN hr 5, rN hr 6, rN hr 7, rN hr 8, rN hr 9, rN hr 10, rN hr 11, rN hr 12, rN hr 13, rN hr 14, rN hr 15, rN hr 16, rN hr 17, rN hr 18, rN hr 19, rN hr 20, rN hr 21, rN hr 22, rN hr 23, rN hr 24, rN hr 25, rN hr 26, rN hr 27, rN hr 28, rN hr 29, rN hr 30, rN hr 31]).length ≤ 9223372036854775807 by rw [e1]; simp only [List.length_append]; omega) fun _ => ?_
      have hB : msgB ⟨1, hh, ht, hr, ⟨sp, sc, dp, dc, sq, da, th, ta⟩, ack, nx, hg, pc, pl, cc, cl⟩ = Leb.put 1 ++ Leb.put hh ++ Leb.put ht ++ hashOf [rN hr 0, rN hr 1, rN hr 2, rN hr 3, rN hr 4, rN hr 5, rN hr 6, rN hr 7, rN hr 8, rN hr 9, rN hr 10, rN hr 11, rN hr 12, rN hr 13, rN hr 14, rN hr 15, rN hr 16, rN hr 17, rN hr 18, rN hr 19, rN hr 20, rN hr 21, rN hr 22, rN hr 23, rN hr 24, rN hr 25, rN hr 26, rN hr 27, rN hr 28, rN hr 29, rN hr 30, rN hr 31] := by
        rw [e0]
        simp [msgB, restB, restOf, hdrB, nextB]
      rw [encMsg_yes hm, hB]
      exact ⟨[0, 1], ⟨rfl, by repeat' (first | exact trivial | exact rfl | apply And.intro | exact (fun _ _ _ _ => Cell.le_refl _) | (intro i hi; rfl) | (intro i hi; exact absurd hi (Nat.not_lt_zero _))), by decide, rfl, by repeat' (first | exact trivial | exact rfl | apply And.intro | exact (fun _ _ _ _ => Cell.le_refl _) | (intro i hi; rfl) | (intro i hi; exact absurd hi (Nat.not_lt_zero _)))⟩⟩
    · have hpm : mayPkt (⟨sp, sc, dp, dc, sq, da, th, ta⟩ : Pkt) = true := mayM_pk hm (by show (2 : Int) ≠ 1; decide)
      obtain ⟨-, -, h2, h3, h4, h5, h6, h7⟩ := hV
      replace h2 : pkV (⟨sp, sc, dp, dc, sq, da, th, ta⟩ : Pkt) := h2
      replace h5 : 1 ≤ hg ∧ hg ≤ 1099511627776 := h5
      have hP : proofV (pc, pl) := h6
      have b1 := pkB_len h2
      have b2 := proofB_len hP
      have p1 := Leb.put_len_le 2
      have p2 := Leb.put_len_le hg
      refine Need.mk (show isI64 (2 : Int) by unfold isI64; omega) fun _ => ?_
      refine Ife.no (by decide) ?_
      refine Need.mk hpm fun _ => ?_
      refine Need.mk (show ((Leb.put 2).length : Int) + (pkB (⟨sp, sc, dp, dc, sq, da, th, ta⟩ : Pkt)).length ≤ 9223372036854775807 by (try simp only [List.length_append]); omega) fun _ => ?_
      refine Ife.no (by decide) ?_
      refine Ife.no (by decide) ?_
      refine Need.mk (show isI64 hg by unfold isI64; omega) fun _ => ?_
      refine Need.mk ⟨by rw [leavesL_n hL hok]; exact hP, leavesPre_n hL hok hmn⟩ fun _ => ?_
      rw [leavesL_n hL hok]
      refine Need.mk (show ((Leb.put hg).length : Int) + (proofB (pc, pl)).length ≤ 9223372036854775807 by (try simp only [List.length_append]); omega) fun _ => ?_
      refine Need.mk (show ((Leb.put 2 ++ pkB (⟨sp, sc, dp, dc, sq, da, th, ta⟩ : Pkt)).length : Int) + (Leb.put hg ++ proofB (pc, pl)).length ≤ 9223372036854775807 by (try simp only [List.length_append]); omega) fun _ => ?_
      refine Ife.no (by decide) ?_
      have hB : msgB ⟨2, hh, ht, hr, ⟨sp, sc, dp, dc, sq, da, th, ta⟩, ack, nx, hg, pc, pl, cc, cl⟩ = Leb.put 2 ++ pkB (⟨sp, sc, dp, dc, sq, da, th, ta⟩ : Pkt) ++ (Leb.put hg ++ proofB (pc, pl)) := by simp [msgB, restB, restOf, hdrB, nextB]
      rw [encMsg_yes hm, hB]
      exact ⟨[0, 1], ⟨rfl, by repeat' (first | exact trivial | exact rfl | apply And.intro | exact (fun _ _ _ _ => Cell.le_refl _) | (intro i hi; rfl) | (intro i hi; exact absurd hi (Nat.not_lt_zero _))), by decide, rfl, by repeat' (first | exact trivial | exact rfl | apply And.intro | exact (fun _ _ _ _ => Cell.le_refl _) | (intro i hi; rfl) | (intro i hi; exact absurd hi (Nat.not_lt_zero _)))⟩⟩
    · have hpm : mayPkt (⟨sp, sc, dp, dc, sq, da, th, ta⟩ : Pkt) = true := mayM_pk hm (by show (3 : Int) ≠ 1; decide)
      obtain ⟨-, -, h2, h3, h4, h5, h6, h7⟩ := hV
      replace h2 : pkV (⟨sp, sc, dp, dc, sq, da, th, ta⟩ : Pkt) := h2
      replace h5 : 1 ≤ hg ∧ hg ≤ 1099511627776 := h5
      have hP : proofV (pc, pl) := h6
      have b1 := pkB_len h2
      have b2 := proofB_len hP
      have p1 := Leb.put_len_le 3
      have p2 := Leb.put_len_le hg
      replace h3 : (ack.length : Int) ≤ 32 := h3
      have h3n : ack.length ≤ 32 := Int.ofNat_le.mp h3
      have b3 := textB_len ack
      refine Need.mk (show isI64 (3 : Int) by unfold isI64; omega) fun _ => ?_
      refine Ife.no (by decide) ?_
      refine Need.mk hpm fun _ => ?_
      refine Need.mk (show ((Leb.put 3).length : Int) + (pkB (⟨sp, sc, dp, dc, sq, da, th, ta⟩ : Pkt)).length ≤ 9223372036854775807 by (try simp only [List.length_append]); omega) fun _ => ?_
      refine Ife.yes (by decide) ?_
      refine Need.mk (show ack.length ≤ 9223372036854770000 by omega) fun _ => ?_
      refine Need.mk (show ((Leb.put 3 ++ pkB (⟨sp, sc, dp, dc, sq, da, th, ta⟩ : Pkt)).length : Int) + (textB ack).length ≤ 9223372036854775807 by (try simp only [List.length_append]); omega) fun _ => ?_
      refine Ife.no (by decide) ?_
      refine Need.mk (show isI64 hg by unfold isI64; omega) fun _ => ?_
      refine Need.mk ⟨by rw [leavesL_n hL hok]; exact hP, leavesPre_n hL hok hmn⟩ fun _ => ?_
      rw [leavesL_n hL hok]
      refine Need.mk (show ((Leb.put hg).length : Int) + (proofB (pc, pl)).length ≤ 9223372036854775807 by (try simp only [List.length_append]); omega) fun _ => ?_
      refine Need.mk (show ((Leb.put 3 ++ pkB (⟨sp, sc, dp, dc, sq, da, th, ta⟩ : Pkt) ++ textB ack).length : Int) + (Leb.put hg ++ proofB (pc, pl)).length ≤ 9223372036854775807 by (try simp only [List.length_append]); omega) fun _ => ?_
      refine Ife.no (by decide) ?_
      have hB : msgB ⟨3, hh, ht, hr, ⟨sp, sc, dp, dc, sq, da, th, ta⟩, ack, nx, hg, pc, pl, cc, cl⟩ = Leb.put 3 ++ pkB (⟨sp, sc, dp, dc, sq, da, th, ta⟩ : Pkt) ++ textB ack ++ (Leb.put hg ++ proofB (pc, pl)) := by simp [msgB, restB, restOf, hdrB, nextB]
      rw [encMsg_yes hm, hB]
      exact ⟨[0, 1], ⟨rfl, by repeat' (first | exact trivial | exact rfl | apply And.intro | exact (fun _ _ _ _ => Cell.le_refl _) | (intro i hi; rfl) | (intro i hi; exact absurd hi (Nat.not_lt_zero _))), by decide, rfl, by repeat' (first | exact trivial | exact rfl | apply And.intro | exact (fun _ _ _ _ => Cell.le_refl _) | (intro i hi; rfl) | (intro i hi; exact absurd hi (Nat.not_lt_zero _)))⟩⟩
    · have hpm : mayPkt (⟨sp, sc, dp, dc, sq, da, th, ta⟩ : Pkt) = true := mayM_pk hm (by show (4 : Int) ≠ 1; decide)
      obtain ⟨-, -, h2, h3, h4, h5, h6, h7⟩ := hV
      replace h2 : pkV (⟨sp, sc, dp, dc, sq, da, th, ta⟩ : Pkt) := h2
      replace h5 : 1 ≤ hg ∧ hg ≤ 1099511627776 := h5
      have hP : proofV (pc, pl) := h6
      have b1 := pkB_len h2
      have b2 := proofB_len hP
      have p1 := Leb.put_len_le 4
      have p2 := Leb.put_len_le hg
      replace h4 : 0 ≤ nx ∧ nx ≤ 1099511627777 := h4
      have b4 := Leb.put_len_le nx
      refine Need.mk (show isI64 (4 : Int) by unfold isI64; omega) fun _ => ?_
      refine Ife.no (by decide) ?_
      refine Need.mk hpm fun _ => ?_
      refine Need.mk (show ((Leb.put 4).length : Int) + (pkB (⟨sp, sc, dp, dc, sq, da, th, ta⟩ : Pkt)).length ≤ 9223372036854775807 by (try simp only [List.length_append]); omega) fun _ => ?_
      refine Ife.no (by decide) ?_
      refine Ife.yes (by decide) ?_
      refine Need.mk (show isI64 nx by unfold isI64; omega) fun _ => ?_
      refine Need.mk (show ((Leb.put 4 ++ pkB (⟨sp, sc, dp, dc, sq, da, th, ta⟩ : Pkt)).length : Int) + (Leb.put nx).length ≤ 9223372036854775807 by (try simp only [List.length_append]); omega) fun _ => ?_
      refine Need.mk (show isI64 hg by unfold isI64; omega) fun _ => ?_
      refine Need.mk ⟨by rw [leavesL_n hL hok]; exact hP, leavesPre_n hL hok hmn⟩ fun _ => ?_
      rw [leavesL_n hL hok]
      refine Need.mk (show ((Leb.put hg).length : Int) + (proofB (pc, pl)).length ≤ 9223372036854775807 by (try simp only [List.length_append]); omega) fun _ => ?_
      refine Need.mk (show ((Leb.put 4 ++ pkB (⟨sp, sc, dp, dc, sq, da, th, ta⟩ : Pkt) ++ Leb.put nx).length : Int) + (Leb.put hg ++ proofB (pc, pl)).length ≤ 9223372036854775807 by (try simp only [List.length_append]); omega) fun _ => ?_
      refine Ife.no (by decide) ?_
      have hB : msgB ⟨4, hh, ht, hr, ⟨sp, sc, dp, dc, sq, da, th, ta⟩, ack, nx, hg, pc, pl, cc, cl⟩ = Leb.put 4 ++ pkB (⟨sp, sc, dp, dc, sq, da, th, ta⟩ : Pkt) ++ Leb.put nx ++ (Leb.put hg ++ proofB (pc, pl)) := by simp [msgB, restB, restOf, hdrB, nextB]
      rw [encMsg_yes hm, hB]
      exact ⟨[0, 1], ⟨rfl, by repeat' (first | exact trivial | exact rfl | apply And.intro | exact (fun _ _ _ _ => Cell.le_refl _) | (intro i hi; rfl) | (intro i hi; exact absurd hi (Nat.not_lt_zero _))), by decide, rfl, by repeat' (first | exact trivial | exact rfl | apply And.intro | exact (fun _ _ _ _ => Cell.le_refl _) | (intro i hi; rfl) | (intro i hi; exact absurd hi (Nat.not_lt_zero _)))⟩⟩
    · have hpm : mayPkt (⟨sp, sc, dp, dc, sq, da, th, ta⟩ : Pkt) = true := mayM_pk hm (by show (5 : Int) ≠ 1; decide)
      obtain ⟨-, -, h2, h3, h4, h5, h6, h7⟩ := hV
      replace h2 : pkV (⟨sp, sc, dp, dc, sq, da, th, ta⟩ : Pkt) := h2
      replace h5 : 1 ≤ hg ∧ hg ≤ 1099511627776 := h5
      have hP : proofV (pc, pl) := h6
      have b1 := pkB_len h2
      have b2 := proofB_len hP
      have p1 := Leb.put_len_le 5
      have p2 := Leb.put_len_le hg
      replace h4 : 0 ≤ nx ∧ nx ≤ 1099511627777 := h4
      have b4 := Leb.put_len_le nx
      have hQ : proofV (cc, cl) := h7
      have b5 := proofB_len hQ
      refine Need.mk (show isI64 (5 : Int) by unfold isI64; omega) fun _ => ?_
      refine Ife.no (by decide) ?_
      refine Need.mk hpm fun _ => ?_
      refine Need.mk (show ((Leb.put 5).length : Int) + (pkB (⟨sp, sc, dp, dc, sq, da, th, ta⟩ : Pkt)).length ≤ 9223372036854775807 by (try simp only [List.length_append]); omega) fun _ => ?_
      refine Ife.no (by decide) ?_
      refine Ife.yes (by decide) ?_
      refine Need.mk (show isI64 nx by unfold isI64; omega) fun _ => ?_
      refine Need.mk (show ((Leb.put 5 ++ pkB (⟨sp, sc, dp, dc, sq, da, th, ta⟩ : Pkt)).length : Int) + (Leb.put nx).length ≤ 9223372036854775807 by (try simp only [List.length_append]); omega) fun _ => ?_
      refine Need.mk (show isI64 hg by unfold isI64; omega) fun _ => ?_
      refine Need.mk ⟨by rw [leavesL_n hL hok]; exact hP, leavesPre_n hL hok hmn⟩ fun _ => ?_
      rw [leavesL_n hL hok]
      refine Need.mk (show ((Leb.put hg).length : Int) + (proofB (pc, pl)).length ≤ 9223372036854775807 by (try simp only [List.length_append]); omega) fun _ => ?_
      refine Need.mk (show ((Leb.put 5 ++ pkB (⟨sp, sc, dp, dc, sq, da, th, ta⟩ : Pkt) ++ Leb.put nx).length : Int) + (Leb.put hg ++ proofB (pc, pl)).length ≤ 9223372036854775807 by (try simp only [List.length_append]); omega) fun _ => ?_
      refine Ife.yes (by decide) ?_
      refine Need.mk ⟨by rw [leavesL_n hL' hok']; exact hQ, leavesPre_n hL' hok' hmn'⟩ fun _ => ?_
      rw [leavesL_n hL' hok']
      refine Need.mk (show ((Leb.put 5 ++ pkB (⟨sp, sc, dp, dc, sq, da, th, ta⟩ : Pkt) ++ Leb.put nx ++ (Leb.put hg ++ proofB (pc, pl))).length : Int) + (proofB (cc, cl)).length ≤ 9223372036854775807 by (try simp only [List.length_append]); omega) fun _ => ?_
      have hB : msgB ⟨5, hh, ht, hr, ⟨sp, sc, dp, dc, sq, da, th, ta⟩, ack, nx, hg, pc, pl, cc, cl⟩ = Leb.put 5 ++ pkB (⟨sp, sc, dp, dc, sq, da, th, ta⟩ : Pkt) ++ Leb.put nx ++ (Leb.put hg ++ proofB (pc, pl)) ++ proofB (cc, cl) := by simp [msgB, restB, restOf, hdrB, nextB]
      rw [encMsg_yes hm, hB]
      exact ⟨[0, 1], ⟨rfl, by repeat' (first | exact trivial | exact rfl | apply And.intro | exact (fun _ _ _ _ => Cell.le_refl _) | (intro i hi; rfl) | (intro i hi; exact absurd hi (Nat.not_lt_zero _))), by decide, rfl, by repeat' (first | exact trivial | exact rfl | apply And.intro | exact (fun _ _ _ _ => Cell.le_refl _) | (intro i hi; rfl) | (intro i hi; exact absurd hi (Nat.not_lt_zero _)))⟩⟩
    

end Go.Proofs.Ytcgoaicifjndpaa.Vx
end
