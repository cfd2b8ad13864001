/- Make, by the walker. -/
import Derived.Test.YthomoliklfmnkaaDoorM27
import Derived.Test.YthomoliklfmnkaaDoorM35
import Derived.Test.YthomoliklfmnkaaDoorM28
section
namespace Go.Proofs.YthomoliklfmnkaaDoor.Vx
open Sha
open Go.RowKit
set_option linter.unusedVariables false
set_option linter.unusedSimpArgs false
def mkPre (gg sz0 n0 : Nat) (get0 : Nat → List CV) (ty one n : Nat) (get : Nat → List CV) : Prop := KsAt gg sz0 n0 get0 ∧ prPre ty one n get
theorem es_leq {fr : Bool} {ty sz n n' : Nat} {g g' : Nat → List CV} (hn : n = n') (h : ∀ i, i < n → g i = g' i) : Cell.le (.es fr ty sz n g) (.es fr ty sz n' g') := by
  subst hn
  rintro W D u ⟨a, cap, h1, h2, h3⟩
  refine ⟨a, cap, h1, h2, fun h0 => ?_⟩
  obtain ⟨b, o, h4, h5, h6⟩ := h3 h0
  refine ⟨b, o, h4, h5, fun i hi => ?_⟩
  rw [← h i hi]
  exact h6 i hi
theorem leafG_way {L : List PP} {i : Nat} {P : List PLeaf} {m : Nat} (hn : P.length = m) (hi : i < L.length) : ∀ a j, a < m + 1 → j < 4 → Cell.le (pushC m (leafG true P) [.pl (.str (prK L i)), .pl (.str (prV L i)), .pl (.int .i64 (i : Int)), .es true 24 32 (wayG (lfG L) L.length (i : Int)).length (hashesG (wayG (lfG L) L.length (i : Int)))] a j) (leafG true (P ++ [mkLeaf L i]) a j) := fun a j ha hj => by
  have h := leafG_push (p := P) hn (mkLeaf L i) a j ha hj
  subst hn
  unfold pushC at h ⊢
  cases hb : Nat.blt a P.length with
  | true => rw [hb] at h; exact h
  | false =>
    have hb : ¬ a < P.length := fun h => by rw [← Nat.blt_eq, hb] at h; cases h
    obtain rfl : a = P.length := by omega
    rw [leafG_last]
    rcases four hj with rfl | rfl | rfl | rfl
    · exact Cell.le_refl _
    · exact Cell.le_refl _
    · exact Cell.le_refl _
    · exact es_leq (wyL_len L i).symm fun j hj => (pG_way hj).symm
structure LMk (L : List PP) (a b : Nat) where
  i : Nat
  P : List PLeaf
  m : Nat
  h0 : a ≤ i
  h1 : i ≤ b
  hm : P.length = m
  h2 : P = (List.range' a (i - a)).map (mkLeaf L)
theorem lmk_next {L : List PP} {a i : Nat} {P : List PLeaf} (h0 : a ≤ i) (h2 : P = (List.range' a (i - a)).map (mkLeaf L)) : P ++ [mkLeaf L i] = (List.range' a (i + 1 - a)).map (mkLeaf L) := by
  rw [h2, show i + 1 - a = (i - a) + 1 by omega, List.range'_concat, List.map_append]
  rw [show a + 1 * (i - a) = i by omega]
  rfl
def sMake : SpecF
  | [.c (.row 1), .c (.str k)], [.glob gg sz0 n0 get0, .elems ty one n get] => some (mkPre gg sz0 n0 get0 ty one n get, .agg [.int .i64 (mkC (prL n get)), .row 2], [.dead, .dead, .data true 115 4 (lenL (mkL (prL n get) k)) (leafG true (mkL (prL n get) k))])
  | _, _ => none

set_option maxRecDepth 100000 in
set_option maxHeartbeats 32000000 in
theorem makeP : Fn Tryd.prog 22 [0] [(63, 2)] sMake := by
  have hC : CtsOk Tryd.prog [(18, appFn [] [(63, 2)] sGood), (83, appFn [] [] sSea), (79, appFn [0] [(63, 2)] sSums), (85, appFn [0] [(24, 32)] sWay)] := CtsOk.cons (Fn.ct goodP) <| CtsOk.cons (Fn.ct seaP) <| CtsOk.cons (Fn.ct sumsP) <| CtsOk.cons (Fn.ct wayP) <| CtsOk.nil _
  refine Fn.ofZ (E := tbMk) [0] 0 [(4, [(0, true), (1, true), (2, true), (3, true), (4, true), (5, true), (6, true), (7, true), (8, true), (9, true)]), (5, [(0, true), (1, true), (2, true), (3, true), (4, true), (5, true), (6, true), (7, true), (8, true), (9, true), (10, true), (11, true), (12, true)]), (7, [(9999, true), (0, true), (1, true), (2, true), (3, true), (3004, false), (5, false), (6, false), (7, true), (2999, false), (5, false), (4, false), (6, false), (7, true), (2999, false)]), (11, [(2007, false), (0, true), (1, true), (2, true), (3, true), (4, true), (5, true), (6, true), (7, true), (8, true), (9, true), (10, true), (11, true), (12, true), (13, true), (14, true), (15, false), (16, true), (17, false), (18, false), (1019, false), (19, true), (20, false)])] tbMk_ok hC (by kernel_rfl) Tryd.func22 rfl rfl rfl (by kernel_rfl) (by kernel_rfl) 2 (.data true 115 4 0 fun _ _ => .pl .tt) rfl ?_ ?_
  · intro args h pre r h' hs
    unfold sMake at hs
    split at hs
    · cases hs; exact ⟨rfl, rfl, Nat.le_of_ble_eq_true rfl⟩
    · cases hs
  · intro args h pre r h' hs hp
    unfold sMake at hs
    split at hs
    rotate_left
    · cases hs
    rename_i k gg sz0 n0 get0 ty one n get
    cases hs
    obtain ⟨hK, rfl, rfl, hst, hm⟩ := hp
    refine ⟨[.glob 0 1 64 (fun i => [.int .u32 (kOf i)]), .elems 63 2 n (prG (prL n get))], ⟨hK.same.1, ⟨rfl, rfl, rfl, fun i hi => hst.eq hi⟩, trivial⟩, ?_⟩
    clear hK
    have hL : (prL n get).length = n := prL_len
    have ePR : prL n (prG (prL n get)) = prL n get := by
      have := prL_prG (prL n get)
      rwa [hL] at this
    generalize prL n get = L at hL ePR ⊢
    unfold sGood sSea sSums sWay
    generalize hg0 : (List.length : List PP → Nat) = g0
    generalize hg1 : (List.length : List (Nat → Int) → Nat) = g1
    generalize hL : lft Tryd.prog _ = L
    try unfold prG
    try unfold leafG
    generalize ho0 : @prK = zo0, ho1 : @prV = zo1, ho2 : @prL = zo2, ho3 : @ltB = zo3, ho4 : @findI = zo4, ho5 : @findB = zo5, ho6 : @prPre = zo6, ho7 : @goodL = zo7, ho8 : @kOf = zo8, ho9 : @lfG = zo9, ho10 : @sumsPre = zo10, ho11 : @lK = zo11, ho12 : @lV = zo12, ho13 : @lI = zo13, ho14 : @lP = zo14, ho15 : @lN = zo15, ho16 : @pG = zo16, ho17 : @mkLeaf = zo17, ho18 : @mkL = zo18, ho19 : @mkC = zo19, ho20 : @mkFrom = zo20, ho21 : @mkTo = zo21, ho22 : @wayG = zo22, ho23 : @hashesG = zo23, ho24 : @wayPre0 = zo24, ho25 : @mkPre = zo25, ho26 : @lenL = zo26
    generalize hA : Arith.std = A
    cbv
    subst hA hg0 hg1 hL ho0 ho1 ho2 ho3 ho4 ho5 ho6 ho7 ho8 ho9 ho10 ho11 ho12 ho13 ho14 ho15 ho16 ho17 ho18 ho19 ho20 ho21 ho22 ho23 ho24 ho25 ho26
    have hle := findI_le (L := L) (k := k)
    have hPr : prPre 63 2 n (prG L) := ⟨rfl, rfl, prAt_prG n L, hm⟩
    refine Need.mk hPr fun _ => ?_
    simp only [ePR]
    refine Ife.mk (fun h => ?_) (fun h => ?_)
    · have h : goodL L = false := by simpa using (show (!goodL L) = true from h)
      have e1 : mkL L k = [] := by unfold mkL; rw [if_neg (by rw [h]; simp)]
      have e2 : mkC L = 0 := by unfold mkC; rw [if_neg (by rw [h]; simp)]
      rw [e1, e2]
      have hZ : ∀ (i j : Nat), i < lenL [] → j < 4 → Cell.le (.pl .tt) (leafG true [] i j) := fun i j hi => absurd hi (Nat.not_lt_zero i)
      exact ⟨[], [0, 1, 6], ⟨trivial, rfl, by repeat' (first | exact trivial | exact rfl | apply And.intro | exact (fun _ _ _ _ => Cell.le_refl _) | (intro i hi; rfl) | (intro i hi; exact absurd hi (Nat.not_lt_zero _))), (by show List.Nodup []; exact List.nodup_nil), rfl, by repeat' (first | exact trivial | exact rfl | exact hZ | apply And.intro)⟩⟩
    have hg : goodL L = true := by simpa using (show (!goodL L) = false from h)
    clear h
    obtain ⟨hs, hz⟩ := goodL_iff.1 hg
    have eC : mkC L = (n : Int) := by unfold mkC; rw [if_pos hg, hL]
    have hT : min ((findI L k : Int) + 1) (n : Int) = ((mkTo L k : Nat) : Int) := by unfold mkTo; rw [hL]; omega
    have hft := mkFrom_le (L := L) (k := k)
    have eM := mkL_range (L := L) (k := k) hg
    refine Need.mk ⟨rfl, hPr, hs⟩ fun _ => ?_
    refine Need.mk (by show fitStd .i64 ((findI L k : Int) - 1); unfold fitStd; omega) fun _ => Need.mk (by show fitStd .i64 ((findI L k : Int) + 1); unfold fitStd; omega) fun _ => ?_
    refine Ife.mk (fun h => ?_) (fun h => ?_)
    · have h : (findI L k : Int) < (@Nat.cast Int instNatCastInt n) := of_decide_eq_true (p := (findI L k : Int) < (n : Int)) h
      refine Need.mk (by show 0 ≤ (findI L k : Int) ∧ (findI L k : Int) < (n : Int); omega) fun _ => Need.mk (by show (findI L k : Int).toNat < n; omega) fun _ => ?_
      refine Ife.mk (fun h2 => ?_) (fun h2 => ?_)
      · have h2 : prK L (findI L k) = k := of_decide_eq_true (p := prK L (findI L k) = k) h2
        have hfb : findB L k = true := by unfold findB; rw [decide_eq_true h2, decide_eq_true (by omega)]; rfl
        have hF : (findI L k : Int) = ((mkFrom L k : Nat) : Int) := by unfold mkFrom; rw [if_pos hfb]
        have hSm : sumsPre 0 1 64 (fun i => [.int .u32 (kOf i)]) 63 2 n (prG L) := ⟨ksAt_self, ⟨rfl, rfl, prAt_prG n L, hm⟩, by rw [ePR]; exact hz⟩
        refine Both.mk ?_ ?_
        · refine Need.mk hSm fun _ => ?_
          refine Runs.nilCellE 8 1 (.orow 115 4 0 (leafG true [])) rfl rfl rfl ?_
          show Runs Tryd.prog 2 (.loop _) _ _
          refine loop_ruleR (N := env (lft Tryd.prog 2) 0 .std tbMk [(18, appFn [] [(63, 2)] sGood), (83, appFn [] [] sSea), (79, appFn [0] [(63, 2)] sSums), (85, appFn [0] [(24, 32)] sWay)] [(4, [(0, true), (1, true), (2, true), (3, true), (4, true), (5, true), (6, true), (7, true), (8, true), (9, true)]), (5, [(0, true), (1, true), (2, true), (3, true), (4, true), (5, true), (6, true), (7, true), (8, true), (9, true), (10, true), (11, true), (12, true)]), (7, [(9999, true), (0, true), (1, true), (2, true), (3, true), (3004, false), (5, false), (6, false), (7, true), (2999, false), (5, false), (4, false), (6, false), (7, true), (2999, false)]), (11, [(2007, false), (0, true), (1, true), (2, true), (3, true), (4, true), (5, true), (6, true), (7, true), (8, true), (9, true), (10, true), (11, true), (12, true), (13, true), (14, true), (15, false), (16, true), (17, false), (18, false), (1019, false), (19, true), (20, false)])]) rfl tbMk_ok hC (fun c st K _ h => h) (by kernel_rfl) [0] (X := LMk L (mkFrom L k) (mkTo L k))
            (S := fun x => ⟨[.c (.row 1), .c (.str k), .c (.ptr 2 0), .c (.ptr 3 0), .c (.ptr 4 0), .any, .any, .c (.int .i64 ((mkTo L k : Nat) : Int)), .c (.ptr 5 0), .c (.row 6), .c (.int .i64 (x.i : Int))] ++ List.replicate 62 .any, [.glob 0 1 64 (fun i => [.int .u32 (kOf i)]), .elems 63 2 n (prG L), .cells 31 [.row 1], .cells 9 [.str k], .cells 27 [.int .i64 0, .val (.slice none 0 0)], .cells 27 [.int .i64 (n : Int), .row 7], .row 24 32 n (lfG L), .orow 115 4 x.m (leafG true x.P)]⟩) (μ := fun x => mkTo L k - x.i) ⟨mkFrom L k, [], 0, Nat.le_refl _, mkFrom_le.1, rfl, by rw [Nat.sub_self]; rfl⟩ (by kernel_rfl) [0, 1, 2, 3, 4, 8, 7, 9] ?h0XA ?rdXA
          case h0XA =>
            refine ⟨rfl, by decide, ?_, ?_⟩ <;> repeat' (first | exact trivial | exact hF | exact hT | exact congrArg (CV.int .i64) hF | exact congrArg (CV.int .i64) hT | exact hW | exact rfl | apply And.intro | exact (fun _ _ _ _ => Cell.le_refl _) | (intro i hi; rfl) | (intro i hi; exact absurd hi (Nat.not_lt_zero _)))
          case rdXA =>
            rintro ⟨i, P, m, h0, h1, hmm, hP⟩
            unfold sGood sSea sSums sWay
            generalize hg0 : (List.length : List PP → Nat) = g0
            generalize hg1 : (List.length : List (Nat → Int) → Nat) = g1
            generalize hL : lft Tryd.prog _ = L
            try dsimp only
            try unfold prG
            try unfold leafG
            generalize ho0 : @prK = zo0, ho1 : @prV = zo1, ho2 : @prL = zo2, ho3 : @ltB = zo3, ho4 : @findI = zo4, ho5 : @findB = zo5, ho6 : @prPre = zo6, ho7 : @goodL = zo7, ho8 : @kOf = zo8, ho9 : @lfG = zo9, ho10 : @sumsPre = zo10, ho11 : @lK = zo11, ho12 : @lV = zo12, ho13 : @lI = zo13, ho14 : @lP = zo14, ho15 : @lN = zo15, ho16 : @pG = zo16, ho17 : @mkLeaf = zo17, ho18 : @mkL = zo18, ho19 : @mkC = zo19, ho20 : @mkFrom = zo20, ho21 : @mkTo = zo21, ho22 : @wayG = zo22, ho23 : @hashesG = zo23, ho24 : @wayPre0 = zo24, ho25 : @mkPre = zo25, ho26 : @lenL = zo26
            generalize hA : Arith.std = A
            cbv
            subst hA hg0 hg1 hL ho0 ho1 ho2 ho3 ho4 ho5 ho6 ho7 ho8 ho9 ho10 ho11 ho12 ho13 ho14 ho15 ho16 ho17 ho18 ho19 ho20 ho21 ho22 ho23 ho24 ho25 ho26
            refine Ife.mk (fun h => ?_) (fun h => ?_)
            · have h : (i : Int) < ((mkTo L k : Nat) : Int) := of_decide_eq_true (p := (i : Int) < ((mkTo L k : Nat) : Int)) h
              have hib : i < mkTo L k := Int.ofNat_lt.mp h
              have q1 : 0 ≤ (i : Int) ∧ (i : Int) < (n : Int) := by omega
              have q2 : (i : Int).toNat < n := by omega
              have hml : m ≤ n := by
                have := congrArg List.length hP
                rw [List.length_map, List.length_range'] at this
                omega
              refine Need.mk q1 fun _ => Need.mk q2 fun _ => Need.mk q1 fun _ => Need.mk q2 fun _ => ?_
              refine Need.mk ⟨ksAt_self, rfl, rfl, lfG_hash L n, by omega⟩ fun _ => ?_
              refine Need.mk ⟨show m + 1 ≤ maxLen ∧ (m + 1) * 64 ≤ 140737488355328 from ⟨by unfold maxLen; omega, by omega⟩, trivial⟩ fun _ => ?_
              refine Need.mk (by show fitStd .i64 ((i : Int) + 1); unfold fitStd; omega) fun _ => ?_
              have hW := leafG_way (L := L) (i := i) hmm (by omega)
              rw [hL] at hW
              refine ⟨⟨i + 1, P ++ [mkLeaf L i], m + 1, by omega, by omega, by rw [List.length_append, hmm]; rfl, lmk_next h0 hP⟩, [0, 1, 2, 3, 4, 5, 6, 11], (by show mkTo L k - (i + 1) < mkTo L k - i; omega), ?_⟩
              refine ⟨rfl, by decide, by repeat' (first | exact trivial | exact hF | exact hT | exact congrArg (CV.int .i64) hF | exact congrArg (CV.int .i64) hT | exact hW | exact rfl | apply And.intro | exact (fun _ _ _ _ => Cell.le_refl _) | (intro i hi; rfl) | (intro i hi; exact absurd hi (Nat.not_lt_zero _))), ?_⟩
              repeat' (first | exact trivial | exact hF | exact hT | exact congrArg (CV.int .i64) hF | exact congrArg (CV.int .i64) hT | exact hW | exact rfl | apply And.intro | exact (fun _ _ _ _ => Cell.le_refl _) | (intro i hi; rfl) | (intro i hi; exact absurd hi (Nat.not_lt_zero _)))
            · have h : ¬ (i : Int) < ((mkTo L k : Nat) : Int) := of_decide_eq_false (p := (i : Int) < ((mkTo L k : Nat) : Int)) h
              have ei : i = mkTo L k := by omega
              have hPm : P = mkL L k := by rw [hP, ei]; exact eM.symm
              rw [eC, ← hPm]
              refine ⟨[7], [0, 1, 7], ⟨?fzXA, rfl, (by repeat' (first | exact trivial | exact rfl | apply And.intro | exact (fun _ _ _ _ => Cell.le_refl _) | (intro i hi; rfl) | (intro i hi; exact absurd hi (Nat.not_lt_zero _)))), (by show List.Nodup []; exact List.nodup_nil), rfl, ?hhXA⟩⟩
              case fzXA =>
                refine ⟨fun i j hi hj => ?_, trivial⟩
                rcases four hj with rfl | rfl | rfl | rfl
                · trivial
                · trivial
                · trivial
                · exact rfl
              case hhXA =>
                repeat' (first | exact trivial | exact rfl | apply And.intro)
                · exact hmm.symm
                · exact fun _ _ _ _ => Cell.le_refl _
        · refine Need.mk hSm fun _ => ?_
          refine Runs.nilCellE 6 1 (.orow 115 4 0 (leafG true [])) rfl rfl rfl ?_
          show Runs Tryd.prog 2 (.loop _) _ _
          refine loop_ruleR (N := env (lft Tryd.prog 2) 0 .std tbMk [(18, appFn [] [(63, 2)] sGood), (83, appFn [] [] sSea), (79, appFn [0] [(63, 2)] sSums), (85, appFn [0] [(24, 32)] sWay)] [(4, [(0, true), (1, true), (2, true), (3, true), (4, true), (5, true), (6, true), (7, true), (8, true), (9, true)]), (5, [(0, true), (1, true), (2, true), (3, true), (4, true), (5, true), (6, true), (7, true), (8, true), (9, true), (10, true), (11, true), (12, true)]), (7, [(9999, true), (0, true), (1, true), (2, true), (3, true), (3004, false), (5, false), (6, false), (7, true), (2999, false), (5, false), (4, false), (6, false), (7, true), (2999, false)]), (11, [(2007, false), (0, true), (1, true), (2, true), (3, true), (4, true), (5, true), (6, true), (7, true), (8, true), (9, true), (10, true), (11, true), (12, true), (13, true), (14, true), (15, false), (16, true), (17, false), (18, false), (1019, false), (19, true), (20, false)])]) rfl tbMk_ok hC (fun c st K _ h => h) (by kernel_rfl) [0] (X := LMk L (mkFrom L k) (mkTo L k))
            (S := fun x => ⟨[.c (.row 1), .c (.str k), .c (.ptr 2 0), .c (.ptr 3 0), .c (.ptr 4 0), .any, .any, .c (.int .i64 ((mkTo L k : Nat) : Int)), .c (.ptr 5 0), .c (.row 6), .c (.int .i64 (x.i : Int))] ++ List.replicate 62 .any, [.glob 0 1 64 (fun i => [.int .u32 (kOf i)]), .elems 63 2 n (prG L), .cells 31 [.row 1], .cells 9 [.str k], .cells 27 [.int .i64 0, .val (.slice none 0 0)], .cells 27 [.int .i64 (n : Int), .row 7], .row 24 32 n (lfG L), .orow 115 4 x.m (leafG true x.P)]⟩) (μ := fun x => mkTo L k - x.i) ⟨mkFrom L k, [], 0, Nat.le_refl _, mkFrom_le.1, rfl, by rw [Nat.sub_self]; rfl⟩ (by kernel_rfl) [0, 1, 2, 3, 4, 6, 8, 9] ?h0XB ?rdXB
          case h0XB =>
            refine ⟨rfl, by decide, ?_, ?_⟩ <;> repeat' (first | exact trivial | exact hF | exact hT | exact congrArg (CV.int .i64) hF | exact congrArg (CV.int .i64) hT | exact hW | exact rfl | apply And.intro | exact (fun _ _ _ _ => Cell.le_refl _) | (intro i hi; rfl) | (intro i hi; exact absurd hi (Nat.not_lt_zero _)))
          case rdXB =>
            rintro ⟨i, P, m, h0, h1, hmm, hP⟩
            unfold sGood sSea sSums sWay
            generalize hg0 : (List.length : List PP → Nat) = g0
            generalize hg1 : (List.length : List (Nat → Int) → Nat) = g1
            generalize hL : lft Tryd.prog _ = L
            try dsimp only
            try unfold prG
            try unfold leafG
            generalize ho0 : @prK = zo0, ho1 : @prV = zo1, ho2 : @prL = zo2, ho3 : @ltB = zo3, ho4 : @findI = zo4, ho5 : @findB = zo5, ho6 : @prPre = zo6, ho7 : @goodL = zo7, ho8 : @kOf = zo8, ho9 : @lfG = zo9, ho10 : @sumsPre = zo10, ho11 : @lK = zo11, ho12 : @lV = zo12, ho13 : @lI = zo13, ho14 : @lP = zo14, ho15 : @lN = zo15, ho16 : @pG = zo16, ho17 : @mkLeaf = zo17, ho18 : @mkL = zo18, ho19 : @mkC = zo19, ho20 : @mkFrom = zo20, ho21 : @mkTo = zo21, ho22 : @wayG = zo22, ho23 : @hashesG = zo23, ho24 : @wayPre0 = zo24, ho25 : @mkPre = zo25, ho26 : @lenL = zo26
            generalize hA : Arith.std = A
            cbv
            subst hA hg0 hg1 hL ho0 ho1 ho2 ho3 ho4 ho5 ho6 ho7 ho8 ho9 ho10 ho11 ho12 ho13 ho14 ho15 ho16 ho17 ho18 ho19 ho20 ho21 ho22 ho23 ho24 ho25 ho26
            refine Ife.mk (fun h => ?_) (fun h => ?_)
            · have h : (i : Int) < ((mkTo L k : Nat) : Int) := of_decide_eq_true (p := (i : Int) < ((mkTo L k : Nat) : Int)) h
              have hib : i < mkTo L k := Int.ofNat_lt.mp h
              have q1 : 0 ≤ (i : Int) ∧ (i : Int) < (n : Int) := by omega
              have q2 : (i : Int).toNat < n := by omega
              have hml : m ≤ n := by
                have := congrArg List.length hP
                rw [List.length_map, List.length_range'] at this
                omega
              refine Need.mk q1 fun _ => Need.mk q2 fun _ => Need.mk q1 fun _ => Need.mk q2 fun _ => ?_
              refine Need.mk ⟨ksAt_self, rfl, rfl, lfG_hash L n, by omega⟩ fun _ => ?_
              refine Need.mk ⟨show m + 1 ≤ maxLen ∧ (m + 1) * 64 ≤ 140737488355328 from ⟨by unfold maxLen; omega, by omega⟩, trivial⟩ fun _ => ?_
              refine Need.mk (by show fitStd .i64 ((i : Int) + 1); unfold fitStd; omega) fun _ => ?_
              have hW := leafG_way (L := L) (i := i) hmm (by omega)
              rw [hL] at hW
              refine ⟨⟨i + 1, P ++ [mkLeaf L i], m + 1, by omega, by omega, by rw [List.length_append, hmm]; rfl, lmk_next h0 hP⟩, [0, 1, 2, 3, 4, 5, 6, 11], (by show mkTo L k - (i + 1) < mkTo L k - i; omega), ?_⟩
              refine ⟨rfl, by decide, by repeat' (first | exact trivial | exact hF | exact hT | exact congrArg (CV.int .i64) hF | exact congrArg (CV.int .i64) hT | exact hW | exact rfl | apply And.intro | exact (fun _ _ _ _ => Cell.le_refl _) | (intro i hi; rfl) | (intro i hi; exact absurd hi (Nat.not_lt_zero _))), ?_⟩
              repeat' (first | exact trivial | exact hF | exact hT | exact congrArg (CV.int .i64) hF | exact congrArg (CV.int .i64) hT | exact hW | exact rfl | apply And.intro | exact (fun _ _ _ _ => Cell.le_refl _) | (intro i hi; rfl) | (intro i hi; exact absurd hi (Nat.not_lt_zero _)))
            · have h : ¬ (i : Int) < ((mkTo L k : Nat) : Int) := of_decide_eq_false (p := (i : Int) < ((mkTo L k : Nat) : Int)) h
              have ei : i = mkTo L k := by omega
              have hPm : P = mkL L k := by rw [hP, ei]; exact eM.symm
              rw [eC, ← hPm]
              refine ⟨[7], [0, 1, 7], ⟨?fzXB, rfl, (by repeat' (first | exact trivial | exact rfl | apply And.intro | exact (fun _ _ _ _ => Cell.le_refl _) | (intro i hi; rfl) | (intro i hi; exact absurd hi (Nat.not_lt_zero _)))), (by show List.Nodup []; exact List.nodup_nil), rfl, ?hhXB⟩⟩
              case fzXB =>
                refine ⟨fun i j hi hj => ?_, trivial⟩
                rcases four hj with rfl | rfl | rfl | rfl
                · trivial
                · trivial
                · trivial
                · exact rfl
              case hhXB =>
                repeat' (first | exact trivial | exact rfl | apply And.intro)
                · exact hmm.symm
                · exact fun _ _ _ _ => Cell.le_refl _
      · have h2 : ¬ prK L (findI L k) = k := of_decide_eq_false (p := prK L (findI L k) = k) h2
        have hfb : ¬ findB L k = true := fun q => h2 (findB_eq q).2
        have hF : max ((findI L k : Int) - 1) 0 = ((mkFrom L k : Nat) : Int) := by unfold mkFrom; rw [if_neg hfb]; omega
        have hSm : sumsPre 0 1 64 (fun i => [.int .u32 (kOf i)]) 63 2 n (prG L) := ⟨ksAt_self, ⟨rfl, rfl, prAt_prG n L, hm⟩, by rw [ePR]; exact hz⟩
        refine Both.mk ?_ ?_
        · refine Need.mk hSm fun _ => ?_
          refine Runs.nilCellE 8 1 (.orow 115 4 0 (leafG true [])) rfl rfl rfl ?_
          show Runs Tryd.prog 2 (.loop _) _ _
          refine loop_ruleR (N := env (lft Tryd.prog 2) 0 .std tbMk [(18, appFn [] [(63, 2)] sGood), (83, appFn [] [] sSea), (79, appFn [0] [(63, 2)] sSums), (85, appFn [0] [(24, 32)] sWay)] [(4, [(0, true), (1, true), (2, true), (3, true), (4, true), (5, true), (6, true), (7, true), (8, true), (9, true)]), (5, [(0, true), (1, true), (2, true), (3, true), (4, true), (5, true), (6, true), (7, true), (8, true), (9, true), (10, true), (11, true), (12, true)]), (7, [(9999, true), (0, true), (1, true), (2, true), (3, true), (3004, false), (5, false), (6, false), (7, true), (2999, false), (5, false), (4, false), (6, false), (7, true), (2999, false)]), (11, [(2007, false), (0, true), (1, true), (2, true), (3, true), (4, true), (5, true), (6, true), (7, true), (8, true), (9, true), (10, true), (11, true), (12, true), (13, true), (14, true), (15, false), (16, true), (17, false), (18, false), (1019, false), (19, true), (20, false)])]) rfl tbMk_ok hC (fun c st K _ h => h) (by kernel_rfl) [0] (X := LMk L (mkFrom L k) (mkTo L k))
            (S := fun x => ⟨[.c (.row 1), .c (.str k), .c (.ptr 2 0), .c (.ptr 3 0), .c (.ptr 4 0), .any, .any, .c (.int .i64 ((mkTo L k : Nat) : Int)), .c (.ptr 5 0), .c (.row 6), .c (.int .i64 (x.i : Int))] ++ List.replicate 62 .any, [.glob 0 1 64 (fun i => [.int .u32 (kOf i)]), .elems 63 2 n (prG L), .cells 31 [.row 1], .cells 9 [.str k], .cells 27 [.int .i64 0, .val (.slice none 0 0)], .cells 27 [.int .i64 (n : Int), .row 7], .row 24 32 n (lfG L), .orow 115 4 x.m (leafG true x.P)]⟩) (μ := fun x => mkTo L k - x.i) ⟨mkFrom L k, [], 0, Nat.le_refl _, mkFrom_le.1, rfl, by rw [Nat.sub_self]; rfl⟩ (by kernel_rfl) [0, 1, 2, 3, 4, 8, 7, 9] ?h0YA ?rdYA
          case h0YA =>
            refine ⟨rfl, by decide, ?_, ?_⟩ <;> repeat' (first | exact trivial | exact hF | exact hT | exact congrArg (CV.int .i64) hF | exact congrArg (CV.int .i64) hT | exact hW | exact rfl | apply And.intro | exact (fun _ _ _ _ => Cell.le_refl _) | (intro i hi; rfl) | (intro i hi; exact absurd hi (Nat.not_lt_zero _)))
          case rdYA =>
            rintro ⟨i, P, m, h0, h1, hmm, hP⟩
            unfold sGood sSea sSums sWay
            generalize hg0 : (List.length : List PP → Nat) = g0
            generalize hg1 : (List.length : List (Nat → Int) → Nat) = g1
            generalize hL : lft Tryd.prog _ = L
            try dsimp only
            try unfold prG
            try unfold leafG
            generalize ho0 : @prK = zo0, ho1 : @prV = zo1, ho2 : @prL = zo2, ho3 : @ltB = zo3, ho4 : @findI = zo4, ho5 : @findB = zo5, ho6 : @prPre = zo6, ho7 : @goodL = zo7, ho8 : @kOf = zo8, ho9 : @lfG = zo9, ho10 : @sumsPre = zo10, ho11 : @lK = zo11, ho12 : @lV = zo12, ho13 : @lI = zo13, ho14 : @lP = zo14, ho15 : @lN = zo15, ho16 : @pG = zo16, ho17 : @mkLeaf = zo17, ho18 : @mkL = zo18, ho19 : @mkC = zo19, ho20 : @mkFrom = zo20, ho21 : @mkTo = zo21, ho22 : @wayG = zo22, ho23 : @hashesG = zo23, ho24 : @wayPre0 = zo24, ho25 : @mkPre = zo25, ho26 : @lenL = zo26
            generalize hA : Arith.std = A
            cbv
            subst hA hg0 hg1 hL ho0 ho1 ho2 ho3 ho4 ho5 ho6 ho7 ho8 ho9 ho10 ho11 ho12 ho13 ho14 ho15 ho16 ho17 ho18 ho19 ho20 ho21 ho22 ho23 ho24 ho25 ho26
            refine Ife.mk (fun h => ?_) (fun h => ?_)
            · have h : (i : Int) < ((mkTo L k : Nat) : Int) := of_decide_eq_true (p := (i : Int) < ((mkTo L k : Nat) : Int)) h
              have hib : i < mkTo L k := Int.ofNat_lt.mp h
              have q1 : 0 ≤ (i : Int) ∧ (i : Int) < (n : Int) := by omega
              have q2 : (i : Int).toNat < n := by omega
              have hml : m ≤ n := by
                have := congrArg List.length hP
                rw [List.length_map, List.length_range'] at this
                omega
              refine Need.mk q1 fun _ => Need.mk q2 fun _ => Need.mk q1 fun _ => Need.mk q2 fun _ => ?_
              refine Need.mk ⟨ksAt_self, rfl, rfl, lfG_hash L n, by omega⟩ fun _ => ?_
              refine Need.mk ⟨show m + 1 ≤ maxLen ∧ (m + 1) * 64 ≤ 140737488355328 from ⟨by unfold maxLen; omega, by omega⟩, trivial⟩ fun _ => ?_
              refine Need.mk (by show fitStd .i64 ((i : Int) + 1); unfold fitStd; omega) fun _ => ?_
              have hW := leafG_way (L := L) (i := i) hmm (by omega)
              rw [hL] at hW
              refine ⟨⟨i + 1, P ++ [mkLeaf L i], m + 1, by omega, by omega, by rw [List.length_append, hmm]; rfl, lmk_next h0 hP⟩, [0, 1, 2, 3, 4, 5, 6, 11], (by show mkTo L k - (i + 1) < mkTo L k - i; omega), ?_⟩
              refine ⟨rfl, by decide, by repeat' (first | exact trivial | exact hF | exact hT | exact congrArg (CV.int .i64) hF | exact congrArg (CV.int .i64) hT | exact hW | exact rfl | apply And.intro | exact (fun _ _ _ _ => Cell.le_refl _) | (intro i hi; rfl) | (intro i hi; exact absurd hi (Nat.not_lt_zero _))), ?_⟩
              repeat' (first | exact trivial | exact hF | exact hT | exact congrArg (CV.int .i64) hF | exact congrArg (CV.int .i64) hT | exact hW | exact rfl | apply And.intro | exact (fun _ _ _ _ => Cell.le_refl _) | (intro i hi; rfl) | (intro i hi; exact absurd hi (Nat.not_lt_zero _)))
            · have h : ¬ (i : Int) < ((mkTo L k : Nat) : Int) := of_decide_eq_false (p := (i : Int) < ((mkTo L k : Nat) : Int)) h
              have ei : i = mkTo L k := by omega
              have hPm : P = mkL L k := by rw [hP, ei]; exact eM.symm
              rw [eC, ← hPm]
              refine ⟨[7], [0, 1, 7], ⟨?fzYA, rfl, (by repeat' (first | exact trivial | exact rfl | apply And.intro | exact (fun _ _ _ _ => Cell.le_refl _) | (intro i hi; rfl) | (intro i hi; exact absurd hi (Nat.not_lt_zero _)))), (by show List.Nodup []; exact List.nodup_nil), rfl, ?hhYA⟩⟩
              case fzYA =>
                refine ⟨fun i j hi hj => ?_, trivial⟩
                rcases four hj with rfl | rfl | rfl | rfl
                · trivial
                · trivial
                · trivial
                · exact rfl
              case hhYA =>
                repeat' (first | exact trivial | exact rfl | apply And.intro)
                · exact hmm.symm
                · exact fun _ _ _ _ => Cell.le_refl _
        · refine Need.mk hSm fun _ => ?_
          refine Runs.nilCellE 6 1 (.orow 115 4 0 (leafG true [])) rfl rfl rfl ?_
          show Runs Tryd.prog 2 (.loop _) _ _
          refine loop_ruleR (N := env (lft Tryd.prog 2) 0 .std tbMk [(18, appFn [] [(63, 2)] sGood), (83, appFn [] [] sSea), (79, appFn [0] [(63, 2)] sSums), (85, appFn [0] [(24, 32)] sWay)] [(4, [(0, true), (1, true), (2, true), (3, true), (4, true), (5, true), (6, true), (7, true), (8, true), (9, true)]), (5, [(0, true), (1, true), (2, true), (3, true), (4, true), (5, true), (6, true), (7, true), (8, true), (9, true), (10, true), (11, true), (12, true)]), (7, [(9999, true), (0, true), (1, true), (2, true), (3, true), (3004, false), (5, false), (6, false), (7, true), (2999, false), (5, false), (4, false), (6, false), (7, true), (2999, false)]), (11, [(2007, false), (0, true), (1, true), (2, true), (3, true), (4, true), (5, true), (6, true), (7, true), (8, true), (9, true), (10, true), (11, true), (12, true), (13, true), (14, true), (15, false), (16, true), (17, false), (18, false), (1019, false), (19, true), (20, false)])]) rfl tbMk_ok hC (fun c st K _ h => h) (by kernel_rfl) [0] (X := LMk L (mkFrom L k) (mkTo L k))
            (S := fun x => ⟨[.c (.row 1), .c (.str k), .c (.ptr 2 0), .c (.ptr 3 0), .c (.ptr 4 0), .any, .any, .c (.int .i64 ((mkTo L k : Nat) : Int)), .c (.ptr 5 0), .c (.row 6), .c (.int .i64 (x.i : Int))] ++ List.replicate 62 .any, [.glob 0 1 64 (fun i => [.int .u32 (kOf i)]), .elems 63 2 n (prG L), .cells 31 [.row 1], .cells 9 [.str k], .cells 27 [.int .i64 0, .val (.slice none 0 0)], .cells 27 [.int .i64 (n : Int), .row 7], .row 24 32 n (lfG L), .orow 115 4 x.m (leafG true x.P)]⟩) (μ := fun x => mkTo L k - x.i) ⟨mkFrom L k, [], 0, Nat.le_refl _, mkFrom_le.1, rfl, by rw [Nat.sub_self]; rfl⟩ (by kernel_rfl) [0, 1, 2, 3, 4, 6, 8, 9] ?h0YB ?rdYB
          case h0YB =>
            refine ⟨rfl, by decide, ?_, ?_⟩ <;> repeat' (first | exact trivial | exact hF | exact hT | exact congrArg (CV.int .i64) hF | exact congrArg (CV.int .i64) hT | exact hW | exact rfl | apply And.intro | exact (fun _ _ _ _ => Cell.le_refl _) | (intro i hi; rfl) | (intro i hi; exact absurd hi (Nat.not_lt_zero _)))
          case rdYB =>
            rintro ⟨i, P, m, h0, h1, hmm, hP⟩
            unfold sGood sSea sSums sWay
            generalize hg0 : (List.length : List PP → Nat) = g0
            generalize hg1 : (List.length : List (Nat → Int) → Nat) = g1
            generalize hL : lft Tryd.prog _ = L
            try dsimp only
            try unfold prG
            try unfold leafG
            generalize ho0 : @prK = zo0, ho1 : @prV = zo1, ho2 : @prL = zo2, ho3 : @ltB = zo3, ho4 : @findI = zo4, ho5 : @findB = zo5, ho6 : @prPre = zo6, ho7 : @goodL = zo7, ho8 : @kOf = zo8, ho9 : @lfG = zo9, ho10 : @sumsPre = zo10, ho11 : @lK = zo11, ho12 : @lV = zo12, ho13 : @lI = zo13, ho14 : @lP = zo14, ho15 : @lN = zo15, ho16 : @pG = zo16, ho17 : @mkLeaf = zo17, ho18 : @mkL = zo18, ho19 : @mkC = zo19, ho20 : @mkFrom = zo20, ho21 : @mkTo = zo21, ho22 : @wayG = zo22, ho23 : @hashesG = zo23, ho24 : @wayPre0 = zo24, ho25 : @mkPre = zo25, ho26 : @lenL = zo26
            generalize hA : Arith.std = A
            cbv
            subst hA hg0 hg1 hL ho0 ho1 ho2 ho3 ho4 ho5 ho6 ho7 ho8 ho9 ho10 ho11 ho12 ho13 ho14 ho15 ho16 ho17 ho18 ho19 ho20 ho21 ho22 ho23 ho24 ho25 ho26
            refine Ife.mk (fun h => ?_) (fun h => ?_)
            · have h : (i : Int) < ((mkTo L k : Nat) : Int) := of_decide_eq_true (p := (i : Int) < ((mkTo L k : Nat) : Int)) h
              have hib : i < mkTo L k := Int.ofNat_lt.mp h
              have q1 : 0 ≤ (i : Int) ∧ (i : Int) < (n : Int) := by omega
              have q2 : (i : Int).toNat < n := by omega
              have hml : m ≤ n := by
                have := congrArg List.length hP
                rw [List.length_map, List.length_range'] at this
                omega
              refine Need.mk q1 fun _ => Need.mk q2 fun _ => Need.mk q1 fun _ => Need.mk q2 fun _ => ?_
              refine Need.mk ⟨ksAt_self, rfl, rfl, lfG_hash L n, by omega⟩ fun _ => ?_
              refine Need.mk ⟨show m + 1 ≤ maxLen ∧ (m + 1) * 64 ≤ 140737488355328 from ⟨by unfold maxLen; omega, by omega⟩, trivial⟩ fun _ => ?_
              refine Need.mk (by show fitStd .i64 ((i : Int) + 1); unfold fitStd; omega) fun _ => ?_
              have hW := leafG_way (L := L) (i := i) hmm (by omega)
              rw [hL] at hW
              refine ⟨⟨i + 1, P ++ [mkLeaf L i], m + 1, by omega, by omega, by rw [List.length_append, hmm]; rfl, lmk_next h0 hP⟩, [0, 1, 2, 3, 4, 5, 6, 11], (by show mkTo L k - (i + 1) < mkTo L k - i; omega), ?_⟩
              refine ⟨rfl, by decide, by repeat' (first | exact trivial | exact hF | exact hT | exact congrArg (CV.int .i64) hF | exact congrArg (CV.int .i64) hT | exact hW | exact rfl | apply And.intro | exact (fun _ _ _ _ => Cell.le_refl _) | (intro i hi; rfl) | (intro i hi; exact absurd hi (Nat.not_lt_zero _))), ?_⟩
              repeat' (first | exact trivial | exact hF | exact hT | exact congrArg (CV.int .i64) hF | exact congrArg (CV.int .i64) hT | exact hW | exact rfl | apply And.intro | exact (fun _ _ _ _ => Cell.le_refl _) | (intro i hi; rfl) | (intro i hi; exact absurd hi (Nat.not_lt_zero _)))
            · have h : ¬ (i : Int) < ((mkTo L k : Nat) : Int) := of_decide_eq_false (p := (i : Int) < ((mkTo L k : Nat) : Int)) h
              have ei : i = mkTo L k := by omega
              have hPm : P = mkL L k := by rw [hP, ei]; exact eM.symm
              rw [eC, ← hPm]
              refine ⟨[7], [0, 1, 7], ⟨?fzYB, rfl, (by repeat' (first | exact trivial | exact rfl | apply And.intro | exact (fun _ _ _ _ => Cell.le_refl _) | (intro i hi; rfl) | (intro i hi; exact absurd hi (Nat.not_lt_zero _)))), (by show List.Nodup []; exact List.nodup_nil), rfl, ?hhYB⟩⟩
              case fzYB =>
                refine ⟨fun i j hi hj => ?_, trivial⟩
                rcases four hj with rfl | rfl | rfl | rfl
                · trivial
                · trivial
                · trivial
                · exact rfl
              case hhYB =>
                repeat' (first | exact trivial | exact rfl | apply And.intro)
                · exact hmm.symm
                · exact fun _ _ _ _ => Cell.le_refl _
    · have h : ¬ (findI L k : Int) < (@Nat.cast Int instNatCastInt n) := of_decide_eq_false (p := (findI L k : Int) < (n : Int)) h
      have hfb : ¬ findB L k = true := fun q => by have := (findB_eq q).1; omega
      have hF : max ((findI L k : Int) - 1) 0 = ((mkFrom L k : Nat) : Int) := by unfold mkFrom; rw [if_neg hfb]; omega
      have hSm : sumsPre 0 1 64 (fun i => [.int .u32 (kOf i)]) 63 2 n (prG L) := ⟨ksAt_self, ⟨rfl, rfl, prAt_prG n L, hm⟩, by rw [ePR]; exact hz⟩
      refine Both.mk ?_ ?_
      · refine Need.mk hSm fun _ => ?_
        refine Runs.nilCellE 8 1 (.orow 115 4 0 (leafG true [])) rfl rfl rfl ?_
        show Runs Tryd.prog 2 (.loop _) _ _
        refine loop_ruleR (N := env (lft Tryd.prog 2) 0 .std tbMk [(18, appFn [] [(63, 2)] sGood), (83, appFn [] [] sSea), (79, appFn [0] [(63, 2)] sSums), (85, appFn [0] [(24, 32)] sWay)] [(4, [(0, true), (1, true), (2, true), (3, true), (4, true), (5, true), (6, true), (7, true), (8, true), (9, true)]), (5, [(0, true), (1, true), (2, true), (3, true), (4, true), (5, true), (6, true), (7, true), (8, true), (9, true), (10, true), (11, true), (12, true)]), (7, [(9999, true), (0, true), (1, true), (2, true), (3, true), (3004, false), (5, false), (6, false), (7, true), (2999, false), (5, false), (4, false), (6, false), (7, true), (2999, false)]), (11, [(2007, false), (0, true), (1, true), (2, true), (3, true), (4, true), (5, true), (6, true), (7, true), (8, true), (9, true), (10, true), (11, true), (12, true), (13, true), (14, true), (15, false), (16, true), (17, false), (18, false), (1019, false), (19, true), (20, false)])]) rfl tbMk_ok hC (fun c st K _ h => h) (by kernel_rfl) [0] (X := LMk L (mkFrom L k) (mkTo L k))
          (S := fun x => ⟨[.c (.row 1), .c (.str k), .c (.ptr 2 0), .c (.ptr 3 0), .c (.ptr 4 0), .any, .any, .c (.int .i64 ((mkTo L k : Nat) : Int)), .c (.ptr 5 0), .c (.row 6), .c (.int .i64 (x.i : Int))] ++ List.replicate 62 .any, [.glob 0 1 64 (fun i => [.int .u32 (kOf i)]), .elems 63 2 n (prG L), .cells 31 [.row 1], .cells 9 [.str k], .cells 27 [.int .i64 0, .val (.slice none 0 0)], .cells 27 [.int .i64 (n : Int), .row 7], .row 24 32 n (lfG L), .orow 115 4 x.m (leafG true x.P)]⟩) (μ := fun x => mkTo L k - x.i) ⟨mkFrom L k, [], 0, Nat.le_refl _, mkFrom_le.1, rfl, by rw [Nat.sub_self]; rfl⟩ (by kernel_rfl) [0, 1, 2, 3, 4, 8, 7, 9] ?h0ZA ?rdZA
        case h0ZA =>
          refine ⟨rfl, by decide, ?_, ?_⟩ <;> repeat' (first | exact trivial | exact hF | exact hT | exact congrArg (CV.int .i64) hF | exact congrArg (CV.int .i64) hT | exact hW | exact rfl | apply And.intro | exact (fun _ _ _ _ => Cell.le_refl _) | (intro i hi; rfl) | (intro i hi; exact absurd hi (Nat.not_lt_zero _)))
        case rdZA =>
          rintro ⟨i, P, m, h0, h1, hmm, hP⟩
          unfold sGood sSea sSums sWay
          generalize hg0 : (List.length : List PP → Nat) = g0
          generalize hg1 : (List.length : List (Nat → Int) → Nat) = g1
          generalize hL : lft Tryd.prog _ = L
          try dsimp only
          try unfold prG
          try unfold leafG
          generalize ho0 : @prK = zo0, ho1 : @prV = zo1, ho2 : @prL = zo2, ho3 : @ltB = zo3, ho4 : @findI = zo4, ho5 : @findB = zo5, ho6 : @prPre = zo6, ho7 : @goodL = zo7, ho8 : @kOf = zo8, ho9 : @lfG = zo9, ho10 : @sumsPre = zo10, ho11 : @lK = zo11, ho12 : @lV = zo12, ho13 : @lI = zo13, ho14 : @lP = zo14, ho15 : @lN = zo15, ho16 : @pG = zo16, ho17 : @mkLeaf = zo17, ho18 : @mkL = zo18, ho19 : @mkC = zo19, ho20 : @mkFrom = zo20, ho21 : @mkTo = zo21, ho22 : @wayG = zo22, ho23 : @hashesG = zo23, ho24 : @wayPre0 = zo24, ho25 : @mkPre = zo25, ho26 : @lenL = zo26
          generalize hA : Arith.std = A
          cbv
          subst hA hg0 hg1 hL ho0 ho1 ho2 ho3 ho4 ho5 ho6 ho7 ho8 ho9 ho10 ho11 ho12 ho13 ho14 ho15 ho16 ho17 ho18 ho19 ho20 ho21 ho22 ho23 ho24 ho25 ho26
          refine Ife.mk (fun h => ?_) (fun h => ?_)
          · have h : (i : Int) < ((mkTo L k : Nat) : Int) := of_decide_eq_true (p := (i : Int) < ((mkTo L k : Nat) : Int)) h
            have hib : i < mkTo L k := Int.ofNat_lt.mp h
            have q1 : 0 ≤ (i : Int) ∧ (i : Int) < (n : Int) := by omega
            have q2 : (i : Int).toNat < n := by omega
            have hml : m ≤ n := by
              have := congrArg List.length hP
              rw [List.length_map, List.length_range'] at this
              omega
            refine Need.mk q1 fun _ => Need.mk q2 fun _ => Need.mk q1 fun _ => Need.mk q2 fun _ => ?_
            refine Need.mk ⟨ksAt_self, rfl, rfl, lfG_hash L n, by omega⟩ fun _ => ?_
            refine Need.mk ⟨show m + 1 ≤ maxLen ∧ (m + 1) * 64 ≤ 140737488355328 from ⟨by unfold maxLen; omega, by omega⟩, trivial⟩ fun _ => ?_
            refine Need.mk (by show fitStd .i64 ((i : Int) + 1); unfold fitStd; omega) fun _ => ?_
            have hW := leafG_way (L := L) (i := i) hmm (by omega)
            rw [hL] at hW
            refine ⟨⟨i + 1, P ++ [mkLeaf L i], m + 1, by omega, by omega, by rw [List.length_append, hmm]; rfl, lmk_next h0 hP⟩, [0, 1, 2, 3, 4, 5, 6, 11], (by show mkTo L k - (i + 1) < mkTo L k - i; omega), ?_⟩
            refine ⟨rfl, by decide, by repeat' (first | exact trivial | exact hF | exact hT | exact congrArg (CV.int .i64) hF | exact congrArg (CV.int .i64) hT | exact hW | exact rfl | apply And.intro | exact (fun _ _ _ _ => Cell.le_refl _) | (intro i hi; rfl) | (intro i hi; exact absurd hi (Nat.not_lt_zero _))), ?_⟩
            repeat' (first | exact trivial | exact hF | exact hT | exact congrArg (CV.int .i64) hF | exact congrArg (CV.int .i64) hT | exact hW | exact rfl | apply And.intro | exact (fun _ _ _ _ => Cell.le_refl _) | (intro i hi; rfl) | (intro i hi; exact absurd hi (Nat.not_lt_zero _)))
          · have h : ¬ (i : Int) < ((mkTo L k : Nat) : Int) := of_decide_eq_false (p := (i : Int) < ((mkTo L k : Nat) : Int)) h
            have ei : i = mkTo L k := by omega
            have hPm : P = mkL L k := by rw [hP, ei]; exact eM.symm
            rw [eC, ← hPm]
            refine ⟨[7], [0, 1, 7], ⟨?fzZA, rfl, (by repeat' (first | exact trivial | exact rfl | apply And.intro | exact (fun _ _ _ _ => Cell.le_refl _) | (intro i hi; rfl) | (intro i hi; exact absurd hi (Nat.not_lt_zero _)))), (by show List.Nodup []; exact List.nodup_nil), rfl, ?hhZA⟩⟩
            case fzZA =>
              refine ⟨fun i j hi hj => ?_, trivial⟩
              rcases four hj with rfl | rfl | rfl | rfl
              · trivial
              · trivial
              · trivial
              · exact rfl
            case hhZA =>
              repeat' (first | exact trivial | exact rfl | apply And.intro)
              · exact hmm.symm
              · exact fun _ _ _ _ => Cell.le_refl _
      · refine Need.mk hSm fun _ => ?_
        refine Runs.nilCellE 6 1 (.orow 115 4 0 (leafG true [])) rfl rfl rfl ?_
        show Runs Tryd.prog 2 (.loop _) _ _
        refine loop_ruleR (N := env (lft Tryd.prog 2) 0 .std tbMk [(18, appFn [] [(63, 2)] sGood), (83, appFn [] [] sSea), (79, appFn [0] [(63, 2)] sSums), (85, appFn [0] [(24, 32)] sWay)] [(4, [(0, true), (1, true), (2, true), (3, true), (4, true), (5, true), (6, true), (7, true), (8, true), (9, true)]), (5, [(0, true), (1, true), (2, true), (3, true), (4, true), (5, true), (6, true), (7, true), (8, true), (9, true), (10, true), (11, true), (12, true)]), (7, [(9999, true), (0, true), (1, true), (2, true), (3, true), (3004, false), (5, false), (6, false), (7, true), (2999, false), (5, false), (4, false), (6, false), (7, true), (2999, false)]), (11, [(2007, false), (0, true), (1, true), (2, true), (3, true), (4, true), (5, true), (6, true), (7, true), (8, true), (9, true), (10, true), (11, true), (12, true), (13, true), (14, true), (15, false), (16, true), (17, false), (18, false), (1019, false), (19, true), (20, false)])]) rfl tbMk_ok hC (fun c st K _ h => h) (by kernel_rfl) [0] (X := LMk L (mkFrom L k) (mkTo L k))
          (S := fun x => ⟨[.c (.row 1), .c (.str k), .c (.ptr 2 0), .c (.ptr 3 0), .c (.ptr 4 0), .any, .any, .c (.int .i64 ((mkTo L k : Nat) : Int)), .c (.ptr 5 0), .c (.row 6), .c (.int .i64 (x.i : Int))] ++ List.replicate 62 .any, [.glob 0 1 64 (fun i => [.int .u32 (kOf i)]), .elems 63 2 n (prG L), .cells 31 [.row 1], .cells 9 [.str k], .cells 27 [.int .i64 0, .val (.slice none 0 0)], .cells 27 [.int .i64 (n : Int), .row 7], .row 24 32 n (lfG L), .orow 115 4 x.m (leafG true x.P)]⟩) (μ := fun x => mkTo L k - x.i) ⟨mkFrom L k, [], 0, Nat.le_refl _, mkFrom_le.1, rfl, by rw [Nat.sub_self]; rfl⟩ (by kernel_rfl) [0, 1, 2, 3, 4, 6, 8, 9] ?h0ZB ?rdZB
        case h0ZB =>
          refine ⟨rfl, by decide, ?_, ?_⟩ <;> repeat' (first | exact trivial | exact hF | exact hT | exact congrArg (CV.int .i64) hF | exact congrArg (CV.int .i64) hT | exact hW | exact rfl | apply And.intro | exact (fun _ _ _ _ => Cell.le_refl _) | (intro i hi; rfl) | (intro i hi; exact absurd hi (Nat.not_lt_zero _)))
        case rdZB =>
          rintro ⟨i, P, m, h0, h1, hmm, hP⟩
          unfold sGood sSea sSums sWay
          generalize hg0 : (List.length : List PP → Nat) = g0
          generalize hg1 : (List.length : List (Nat → Int) → Nat) = g1
          generalize hL : lft Tryd.prog _ = L
          try dsimp only
          try unfold prG
          try unfold leafG
          generalize ho0 : @prK = zo0, ho1 : @prV = zo1, ho2 : @prL = zo2, ho3 : @ltB = zo3, ho4 : @findI = zo4, ho5 : @findB = zo5, ho6 : @prPre = zo6, ho7 : @goodL = zo7, ho8 : @kOf = zo8, ho9 : @lfG = zo9, ho10 : @sumsPre = zo10, ho11 : @lK = zo11, ho12 : @lV = zo12, ho13 : @lI = zo13, ho14 : @lP = zo14, ho15 : @lN = zo15, ho16 : @pG = zo16, ho17 : @mkLeaf = zo17, ho18 : @mkL = zo18, ho19 : @mkC = zo19, ho20 : @mkFrom = zo20, ho21 : @mkTo = zo21, ho22 : @wayG = zo22, ho23 : @hashesG = zo23, ho24 : @wayPre0 = zo24, ho25 : @mkPre = zo25, ho26 : @lenL = zo26
          generalize hA : Arith.std = A
          cbv
          subst hA hg0 hg1 hL ho0 ho1 ho2 ho3 ho4 ho5 ho6 ho7 ho8 ho9 ho10 ho11 ho12 ho13 ho14 ho15 ho16 ho17 ho18 ho19 ho20 ho21 ho22 ho23 ho24 ho25 ho26
          refine Ife.mk (fun h => ?_) (fun h => ?_)
          · have h : (i : Int) < ((mkTo L k : Nat) : Int) := of_decide_eq_true (p := (i : Int) < ((mkTo L k : Nat) : Int)) h
            have hib : i < mkTo L k := Int.ofNat_lt.mp h
            have q1 : 0 ≤ (i : Int) ∧ (i : Int) < (n : Int) := by omega
            have q2 : (i : Int).toNat < n := by omega
            have hml : m ≤ n := by
              have := congrArg List.length hP
              rw [List.length_map, List.length_range'] at this
              omega
            refine Need.mk q1 fun _ => Need.mk q2 fun _ => Need.mk q1 fun _ => Need.mk q2 fun _ => ?_
            refine Need.mk ⟨ksAt_self, rfl, rfl, lfG_hash L n, by omega⟩ fun _ => ?_
            refine Need.mk ⟨show m + 1 ≤ maxLen ∧ (m + 1) * 64 ≤ 140737488355328 from ⟨by unfold maxLen; omega, by omega⟩, trivial⟩ fun _ => ?_
            refine Need.mk (by show fitStd .i64 ((i : Int) + 1); unfold fitStd; omega) fun _ => ?_
            have hW := leafG_way (L := L) (i := i) hmm (by omega)
            rw [hL] at hW
            refine ⟨⟨i + 1, P ++ [mkLeaf L i], m + 1, by omega, by omega, by rw [List.length_append, hmm]; rfl, lmk_next h0 hP⟩, [0, 1, 2, 3, 4, 5, 6, 11], (by show mkTo L k - (i + 1) < mkTo L k - i; omega), ?_⟩
            refine ⟨rfl, by decide, by repeat' (first | exact trivial | exact hF | exact hT | exact congrArg (CV.int .i64) hF | exact congrArg (CV.int .i64) hT | exact hW | exact rfl | apply And.intro | exact (fun _ _ _ _ => Cell.le_refl _) | (intro i hi; rfl) | (intro i hi; exact absurd hi (Nat.not_lt_zero _))), ?_⟩
            repeat' (first | exact trivial | exact hF | exact hT | exact congrArg (CV.int .i64) hF | exact congrArg (CV.int .i64) hT | exact hW | exact rfl | apply And.intro | exact (fun _ _ _ _ => Cell.le_refl _) | (intro i hi; rfl) | (intro i hi; exact absurd hi (Nat.not_lt_zero _)))
          · have h : ¬ (i : Int) < ((mkTo L k : Nat) : Int) := of_decide_eq_false (p := (i : Int) < ((mkTo L k : Nat) : Int)) h
            have ei : i = mkTo L k := by omega
            have hPm : P = mkL L k := by rw [hP, ei]; exact eM.symm
            rw [eC, ← hPm]
            refine ⟨[7], [0, 1, 7], ⟨?fzZB, rfl, (by repeat' (first | exact trivial | exact rfl | apply And.intro | exact (fun _ _ _ _ => Cell.le_refl _) | (intro i hi; rfl) | (intro i hi; exact absurd hi (Nat.not_lt_zero _)))), (by show List.Nodup []; exact List.nodup_nil), rfl, ?hhZB⟩⟩
            case fzZB =>
              refine ⟨fun i j hi hj => ?_, trivial⟩
              rcases four hj with rfl | rfl | rfl | rfl
              · trivial
              · trivial
              · trivial
              · exact rfl
            case hhZB =>
              repeat' (first | exact trivial | exact rfl | apply And.intro)
              · exact hmm.symm
              · exact fun _ _ _ _ => Cell.le_refl _

end Go.Proofs.YthomoliklfmnkaaDoor.Vx
end

section
/- What a proof shows, by the walker. -/
namespace Go.Proofs.YthomoliklfmnkaaDoor.Vx
open Sha
open Go.RowKit
set_option linter.unusedVariables false
set_option linter.unusedSimpArgs false
def unPre (gg sz0 n0 : Nat) (get0 : Nat → List CV) (root : List CV) (c : Int) (ty sz n : Nat) (get : Nat → Nat → Cell) : Prop := KsAt gg sz0 n0 get0 ∧ HashC root ∧ leavesPre ty sz n get ∧ mayL c (leafL n get) = true
theorem mayL_all {c : Int} {L : List PLeaf} (h : mayL c L = true) : (0 ≤ c ∧ c ≤ 1073741824 ∧ L.length ≤ 2) ∧ ∀ i, i < L.length → mayAt c L i = true := by
  unfold mayL at h
  simp only [Bool.and_eq_true, decide_eq_true_iff, List.all_eq_true, List.mem_range] at h
  exact ⟨⟨h.1, h.2.1, h.2.2.1⟩, h.2.2.2⟩
theorem pG_hashes {L : List PLeaf} (hok : ∀ x ∈ L, x.ok) {i : Nat} (hi : i < L.length) : HashesAt (lN L i) (pG (lP L i)) := fun j hj => by
  have e : L.getD i .none = L[i] := by simp [List.getD, hi]
  have hj : j < L[i].p.length := by unfold lN lP at hj; rwa [e] at hj
  refine ⟨fun m => ((lP L i).getD j []).getD m 0, rfl, fun m => ?_⟩
  have e2 : (lP L i).getD j [] = L[i].p[j] := by unfold lP; rw [e, List.getD_eq_getElem?_getD, List.getElem?_eq_getElem hj]; rfl
  show 0 ≤ ((lP L i).getD j []).getD m 0 ∧ ((lP L i).getD j []).getD m 0 < 256
  rw [e2]
  have hh := (hok _ (List.getElem_mem hi)).hs _ (List.getElem_mem hj)
  by_cases hm : m < L[i].p[j].length
  · rw [List.getD_eq_getElem?_getD, List.getElem?_eq_getElem hm]
    exact hh.2 _ (List.getElem_mem hm)
  · rw [List.getD_eq_getElem?_getD, List.getElem?_eq_none (by omega)]
    exact ⟨Int.le_refl _, by decide⟩
theorem fdH_range {gets : Nat → List CV} {leaf : List CV} (hl : HashC leaf) (m : Nat) (a i : Int) (j : Nat) : 0 ≤ fdH gets leaf m a i j ∧ fdH gets leaf m a i j < 256 := by
  unfold fdH
  split
  · exact foldR_range (fun j => hOf_range hl j) _ _ _ j
  · exact ⟨Int.le_refl 0, (by decide : (0 : Int) < 256)⟩
def sUndP : SpecF
  | [.agg root, .agg [.int .i64 c, .row 1]], [.glob gg sz0 n0 get0, .data fr ty sz n get] => some (unPre gg sz0 n0 get0 root c ty sz n get, .c (.bool (underB (hOf root) c (leafL n get))), [.dead, .dead])
  | _, _ => none

set_option maxRecDepth 100000 in
set_option maxHeartbeats 16000000 in
theorem undPrP : Fn Tryd.prog 87 [0] [(115, 204)] sUndP := by
  have hC : CtsOk Tryd.prog [(123, appFn [0] [] sLeaf), (127, appFn [0] [(24, 32)] sFold), (77, appFn [0] [] sRoot)] := CtsOk.cons (Fn.ct leafP) <| CtsOk.cons (Fn.ct fdP) <| CtsOk.cons (Fn.ct rootP) <| CtsOk.nil _
  refine Fn.of (E := tbMk) [0] 0 [(4, [(9999, true), (0, true), (1, true), (2, true), (3, true), (4, true), (5, true), (6, true), (7, true), (9, true), (10, true), (3008, false), (3011, false), (12, true), (13, true), (14, true), (15, false), (16, false), (17, true), (2999, false), (15, false), (11, false), (12, true), (13, true), (14, true), (16, false), (17, true), (2999, false), (15, false), (8, false), (11, false), (12, true), (13, true), (14, true), (16, false), (17, true), (2999, false)]), (5, [(0, true), (1, true), (2, true), (3, true), (4, true), (5, true), (7, true), (6, false), (8, true), (9, true)])] tbMk_ok hC (by kernel_rfl) Tryd.func87 rfl rfl rfl (by kernel_rfl) (by kernel_rfl) 2 5 1 ?_ ?_
  · intro args h pre r h' hs
    unfold sUndP at hs
    split at hs
    · cases hs; exact ⟨rfl, rfl, Nat.le_of_ble_eq_true rfl⟩
    · cases hs
  · intro args h pre r h' hs hp
    unfold sUndP at hs
    split at hs
    rotate_left
    · cases hs
    rename_i root c gg sz0 n0 get0 fr ty sz n get
    cases hs
    obtain ⟨hK, ⟨f, rfl, hf_⟩, ⟨rfl, rfl, hst, hok, hm⟩, hmay⟩ := hp
    refine ⟨[.glob 0 1 64 (fun i => [.int .u32 (kOf i)]), .data fr 115 4 n (leafG false (leafL n get))], ⟨hK.same.1, ⟨rfl, rfl, rfl, rfl, fun i j hi hj => by rw [hst i j hi hj]; exact Cell.le_refl _⟩, trivial⟩, ?_⟩
    clear hK
    have hL : (leafL n get).length = n := leafL_len
    generalize leafL n get = L at hL hok hmay ⊢
    generalize hU : underB (hOf (hashC f)) c L = U
    unfold hashC
    unfold sLeaf sFold sRoot
    generalize hg0 : (List.length : List UInt8 → Nat) = g0
    generalize hL : lft Tryd.prog _ = L
    try unfold leafG
    generalize ho0 : @leafF = zo0, ho1 : @leafPre = zo1, ho2 : @rootF = zo2, ho3 : @rootPre = zo3, ho4 : @hOf = zo4, ho5 : @HashC = zo5, ho6 : @kOf = zo6, ho7 : @u8s = zo7, ho8 : @lK = zo8, ho9 : @lV = zo9, ho10 : @lI = zo10, ho11 : @lP = zo11, ho12 : @lN = zo12, ho13 : @pG = zo13, ho14 : @leafL = zo14, ho15 : @stAt = zo15, ho16 : @underB = zo16, ho17 : @unPre = zo17, ho18 : @fdB = zo18, ho19 : @fdH = zo19, ho20 : @fdPre = zo20, ho21 : @eqH = zo21
    generalize hA : Arith.std = A
    cbv
    subst hA hg0 hL ho0 ho1 ho2 ho3 ho4 ho5 ho6 ho7 ho8 ho9 ho10 ho11 ho12 ho13 ho14 ho15 ho16 ho17 ho18 ho19 ho20 ho21
    obtain ⟨hcr, hma⟩ := mayL_all hmay
    show Runs Tryd.prog 2 (.loop _) _ _
    refine loop_ruleR (N := env (lft Tryd.prog 2) 0 .std tbMk [(123, appFn [0] [] sLeaf), (127, appFn [0] [(24, 32)] sFold), (77, appFn [0] [] sRoot)] [(4, [(9999, true), (0, true), (1, true), (2, true), (3, true), (4, true), (5, true), (6, true), (7, true), (9, true), (10, true), (3008, false), (3011, false), (12, true), (13, true), (14, true), (15, false), (16, false), (17, true), (2999, false), (15, false), (11, false), (12, true), (13, true), (14, true), (16, false), (17, true), (2999, false), (15, false), (8, false), (11, false), (12, true), (13, true), (14, true), (16, false), (17, true), (2999, false)]), (5, [(0, true), (1, true), (2, true), (3, true), (4, true), (5, true), (7, true), (6, false), (8, true), (9, true)])]) rfl tbMk_ok hC (fun c st K _ h => h) (by kernel_rfl) [0] (X := LIx n (stAt (hOf (hashC f)) c L))
      (S := fun x => ⟨[.any, .any, .c (.ptr 2 0), .c (.ptr 3 0), .any, .any, .any, .any, .any, .any, .c (.row 1), .c (.int .i64 (n : Int)), .c (.int .i64 x.i)] ++ List.replicate 29 .any, [.glob 0 1 64 (fun i => [.int .u32 (kOf i)]), .data fr 115 4 n (leafG false L), .cells 24 [.int .u8 (f 0), .int .u8 (f 1), .int .u8 (f 2), .int .u8 (f 3), .int .u8 (f 4), .int .u8 (f 5), .int .u8 (f 6), .int .u8 (f 7), .int .u8 (f 8), .int .u8 (f 9), .int .u8 (f 10), .int .u8 (f 11), .int .u8 (f 12), .int .u8 (f 13), .int .u8 (f 14), .int .u8 (f 15), .int .u8 (f 16), .int .u8 (f 17), .int .u8 (f 18), .int .u8 (f 19), .int .u8 (f 20), .int .u8 (f 21), .int .u8 (f 22), .int .u8 (f 23), .int .u8 (f 24), .int .u8 (f 25), .int .u8 (f 26), .int .u8 (f 27), .int .u8 (f 28), .int .u8 (f 29), .int .u8 (f 30), .int .u8 (f 31)], .cells 27 [.int .i64 c, .row 1]]⟩) (μ := fun x => n - x.i.toNat) ⟨0, by omega, by omega, fun k hk => absurd hk (by omega)⟩ (by kernel_rfl) [0, 1, 2, 3] ?h0 ?rd
    case h0 =>
      refine ⟨rfl, by decide, ?_, ?_⟩ <;> repeat' (first | exact trivial | exact rfl | apply And.intro | exact (fun _ _ _ _ => Cell.le_refl _) | (intro i hi; rfl) | (intro i hi; exact absurd hi (Nat.not_lt_zero _)))
    case rd =>
      rintro ⟨i, hi0, hin, hP⟩
      unfold sLeaf sFold sRoot
      generalize hg0 : (List.length : List UInt8 → Nat) = g0
      generalize hL : lft Tryd.prog _ = L
      try dsimp only
      try unfold leafG
      generalize ho0 : @leafF = zo0, ho1 : @leafPre = zo1, ho2 : @rootF = zo2, ho3 : @rootPre = zo3, ho4 : @hOf = zo4, ho5 : @HashC = zo5, ho6 : @kOf = zo6, ho7 : @u8s = zo7, ho8 : @lK = zo8, ho9 : @lV = zo9, ho10 : @lI = zo10, ho11 : @lP = zo11, ho12 : @lN = zo12, ho13 : @pG = zo13, ho14 : @leafL = zo14, ho15 : @stAt = zo15, ho16 : @underB = zo16, ho17 : @unPre = zo17, ho18 : @fdB = zo18, ho19 : @fdH = zo19, ho20 : @fdPre = zo20, ho21 : @eqH = zo21
      generalize hA : Arith.std = A
      cbv
      subst hA hg0 hL ho0 ho1 ho2 ho3 ho4 ho5 ho6 ho7 ho8 ho9 ho10 ho11 ho12 ho13 ho14 ho15 ho16 ho17 ho18 ho19 ho20 ho21
      replace hi0 : 0 ≤ i := hi0
      replace hin : i ≤ @Nat.cast Int instNatCastInt n := hin
      replace hP : ∀ k, k < i.toNat → stAt (hOf (hashC f)) c L k = true := hP
      refine Ife.mk (fun hlt => ?_) (fun hlt => ?_)
      · replace hlt : i < @Nat.cast Int instNatCastInt n := of_decide_eq_true (p := i < (n : Int)) hlt
        have hiL : i.toNat < L.length := by omega
        have hA := mayAt_iff.1 (hma _ hiL)
        have hd := deep_30 c (lI L i.toNat)
        have hlf : HashC (hashC (leafF (lK L i.toNat) (lV L i.toNat))) := ⟨_, rfl, fun j => sumI_range _ j⟩
        have p0 : 0 ≤ i ∧ i < (n : Int) := by omega
        have p0' : i.toNat < n := by omega
        have p1 : leafPre 0 1 64 (fun i => [.int .u32 (kOf i)]) (lK L i.toNat) (lV L i.toNat) := ⟨ksAt_self, by omega, by omega⟩
        have p2 : fdPre 0 1 64 (fun i => [.int .u32 (kOf i)]) 24 32 (lN L i.toNat) (pG (lP L i.toNat)) (hashC (leafF (lK L i.toNat) (lV L i.toNat))) := ⟨ksAt_self, rfl, rfl, pG_hashes hok hiL, hlf, by omega⟩
        have p3 : rootPre 0 1 64 (fun i => [.int .u32 (kOf i)]) (hashC (fdH (pG (lP L i.toNat)) (hashC (leafF (lK L i.toNat) (lV L i.toNat))) (lN L i.toNat) c (lI L i.toNat))) := ⟨ksAt_self, _, rfl, fun j => fdH_range hlf _ _ _ j⟩
        have eS : stAt (hOf (hashC f)) c L i.toNat = (fdB (lN L i.toNat) c (lI L i.toNat) && eqH (rootF c (hashB (fdH (pG (lP L i.toNat)) (hashC (leafF (lK L i.toNat) (lV L i.toNat))) (lN L i.toNat) c (lI L i.toNat)))) (hOf (hashC f))) := rfl
        have no : stAt (hOf (hashC f)) c L i.toNat = false → underB (hOf (hashC f)) c L = false := fun h => all_no hiL (by rw [h]; simp)
        repeat' (first | refine Both.mk ?_ ?_ | refine Need.mk p0 fun _ => ?_ | refine Need.mk p0' fun _ => ?_ | refine Need.mk p1 fun _ => ?_ | refine Need.mk p2 fun _ => ?_)
        all_goals
          refine Ife.mk (fun h => ?_) (fun h => ?_)
          · have h : fdB (lN L i.toNat) c (lI L i.toNat) = false := by simpa using (show (!fdB (lN L i.toNat) c (lI L i.toNat)) = true from h)
            rw [show U = false from hU.symm.trans (no (by rw [eS, h]; rfl))]
            exact ⟨[0, 1], ⟨rfl, by repeat' (first | exact trivial | exact rfl | apply And.intro | exact (fun _ _ _ _ => Cell.le_refl _) | (intro i hi; rfl) | (intro i hi; exact absurd hi (Nat.not_lt_zero _))), by decide, rfl, by repeat' (first | exact trivial | exact rfl | apply And.intro | exact (fun _ _ _ _ => Cell.le_refl _) | (intro i hi; rfl) | (intro i hi; exact absurd hi (Nat.not_lt_zero _)))⟩⟩
          · have h : fdB (lN L i.toNat) c (lI L i.toNat) = true := by simpa using (show (!fdB (lN L i.toNat) c (lI L i.toNat)) = false from h)
            refine Need.mk p3 fun _ => ?_
            refine Ife.mk (fun h2 => ?_) (fun h2 => ?_)
            · have h2 : (!eqH (rootF c (hashB (fdH (pG (lP L i.toNat)) (hashC (leafF (lK L i.toNat) (lV L i.toNat))) (lN L i.toNat) c (lI L i.toNat)))) (hOf (hashC f))) = true := h2
              rw [show U = false from hU.symm.trans (no (by rw [eS, h, Bool.true_and]; simpa using h2))]
              exact ⟨[0, 1], ⟨rfl, by repeat' (first | exact trivial | exact rfl | apply And.intro | exact (fun _ _ _ _ => Cell.le_refl _) | (intro i hi; rfl) | (intro i hi; exact absurd hi (Nat.not_lt_zero _))), by decide, rfl, by repeat' (first | exact trivial | exact rfl | apply And.intro | exact (fun _ _ _ _ => Cell.le_refl _) | (intro i hi; rfl) | (intro i hi; exact absurd hi (Nat.not_lt_zero _)))⟩⟩
            · have h2 : (!eqH (rootF c (hashB (fdH (pG (lP L i.toNat)) (hashC (leafF (lK L i.toNat) (lV L i.toNat))) (lN L i.toNat) c (lI L i.toNat)))) (hOf (hashC f))) = false := h2
              refine Need.mk (by show fitStd .i64 (i + 1); unfold fitStd; omega) fun _ => ?_
              refine ⟨⟨i + 1, by omega, by omega, lix_next hi0 hP (by rw [eS, h, Bool.true_and]; simpa using h2)⟩, [0, 1, 2, 3], (by show n - (i + 1).toNat < n - i.toNat; omega), ?_⟩
              refine ⟨rfl, by decide, ?_, ?_⟩ <;> repeat' (first | exact trivial | exact rfl | apply And.intro | exact (fun _ _ _ _ => Cell.le_refl _) | (intro i hi; rfl) | (intro i hi; exact absurd hi (Nat.not_lt_zero _)))
      · replace hlt : ¬ i < @Nat.cast Int instNatCastInt n := of_decide_eq_false (p := i < (n : Int)) hlt
        rw [show U = true from hU.symm.trans (all_yes hP (by omega))]
        exact ⟨[0, 1], ⟨rfl, by repeat' (first | exact trivial | exact rfl | apply And.intro | exact (fun _ _ _ _ => Cell.le_refl _) | (intro i hi; rfl) | (intro i hi; exact absurd hi (Nat.not_lt_zero _))), by decide, rfl, by repeat' (first | exact trivial | exact rfl | apply And.intro | exact (fun _ _ _ _ => Cell.le_refl _) | (intro i hi; rfl) | (intro i hi; exact absurd hi (Nat.not_lt_zero _)))⟩⟩

end Go.Proofs.YthomoliklfmnkaaDoor.Vx
end

section
/- What a proof shows: Value, Has, Lacks, by the walker. -/
namespace Go.Proofs.YthomoliklfmnkaaDoor.Vx
open Sha
open Go.RowKit
set_option linter.unusedVariables false
set_option linter.unusedSimpArgs false
def vlPre (gg sz0 n0 : Nat) (get0 : Nat → List CV) (root : List CV) (ty sz n : Nat) (get : Nat → Nat → Cell) : Prop := KsAt gg sz0 n0 get0 ∧ HashC root ∧ leavesPre ty sz n get
def sVal : SpecF
  | [.agg root, .agg [.int .i64 c, .row 1], .c (.str k)], [.glob gg sz0 n0 get0, .data fr ty sz n get] => some (vlPre gg sz0 n0 get0 root ty sz n get, .tup [(some (.str (valV (hOf root) c (leafL n get) k)), []), (some (.bool (valB (hOf root) c (leafL n get) k)), [])], [.dead, .dead])
  | _, _ => none

set_option maxRecDepth 100000 in
set_option maxHeartbeats 8000000 in
theorem valPrP : Fn Tryd.prog 24 [0] [(115, 204)] sVal := by
  have hC : CtsOk Tryd.prog [(31, appFn [] [(115, 204)] sMayPr), (87, appFn [0] [(115, 204)] sUndP)] := CtsOk.cons (Fn.ct mayPrP) <| CtsOk.cons (Fn.ct undPrP) <| CtsOk.nil _
  refine Fn.of (E := tbMk) [0] 0 [] tbMk_ok hC (by kernel_rfl) Tryd.func24 rfl rfl rfl (by kernel_rfl) (by kernel_rfl) 2 5 1 ?_ ?_
  · intro args h pre r h' hs
    unfold sVal at hs
    split at hs
    · cases hs; exact ⟨rfl, rfl, Nat.le_of_ble_eq_true rfl⟩
    · cases hs
  · intro args h pre r h' hs hp
    unfold sVal at hs
    split at hs
    rotate_left
    · cases hs
    rename_i root c k gg sz0 n0 get0 fr ty sz n get
    cases hs
    obtain ⟨hK, ⟨f, rfl, hf_⟩, ⟨rfl, rfl, hst, hok, hm⟩⟩ := hp
    refine ⟨[.glob 0 1 64 (fun i => [.int .u32 (kOf i)]), .data fr 115 4 n (leafG false (leafL n get))], ⟨hK.same.1, ⟨rfl, rfl, rfl, rfl, fun i j hi hj => by rw [hst i j hi hj]; exact Cell.le_refl _⟩, trivial⟩, ?_⟩
    clear hK
    have hL : (leafL n get).length = n := leafL_len
    generalize leafL n get = L at hL hok ⊢
    have q1 : leavesPre 115 4 n (fun i j => (leafG false L i j).old) := by rw [← hL]; exact leavesPre_old hok (by omega)
    have e1 : leafL n (fun i j => (leafG false L i j).old) = L := by rw [← hL]; exact leaves_old hok
    have hR : HashC (hashC f) := ⟨f, rfl, hf_⟩
    have q2 : mayL c L = true → unPre 0 1 64 (fun i => [.int .u32 (kOf i)]) (hashC f) c 115 4 n (fun i j => (leafG false L i j).old) := fun h => ⟨ksAt_self, hR, q1, by rw [e1]; exact h⟩
    generalize hV : valV (hOf (hashC f)) c L k = V
    generalize hB : valB (hOf (hashC f)) c L k = B
    generalize hU : hOf (hashC f) = F at hV hB
    unfold hashC at hU ⊢
    unfold sMayPr sUndP
    generalize hg0 : (List.length : List UInt8 → Nat) = g0
    generalize hL : lft Tryd.prog _ = L
    try unfold leafG
    generalize ho0 : @hOf = zo0, ho1 : @HashC = zo1, ho2 : @kOf = zo2, ho3 : @lK = zo3, ho4 : @lV = zo4, ho5 : @lI = zo5, ho6 : @lP = zo6, ho7 : @lN = zo7, ho8 : @pG = zo8, ho9 : @leafL = zo9, ho10 : @leavesPre = zo10, ho11 : @mayL = zo11, ho12 : @underB = zo12, ho13 : @valB = zo13, ho14 : @valV = zo14, ho15 : @unPre = zo15, ho16 : @vlPre = zo16
    generalize hA : Arith.std = A
    cbv
    subst hA hg0 hL ho0 ho1 ho2 ho3 ho4 ho5 ho6 ho7 ho8 ho9 ho10 ho11 ho12 ho13 ho14 ho15 ho16
    refine Need.mk q1 fun _ => ?_
    simp only [e1, hU]
    have fl : B = false → V = [] := fun h => by rw [← hV]; unfold valV; rw [hB, h]; rfl
    refine Ife.mk (fun h => ?_) (fun h => ?_)
    · have h : mayL c L = false := by simpa using (show (!mayL c L) = true from h)
      have hb : B = false := by rw [← hB]; unfold valB; rw [h]; rfl
      rw [fl hb, hb]
      exact ⟨[0, 1], ⟨rfl, by repeat' (first | exact trivial | exact rfl | apply And.intro | exact (fun _ _ _ _ => Cell.le_refl _) | (intro i hi; rfl) | (intro i hi; exact absurd hi (Nat.not_lt_zero _))), by decide, rfl, by repeat' (first | exact trivial | exact rfl | apply And.intro | exact (fun _ _ _ _ => Cell.le_refl _) | (intro i hi; rfl) | (intro i hi; exact absurd hi (Nat.not_lt_zero _)))⟩⟩
    have hmay : mayL c L = true := by simpa using (show (!mayL c L) = false from h)
    clear h
    refine Ife.mk (fun h => ?_) (fun h => ?_)
    · have h : ¬ (n : Int) = 1 := by simpa using (show (!decide ((n : Int) = 1)) = true from h)
      have hb : B = false := by rw [← hB]; unfold valB; rw [hmay, decide_eq_false (show ¬ L.length = 1 by omega)]; rfl
      rw [fl hb, hb]
      exact ⟨[0, 1], ⟨rfl, by repeat' (first | exact trivial | exact rfl | apply And.intro | exact (fun _ _ _ _ => Cell.le_refl _) | (intro i hi; rfl) | (intro i hi; exact absurd hi (Nat.not_lt_zero _))), by decide, rfl, by repeat' (first | exact trivial | exact rfl | apply And.intro | exact (fun _ _ _ _ => Cell.le_refl _) | (intro i hi; rfl) | (intro i hi; exact absurd hi (Nat.not_lt_zero _)))⟩⟩
    have hn : (n : Int) = 1 := by simpa using (show (!decide ((n : Int) = 1)) = false from h)
    clear h
    have hL1 : L.length = 1 := by omega
    refine Need.mk (by show (0 : Int) ≤ 0 ∧ (0 : Int) < (n : Int); omega) fun _ => Need.mk (by show (0 : Int).toNat < n; omega) fun _ => ?_
    refine Ife.mk (fun h => ?_) (fun h => ?_)
    · have h : ¬ lK L 0 = k := by simpa using (show (!decide (lK L 0 = k)) = true from h)
      have hb : B = false := by rw [← hB]; unfold valB; rw [hmay, decide_eq_true hL1, decide_eq_false h]; rfl
      rw [fl hb, hb]
      exact ⟨[0, 1], ⟨rfl, by repeat' (first | exact trivial | exact rfl | apply And.intro | exact (fun _ _ _ _ => Cell.le_refl _) | (intro i hi; rfl) | (intro i hi; exact absurd hi (Nat.not_lt_zero _))), by decide, rfl, by repeat' (first | exact trivial | exact rfl | apply And.intro | exact (fun _ _ _ _ => Cell.le_refl _) | (intro i hi; rfl) | (intro i hi; exact absurd hi (Nat.not_lt_zero _)))⟩⟩
    have hk : lK L 0 = k := by simpa using (show (!decide (lK L 0 = k)) = false from h)
    clear h
    refine Need.mk (q2 hmay) fun _ => ?_
    have hbu : B = underB F c L := by rw [← hB]; unfold valB; rw [hmay, decide_eq_true hL1, decide_eq_true hk]; rfl
    refine Ife.mk (fun h => ?_) (fun h => ?_)
    · have h : underB F c L = false := by simpa using (show (!underB F c L) = true from h)
      have hb : B = false := by rw [hbu, h]
      rw [fl hb, hb]
      exact ⟨[0, 1], ⟨rfl, by repeat' (first | exact trivial | exact rfl | apply And.intro | exact (fun _ _ _ _ => Cell.le_refl _) | (intro i hi; rfl) | (intro i hi; exact absurd hi (Nat.not_lt_zero _))), by decide, rfl, by repeat' (first | exact trivial | exact rfl | apply And.intro | exact (fun _ _ _ _ => Cell.le_refl _) | (intro i hi; rfl) | (intro i hi; exact absurd hi (Nat.not_lt_zero _)))⟩⟩
    have h : underB F c L = true := by simpa using (show (!underB F c L) = false from h)
    have hb : B = true := by rw [hbu, h]
    have hv : V = lV L 0 := by rw [← hV]; unfold valV; rw [hB, hb]; rfl
    refine Need.mk (by show (0 : Int) ≤ 0 ∧ (0 : Int) < (n : Int); omega) fun _ => Need.mk (by show (0 : Int).toNat < n; omega) fun _ => ?_
    rw [hv, hb]
    exact ⟨[0, 1], ⟨rfl, by repeat' (first | exact trivial | exact rfl | apply And.intro | exact (fun _ _ _ _ => Cell.le_refl _) | (intro i hi; rfl) | (intro i hi; exact absurd hi (Nat.not_lt_zero _))), by decide, rfl, by repeat' (first | exact trivial | exact rfl | apply And.intro | exact (fun _ _ _ _ => Cell.le_refl _) | (intro i hi; rfl) | (intro i hi; exact absurd hi (Nat.not_lt_zero _)))⟩⟩

def sHas : SpecF
  | [.agg root, .agg [.int .i64 c, .row 1], .c (.str k), .c (.str v)], [.glob gg sz0 n0 get0, .data fr ty sz n get] => some (vlPre gg sz0 n0 get0 root ty sz n get, .c (.bool ((valB (hOf root) c (leafL n get) k) && decide ((valV (hOf root) c (leafL n get) k) = v))), [.dead, .dead])
  | _, _ => none

set_option maxRecDepth 100000 in
set_option maxHeartbeats 8000000 in
theorem hasPrP : Fn Tryd.prog 26 [0] [(115, 204)] sHas := by
  have hC : CtsOk Tryd.prog [(24, appFn [0] [(115, 204)] sVal)] := CtsOk.cons (Fn.ct valPrP) <| CtsOk.nil _
  refine Fn.of (E := tbMk) [0] 0 [] tbMk_ok hC (by kernel_rfl) Tryd.func26 rfl rfl rfl (by kernel_rfl) (by kernel_rfl) 2 5 1 ?_ ?_
  · intro args h pre r h' hs
    unfold sHas at hs
    split at hs
    · cases hs; exact ⟨rfl, rfl, Nat.le_of_ble_eq_true rfl⟩
    · cases hs
  · intro args h pre r h' hs hp
    unfold sHas at hs
    split at hs
    rotate_left
    · cases hs
    rename_i root c k v gg sz0 n0 get0 fr ty sz n get
    cases hs
    obtain ⟨hK, ⟨f, rfl, hf_⟩, ⟨rfl, rfl, hst, hok, hm⟩⟩ := hp
    refine ⟨[.glob 0 1 64 (fun i => [.int .u32 (kOf i)]), .data fr 115 4 n (leafG false (leafL n get))], ⟨hK.same.1, ⟨rfl, rfl, rfl, rfl, fun i j hi hj => by rw [hst i j hi hj]; exact Cell.le_refl _⟩, trivial⟩, ?_⟩
    clear hK
    have hL : (leafL n get).length = n := leafL_len
    generalize leafL n get = L at hL hok ⊢
    have q1 : leavesPre 115 4 n (fun i j => (leafG false L i j).old) := by rw [← hL]; exact leavesPre_old hok (by omega)
    have e1 : leafL n (fun i j => (leafG false L i j).old) = L := by rw [← hL]; exact leaves_old hok
    have hR : HashC (hashC f) := ⟨f, rfl, hf_⟩
    have q2 : mayL c L = true → unPre 0 1 64 (fun i => [.int .u32 (kOf i)]) (hashC f) c 115 4 n (fun i j => (leafG false L i j).old) := fun h => ⟨ksAt_self, hR, q1, by rw [e1]; exact h⟩
    generalize hV : valV (hOf (hashC f)) c L k = V
    generalize hB : valB (hOf (hashC f)) c L k = B
    unfold hashC at hV hB ⊢
    unfold sVal
    generalize hg0 : (List.length : List UInt8 → Nat) = g0
    generalize hL : lft Tryd.prog _ = L
    try unfold leafG
    generalize ho0 : @hOf = zo0, ho1 : @HashC = zo1, ho2 : @kOf = zo2, ho3 : @lK = zo3, ho4 : @lV = zo4, ho5 : @lI = zo5, ho6 : @lP = zo6, ho7 : @lN = zo7, ho8 : @pG = zo8, ho9 : @leafL = zo9, ho10 : @leavesPre = zo10, ho11 : @mayL = zo11, ho12 : @valB = zo12, ho13 : @valV = zo13, ho14 : @unPre = zo14, ho15 : @vlPre = zo15
    generalize hA : Arith.std = A
    cbv
    subst hA hg0 hL ho0 ho1 ho2 ho3 ho4 ho5 ho6 ho7 ho8 ho9 ho10 ho11 ho12 ho13 ho14 ho15
    refine Need.mk ⟨ksAt_self, hR, q1⟩ fun _ => ?_
    simp only [e1, hV, hB]
    refine Ife.mk (fun h => ?_) (fun h => ?_)
    · have h : B = true := h
      rw [h, Bool.true_and]
      exact ⟨[0, 1], ⟨rfl, by repeat' (first | exact trivial | exact rfl | apply And.intro | exact (fun _ _ _ _ => Cell.le_refl _) | (intro i hi; rfl) | (intro i hi; exact absurd hi (Nat.not_lt_zero _))), by decide, rfl, by repeat' (first | exact trivial | exact rfl | apply And.intro | exact (fun _ _ _ _ => Cell.le_refl _) | (intro i hi; rfl) | (intro i hi; exact absurd hi (Nat.not_lt_zero _)))⟩⟩
    · have h : B = false := h
      rw [h, Bool.false_and]
      exact ⟨[0, 1], ⟨rfl, by repeat' (first | exact trivial | exact rfl | apply And.intro | exact (fun _ _ _ _ => Cell.le_refl _) | (intro i hi; rfl) | (intro i hi; exact absurd hi (Nat.not_lt_zero _))), by decide, rfl, by repeat' (first | exact trivial | exact rfl | apply And.intro | exact (fun _ _ _ _ => Cell.le_refl _) | (intro i hi; rfl) | (intro i hi; exact absurd hi (Nat.not_lt_zero _)))⟩⟩

def sLacks : SpecF
  | [.agg root, .agg [.int .i64 c, .row 1], .c (.str k)], [.glob gg sz0 n0 get0, .data fr ty sz n get] => some (vlPre gg sz0 n0 get0 root ty sz n get, .c (.bool (lackB (hOf root) c (leafL n get) k)), [.dead, .dead])
  | _, _ => none

set_option maxRecDepth 100000 in
set_option maxHeartbeats 8000000 in
theorem lacksPrP : Fn Tryd.prog 28 [0] [(115, 204)] sLacks := by
  have hC : CtsOk Tryd.prog [(31, appFn [] [(115, 204)] sMayPr), (87, appFn [0] [(115, 204)] sUndP), (77, appFn [0] [] sRoot)] := CtsOk.cons (Fn.ct mayPrP) <| CtsOk.cons (Fn.ct undPrP) <| CtsOk.cons (Fn.ct rootP) <| CtsOk.nil _
  refine Fn.of (E := tbMk) [0] 0 [(6, [(0, true), (1, true), (2, true), (3, true), (4, true), (5, true), (6, false), (7, true), (8, true), (9, true)]), (8, [(0, true), (1, true), (2, true), (3, true), (4, true), (5, true), (6, true), (7, true), (8, true), (9, true), (10, true), (11, true), (12, true), (13, true), (14, true), (15, true), (16, true), (17, true), (18, true), (19, true), (20, true), (21, true), (22, true), (23, true), (24, true), (25, true), (26, true), (27, true), (28, true), (29, true), (30, true), (31, true)]), (9, [(0, true), (1, true), (2, true), (3, true), (4, true), (5, true), (6, true), (7, true), (8, true), (9, true), (10, true), (11, true), (12, true), (13, true), (14, true), (15, true), (16, true), (17, true), (18, true), (19, true), (20, true), (21, true), (22, true), (23, true), (24, true), (25, true), (26, true)])] tbMk_ok hC (by kernel_rfl) Tryd.func28 rfl rfl rfl (by kernel_rfl) (by kernel_rfl) 2 5 1 ?_ ?_
  · intro args h pre r h' hs
    unfold sLacks at hs
    split at hs
    · cases hs; exact ⟨rfl, rfl, Nat.le_of_ble_eq_true rfl⟩
    · cases hs
  · intro args h pre r h' hs hp
    unfold sLacks at hs
    split at hs
    rotate_left
    · cases hs
    rename_i root c k gg sz0 n0 get0 fr ty sz n get
    cases hs
    obtain ⟨hK, ⟨f, rfl, hf_⟩, ⟨rfl, rfl, hst, hok, hm⟩⟩ := hp
    refine ⟨[.glob 0 1 64 (fun i => [.int .u32 (kOf i)]), .data fr 115 4 n (leafG false (leafL n get))], ⟨hK.same.1, ⟨rfl, rfl, rfl, rfl, fun i j hi hj => by rw [hst i j hi hj]; exact Cell.le_refl _⟩, trivial⟩, ?_⟩
    clear hK
    have hL : (leafL n get).length = n := leafL_len
    generalize leafL n get = L at hL hok ⊢
    have q1 : leavesPre 115 4 n (fun i j => (leafG false L i j).old) := by rw [← hL]; exact leavesPre_old hok (by omega)
    have e1 : leafL n (fun i j => (leafG false L i j).old) = L := by rw [← hL]; exact leaves_old hok
    have hR : HashC (hashC f) := ⟨f, rfl, hf_⟩
    have q2 : mayL c L = true → unPre 0 1 64 (fun i => [.int .u32 (kOf i)]) (hashC f) c 115 4 n (fun i j => (leafG false L i j).old) := fun h => ⟨ksAt_self, hR, q1, by rw [e1]; exact h⟩
    generalize hB : lackB (hOf (hashC f)) c L k = B
    generalize hU : hOf (hashC f) = F at hB
    unfold hashC at hU ⊢
    unfold sMayPr sUndP sRoot
    generalize hg0 : (List.length : List UInt8 → Nat) = g0
    generalize hL : lft Tryd.prog _ = L
    try unfold leafG
    generalize ho0 : @ltB = zo0, ho1 : @rootF = zo1, ho2 : @rootPre = zo2, ho3 : @hOf = zo3, ho4 : @HashC = zo4, ho5 : @kOf = zo5, ho6 : @u8s = zo6, ho7 : @lK = zo7, ho8 : @lV = zo8, ho9 : @lI = zo9, ho10 : @lP = zo10, ho11 : @lN = zo11, ho12 : @pG = zo12, ho13 : @leafL = zo13, ho14 : @leavesPre = zo14, ho15 : @mayL = zo15, ho16 : @underB = zo16, ho17 : @lackE = zo17, ho18 : @lackB = zo18, ho19 : @unPre = zo19, ho20 : @eqH = zo20, ho21 : @vlPre = zo21
    generalize hA : Arith.std = A
    cbv
    subst hA hg0 hL ho0 ho1 ho2 ho3 ho4 ho5 ho6 ho7 ho8 ho9 ho10 ho11 ho12 ho13 ho14 ho15 ho16 ho17 ho18 ho19 ho20 ho21
    refine Need.mk q1 fun _ => ?_
    simp only [e1, hU]
    refine Ife.mk (fun h => ?_) (fun h => ?_)
    · have h : mayL c L = false := by simpa using (show (!mayL c L) = true from h)
      have hb : B = false := by rw [← hB]; unfold lackB; rw [h]; rfl
      rw [hb]
      exact ⟨[0, 1], ⟨rfl, by repeat' (first | exact trivial | exact rfl | apply And.intro | exact (fun _ _ _ _ => Cell.le_refl _) | (intro i hi; rfl) | (intro i hi; exact absurd hi (Nat.not_lt_zero _))), by decide, rfl, by repeat' (first | exact trivial | exact rfl | apply And.intro | exact (fun _ _ _ _ => Cell.le_refl _) | (intro i hi; rfl) | (intro i hi; exact absurd hi (Nat.not_lt_zero _)))⟩⟩
    have hmay : mayL c L = true := by simpa using (show (!mayL c L) = false from h)
    clear h
    refine Need.mk (q2 hmay) fun _ => ?_
    refine Ife.mk (fun h => ?_) (fun h => ?_)
    · have h : underB F c L = false := by simpa using (show (!underB F c L) = true from h)
      have hb : B = false := by rw [← hB]; unfold lackB; rw [hmay, h]; rfl
      rw [hb]
      exact ⟨[0, 1], ⟨rfl, by repeat' (first | exact trivial | exact rfl | apply And.intro | exact (fun _ _ _ _ => Cell.le_refl _) | (intro i hi; rfl) | (intro i hi; exact absurd hi (Nat.not_lt_zero _))), by decide, rfl, by repeat' (first | exact trivial | exact rfl | apply And.intro | exact (fun _ _ _ _ => Cell.le_refl _) | (intro i hi; rfl) | (intro i hi; exact absurd hi (Nat.not_lt_zero _)))⟩⟩
    have hun : underB F c L = true := by simpa using (show (!underB F c L) = false from h)
    clear h
    have hbe : B = lackE F c L k := by rw [← hB]; unfold lackB; rw [hmay, hun]; rfl
    unfold lackE at hbe
    refine Ife.mk (fun h => ?_) (fun h => ?_)
    · have h : (@Nat.cast Int instNatCastInt n) = 0 := of_decide_eq_true (p := (n : Int) = 0) h
      rw [if_pos (by omega)] at hbe
      refine Ife.mk (fun h2 => ?_) (fun h2 => ?_)
      · have h2 : c = 0 := of_decide_eq_true (p := c = 0) h2
        refine Need.mk ⟨ksAt_self, fun _ => 0, rfl, fun _ => ⟨Int.le_refl 0, (by decide : (0 : Int) < 256)⟩⟩ fun _ => ?_
        rw [show B = eqH (hOf (hashC f)) (rootF 0 (hashB fun _ => 0)) by rw [hbe, decide_eq_true h2, Bool.true_and, ← hU]; rfl]
        exact ⟨[0, 1], ⟨rfl, by repeat' (first | exact trivial | exact rfl | apply And.intro | exact (fun _ _ _ _ => Cell.le_refl _) | (intro i hi; rfl) | (intro i hi; exact absurd hi (Nat.not_lt_zero _))), by decide, rfl, by repeat' (first | exact trivial | exact rfl | apply And.intro | exact (fun _ _ _ _ => Cell.le_refl _) | (intro i hi; rfl) | (intro i hi; exact absurd hi (Nat.not_lt_zero _)))⟩⟩
      · have h2 : ¬ c = 0 := of_decide_eq_false (p := c = 0) h2
        rw [show B = false by rw [hbe, decide_eq_false h2]; rfl]
        exact ⟨[0, 1], ⟨rfl, by repeat' (first | exact trivial | exact rfl | apply And.intro | exact (fun _ _ _ _ => Cell.le_refl _) | (intro i hi; rfl) | (intro i hi; exact absurd hi (Nat.not_lt_zero _))), by decide, rfl, by repeat' (first | exact trivial | exact rfl | apply And.intro | exact (fun _ _ _ _ => Cell.le_refl _) | (intro i hi; rfl) | (intro i hi; exact absurd hi (Nat.not_lt_zero _)))⟩⟩
    have hn0 : ¬ (n : Int) = 0 := of_decide_eq_false (p := (n : Int) = 0) h
    rw [if_neg (by omega)] at hbe
    refine Ife.mk (fun h => ?_) (fun h => ?_)
    · have h : (@Nat.cast Int instNatCastInt n) = 1 := of_decide_eq_true (p := (n : Int) = 1) h
      rw [if_pos (by omega)] at hbe
      have hL1 : L.length = 1 := by omega
      have p0 : (0 : Int) ≤ 0 ∧ (0 : Int) < (n : Int) := by omega
      have p1 : (0 : Int).toNat < n := by omega
      have hcr := (mayL_all hmay).1
      have p2 : fitStd .i64 (c - 1) := by unfold fitStd; omega
      refine Need.mk p0 fun _ => Need.mk p1 fun _ => ?_
      refine Ife.mk (fun h2 => ?_) (fun h2 => ?_)
      · have h2 : lI L 0 = 0 := of_decide_eq_true (p := lI L 0 = 0) h2
        refine Need.mk p0 fun _ => Need.mk p1 fun _ => ?_
        refine Ife.mk (fun h3 => ?_) (fun h3 => ?_)
        · have h3 : ltB k (lK L 0) = true := h3
          rw [show B = true by rw [hbe, decide_eq_true h2, h3]; rfl]
          exact ⟨[0, 1], ⟨rfl, by repeat' (first | exact trivial | exact rfl | apply And.intro | exact (fun _ _ _ _ => Cell.le_refl _) | (intro i hi; rfl) | (intro i hi; exact absurd hi (Nat.not_lt_zero _))), by decide, rfl, by repeat' (first | exact trivial | exact rfl | apply And.intro | exact (fun _ _ _ _ => Cell.le_refl _) | (intro i hi; rfl) | (intro i hi; exact absurd hi (Nat.not_lt_zero _)))⟩⟩
        · have h3 : ltB k (lK L 0) = false := h3
          refine Need.mk p0 fun _ => Need.mk p1 fun _ => Need.mk p2 fun _ => ?_
          refine Ife.mk (fun h4 => ?_) (fun h4 => ?_)
          · have h4 : lI L 0 = c - 1 := of_decide_eq_true (p := lI L 0 = c - 1) h4
            refine Need.mk p0 fun _ => Need.mk p1 fun _ => ?_
            rw [show B = ltB (lK L 0) k by rw [hbe, decide_eq_true h2, h3, decide_eq_true h4]; rfl]
            exact ⟨[0, 1], ⟨rfl, by repeat' (first | exact trivial | exact rfl | apply And.intro | exact (fun _ _ _ _ => Cell.le_refl _) | (intro i hi; rfl) | (intro i hi; exact absurd hi (Nat.not_lt_zero _))), by decide, rfl, by repeat' (first | exact trivial | exact rfl | apply And.intro | exact (fun _ _ _ _ => Cell.le_refl _) | (intro i hi; rfl) | (intro i hi; exact absurd hi (Nat.not_lt_zero _)))⟩⟩
          · have h4 : ¬ lI L 0 = c - 1 := of_decide_eq_false (p := lI L 0 = c - 1) h4
            rw [show B = false by rw [hbe, decide_eq_true h2, h3, decide_eq_false h4]; rfl]
            exact ⟨[0, 1], ⟨rfl, by repeat' (first | exact trivial | exact rfl | apply And.intro | exact (fun _ _ _ _ => Cell.le_refl _) | (intro i hi; rfl) | (intro i hi; exact absurd hi (Nat.not_lt_zero _))), by decide, rfl, by repeat' (first | exact trivial | exact rfl | apply And.intro | exact (fun _ _ _ _ => Cell.le_refl _) | (intro i hi; rfl) | (intro i hi; exact absurd hi (Nat.not_lt_zero _)))⟩⟩
      · have h2 : ¬ lI L 0 = 0 := of_decide_eq_false (p := lI L 0 = 0) h2
        refine Need.mk p0 fun _ => Need.mk p1 fun _ => Need.mk p2 fun _ => ?_
        refine Ife.mk (fun h4 => ?_) (fun h4 => ?_)
        · have h4 : lI L 0 = c - 1 := of_decide_eq_true (p := lI L 0 = c - 1) h4
          refine Need.mk p0 fun _ => Need.mk p1 fun _ => ?_
          rw [show B = ltB (lK L 0) k by rw [hbe, decide_eq_false h2, decide_eq_true h4]; rfl]
          exact ⟨[0, 1], ⟨rfl, by repeat' (first | exact trivial | exact rfl | apply And.intro | exact (fun _ _ _ _ => Cell.le_refl _) | (intro i hi; rfl) | (intro i hi; exact absurd hi (Nat.not_lt_zero _))), by decide, rfl, by repeat' (first | exact trivial | exact rfl | apply And.intro | exact (fun _ _ _ _ => Cell.le_refl _) | (intro i hi; rfl) | (intro i hi; exact absurd hi (Nat.not_lt_zero _)))⟩⟩
        · have h4 : ¬ lI L 0 = c - 1 := of_decide_eq_false (p := lI L 0 = c - 1) h4
          rw [show B = false by rw [hbe, decide_eq_false h2, decide_eq_false h4]; rfl]
          exact ⟨[0, 1], ⟨rfl, by repeat' (first | exact trivial | exact rfl | apply And.intro | exact (fun _ _ _ _ => Cell.le_refl _) | (intro i hi; rfl) | (intro i hi; exact absurd hi (Nat.not_lt_zero _))), by decide, rfl, by repeat' (first | exact trivial | exact rfl | apply And.intro | exact (fun _ _ _ _ => Cell.le_refl _) | (intro i hi; rfl) | (intro i hi; exact absurd hi (Nat.not_lt_zero _)))⟩⟩
    have hn1 : ¬ (n : Int) = 1 := of_decide_eq_false (p := (n : Int) = 1) h
    rw [if_neg (by omega)] at hbe
    have hcr := (mayL_all hmay).1
    have p0 : (0 : Int) ≤ 0 ∧ (0 : Int) < (n : Int) := by omega
    have p1 : (0 : Int).toNat < n := by omega
    have q0 : (0 : Int) ≤ 1 ∧ (1 : Int) < (n : Int) := by omega
    have q1 : (1 : Int).toNat < n := by omega
    have m0 := mayAt_iff.1 ((mayL_all hmay).2 0 (by omega))
    have m1 := mayAt_iff.1 ((mayL_all hmay).2 1 (by omega))
    refine Need.mk q0 fun _ => Need.mk q1 fun _ => Need.mk p0 fun _ => Need.mk p1 fun _ => Need.mk (by show fitStd .i64 (lI L 1 - lI L 0); unfold fitStd; omega) fun _ => ?_
    refine Ife.mk (fun h2 => ?_) (fun h2 => ?_)
    · have h2 : lI L 1 - lI L 0 = 1 := of_decide_eq_true (p := lI L 1 - lI L 0 = 1) h2
      refine Need.mk p0 fun _ => Need.mk p1 fun _ => ?_
      refine Ife.mk (fun h3 => ?_) (fun h3 => ?_)
      · have h3 : ltB (lK L 0) k = true := h3
        refine Need.mk q0 fun _ => Need.mk q1 fun _ => ?_
        rw [show B = ltB k (lK L 1) by rw [hbe, decide_eq_true h2, h3]; rfl]
        exact ⟨[0, 1], ⟨rfl, by repeat' (first | exact trivial | exact rfl | apply And.intro | exact (fun _ _ _ _ => Cell.le_refl _) | (intro i hi; rfl) | (intro i hi; exact absurd hi (Nat.not_lt_zero _))), by decide, rfl, by repeat' (first | exact trivial | exact rfl | apply And.intro | exact (fun _ _ _ _ => Cell.le_refl _) | (intro i hi; rfl) | (intro i hi; exact absurd hi (Nat.not_lt_zero _)))⟩⟩
      · have h3 : ltB (lK L 0) k = false := h3
        rw [show B = false by rw [hbe, decide_eq_true h2, h3]; rfl]
        exact ⟨[0, 1], ⟨rfl, by repeat' (first | exact trivial | exact rfl | apply And.intro | exact (fun _ _ _ _ => Cell.le_refl _) | (intro i hi; rfl) | (intro i hi; exact absurd hi (Nat.not_lt_zero _))), by decide, rfl, by repeat' (first | exact trivial | exact rfl | apply And.intro | exact (fun _ _ _ _ => Cell.le_refl _) | (intro i hi; rfl) | (intro i hi; exact absurd hi (Nat.not_lt_zero _)))⟩⟩
    · have h2 : ¬ lI L 1 - lI L 0 = 1 := of_decide_eq_false (p := lI L 1 - lI L 0 = 1) h2
      rw [show B = false by rw [hbe, decide_eq_false h2]; rfl]
      exact ⟨[0, 1], ⟨rfl, by repeat' (first | exact trivial | exact rfl | apply And.intro | exact (fun _ _ _ _ => Cell.le_refl _) | (intro i hi; rfl) | (intro i hi; exact absurd hi (Nat.not_lt_zero _))), by decide, rfl, by repeat' (first | exact trivial | exact rfl | apply And.intro | exact (fun _ _ _ _ => Cell.le_refl _) | (intro i hi; rfl) | (intro i hi; exact absurd hi (Nat.not_lt_zero _)))⟩⟩

end Go.Proofs.YthomoliklfmnkaaDoor.Vx
end
