/- Make, by the walker. -/
import Derived.Test.YthomoliklfmnkaaDoorM27
import Derived.Test.YthomoliklfmnkaaDoorM35
import Derived.Test.YthomoliklfmnkaaDoorM25
import Derived.Test.YthomoliklfmnkaaDoorM22
section
namespace Go.Proofs.YthomoliklfmnkaaDoor.Vx
open Sha
open Go.RowKit
set_option linter.unusedVariables false
set_option linter.unusedSimpArgs false
def mkPre (gg sz0 n0 : Nat) (get0 : Nat → List CV) (ty one n : Nat) (get : Nat → List CV) : Prop := KsAt gg sz0 n0 get0 ∧ prPre ty one n get
theorem es_leq {fr : Bool} {ty sz n n' : Nat} {g g' : Nat → List CV} (hn : n = n') (h : ∀ i, i < n → g i = g' i) : Cell.le (.es fr ty sz n g) (.es fr ty sz n' g') := by
  subst hn
  rintro W D u ⟨a, cap, h1, h2, h3⟩
  refine ⟨a, cap, h1, h2, fun h0 => ?_⟩
  obtain ⟨b, o, h4, h5, h6⟩ := h3 h0
  refine ⟨b, o, h4, h5, fun i hi => ?_⟩
  rw [← h i hi]
  exact h6 i hi
theorem leafG_way {L : List PP} {i : Nat} {P : List PLeaf} {m : Nat} (hn : P.length = m) (hi : i < L.length) : ∀ a j, a < m + 1 → j < 4 → Cell.le (pushC m (leafG true P) [.pl (.str (prK L i)), .pl (.str (prV L i)), .pl (.int .i64 (i : Int)), .es true 24 32 (wayG (lfG L) L.length (i : Int)).length (hashesG (wayG (lfG L) L.length (i : Int)))] a j) (leafG true (P ++ [mkLeaf L i]) a j) := fun a j ha hj => by
  have h := leafG_push (p := P) hn (mkLeaf L i) a j ha hj
  subst hn
  unfold pushC at h ⊢
  cases hb : Nat.blt a P.length with
  | true => rw [hb] at h; exact h
  | false =>
    have hb : ¬ a < P.length := fun h => by rw [← Nat.blt_eq, hb] at h; cases h
    obtain rfl : a = P.length := by omega
    rw [leafG_last]
    rcases four hj with rfl | rfl | rfl | rfl
    · exact Cell.le_refl _
    · exact Cell.le_refl _
    · exact Cell.le_refl _
    · exact es_leq (wyL_len L i).symm fun j hj => (pG_way hj).symm
structure LMk (L : List PP) (a b : Nat) where
  i : Nat
  P : List PLeaf
  m : Nat
  h0 : a ≤ i
  h1 : i ≤ b
  hm : P.length = m
  h2 : P = (List.range' a (i - a)).map (mkLeaf L)
theorem lmk_next {L : List PP} {a i : Nat} {P : List PLeaf} (h0 : a ≤ i) (h2 : P = (List.range' a (i - a)).map (mkLeaf L)) : P ++ [mkLeaf L i] = (List.range' a (i + 1 - a)).map (mkLeaf L) := by
  rw [h2, show i + 1 - a = (i - a) + 1 by omega, List.range'_concat, List.map_append]
  rw [show a + 1 * (i - a) = i by omega]
  rfl
def sMake : SpecF
  | [.c (.row 1), .c (.str k)], [.glob gg sz0 n0 get0, .elems ty one n get] => some (mkPre gg sz0 n0 get0 ty one n get, .agg [.int .i64 (mkC (prL n get)), .row 2], [.dead, .dead, .data true 115 4 (lenL (mkL (prL n get) k)) (leafG true (mkL (prL n get) k))])
  | _, _ => none

set_option maxRecDepth 100000 in
set_option maxHeartbeats 32000000 in
theorem makeP : Fn Tryd.prog 22 [0] [(63, 2)] sMake := by
  have hC : CtsOk Tryd.prog [(18, appFn [] [(63, 2)] sGood), (83, appFn [] [] sSea), (79, appFn [0] [(63, 2)] sSums), (85, appFn [0] [(24, 32)] sWay)] := CtsOk.cons (Fn.ct goodP) <| CtsOk.cons (Fn.ct seaP) <| CtsOk.cons (Fn.ct sumsP) <| CtsOk.cons (Fn.ct wayP) <| CtsOk.nil _
  refine Fn.ofZ (E := tbMk) [0] 0 [(4, [(0, true), (1, true), (2, true), (3, true), (4, true), (5, true), (6, true), (7, true), (8, true), (9, true)]), (5, [(0, true), (1, true), (2, true), (3, true), (4, true), (5, true), (6, true), (7, true), (8, true), (9, true), (10, true), (11, true), (12, true)]), (7, [(9999, true), (0, true), (1, true), (2, true), (3, true), (3004, false), (5, false), (6, false), (7, true), (2999, false), (5, false), (4, false), (6, false), (7, true), (2999, false)]), (11, [(2007, false), (0, true), (1, true), (2, true), (3, true), (4, true), (5, true), (6, true), (7, true), (8, true), (9, true), (10, true), (11, true), (12, true), (13, true), (14, true), (15, false), (16, true), (17, false), (18, false), (1019, false), (19, true), (20, false)])] tbMk_ok hC (by kernel_rfl) Tryd.func22 rfl rfl rfl (by kernel_rfl) (by kernel_rfl) 2 (.data true 115 4 0 fun _ _ => .pl .tt) rfl ?_ ?_
  · intro args h pre r h' hs
    unfold sMake at hs
    split at hs
    · cases hs; exact ⟨rfl, rfl, Nat.le_of_ble_eq_true rfl⟩
    · cases hs
  · intro args h pre r h' hs hp
    unfold sMake at hs
    split at hs
    rotate_left
    · cases hs
    rename_i k gg sz0 n0 get0 ty one n get
    cases hs
    obtain ⟨hK, rfl, rfl, hst, hm⟩ := hp
    refine ⟨[.glob 0 1 64 (fun i => [.int .u32 (kOf i)]), .elems 63 2 n (prG (prL n get))], ⟨hK.same.1, ⟨rfl, rfl, rfl, fun i hi => hst.eq hi⟩, trivial⟩, ?_⟩
    clear hK
    have hL : (prL n get).length = n := prL_len
    have ePR : prL n (prG (prL n get)) = prL n get := by
      have := prL_prG (prL n get)
      rwa [hL] at this
    generalize prL n get = L at hL ePR ⊢
    unfold sGood sSea sSums sWay
    generalize hg0 : (List.length : List PP → Nat) = g0
    generalize hg1 : (List.length : List (Nat → Int) → Nat) = g1
    generalize hL : lft Tryd.prog _ = L
    try unfold prG
    try unfold leafG
    generalize ho0 : @prK = zo0, ho1 : @prV = zo1, ho2 : @prL = zo2, ho3 : @ltB = zo3, ho4 : @findI = zo4, ho5 : @findB = zo5, ho6 : @prPre = zo6, ho7 : @goodL = zo7, ho8 : @kOf = zo8, ho9 : @lfG = zo9, ho10 : @sumsPre = zo10, ho11 : @lK = zo11, ho12 : @lV = zo12, ho13 : @lI = zo13, ho14 : @lP = zo14, ho15 : @lN = zo15, ho16 : @pG = zo16, ho17 : @mkLeaf = zo17, ho18 : @mkL = zo18, ho19 : @mkC = zo19, ho20 : @mkFrom = zo20, ho21 : @mkTo = zo21, ho22 : @wayG = zo22, ho23 : @hashesG = zo23, ho24 : @wayPre0 = zo24, ho25 : @mkPre = zo25, ho26 : @lenL = zo26
    generalize hA : Arith.std = A
    cbv
    subst hA hg0 hg1 hL ho0 ho1 ho2 ho3 ho4 ho5 ho6 ho7 ho8 ho9 ho10 ho11 ho12 ho13 ho14 ho15 ho16 ho17 ho18 ho19 ho20 ho21 ho22 ho23 ho24 ho25 ho26
    have hle := findI_le (L := L) (k := k)
    have hPr : prPre 63 2 n (prG L) := ⟨rfl, rfl, prAt_prG n L, hm⟩
    refine Need.mk hPr fun _ => ?_
    simp only [ePR]
    refine Ife.mk (fun h => ?_) (fun h => ?_)
    · have h : goodL L = false := by simpa using (show (!goodL L) = true from h)
      have e1 : mkL L k = [] := by unfold mkL; rw [if_neg (by rw [h]; simp)]
      have e2 : mkC L = 0 := by unfold mkC; rw [if_neg (by rw [h]; simp)]
      rw [e1, e2]
      have hZ : ∀ (i j : Nat), i < lenL [] → j < 4 → Cell.le (.pl .tt) (leafG true [] i j) := fun i j hi => absurd hi (Nat.not_lt_zero i)
      exact ⟨[], [0, 1, 6], ⟨trivial, rfl, by repeat' (first | exact trivial | exact rfl | apply And.intro | exact (fun _ _ _ _ => Cell.le_refl _) | (intro i hi; rfl) | (intro i hi; exact absurd hi (Nat.not_lt_zero _))), (by show List.Nodup []; exact List.nodup_nil), rfl, by repeat' (first | exact trivial | exact rfl | exact hZ | apply And.intro)⟩⟩
    have hg : goodL L = true := by simpa using (show (!goodL L) = false from h)
    clear h
    obtain ⟨hs, hz⟩ := goodL_iff.1 hg
    have eC : mkC L = (n : Int) := by unfold mkC; rw [if_pos hg, hL]
    have hT : min ((findI L k : Int) + 1) (n : Int) = ((mkTo L k : Nat) : Int) := by unfold mkTo; rw [hL]; omega
    have hft := mkFrom_le (L := L) (k := k)
    have eM := mkL_range (L := L) (k := k) hg
    refine Need.mk ⟨rfl, hPr, hs⟩ fun _ => ?_
    refine Need.mk (by show fitStd .i64 ((findI L k : Int) - 1); unfold fitStd; omega) fun _ => Need.mk (by show fitStd .i64 ((findI L k : Int) + 1); unfold fitStd; omega) fun _ => ?_
    refine Ife.mk (fun h => ?_) (fun h => ?_)
    · have h : (findI L k : Int) < (@Nat.cast Int instNatCastInt n) := of_decide_eq_true (p := (findI L k : Int) < (n : Int)) h
      refine Need.mk (by show 0 ≤ (findI L k : Int) ∧ (findI L k : Int) < (n : Int); omega) fun _ => Need.mk (by show (findI L k : Int).toNat < n; omega) fun _ => ?_
      refine Ife.mk (fun h2 => ?_) (fun h2 => ?_)
      · have h2 : prK L (findI L k) = k := of_decide_eq_true (p := prK L (findI L k) = k) h2
        have hfb : findB L k = true := by unfold findB; rw [decide_eq_true h2, decide_eq_true (by omega)]; rfl
        have hF : (findI L k : Int) = ((mkFrom L k : Nat) : Int) := by unfold mkFrom; rw [if_pos hfb]
        have hSm : sumsPre 0 1 64 (fun i => [.int .u32 (kOf i)]) 63 2 n (prG L) := ⟨ksAt_self, ⟨rfl, rfl, prAt_prG n L, hm⟩, by rw [ePR]; exact hz⟩
        refine Both.mk ?_ ?_
        · refine Need.mk hSm fun _ => ?_
          refine Runs.nilCellE 8 1 (.orow 115 4 0 (leafG true [])) rfl rfl rfl ?_
          show Runs Tryd.prog 2 (.loop _) _ _
          refine loop_ruleR (N := env (lft Tryd.prog 2) 0 .std tbMk [(18, appFn [] [(63, 2)] sGood), (83, appFn [] [] sSea), (79, appFn [0] [(63, 2)] sSums), (85, appFn [0] [(24, 32)] sWay)] [(4, [(0, true), (1, true), (2, true), (3, true), (4, true), (5, true), (6, true), (7, true), (8, true), (9, true)]), (5, [(0, true), (1, true), (2, true), (3, true), (4, true), (5, true), (6, true), (7, true), (8, true), (9, true), (10, true), (11, true), (12, true)]), (7, [(9999, true), (0, true), (1, true), (2, true), (3, true), (3004, false), (5, false), (6, false), (7, true), (2999, false), (5, false), (4, false), (6, false), (7, true), (2999, false)]), (11, [(2007, false), (0, true), (1, true), (2, true), (3, true), (4, true), (5, true), (6, true), (7, true), (8, true), (9, true), (10, true), (11, true), (12, true), (13, true), (14, true), (15, false), (16, true), (17, false), (18, false), (1019, false), (19, true), (20, false)])]) rfl tbMk_ok hC (fun c st K _ h => h) (by kernel_rfl) [0] (X := LMk L (mkFrom L k) (mkTo L k))
            (S := fun x => ⟨[.c (.row 1), .c (.str k), .c (.ptr 2 0), .c (.ptr 3 0), .c (.ptr 4 0), .any, .any, .c (.int .i64 ((mkTo L k : Nat) : Int)), .c (.ptr 5 0), .c (.row 6), .c (.int .i64 (x.i : Int))] ++ List.replicate 62 .any, [.glob 0 1 64 (fun i => [.int .u32 (kOf i)]), .elems 63 2 n (prG L), .cells 31 [.row 1], .cells 9 [.str k], .cells 27 [.int .i64 0, .val (.slice none 0 0)], .cells 27 [.int .i64 (n : Int), .row 7], .row 24 32 n (lfG L), .orow 115 4 x.m (leafG true x.P)]⟩) (μ := fun x => mkTo L k - x.i) ⟨mkFrom L k, [], 0, Nat.le_refl _, mkFrom_le.1, rfl, by rw [Nat.sub_self]; rfl⟩ (by kernel_rfl) [0, 1, 2, 3, 4, 8, 7, 9] ?h0XA ?rdXA
          case h0XA =>
            refine ⟨rfl, by decide, ?_, ?_⟩ <;> repeat' (first | exact trivial | exact hF | exact hT | exact congrArg (CV.int .i64) hF | exact congrArg (CV.int .i64) hT | exact hW | exact rfl | apply And.intro | exact (fun _ _ _ _ => Cell.le_refl _) | (intro i hi; rfl) | (intro i hi; exact absurd hi (Nat.not_lt_zero _)))
          case rdXA =>
            rintro ⟨i, P, m, h0, h1, hmm, hP⟩
            unfold sGood sSea sSums sWay
            generalize hg0 : (List.length : List PP → Nat) = g0
            generalize hg1 : (List.length : List (Nat → Int) → Nat) = g1
            generalize hL : lft Tryd.prog _ = L
            try dsimp only
            try unfold prG
            try unfold leafG
            generalize ho0 : @prK = zo0, ho1 : @prV = zo1, ho2 : @prL = zo2, ho3 : @ltB = zo3, ho4 : @findI = zo4, ho5 : @findB = zo5, ho6 : @prPre = zo6, ho7 : @goodL = zo7, ho8 : @kOf = zo8, ho9 : @lfG = zo9, ho10 : @sumsPre = zo10, ho11 : @lK = zo11, ho12 : @lV = zo12, ho13 : @lI = zo13, ho14 : @lP = zo14, ho15 : @lN = zo15, ho16 : @pG = zo16, ho17 : @mkLeaf = zo17, ho18 : @mkL = zo18, ho19 : @mkC = zo19, ho20 : @mkFrom = zo20, ho21 : @mkTo = zo21, ho22 : @wayG = zo22, ho23 : @hashesG = zo23, ho24 : @wayPre0 = zo24, ho25 : @mkPre = zo25, ho26 : @lenL = zo26
            generalize hA : Arith.std = A
            cbv
            subst hA hg0 hg1 hL ho0 ho1 ho2 ho3 ho4 ho5 ho6 ho7 ho8 ho9 ho10 ho11 ho12 ho13 ho14 ho15 ho16 ho17 ho18 ho19 ho20 ho21 ho22 ho23 ho24 ho25 ho26
            refine Ife.mk (fun h => ?_) (fun h => ?_)
            · have h : (i : Int) < ((mkTo L k : Nat) : Int) := of_decide_eq_true (p := (i : Int) < ((mkTo L k : Nat) : Int)) h
              have hib : i < mkTo L k := Int.ofNat_lt.mp h
              have q1 : 0 ≤ (i : Int) ∧ (i : Int) < (n : Int) := by omega
              have q2 : (i : Int).toNat < n := by omega
              have hml : m ≤ n := by
                have := congrArg List.length hP
                rw [List.length_map, List.length_range'] at this
                omega
              refine Need.mk q1 fun _ => Need.mk q2 fun _ => Need.mk q1 fun _ => Need.mk q2 fun _ => ?_
              refine Need.mk ⟨ksAt_self, rfl, rfl, lfG_hash L n, by omega⟩ fun _ => ?_
              refine Need.mk ⟨show m + 1 ≤ maxLen ∧ (m + 1) * 64 ≤ 140737488355328 from ⟨by unfold maxLen; omega, by omega⟩, trivial⟩ fun _ => ?_
              refine Need.mk (by show fitStd .i64 ((i : Int) + 1); unfold fitStd; omega) fun _ => ?_
              have hW := leafG_way (L := L) (i := i) hmm (by omega)
              rw [hL] at hW
              refine ⟨⟨i + 1, P ++ [mkLeaf L i], m + 1, by omega, by omega, by rw [List.length_append, hmm]; rfl, lmk_next h0 hP⟩, [0, 1, 2, 3, 4, 5, 6, 11], (by show mkTo L k - (i + 1) < mkTo L k - i; omega), ?_⟩
              refine ⟨rfl, by decide, by repeat' (first | exact trivial | exact hF | exact hT | exact congrArg (CV.int .i64) hF | exact congrArg (CV.int .i64) hT | exact hW | exact rfl | apply And.intro | exact (fun _ _ _ _ => Cell.le_refl _) | (intro i hi; rfl) | (intro i hi; exact absurd hi (Nat.not_lt_zero _))), ?_⟩
              repeat' (first | exact trivial | exact hF | exact hT | exact congrArg (CV.int .i64) hF | exact congrArg (CV.int .i64) hT | exact hW | exact rfl | apply And.intro | exact (fun _ _ _ _ => Cell.le_refl _) | (intro i hi; rfl) | (intro i hi; exact absurd hi (Nat.not_lt_zero _)))
            · have h : ¬ (i : Int) < ((mkTo L k : Nat) : Int) := of_decide_eq_false (p := (i : Int) < ((mkTo L k : Nat) : Int)) h
              have ei : i = mkTo L k := by omega
              have hPm : P = mkL L k := by rw [hP, ei]; exact eM.symm
              rw [eC, ← hPm]
              refine ⟨[7], [0, 1, 7], ⟨?fzXA, rfl, (by repeat' (first | exact trivial | exact rfl | apply And.intro | exact (fun _ _ _ _ => Cell.le_refl _) | (intro i hi; rfl) | (intro i hi; exact absurd hi (Nat.not_lt_zero _)))), (by show List.Nodup []; exact List.nodup_nil), rfl, ?hhXA⟩⟩
              case fzXA =>
                refine ⟨fun i j hi hj => ?_, trivial⟩
                rcases four hj with rfl | rfl | rfl | rfl
                · trivial
                · trivial
                · trivial
                · exact rfl
              case hhXA =>
                repeat' (first | exact trivial | exact rfl | apply And.intro)
                · exact hmm.symm
                · exact fun _ _ _ _ => Cell.le_refl _
        · refine Need.mk hSm fun _ => ?_
          refine Runs.nilCellE 6 1 (.orow 115 4 0 (leafG true [])) rfl rfl rfl ?_
          show Runs Tryd.prog 2 (.loop _) _ _
          refine loop_ruleR (N := env (lft Tryd.prog 2) 0 .std tbMk [(18, appFn [] [(63, 2)] sGood), (83, appFn [] [] sSea), (79, appFn [0] [(63, 2)] sSums), (85, appFn [0] [(24, 32)] sWay)] [(4, [(0, true), (1, true), (2, true), (3, true), (4, true), (5, true), (6, true), (7, true), (8, true), (9, true)]), (5, [(0, true), (1, true), (2, true), (3, true), (4, true), (5, true), (6, true), (7, true), (8, true), (9, true), (10, true), (11, true), (12, true)]), (7, [(9999, true), (0, true), (1, true), (2, true), (3, true), (3004, false), (5, false), (6, false), (7, true), (2999, false), (5, false), (4, false), (6, false), (7, true), (2999, false)]), (11, [(2007, false), (0, true), (1, true), (2, true), (3, true), (4, true), (5, true), (6, true), (7, true), (8, true), (9, true), (10, true), (11, true), (12, true), (13, true), (14, true), (15, false), (16, true), (17, false), (18, false), (1019, false), (19, true), (20, false)])]) rfl tbMk_ok hC (fun c st K _ h => h) (by kernel_rfl) [0] (X := LMk L (mkFrom L k) (mkTo L k))
            (S := fun x => ⟨[.c (.row 1), .c (.str k), .c (.ptr 2 0), .c (.ptr 3 0), .c (.ptr 4 0), .any, .any, .c (.int .i64 ((mkTo L k : Nat) : Int)), .c (.ptr 5 0), .c (.row 6), .c (.int .i64 (x.i : Int))] ++ List.replicate 62 .any, [.glob 0 1 64 (fun i => [.int .u32 (kOf i)]), .elems 63 2 n (prG L), .cells 31 [.row 1], .cells 9 [.str k], .cells 27 [.int .i64 0, .val (.slice none 0 0)], .cells 27 [.int .i64 (n : Int), .row 7], .row 24 32 n (lfG L), .orow 115 4 x.m (leafG true x.P)]⟩) (μ := fun x => mkTo L k - x.i) ⟨mkFrom L k, [], 0, Nat.le_refl _, mkFrom_le.1, rfl, by rw [Nat.sub_self]; rfl⟩ (by kernel_rfl) [0, 1, 2, 3, 4, 6, 8, 9] ?h0XB ?rdXB
          case h0XB =>
            refine ⟨rfl, by decide, ?_, ?_⟩ <;> repeat' (first | exact trivial | exact hF | exact hT | exact congrArg (CV.int .i64) hF | exact congrArg (CV.int .i64) hT | exact hW | exact rfl | apply And.intro | exact (fun _ _ _ _ => Cell.le_refl _) | (intro i hi; rfl) | (intro i hi; exact absurd hi (Nat.not_lt_zero _)))
          case rdXB =>
            rintro ⟨i, P, m, h0, h1, hmm, hP⟩
            unfold sGood sSea sSums sWay
            generalize hg0 : (List.length : List PP → Nat) = g0
            generalize hg1 : (List.length : List (Nat → Int) → Nat) = g1
            generalize hL : lft Tryd.prog _ = L
            try dsimp only
            try unfold prG
            try unfold leafG
            generalize ho0 : @prK = zo0, ho1 : @prV = zo1, ho2 : @prL = zo2, ho3 : @ltB = zo3, ho4 : @findI = zo4, ho5 : @findB = zo5, ho6 : @prPre = zo6, ho7 : @goodL = zo7, ho8 : @kOf = zo8, ho9 : @lfG = zo9, ho10 : @sumsPre = zo10, ho11 : @lK = zo11, ho12 : @lV = zo12, ho13 : @lI = zo13, ho14 : @lP = zo14, ho15 : @lN = zo15, ho16 : @pG = zo16, ho17 : @mkLeaf = zo17, ho18 : @mkL = zo18, ho19 : @mkC = zo19, ho20 : @mkFrom = zo20, ho21 : @mkTo = zo21, ho22 : @wayG = zo22, ho23 : @hashesG = zo23, ho24 : @wayPre0 = zo24, ho25 : @mkPre = zo25, ho26 : @lenL = zo26
            generalize hA : Arith.std = A
            cbv
            subst hA hg0 hg1 hL ho0 ho1 ho2 ho3 ho4 ho5 ho6 ho7 ho8 ho9 ho10 ho11 ho12 ho13 ho14 ho15 ho16 ho17 ho18 ho19 ho20 ho21 ho22 ho23 ho24 ho25 ho26
            refine Ife.mk (fun h => ?_) (fun h => ?_)
            · have h : (i : Int) < ((mkTo L k : Nat) : Int) := of_decide_eq_true (p := (i : Int) < ((mkTo L k : Nat) : Int)) h
              have hib : i < mkTo L k := Int.ofNat_lt.mp h
              have q1 : 0 ≤ (i : Int) ∧ (i : Int) < (n : Int) := by omega
              have q2 : (i : Int).toNat < n := by omega
              have hml : m ≤ n := by
                have := congrArg List.length hP
                rw [List.length_map, List.length_range'] at this
                omega
              refine Need.mk q1 fun _ => Need.mk q2 fun _ => Need.mk q1 fun _ => Need.mk q2 fun _ => ?_
              refine Need.mk ⟨ksAt_self, rfl, rfl, lfG_hash L n, by omega⟩ fun _ => ?_
              refine Need.mk ⟨show m + 1 ≤ maxLen ∧ (m + 1) * 64 ≤ 140737488355328 from ⟨by unfold maxLen; omega, by omega⟩, trivial⟩ fun _ => ?_
              refine Need.mk (by show fitStd .i64 ((i : Int) + 1); unfold fitStd; omega) fun _ => ?_
              have hW := leafG_way (L := L) (i := i) hmm (by omega)
              rw [hL] at hW
              refine ⟨⟨i + 1, P ++ [mkLeaf L i], m + 1, by omega, by omega, by rw [List.length_append, hmm]; rfl, lmk_next h0 hP⟩, [0, 1, 2, 3, 4, 5, 6, 11], (by show mkTo L k - (i + 1) < mkTo L k - i; omega), ?_⟩
              refine ⟨rfl, by decide, by repeat' (first | exact trivial | exact hF | exact hT | exact congrArg (CV.int .i64) hF | exact congrArg (CV.int .i64) hT | exact hW | exact rfl | apply And.intro | exact (fun _ _ _ _ => Cell.le_refl _) | (intro i hi; rfl) | (intro i hi; exact absurd hi (Nat.not_lt_zero _))), ?_⟩
              repeat' (first | exact trivial | exact hF | exact hT | exact congrArg (CV.int .i64) hF | exact congrArg (CV.int .i64) hT | exact hW | exact rfl | apply And.intro | exact (fun _ _ _ _ => Cell.le_refl _) | (intro i hi; rfl) | (intro i hi; exact absurd hi (Nat.not_lt_zero _)))
            · have h : ¬ (i : Int) < ((mkTo L k : Nat) : Int) := of_decide_eq_false (p := (i : Int) < ((mkTo L k : Nat) : Int)) h
              have ei : i = mkTo L k := by omega
              have hPm : P = mkL L k := by rw [hP, ei]; exact eM.symm
              rw [eC, ← hPm]
              refine ⟨[7], [0, 1, 7], ⟨?fzXB, rfl, (by repeat' (first | exact trivial | exact rfl | apply And.intro | exact (fun _ _ _ _ => Cell.le_refl _) | (intro i hi; rfl) | (intro i hi; exact absurd hi (Nat.not_lt_zero _)))), (by show List.Nodup []; exact List.nodup_nil), rfl, ?hhXB⟩⟩
              case fzXB =>
                refine ⟨fun i j hi hj => ?_, trivial⟩
                rcases four hj with rfl | rfl | rfl | rfl
                · trivial
                · trivial
                · trivial
                · exact rfl
              case hhXB =>
                repeat' (first | exact trivial | exact rfl | apply And.intro)
                · exact hmm.symm
                · exact fun _ _ _ _ => Cell.le_refl _
      · have h2 : ¬ prK L (findI L k) = k := of_decide_eq_false (p := prK L (findI L k) = k) h2
        have hfb : ¬ findB L k = true := fun q => h2 (findB_eq q).2
        have hF : max ((findI L k : Int) - 1) 0 = ((mkFrom L k : Nat) : Int) := by unfold mkFrom; rw [if_neg hfb]; omega
        have hSm : sumsPre 0 1 64 (fun i => [.int .u32 (kOf i)]) 63 2 n (prG L) := ⟨ksAt_self, ⟨rfl, rfl, prAt_prG n L, hm⟩, by rw [ePR]; exact hz⟩
        refine Both.mk ?_ ?_
        · refine Need.mk hSm fun _ => ?_
          refine Runs.nilCellE 8 1 (.orow 115 4 0 (leafG true [])) rfl rfl rfl ?_
          show Runs Tryd.prog 2 (.loop _) _ _
          refine loop_ruleR (N := env (lft Tryd.prog 2) 0 .std tbMk [(18, appFn [] [(63, 2)] sGood), (83, appFn [] [] sSea), (79, appFn [0] [(63, 2)] sSums), (85, appFn [0] [(24, 32)] sWay)] [(4, [(0, true), (1, true), (2, true), (3, true), (4, true), (5, true), (6, true), (7, true), (8, true), (9, true)]), (5, [(0, true), (1, true), (2, true), (3, true), (4, true), (5, true), (6, true), (7, true), (8, true), (9, true), (10, true), (11, true), (12, true)]), (7, [(9999, true), (0, true), (1, true), (2, true), (3, true), (3004, false), (5, false), (6, false), (7, true), (2999, false), (5, false), (4, false), (6, false), (7, true), (2999, false)]), (11, [(2007, false), (0, true), (1, true), (2, true), (3, true), (4, true), (5, true), (6, true), (7, true), (8, true), (9, true), (10, true), (11, true), (12, true), (13, true), (14, true), (15, false), (16, true), (17, false), (18, false), (1019, false), (19, true), (20, false)])]) rfl tbMk_ok hC (fun c st K _ h => h) (by kernel_rfl) [0] (X := LMk L (mkFrom L k) (mkTo L k))
            (S := fun x => ⟨[.c (.row 1), .c (.str k), .c (.ptr 2 0), .c (.ptr 3 0), .c (.ptr 4 0), .any, .any, .c (.int .i64 ((mkTo L k : Nat) : Int)), .c (.ptr 5 0), .c (.row 6), .c (.int .i64 (x.i : Int))] ++ List.replicate 62 .any, [.glob 0 1 64 (fun i => [.int .u32 (kOf i)]), .elems 63 2 n (prG L), .cells 31 [.row 1], .cells 9 [.str k], .cells 27 [.int .i64 0, .val (.slice none 0 0)], .cells 27 [.int .i64 (n : Int), .row 7], .row 24 32 n (lfG L), .orow 115 4 x.m (leafG true x.P)]⟩) (μ := fun x => mkTo L k - x.i) ⟨mkFrom L k, [], 0, Nat.le_refl _, mkFrom_le.1, rfl, by rw [Nat.sub_self]; rfl⟩ (by kernel_rfl) [0, 1, 2, 3, 4, 8, 7, 9] ?h0YA ?rdYA
          case h0YA =>
            refine ⟨rfl, by decide, ?_, ?_⟩ <;> repeat' (first | exact trivial | exact hF | exact hT | exact congrArg (CV.int .i64) hF | exact congrArg (CV.int .i64) hT | exact hW | exact rfl | apply And.intro | exact (fun _ _ _ _ => Cell.le_refl _) | (intro i hi; rfl) | (intro i hi; exact absurd hi (Nat.not_lt_zero _)))
          case rdYA =>
            rintro ⟨i, P, m, h0, h1, hmm, hP⟩
            unfold sGood sSea sSums sWay
            generalize hg0 : (List.length : List PP → Nat) = g0
            generalize hg1 : (List.length : List (Nat → Int) → Nat) = g1
            generalize hL : lft Tryd.prog _ = L
            try dsimp only
            try unfold prG
            try unfold leafG
            generalize ho0 : @prK = zo0, ho1 : @prV = zo1, ho2 : @prL = zo2, ho3 : @ltB = zo3, ho4 : @findI = zo4, ho5 : @findB = zo5, ho6 : @prPre = zo6, ho7 : @goodL = zo7, ho8 : @kOf = zo8, ho9 : @lfG = zo9, ho10 : @sumsPre = zo10, ho11 : @lK = zo11, ho12 : @lV = zo12, ho13 : @lI = zo13, ho14 : @lP = zo14, ho15 : @lN = zo15, ho16 : @pG = zo16, ho17 : @mkLeaf = zo17, ho18 : @mkL = zo18, ho19 : @mkC = zo19, ho20 : @mkFrom = zo20, ho21 : @mkTo = zo21, ho22 : @wayG = zo22, ho23 : @hashesG = zo23, ho24 : @wayPre0 = zo24, ho25 : @mkPre = zo25, ho26 : @lenL = zo26
            generalize hA : Arith.std = A
            cbv
            subst hA hg0 hg1 hL ho0 ho1 ho2 ho3 ho4 ho5 ho6 ho7 ho8 ho9 ho10 ho11 ho12 ho13 ho14 ho15 ho16 ho17 ho18 ho19 ho20 ho21 ho22 ho23 ho24 ho25 ho26
            refine Ife.mk (fun h => ?_) (fun h => ?_)
            · have h : (i : Int) < ((mkTo L k : Nat) : Int) := of_decide_eq_true (p := (i : Int) < ((mkTo L k : Nat) : Int)) h
              have hib : i < mkTo L k := Int.ofNat_lt.mp h
              have q1 : 0 ≤ (i : Int) ∧ (i : Int) < (n : Int) := by omega
              have q2 : (i : Int).toNat < n := by omega
              have hml : m ≤ n := by
                have := congrArg List.length hP
                rw [List.length_map, List.length_range'] at this
                omega
              refine Need.mk q1 fun _ => Need.mk q2 fun _ => Need.mk q1 fun _ => Need.mk q2 fun _ => ?_
              refine Need.mk ⟨ksAt_self, rfl, rfl, lfG_hash L n, by omega⟩ fun _ => ?_
              refine Need.mk ⟨show m + 1 ≤ maxLen ∧ (m + 1) * 64 ≤ 140737488355328 from ⟨by unfold maxLen; omega, by omega⟩, trivial⟩ fun _ => ?_
              refine Need.mk (by show fitStd .i64 ((i : Int) + 1); unfold fitStd; omega) fun _ => ?_
              have hW := leafG_way (L := L) (i := i) hmm (by omega)
              rw [hL] at hW
              refine ⟨⟨i + 1, P ++ [mkLeaf L i], m + 1, by omega, by omega, by rw [List.length_append, hmm]; rfl, lmk_next h0 hP⟩, [0, 1, 2, 3, 4, 5, 6, 11], (by show mkTo L k - (i + 1) < mkTo L k - i; omega), ?_⟩
              refine ⟨rfl, by decide, by repeat' (first | exact trivial | exact hF | exact hT | exact congrArg (CV.int .i64) hF | exact congrArg (CV.int .i64) hT | exact hW | exact rfl | apply And.intro | exact (fun _ _ _ _ => Cell.le_refl _) | (intro i hi; rfl) | (intro i hi; exact absurd hi (Nat.not_lt_zero _))), ?_⟩
              repeat' (first | exact trivial | exact hF | exact hT | exact congrArg (CV.int .i64) hF | exact congrArg (CV.int .i64) hT | exact hW | exact rfl | apply And.intro | exact (fun _ _ _ _ => Cell.le_refl _) | (intro i hi; rfl) | (intro i hi; exact absurd hi (Nat.not_lt_zero _)))
            · have h : ¬ (i : Int) < ((mkTo L k : Nat) : Int) := of_decide_eq_false (p := (i : Int) < ((mkTo L k : Nat) : Int)) h
              have ei : i = mkTo L k := by omega
              have hPm : P = mkL L k := by rw [hP, ei]; exact eM.symm
              rw [eC, ← hPm]
              refine ⟨[7], [0, 1, 7], ⟨?fzYA, rfl, (by repeat' (first | exact trivial | exact rfl | apply And.intro | exact (fun _ _ _ _ => Cell.le_refl _) | (intro i hi; rfl) | (intro i hi; exact absurd hi (Nat.not_lt_zero _)))), (by show List.Nodup []; exact List.nodup_nil), rfl, ?hhYA⟩⟩
              case fzYA =>
                refine ⟨fun i j hi hj => ?_, trivial⟩
                rcases four hj with rfl | rfl | rfl | rfl
                · trivial
                · trivial
                · trivial
                · exact rfl
              case hhYA =>
                repeat' (first | exact trivial | exact rfl | apply And.intro)
                · exact hmm.symm
                · exact fun _ _ _ _ => Cell.le_refl _
        · refine Need.mk hSm fun _ => ?_
          refine Runs.nilCellE 6 1 (.orow 115 4 0 (leafG true [])) rfl rfl rfl ?_
          show Runs Tryd.prog 2 (.loop _) _ _
          refine loop_ruleR (N := env (lft Tryd.prog 2) 0 .std tbMk [(18, appFn [] [(63, 2)] sGood), (83, appFn [] [] sSea), (79, appFn [0] [(63, 2)] sSums), (85, appFn [0] [(24, 32)] sWay)] [(4, [(0, true), (1, true), (2, true), (3, true), (4, true), (5, true), (6, true), (7, true), (8, true), (9, true)]), (5, [(0, true), (1, true), (2, true), (3, true), (4, true), (5, true), (6, true), (7, true), (8, true), (9, true), (10, true), (11, true), (12, true)]), (7, [(9999, true), (0, true), (1, true), (2, true), (3, true), (3004, false), (5, false), (6, false), (7, true), (2999, false), (5, false), (4, false), (6, false), (7, true), (2999, false)]), (11, [(2007, false), (0, true), (1, true), (2, true), (3, true), (4, true), (5, true), (6, true), (7, true), (8, true), (9, true), (10, true), (11, true), (12, true), (13, true), (14, true), (15, false), (16, true), (17, false), (18, false), (1019, false), (19, true), (20, false)])]) rfl tbMk_ok hC (fun c st K _ h => h) (by kernel_rfl) [0] (X := LMk L (mkFrom L k) (mkTo L k))
            (S := fun x => ⟨[.c (.row 1), .c (.str k), .c (.ptr 2 0), .c (.ptr 3 0), .c (.ptr 4 0), .any, .any, .c (.int .i64 ((mkTo L k : Nat) : Int)), .c (.ptr 5 0), .c (.row 6), .c (.int .i64 (x.i : Int))] ++ List.replicate 62 .any, [.glob 0 1 64 (fun i => [.int .u32 (kOf i)]), .elems 63 2 n (prG L), .cells 31 [.row 1], .cells 9 [.str k], .cells 27 [.int .i64 0, .val (.slice none 0 0)], .cells 27 [.int .i64 (n : Int), .row 7], .row 24 32 n (lfG L), .orow 115 4 x.m (leafG true x.P)]⟩) (μ := fun x => mkTo L k - x.i) ⟨mkFrom L k, [], 0, Nat.le_refl _, mkFrom_le.1, rfl, by rw [Nat.sub_self]; rfl⟩ (by kernel_rfl) [0, 1, 2, 3, 4, 6, 8, 9] ?h0YB ?rdYB
          case h0YB =>
            refine ⟨rfl, by decide, ?_, ?_⟩ <;> repeat' (first | exact trivial | exact hF | exact hT | exact congrArg (CV.int .i64) hF | exact congrArg (CV.int .i64) hT | exact hW | exact rfl | apply And.intro | exact (fun _ _ _ _ => Cell.le_refl _) | (intro i hi; rfl) | (intro i hi; exact absurd hi (Nat.not_lt_zero _)))
          case rdYB =>
            rintro ⟨i, P, m, h0, h1, hmm, hP⟩
            unfold sGood sSea sSums sWay
            generalize hg0 : (List.length : List PP → Nat) = g0
            generalize hg1 : (List.length : List (Nat → Int) → Nat) = g1
            generalize hL : lft Tryd.prog _ = L
            try dsimp only
            try unfold prG
            try unfold leafG
            generalize ho0 : @prK = zo0, ho1 : @prV = zo1, ho2 : @prL = zo2, ho3 : @ltB = zo3, ho4 : @findI = zo4, ho5 : @findB = zo5, ho6 : @prPre = zo6, ho7 : @goodL = zo7, ho8 : @kOf = zo8, ho9 : @lfG = zo9, ho10 : @sumsPre = zo10, ho11 : @lK = zo11, ho12 : @lV = zo12, ho13 : @lI = zo13, ho14 : @lP = zo14, ho15 : @lN = zo15, ho16 : @pG = zo16, ho17 : @mkLeaf = zo17, ho18 : @mkL = zo18, ho19 : @mkC = zo19, ho20 : @mkFrom = zo20, ho21 : @mkTo = zo21, ho22 : @wayG = zo22, ho23 : @hashesG = zo23, ho24 : @wayPre0 = zo24, ho25 : @mkPre = zo25, ho26 : @lenL = zo26
            generalize hA : Arith.std = A
            cbv
            subst hA hg0 hg1 hL ho0 ho1 ho2 ho3 ho4 ho5 ho6 ho7 ho8 ho9 ho10 ho11 ho12 ho13 ho14 ho15 ho16 ho17 ho18 ho19 ho20 ho21 ho22 ho23 ho24 ho25 ho26
            refine Ife.mk (fun h => ?_) (fun h => ?_)
            · have h : (i : Int) < ((mkTo L k : Nat) : Int) := of_decide_eq_true (p := (i : Int) < ((mkTo L k : Nat) : Int)) h
              have hib : i < mkTo L k := Int.ofNat_lt.mp h
              have q1 : 0 ≤ (i : Int) ∧ (i : Int) < (n : Int) := by omega
              have q2 : (i : Int).toNat < n := by omega
              have hml : m ≤ n := by
                have := congrArg List.length hP
                rw [List.length_map, List.length_range'] at this
                omega
              refine Need.mk q1 fun _ => Need.mk q2 fun _ => Need.mk q1 fun _ => Need.mk q2 fun _ => ?_
              refine Need.mk ⟨ksAt_self, rfl, rfl, lfG_hash L n, by omega⟩ fun _ => ?_
              refine Need.mk ⟨show m + 1 ≤ maxLen ∧ (m + 1) * 64 ≤ 140737488355328 from ⟨by unfold maxLen; omega, by omega⟩, trivial⟩ fun _ => ?_
              refine Need.mk (by show fitStd .i64 ((i : Int) + 1); unfold fitStd; omega) fun _ => ?_
              have hW := leafG_way (L := L) (i := i) hmm (by omega)
              rw [hL] at hW
              refine ⟨⟨i + 1, P ++ [mkLeaf L i], m + 1, by omega, by omega, by rw [List.length_append, hmm]; rfl, lmk_next h0 hP⟩, [0, 1, 2, 3, 4, 5, 6, 11], (by show mkTo L k - (i + 1) < mkTo L k - i; omega), ?_⟩
              refine ⟨rfl, by decide, by repeat' (first | exact trivial | exact hF | exact hT | exact congrArg (CV.int .i64) hF | exact congrArg (CV.int .i64) hT | exact hW | exact rfl | apply And.intro | exact (fun _ _ _ _ => Cell.le_refl _) | (intro i hi; rfl) | (intro i hi; exact absurd hi (Nat.not_lt_zero _))), ?_⟩
              repeat' (first | exact trivial | exact hF | exact hT | exact congrArg (CV.int .i64) hF | exact congrArg (CV.int .i64) hT | exact hW | exact rfl | apply And.intro | exact (fun _ _ _ _ => Cell.le_refl _) | (intro i hi; rfl) | (intro i hi; exact absurd hi (Nat.not_lt_zero _)))
            · have h : ¬ (i : Int) < ((mkTo L k : Nat) : Int) := of_decide_eq_false (p := (i : Int) < ((mkTo L k : Nat) : Int)) h
              have ei : i = mkTo L k := by omega
              have hPm : P = mkL L k := by rw [hP, ei]; exact eM.symm
              rw [eC, ← hPm]
              refine ⟨[7], [0, 1, 7], ⟨?fzYB, rfl, (by repeat' (first | exact trivial | exact rfl | apply And.intro | exact (fun _ _ _ _ => Cell.le_refl _) | (intro i hi; rfl) | (intro i hi; exact absurd hi (Nat.not_lt_zero _)))), (by show List.Nodup []; exact List.nodup_nil), rfl, ?hhYB⟩⟩
              case fzYB =>
                refine ⟨fun i j hi hj => ?_, trivial⟩
                rcases four hj with rfl | rfl | rfl | rfl
                · trivial
                · trivial
                · trivial
                · exact rfl
              case hhYB =>
                repeat' (first | exact trivial | exact rfl | apply And.intro)
                · exact hmm.symm
                · exact fun _ _ _ _ => Cell.le_refl _
    · have h : ¬ (findI L k : Int) < (@Nat.cast Int instNatCastInt n) := of_decide_eq_false (p := (findI L k : Int) < (n : Int)) h
      have hfb : ¬ findB L k = true := fun q => by have := (findB_eq q).1; omega
      have hF : max ((findI L k : Int) - 1) 0 = ((mkFrom L k : Nat) : Int) := by unfold mkFrom; rw [if_neg hfb]; omega
      have hSm : sumsPre 0 1 64 (fun i => [.int .u32 (kOf i)]) 63 2 n (prG L) := ⟨ksAt_self, ⟨rfl, rfl, prAt_prG n L, hm⟩, by rw [ePR]; exact hz⟩
      refine Both.mk ?_ ?_
      · refine Need.mk hSm fun _ => ?_
        refine Runs.nilCellE 8 1 (.orow 115 4 0 (leafG true [])) rfl rfl rfl ?_
        show Runs Tryd.prog 2 (.loop _) _ _
        refine loop_ruleR (N := env (lft Tryd.prog 2) 0 .std tbMk [(18, appFn [] [(63, 2)] sGood), (83, appFn [] [] sSea), (79, appFn [0] [(63, 2)] sSums), (85, appFn [0] [(24, 32)] sWay)] [(4, [(0, true), (1, true), (2, true), (3, true), (4, true), (5, true), (6, true), (7, true), (8, true), (9, true)]), (5, [(0, true), (1, true), (2, true), (3, true), (4, true), (5, true), (6, true), (7, true), (8, true), (9, true), (10, true), (11, true), (12, true)]), (7, [(9999, true), (0, true), (1, true), (2, true), (3, true), (3004, false), (5, false), (6, false), (7, true), (2999, false), (5, false), (4, false), (6, false), (7, true), (2999, false)]), (11, [(2007, false), (0, true), (1, true), (2, true), (3, true), (4, true), (5, true), (6, true), (7, true), (8, true), (9, true), (10, true), (11, true), (12, true), (13, true), (14, true), (15, false), (16, true), (17, false), (18, false), (1019, false), (19, true), (20, false)])]) rfl tbMk_ok hC (fun c st K _ h => h) (by kernel_rfl) [0] (X := LMk L (mkFrom L k) (mkTo L k))
          (S := fun x => ⟨[.c (.row 1), .c (.str k), .c (.ptr 2 0), .c (.ptr 3 0), .c (.ptr 4 0), .any, .any, .c (.int .i64 ((mkTo L k : Nat) : Int)), .c (.ptr 5 0), .c (.row 6), .c (.int .i64 (x.i : Int))] ++ List.replicate 62 .any, [.glob 0 1 64 (fun i => [.int .u32 (kOf i)]), .elems 63 2 n (prG L), .cells 31 [.row 1], .cells 9 [.str k], .cells 27 [.int .i64 0, .val (.slice none 0 0)], .cells 27 [.int .i64 (n : Int), .row 7], .row 24 32 n (lfG L), .orow 115 4 x.m (leafG true x.P)]⟩) (μ := fun x => mkTo L k - x.i) ⟨mkFrom L k, [], 0, Nat.le_refl _, mkFrom_le.1, rfl, by rw [Nat.sub_self]; rfl⟩ (by kernel_rfl) [0, 1, 2, 3, 4, 8, 7, 9] ?h0ZA ?rdZA
        case h0ZA =>
          refine ⟨rfl, by decide, ?_, ?_⟩ <;> repeat' (first | exact trivial | exact hF | exact hT | exact congrArg (CV.int .i64) hF | exact congrArg (CV.int .i64) hT | exact hW | exact rfl | apply And.intro | exact (fun _ _ _ _ => Cell.le_refl _) | (intro i hi; rfl) | (intro i hi; exact absurd hi (Nat.not_lt_zero _)))
        case rdZA =>
          rintro ⟨i, P, m, h0, h1, hmm, hP⟩
          unfold sGood sSea sSums sWay
          generalize hg0 : (List.length : List PP → Nat) = g0
          generalize hg1 : (List.length : List (Nat → Int) → Nat) = g1
          generalize hL : lft Tryd.prog _ = L
          try dsimp only
          try unfold prG
          try unfold leafG
          generalize ho0 : @prK = zo0, ho1 : @prV = zo1, ho2 : @prL = zo2, ho3 : @ltB = zo3, ho4 : @findI = zo4, ho5 : @findB = zo5, ho6 : @prPre = zo6, ho7 : @goodL = zo7, ho8 : @kOf = zo8, ho9 : @lfG = zo9, ho10 : @sumsPre = zo10, ho11 : @lK = zo11, ho12 : @lV = zo12, ho13 : @lI = zo13, ho14 : @lP = zo14, ho15 : @lN = zo15, ho16 : @pG = zo16, ho17 : @mkLeaf = zo17, ho18 : @mkL = zo18, ho19 : @mkC = zo19, ho20 : @mkFrom = zo20, ho21 : @mkTo = zo21, ho22 : @wayG = zo22, ho23 : @hashesG = zo23, ho24 : @wayPre0 = zo24, ho25 : @mkPre = zo25, ho26 : @lenL = zo26
          generalize hA : Arith.std = A
          cbv
          subst hA hg0 hg1 hL ho0 ho1 ho2 ho3 ho4 ho5 ho6 ho7 ho8 ho9 ho10 ho11 ho12 ho13 ho14 ho15 ho16 ho17 ho18 ho19 ho20 ho21 ho22 ho23 ho24 ho25 ho26
          refine Ife.mk (fun h => ?_) (fun h => ?_)
          · have h : (i : Int) < ((mkTo L k : Nat) : Int) := of_decide_eq_true (p := (i : Int) < ((mkTo L k : Nat) : Int)) h
            have hib : i < mkTo L k := Int.ofNat_lt.mp h
            have q1 : 0 ≤ (i : Int) ∧ (i : Int) < (n : Int) := by omega
            have q2 : (i : Int).toNat < n := by omega
            have hml : m ≤ n := by
              have := congrArg List.length hP
              rw [List.length_map, List.length_range'] at this
              omega
            refine Need.mk q1 fun _ => Need.mk q2 fun _ => Need.mk q1 fun _ => Need.mk q2 fun _ => ?_
            refine Need.mk ⟨ksAt_self, rfl, rfl, lfG_hash L n, by omega⟩ fun _ => ?_
            refine Need.mk ⟨show m + 1 ≤ maxLen ∧ (m + 1) * 64 ≤ 140737488355328 from ⟨by unfold maxLen; omega, by omega⟩, trivial⟩ fun _ => ?_
            refine Need.mk (by show fitStd .i64 ((i : Int) + 1); unfold fitStd; omega) fun _ => ?_
            have hW := leafG_way (L := L) (i := i) hmm (by omega)
            rw [hL] at hW
            refine ⟨⟨i + 1, P ++ [mkLeaf L i], m + 1, by omega, by omega, by rw [List.length_append, hmm]; rfl, lmk_next h0 hP⟩, [0, 1, 2, 3, 4, 5, 6, 11], (by show mkTo L k - (i + 1) < mkTo L k - i; omega), ?_⟩
            refine ⟨rfl, by decide, by repeat' (first | exact trivial | exact hF | exact hT | exact congrArg (CV.int .i64) hF | exact congrArg (CV.int .i64) hT | exact hW | exact rfl | apply And.intro | exact (fun _ _ _ _ => Cell.le_refl _) | (intro i hi; rfl) | (intro i hi; exact absurd hi (Nat.not_lt_zero _))), ?_⟩
            repeat' (first | exact trivial | exact hF | exact hT | exact congrArg (CV.int .i64) hF | exact congrArg (CV.int .i64) hT | exact hW | exact rfl | apply And.intro | exact (fun _ _ _ _ => Cell.le_refl _) | (intro i hi; rfl) | (intro i hi; exact absurd hi (Nat.not_lt_zero _)))
          · have h : ¬ (i : Int) < ((mkTo L k : Nat) : Int) := of_decide_eq_false (p := (i : Int) < ((mkTo L k : Nat) : Int)) h
            have ei : i = mkTo L k := by omega
            have hPm : P = mkL L k := by rw [hP, ei]; exact eM.symm
            rw [eC, ← hPm]
            refine ⟨[7], [0, 1, 7], ⟨?fzZA, rfl, (by repeat' (first | exact trivial | exact rfl | apply And.intro | exact (fun _ _ _ _ => Cell.le_refl _) | (intro i hi; rfl) | (intro i hi; exact absurd hi (Nat.not_lt_zero _)))), (by show List.Nodup []; exact List.nodup_nil), rfl, ?hhZA⟩⟩
            case fzZA =>
              refine ⟨fun i j hi hj => ?_, trivial⟩
              rcases four hj with rfl | rfl | rfl | rfl
              · trivial
              · trivial
              · trivial
              · exact rfl
            case hhZA =>
              repeat' (first | exact trivial | exact rfl | apply And.intro)
              · exact hmm.symm
              · exact fun _ _ _ _ => Cell.le_refl _
      · refine Need.mk hSm fun _ => ?_
        refine Runs.nilCellE 6 1 (.orow 115 4 0 (leafG true [])) rfl rfl rfl ?_
        show Runs Tryd.prog 2 (.loop _) _ _
        refine loop_ruleR (N := env (lft Tryd.prog 2) 0 .std tbMk [(18, appFn [] [(63, 2)] sGood), (83, appFn [] [] sSea), (79, appFn [0] [(63, 2)] sSums), (85, appFn [0] [(24, 32)] sWay)] [(4, [(0, true), (1, true), (2, true), (3, true), (4, true), (5, true), (6, true), (7, true), (8, true), (9, true)]), (5, [(0, true), (1, true), (2, true), (3, true), (4, true), (5, true), (6, true), (7, true), (8, true), (9, true), (10, true), (11, true), (12, true)]), (7, [(9999, true), (0, true), (1, true), (2, true), (3, true), (3004, false), (5, false), (6, false), (7, true), (2999, false), (5, false), (4, false), (6, false), (7, true), (2999, false)]), (11, [(2007, false), (0, true), (1, true), (2, true), (3, true), (4, true), (5, true), (6, true), (7, true), (8, true), (9, true), (10, true), (11, true), (12, true), (13, true), (14, true), (15, false), (16, true), (17, false), (18, false), (1019, false), (19, true), (20, false)])]) rfl tbMk_ok hC (fun c st K _ h => h) (by kernel_rfl) [0] (X := LMk L (mkFrom L k) (mkTo L k))
          (S := fun x => ⟨[.c (.row 1), .c (.str k), .c (.ptr 2 0), .c (.ptr 3 0), .c (.ptr 4 0), .any, .any, .c (.int .i64 ((mkTo L k : Nat) : Int)), .c (.ptr 5 0), .c (.row 6), .c (.int .i64 (x.i : Int))] ++ List.replicate 62 .any, [.glob 0 1 64 (fun i => [.int .u32 (kOf i)]), .elems 63 2 n (prG L), .cells 31 [.row 1], .cells 9 [.str k], .cells 27 [.int .i64 0, .val (.slice none 0 0)], .cells 27 [.int .i64 (n : Int), .row 7], .row 24 32 n (lfG L), .orow 115 4 x.m (leafG true x.P)]⟩) (μ := fun x => mkTo L k - x.i) ⟨mkFrom L k, [], 0, Nat.le_refl _, mkFrom_le.1, rfl, by rw [Nat.sub_self]; rfl⟩ (by kernel_rfl) [0, 1, 2, 3, 4, 6, 8, 9] ?h0ZB ?rdZB
        case h0ZB =>
          refine ⟨rfl, by decide, ?_, ?_⟩ <;> repeat' (first | exact trivial | exact hF | exact hT | exact congrArg (CV.int .i64) hF | exact congrArg (CV.int .i64) hT | exact hW | exact rfl | apply And.intro | exact (fun _ _ _ _ => Cell.le_refl _) | (intro i hi; rfl) | (intro i hi; exact absurd hi (Nat.not_lt_zero _)))
        case rdZB =>
          rintro ⟨i, P, m, h0, h1, hmm, hP⟩
          unfold sGood sSea sSums sWay
          generalize hg0 : (List.length : List PP → Nat) = g0
          generalize hg1 : (List.length : List (Nat → Int) → Nat) = g1
          generalize hL : lft Tryd.prog _ = L
          try dsimp only
          try unfold prG
          try unfold leafG
          generalize ho0 : @prK = zo0, ho1 : @prV = zo1, ho2 : @prL = zo2, ho3 : @ltB = zo3, ho4 : @findI = zo4, ho5 : @findB = zo5, ho6 : @prPre = zo6, ho7 : @goodL = zo7, ho8 : @kOf = zo8, ho9 : @lfG = zo9, ho10 : @sumsPre = zo10, ho11 : @lK = zo11, ho12 : @lV = zo12, ho13 : @lI = zo13, ho14 : @lP = zo14, ho15 : @lN = zo15, ho16 : @pG = zo16, ho17 : @mkLeaf = zo17, ho18 : @mkL = zo18, ho19 : @mkC = zo19, ho20 : @mkFrom = zo20, ho21 : @mkTo = zo21, ho22 : @wayG = zo22, ho23 : @hashesG = zo23, ho24 : @wayPre0 = zo24, ho25 : @mkPre = zo25, ho26 : @lenL = zo26
          generalize hA : Arith.std = A
          cbv
          subst hA hg0 hg1 hL ho0 ho1 ho2 ho3 ho4 ho5 ho6 ho7 ho8 ho9 ho10 ho11 ho12 ho13 ho14 ho15 ho16 ho17 ho18 ho19 ho20 ho21 ho22 ho23 ho24 ho25 ho26
          refine Ife.mk (fun h => ?_) (fun h => ?_)
          · have h : (i : Int) < ((mkTo L k : Nat) : Int) := of_decide_eq_true (p := (i : Int) < ((mkTo L k : Nat) : Int)) h
            have hib : i < mkTo L k := Int.ofNat_lt.mp h
            have q1 : 0 ≤ (i : Int) ∧ (i : Int) < (n : Int) := by omega
            have q2 : (i : Int).toNat < n := by omega
            have hml : m ≤ n := by
              have := congrArg List.length hP
              rw [List.length_map, List.length_range'] at this
              omega
            refine Need.mk q1 fun _ => Need.mk q2 fun _ => Need.mk q1 fun _ => Need.mk q2 fun _ => ?_
            refine Need.mk ⟨ksAt_self, rfl, rfl, lfG_hash L n, by omega⟩ fun _ => ?_
            refine Need.mk ⟨show m + 1 ≤ maxLen ∧ (m + 1) * 64 ≤ 140737488355328 from ⟨by unfold maxLen; omega, by omega⟩, trivial⟩ fun _ => ?_
            refine Need.mk (by show fitStd .i64 ((i : Int) + 1); unfold fitStd; omega) fun _ => ?_
            have hW := leafG_way (L := L) (i := i) hmm (by omega)
            rw [hL] at hW
            refine ⟨⟨i + 1, P ++ [mkLeaf L i], m + 1, by omega, by omega, by rw [List.length_append, hmm]; rfl, lmk_next h0 hP⟩, [0, 1, 2, 3, 4, 5, 6, 11], (by show mkTo L k - (i + 1) < mkTo L k - i; omega), ?_⟩
            refine ⟨rfl, by decide, by repeat' (first | exact trivial | exact hF | exact hT | exact congrArg (CV.int .i64) hF | exact congrArg (CV.int .i64) hT | exact hW | exact rfl | apply And.intro | exact (fun _ _ _ _ => Cell.le_refl _) | (intro i hi; rfl) | (intro i hi; exact absurd hi (Nat.not_lt_zero _))), ?_⟩
            repeat' (first | exact trivial | exact hF | exact hT | exact congrArg (CV.int .i64) hF | exact congrArg (CV.int .i64) hT | exact hW | exact rfl | apply And.intro | exact (fun _ _ _ _ => Cell.le_refl _) | (intro i hi; rfl) | (intro i hi; exact absurd hi (Nat.not_lt_zero _)))
          · have h : ¬ (i : Int) < ((mkTo L k : Nat) : Int) := of_decide_eq_false (p := (i : Int) < ((mkTo L k : Nat) : Int)) h
            have ei : i = mkTo L k := by omega
            have hPm : P = mkL L k := by rw [hP, ei]; exact eM.symm
            rw [eC, ← hPm]
            refine ⟨[7], [0, 1, 7], ⟨?fzZB, rfl, (by repeat' (first | exact trivial | exact rfl | apply And.intro | exact (fun _ _ _ _ => Cell.le_refl _) | (intro i hi; rfl) | (intro i hi; exact absurd hi (Nat.not_lt_zero _)))), (by show List.Nodup []; exact List.nodup_nil), rfl, ?hhZB⟩⟩
            case fzZB =>
              refine ⟨fun i j hi hj => ?_, trivial⟩
              rcases four hj with rfl | rfl | rfl | rfl
              · trivial
              · trivial
              · trivial
              · exact rfl
            case hhZB =>
              repeat' (first | exact trivial | exact rfl | apply And.intro)
              · exact hmm.symm
              · exact fun _ _ _ _ => Cell.le_refl _

end Go.Proofs.YthomoliklfmnkaaDoor.Vx
end

section
/- The document's sums of pairs and proofs of keys, by the walker. -/
namespace Go.Proofs.YthomoliklfmnkaaDoor.Vx
open Sha
open Go.RowKit
set_option linter.unusedVariables false
set_option linter.unusedSimpArgs false










end Go.Proofs.YthomoliklfmnkaaDoor.Vx
end

section
/- The texts whose sums are taken above leaves, by the walker. -/
namespace Go.Proofs.YthomoliklfmnkaaDoor.Vx
open Sha
open Go.RowKit
set_option linter.unusedVariables false
set_option linter.unusedSimpArgs false
/-- Texts, as cells. -/
def stG (T : List (List UInt8)) (i : Nat) : List CV := [.str (T.getD i [])]
theorem stG_push (T : List (List UInt8)) (t : List UInt8) (i : Nat) (h : i < T.length + 1) : pushG T.length (stG T) [.str t] i = stG (T ++ [t]) i := by
  unfold pushG stG
  by_cases hi : i < T.length
  · rw [show Nat.blt i T.length = true by rw [Nat.blt_eq]; exact hi]
    simp [List.getD, List.getElem?_append_left hi]
  · rw [show Nat.blt i T.length = false by rw [Bool.eq_false_iff]; intro h2; rw [Nat.blt_eq] at h2; exact hi h2]
    obtain rfl : i = T.length := by omega
    simp [List.getD]
theorem stG_cat (A B : List (List UInt8)) (i : Nat) : catG A.length (stG A) (stG B) i = stG (A ++ B) i := by
  unfold catG stG
  by_cases hi : i < A.length
  · rw [show Nat.blt i A.length = true by rw [Nat.blt_eq]; exact hi]
    simp [List.getD, List.getElem?_append_left hi]
  · rw [show Nat.blt i A.length = false by rw [Bool.eq_false_iff]; intro h2; rw [Nat.blt_eq] at h2; exact hi h2]
    simp [List.getD, List.getElem?_append_right (show A.length ≤ i by omega)]
def tpT (gets : Nat → List CV) (m : Nat) : List (List UInt8) := topT (fun i => hOf (gets i)) 0 m
def tpN (gets : Nat → List CV) (m : Nat) : Nat := (tpT gets m).length
theorem topT_len (h : Nat → Nat → Int) : ∀ (n lo : Nat), (topT h lo n).length ≤ n - 1 := fun n => by
  induction n using Nat.strongRecOn with
  | ind n ih =>
    intro lo
    by_cases hn : n < 2 ∨ 1073741824 < n
    · rw [topT, dif_pos hn]; exact Nat.zero_le _
    · have hh := hf_lt (n := (n : Int)) (by omega) (by omega)
      rw [topT_more hn, List.length_append, List.length_append]
      have h1 := ih (hf n).toNat (by omega) lo
      have h2 := ih (n - (hf n).toNat) (by omega) (lo + (hf n).toNat)
      simp only [List.length_cons, List.length_nil]
      omega
theorem topT_shift (h : Nat → Nat → Int) (a : Nat) : ∀ (n lo : Nat), topT (fun i => h (a + i)) lo n = topT h (a + lo) n := fun n => by
  induction n using Nat.strongRecOn with
  | ind n ih =>
    intro lo
    by_cases hn : n < 2 ∨ 1073741824 < n
    · rw [topT, dif_pos hn, topT, dif_pos hn]
    · have hh := hf_lt (n := (n : Int)) (by omega) (by omega)
      rw [topT_more hn, topT_more hn, ih _ (by omega), ih _ (by omega), topR_shift, topR_shift, Nat.add_assoc]
theorem topT_congr {h h' : Nat → Nat → Int} : ∀ (n lo : Nat), (∀ i, lo ≤ i → i < lo + n → h i = h' i) → topT h lo n = topT h' lo n := fun n => by
  induction n using Nat.strongRecOn with
  | ind n ih =>
    intro lo hc
    by_cases hn : n < 2 ∨ 1073741824 < n
    · rw [topT, dif_pos hn, topT, dif_pos hn]
    · have hh := hf_lt (n := (n : Int)) (by omega) (by omega)
      rw [topT_more hn, topT_more hn, ih _ (by omega) _ fun i a b => hc i a (by omega), ih _ (by omega) _ fun i a b => hc i (by omega) (by omega), topR_congr _ _ fun i a b => hc i a (by omega), topR_congr (n - (hf n).toNat) _ fun i a b => hc i (by omega) (by omega)]
theorem tpT_cut {m : Nat} {gets : Nat → List CV} (hst : HashesAt m gets) (a k : Nat) (hk : a + k ≤ m) : tpT (fun i => hashC (hOf (gets (a + i)))) k = topT (fun i => hOf (gets i)) a k := by
  unfold tpT
  rw [topT_congr (h' := fun i => hOf (gets (a + i))) k 0 fun i _ hi => hOf_idem (hst (a + i) (by omega))]
  exact topT_shift (fun i => hOf (gets i)) a k 0
def rtpPre (N : Nat) (ty one m : Nat) (gets : Nat → List CV) : Prop := ty = 24 ∧ one = 32 ∧ HashesAt m gets ∧ m < N ∧ m ≤ 1000
def sTpTN (N : Nat) : SpecF
  | [.c (.row 0)], [.elems ty one m gets] => some (rtpPre N ty one m gets, .tup [(some (.row 1), []), (none, hashC (topG gets m))], [.dead, .row 9 1 (tpN gets m) (stG (tpT gets m))])
  | _, _ => none
def tbFg : Tbl where
  T :=
    (3, ⟨1, false, [.int .i64 (0)], .int .i64, 8⟩) ::
    (4, ⟨1, false, [.ff], .bool, 1⟩) ::
    (9, ⟨1, false, [.str []], .str, 16⟩) ::
    (49, ⟨1, false, [.val (.slice none 0 0)], .slice 9, 24⟩) ::
    (5, ⟨1, false, [.int .u8 (0)], .int .u8, 1⟩) ::
    (24, ⟨32, true, [.int .u8 (0), .int .u8 (0), .int .u8 (0), .int .u8 (0), .int .u8 (0), .int .u8 (0), .int .u8 (0), .int .u8 (0), .int .u8 (0), .int .u8 (0), .int .u8 (0), .int .u8 (0), .int .u8 (0), .int .u8 (0), .int .u8 (0), .int .u8 (0), .int .u8 (0), .int .u8 (0), .int .u8 (0), .int .u8 (0), .int .u8 (0), .int .u8 (0), .int .u8 (0), .int .u8 (0), .int .u8 (0), .int .u8 (0), .int .u8 (0), .int .u8 (0), .int .u8 (0), .int .u8 (0), .int .u8 (0), .int .u8 (0)], .array 32 5, 32⟩) ::
    (113, ⟨1, false, [.val (.slice none 0 0)], .slice 24, 24⟩) ::
    (46, ⟨2, true, [.str [], .str []], .struct [(0, (1, false)), (1, (1, false))], 32⟩) ::
    (22, ⟨1, false, [.val (.slice none 0 0)], .slice 46, 24⟩) ::
    (115, ⟨4, true, [.str [], .str [], .int .i64 (0), .val (.slice none 0 0)], .struct [(0, (1, false)), (1, (1, false)), (2, (1, false)), (3, (1, false))], 64⟩) ::
    (25, ⟨1, false, [.val (.slice none 0 0)], .slice 115, 24⟩) ::
    (27, ⟨2, true, [.int .i64 (0), .val (.slice none 0 0)], .struct [(0, (1, false)), (1, (1, false))], 32⟩) ::
    []
  F :=
    (24, [0, 0, 0, 0, 0, 0, 0, 0, 0, 0, 0, 0, 0, 0, 0, 0, 0, 0, 0, 0, 0, 0, 0, 0, 0, 0, 0, 0, 0, 0, 0, 0]) ::
    []

theorem tbFg_ok : tbFg.Ok Tryd.prog where
  T :=
    TblOk.cons (by kernel_rfl) <|
    TblOk.cons (by kernel_rfl) <|
    TblOk.cons (by kernel_rfl) <|
    TblOk.cons (by kernel_rfl) <|
    TblOk.cons (by kernel_rfl) <|
    TblOk.cons (by kernel_rfl) <|
    TblOk.cons (by kernel_rfl) <|
    TblOk.cons (by kernel_rfl) <|
    TblOk.cons (by kernel_rfl) <|
    TblOk.cons (by kernel_rfl) <|
    TblOk.cons (by kernel_rfl) <|
    TblOk.cons (by kernel_rfl) <|
    TblOk.nil _
  F :=
    FlatsOk.cons (FlatOk.of (D := .array 32 5) 6 (by decide) (by kernel_rfl) (by kernel_rfl) rfl (by kernel_rfl)) <|
    FlatsOk.nil _

set_option maxRecDepth 100000 in
set_option maxHeartbeats 8000000 in
theorem tpTStep (N : Nat) (ih : Fn Tryd.prog 95 [] [(24, 32)] (sTpTN N)) : Fn Tryd.prog 95 [] [(24, 32)] (sTpTN (N + 1)) := by
  have hC : CtsOk Tryd.prog [(124, appPure sRHalf), (95, appFn [] [(24, 32)] (sTpTN N)), (96, appPure sText), (92, appPure sRSum)] := CtsOk.cons (Pure.ct rhalfP) <| CtsOk.cons (Fn.ct ih) <| CtsOk.cons (Pure.ct rtextP) <| CtsOk.cons (Pure.ct rsumP) <| CtsOk.nil _
  refine Fn.of (E := tbFg) [] 0 [(4, [(2001, false), (0, true), (1, true), (2, true), (3, true), (4, false)]), (8, [(0, true), (3, true), (1, false), (2, true), (4, false), (5, true), (6, true)])] tbFg_ok hC (by kernel_rfl) Tryd.func95 rfl rfl rfl (by kernel_rfl) (by kernel_rfl) 1 9 1 ?_ ?_
  · intro args h pre r h' hs
    unfold sTpTN at hs
    split at hs
    · cases hs; exact ⟨rfl, rfl, Nat.le_of_ble_eq_true rfl⟩
    · cases hs
  · intro args h pre r h' hs hp
    unfold sTpTN at hs
    split at hs
    rotate_left
    · cases hs
    rename_i ty one m gets
    cases hs
    obtain ⟨rfl, rfl, hst, hlt, hm⟩ := hp
    refine ⟨[.elems 24 32 m (fun i => hashC (hOf (gets i)))], ⟨hst.same.1, trivial⟩, ?_⟩
    unfold sTpTN sText sRSum sRHalf
    generalize ho0 : @topG = zo0, ho1 : @sumI = zo1, ho2 : @hOf = zo2, ho3 : @HashC = zo3, ho4 : @u8s = zo4, ho5 : @hf = zo5, ho6 : @hashB = zo6, ho7 : @topT = zo7, ho8 : @tpT = zo8, ho9 : @tpN = zo9, ho10 : @rtpPre = zo10, ho11 : @rsumPre = zo11
    generalize hA : Arith.std = A
    cbv
    subst hA ho0 ho1 ho2 ho3 ho4 ho5 ho6 ho7 ho8 ho9 ho10 ho11
    have nz : ∀ k, k < 2 → tpT gets k = [] ∧ tpN gets k = 0 := fun k hk => by
      have e : tpT gets k = [] := by unfold tpT; rw [topT, dif_pos (Or.inl hk)]
      exact ⟨e, by unfold tpN; rw [e]; rfl⟩
    refine Ife.mk (fun h => ?_) (fun h => ?_)
    · have h : (m : Int) = 0 := of_decide_eq_true (p := (m : Int) = 0) h
      obtain rfl : m = 0 := by omega
      obtain ⟨z1, z2⟩ := nz 0 (by omega)
      rw [topG_zero, z1, z2]
      exact ⟨[0, 2], ⟨rfl, by repeat' (first | exact trivial | exact rfl | apply And.intro | exact (fun _ _ _ _ => Cell.le_refl _) | (intro i hi; rfl) | (intro i hi; exact absurd hi (Nat.not_lt_zero _))), (by show List.Nodup [2]; decide), rfl, by repeat' (first | exact trivial | exact rfl | apply And.intro | exact (fun _ _ _ _ => Cell.le_refl _) | (intro i hi; rfl) | (intro i hi; exact absurd hi (Nat.not_lt_zero _)))⟩⟩
    have h0 : ¬ (m : Int) = 0 := of_decide_eq_false (p := (m : Int) = 0) h
    refine Ife.mk (fun h => ?_) (fun h => ?_)
    · have h : (m : Int) = 1 := of_decide_eq_true (p := (m : Int) = 1) h
      obtain rfl : m = 1 := by omega
      obtain ⟨z1, z2⟩ := nz 1 (by omega)
      rw [topG_one, z1, z2]
      refine Need.mk (by show (0 : Int) ≤ 0 ∧ (0 : Int) < ((1 : Nat) : Int); decide) fun _ => Need.mk (by show (0 : Int).toNat < 1; decide) fun _ => ?_
      exact ⟨[0, 2], ⟨rfl, by repeat' (first | exact trivial | exact rfl | apply And.intro | exact (fun _ _ _ _ => Cell.le_refl _) | (intro i hi; rfl) | (intro i hi; exact absurd hi (Nat.not_lt_zero _))), (by show List.Nodup [2]; decide), rfl, by repeat' (first | exact trivial | exact rfl | apply And.intro | exact (fun _ _ _ _ => Cell.le_refl _) | (intro i hi; rfl) | (intro i hi; exact absurd hi (Nat.not_lt_zero _)))⟩⟩
    have h1 : ¬ (m : Int) = 1 := of_decide_eq_false (p := (m : Int) = 1) h
    have hh := hf_lt (n := (m : Int)) (by omega) (by omega)
    have e1 : topG (fun i => hashC (hOf (gets (0 + i)))) (hf (m : Int) - 0).toNat = topR (fun i => hOf (gets i)) 0 (hf (m : Int)).toNat := by
      rw [show (hf (m : Int) - 0).toNat = (hf (m : Int)).toNat by omega]
      exact topG_cut hst 0 _ (by omega)
    have e2 : topG (fun i => hashC (hOf (gets ((hf (m : Int)).toNat + i)))) ((m : Int) - hf (m : Int)).toNat = topR (fun i => hOf (gets i)) (hf (m : Int)).toNat (m - (hf (m : Int)).toNat) := by
      rw [show ((m : Int) - hf (m : Int)).toNat = m - (hf (m : Int)).toNat by omega]
      exact topG_cut hst _ _ (by omega)
    refine Need.mk trivial fun _ => Need.mk (by show (0 : Int) ≤ 0 ∧ 0 ≤ hf (m : Int) ∧ hf (m : Int) ≤ (m : Int); omega) fun _ => ?_
    refine Need.mk ⟨rfl, rfl, hst.cut 0 (hf (m : Int) - 0).toNat (by omega), (by show (hf (m : Int) - 0).toNat < N; omega), (by show (hf (m : Int) - 0).toNat ≤ 1000; omega)⟩ fun _ => ?_
    refine Need.mk (by show 0 ≤ hf (m : Int) ∧ hf (m : Int) ≤ (m : Int) ∧ (m : Int) ≤ (m : Int); omega) fun _ => ?_
    refine Need.mk ⟨rfl, rfl, hst.cut (hf (m : Int)).toNat ((m : Int) - hf (m : Int)).toNat (by omega), (by show ((m : Int) - hf (m : Int)).toNat < N; omega), (by show ((m : Int) - hf (m : Int)).toNat ≤ 1000; omega)⟩ fun _ => ?_
    have g1 : HashC (hashC (topG (fun i => hashC (hOf (gets (0 + i)))) (hf (m : Int) - 0).toNat)) := by rw [e1]; exact topG_hash hst 0 _ (by omega)
    have g2 : HashC (hashC (topG (fun i => hashC (hOf (gets ((hf (m : Int)).toNat + i)))) ((m : Int) - hf (m : Int)).toNat)) := by rw [e2]; exact topG_hash hst _ _ (by omega)
    refine Need.mk g1 fun _ => ?_
    have f1 : tpT (fun i => hashC (hOf (gets (0 + i)))) (hf (m : Int) - 0).toNat = topT (fun i => hOf (gets i)) 0 (hf (m : Int)).toNat := by
      rw [show (hf (m : Int) - 0).toNat = (hf (m : Int)).toNat by omega]
      exact tpT_cut hst 0 _ (by omega)
    have f2 : tpT (fun i => hashC (hOf (gets ((hf (m : Int)).toNat + i)))) ((m : Int) - hf (m : Int)).toNat = topT (fun i => hOf (gets i)) (hf (m : Int)).toNat (m - (hf (m : Int)).toNat) := by
      rw [show ((m : Int) - hf (m : Int)).toNat = m - (hf (m : Int)).toNat by omega]
      exact tpT_cut hst _ _ (by omega)
    refine Need.mk (by show (1 : Int) + 32 ≤ 9223372036854775807; decide) fun _ => Need.mk g2 fun _ => Need.mk (by show (33 : Int) + 32 ≤ 9223372036854775807; decide) fun _ => ?_
    simp only [Arith.std, Int.ofNat_eq_natCast, Int.toNat_natCast, Int.toNat_zero]
    have n1 : tpN (fun i => hashC (hOf (gets (0 + i)))) (hf (m : Int) - 0).toNat ≤ (hf (m : Int)).toNat - 1 := by unfold tpN; rw [f1]; exact topT_len _ _ _
    have n2 : tpN (fun i => hashC (hOf (gets ((hf (m : Int)).toNat + i)))) ((m : Int) - hf (m : Int)).toNat ≤ m - (hf (m : Int)).toNat - 1 := by unfold tpN; rw [f2]; exact topT_len _ _ _
    generalize eP : tpN (fun i => hashC (hOf (gets (0 + i)))) (hf (m : Int) - 0).toNat = P at n1 ⊢
    generalize eQ : tpN (fun i => hashC (hOf (gets ((hf (m : Int)).toNat + i)))) ((m : Int) - hf (m : Int)).toNat = Q at n2 ⊢
    have hML : maxLen = 9223372036854775807 := rfl
    refine Need.mk ⟨⟨by omega, by omega⟩, fun _ _ => rfl⟩ fun _ => ?_
    have hPQ := natM P Q
    refine Need.mk ⟨Nat.le_trans (Nat.le_of_eq (congrArg (· + 1) hPQ)) (by show P + Q + 1 ≤ _; omega), Nat.le_trans (Nat.le_of_eq (congrArg (fun x => (x + 1) * 16) hPQ)) (by show (P + Q + 1) * 16 ≤ _; omega)⟩ fun _ => Need.mk (by show 1 + 32 + 32 ≤ 140737488350000; decide) fun _ => ?_
    have hTT : tpT gets m = tpT (fun i => hashC (hOf (gets (0 + i)))) (hf (m : Int) - 0).toNat ++ tpT (fun i => hashC (hOf (gets ((hf (m : Int)).toNat + i)))) ((m : Int) - hf (m : Int)).toNat ++ [tNode (topR (fun i => hOf (gets i)) 0 (hf (m : Int)).toNat) (topR (fun i => hOf (gets i)) (hf (m : Int)).toNat (m - (hf (m : Int)).toNat))] := by
      rw [f1, f2]
      show topT (fun i => hOf (gets i)) 0 m = _
      rw [topT_more (by omega), Nat.zero_add]
    have hPl : (tpT (fun i => hashC (hOf (gets (0 + i)))) (hf (m : Int) - 0).toNat).length = P := eP
    have hQl : (tpT (fun i => hashC (hOf (gets ((hf (m : Int)).toNat + i)))) ((m : Int) - hf (m : Int)).toNat).length = Q := eQ
    have hNn : tpN gets m = P + Q + 1 := by
      show (tpT gets m).length = _
      rw [hTT, List.length_append, List.length_append, hPl, hQl]; rfl
    have hcat : catG P (stG (tpT (fun i => hashC (hOf (gets (0 + i)))) (hf (m : Int) - 0).toNat)) (stG (tpT (fun i => hashC (hOf (gets ((hf (m : Int)).toNat + i)))) ((m : Int) - hf (m : Int)).toNat)) = stG (tpT (fun i => hashC (hOf (gets (0 + i)))) (hf (m : Int) - 0).toNat ++ tpT (fun i => hashC (hOf (gets ((hf (m : Int)).toNat + i)))) ((m : Int) - hf (m : Int)).toNat) := funext fun i => by
      rw [← hPl]; exact stG_cat _ _ i
    have hS : hashC (sumI ([1] ++ u8s (hashC (topG (fun i => hashC (hOf (gets (0 + i)))) (hf (m : Int) - 0).toNat)) ++ u8s (hashC (topG (fun i => hashC (hOf (gets ((hf (m : Int)).toNat + i)))) ((m : Int) - hf (m : Int)).toNat)))) = hashC (topG gets m) := by
      rw [u8s_hash, u8s_hash, e1, e2, topG_two (by omega) (by omega)]
      rfl
    have hO1 := (congrArg Nat.succ hPQ).trans hNn.symm
    have hO2 : ∀ i, i < tpN gets m → pushG (match (generalizing := false) P, Q with
        | a, Nat.zero => a
        | a, Nat.succ b => Nat.succ (Nat.add a b)) (catG P (stG (tpT (fun i => hashC (hOf (gets (0 + i)))) (hf (m : Int) - 0).toNat)) (stG (tpT (fun i => hashC (hOf (gets ((hf (m : Int)).toNat + i)))) ((m : Int) - hf (m : Int)).toNat))) [.str ([1] ++ u8s (hashC (topG (fun i => hashC (hOf (gets (0 + i)))) (hf (m : Int) - 0).toNat)) ++ u8s (hashC (topG (fun i => hashC (hOf (gets ((hf (m : Int)).toNat + i)))) ((m : Int) - hf (m : Int)).toNat)))] i = stG (tpT gets m) i := fun i hi => by
      refine (congrArg (fun x => pushG x _ _ i) (natM P Q)).trans ?_
      show pushG (P + Q) _ _ i = _
      rw [hcat, u8s_hash, u8s_hash, e1, e2, hTT]
      have hlen : (tpT (fun i => hashC (hOf (gets (0 + i)))) (hf (m : Int) - 0).toNat ++ tpT (fun i => hashC (hOf (gets ((hf (m : Int)).toNat + i)))) ((m : Int) - hf (m : Int)).toNat).length = P + Q := by rw [List.length_append, hPl, hQl]
      rw [← hlen]
      exact stG_push _ _ i (by rw [hlen]; omega)
    rw [← hS]
    refine ⟨[0, 10], ⟨rfl, (by repeat' (first | exact trivial | exact rfl | apply And.intro | exact (fun _ _ _ _ => Cell.le_refl _) | (intro i hi; rfl) | (intro i hi; exact absurd hi (Nat.not_lt_zero _)))), (by show List.Nodup [10]; decide), rfl, ?_⟩⟩
    repeat' (first | exact trivial | exact hO1 | exact hO2 | exact rfl | apply And.intro | exact (fun _ _ _ _ => Cell.le_refl _) | (intro i hi; exact absurd hi (Nat.not_lt_zero _)))

theorem tpTAll (N : Nat) : Fn Tryd.prog 95 [] [(24, 32)] (sTpTN N) := by
  induction N with
  | zero =>
    refine Fn.plain (by kernel_rfl) (fun args h pre res h' hs => ?_) fun args h pre res h' hs hp ρ W us rel hus => ?_
    · unfold sTpTN at hs
      split at hs
      · cases hs; exact ⟨rfl, Nat.le_of_ble_eq_true rfl⟩
      · cases hs
    · unfold sTpTN at hs
      split at hs
      · cases hs; exact absurd hp.2.2.2.1 (Nat.not_lt_zero _)
      · cases hs
  | succ N ih => exact tpTStep N ih
def rtpPre0 (ty one m : Nat) (gets : Nat → List CV) : Prop := ty = 24 ∧ one = 32 ∧ HashesAt m gets ∧ m ≤ 1000
def sTpT : SpecF
  | [.c (.row 0)], [.elems ty one m gets] => some (rtpPre0 ty one m gets, .tup [(some (.row 1), []), (none, hashC (topG gets m))], [.dead, .row 9 1 (tpN gets m) (stG (tpT gets m))])
  | _, _ => none

theorem tpTP : Fn Tryd.prog 95 [] [(24, 32)] sTpT := by
  refine Fn.plain (by kernel_rfl) (fun args h pre res h' hs => ?_) fun args h pre res h' hs hp ρ W us rel hus => ?_
  · unfold sTpT at hs
    split at hs
    · cases hs; exact ⟨rfl, Nat.le_of_ble_eq_true rfl⟩
    · cases hs
  · unfold sTpT at hs
    split at hs
    rotate_left
    · cases hs
    rename_i ty one m gets
    cases hs
    obtain ⟨h1, h2, h3, h4⟩ := hp
    exact (tpTAll (m + 1)).run _ _ _ _ _ rfl ⟨h1, h2, h3, Nat.lt_succ_self m, h4⟩ ρ W us rel hus
end Go.Proofs.YthomoliklfmnkaaDoor.Vx
end
