/- The document's Make, by the walker. -/
import Derived.Test.YthomoliklfmnkaaDoorM37
import Derived.Test.YthomoliklfmnkaaDoorVxLit
import Derived.Test.YthomoliklfmnkaaDoorM36
import Derived.Test.YthomoliklfmnkaaDoorM11
section
namespace Go.Proofs.YthomoliklfmnkaaDoor.Vx
open Sha
open Go.RowKit
set_option linter.unusedVariables false
set_option linter.unusedSimpArgs false
def lfCP (zp0 : type_of% @hashesG) (zp1 : type_of% @lfG) (zp2 : type_of% @prK) (zp3 : type_of% @prV) (zp4 : type_of% @wayG) (L : List PP) (n : Nat) (i : Int) : List Cell := [.pl (.str (zp2 L i.toNat)), .pl (.str (zp3 L i.toNat)), .pl (.int .i64 i), .es true 24 32 (zp4 (zp1 L) n i).length (zp0 (zp4 (zp1 L) n i))]
@[reducible] def lfC := lfCP hashesG lfG prK prV wayG
theorem leafG_wayI {L : List PP} {n : Nat} (hL : L.length = n) {i : Int} (h0 : 0 ≤ i) (hi : i < (n : Int)) {P : List PLeaf} {m : Nat} (hn : P.length = m) : ∀ a j, a < m + 1 → j < 4 → Cell.le (pushC m (leafG true P) (lfC L n i) a j) (leafG true (P ++ [mkLeaf L i.toNat]) a j) := by
  obtain ⟨k, rfl⟩ : ∃ k : Nat, i = (k : Int) := ⟨i.toNat, by omega⟩
  have := leafG_way (L := L) (i := k) hn (by omega)
  rw [hL] at this
  exact this
theorem leafG_one {L : List PP} {n : Nat} (hL : L.length = n) {i : Int} (h0 : 0 ≤ i) (hi : i < (n : Int)) : ∀ j, j < 4 → Cell.le ((lfC L n i).getD j (.pl .tt)) (leafG true [mkLeaf L i.toNat] 0 j) := fun j hj => leafG_wayI hL h0 hi (P := []) rfl 0 j (by omega) hj
theorem leafG_p1 {L : List PP} {n : Nat} (hL : L.length = n) {i : Int} (h0 : 0 ≤ i) (hi : i < (n : Int)) {g : Nat → Nat → Cell} : ∀ a j, a < 1 → j < 4 → Cell.le (pushC 0 g (lfC L n i) a j) (leafG true [mkLeaf L i.toNat] a j) := fun a j ha hj => by
  obtain rfl : a = 0 := by omega
  exact leafG_one hL h0 hi j hj
theorem leafG_p2 {L : List PP} {n : Nat} (hL : L.length = n) {i i' : Int} (h0 : 0 ≤ i) (hi : i < (n : Int)) (h0' : 0 ≤ i') (hi' : i' < (n : Int)) {g : Nat → Nat → Cell} : ∀ a j, a < 2 → j < 4 → Cell.le (pushC 1 (pushC 0 g (lfC L n i)) (lfC L n i') a j) (leafG true [mkLeaf L i.toNat, mkLeaf L i'.toNat] a j) := fun a j ha hj => by
  rcases (show a = 0 ∨ a = 1 by omega) with rfl | rfl
  · have := leafG_one hL h0 hi j hj
    rw [← leafG_left (x := mkLeaf L i'.toNat) (by simp)] at this
    exact this
  · exact leafG_wayI hL h0' hi' (P := [mkLeaf L i.toNat]) rfl 1 j (by omega) hj
theorem lfC_new {L : List PP} {n : Nat} {i : Int} : ∀ j, j < 4 → ((lfC L n i).getD j (.pl .tt)).isNew := fun j hj => by
  rcases four hj with rfl | rfl | rfl | rfl
  · trivial
  · trivial
  · trivial
  · exact rfl
def sRMake : SpecF
  | [.c (.row 0), .c (.str k)], [.elems ty one n get] => some (prPreR ty one n get, .agg [.int .i64 (mkC (prL n get)), .row 1], [.dead, .data true 115 4 (lenL (mkL (prL n get) k)) (leafG true (mkL (prL n get) k))])
  | _, _ => none

set_option maxRecDepth 100000 in
set_option maxHeartbeats 32000000 in
theorem rmakeP : Fn Tryd.prog 23 [] [(46, 2)] sRMake := by
  have hC : CtsOk Tryd.prog [(17, appFn [] [(46, 2)] sRGood), (82, appFn [] [(46, 2)] sRLvs), (86, appFn [] [(46, 2), (24, 32)] sRLAt)] := CtsOk.cons (Fn.ct rgoodP) <| CtsOk.cons (Fn.ct rlvsP) <| CtsOk.cons (Fn.ct rlAtP) <| CtsOk.nil _
  refine Fn.ofZL (E := tbRf) [] 0 [(11, [(0, true), (1, true), (2, true), (3, true), (4, true), (5, true), (6, false), (7, false), (8, false), (1009, false), (9, true), (10, false)]), (13, [(2009, false), (0, true), (1, true), (2, true), (3, true), (4, true), (5, false), (6, false), (7, false), (1008, false), (8, true), (9, false)])] tbRf_ok hC (by kernel_rfl) Tryd.func23 rfl rfl rfl (by kernel_rfl) (by kernel_rfl) 1 (.data true 115 4 0 fun _ _ => .pl .tt) rfl ?_ ?_
  · intro args h pre r h' hs
    unfold sRMake at hs
    split at hs
    · cases hs; exact ⟨rfl, rfl, Nat.le_of_ble_eq_true rfl⟩
    · cases hs
  · intro args h pre r h' hs hp
    unfold sRMake at hs
    split at hs
    rotate_left
    · cases hs
    rename_i k ty one n get
    cases hs
    obtain ⟨rfl, rfl, hst, hm⟩ := hp
    refine ⟨[.elems 46 2 n (prG (prL n get))], ⟨⟨rfl, rfl, rfl, fun i hi => hst.eq hi⟩, trivial⟩, ?_⟩
    have hL : (prL n get).length = n := prL_len
    have ePR : prL n (prG (prL n get)) = prL n get := by
      have := prL_prG (prL n get)
      rwa [hL] at this
    generalize prL n get = L at hL ePR ⊢
    unfold sRGood sRLvs sRLAt
    generalize hg0 : (List.length : List PP → Nat) = g0
    generalize hg1 : (List.length : List (Nat → Int) → Nat) = g1
    generalize hL : lft Tryd.prog _ = L
    try unfold prG
    try unfold leafG
    try unfold lfC
    generalize ho0 : @prK = zo0, ho1 : @prV = zo1, ho2 : @prL = zo2, ho3 : @ltB = zo3, ho4 : @findI = zo4, ho5 : @findB = zo5, ho6 : @goodL = zo6, ho7 : @prPreR = zo7, ho8 : @lfG = zo8, ho9 : @lK = zo9, ho10 : @lV = zo10, ho11 : @lI = zo11, ho12 : @lP = zo12, ho13 : @lN = zo13, ho14 : @pG = zo14, ho15 : @mkLeaf = zo15, ho16 : @mkL = zo16, ho17 : @mkC = zo17, ho18 : @wayG = zo18, ho19 : @hashesG = zo19, ho20 : @lenL = zo20, ho21 : @rlvPre = zo21, ho22 : @rlaPre = zo22
    generalize hA : Arith.std = A
    cbv
    subst hA hg0 hg1 hL ho0 ho1 ho2 ho3 ho4 ho5 ho6 ho7 ho8 ho9 ho10 ho11 ho12 ho13 ho14 ho15 ho16 ho17 ho18 ho19 ho20 ho21 ho22
    have hle := findI_le (L := L) (k := k)
    have hPr : prPreR 46 2 n (prG L) := ⟨rfl, rfl, prAt_prG n L, hm⟩
    refine Need.mk hPr fun _ => ?_
    simp only [ePR]
    refine Ife.mk (fun h => ?_) (fun h => ?_)
    · have h : goodL L = false := by simpa using (show (!goodL L) = true from h)
      have e1 : mkL L k = [] := by unfold mkL; rw [if_neg (by rw [h]; simp)]
      have e2 : mkC L = 0 := by unfold mkC; rw [if_neg (by rw [h]; simp)]
      rw [e1, e2]
      have hZ : ∀ (i j : Nat), i < lenL [] → j < 4 → Cell.le (.pl .tt) (leafG true [] i j) := fun i j hi => absurd hi (Nat.not_lt_zero i)
      exact Or.inl ⟨[], [0, 3], ⟨trivial, rfl, by repeat' (first | exact trivial | exact rfl | apply And.intro | exact (fun _ _ _ _ => Cell.le_refl _) | (intro i hi; rfl) | (intro i hi; exact absurd hi (Nat.not_lt_zero _))), (by show List.Nodup []; exact List.nodup_nil), rfl, by repeat' (first | exact trivial | exact rfl | exact hZ | apply And.intro)⟩⟩
    have hg : goodL L = true := by simpa using (show (!goodL L) = false from h)
    clear h
    obtain ⟨hs, hz⟩ := goodL_iff.1 hg
    have eC : mkC L = (n : Int) := by unfold mkC; rw [if_pos hg, hL]
    show Runs Tryd.prog 1 (.loop _) _ _
    refine loop_ruleR (N := env (lft Tryd.prog 1) 0 .std tbRf [(17, appFn [] [(46, 2)] sRGood), (82, appFn [] [(46, 2)] sRLvs), (86, appFn [] [(46, 2), (24, 32)] sRLAt)] [(11, [(0, true), (1, true), (2, true), (3, true), (4, true), (5, true), (6, false), (7, false), (8, false), (1009, false), (9, true), (10, false)]), (13, [(2009, false), (0, true), (1, true), (2, true), (3, true), (4, true), (5, false), (6, false), (7, false), (1008, false), (8, true), (9, false)])]) rfl tbRf_ok hC (fun c st K _ h => h) (by kernel_rfl) [] (X := LPl L k n)
      (S := fun x => ⟨[.c (.row 0), .c (.str k), .any, .any, .c (.ptr 1 0), .c (.int .i64 (x.j : Int))] ++ List.replicate 72 .any, [.elems 46 2 n (prG L), .cells 27 [.int .i64 0, .val (.slice none 0 0)]]⟩) (μ := fun x => n - x.j) ⟨0, by omega, fun q hq => absurd hq (by omega)⟩ (by kernel_rfl) [0, 1] ?h0 ?rd
    case h0 =>
      refine ⟨rfl, by decide, ?_, ?_⟩ <;> repeat' (first | exact trivial | exact rfl | apply And.intro | exact (fun _ _ _ _ => Cell.le_refl _) | (intro i hi; rfl) | (intro i hi; exact absurd hi (Nat.not_lt_zero _)))
    case rd =>
      rintro ⟨j, hjn, hP⟩
      unfold sRGood sRLvs sRLAt
      generalize hg0 : (List.length : List PP → Nat) = g0
      generalize hg1 : (List.length : List (Nat → Int) → Nat) = g1
      generalize hL : lft Tryd.prog _ = L
      try dsimp only
      try unfold prG
      try unfold leafG
      try unfold lfC
      generalize ho0 : @prK = zo0, ho1 : @prV = zo1, ho2 : @prL = zo2, ho3 : @ltB = zo3, ho4 : @findI = zo4, ho5 : @findB = zo5, ho6 : @goodL = zo6, ho7 : @prPreR = zo7, ho8 : @lfG = zo8, ho9 : @lK = zo9, ho10 : @lV = zo10, ho11 : @lI = zo11, ho12 : @lP = zo12, ho13 : @lN = zo13, ho14 : @pG = zo14, ho15 : @mkLeaf = zo15, ho16 : @mkL = zo16, ho17 : @mkC = zo17, ho18 : @wayG = zo18, ho19 : @hashesG = zo19, ho20 : @lenL = zo20, ho21 : @rlvPre = zo21, ho22 : @rlaPre = zo22
      generalize hA : Arith.std = A
      cbv
      subst hA hg0 hg1 hL ho0 ho1 ho2 ho3 ho4 ho5 ho6 ho7 ho8 ho9 ho10 ho11 ho12 ho13 ho14 ho15 ho16 ho17 ho18 ho19 ho20 ho21 ho22
      have hrl : rlvPre 46 2 n (prG L) := ⟨hPr, by rw [ePR]; exact hz⟩
      have hla : ∀ i : Int, 0 ≤ i → i < (n : Int) → rlaPre 46 2 n (prG L) 24 32 n (lfG L) i := fun i h0 hi => ⟨hPr, ⟨rfl, rfl, rfl, fun j _ => by rw [ePR]⟩, h0, hi⟩
      have n0 : (0 + 1 ≤ maxLen ∧ (0 + 1) * 64 ≤ 140737488355328) ∧ True := ⟨by unfold maxLen; omega, trivial⟩
      have n1 : (1 + 1 ≤ maxLen ∧ (1 + 1) * 64 ≤ 140737488355328) ∧ True := ⟨by unfold maxLen; omega, trivial⟩
      have hED : (j < L.length → ltB (prK L j) k = false) → findI L k = j := fun h2 => findI_at (by omega) hP h2
      simp only [ePR]
      refine Ife.mk (fun h => ?_) (fun h => ?_)
      · have h : (j : Int) < (@Nat.cast Int instNatCastInt n) := of_decide_eq_true (p := (j : Int) < (n : Int)) h
        have hj2 : j < n := Int.ofNat_lt.mp h
        have q1 : 0 ≤ (j : Int) ∧ (j : Int) < (n : Int) := by omega
        have q2 : (j : Int).toNat < n := by omega
        refine Need.mk q1 fun _ => Need.mk q2 fun _ => ?_
        refine Ife.mk (fun h2 => ?_) (fun h2 => ?_)
        · have h2 : ltB (prK L j) k = true := h2
          refine Need.mk (by show fitStd .i64 ((j : Int) + 1); unfold fitStd; omega) fun _ => ?_
          refine ⟨⟨j + 1, by omega, fun q h4 => by
            by_cases hq : q = j
            · rw [hq]; exact h2
            · exact hP q (by omega)⟩, [0, 1], (by show n - (j + 1) < n - j; omega), ?_⟩
          refine ⟨rfl, by decide, ?_, ?_⟩ <;> repeat' (first | exact trivial | exact rfl | apply And.intro | exact (fun _ _ _ _ => Cell.le_refl _) | (intro i hi; rfl) | (intro i hi; exact absurd hi (Nat.not_lt_zero _)))
        have h2 : ltB (prK L j) k = false := h2
        have en := hED fun _ => h2
        refine Need.mk hrl fun _ => ?_
        refine Ife.mk (fun _ => ?_) (fun h3 => absurd h (of_decide_eq_false (p := (j : Int) < (n : Int)) h3))
        refine Need.mk q1 fun _ => Need.mk q2 fun _ => ?_
        refine Ife.mk (fun h3 => ?_) (fun h3 => ?_)
        · have h3 : prK L j = k := of_decide_eq_true (p := prK L j = k) h3
          have hfb : findB L k = true := by unfold findB; rw [en, decide_eq_true h3, decide_eq_true (by omega)]; rfl
          have em : mkL L k = [mkLeaf L (j : Int).toNat] := by unfold mkL; rw [if_pos hg, if_pos hfb, en]; rfl
          refine Need.mk (hla _ q1.1 q1.2) fun _ => Or.inr ?_
          rw [em, eC]
          have hW := leafG_one (L := L) hL q1.1 q1.2
          have hW2 : ∀ i c : Nat, i < 1 → c < 4 → Cell.le ((lfC L n (j : Int)).getD c (.pl .tt)) (leafG true [mkLeaf L (j : Int).toNat] i c) := fun i c hi hc => by
            obtain rfl : i = 0 := by omega
            exact hW c hc
          refine ⟨8, [0, 9], ⟨⟨_, 4, _, lfC L n (j : Int), [7], _, rfl, rfl, trivial, rfl, lfC_new, rfl, (by repeat' (first | exact trivial | exact rfl | apply And.intro | exact (fun _ _ _ _ => Cell.le_refl _) | (intro i hi; rfl) | (intro i hi; exact absurd hi (Nat.not_lt_zero _)))), (by repeat' (first | exact trivial | exact rfl | exact hW2 | apply And.intro))⟩, rfl, (by show List.Nodup []; exact List.nodup_nil), rfl⟩⟩
        · have h3 : ¬ prK L j = k := of_decide_eq_false (p := prK L j = k) h3
          have hfb : ¬ findB L k = true := fun q => h3 (by have := (findB_eq q).2; rwa [en] at this)
          refine Ife.mk (fun h4 => ?_) (fun h4 => ?_)
          · have h4 : (0 : Int) < (j : Int) := of_decide_eq_true (p := (0 : Int) < (j : Int)) h4
            have r1 : 0 ≤ (j : Int) - 1 := by omega
            have r2 : (j : Int) - 1 < (n : Int) := by omega
            have em : mkL L k = [mkLeaf L ((j : Int) - 1).toNat, mkLeaf L (j : Int).toNat] := by
              unfold mkL
              rw [if_pos hg, if_neg hfb, en, if_pos (by omega), if_pos (by omega), show ((j : Int) - 1).toNat = j - 1 by omega]
              rfl
            refine Need.mk (by show fitStd .i64 ((j : Int) - 1); unfold fitStd; omega) fun _ => Need.mk (hla _ r1 r2) fun _ => Need.mk n0 fun _ => ?_
            refine Ife.mk (fun _ => ?_) (fun h3 => absurd h (of_decide_eq_false (p := (j : Int) < (n : Int)) h3))
            refine Need.mk (hla _ q1.1 q1.2) fun _ => Need.mk n1 fun _ => Or.inl ?_
            rw [em, eC]
            have hW := leafG_p2 (L := L) hL r1 r2 q1.1 q1.2 (g := fun _ _ => .pl .tt)
            refine ⟨[14], [0, 14], ⟨?fz1, rfl, (by repeat' (first | exact trivial | exact rfl | apply And.intro | exact (fun _ _ _ _ => Cell.le_refl _) | (intro i hi; rfl) | (intro i hi; exact absurd hi (Nat.not_lt_zero _)))), (by show List.Nodup []; exact List.nodup_nil), rfl, (by repeat' (first | exact trivial | exact rfl | exact hW | apply And.intro))⟩⟩
            case fz1 =>
              refine ⟨fun i c hi hc => ?_, trivial⟩
              rcases (show i = 0 ∨ i = 1 by omega) with rfl | rfl
              · exact lfC_new (L := L) (n := n) (i := (j : Int) - 1) c hc
              · exact lfC_new (L := L) (n := n) (i := (j : Int)) c hc
          · have h4 : ¬ (0 : Int) < (j : Int) := of_decide_eq_false (p := (0 : Int) < (j : Int)) h4
            have em : mkL L k = [mkLeaf L (j : Int).toNat] := by
              unfold mkL
              rw [if_pos hg, if_neg hfb, en, if_neg (by omega), if_pos (by omega)]
              rfl
            refine Ife.mk (fun _ => ?_) (fun h3 => absurd h (of_decide_eq_false (p := (j : Int) < (n : Int)) h3))
            refine Need.mk (hla _ q1.1 q1.2) fun _ => Need.mk n0 fun _ => Or.inl ?_
            rw [em, eC]
            have hW := leafG_p1 (L := L) hL q1.1 q1.2 (g := fun _ _ => .pl .tt)
            refine ⟨[9], [0, 9], ⟨?fz2, rfl, (by repeat' (first | exact trivial | exact rfl | apply And.intro | exact (fun _ _ _ _ => Cell.le_refl _) | (intro i hi; rfl) | (intro i hi; exact absurd hi (Nat.not_lt_zero _)))), (by show List.Nodup []; exact List.nodup_nil), rfl, (by repeat' (first | exact trivial | exact rfl | exact hW | apply And.intro))⟩⟩
            case fz2 =>
              refine ⟨fun i c hi hc => ?_, trivial⟩
              obtain rfl : i = 0 := by omega
              exact lfC_new (L := L) (n := n) (i := (j : Int)) c hc
      · have h : ¬ (j : Int) < (@Nat.cast Int instNatCastInt n) := of_decide_eq_false (p := (j : Int) < (n : Int)) h
        have en := hED fun h3 => absurd h3 (by omega)
        have hfb : ¬ findB L k = true := fun q => by have := (findB_eq q).1; omega
        refine Need.mk hrl fun _ => ?_
        refine Ife.mk (fun h3 => absurd (of_decide_eq_true (p := (j : Int) < (n : Int)) h3) h) (fun _ => ?_)
        refine Ife.mk (fun h4 => ?_) (fun h4 => ?_)
        · have h4 : (0 : Int) < (j : Int) := of_decide_eq_true (p := (0 : Int) < (j : Int)) h4
          have r1 : 0 ≤ (j : Int) - 1 := by omega
          have r2 : (j : Int) - 1 < (n : Int) := by omega
          have em : mkL L k = [mkLeaf L ((j : Int) - 1).toNat] := by
            unfold mkL
            rw [if_pos hg, if_neg hfb, en, if_pos (by omega), if_neg (by omega), show ((j : Int) - 1).toNat = j - 1 by omega]
            rfl
          refine Need.mk (by show fitStd .i64 ((j : Int) - 1); unfold fitStd; omega) fun _ => Need.mk (hla _ r1 r2) fun _ => Need.mk n0 fun _ => ?_
          refine Ife.mk (fun h3 => absurd (of_decide_eq_true (p := (j : Int) < (n : Int)) h3) h) (fun _ => Or.inl ?_)
          rw [em, eC]
          have hW := leafG_p1 (L := L) hL r1 r2 (g := fun _ _ => .pl .tt)
          refine ⟨[9], [0, 9], ⟨?fz3, rfl, (by repeat' (first | exact trivial | exact rfl | apply And.intro | exact (fun _ _ _ _ => Cell.le_refl _) | (intro i hi; rfl) | (intro i hi; exact absurd hi (Nat.not_lt_zero _)))), (by show List.Nodup []; exact List.nodup_nil), rfl, (by repeat' (first | exact trivial | exact rfl | exact hW | apply And.intro))⟩⟩
          case fz3 =>
            refine ⟨fun i c hi hc => ?_, trivial⟩
            obtain rfl : i = 0 := by omega
            exact lfC_new (L := L) (n := n) (i := (j : Int) - 1) c hc
        · have h4 : ¬ (0 : Int) < (j : Int) := of_decide_eq_false (p := (0 : Int) < (j : Int)) h4
          have em : mkL L k = [] := by
            unfold mkL
            rw [if_pos hg, if_neg hfb, en, if_neg (by omega), if_neg (by omega)]
            rfl
          refine Ife.mk (fun h3 => absurd (of_decide_eq_true (p := (j : Int) < (n : Int)) h3) h) (fun _ => Or.inl ?_)
          rw [em, eC]
          have hZ : ∀ (i j : Nat), i < lenL [] → j < 4 → Cell.le (.pl .tt) (leafG true [] i j) := fun i j hi => absurd hi (Nat.not_lt_zero i)
          exact ⟨[], [0, 5], ⟨trivial, rfl, by repeat' (first | exact trivial | exact rfl | apply And.intro | exact (fun _ _ _ _ => Cell.le_refl _) | (intro i hi; rfl) | (intro i hi; exact absurd hi (Nat.not_lt_zero _))), (by show List.Nodup []; exact List.nodup_nil), rfl, by repeat' (first | exact trivial | exact rfl | exact hZ | apply And.intro)⟩⟩

end Go.Proofs.YthomoliklfmnkaaDoor.Vx
end

section
/- What a proof shows, by the document: stands, Value, Has, Lacks, by the walker. -/
namespace Go.Proofs.YthomoliklfmnkaaDoor.Vx
open Sha
open Go.RowKit
set_option linter.unusedVariables false
set_option linter.unusedSimpArgs false
def rvlPre (root : List CV) (ty sz n : Nat) (get : Nat → Nat → Cell) : Prop := HashC root ∧ leavesPre ty sz n get
def rstPre (root : List CV) (c : Int) (ty sz n : Nat) (get : Nat → Nat → Cell) (i : Int) : Prop := HashC root ∧ leavesPre ty sz n get ∧ mayL c (leafL n get) = true ∧ 0 ≤ i ∧ i < (n : Int)
theorem under_one {f : Nat → Int} {c : Int} {L : List PLeaf} (h : L.length = 1) : underB f c L = stAt f c L 0 := by
  unfold underB
  rw [h]
  simp [List.range_succ]
def sStnd : SpecF
  | [.agg root, .agg [.int .i64 c, .row 0], .c (.int .i64 i)], [.data fr ty sz n get] => some (rstPre root c ty sz n get i, .c (.bool (stAt (hOf root) c (leafL n get) i.toNat)), [.dead])
  | _, _ => none

set_option maxRecDepth 100000 in
set_option maxHeartbeats 16000000 in
theorem stndP : Fn Tryd.prog 88 [] [(115, 204)] sStnd := by
  have hC : CtsOk Tryd.prog [(94, appPure sRLeaf), (128, appFn [] [(24, 32)] sRFd), (80, appPure sRRoot)] := CtsOk.cons (Pure.ct rleafP) <| CtsOk.cons (Fn.ct rfdP) <| CtsOk.cons (Pure.ct rrootP) <| CtsOk.nil _
  refine Fn.of (E := tbMk) [] 0 [(2, [(9999, true), (0, true), (1, true), (2, true), (3, true), (4, true), (5, true), (6, true), (7, true), (9, true), (10, true), (3008, false), (3011, false), (12, true), (13, true), (14, true), (15, false), (16, false), (17, true), (2999, false), (15, false), (11, false), (12, true), (13, true), (14, true), (16, false), (17, true), (2999, false), (15, false), (8, false), (11, false), (12, true), (13, true), (14, true), (16, false), (17, true), (2999, false)]), (3, [(0, true), (1, true), (2, true), (3, true), (4, true), (6, true), (5, false), (7, true), (8, true), (9, true)])] tbMk_ok hC (by kernel_rfl) Tryd.func88 rfl rfl rfl (by kernel_rfl) (by kernel_rfl) 1 5 1 ?_ ?_
  · intro args h pre r h' hs
    unfold sStnd at hs
    split at hs
    · cases hs; exact ⟨rfl, rfl, Nat.le_of_ble_eq_true rfl⟩
    · cases hs
  · intro args h pre r h' hs hp
    unfold sStnd at hs
    split at hs
    rotate_left
    · cases hs
    rename_i root c i fr ty sz n get
    cases hs
    obtain ⟨⟨f, rfl, hf_⟩, ⟨rfl, rfl, hst, hok, hm⟩, hmay, hi⟩ := hp
    refine ⟨[.data fr 115 4 n (leafG false (leafL n get))], ⟨⟨rfl, rfl, rfl, rfl, fun i j hi hj => by rw [hst i j hi hj]; exact Cell.le_refl _⟩, trivial⟩, ?_⟩
    have hL : (leafL n get).length = n := leafL_len
    generalize leafL n get = L at hL hok hmay ⊢
    generalize hU : stAt (hOf (hashC f)) c L i.toNat = U
    unfold hashC
    unfold sRLeaf sRFd sRRoot
    generalize hg0 : (List.length : List UInt8 → Nat) = g0
    generalize hL : lft Tryd.prog _ = L
    try unfold leafG
    generalize ho0 : @leafF = zo0, ho1 : @rootF = zo1, ho2 : @hOf = zo2, ho3 : @HashC = zo3, ho4 : @u8s = zo4, ho5 : @lK = zo5, ho6 : @lV = zo6, ho7 : @lI = zo7, ho8 : @lP = zo8, ho9 : @lN = zo9, ho10 : @pG = zo10, ho11 : @leafL = zo11, ho12 : @stAt = zo12, ho13 : @fdB = zo13, ho14 : @fdH = zo14, ho15 : @eqH = zo15, ho16 : @rleafPre = zo16, ho17 : @rfdPre0 = zo17, ho18 : @rstPre = zo18
    generalize hA : Arith.std = A
    cbv
    subst hA hg0 hL ho0 ho1 ho2 ho3 ho4 ho5 ho6 ho7 ho8 ho9 ho10 ho11 ho12 ho13 ho14 ho15 ho16 ho17 ho18
    obtain ⟨hcr, hma⟩ := mayL_all hmay
    have hi2 : i < (n : Int) := hi.2
    have hi0 : 0 ≤ i := hi.1
    have hiL : i.toNat < L.length := by omega
    have hA := mayAt_iff.1 (hma _ hiL)
    have hd := deep_30 c (lI L i.toNat)
    have hlf : HashC (hashC (leafF (lK L i.toNat) (lV L i.toNat))) := ⟨_, rfl, fun j => sumI_range _ j⟩
    have p0' : i.toNat < n := by omega
    have p1 : rleafPre (lK L i.toNat) (lV L i.toNat) := ⟨by omega, by omega⟩
    have p2 : rfdPre0 24 32 (lN L i.toNat) (pG (lP L i.toNat)) (hashC (leafF (lK L i.toNat) (lV L i.toNat))) := ⟨rfl, rfl, pG_hashes hok hiL, hlf, by omega⟩
    have p3 : HashC (hashC (fdH (pG (lP L i.toNat)) (hashC (leafF (lK L i.toNat) (lV L i.toNat))) (lN L i.toNat) c (lI L i.toNat))) := ⟨_, rfl, fun j => fdH_range hlf _ _ _ j⟩
    have eS : U = (fdB (lN L i.toNat) c (lI L i.toNat) && eqH (rootF c (hashB (fdH (pG (lP L i.toNat)) (hashC (leafF (lK L i.toNat) (lV L i.toNat))) (lN L i.toNat) c (lI L i.toNat)))) (hOf (hashC f))) := hU.symm
    repeat' (first | refine Both.mk ?_ ?_ | refine Need.mk hi fun _ => ?_ | refine Need.mk p0' fun _ => ?_ | refine Need.mk p1 fun _ => ?_ | refine Need.mk p2 fun _ => ?_)
    all_goals
      refine Ife.mk (fun h => ?_) (fun h => ?_)
      · have h : fdB (lN L i.toNat) c (lI L i.toNat) = true := h
        refine Need.mk p3 fun _ => ?_
        rw [eS, h, Bool.true_and]
        exact ⟨[0], ⟨rfl, by repeat' (first | exact trivial | exact rfl | apply And.intro | exact (fun _ _ _ _ => Cell.le_refl _) | (intro i hi; rfl) | (intro i hi; exact absurd hi (Nat.not_lt_zero _))), by decide, rfl, by repeat' (first | exact trivial | exact rfl | apply And.intro | exact (fun _ _ _ _ => Cell.le_refl _) | (intro i hi; rfl) | (intro i hi; exact absurd hi (Nat.not_lt_zero _)))⟩⟩
      · have h : fdB (lN L i.toNat) c (lI L i.toNat) = false := h
        rw [eS, h, Bool.false_and]
        exact ⟨[0], ⟨rfl, by repeat' (first | exact trivial | exact rfl | apply And.intro | exact (fun _ _ _ _ => Cell.le_refl _) | (intro i hi; rfl) | (intro i hi; exact absurd hi (Nat.not_lt_zero _))), by decide, rfl, by repeat' (first | exact trivial | exact rfl | apply And.intro | exact (fun _ _ _ _ => Cell.le_refl _) | (intro i hi; rfl) | (intro i hi; exact absurd hi (Nat.not_lt_zero _)))⟩⟩

def sRVal : SpecF
  | [.agg root, .agg [.int .i64 c, .row 0], .c (.str k)], [.data fr ty sz n get] => some (rvlPre root ty sz n get, .tup [(some (.str (valV (hOf root) c (leafL n get) k)), []), (some (.bool (valB (hOf root) c (leafL n get) k)), [])], [.dead])
  | _, _ => none

set_option maxRecDepth 100000 in
set_option maxHeartbeats 8000000 in
theorem rvalPrP : Fn Tryd.prog 25 [] [(115, 204)] sRVal := by
  have hC : CtsOk Tryd.prog [(62, appFn [] [(115, 204)] sMayPr), (88, appFn [] [(115, 204)] sStnd)] := CtsOk.cons (Fn.ct rmayPrP) <| CtsOk.cons (Fn.ct stndP) <| CtsOk.nil _
  refine Fn.of (E := tbMk) [] 0 [] tbMk_ok hC (by kernel_rfl) Tryd.func25 rfl rfl rfl (by kernel_rfl) (by kernel_rfl) 1 5 1 ?_ ?_
  · intro args h pre r h' hs
    unfold sRVal at hs
    split at hs
    · cases hs; exact ⟨rfl, rfl, Nat.le_of_ble_eq_true rfl⟩
    · cases hs
  · intro args h pre r h' hs hp
    unfold sRVal at hs
    split at hs
    rotate_left
    · cases hs
    rename_i root c k fr ty sz n get
    cases hs
    obtain ⟨⟨f, rfl, hf_⟩, ⟨rfl, rfl, hst, hok, hm⟩⟩ := hp
    refine ⟨[.data fr 115 4 n (leafG false (leafL n get))], ⟨⟨rfl, rfl, rfl, rfl, fun i j hi hj => by rw [hst i j hi hj]; exact Cell.le_refl _⟩, trivial⟩, ?_⟩
    have hL : (leafL n get).length = n := leafL_len
    generalize leafL n get = L at hL hok ⊢
    have q1 : leavesPre 115 4 n (fun i j => (leafG false L i j).old) := by rw [← hL]; exact leavesPre_old hok (by omega)
    have e1 : leafL n (fun i j => (leafG false L i j).old) = L := by rw [← hL]; exact leaves_old hok
    have hR : HashC (hashC f) := ⟨f, rfl, hf_⟩
    have q2 : mayL c L = true → ∀ i : Int, 0 ≤ i → i < (n : Int) → rstPre (hashC f) c 115 4 n (fun i j => (leafG false L i j).old) i := fun h i h0 hi => ⟨hR, q1, by rw [e1]; exact h, h0, hi⟩
    generalize hV : valV (hOf (hashC f)) c L k = V
    generalize hB : valB (hOf (hashC f)) c L k = B
    generalize hU : hOf (hashC f) = F at hV hB
    unfold hashC at hU ⊢
    unfold sMayPr sStnd
    generalize hg0 : (List.length : List UInt8 → Nat) = g0
    generalize hL : lft Tryd.prog _ = L
    try unfold leafG
    generalize ho0 : @hOf = zo0, ho1 : @HashC = zo1, ho2 : @lK = zo2, ho3 : @lV = zo3, ho4 : @lI = zo4, ho5 : @lP = zo5, ho6 : @lN = zo6, ho7 : @pG = zo7, ho8 : @leafL = zo8, ho9 : @leavesPre = zo9, ho10 : @mayL = zo10, ho11 : @stAt = zo11, ho12 : @valB = zo12, ho13 : @valV = zo13, ho14 : @rstPre = zo14, ho15 : @rvlPre = zo15
    generalize hA : Arith.std = A
    cbv
    subst hA hg0 hL ho0 ho1 ho2 ho3 ho4 ho5 ho6 ho7 ho8 ho9 ho10 ho11 ho12 ho13 ho14 ho15
    refine Need.mk q1 fun _ => ?_
    simp only [e1, hU]
    have fl : B = false → V = [] := fun h => by rw [← hV]; unfold valV; rw [hB, h]; rfl
    refine Ife.mk (fun h => ?_) (fun h => ?_)
    · have h : mayL c L = false := by simpa using (show (!mayL c L) = true from h)
      have hb : B = false := by rw [← hB]; unfold valB; rw [h]; rfl
      rw [fl hb, hb]
      exact ⟨[0], ⟨rfl, by repeat' (first | exact trivial | exact rfl | apply And.intro | exact (fun _ _ _ _ => Cell.le_refl _) | (intro i hi; rfl) | (intro i hi; exact absurd hi (Nat.not_lt_zero _))), by decide, rfl, by repeat' (first | exact trivial | exact rfl | apply And.intro | exact (fun _ _ _ _ => Cell.le_refl _) | (intro i hi; rfl) | (intro i hi; exact absurd hi (Nat.not_lt_zero _)))⟩⟩
    have hmay : mayL c L = true := by simpa using (show (!mayL c L) = false from h)
    clear h
    refine Ife.mk (fun h => ?_) (fun h => ?_)
    · have h : ¬ (n : Int) = 1 := by simpa using (show (!decide ((n : Int) = 1)) = true from h)
      have hb : B = false := by rw [← hB]; unfold valB; rw [hmay, decide_eq_false (show ¬ L.length = 1 by omega)]; rfl
      rw [fl hb, hb]
      exact ⟨[0], ⟨rfl, by repeat' (first | exact trivial | exact rfl | apply And.intro | exact (fun _ _ _ _ => Cell.le_refl _) | (intro i hi; rfl) | (intro i hi; exact absurd hi (Nat.not_lt_zero _))), by decide, rfl, by repeat' (first | exact trivial | exact rfl | apply And.intro | exact (fun _ _ _ _ => Cell.le_refl _) | (intro i hi; rfl) | (intro i hi; exact absurd hi (Nat.not_lt_zero _)))⟩⟩
    have hn : (n : Int) = 1 := by simpa using (show (!decide ((n : Int) = 1)) = false from h)
    clear h
    have hL1 : L.length = 1 := by omega
    refine Need.mk (by show (0 : Int) ≤ 0 ∧ (0 : Int) < (n : Int); omega) fun _ => Need.mk (by show (0 : Int).toNat < n; omega) fun _ => ?_
    refine Ife.mk (fun h => ?_) (fun h => ?_)
    · have h : ¬ lK L 0 = k := by simpa using (show (!decide (lK L 0 = k)) = true from h)
      have hb : B = false := by rw [← hB]; unfold valB; rw [hmay, decide_eq_true hL1, decide_eq_false h]; rfl
      rw [fl hb, hb]
      exact ⟨[0], ⟨rfl, by repeat' (first | exact trivial | exact rfl | apply And.intro | exact (fun _ _ _ _ => Cell.le_refl _) | (intro i hi; rfl) | (intro i hi; exact absurd hi (Nat.not_lt_zero _))), by decide, rfl, by repeat' (first | exact trivial | exact rfl | apply And.intro | exact (fun _ _ _ _ => Cell.le_refl _) | (intro i hi; rfl) | (intro i hi; exact absurd hi (Nat.not_lt_zero _)))⟩⟩
    have hk : lK L 0 = k := by simpa using (show (!decide (lK L 0 = k)) = false from h)
    clear h
    have h01 : (0 : Int) < (n : Int) := by rw [hn]; decide
    refine Need.mk (q2 hmay 0 (Int.le_refl 0) h01) fun _ => ?_
    have hbu : B = stAt F c L 0 := by rw [← hB, ← under_one hL1]; unfold valB; rw [hmay, decide_eq_true hL1, decide_eq_true hk]; rfl
    refine Ife.mk (fun h => ?_) (fun h => ?_)
    · have h : stAt F c L 0 = false := by simpa using (show (!stAt F c L 0) = true from h)
      have hb : B = false := by rw [hbu, h]
      rw [fl hb, hb]
      exact ⟨[0], ⟨rfl, by repeat' (first | exact trivial | exact rfl | apply And.intro | exact (fun _ _ _ _ => Cell.le_refl _) | (intro i hi; rfl) | (intro i hi; exact absurd hi (Nat.not_lt_zero _))), by decide, rfl, by repeat' (first | exact trivial | exact rfl | apply And.intro | exact (fun _ _ _ _ => Cell.le_refl _) | (intro i hi; rfl) | (intro i hi; exact absurd hi (Nat.not_lt_zero _)))⟩⟩
    have h : stAt F c L 0 = true := by simpa using (show (!stAt F c L 0) = false from h)
    have hb : B = true := by rw [hbu, h]
    have hv : V = lV L 0 := by rw [← hV]; unfold valV; rw [hB, hb]; rfl
    refine Need.mk (by show (0 : Int) ≤ 0 ∧ (0 : Int) < (n : Int); omega) fun _ => Need.mk (by show (0 : Int).toNat < n; omega) fun _ => ?_
    rw [hv, hb]
    exact ⟨[0], ⟨rfl, by repeat' (first | exact trivial | exact rfl | apply And.intro | exact (fun _ _ _ _ => Cell.le_refl _) | (intro i hi; rfl) | (intro i hi; exact absurd hi (Nat.not_lt_zero _))), by decide, rfl, by repeat' (first | exact trivial | exact rfl | apply And.intro | exact (fun _ _ _ _ => Cell.le_refl _) | (intro i hi; rfl) | (intro i hi; exact absurd hi (Nat.not_lt_zero _)))⟩⟩

def sRHas : SpecF
  | [.agg root, .agg [.int .i64 c, .row 0], .c (.str k), .c (.str v)], [.data fr ty sz n get] => some (rvlPre root ty sz n get, .c (.bool ((valB (hOf root) c (leafL n get) k) && decide ((valV (hOf root) c (leafL n get) k) = v))), [.dead])
  | _, _ => none

set_option maxRecDepth 100000 in
set_option maxHeartbeats 8000000 in
theorem rhasPrP : Fn Tryd.prog 27 [] [(115, 204)] sRHas := by
  have hC : CtsOk Tryd.prog [(25, appFn [] [(115, 204)] sRVal)] := CtsOk.cons (Fn.ct rvalPrP) <| CtsOk.nil _
  refine Fn.of (E := tbMk) [] 0 [] tbMk_ok hC (by kernel_rfl) Tryd.func27 rfl rfl rfl (by kernel_rfl) (by kernel_rfl) 1 5 1 ?_ ?_
  · intro args h pre r h' hs
    unfold sRHas at hs
    split at hs
    · cases hs; exact ⟨rfl, rfl, Nat.le_of_ble_eq_true rfl⟩
    · cases hs
  · intro args h pre r h' hs hp
    unfold sRHas at hs
    split at hs
    rotate_left
    · cases hs
    rename_i root c k v fr ty sz n get
    cases hs
    obtain ⟨⟨f, rfl, hf_⟩, ⟨rfl, rfl, hst, hok, hm⟩⟩ := hp
    refine ⟨[.data fr 115 4 n (leafG false (leafL n get))], ⟨⟨rfl, rfl, rfl, rfl, fun i j hi hj => by rw [hst i j hi hj]; exact Cell.le_refl _⟩, trivial⟩, ?_⟩
    have hL : (leafL n get).length = n := leafL_len
    generalize leafL n get = L at hL hok ⊢
    have q1 : leavesPre 115 4 n (fun i j => (leafG false L i j).old) := by rw [← hL]; exact leavesPre_old hok (by omega)
    have e1 : leafL n (fun i j => (leafG false L i j).old) = L := by rw [← hL]; exact leaves_old hok
    have hR : HashC (hashC f) := ⟨f, rfl, hf_⟩
    have q2 : mayL c L = true → ∀ i : Int, 0 ≤ i → i < (n : Int) → rstPre (hashC f) c 115 4 n (fun i j => (leafG false L i j).old) i := fun h i h0 hi => ⟨hR, q1, by rw [e1]; exact h, h0, hi⟩
    generalize hV : valV (hOf (hashC f)) c L k = V
    generalize hB : valB (hOf (hashC f)) c L k = B
    unfold hashC at hV hB ⊢
    unfold sRVal
    generalize hg0 : (List.length : List UInt8 → Nat) = g0
    generalize hL : lft Tryd.prog _ = L
    try unfold leafG
    generalize ho0 : @hOf = zo0, ho1 : @HashC = zo1, ho2 : @lK = zo2, ho3 : @lV = zo3, ho4 : @lI = zo4, ho5 : @lP = zo5, ho6 : @lN = zo6, ho7 : @pG = zo7, ho8 : @leafL = zo8, ho9 : @leavesPre = zo9, ho10 : @mayL = zo10, ho11 : @valB = zo11, ho12 : @valV = zo12, ho13 : @rstPre = zo13, ho14 : @rvlPre = zo14
    generalize hA : Arith.std = A
    cbv
    subst hA hg0 hL ho0 ho1 ho2 ho3 ho4 ho5 ho6 ho7 ho8 ho9 ho10 ho11 ho12 ho13 ho14
    refine Need.mk ⟨hR, q1⟩ fun _ => ?_
    simp only [e1, hV, hB]
    refine Ife.mk (fun h => ?_) (fun h => ?_)
    · have h : B = true := h
      rw [h, Bool.true_and]
      exact ⟨[0], ⟨rfl, by repeat' (first | exact trivial | exact rfl | apply And.intro | exact (fun _ _ _ _ => Cell.le_refl _) | (intro i hi; rfl) | (intro i hi; exact absurd hi (Nat.not_lt_zero _))), by decide, rfl, by repeat' (first | exact trivial | exact rfl | apply And.intro | exact (fun _ _ _ _ => Cell.le_refl _) | (intro i hi; rfl) | (intro i hi; exact absurd hi (Nat.not_lt_zero _)))⟩⟩
    · have h : B = false := h
      rw [h, Bool.false_and]
      exact ⟨[0], ⟨rfl, by repeat' (first | exact trivial | exact rfl | apply And.intro | exact (fun _ _ _ _ => Cell.le_refl _) | (intro i hi; rfl) | (intro i hi; exact absurd hi (Nat.not_lt_zero _))), by decide, rfl, by repeat' (first | exact trivial | exact rfl | apply And.intro | exact (fun _ _ _ _ => Cell.le_refl _) | (intro i hi; rfl) | (intro i hi; exact absurd hi (Nat.not_lt_zero _)))⟩⟩

def sRLacks : SpecF
  | [.agg root, .agg [.int .i64 c, .row 0], .c (.str k)], [.data fr ty sz n get] => some (rvlPre root ty sz n get, .c (.bool (lackB (hOf root) c (leafL n get) k)), [.dead])
  | _, _ => none

set_option maxRecDepth 100000 in
set_option maxHeartbeats 32000000 in
theorem rlacksPrP : Fn Tryd.prog 29 [] [(115, 204)] sRLacks := by
  have hC : CtsOk Tryd.prog [(62, appFn [] [(115, 204)] sMayPr), (88, appFn [] [(115, 204)] sStnd), (80, appPure sRRoot)] := CtsOk.cons (Fn.ct rmayPrP) <| CtsOk.cons (Fn.ct stndP) <| CtsOk.cons (Pure.ct rrootP) <| CtsOk.nil _
  refine Fn.of (E := tbMk) [] 0 [(10, [(0, true), (1, true), (2, true), (3, true), (4, true), (5, true), (6, false), (7, true), (8, true), (9, true)]), (14, [(9999, true), (0, true), (1, true), (2, true), (4, true), (5, true), (6, true), (3003, false), (3007, false), (3008, false), (9, false), (10, false), (11, false), (2999, false), (9, false), (8, false), (10, false), (11, false), (2999, false), (3008, false), (3007, false), (9, false), (10, false), (11, false), (2999, false), (9, false), (3007, false), (10, false), (11, false), (2999, false), (10, false), (7, false), (11, false), (2999, false), (9, false), (3007, false), (8, false), (10, false), (11, false), (2999, false), (8, false), (3007, false), (10, false), (11, false), (2999, false), (10, false), (7, false), (11, false), (2999, false), (3007, false), (3003, false), (3008, false), (9, false), (10, false), (11, false), (2999, false), (9, false), (8, false), (10, false), (11, false), (2999, false), (3008, false), (3003, false), (9, false), (10, false), (11, false), (2999, false), (9, false), (3, false), (10, false), (11, false), (2999, false), (9, false), (3003, false), (8, false), (10, false), (11, false), (2999, false), (8, false), (3, false), (10, false), (11, false), (2999, false), (3008, false), (3003, false), (3007, false), (9, false), (10, false), (11, false), (2999, false), (9, false), (3007, false), (10, false), (11, false), (2999, false), (10, false), (7, false), (11, false), (2999, false), (3007, false), (3003, false), (9, false), (10, false), (11, false), (2999, false), (9, false), (3, false), (10, false), (11, false), (2999, false), (9, false), (3003, false), (3007, false), (10, false), (11, false), (2999, false), (10, false), (7, false), (11, false), (2999, false), (7, false), (3, false), (10, false), (11, false), (2999, false), (9, false), (3003, false), (3007, false), (8, false), (10, false), (11, false), (2999, false), (8, false), (3007, false), (10, false), (11, false), (2999, false), (10, false), (7, false), (11, false), (2999, false), (3007, false), (3003, false), (8, false), (10, false), (11, false), (2999, false), (8, false), (3, false), (10, false), (11, false), (2999, false), (8, false), (3003, false), (3007, false), (10, false), (11, false), (2999, false), (10, false), (7, false), (11, false), (2999, false), (7, false), (3, false), (10, false), (11, false), (2999, false)])] tbMk_ok hC (by kernel_rfl) Tryd.func29 rfl rfl rfl (by kernel_rfl) (by kernel_rfl) 1 5 1 ?_ ?_
  · intro args h pre r h' hs
    unfold sRLacks at hs
    split at hs
    · cases hs; exact ⟨rfl, rfl, Nat.le_of_ble_eq_true rfl⟩
    · cases hs
  · intro args h pre r h' hs hp
    unfold sRLacks at hs
    split at hs
    rotate_left
    · cases hs
    rename_i root c k fr ty sz n get
    cases hs
    obtain ⟨⟨f, rfl, hf_⟩, ⟨rfl, rfl, hst, hok, hm⟩⟩ := hp
    refine ⟨[.data fr 115 4 n (leafG false (leafL n get))], ⟨⟨rfl, rfl, rfl, rfl, fun i j hi hj => by rw [hst i j hi hj]; exact Cell.le_refl _⟩, trivial⟩, ?_⟩
    have hL : (leafL n get).length = n := leafL_len
    generalize leafL n get = L at hL hok ⊢
    have q1 : leavesPre 115 4 n (fun i j => (leafG false L i j).old) := by rw [← hL]; exact leavesPre_old hok (by omega)
    have e1 : leafL n (fun i j => (leafG false L i j).old) = L := by rw [← hL]; exact leaves_old hok
    have hR : HashC (hashC f) := ⟨f, rfl, hf_⟩
    have q2 : mayL c L = true → ∀ i : Int, 0 ≤ i → i < (n : Int) → rstPre (hashC f) c 115 4 n (fun i j => (leafG false L i j).old) i := fun h i h0 hi => ⟨hR, q1, by rw [e1]; exact h, h0, hi⟩
    generalize hB : lackB (hOf (hashC f)) c L k = B
    generalize hU : hOf (hashC f) = F at hB
    unfold hashC at hU ⊢
    unfold sMayPr sStnd
    generalize hg0 : (List.length : List UInt8 → Nat) = g0
    generalize hL : lft Tryd.prog _ = L
    try unfold leafG
    generalize ho0 : @ltB = zo0, ho1 : @rootF = zo1, ho2 : @hOf = zo2, ho3 : @HashC = zo3, ho4 : @u8s = zo4, ho5 : @lK = zo5, ho6 : @lV = zo6, ho7 : @lI = zo7, ho8 : @lP = zo8, ho9 : @lN = zo9, ho10 : @pG = zo10, ho11 : @leafL = zo11, ho12 : @leavesPre = zo12, ho13 : @mayL = zo13, ho14 : @stAt = zo14, ho15 : @underB = zo15, ho16 : @lackE = zo16, ho17 : @lackB = zo17, ho18 : @eqH = zo18, ho19 : @rstPre = zo19, ho20 : @rvlPre = zo20
    generalize hA : Arith.std = A
    cbv
    subst hA hg0 hL ho0 ho1 ho2 ho3 ho4 ho5 ho6 ho7 ho8 ho9 ho10 ho11 ho12 ho13 ho14 ho15 ho16 ho17 ho18 ho19 ho20
    refine Need.mk q1 fun _ => ?_
    simp only [e1]
    refine Ife.mk (fun h => ?_) (fun h => ?_)
    · have h : mayL c L = false := by simpa using (show (!mayL c L) = true from h)
      have hb : B = false := by rw [← hB]; unfold lackB; rw [h]; rfl
      rw [hb]
      exact ⟨[0], ⟨rfl, by repeat' (first | exact trivial | exact rfl | apply And.intro | exact (fun _ _ _ _ => Cell.le_refl _) | (intro i hi; rfl) | (intro i hi; exact absurd hi (Nat.not_lt_zero _))), by decide, rfl, by repeat' (first | exact trivial | exact rfl | apply And.intro | exact (fun _ _ _ _ => Cell.le_refl _) | (intro i hi; rfl) | (intro i hi; exact absurd hi (Nat.not_lt_zero _)))⟩⟩
    have hmay : mayL c L = true := by simpa using (show (!mayL c L) = false from h)
    clear h
    refine Runs.absK fun Q hQ => ?_
    replace hQ := Lib.hid hQ
    show Runs Tryd.prog 1 (.loop _) _ _
    refine loop_ruleR (N := env (lft Tryd.prog 1) 0 .std tbMk [(62, appFn [] [(115, 204)] sMayPr), (88, appFn [] [(115, 204)] sStnd), (80, appPure sRRoot)] [(10, [(0, true), (1, true), (2, true), (3, true), (4, true), (5, true), (6, false), (7, true), (8, true), (9, true)]), (14, [(9999, true), (0, true), (1, true), (2, true), (4, true), (5, true), (6, true), (3003, false), (3007, false), (3008, false), (9, false), (10, false), (11, false), (2999, false), (9, false), (8, false), (10, false), (11, false), (2999, false), (3008, false), (3007, false), (9, false), (10, false), (11, false), (2999, false), (9, false), (3007, false), (10, false), (11, false), (2999, false), (10, false), (7, false), (11, false), (2999, false), (9, false), (3007, false), (8, false), (10, false), (11, false), (2999, false), (8, false), (3007, false), (10, false), (11, false), (2999, false), (10, false), (7, false), (11, false), (2999, false), (3007, false), (3003, false), (3008, false), (9, false), (10, false), (11, false), (2999, false), (9, false), (8, false), (10, false), (11, false), (2999, false), (3008, false), (3003, false), (9, false), (10, false), (11, false), (2999, false), (9, false), (3, false), (10, false), (11, false), (2999, false), (9, false), (3003, false), (8, false), (10, false), (11, false), (2999, false), (8, false), (3, false), (10, false), (11, false), (2999, false), (3008, false), (3003, false), (3007, false), (9, false), (10, false), (11, false), (2999, false), (9, false), (3007, false), (10, false), (11, false), (2999, false), (10, false), (7, false), (11, false), (2999, false), (3007, false), (3003, false), (9, false), (10, false), (11, false), (2999, false), (9, false), (3, false), (10, false), (11, false), (2999, false), (9, false), (3003, false), (3007, false), (10, false), (11, false), (2999, false), (10, false), (7, false), (11, false), (2999, false), (7, false), (3, false), (10, false), (11, false), (2999, false), (9, false), (3003, false), (3007, false), (8, false), (10, false), (11, false), (2999, false), (8, false), (3007, false), (10, false), (11, false), (2999, false), (10, false), (7, false), (11, false), (2999, false), (3007, false), (3003, false), (8, false), (10, false), (11, false), (2999, false), (8, false), (3, false), (10, false), (11, false), (2999, false), (8, false), (3003, false), (3007, false), (10, false), (11, false), (2999, false), (10, false), (7, false), (11, false), (2999, false), (7, false), (3, false), (10, false), (11, false), (2999, false)])]) rfl tbMk_ok hC (fun c st K _ h => h) (by kernel_rfl) [] (X := LIx n (stAt F c L))
      (S := fun x => ⟨[.any, .any, .c (.str k), .c (.ptr 1 0), .c (.ptr 2 0), .any, .any, .c (.int .i64 x.i)] ++ List.replicate 87 .any, [.data fr 115 4 n (leafG false L), .cells 24 [.int .u8 (f 0), .int .u8 (f 1), .int .u8 (f 2), .int .u8 (f 3), .int .u8 (f 4), .int .u8 (f 5), .int .u8 (f 6), .int .u8 (f 7), .int .u8 (f 8), .int .u8 (f 9), .int .u8 (f 10), .int .u8 (f 11), .int .u8 (f 12), .int .u8 (f 13), .int .u8 (f 14), .int .u8 (f 15), .int .u8 (f 16), .int .u8 (f 17), .int .u8 (f 18), .int .u8 (f 19), .int .u8 (f 20), .int .u8 (f 21), .int .u8 (f 22), .int .u8 (f 23), .int .u8 (f 24), .int .u8 (f 25), .int .u8 (f 26), .int .u8 (f 27), .int .u8 (f 28), .int .u8 (f 29), .int .u8 (f 30), .int .u8 (f 31)], .cells 27 [.int .i64 c, .row 0]]⟩) (μ := fun x => n - x.i.toNat) ⟨0, by omega, by omega, fun k hk => absurd hk (by omega)⟩ (by kernel_rfl) [0, 1, 2] ?h0 ?rd
    case h0 =>
      refine ⟨rfl, by decide, ?_, ?_⟩ <;> repeat' (first | exact trivial | exact rfl | apply And.intro | exact (fun _ _ _ _ => Cell.le_refl _) | (intro i hi; rfl) | (intro i hi; exact absurd hi (Nat.not_lt_zero _)))
    case rd =>
      rintro ⟨i, hi0, hin, hP⟩
      unfold sMayPr sStnd sRRoot
      generalize hg0 : (List.length : List UInt8 → Nat) = g0
      generalize hL : lft Tryd.prog _ = L
      try dsimp only
      try unfold leafG
      generalize ho0 : @ltB = zo0, ho1 : @rootF = zo1, ho2 : @hOf = zo2, ho3 : @HashC = zo3, ho4 : @u8s = zo4, ho5 : @lK = zo5, ho6 : @lV = zo6, ho7 : @lI = zo7, ho8 : @lP = zo8, ho9 : @lN = zo9, ho10 : @pG = zo10, ho11 : @leafL = zo11, ho12 : @leavesPre = zo12, ho13 : @mayL = zo13, ho14 : @stAt = zo14, ho15 : @underB = zo15, ho16 : @lackE = zo16, ho17 : @lackB = zo17, ho18 : @eqH = zo18, ho19 : @rstPre = zo19, ho20 : @rvlPre = zo20
      generalize hA : Arith.std = A
      cbv
      subst hA hg0 hL ho0 ho1 ho2 ho3 ho4 ho5 ho6 ho7 ho8 ho9 ho10 ho11 ho12 ho13 ho14 ho15 ho16 ho17 ho18 ho19 ho20
      simp only [e1, hU]
      replace hi0 : 0 ≤ i := hi0
      replace hin : i ≤ @Nat.cast Int instNatCastInt n := hin
      replace hP : ∀ k, k < i.toNat → stAt F c L k = true := hP
      refine Ife.mk (fun hlt => ?_) (fun hlt => ?_)
      · replace hlt : i < @Nat.cast Int instNatCastInt n := of_decide_eq_true (p := i < (n : Int)) hlt
        have hiL : i.toNat < L.length := by omega
        refine Need.mk (q2 hmay i hi0 hlt) fun _ => ?_
        refine Ife.mk (fun h => ?_) (fun h => ?_)
        · have h : stAt F c L i.toNat = false := by simpa using (show (!stAt F c L i.toNat) = true from h)
          have hun : underB F c L = false := all_no hiL (by rw [h]; simp)
          have hb : B = false := by rw [← hB]; unfold lackB; rw [hmay, hun]; rfl
          refine hQ.out _ _ _ ?_
          generalize hg0 : (List.length : List UInt8 → Nat) = g0
          generalize hg1 : lft Tryd.prog 1 = g1
          try unfold leafG
          generalize ho0 : @ltB = zo0, ho1 : @rootF = zo1, ho2 : @hOf = zo2, ho3 : @HashC = zo3, ho4 : @u8s = zo4, ho5 : @lK = zo5, ho6 : @lV = zo6, ho7 : @lI = zo7, ho8 : @lP = zo8, ho9 : @lN = zo9, ho10 : @pG = zo10, ho11 : @leafL = zo11, ho12 : @leavesPre = zo12, ho13 : @mayL = zo13, ho14 : @stAt = zo14, ho15 : @underB = zo15, ho16 : @lackE = zo16, ho17 : @lackB = zo17, ho18 : @eqH = zo18, ho19 : @rstPre = zo19, ho20 : @rvlPre = zo20
          generalize hA : Arith.std = A
          cbv
          subst hA hg0 hg1 ho0 ho1 ho2 ho3 ho4 ho5 ho6 ho7 ho8 ho9 ho10 ho11 ho12 ho13 ho14 ho15 ho16 ho17 ho18 ho19 ho20
          rw [hb]
          exact ⟨[0], ⟨rfl, by repeat' (first | exact trivial | exact rfl | apply And.intro | exact (fun _ _ _ _ => Cell.le_refl _) | (intro i hi; rfl) | (intro i hi; exact absurd hi (Nat.not_lt_zero _))), by decide, rfl, by repeat' (first | exact trivial | exact rfl | apply And.intro | exact (fun _ _ _ _ => Cell.le_refl _) | (intro i hi; rfl) | (intro i hi; exact absurd hi (Nat.not_lt_zero _)))⟩⟩
        · have h : stAt F c L i.toNat = true := by simpa using (show (!stAt F c L i.toNat) = false from h)
          refine Need.mk (by show fitStd .i64 (i + 1); unfold fitStd; omega) fun _ => ?_
          refine ⟨⟨i + 1, by omega, by omega, lix_next hi0 hP h⟩, [0, 1, 2], (by show n - (i + 1).toNat < n - i.toNat; omega), ?_⟩
          refine ⟨rfl, by decide, ?_, ?_⟩ <;> repeat' (first | exact trivial | exact rfl | apply And.intro | exact (fun _ _ _ _ => Cell.le_refl _) | (intro i hi; rfl) | (intro i hi; exact absurd hi (Nat.not_lt_zero _)))
      replace hlt : ¬ i < @Nat.cast Int instNatCastInt n := of_decide_eq_false (p := i < (n : Int)) hlt
      have hun : underB F c L = true := all_yes hP (by omega)
      have hbe : B = lackE F c L k := by rw [← hB]; unfold lackB; rw [hmay, hun]; rfl
      unfold lackE at hbe
      refine hQ.out _ _ _ ?_
      unfold sRRoot
      generalize hg0 : (List.length : List UInt8 → Nat) = g0
      generalize hL : lft Tryd.prog _ = L
      try unfold leafG
      generalize ho0 : @ltB = zo0, ho1 : @rootF = zo1, ho2 : @hOf = zo2, ho3 : @HashC = zo3, ho4 : @u8s = zo4, ho5 : @lK = zo5, ho6 : @lV = zo6, ho7 : @lI = zo7, ho8 : @lP = zo8, ho9 : @lN = zo9, ho10 : @pG = zo10, ho11 : @leafL = zo11, ho12 : @leavesPre = zo12, ho13 : @mayL = zo13, ho14 : @stAt = zo14, ho15 : @underB = zo15, ho16 : @lackE = zo16, ho17 : @lackB = zo17, ho18 : @eqH = zo18, ho19 : @rstPre = zo19, ho20 : @rvlPre = zo20
      generalize hs0 : @leafGP = zs0
      generalize hA : Arith.std = A
      cbv
      subst hA hg0 hL ho0 ho1 ho2 ho3 ho4 ho5 ho6 ho7 ho8 ho9 ho10 ho11 ho12 ho13 ho14 ho15 ho16 ho17 ho18 ho19 ho20 hs0
      refine Ife.mk (fun h => ?_) (fun h => ?_)
      · have h : (@Nat.cast Int instNatCastInt n) = 0 := of_decide_eq_true (p := (n : Int) = 0) h
        rw [if_pos (by omega)] at hbe
        refine Ife.mk (fun h2 => ?_) (fun h2 => ?_)
        · have h2 : c = 0 := of_decide_eq_true (p := c = 0) h2
          refine Need.mk ⟨fun _ => 0, rfl, fun _ => ⟨Int.le_refl 0, (by decide : (0 : Int) < 256)⟩⟩ fun _ => ?_
          rw [show B = eqH (hOf (hashC f)) (rootF 0 (hashB fun _ => 0)) by rw [hbe, decide_eq_true h2, Bool.true_and, ← hU]; rfl]
          exact ⟨[0], ⟨rfl, by repeat' (first | exact trivial | exact rfl | apply And.intro | exact (fun _ _ _ _ => Cell.le_refl _) | (intro i hi; rfl) | (intro i hi; exact absurd hi (Nat.not_lt_zero _))), by decide, rfl, by repeat' (first | exact trivial | exact rfl | apply And.intro | exact (fun _ _ _ _ => Cell.le_refl _) | (intro i hi; rfl) | (intro i hi; exact absurd hi (Nat.not_lt_zero _)))⟩⟩
        · have h2 : ¬ c = 0 := of_decide_eq_false (p := c = 0) h2
          rw [show B = false by rw [hbe, decide_eq_false h2]; rfl]
          exact ⟨[0], ⟨rfl, by repeat' (first | exact trivial | exact rfl | apply And.intro | exact (fun _ _ _ _ => Cell.le_refl _) | (intro i hi; rfl) | (intro i hi; exact absurd hi (Nat.not_lt_zero _))), by decide, rfl, by repeat' (first | exact trivial | exact rfl | apply And.intro | exact (fun _ _ _ _ => Cell.le_refl _) | (intro i hi; rfl) | (intro i hi; exact absurd hi (Nat.not_lt_zero _)))⟩⟩
      have hn0 : ¬ (n : Int) = 0 := of_decide_eq_false (p := (n : Int) = 0) h
      rw [if_neg (by omega)] at hbe
      refine Ife.mk (fun h => ?_) (fun h => ?_)
      · have h : (@Nat.cast Int instNatCastInt n) = 1 := of_decide_eq_true (p := (n : Int) = 1) h
        rw [if_pos (by omega)] at hbe
        have hL1 : L.length = 1 := by omega
        have p0 : (0 : Int) ≤ 0 ∧ (0 : Int) < (n : Int) := by omega
        have p1 : (0 : Int).toNat < n := by omega
        have hcr := (mayL_all hmay).1
        have p2 : fitStd .i64 (c - 1) := by unfold fitStd; omega
        generalize hg0 : (List.length : List UInt8 → Nat) = g0
        generalize hg1 : lft Tryd.prog 1 = g1
        try unfold leafG
        generalize ho0 : @ltB = zo0, ho1 : @rootF = zo1, ho2 : @hOf = zo2, ho3 : @HashC = zo3, ho4 : @u8s = zo4, ho5 : @lK = zo5, ho6 : @lV = zo6, ho7 : @lI = zo7, ho8 : @lP = zo8, ho9 : @lN = zo9, ho10 : @pG = zo10, ho11 : @leafL = zo11, ho12 : @leavesPre = zo12, ho13 : @mayL = zo13, ho14 : @stAt = zo14, ho15 : @underB = zo15, ho16 : @lackE = zo16, ho17 : @lackB = zo17, ho18 : @eqH = zo18, ho19 : @rstPre = zo19, ho20 : @rvlPre = zo20
        generalize hA : Arith.std = A
        cbv
        subst hA hg0 hg1 ho0 ho1 ho2 ho3 ho4 ho5 ho6 ho7 ho8 ho9 ho10 ho11 ho12 ho13 ho14 ho15 ho16 ho17 ho18 ho19 ho20
        refine Need.mk p0 fun _ => Need.mk p1 fun _ => ?_
        refine Ife.mk (fun h2 => ?_) (fun h2 => ?_)
        · have h2 : lI L 0 = 0 := of_decide_eq_true (p := lI L 0 = 0) h2
          refine Ife.mk (fun h3 => ?_) (fun h3 => ?_)
          · have h3 : ltB k (lK L 0) = true := h3
            rw [show B = true by rw [hbe, decide_eq_true h2, h3]; rfl]
            exact ⟨[0], ⟨rfl, by repeat' (first | exact trivial | exact rfl | apply And.intro | exact (fun _ _ _ _ => Cell.le_refl _) | (intro i hi; rfl) | (intro i hi; exact absurd hi (Nat.not_lt_zero _))), by decide, rfl, by repeat' (first | exact trivial | exact rfl | apply And.intro | exact (fun _ _ _ _ => Cell.le_refl _) | (intro i hi; rfl) | (intro i hi; exact absurd hi (Nat.not_lt_zero _)))⟩⟩
          · have h3 : ltB k (lK L 0) = false := h3
            refine Need.mk p2 fun _ => ?_
            refine Ife.mk (fun h4 => ?_) (fun h4 => ?_)
            · have h4 : lI L 0 = c - 1 := of_decide_eq_true (p := lI L 0 = c - 1) h4
              rw [show B = ltB (lK L 0) k by rw [hbe, decide_eq_true h2, h3, decide_eq_true h4]; rfl]
              exact ⟨[0], ⟨rfl, by repeat' (first | exact trivial | exact rfl | apply And.intro | exact (fun _ _ _ _ => Cell.le_refl _) | (intro i hi; rfl) | (intro i hi; exact absurd hi (Nat.not_lt_zero _))), by decide, rfl, by repeat' (first | exact trivial | exact rfl | apply And.intro | exact (fun _ _ _ _ => Cell.le_refl _) | (intro i hi; rfl) | (intro i hi; exact absurd hi (Nat.not_lt_zero _)))⟩⟩
            · have h4 : ¬ lI L 0 = c - 1 := of_decide_eq_false (p := lI L 0 = c - 1) h4
              rw [show B = false by rw [hbe, decide_eq_true h2, h3, decide_eq_false h4]; rfl]
              exact ⟨[0], ⟨rfl, by repeat' (first | exact trivial | exact rfl | apply And.intro | exact (fun _ _ _ _ => Cell.le_refl _) | (intro i hi; rfl) | (intro i hi; exact absurd hi (Nat.not_lt_zero _))), by decide, rfl, by repeat' (first | exact trivial | exact rfl | apply And.intro | exact (fun _ _ _ _ => Cell.le_refl _) | (intro i hi; rfl) | (intro i hi; exact absurd hi (Nat.not_lt_zero _)))⟩⟩
        · have h2 : ¬ lI L 0 = 0 := of_decide_eq_false (p := lI L 0 = 0) h2
          refine Need.mk p2 fun _ => ?_
          refine Ife.mk (fun h4 => ?_) (fun h4 => ?_)
          · have h4 : lI L 0 = c - 1 := of_decide_eq_true (p := lI L 0 = c - 1) h4
            rw [show B = ltB (lK L 0) k by rw [hbe, decide_eq_false h2, decide_eq_true h4]; rfl]
            exact ⟨[0], ⟨rfl, by repeat' (first | exact trivial | exact rfl | apply And.intro | exact (fun _ _ _ _ => Cell.le_refl _) | (intro i hi; rfl) | (intro i hi; exact absurd hi (Nat.not_lt_zero _))), by decide, rfl, by repeat' (first | exact trivial | exact rfl | apply And.intro | exact (fun _ _ _ _ => Cell.le_refl _) | (intro i hi; rfl) | (intro i hi; exact absurd hi (Nat.not_lt_zero _)))⟩⟩
          · have h4 : ¬ lI L 0 = c - 1 := of_decide_eq_false (p := lI L 0 = c - 1) h4
            rw [show B = false by rw [hbe, decide_eq_false h2, decide_eq_false h4]; rfl]
            exact ⟨[0], ⟨rfl, by repeat' (first | exact trivial | exact rfl | apply And.intro | exact (fun _ _ _ _ => Cell.le_refl _) | (intro i hi; rfl) | (intro i hi; exact absurd hi (Nat.not_lt_zero _))), by decide, rfl, by repeat' (first | exact trivial | exact rfl | apply And.intro | exact (fun _ _ _ _ => Cell.le_refl _) | (intro i hi; rfl) | (intro i hi; exact absurd hi (Nat.not_lt_zero _)))⟩⟩
      have hn1 : ¬ (n : Int) = 1 := of_decide_eq_false (p := (n : Int) = 1) h
      rw [if_neg (by omega)] at hbe
      have hcr := (mayL_all hmay).1
      have p0 : (0 : Int) ≤ 0 ∧ (0 : Int) < (n : Int) := by omega
      have p1 : (0 : Int).toNat < n := by omega
      have q0 : (0 : Int) ≤ 1 ∧ (1 : Int) < (n : Int) := by omega
      have q1' : (1 : Int).toNat < n := by omega
      have m0 := mayAt_iff.1 ((mayL_all hmay).2 0 (by omega))
      have m1 := mayAt_iff.1 ((mayL_all hmay).2 1 (by omega))
      have hfit : fitStd .i64 (lI L 0 + 1) := by unfold fitStd; omega
      have hdd : ∀ b : Bool, (decide (lI L 1 - lI L 0 = 1) && b) = (decide (lI L 1 = lI L 0 + 1) && b) := fun b => by
        congr 1
        rw [Bool.eq_iff_iff, decide_eq_true_iff, decide_eq_true_iff]
        omega
      rw [hdd] at hbe
      generalize hg0 : (List.length : List UInt8 → Nat) = g0
      generalize hg1 : @Vx.Ife = g1
      generalize hg2 : @Vx.Both = g2
      generalize hL : lft Tryd.prog _ = L
      try unfold leafG
      generalize ho0 : @ltB = zo0, ho1 : @rootF = zo1, ho2 : @hOf = zo2, ho3 : @HashC = zo3, ho4 : @u8s = zo4, ho5 : @lK = zo5, ho6 : @lV = zo6, ho7 : @lI = zo7, ho8 : @lP = zo8, ho9 : @lN = zo9, ho10 : @pG = zo10, ho11 : @leafL = zo11, ho12 : @leavesPre = zo12, ho13 : @mayL = zo13, ho14 : @stAt = zo14, ho15 : @underB = zo15, ho16 : @lackE = zo16, ho17 : @lackB = zo17, ho18 : @eqH = zo18, ho19 : @rstPre = zo19, ho20 : @rvlPre = zo20
      generalize hA : Arith.std = A
      cbv
      subst hA hg0 hg1 hg2 hL ho0 ho1 ho2 ho3 ho4 ho5 ho6 ho7 ho8 ho9 ho10 ho11 ho12 ho13 ho14 ho15 ho16 ho17 ho18 ho19 ho20
      refine Need.mk p0 fun _ => Need.mk q0 fun _ => ?_
      repeat' (with_reducible refine Both.mk ?_ ?_)
      all_goals
        generalize hg0 : (List.length : List UInt8 → Nat) = g0
        generalize hg1 : @Vx.Ife = g1
        generalize hg2 : lft Tryd.prog 1 = g2
        try unfold leafG
        generalize ho0 : @ltB = zo0, ho1 : @rootF = zo1, ho2 : @hOf = zo2, ho3 : @HashC = zo3, ho4 : @u8s = zo4, ho5 : @lK = zo5, ho6 : @lV = zo6, ho7 : @lI = zo7, ho8 : @lP = zo8, ho9 : @lN = zo9, ho10 : @pG = zo10, ho11 : @leafL = zo11, ho12 : @leavesPre = zo12, ho13 : @mayL = zo13, ho14 : @stAt = zo14, ho15 : @underB = zo15, ho16 : @lackE = zo16, ho17 : @lackB = zo17, ho18 : @eqH = zo18, ho19 : @rstPre = zo19, ho20 : @rvlPre = zo20
        generalize hA : Arith.std = A
        cbv
        subst hA hg0 hg1 hg2 ho0 ho1 ho2 ho3 ho4 ho5 ho6 ho7 ho8 ho9 ho10 ho11 ho12 ho13 ho14 ho15 ho16 ho17 ho18 ho19 ho20
        repeat' (first | with_reducible refine Both.mk ?_ ?_ | ((with_reducible refine Need.mk ?_ fun _ => ?_); · first | exact p0 | exact p1 | exact q0 | exact q1' | exact hfit))
        all_goals
          generalize hg0 : (List.length : List UInt8 → Nat) = g0
          generalize hg1 : lft Tryd.prog 1 = g1
          try unfold leafG
          generalize ho0 : @ltB = zo0, ho1 : @rootF = zo1, ho2 : @hOf = zo2, ho3 : @HashC = zo3, ho4 : @u8s = zo4, ho5 : @lK = zo5, ho6 : @lV = zo6, ho7 : @lI = zo7, ho8 : @lP = zo8, ho9 : @lN = zo9, ho10 : @pG = zo10, ho11 : @leafL = zo11, ho12 : @leavesPre = zo12, ho13 : @mayL = zo13, ho14 : @stAt = zo14, ho15 : @underB = zo15, ho16 : @lackE = zo16, ho17 : @lackB = zo17, ho18 : @eqH = zo18, ho19 : @rstPre = zo19, ho20 : @rvlPre = zo20
          generalize hA : Arith.std = A
          cbv
          subst hA hg0 hg1 ho0 ho1 ho2 ho3 ho4 ho5 ho6 ho7 ho8 ho9 ho10 ho11 ho12 ho13 ho14 ho15 ho16 ho17 ho18 ho19 ho20
          refine Ife.mk (fun h2 => ?_) (fun h2 => ?_)
          · have h2 : lI L 1 = lI L 0 + 1 := of_decide_eq_true (p := lI L 1 = lI L 0 + 1) h2
            refine Ife.mk (fun h3 => ?_) (fun h3 => ?_)
            · have h3 : ltB (lK L 0) k = true := h3
              rw [show B = ltB k (lK L 1) by rw [hbe, decide_eq_true h2, h3]; rfl]
              exact ⟨[0], ⟨rfl, by repeat' (first | exact trivial | exact rfl | apply And.intro | exact (fun _ _ _ _ => Cell.le_refl _) | (intro i hi; rfl) | (intro i hi; exact absurd hi (Nat.not_lt_zero _))), by decide, rfl, by repeat' (first | exact trivial | exact rfl | apply And.intro | exact (fun _ _ _ _ => Cell.le_refl _) | (intro i hi; rfl) | (intro i hi; exact absurd hi (Nat.not_lt_zero _)))⟩⟩
            · have h3 : ltB (lK L 0) k = false := h3
              rw [show B = false by rw [hbe, decide_eq_true h2, h3]; rfl]
              exact ⟨[0], ⟨rfl, by repeat' (first | exact trivial | exact rfl | apply And.intro | exact (fun _ _ _ _ => Cell.le_refl _) | (intro i hi; rfl) | (intro i hi; exact absurd hi (Nat.not_lt_zero _))), by decide, rfl, by repeat' (first | exact trivial | exact rfl | apply And.intro | exact (fun _ _ _ _ => Cell.le_refl _) | (intro i hi; rfl) | (intro i hi; exact absurd hi (Nat.not_lt_zero _)))⟩⟩
          · have h2 : ¬ lI L 1 = lI L 0 + 1 := of_decide_eq_false (p := lI L 1 = lI L 0 + 1) h2
            rw [show B = false by rw [hbe, decide_eq_false h2]; rfl]
            exact ⟨[0], ⟨rfl, by repeat' (first | exact trivial | exact rfl | apply And.intro | exact (fun _ _ _ _ => Cell.le_refl _) | (intro i hi; rfl) | (intro i hi; exact absurd hi (Nat.not_lt_zero _))), by decide, rfl, by repeat' (first | exact trivial | exact rfl | apply And.intro | exact (fun _ _ _ _ => Cell.le_refl _) | (intro i hi; rfl) | (intro i hi; exact absurd hi (Nat.not_lt_zero _)))⟩⟩

end Go.Proofs.YthomoliklfmnkaaDoor.Vx
end
