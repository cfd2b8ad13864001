/- The law BatchGroups, by the walker. -/
import Derived.Test.YthomoliklfmnkaaM33
import Derived.Test.YthomoliklfmnkaaM32
namespace Go.Proofs.Ythomoliklfmnkaa.Vx
open Go.RowKit
set_option linter.unusedVariables false
set_option linter.unusedSimpArgs false
def itOf5 : List CV → It
  | [.int _ k, .int _ t, .str p, .int _ c, .int _ s] => ⟨k, t, p, c, s⟩
  | _ => it0
def itsL (n : Nat) (get : Nat → List CV) : List It := (List.range n).map fun i => itOf5 (get i)
def bosOf : List CV → Bool
  | [.bool b] => b
  | _ => false
def bosL (n : Nat) (get : Nat → List CV) : List Bool := (List.range n).map fun i => bosOf (get i)
def itPre (ty sz n : Nat) (get : Nat → List CV) : Prop := ty = 66 ∧ sz = 5 ∧ (∀ i, i < n → get i = itG (itsL n get) i) ∧ n ≤ 9223372036854775807
def boPre (ty sz n : Nat) (get : Nat → List CV) : Prop := ty = 4 ∧ sz = 1 ∧ (∀ i, i < n → get i = boG (bosL n get) i) ∧ n ≤ 9223372036854775807
theorem itsL_len {n : Nat} {get : Nat → List CV} : (itsL n get).length = n := by simp [itsL]
theorem bosL_len {n : Nat} {get : Nat → List CV} : (bosL n get).length = n := by simp [bosL]
theorem itPre_law {L : List It} (h : L.length ≤ 9223372036854775807) : itPre 66 5 L.length (itG L) := by
  have e : itsL L.length (itG L) = L := by
    apply List.ext_getElem itsL_len
    intro i h1 h2
    simp only [itsL, List.getElem_map, List.getElem_range]
    show (⟨itK L i, itT L i, itP L i, itC L i, itS L i⟩ : It) = L[i]
    unfold itK itT itP itC itS
    rw [show L.getD i it0 = L[i] by simp [List.getD, h2]]
  exact ⟨rfl, rfl, fun i _ => by rw [e], h⟩
theorem boPre_law {O : List Bool} (h : O.length ≤ 9223372036854775807) : boPre 4 1 O.length (boG O) := by
  have e : bosL O.length (boG O) = O := by
    apply List.ext_getElem bosL_len
    intro i h1 h2
    simp only [bosL, List.getElem_map, List.getElem_range]
    show bA O i = O[i]
    simp [bA, List.getD, h2]
  exact ⟨rfl, rfl, fun i _ => by rw [e], h⟩
theorem gRun_pre {L : List It} {O : List Bool} {k : Nat} : ∀ n, k ≤ n → ∃ r, (gRun L O n).2 = (gRun L O k).2 ++ r
  | 0, h => by
    have : k = 0 := by omega
    subst this
    exact ⟨[], by simp⟩
  | n + 1, h => by
    rcases Nat.lt_or_ge n k with h1 | h1
    · have : k = n + 1 := by omega
      subst this
      exact ⟨[], by simp⟩
    · obtain ⟨r, e⟩ := gRun_pre (L := L) (O := O) n h1
      rw [gRun_succ]
      unfold gStep
      split
      · exact ⟨r ++ [mpGet (itKey L n) (gMap L (gRun L O n).1 n)], by show (gRun L O n).2 ++ _ = _; rw [e, List.append_assoc]⟩
      · exact ⟨r ++ [0], by show (gRun L O n).2 ++ _ = _; rw [e, List.append_assoc]⟩
theorem iA_app {l r : List Int} {k : Nat} (h : k < l.length) : iA (l ++ r) k = iA l k := by
  unfold iA
  rw [List.getD_eq_getElem?_getD, List.getD_eq_getElem?_getD, List.getElem?_append_left h]
theorem grp_at {L : List It} {O : List Bool} {i n : Nat} (h : i < n) : iA (grpL L O n) i = iA (gRun L O (i + 1)).2 i := by
  obtain ⟨r, e⟩ := gRun_pre (L := L) (O := O) (k := i + 1) n h
  unfold grpL
  rw [e, iA_app (by rw [(gOk (L := L) (O := O) (i + 1)).len]; omega)]
/-- How many groups there are, so far. -/
noncomputable def gNum (L : List It) (O : List Bool) (i : Nat) : Int := ((gRun L O i).1.length : Int)
theorem gNum_zero {L : List It} {O : List Bool} : gNum L O 0 = 0 := rfl
theorem gNum_le {L : List It} {O : List Bool} {i : Nat} : 0 ≤ gNum L O i ∧ gNum L O i ≤ (i : Int) := by
  have := (gOk (L := L) (O := O) i).ml
  unfold gNum
  omega
theorem grp_in {L : List It} {O : List Bool} {i n : Nat} (h : i < n) : decide (0 < iA (grpL L O n) i) = gIn L O i ∧ 0 ≤ iA (grpL L O n) i ∧ iA (grpL L O n) i ≤ gNum L O i + 1 ∧ max (gNum L O i) (iA (grpL L O n) i) = gNum L O (i + 1) := by
  have hk := gOk (L := L) (O := O) i
  have hk1 := gOk (L := L) (O := O) (i + 1)
  rw [grp_at h]
  cases hi : gIn L O i with
  | false =>
    have e := hk1.out i (by omega) hi
    have hs : gRun L O (i + 1) = ((gRun L O i).1, (gRun L O i).2 ++ [0]) := by
      rw [gRun_succ]
      unfold gStep
      rw [if_neg (by rw [hi]; decide)]
    rw [e]
    have := gNum_le (L := L) (O := O) (i := i)
    refine ⟨rfl, by omega, by omega, ?_⟩
    have e2 : gNum L O (i + 1) = gNum L O i := by unfold gNum; rw [hs]
    rw [e2]
    omega
  | true =>
    obtain ⟨h1, h2⟩ := hk1.inn i (by omega) hi
    have hs : gRun L O (i + 1) = (gMap L (gRun L O i).1 i, (gRun L O i).2 ++ [mpGet (itKey L i) (gMap L (gRun L O i).1 i)]) := by
      rw [gRun_succ]
      unfold gStep
      rw [if_pos hi]
    obtain ⟨g1, g2, g3, g4, g5, g6⟩ := hk.gm.step (L := L) i
    have e : mpGet (itKey L i) (gRun L O (i + 1)).1 = mpGet (itKey L i) (gMap L (gRun L O i).1 i) := by rw [hs]
    have e2 : gNum L O (i + 1) = ((gMap L (gRun L O i).1 i).length : Int) := by unfold gNum; rw [hs]
    have e3 : gNum L O i = ((gRun L O i).1.length : Int) := rfl
    refine ⟨by rw [decide_eq_true h1], by omega, ?_, ?_⟩
    · rw [h2, e, e3]
      omega
    · rw [h2, e, e2, e3]
      omega
/-- Do two items belong together? -/
def gSame (L : List It) (i k : Nat) : Bool := decide (itK L i = itK L k) && (decide (itT L i = itT L k) && (decide (itP L i = itP L k) && decide (itC L i = itC L k)))
theorem itKey_eq {L : List It} {i k : Nat} : itKey L i = itKey L k ↔ gSame L i k = true := by
  unfold itKey gSame
  simp only [Bool.and_eq_true, decide_eq_true_iff]
  constructor
  · intro h
    injection h with h
    simp at h
    exact ⟨h.1, h.2.1, h.2.2.1, h.2.2.2⟩
  · rintro ⟨h1, h2, h3, h4⟩
    rw [h1, h2, h3, h4]
theorem grp_same {L : List It} {O : List Bool} {i k n : Nat} (hi : i < n) (hk : k < n) (h1 : gIn L O i = true) (h2 : 0 < iA (grpL L O n) k) : decide (iA (grpL L O n) k = iA (grpL L O n) i) = gSame L i k := by
  have hok := gOk (L := L) (O := O) n
  have hkin : gIn L O k = true := by
    cases h : gIn L O k
    · have := hok.out k hk h
      unfold grpL at h2
      omega
    · rfl
  obtain ⟨a1, a2⟩ := hok.inn i hi h1
  obtain ⟨b1, b2⟩ := hok.inn k hk hkin
  have : (iA (grpL L O n) k = iA (grpL L O n) i) ↔ gSame L i k = true := by
    unfold grpL
    rw [← itKey_eq]
    constructor
    · intro e
      have h3 := hok.gm.inj (itKey L k) (itKey L i) (by omega) (by rw [← a2, ← b2]; exact e)
      exact h3.symm
    · intro e
      rw [b2, a2, e]
  cases h : gSame L i k
  · exact decide_eq_false fun e => by rw [this, h] at e; cases e
  · exact decide_eq_true (this.2 h)
structure LJs (n : Nat) where
  k : Nat
  h1 : k ≤ n
structure LGo (L : List It) (O : List Bool) (n : Nat) where
  i : Nat
  m : Int
  h1 : i ≤ n
  hm : m = gNum L O i
structure LGi (i : Nat) where
  k : Nat
  h1 : k ≤ i
attribute [local cbv_opaque] itK itT itP itC itS bA itKey jbL jbO jbPre gIn gMap gStep gRun grpL mpGet mpSet mpLen iL iA itsL bosL itPre boPre gNum gSame
def sBatchGroups : SpecF
  | [.c (.row 0), .c (.row 1)], [.elems ty sz n get, .elems ty' sz' n' get'] => some (itPre ty sz n get ∧ boPre ty' sz' n' get', .c .tt, [.dead, .dead])
  | _, _ => none

set_option maxRecDepth 100000 in
set_option maxHeartbeats 16000000 in
theorem batchGroupsP : Fn Try.prog 7 [] [(66, 5), (4, 1)] sBatchGroups := by
  have hC : CtsOk Try.prog [(14, appFn [] [] sFirst28), (22, appFn [] [(68, 17)] sGroups)] := CtsOk.cons (Fn.ct first28P) <| CtsOk.cons (Fn.ct groupsP) <| CtsOk.nil _
  refine Fn.of (E := tbGr) [] 0 [(9, [(2002, false), (0, true), (1, true), (2, true), (3, true), (4, true), (5, true), (6, true), (7, true), (8, true), (9, true), (10, false), (11, false), (12, true)]), (24, [(0, true), (1, true), (2, true), (3, true), (4, true), (5, true), (6, true), (7, true), (8, true), (9, true), (10, true), (11, true), (12, true), (13, true), (14, true), (15, true), (16, true), (17, true), (18, true), (19, true), (20, true), (21, true), (22, true), (23, true), (24, true), (25, true), (26, true), (27, true), (28, true), (29, true), (30, true), (31, true), (32, true), (33, true), (34, true), (35, true), (36, true), (37, true)]), (25, [(0, true), (1, true), (2, true), (3, true), (4, true), (5, true), (6, true), (7, true), (8, true), (9, true), (10, true), (11, true), (12, true), (13, true), (14, true), (15, true), (16, true), (17, true), (18, true), (19, true), (20, true)])] tbGr_ok hC (by kernel_rfl) Try.func7 rfl rfl rfl (by kernel_rfl) (by kernel_rfl) 2 5 1 ?_ ?_
  · intro args h pre r h' hs
    unfold sBatchGroups at hs
    split at hs
    · cases hs; exact ⟨rfl, rfl, Nat.le_of_ble_eq_true rfl⟩
    · cases hs
  · intro args h pre r h' hs hp
    unfold sBatchGroups at hs
    split at hs
    rotate_left
    · cases hs
    rename_i ty sz n get ty' sz' n' get'
    cases hs
    obtain ⟨⟨rfl, rfl, hst, hm⟩, ⟨rfl, rfl, hst', hm'⟩⟩ := hp
    refine ⟨[.elems 66 5 n (itG (itsL n get)), .elems 4 1 n' (boG (bosL n' get'))], ⟨⟨rfl, rfl, rfl, fun i hi => by rw [hst i hi]⟩, ⟨rfl, rfl, rfl, fun i hi => by rw [hst' i hi]⟩, trivial⟩, ?_⟩
    have hL : (itsL n get).length = n := itsL_len
    have hO : (bosL n' get').length = n' := bosL_len
    generalize itsL n get = L at *
    generalize bosL n' get' = O at *
    clear hst hst'
    unfold sFirst28 sGroups
    generalize hg0 : (List.length : List Int → Nat) = g0
    generalize hL : lft Try.prog _ = L
    generalize hA : Arith.std = A
    set_option cbv.maxSteps 12000000 in cbv
    subst hA hg0 hL
    refine Need.mk trivial fun _ => ?_
    refine Ife.mk (fun h => ?_) (fun h => ?_)
    · refine Need.mk trivial fun _ => ?_
      exact ⟨[0, 1], ⟨rfl, by repeat' (first | exact trivial | exact rfl | apply And.intro | exact (fun _ _ _ _ => Cell.le_refl _) | (intro i hi; rfl) | (intro i hi; exact absurd hi (Nat.not_lt_zero _))), by decide, rfl, by repeat' (first | exact trivial | exact rfl | apply And.intro | exact (fun _ _ _ _ => Cell.le_refl _) | (intro i hi; rfl) | (intro i hi; exact absurd hi (Nat.not_lt_zero _)))⟩⟩
    have hn30 : n ≤ 30 := by
      have h0 : ¬ (30 : Int) < (n : Int) := of_decide_eq_false (p := (30 : Int) < (n : Int)) h
      omega
    clear h
    refine Ife.mk (fun h => ?_) (fun h => ?_)
    · refine Need.mk trivial fun _ => ?_
      exact ⟨[0, 1], ⟨rfl, by repeat' (first | exact trivial | exact rfl | apply And.intro | exact (fun _ _ _ _ => Cell.le_refl _) | (intro i hi; rfl) | (intro i hi; exact absurd hi (Nat.not_lt_zero _))), by decide, rfl, by repeat' (first | exact trivial | exact rfl | apply And.intro | exact (fun _ _ _ _ => Cell.le_refl _) | (intro i hi; rfl) | (intro i hi; exact absurd hi (Nat.not_lt_zero _)))⟩⟩
    have hnn : n' = n := by
      have h0 : (!decide ((n' : Int) = (n : Int))) = false := h
      have h1 : (n' : Int) = (n : Int) := by simpa using h0
      omega
    clear h
    show Runs Try.prog 2 (.loop _) _ _
    refine loop_ruleE (N := env (lft Try.prog 2) 0 .std tbGr [(14, appFn [] [] sFirst28), (22, appFn [] [(68, 17)] sGroups)] [(9, [(2002, false), (0, true), (1, true), (2, true), (3, true), (4, true), (5, true), (6, true), (7, true), (8, true), (9, true), (10, false), (11, false), (12, true)]), (24, [(0, true), (1, true), (2, true), (3, true), (4, true), (5, true), (6, true), (7, true), (8, true), (9, true), (10, true), (11, true), (12, true), (13, true), (14, true), (15, true), (16, true), (17, true), (18, true), (19, true), (20, true), (21, true), (22, true), (23, true), (24, true), (25, true), (26, true), (27, true), (28, true), (29, true), (30, true), (31, true), (32, true), (33, true), (34, true), (35, true), (36, true), (37, true)]), (25, [(0, true), (1, true), (2, true), (3, true), (4, true), (5, true), (6, true), (7, true), (8, true), (9, true), (10, true), (11, true), (12, true), (13, true), (14, true), (15, true), (16, true), (17, true), (18, true), (19, true), (20, true)])]) rfl tbGr_ok hC (fun c st K _ h => h) (by kernel_rfl) [] (X := LJs n)
      (S := fun x => ⟨[.c (.row 0), .c (.row 1), .any, .any, .any, .c (.row 2), .c (.int .i64 (x.k : Int))] ++ List.replicate 162 .any, [.elems 66 5 n (itG L), .elems 4 1 n' (boG O), .row 68 17 x.k (jbG L O)]⟩) (μ := fun x => n - x.k) ⟨0, by omega⟩ (by kernel_rfl) ?h0 ?rd
    case h0 => exact StT.trans (StT.nil (d := 5) (.row 68 17 0 (jbG L O)) rfl rfl) (StT.ofL (σ := [0, 1, 2]) ⟨rfl, by show List.Nodup [2]; decide, by repeat' (first | exact trivial | exact rfl | apply And.intro | exact (fun _ _ _ _ => Cell.le_refl _) | (intro i hi; rfl) | (intro i hi; exact absurd hi (Nat.not_lt_zero _))), by repeat' (first | exact trivial | exact rfl | apply And.intro | exact (fun _ _ _ _ => Cell.le_refl _) | (intro i hi; rfl) | (intro i hi; exact absurd hi (Nat.not_lt_zero _)))⟩)
    rintro ⟨k, h1⟩
    unfold sFirst28 sGroups
    generalize hg0 : (List.length : List Int → Nat) = g0
    generalize hL : lft Try.prog _ = L
    generalize hA : Arith.std = A
    set_option cbv.maxSteps 12000000 in cbv
    subst hA hg0 hL
    refine Ife.mk (fun hlt => ?_) (fun hlt => ?_)
    · have hk : k < n := Int.ofNat_lt.mp (of_decide_eq_true (p := (k : Int) < (n : Int)) hlt)
      clear hlt
      have ixk : 0 ≤ (k : Int) ∧ (k : Int) < (n : Int) := ⟨Int.natCast_nonneg k, Int.ofNat_lt.mpr hk⟩
      have hk' : k < n' := by omega
      refine Need.mk ixk fun _ => Need.mk hk fun _ => Need.mk (show 0 ≤ (k : Int) ∧ (k : Int) < (n' : Int) from ⟨Int.natCast_nonneg k, Int.ofNat_lt.mpr hk'⟩) fun _ => Need.mk hk' fun _ => ?_
      refine Need.mk (show k + 1 ≤ maxLen ∧ (k + 1) * 176 ≤ 140737488355328 by unfold maxLen; omega) fun _ => ?_
      refine Need.mk (by show fitStd .i64 ((k : Int) + 1); unfold fitStd; omega) fun _ => ?_
      refine ⟨⟨k + 1, hk⟩, (by show n - (k + 1) < n - k; omega), ?_⟩
      have hp1 : ∀ i, i < k + 1 → pushG k (jbG L O) (jbG L O k) i = jbG L O i := fun i hi => by
        rcases Nat.lt_succ_iff_lt_or_eq.1 hi with h | rfl
        · rw [pushG_lt h]
        · rw [pushG_eq]
      have hp2 : True := trivial
      exact StT.ofL (σ := [0, 1, 4]) ⟨rfl, by show List.Nodup [4]; decide, by repeat' (first | exact trivial | exact hp1 | exact hp2 | exact rfl | apply And.intro | exact (fun _ _ _ _ => Cell.le_refl _) | (intro i hi; rfl) | (intro i hi; exact absurd hi (Nat.not_lt_zero _))), by repeat' (first | exact trivial | exact hp1 | exact hp2 | exact rfl | apply And.intro | exact (fun _ _ _ _ => Cell.le_refl _) | (intro i hi; rfl) | (intro i hi; exact absurd hi (Nat.not_lt_zero _)))⟩
    have hke : ¬ k < n := fun h => of_decide_eq_false (p := (k : Int) < (n : Int)) hlt (Int.ofNat_lt.mpr h)
    clear hlt
    have hkn : n = k := by omega
    clear h1 hke
    subst hkn
    obtain ⟨j1, j2⟩ := jb_at hL (hO.trans hnn)
    refine Need.mk (jbPre_of hL (hO.trans hnn) (by omega)) fun _ => ?_
    generalize hE : grpL _ _ n = E
    replace hE : grpL L O n = E := Eq.trans (congr (congr (congrArg grpL j1.symm) j2.symm) rfl) hE
    refine Ife.no (by show (!decide ((n : Int) = (n : Int))) = false; simp) ?_
    show Runs Try.prog 2 (.loop _) _ _
    refine loop_ruleE (N := env (lft Try.prog 2) 0 .std tbGr [(14, appFn [] [] sFirst28), (22, appFn [] [(68, 17)] sGroups)] [(9, [(2002, false), (0, true), (1, true), (2, true), (3, true), (4, true), (5, true), (6, true), (7, true), (8, true), (9, true), (10, false), (11, false), (12, true)]), (24, [(0, true), (1, true), (2, true), (3, true), (4, true), (5, true), (6, true), (7, true), (8, true), (9, true), (10, true), (11, true), (12, true), (13, true), (14, true), (15, true), (16, true), (17, true), (18, true), (19, true), (20, true), (21, true), (22, true), (23, true), (24, true), (25, true), (26, true), (27, true), (28, true), (29, true), (30, true), (31, true), (32, true), (33, true), (34, true), (35, true), (36, true), (37, true)]), (25, [(0, true), (1, true), (2, true), (3, true), (4, true), (5, true), (6, true), (7, true), (8, true), (9, true), (10, true), (11, true), (12, true), (13, true), (14, true), (15, true), (16, true), (17, true), (18, true), (19, true), (20, true)])]) rfl tbGr_ok hC (fun c st K _ h => h) (by kernel_rfl) [] (X := LGo L O n)
      (S := fun x => ⟨[.c (.row 0), .c (.row 1), .any, .any, .any, .any, .any, .c (.row 2), .c (.int .i64 x.m), .c (.int .i64 (x.i : Int))] ++ List.replicate 159 .any, [.elems 66 5 n (itG L), .elems 4 1 n' (boG O), .row 3 1 n (inG E)]⟩) (μ := fun x => n - x.i) ⟨0, 0, by omega, gNum_zero.symm⟩ (by kernel_rfl) ?o0 ?ord
    case o0 => exact StT.ofL (σ := [0, 1, 4]) ⟨rfl, by show List.Nodup [4]; decide, by repeat' (first | exact trivial | exact rfl | apply And.intro | exact (fun _ _ _ _ => Cell.le_refl _) | (intro i hi; rfl) | (intro i hi; exact absurd hi (Nat.not_lt_zero _))), by repeat' (first | exact trivial | exact rfl | apply And.intro | exact (fun _ _ _ _ => Cell.le_refl _) | (intro i hi; rfl) | (intro i hi; exact absurd hi (Nat.not_lt_zero _)))⟩
    rintro ⟨i, m, h1, hmi⟩
    unfold sFirst28 sGroups
    generalize hg0 : (List.length : List Int → Nat) = g0
    generalize hL : lft Try.prog _ = L
    generalize hA : Arith.std = A
    set_option cbv.maxSteps 12000000 in cbv
    subst hA hg0 hL
    refine Ife.mk (fun hlt => ?_) (fun hlt => ?_)
    rotate_left
    · skip
      exact ⟨[0, 1], ⟨rfl, by repeat' (first | exact trivial | exact rfl | apply And.intro | exact (fun _ _ _ _ => Cell.le_refl _) | (intro i hi; rfl) | (intro i hi; exact absurd hi (Nat.not_lt_zero _))), by decide, rfl, by repeat' (first | exact trivial | exact rfl | apply And.intro | exact (fun _ _ _ _ => Cell.le_refl _) | (intro i hi; rfl) | (intro i hi; exact absurd hi (Nat.not_lt_zero _)))⟩⟩
    have hi : i < n := Int.ofNat_lt.mp (of_decide_eq_true (p := (i : Int) < (n : Int)) hlt)
    clear hlt
    have ixn : 0 ≤ (i : Int) ∧ (i : Int) < (n : Int) := ⟨Int.natCast_nonneg i, Int.ofNat_lt.mpr hi⟩
    have hi' : i < n' := by omega
    have ixo : 0 ≤ (i : Int) ∧ (i : Int) < (n' : Int) := ⟨Int.natCast_nonneg i, Int.ofNat_lt.mpr hi'⟩
    obtain ⟨g1, g2, g3, g4⟩ := grp_in (L := L) (O := O) hi
    rw [hE] at g1 g2 g3 g4
    rw [← hmi] at g3 g4
    have gl := gNum_le (L := L) (O := O) (i := i)
    rw [← hmi] at gl
    refine Need.mk ixo fun _ => Need.mk hi' fun _ => ?_
    refine Ife.mk (fun hb => ?_) (fun hb => ?_)
    · have hb' : bA O i = true := hb
      refine Need.mk ixn fun _ => Need.mk hi fun _ => ?_
      refine Ife.mk (fun h1 => ?_) (fun h1 => ?_)
      · have h1' : decide (itK L i = 1) = true := h1
        have hin : gIn L O i = true := by unfold gIn; rw [hb', h1']; rfl
        rw [hin] at g1
        refine Need.mk ixn fun _ => Need.mk hi fun _ => ?_
        refine Ife.no (congrArg (fun b => !b) g1) ?_
        refine Need.mk ixn fun _ => Need.mk hi fun _ => ?_
        refine Ife.no (decide_eq_false (by omega : ¬ iA E i < 0)) ?_
        refine Need.mk ixn fun _ => Need.mk hi fun _ => Need.mk (by show fitStd .i64 (m + 1); unfold fitStd; omega) fun _ => ?_
        refine Ife.no (decide_eq_false (by omega : ¬ m + 1 < iA E i)) ?_
        refine Need.mk ixn fun _ => Need.mk hi fun _ => ?_
        obtain ⟨m', hm'⟩ : ∃ m', m' = max m (iA E i) := ⟨_, rfl⟩
        show Runs Try.prog 2 (.loop _) _ _
        refine loop_ruleE (N := env (lft Try.prog 2) 0 .std tbGr [(14, appFn [] [] sFirst28), (22, appFn [] [(68, 17)] sGroups)] [(9, [(2002, false), (0, true), (1, true), (2, true), (3, true), (4, true), (5, true), (6, true), (7, true), (8, true), (9, true), (10, false), (11, false), (12, true)]), (24, [(0, true), (1, true), (2, true), (3, true), (4, true), (5, true), (6, true), (7, true), (8, true), (9, true), (10, true), (11, true), (12, true), (13, true), (14, true), (15, true), (16, true), (17, true), (18, true), (19, true), (20, true), (21, true), (22, true), (23, true), (24, true), (25, true), (26, true), (27, true), (28, true), (29, true), (30, true), (31, true), (32, true), (33, true), (34, true), (35, true), (36, true), (37, true)]), (25, [(0, true), (1, true), (2, true), (3, true), (4, true), (5, true), (6, true), (7, true), (8, true), (9, true), (10, true), (11, true), (12, true), (13, true), (14, true), (15, true), (16, true), (17, true), (18, true), (19, true), (20, true)])]) rfl tbGr_ok hC (fun c st K _ h => h) (by kernel_rfl) [] (X := LGi i)
          (S := fun x => ⟨[.c (.row 0), .c (.row 1), .any, .any, .any, .any, .any, .c (.row 2), .c (.int .i64 m'), .c (.int .i64 (i : Int)), .c (.bool (gIn L O i)), .c (.int .i64 (x.k : Int))] ++ List.replicate 157 .any, [.elems 66 5 n (itG L), .elems 4 1 n' (boG O), .row 3 1 n (inG E)]⟩) (μ := fun x => i - x.k) ⟨0, by omega⟩ (by kernel_rfl) ?i0x ?irdx
        case i0x => exact StT.ofL (σ := [0, 1, 2]) ⟨rfl, by show List.Nodup [2]; decide, by repeat' (first | exact trivial | exact hin | exact hin.symm | exact hm'.symm | exact (congrArg (fun b => SV.c (CV.bool b)) hin.symm) | exact (congrArg CV.bool hin.symm) | exact rfl | apply And.intro | exact (fun _ _ _ _ => Cell.le_refl _) | (intro i hi; rfl) | (intro i hi; exact absurd hi (Nat.not_lt_zero _))), by repeat' (first | exact trivial | exact hin | exact hin.symm | exact hm'.symm | exact (congrArg (fun b => SV.c (CV.bool b)) hin.symm) | exact (congrArg CV.bool hin.symm) | exact rfl | apply And.intro | exact (fun _ _ _ _ => Cell.le_refl _) | (intro i hi; rfl) | (intro i hi; exact absurd hi (Nat.not_lt_zero _)))⟩
        rintro ⟨k, hk1⟩
        unfold sFirst28 sGroups
        generalize hg0 : (List.length : List Int → Nat) = g0
        generalize hL : lft Try.prog _ = L
        generalize hA : Arith.std = A
        set_option cbv.maxSteps 12000000 in cbv
        subst hA hg0 hL
        refine Ife.mk (fun hlt => ?_) (fun hlt => ?_)
        rotate_left
        · have hke : ¬ k < i := fun h => of_decide_eq_false (p := (k : Int) < (i : Int)) hlt (Int.ofNat_lt.mpr h)
          clear hlt
          refine Need.mk (by show fitStd .i64 ((i : Int) + 1); unfold fitStd; omega) fun _ => ?_
          refine ⟨⟨i + 1, m', hi, by rw [hm', g4]⟩, (by show n - (i + 1) < n - i; omega), ?_⟩
          exact StT.ofL (σ := [0, 1, 2]) ⟨rfl, by show List.Nodup [2]; decide, by repeat' (first | exact trivial | exact rfl | apply And.intro | exact (fun _ _ _ _ => Cell.le_refl _) | (intro i hi; rfl) | (intro i hi; exact absurd hi (Nat.not_lt_zero _))), by repeat' (first | exact trivial | exact rfl | apply And.intro | exact (fun _ _ _ _ => Cell.le_refl _) | (intro i hi; rfl) | (intro i hi; exact absurd hi (Nat.not_lt_zero _)))⟩
        have hk : k < i := Int.ofNat_lt.mp (of_decide_eq_true (p := (k : Int) < (i : Int)) hlt)
        clear hlt
        have hkn : k < n := by omega
        have ixk : 0 ≤ (k : Int) ∧ (k : Int) < (n : Int) := ⟨Int.natCast_nonneg k, Int.ofNat_lt.mpr hkn⟩
        refine Need.mk ixn fun _ => Need.mk hi fun _ => Need.mk ixk fun _ => Need.mk hkn fun _ => ?_
        refine Ife.mk (fun hK => ?_) (fun hK => ?_)
        · have hK' : decide (itK L i = itK L k) = true := hK
          refine Need.mk ixn fun _ => Need.mk hi fun _ => Need.mk ixk fun _ => Need.mk hkn fun _ => ?_
          refine Ife.mk (fun hT => ?_) (fun hT => ?_)
          · have hT' : decide (itT L i = itT L k) = true := hT
            have hgs : gSame L i k = (decide (itP L i = itP L k) && (decide (itC L i = itC L k) && true)) := by unfold gSame; rw [hK', hT']; simp
            refine Need.mk ixn fun _ => Need.mk hi fun _ => Need.mk ixk fun _ => Need.mk hkn fun _ => ?_
            refine Ife.mk (fun hg => ?_) (fun hg => ?_)
            · have hg' : gIn L O i = true := hg
              refine Need.mk ixk fun _ => Need.mk hkn fun _ => ?_
              refine Ife.mk (fun hp => ?_) (fun hp => ?_)
              · have hp' : 0 < iA E k := of_decide_eq_true (p := 0 < iA E k) hp
                have hsm := grp_same (L := L) (O := O) (n := n) hi hkn hg' (by rw [hE]; exact hp')
                rw [hE] at hsm
                refine Need.mk ixk fun _ => Need.mk hkn fun _ => Need.mk ixn fun _ => Need.mk hi fun _ => ?_
                refine Ife.no (by show (!(decide (iA E k = iA E i) == (decide (itP L i = itP L k) && (decide (itC L i = itC L k) && true)))) = false; rw [hsm, hgs]; simp) ?_
                refine Need.mk (by show fitStd .i64 ((k : Int) + 1); unfold fitStd; omega) fun _ => ?_
                refine ⟨⟨k + 1, hk⟩, (by show i - (k + 1) < i - k; omega), ?_⟩
                exact StT.ofL (σ := [0, 1, 2]) ⟨rfl, by show List.Nodup [2]; decide, by repeat' (first | exact trivial | exact rfl | apply And.intro | exact (fun _ _ _ _ => Cell.le_refl _) | (intro i hi; rfl) | (intro i hi; exact absurd hi (Nat.not_lt_zero _))), by repeat' (first | exact trivial | exact rfl | apply And.intro | exact (fun _ _ _ _ => Cell.le_refl _) | (intro i hi; rfl) | (intro i hi; exact absurd hi (Nat.not_lt_zero _)))⟩
              · skip
                refine Need.mk (by show fitStd .i64 ((k : Int) + 1); unfold fitStd; omega) fun _ => ?_
                refine ⟨⟨k + 1, hk⟩, (by show i - (k + 1) < i - k; omega), ?_⟩
                exact StT.ofL (σ := [0, 1, 2]) ⟨rfl, by show List.Nodup [2]; decide, by repeat' (first | exact trivial | exact rfl | apply And.intro | exact (fun _ _ _ _ => Cell.le_refl _) | (intro i hi; rfl) | (intro i hi; exact absurd hi (Nat.not_lt_zero _))), by repeat' (first | exact trivial | exact rfl | apply And.intro | exact (fun _ _ _ _ => Cell.le_refl _) | (intro i hi; rfl) | (intro i hi; exact absurd hi (Nat.not_lt_zero _)))⟩
            · skip
              refine Need.mk (by show fitStd .i64 ((k : Int) + 1); unfold fitStd; omega) fun _ => ?_
              refine ⟨⟨k + 1, hk⟩, (by show i - (k + 1) < i - k; omega), ?_⟩
              exact StT.ofL (σ := [0, 1, 2]) ⟨rfl, by show List.Nodup [2]; decide, by repeat' (first | exact trivial | exact rfl | apply And.intro | exact (fun _ _ _ _ => Cell.le_refl _) | (intro i hi; rfl) | (intro i hi; exact absurd hi (Nat.not_lt_zero _))), by repeat' (first | exact trivial | exact rfl | apply And.intro | exact (fun _ _ _ _ => Cell.le_refl _) | (intro i hi; rfl) | (intro i hi; exact absurd hi (Nat.not_lt_zero _)))⟩
          · have hT' : decide (itT L i = itT L k) = false := hT
            have hgs : gSame L i k = false := by unfold gSame; rw [hK', hT']; rfl
            refine Ife.mk (fun hg => ?_) (fun hg => ?_)
            · have hg' : gIn L O i = true := hg
              refine Need.mk ixk fun _ => Need.mk hkn fun _ => ?_
              refine Ife.mk (fun hp => ?_) (fun hp => ?_)
              · have hp' : 0 < iA E k := of_decide_eq_true (p := 0 < iA E k) hp
                have hsm := grp_same (L := L) (O := O) (n := n) hi hkn hg' (by rw [hE]; exact hp')
                rw [hE] at hsm
                refine Need.mk ixk fun _ => Need.mk hkn fun _ => Need.mk ixn fun _ => Need.mk hi fun _ => ?_
                refine Ife.no (congrArg (fun b => !(!b)) (hsm.trans hgs)) ?_
                refine Need.mk (by show fitStd .i64 ((k : Int) + 1); unfold fitStd; omega) fun _ => ?_
                refine ⟨⟨k + 1, hk⟩, (by show i - (k + 1) < i - k; omega), ?_⟩
                exact StT.ofL (σ := [0, 1, 2]) ⟨rfl, by show List.Nodup [2]; decide, by repeat' (first | exact trivial | exact rfl | apply And.intro | exact (fun _ _ _ _ => Cell.le_refl _) | (intro i hi; rfl) | (intro i hi; exact absurd hi (Nat.not_lt_zero _))), by repeat' (first | exact trivial | exact rfl | apply And.intro | exact (fun _ _ _ _ => Cell.le_refl _) | (intro i hi; rfl) | (intro i hi; exact absurd hi (Nat.not_lt_zero _)))⟩
              · skip
                refine Need.mk (by show fitStd .i64 ((k : Int) + 1); unfold fitStd; omega) fun _ => ?_
                refine ⟨⟨k + 1, hk⟩, (by show i - (k + 1) < i - k; omega), ?_⟩
                exact StT.ofL (σ := [0, 1, 2]) ⟨rfl, by show List.Nodup [2]; decide, by repeat' (first | exact trivial | exact rfl | apply And.intro | exact (fun _ _ _ _ => Cell.le_refl _) | (intro i hi; rfl) | (intro i hi; exact absurd hi (Nat.not_lt_zero _))), by repeat' (first | exact trivial | exact rfl | apply And.intro | exact (fun _ _ _ _ => Cell.le_refl _) | (intro i hi; rfl) | (intro i hi; exact absurd hi (Nat.not_lt_zero _)))⟩
            · skip
              refine Need.mk (by show fitStd .i64 ((k : Int) + 1); unfold fitStd; omega) fun _ => ?_
              refine ⟨⟨k + 1, hk⟩, (by show i - (k + 1) < i - k; omega), ?_⟩
              exact StT.ofL (σ := [0, 1, 2]) ⟨rfl, by show List.Nodup [2]; decide, by repeat' (first | exact trivial | exact rfl | apply And.intro | exact (fun _ _ _ _ => Cell.le_refl _) | (intro i hi; rfl) | (intro i hi; exact absurd hi (Nat.not_lt_zero _))), by repeat' (first | exact trivial | exact rfl | apply And.intro | exact (fun _ _ _ _ => Cell.le_refl _) | (intro i hi; rfl) | (intro i hi; exact absurd hi (Nat.not_lt_zero _)))⟩
        · have hK' : decide (itK L i = itK L k) = false := hK
          have hgs : gSame L i k = false := by unfold gSame; rw [hK']; rfl
          refine Ife.mk (fun hg => ?_) (fun hg => ?_)
          · have hg' : gIn L O i = true := hg
            refine Need.mk ixk fun _ => Need.mk hkn fun _ => ?_
            refine Ife.mk (fun hp => ?_) (fun hp => ?_)
            · have hp' : 0 < iA E k := of_decide_eq_true (p := 0 < iA E k) hp
              have hsm := grp_same (L := L) (O := O) (n := n) hi hkn hg' (by rw [hE]; exact hp')
              rw [hE] at hsm
              refine Need.mk ixk fun _ => Need.mk hkn fun _ => Need.mk ixn fun _ => Need.mk hi fun _ => ?_
              refine Ife.no (congrArg (fun b => !(!b)) (hsm.trans hgs)) ?_
              refine Need.mk (by show fitStd .i64 ((k : Int) + 1); unfold fitStd; omega) fun _ => ?_
              refine ⟨⟨k + 1, hk⟩, (by show i - (k + 1) < i - k; omega), ?_⟩
              exact StT.ofL (σ := [0, 1, 2]) ⟨rfl, by show List.Nodup [2]; decide, by repeat' (first | exact trivial | exact rfl | apply And.intro | exact (fun _ _ _ _ => Cell.le_refl _) | (intro i hi; rfl) | (intro i hi; exact absurd hi (Nat.not_lt_zero _))), by repeat' (first | exact trivial | exact rfl | apply And.intro | exact (fun _ _ _ _ => Cell.le_refl _) | (intro i hi; rfl) | (intro i hi; exact absurd hi (Nat.not_lt_zero _)))⟩
            · skip
              refine Need.mk (by show fitStd .i64 ((k : Int) + 1); unfold fitStd; omega) fun _ => ?_
              refine ⟨⟨k + 1, hk⟩, (by show i - (k + 1) < i - k; omega), ?_⟩
              exact StT.ofL (σ := [0, 1, 2]) ⟨rfl, by show List.Nodup [2]; decide, by repeat' (first | exact trivial | exact rfl | apply And.intro | exact (fun _ _ _ _ => Cell.le_refl _) | (intro i hi; rfl) | (intro i hi; exact absurd hi (Nat.not_lt_zero _))), by repeat' (first | exact trivial | exact rfl | apply And.intro | exact (fun _ _ _ _ => Cell.le_refl _) | (intro i hi; rfl) | (intro i hi; exact absurd hi (Nat.not_lt_zero _)))⟩
          · skip
            refine Need.mk (by show fitStd .i64 ((k : Int) + 1); unfold fitStd; omega) fun _ => ?_
            refine ⟨⟨k + 1, hk⟩, (by show i - (k + 1) < i - k; omega), ?_⟩
            exact StT.ofL (σ := [0, 1, 2]) ⟨rfl, by show List.Nodup [2]; decide, by repeat' (first | exact trivial | exact rfl | apply And.intro | exact (fun _ _ _ _ => Cell.le_refl _) | (intro i hi; rfl) | (intro i hi; exact absurd hi (Nat.not_lt_zero _))), by repeat' (first | exact trivial | exact rfl | apply And.intro | exact (fun _ _ _ _ => Cell.le_refl _) | (intro i hi; rfl) | (intro i hi; exact absurd hi (Nat.not_lt_zero _)))⟩
      · have h1' : decide (itK L i = 1) = false := h1
        have hin : gIn L O i = decide (itK L i = 2) := by unfold gIn; rw [hb', h1']; rfl
        rw [hin] at g1
        refine Need.mk ixn fun _ => Need.mk hi fun _ => ?_
        refine Need.mk ixn fun _ => Need.mk hi fun _ => ?_
        refine Ife.no (by show (!(decide (0 < iA E i) == decide (itK L i = 2))) = false; rw [g1]; simp) ?_
        refine Need.mk ixn fun _ => Need.mk hi fun _ => ?_
        refine Ife.no (decide_eq_false (by omega : ¬ iA E i < 0)) ?_
        refine Need.mk ixn fun _ => Need.mk hi fun _ => Need.mk (by show fitStd .i64 (m + 1); unfold fitStd; omega) fun _ => ?_
        refine Ife.no (decide_eq_false (by omega : ¬ m + 1 < iA E i)) ?_
        refine Need.mk ixn fun _ => Need.mk hi fun _ => ?_
        obtain ⟨m', hm'⟩ : ∃ m', m' = max m (iA E i) := ⟨_, rfl⟩
        show Runs Try.prog 2 (.loop _) _ _
        refine loop_ruleE (N := env (lft Try.prog 2) 0 .std tbGr [(14, appFn [] [] sFirst28), (22, appFn [] [(68, 17)] sGroups)] [(9, [(2002, false), (0, true), (1, true), (2, true), (3, true), (4, true), (5, true), (6, true), (7, true), (8, true), (9, true), (10, false), (11, false), (12, true)]), (24, [(0, true), (1, true), (2, true), (3, true), (4, true), (5, true), (6, true), (7, true), (8, true), (9, true), (10, true), (11, true), (12, true), (13, true), (14, true), (15, true), (16, true), (17, true), (18, true), (19, true), (20, true), (21, true), (22, true), (23, true), (24, true), (25, true), (26, true), (27, true), (28, true), (29, true), (30, true), (31, true), (32, true), (33, true), (34, true), (35, true), (36, true), (37, true)]), (25, [(0, true), (1, true), (2, true), (3, true), (4, true), (5, true), (6, true), (7, true), (8, true), (9, true), (10, true), (11, true), (12, true), (13, true), (14, true), (15, true), (16, true), (17, true), (18, true), (19, true), (20, true)])]) rfl tbGr_ok hC (fun c st K _ h => h) (by kernel_rfl) [] (X := LGi i)
          (S := fun x => ⟨[.c (.row 0), .c (.row 1), .any, .any, .any, .any, .any, .c (.row 2), .c (.int .i64 m'), .c (.int .i64 (i : Int)), .c (.bool (gIn L O i)), .c (.int .i64 (x.k : Int))] ++ List.replicate 157 .any, [.elems 66 5 n (itG L), .elems 4 1 n' (boG O), .row 3 1 n (inG E)]⟩) (μ := fun x => i - x.k) ⟨0, by omega⟩ (by kernel_rfl) ?i0y ?irdy
        case i0y => exact StT.ofL (σ := [0, 1, 2]) ⟨rfl, by show List.Nodup [2]; decide, by repeat' (first | exact trivial | exact hin | exact hin.symm | exact hm'.symm | exact (congrArg (fun b => SV.c (CV.bool b)) hin.symm) | exact (congrArg CV.bool hin.symm) | exact rfl | apply And.intro | exact (fun _ _ _ _ => Cell.le_refl _) | (intro i hi; rfl) | (intro i hi; exact absurd hi (Nat.not_lt_zero _))), by repeat' (first | exact trivial | exact hin | exact hin.symm | exact hm'.symm | exact (congrArg (fun b => SV.c (CV.bool b)) hin.symm) | exact (congrArg CV.bool hin.symm) | exact rfl | apply And.intro | exact (fun _ _ _ _ => Cell.le_refl _) | (intro i hi; rfl) | (intro i hi; exact absurd hi (Nat.not_lt_zero _)))⟩
        rintro ⟨k, hk1⟩
        unfold sFirst28 sGroups
        generalize hg0 : (List.length : List Int → Nat) = g0
        generalize hL : lft Try.prog _ = L
        generalize hA : Arith.std = A
        set_option cbv.maxSteps 12000000 in cbv
        subst hA hg0 hL
        refine Ife.mk (fun hlt => ?_) (fun hlt => ?_)
        rotate_left
        · have hke : ¬ k < i := fun h => of_decide_eq_false (p := (k : Int) < (i : Int)) hlt (Int.ofNat_lt.mpr h)
          clear hlt
          refine Need.mk (by show fitStd .i64 ((i : Int) + 1); unfold fitStd; omega) fun _ => ?_
          refine ⟨⟨i + 1, m', hi, by rw [hm', g4]⟩, (by show n - (i + 1) < n - i; omega), ?_⟩
          exact StT.ofL (σ := [0, 1, 2]) ⟨rfl, by show List.Nodup [2]; decide, by repeat' (first | exact trivial | exact rfl | apply And.intro | exact (fun _ _ _ _ => Cell.le_refl _) | (intro i hi; rfl) | (intro i hi; exact absurd hi (Nat.not_lt_zero _))), by repeat' (first | exact trivial | exact rfl | apply And.intro | exact (fun _ _ _ _ => Cell.le_refl _) | (intro i hi; rfl) | (intro i hi; exact absurd hi (Nat.not_lt_zero _)))⟩
        have hk : k < i := Int.ofNat_lt.mp (of_decide_eq_true (p := (k : Int) < (i : Int)) hlt)
        clear hlt
        have hkn : k < n := by omega
        have ixk : 0 ≤ (k : Int) ∧ (k : Int) < (n : Int) := ⟨Int.natCast_nonneg k, Int.ofNat_lt.mpr hkn⟩
        refine Need.mk ixn fun _ => Need.mk hi fun _ => Need.mk ixk fun _ => Need.mk hkn fun _ => ?_
        refine Ife.mk (fun hK => ?_) (fun hK => ?_)
        · have hK' : decide (itK L i = itK L k) = true := hK
          refine Need.mk ixn fun _ => Need.mk hi fun _ => Need.mk ixk fun _ => Need.mk hkn fun _ => ?_
          refine Ife.mk (fun hT => ?_) (fun hT => ?_)
          · have hT' : decide (itT L i = itT L k) = true := hT
            have hgs : gSame L i k = (decide (itP L i = itP L k) && (decide (itC L i = itC L k) && true)) := by unfold gSame; rw [hK', hT']; simp
            refine Need.mk ixn fun _ => Need.mk hi fun _ => Need.mk ixk fun _ => Need.mk hkn fun _ => ?_
            refine Ife.mk (fun hg => ?_) (fun hg => ?_)
            · have hg' : gIn L O i = true := hg
              refine Need.mk ixk fun _ => Need.mk hkn fun _ => ?_
              refine Ife.mk (fun hp => ?_) (fun hp => ?_)
              · have hp' : 0 < iA E k := of_decide_eq_true (p := 0 < iA E k) hp
                have hsm := grp_same (L := L) (O := O) (n := n) hi hkn hg' (by rw [hE]; exact hp')
                rw [hE] at hsm
                refine Need.mk ixk fun _ => Need.mk hkn fun _ => Need.mk ixn fun _ => Need.mk hi fun _ => ?_
                refine Ife.no (by show (!(decide (iA E k = iA E i) == (decide (itP L i = itP L k) && (decide (itC L i = itC L k) && true)))) = false; rw [hsm, hgs]; simp) ?_
                refine Need.mk (by show fitStd .i64 ((k : Int) + 1); unfold fitStd; omega) fun _ => ?_
                refine ⟨⟨k + 1, hk⟩, (by show i - (k + 1) < i - k; omega), ?_⟩
                exact StT.ofL (σ := [0, 1, 2]) ⟨rfl, by show List.Nodup [2]; decide, by repeat' (first | exact trivial | exact rfl | apply And.intro | exact (fun _ _ _ _ => Cell.le_refl _) | (intro i hi; rfl) | (intro i hi; exact absurd hi (Nat.not_lt_zero _))), by repeat' (first | exact trivial | exact rfl | apply And.intro | exact (fun _ _ _ _ => Cell.le_refl _) | (intro i hi; rfl) | (intro i hi; exact absurd hi (Nat.not_lt_zero _)))⟩
              · skip
                refine Need.mk (by show fitStd .i64 ((k : Int) + 1); unfold fitStd; omega) fun _ => ?_
                refine ⟨⟨k + 1, hk⟩, (by show i - (k + 1) < i - k; omega), ?_⟩
                exact StT.ofL (σ := [0, 1, 2]) ⟨rfl, by show List.Nodup [2]; decide, by repeat' (first | exact trivial | exact rfl | apply And.intro | exact (fun _ _ _ _ => Cell.le_refl _) | (intro i hi; rfl) | (intro i hi; exact absurd hi (Nat.not_lt_zero _))), by repeat' (first | exact trivial | exact rfl | apply And.intro | exact (fun _ _ _ _ => Cell.le_refl _) | (intro i hi; rfl) | (intro i hi; exact absurd hi (Nat.not_lt_zero _)))⟩
            · skip
              refine Need.mk (by show fitStd .i64 ((k : Int) + 1); unfold fitStd; omega) fun _ => ?_
              refine ⟨⟨k + 1, hk⟩, (by show i - (k + 1) < i - k; omega), ?_⟩
              exact StT.ofL (σ := [0, 1, 2]) ⟨rfl, by show List.Nodup [2]; decide, by repeat' (first | exact trivial | exact rfl | apply And.intro | exact (fun _ _ _ _ => Cell.le_refl _) | (intro i hi; rfl) | (intro i hi; exact absurd hi (Nat.not_lt_zero _))), by repeat' (first | exact trivial | exact rfl | apply And.intro | exact (fun _ _ _ _ => Cell.le_refl _) | (intro i hi; rfl) | (intro i hi; exact absurd hi (Nat.not_lt_zero _)))⟩
          · have hT' : decide (itT L i = itT L k) = false := hT
            have hgs : gSame L i k = false := by unfold gSame; rw [hK', hT']; rfl
            refine Ife.mk (fun hg => ?_) (fun hg => ?_)
            · have hg' : gIn L O i = true := hg
              refine Need.mk ixk fun _ => Need.mk hkn fun _ => ?_
              refine Ife.mk (fun hp => ?_) (fun hp => ?_)
              · have hp' : 0 < iA E k := of_decide_eq_true (p := 0 < iA E k) hp
                have hsm := grp_same (L := L) (O := O) (n := n) hi hkn hg' (by rw [hE]; exact hp')
                rw [hE] at hsm
                refine Need.mk ixk fun _ => Need.mk hkn fun _ => Need.mk ixn fun _ => Need.mk hi fun _ => ?_
                refine Ife.no (congrArg (fun b => !(!b)) (hsm.trans hgs)) ?_
                refine Need.mk (by show fitStd .i64 ((k : Int) + 1); unfold fitStd; omega) fun _ => ?_
                refine ⟨⟨k + 1, hk⟩, (by show i - (k + 1) < i - k; omega), ?_⟩
                exact StT.ofL (σ := [0, 1, 2]) ⟨rfl, by show List.Nodup [2]; decide, by repeat' (first | exact trivial | exact rfl | apply And.intro | exact (fun _ _ _ _ => Cell.le_refl _) | (intro i hi; rfl) | (intro i hi; exact absurd hi (Nat.not_lt_zero _))), by repeat' (first | exact trivial | exact rfl | apply And.intro | exact (fun _ _ _ _ => Cell.le_refl _) | (intro i hi; rfl) | (intro i hi; exact absurd hi (Nat.not_lt_zero _)))⟩
              · skip
                refine Need.mk (by show fitStd .i64 ((k : Int) + 1); unfold fitStd; omega) fun _ => ?_
                refine ⟨⟨k + 1, hk⟩, (by show i - (k + 1) < i - k; omega), ?_⟩
                exact StT.ofL (σ := [0, 1, 2]) ⟨rfl, by show List.Nodup [2]; decide, by repeat' (first | exact trivial | exact rfl | apply And.intro | exact (fun _ _ _ _ => Cell.le_refl _) | (intro i hi; rfl) | (intro i hi; exact absurd hi (Nat.not_lt_zero _))), by repeat' (first | exact trivial | exact rfl | apply And.intro | exact (fun _ _ _ _ => Cell.le_refl _) | (intro i hi; rfl) | (intro i hi; exact absurd hi (Nat.not_lt_zero _)))⟩
            · skip
              refine Need.mk (by show fitStd .i64 ((k : Int) + 1); unfold fitStd; omega) fun _ => ?_
              refine ⟨⟨k + 1, hk⟩, (by show i - (k + 1) < i - k; omega), ?_⟩
              exact StT.ofL (σ := [0, 1, 2]) ⟨rfl, by show List.Nodup [2]; decide, by repeat' (first | exact trivial | exact rfl | apply And.intro | exact (fun _ _ _ _ => Cell.le_refl _) | (intro i hi; rfl) | (intro i hi; exact absurd hi (Nat.not_lt_zero _))), by repeat' (first | exact trivial | exact rfl | apply And.intro | exact (fun _ _ _ _ => Cell.le_refl _) | (intro i hi; rfl) | (intro i hi; exact absurd hi (Nat.not_lt_zero _)))⟩
        · have hK' : decide (itK L i = itK L k) = false := hK
          have hgs : gSame L i k = false := by unfold gSame; rw [hK']; rfl
          refine Ife.mk (fun hg => ?_) (fun hg => ?_)
          · have hg' : gIn L O i = true := hg
            refine Need.mk ixk fun _ => Need.mk hkn fun _ => ?_
            refine Ife.mk (fun hp => ?_) (fun hp => ?_)
            · have hp' : 0 < iA E k := of_decide_eq_true (p := 0 < iA E k) hp
              have hsm := grp_same (L := L) (O := O) (n := n) hi hkn hg' (by rw [hE]; exact hp')
              rw [hE] at hsm
              refine Need.mk ixk fun _ => Need.mk hkn fun _ => Need.mk ixn fun _ => Need.mk hi fun _ => ?_
              refine Ife.no (congrArg (fun b => !(!b)) (hsm.trans hgs)) ?_
              refine Need.mk (by show fitStd .i64 ((k : Int) + 1); unfold fitStd; omega) fun _ => ?_
              refine ⟨⟨k + 1, hk⟩, (by show i - (k + 1) < i - k; omega), ?_⟩
              exact StT.ofL (σ := [0, 1, 2]) ⟨rfl, by show List.Nodup [2]; decide, by repeat' (first | exact trivial | exact rfl | apply And.intro | exact (fun _ _ _ _ => Cell.le_refl _) | (intro i hi; rfl) | (intro i hi; exact absurd hi (Nat.not_lt_zero _))), by repeat' (first | exact trivial | exact rfl | apply And.intro | exact (fun _ _ _ _ => Cell.le_refl _) | (intro i hi; rfl) | (intro i hi; exact absurd hi (Nat.not_lt_zero _)))⟩
            · skip
              refine Need.mk (by show fitStd .i64 ((k : Int) + 1); unfold fitStd; omega) fun _ => ?_
              refine ⟨⟨k + 1, hk⟩, (by show i - (k + 1) < i - k; omega), ?_⟩
              exact StT.ofL (σ := [0, 1, 2]) ⟨rfl, by show List.Nodup [2]; decide, by repeat' (first | exact trivial | exact rfl | apply And.intro | exact (fun _ _ _ _ => Cell.le_refl _) | (intro i hi; rfl) | (intro i hi; exact absurd hi (Nat.not_lt_zero _))), by repeat' (first | exact trivial | exact rfl | apply And.intro | exact (fun _ _ _ _ => Cell.le_refl _) | (intro i hi; rfl) | (intro i hi; exact absurd hi (Nat.not_lt_zero _)))⟩
          · skip
            refine Need.mk (by show fitStd .i64 ((k : Int) + 1); unfold fitStd; omega) fun _ => ?_
            refine ⟨⟨k + 1, hk⟩, (by show i - (k + 1) < i - k; omega), ?_⟩
            exact StT.ofL (σ := [0, 1, 2]) ⟨rfl, by show List.Nodup [2]; decide, by repeat' (first | exact trivial | exact rfl | apply And.intro | exact (fun _ _ _ _ => Cell.le_refl _) | (intro i hi; rfl) | (intro i hi; exact absurd hi (Nat.not_lt_zero _))), by repeat' (first | exact trivial | exact rfl | apply And.intro | exact (fun _ _ _ _ => Cell.le_refl _) | (intro i hi; rfl) | (intro i hi; exact absurd hi (Nat.not_lt_zero _)))⟩
    · have hb' : bA O i = false := hb
      have hin : gIn L O i = false := by unfold gIn; rw [hb']; rfl
      rw [hin] at g1
      refine Need.mk ixn fun _ => Need.mk hi fun _ => ?_
      refine Ife.no (congrArg (fun b => !(!b)) g1) ?_
      refine Need.mk ixn fun _ => Need.mk hi fun _ => ?_
      refine Ife.no (decide_eq_false (by omega : ¬ iA E i < 0)) ?_
      refine Need.mk ixn fun _ => Need.mk hi fun _ => Need.mk (by show fitStd .i64 (m + 1); unfold fitStd; omega) fun _ => ?_
      refine Ife.no (decide_eq_false (by omega : ¬ m + 1 < iA E i)) ?_
      refine Need.mk ixn fun _ => Need.mk hi fun _ => ?_
      obtain ⟨m', hm'⟩ : ∃ m', m' = max m (iA E i) := ⟨_, rfl⟩
      show Runs Try.prog 2 (.loop _) _ _
      refine loop_ruleE (N := env (lft Try.prog 2) 0 .std tbGr [(14, appFn [] [] sFirst28), (22, appFn [] [(68, 17)] sGroups)] [(9, [(2002, false), (0, true), (1, true), (2, true), (3, true), (4, true), (5, true), (6, true), (7, true), (8, true), (9, true), (10, false), (11, false), (12, true)]), (24, [(0, true), (1, true), (2, true), (3, true), (4, true), (5, true), (6, true), (7, true), (8, true), (9, true), (10, true), (11, true), (12, true), (13, true), (14, true), (15, true), (16, true), (17, true), (18, true), (19, true), (20, true), (21, true), (22, true), (23, true), (24, true), (25, true), (26, true), (27, true), (28, true), (29, true), (30, true), (31, true), (32, true), (33, true), (34, true), (35, true), (36, true), (37, true)]), (25, [(0, true), (1, true), (2, true), (3, true), (4, true), (5, true), (6, true), (7, true), (8, true), (9, true), (10, true), (11, true), (12, true), (13, true), (14, true), (15, true), (16, true), (17, true), (18, true), (19, true), (20, true)])]) rfl tbGr_ok hC (fun c st K _ h => h) (by kernel_rfl) [] (X := LGi i)
        (S := fun x => ⟨[.c (.row 0), .c (.row 1), .any, .any, .any, .any, .any, .c (.row 2), .c (.int .i64 m'), .c (.int .i64 (i : Int)), .c (.bool (gIn L O i)), .c (.int .i64 (x.k : Int))] ++ List.replicate 157 .any, [.elems 66 5 n (itG L), .elems 4 1 n' (boG O), .row 3 1 n (inG E)]⟩) (μ := fun x => i - x.k) ⟨0, by omega⟩ (by kernel_rfl) ?i0z ?irdz
      case i0z => exact StT.ofL (σ := [0, 1, 2]) ⟨rfl, by show List.Nodup [2]; decide, by repeat' (first | exact trivial | exact hin | exact hin.symm | exact hm'.symm | exact (congrArg (fun b => SV.c (CV.bool b)) hin.symm) | exact (congrArg CV.bool hin.symm) | exact rfl | apply And.intro | exact (fun _ _ _ _ => Cell.le_refl _) | (intro i hi; rfl) | (intro i hi; exact absurd hi (Nat.not_lt_zero _))), by repeat' (first | exact trivial | exact hin | exact hin.symm | exact hm'.symm | exact (congrArg (fun b => SV.c (CV.bool b)) hin.symm) | exact (congrArg CV.bool hin.symm) | exact rfl | apply And.intro | exact (fun _ _ _ _ => Cell.le_refl _) | (intro i hi; rfl) | (intro i hi; exact absurd hi (Nat.not_lt_zero _)))⟩
      rintro ⟨k, hk1⟩
      unfold sFirst28 sGroups
      generalize hg0 : (List.length : List Int → Nat) = g0
      generalize hL : lft Try.prog _ = L
      generalize hA : Arith.std = A
      set_option cbv.maxSteps 12000000 in cbv
      subst hA hg0 hL
      refine Ife.mk (fun hlt => ?_) (fun hlt => ?_)
      rotate_left
      · have hke : ¬ k < i := fun h => of_decide_eq_false (p := (k : Int) < (i : Int)) hlt (Int.ofNat_lt.mpr h)
        clear hlt
        refine Need.mk (by show fitStd .i64 ((i : Int) + 1); unfold fitStd; omega) fun _ => ?_
        refine ⟨⟨i + 1, m', hi, by rw [hm', g4]⟩, (by show n - (i + 1) < n - i; omega), ?_⟩
        exact StT.ofL (σ := [0, 1, 2]) ⟨rfl, by show List.Nodup [2]; decide, by repeat' (first | exact trivial | exact rfl | apply And.intro | exact (fun _ _ _ _ => Cell.le_refl _) | (intro i hi; rfl) | (intro i hi; exact absurd hi (Nat.not_lt_zero _))), by repeat' (first | exact trivial | exact rfl | apply And.intro | exact (fun _ _ _ _ => Cell.le_refl _) | (intro i hi; rfl) | (intro i hi; exact absurd hi (Nat.not_lt_zero _)))⟩
      have hk : k < i := Int.ofNat_lt.mp (of_decide_eq_true (p := (k : Int) < (i : Int)) hlt)
      clear hlt
      have hkn : k < n := by omega
      have ixk : 0 ≤ (k : Int) ∧ (k : Int) < (n : Int) := ⟨Int.natCast_nonneg k, Int.ofNat_lt.mpr hkn⟩
      refine Need.mk ixn fun _ => Need.mk hi fun _ => Need.mk ixk fun _ => Need.mk hkn fun _ => ?_
      refine Ife.mk (fun hK => ?_) (fun hK => ?_)
      · have hK' : decide (itK L i = itK L k) = true := hK
        refine Need.mk ixn fun _ => Need.mk hi fun _ => Need.mk ixk fun _ => Need.mk hkn fun _ => ?_
        refine Ife.mk (fun hT => ?_) (fun hT => ?_)
        · have hT' : decide (itT L i = itT L k) = true := hT
          have hgs : gSame L i k = (decide (itP L i = itP L k) && (decide (itC L i = itC L k) && true)) := by unfold gSame; rw [hK', hT']; simp
          refine Need.mk ixn fun _ => Need.mk hi fun _ => Need.mk ixk fun _ => Need.mk hkn fun _ => ?_
          refine Ife.mk (fun hg => ?_) (fun hg => ?_)
          · have hg' : gIn L O i = true := hg
            refine Need.mk ixk fun _ => Need.mk hkn fun _ => ?_
            refine Ife.mk (fun hp => ?_) (fun hp => ?_)
            · have hp' : 0 < iA E k := of_decide_eq_true (p := 0 < iA E k) hp
              have hsm := grp_same (L := L) (O := O) (n := n) hi hkn hg' (by rw [hE]; exact hp')
              rw [hE] at hsm
              refine Need.mk ixk fun _ => Need.mk hkn fun _ => Need.mk ixn fun _ => Need.mk hi fun _ => ?_
              refine Ife.no (by show (!(decide (iA E k = iA E i) == (decide (itP L i = itP L k) && (decide (itC L i = itC L k) && true)))) = false; rw [hsm, hgs]; simp) ?_
              refine Need.mk (by show fitStd .i64 ((k : Int) + 1); unfold fitStd; omega) fun _ => ?_
              refine ⟨⟨k + 1, hk⟩, (by show i - (k + 1) < i - k; omega), ?_⟩
              exact StT.ofL (σ := [0, 1, 2]) ⟨rfl, by show List.Nodup [2]; decide, by repeat' (first | exact trivial | exact rfl | apply And.intro | exact (fun _ _ _ _ => Cell.le_refl _) | (intro i hi; rfl) | (intro i hi; exact absurd hi (Nat.not_lt_zero _))), by repeat' (first | exact trivial | exact rfl | apply And.intro | exact (fun _ _ _ _ => Cell.le_refl _) | (intro i hi; rfl) | (intro i hi; exact absurd hi (Nat.not_lt_zero _)))⟩
            · skip
              refine Need.mk (by show fitStd .i64 ((k : Int) + 1); unfold fitStd; omega) fun _ => ?_
              refine ⟨⟨k + 1, hk⟩, (by show i - (k + 1) < i - k; omega), ?_⟩
              exact StT.ofL (σ := [0, 1, 2]) ⟨rfl, by show List.Nodup [2]; decide, by repeat' (first | exact trivial | exact rfl | apply And.intro | exact (fun _ _ _ _ => Cell.le_refl _) | (intro i hi; rfl) | (intro i hi; exact absurd hi (Nat.not_lt_zero _))), by repeat' (first | exact trivial | exact rfl | apply And.intro | exact (fun _ _ _ _ => Cell.le_refl _) | (intro i hi; rfl) | (intro i hi; exact absurd hi (Nat.not_lt_zero _)))⟩
          · skip
            refine Need.mk (by show fitStd .i64 ((k : Int) + 1); unfold fitStd; omega) fun _ => ?_
            refine ⟨⟨k + 1, hk⟩, (by show i - (k + 1) < i - k; omega), ?_⟩
            exact StT.ofL (σ := [0, 1, 2]) ⟨rfl, by show List.Nodup [2]; decide, by repeat' (first | exact trivial | exact rfl | apply And.intro | exact (fun _ _ _ _ => Cell.le_refl _) | (intro i hi; rfl) | (intro i hi; exact absurd hi (Nat.not_lt_zero _))), by repeat' (first | exact trivial | exact rfl | apply And.intro | exact (fun _ _ _ _ => Cell.le_refl _) | (intro i hi; rfl) | (intro i hi; exact absurd hi (Nat.not_lt_zero _)))⟩
        · have hT' : decide (itT L i = itT L k) = false := hT
          have hgs : gSame L i k = false := by unfold gSame; rw [hK', hT']; rfl
          refine Ife.mk (fun hg => ?_) (fun hg => ?_)
          · have hg' : gIn L O i = true := hg
            refine Need.mk ixk fun _ => Need.mk hkn fun _ => ?_
            refine Ife.mk (fun hp => ?_) (fun hp => ?_)
            · have hp' : 0 < iA E k := of_decide_eq_true (p := 0 < iA E k) hp
              have hsm := grp_same (L := L) (O := O) (n := n) hi hkn hg' (by rw [hE]; exact hp')
              rw [hE] at hsm
              refine Need.mk ixk fun _ => Need.mk hkn fun _ => Need.mk ixn fun _ => Need.mk hi fun _ => ?_
              refine Ife.no (congrArg (fun b => !(!b)) (hsm.trans hgs)) ?_
              refine Need.mk (by show fitStd .i64 ((k : Int) + 1); unfold fitStd; omega) fun _ => ?_
              refine ⟨⟨k + 1, hk⟩, (by show i - (k + 1) < i - k; omega), ?_⟩
              exact StT.ofL (σ := [0, 1, 2]) ⟨rfl, by show List.Nodup [2]; decide, by repeat' (first | exact trivial | exact rfl | apply And.intro | exact (fun _ _ _ _ => Cell.le_refl _) | (intro i hi; rfl) | (intro i hi; exact absurd hi (Nat.not_lt_zero _))), by repeat' (first | exact trivial | exact rfl | apply And.intro | exact (fun _ _ _ _ => Cell.le_refl _) | (intro i hi; rfl) | (intro i hi; exact absurd hi (Nat.not_lt_zero _)))⟩
            · skip
              refine Need.mk (by show fitStd .i64 ((k : Int) + 1); unfold fitStd; omega) fun _ => ?_
              refine ⟨⟨k + 1, hk⟩, (by show i - (k + 1) < i - k; omega), ?_⟩
              exact StT.ofL (σ := [0, 1, 2]) ⟨rfl, by show List.Nodup [2]; decide, by repeat' (first | exact trivial | exact rfl | apply And.intro | exact (fun _ _ _ _ => Cell.le_refl _) | (intro i hi; rfl) | (intro i hi; exact absurd hi (Nat.not_lt_zero _))), by repeat' (first | exact trivial | exact rfl | apply And.intro | exact (fun _ _ _ _ => Cell.le_refl _) | (intro i hi; rfl) | (intro i hi; exact absurd hi (Nat.not_lt_zero _)))⟩
          · skip
            refine Need.mk (by show fitStd .i64 ((k : Int) + 1); unfold fitStd; omega) fun _ => ?_
            refine ⟨⟨k + 1, hk⟩, (by show i - (k + 1) < i - k; omega), ?_⟩
            exact StT.ofL (σ := [0, 1, 2]) ⟨rfl, by show List.Nodup [2]; decide, by repeat' (first | exact trivial | exact rfl | apply And.intro | exact (fun _ _ _ _ => Cell.le_refl _) | (intro i hi; rfl) | (intro i hi; exact absurd hi (Nat.not_lt_zero _))), by repeat' (first | exact trivial | exact rfl | apply And.intro | exact (fun _ _ _ _ => Cell.le_refl _) | (intro i hi; rfl) | (intro i hi; exact absurd hi (Nat.not_lt_zero _)))⟩
      · have hK' : decide (itK L i = itK L k) = false := hK
        have hgs : gSame L i k = false := by unfold gSame; rw [hK']; rfl
        refine Ife.mk (fun hg => ?_) (fun hg => ?_)
        · have hg' : gIn L O i = true := hg
          refine Need.mk ixk fun _ => Need.mk hkn fun _ => ?_
          refine Ife.mk (fun hp => ?_) (fun hp => ?_)
          · have hp' : 0 < iA E k := of_decide_eq_true (p := 0 < iA E k) hp
            have hsm := grp_same (L := L) (O := O) (n := n) hi hkn hg' (by rw [hE]; exact hp')
            rw [hE] at hsm
            refine Need.mk ixk fun _ => Need.mk hkn fun _ => Need.mk ixn fun _ => Need.mk hi fun _ => ?_
            refine Ife.no (congrArg (fun b => !(!b)) (hsm.trans hgs)) ?_
            refine Need.mk (by show fitStd .i64 ((k : Int) + 1); unfold fitStd; omega) fun _ => ?_
            refine ⟨⟨k + 1, hk⟩, (by show i - (k + 1) < i - k; omega), ?_⟩
            exact StT.ofL (σ := [0, 1, 2]) ⟨rfl, by show List.Nodup [2]; decide, by repeat' (first | exact trivial | exact rfl | apply And.intro | exact (fun _ _ _ _ => Cell.le_refl _) | (intro i hi; rfl) | (intro i hi; exact absurd hi (Nat.not_lt_zero _))), by repeat' (first | exact trivial | exact rfl | apply And.intro | exact (fun _ _ _ _ => Cell.le_refl _) | (intro i hi; rfl) | (intro i hi; exact absurd hi (Nat.not_lt_zero _)))⟩
          · skip
            refine Need.mk (by show fitStd .i64 ((k : Int) + 1); unfold fitStd; omega) fun _ => ?_
            refine ⟨⟨k + 1, hk⟩, (by show i - (k + 1) < i - k; omega), ?_⟩
            exact StT.ofL (σ := [0, 1, 2]) ⟨rfl, by show List.Nodup [2]; decide, by repeat' (first | exact trivial | exact rfl | apply And.intro | exact (fun _ _ _ _ => Cell.le_refl _) | (intro i hi; rfl) | (intro i hi; exact absurd hi (Nat.not_lt_zero _))), by repeat' (first | exact trivial | exact rfl | apply And.intro | exact (fun _ _ _ _ => Cell.le_refl _) | (intro i hi; rfl) | (intro i hi; exact absurd hi (Nat.not_lt_zero _)))⟩
        · skip
          refine Need.mk (by show fitStd .i64 ((k : Int) + 1); unfold fitStd; omega) fun _ => ?_
          refine ⟨⟨k + 1, hk⟩, (by show i - (k + 1) < i - k; omega), ?_⟩
          exact StT.ofL (σ := [0, 1, 2]) ⟨rfl, by show List.Nodup [2]; decide, by repeat' (first | exact trivial | exact rfl | apply And.intro | exact (fun _ _ _ _ => Cell.le_refl _) | (intro i hi; rfl) | (intro i hi; exact absurd hi (Nat.not_lt_zero _))), by repeat' (first | exact trivial | exact rfl | apply And.intro | exact (fun _ _ _ _ => Cell.le_refl _) | (intro i hi; rfl) | (intro i hi; exact absurd hi (Nat.not_lt_zero _)))⟩

end Go.Proofs.Ythomoliklfmnkaa.Vx
namespace Go.Proofs.Ythomoliklfmnkaa
open Go.RowKit
set_option linter.unusedVariables false
theorem batchGroupsWalk (w : World) (p : Option Addr) (cap : Nat) (ls : List Vx.It) (hs : SlIn w p 5 cap (ls.map Vx.It.vals)) (p' : Option Addr) (cap' : Nat) (os : List Bool) (hs' : SlIn w p' 1 cap' (os.map fun n => [.bool n])) :
    Calls Try.prog 7 #[.slice p ls.length cap, .slice p' os.length cap'] w fun e w' => e = .returned (.bool true) ∧ Below w.heap.size w w' := by
  obtain ⟨q, hq, gd⟩ := its_good hs
  obtain ⟨q', hq', gd'⟩ := bos_good hs'
  have hm : ls.length ≤ 9223372036854775807 := by have := hs.max; simpa [maxLen] using this
  have hm' : os.length ≤ 9223372036854775807 := by have := hs'.max; simpa [maxLen] using this
  rw [← hq, ← hq']
  refine Calls.mono (Vx.batchGroupsP.run [.c (.row 0), .c (.row 1)] [.elems 66 5 ls.length (Vx.itG ls), .elems 4 1 os.length (Vx.boG os)] _ _ _ rfl ⟨Vx.itPre_law hm, Vx.boPre_law hm'⟩ [q, q'] w _ (Vx.Rel.addV (Vx.Rel.addV (Vx.Rel.refl w) 66 gd) 4 gd')
    ⟨_, _, rfl, (by obtain ⟨a', cap', e, _⟩ := gd.sl; simp [Vx.SV.is, Vx.CV.den, e, Vx.one] : Vx.SV.is [q, q'] (.c (.row 0)) q.v), _, _, rfl, (by obtain ⟨a', cap', e, _⟩ := gd'.sl; simp [Vx.SV.is, Vx.CV.den, e, Vx.one] : Vx.SV.is [q, q'] (.c (.row 1)) q'.v), rfl⟩) fun e W' he => ?_
  obtain ⟨u, ρ', rfl, hu, hr⟩ := he
  obtain rfl : .bool true = u := Option.some.inj hu
  exact ⟨rfl, Vx.Rel.toBelow hr⟩
end Go.Proofs.Ythomoliklfmnkaa
