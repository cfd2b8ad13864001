/- Stores: Good, Clone, New, Set, Drop, Get, Len, Under, by the walker. -/
import Derived.Test.YthomoliklfmnkaaDoorVSt1
import Derived.Test.YthomoliklfmnkaaDoorM11
import Derived.Test.YthomoliklfmnkaaDoorM14
section
namespace Go.Proofs.YthomoliklfmnkaaDoor.Vx
open Go.RowKit
set_option linter.unusedVariables false
set_option linter.unusedSimpArgs false
/-- May the pairs be proved? -/
def goodAt (L : List PP) (i : Nat) : Bool := szB (prK L i) (prV L i) && (decide (i = 0) || ltB (prK L (i - 1)) (prK L i))
def goodL (L : List PP) : Bool := (List.range L.length).all (goodAt L)
structure LGo (L : List PP) (n : Nat) where
  i : Int
  h0 : 0 ≤ i
  h1 : i ≤ (n : Int)
  h2 : ∀ k, k < i.toNat → goodAt L k = true
theorem goodL_no {L : List PP} {i : Nat} (hi : i < L.length) (h : goodAt L i = false) : goodL L = false := by
  rw [Bool.eq_false_iff]
  intro h2
  have := List.all_eq_true.1 h2 i (List.mem_range.2 hi)
  rw [h] at this
  cases this
theorem goodL_yes {L : List PP} (h : ∀ k, k < L.length → goodAt L k = true) : goodL L = true := List.all_eq_true.2 fun k hk => h k (List.mem_range.1 hk)
def sGood : SpecF
  | [.c (.row 0)], [.elems ty one n get] => some (prPre ty one n get, .c (.bool (goodL (prL n get))), [.dead])
  | _, _ => none

set_option maxRecDepth 100000 in
set_option maxHeartbeats 8000000 in
theorem goodP : Fn Tryd.prog 18 [] [(63, 2)] sGood := by
  have hC : CtsOk Tryd.prog [(76, appPure sSzd)] := CtsOk.cons (Pure.ct szdP) <| CtsOk.nil _
  refine Fn.of (E := tbSt) [] 0 [(4, [(0, true), (1, true), (2, true), (3, true), (4, false), (5, true), (6, true), (7, true), (8, true), (9, true), (10, true), (11, true), (12, true), (13, true), (14, true), (15, true), (16, true), (17, true), (18, true), (19, true), (20, true)])] tbSt_ok hC (by kernel_rfl) Tryd.func18 rfl rfl rfl (by kernel_rfl) (by kernel_rfl) 1 63 2 ?_ ?_
  · intro args h pre r h' hs
    unfold sGood at hs
    split at hs
    · cases hs; exact ⟨rfl, rfl, Nat.le_of_ble_eq_true rfl⟩
    · cases hs
  · intro args h pre r h' hs hp
    unfold sGood at hs
    split at hs
    rotate_left
    · cases hs
    rename_i ty one n get
    cases hs
    obtain ⟨rfl, rfl, hst, hm⟩ := hp
    refine ⟨[.elems 63 2 n (prG (prL n get))], hst.same, ?_⟩
    have hL : (prL n get).length = n := prL_len
    generalize prL n get = L at hL ⊢
    show Runs Tryd.prog 1 (.loop _) _ _
    refine loop_ruleR (N := env (lft Tryd.prog 1) 0 .std tbSt [(76, appPure sSzd)] [(4, [(0, true), (1, true), (2, true), (3, true), (4, false), (5, true), (6, true), (7, true), (8, true), (9, true), (10, true), (11, true), (12, true), (13, true), (14, true), (15, true), (16, true), (17, true), (18, true), (19, true), (20, true)])]) rfl tbSt_ok hC (fun c st K _ h => h) (by kernel_rfl) [] (X := LGo L n)
      (S := fun x => ⟨[.c (.row 0), .any, .any, .any, .any, .c (.row 0), .c (.int .i64 n), .c (.int .i64 x.i)] ++ List.replicate 26 .any, [.elems 63 2 n (prG L)]⟩) (μ := fun x => n - x.i.toNat) ⟨0, by omega, by omega, fun k hk => absurd hk (by omega)⟩ (by kernel_rfl) [0] ?_ ?_
    · refine ⟨rfl, by decide, ?_, ?_⟩ <;> repeat' (first | exact trivial | exact rfl | apply And.intro | exact (fun _ _ _ _ => Cell.le_refl _) | (intro i hi; rfl) | (intro i hi; exact absurd hi (Nat.not_lt_zero _)))
    rintro ⟨i, hi0, hin, hP⟩
    unfold sSzd
    generalize hg0 : (List.length : List PP → Nat) = g0
    generalize hL : lft Tryd.prog _ = L
    try dsimp only
    try unfold prG
    generalize ho0 : @prK = zo0, ho1 : @prV = zo1, ho2 : @prL = zo2, ho3 : @ltB = zo3, ho4 : @szB = zo4, ho5 : @prPre = zo5, ho6 : @goodAt = zo6, ho7 : @goodL = zo7
    generalize hA : Arith.std = A
    cbv
    subst hA hg0 hL ho0 ho1 ho2 ho3 ho4 ho5 ho6 ho7
    replace hin : i ≤ @Nat.cast Int instNatCastInt n := hin
    refine Ife.mk (fun hlt => ?_) (fun hlt => ?_)
    · replace hlt : i < @Nat.cast Int instNatCastInt n := of_decide_eq_true (p := i < (n : Int)) hlt
      refine Need.mk (by show 0 ≤ i ∧ i < (n : Int); omega) fun _ => Need.mk (by show i.toNat < n; omega) fun _ => Need.mk trivial fun _ => ?_
      have hNO : goodAt L i.toNat = false → goodL L = false := fun h => goodL_no (by omega) h
      have hYES : goodAt L i.toNat = true → ∀ k, k < (i + 1).toNat → goodAt L k = true := fun h k hk => by
        by_cases hki : k = i.toNat
        · rw [hki]; exact h
        · exact hP k (by omega)
      refine Ife.mk (fun h => ?_) (fun h => ?_)
      · have h : (!szB (prK L i.toNat) (prV L i.toNat)) = true := h
        rw [hNO (by unfold goodAt; rw [show szB (prK L i.toNat) (prV L i.toNat) = false by simpa using h, Bool.false_and])]
        exact ⟨[0], ⟨rfl, (by repeat' (first | exact trivial | exact rfl | apply And.intro | exact (fun _ _ _ _ => Cell.le_refl _) | (intro i hi; rfl) | (intro i hi; exact absurd hi (Nat.not_lt_zero _)))), by decide, rfl, by repeat' (first | exact trivial | exact rfl | apply And.intro | exact (fun _ _ _ _ => Cell.le_refl _) | (intro i hi; rfl) | (intro i hi; exact absurd hi (Nat.not_lt_zero _)))⟩⟩
      · have h : (!szB (prK L i.toNat) (prV L i.toNat)) = false := h
        have hz : szB (prK L i.toNat) (prV L i.toNat) = true := by simpa using h
        refine Ife.mk (fun h1 => ?_) (fun h1 => ?_)
        · have h1 : 0 < i := of_decide_eq_true (p := 0 < i) h1
          have e3 : (i - 1).toNat = i.toNat - 1 := by omega
          refine Need.mk (by show fitStd .i64 (i - 1); unfold fitStd; omega) fun _ => Need.mk (by show 0 ≤ i - 1 ∧ i - 1 < (n : Int); omega) fun _ => Need.mk (by show (i - 1).toNat < n; omega) fun _ => ?_
          refine Ife.mk (fun h2 => ?_) (fun h2 => ?_)
          · have h2 : (!ltB (prK L (i - 1).toNat) (prK L i.toNat)) = true := h2
            rw [hNO (by unfold goodAt; rw [hz, decide_eq_false (show ¬ i.toNat = 0 by omega), ← e3, show ltB (prK L (i - 1).toNat) (prK L i.toNat) = false by simpa using h2]; rfl)]
            exact ⟨[0], ⟨rfl, (by repeat' (first | exact trivial | exact rfl | apply And.intro | exact (fun _ _ _ _ => Cell.le_refl _) | (intro i hi; rfl) | (intro i hi; exact absurd hi (Nat.not_lt_zero _)))), by decide, rfl, by repeat' (first | exact trivial | exact rfl | apply And.intro | exact (fun _ _ _ _ => Cell.le_refl _) | (intro i hi; rfl) | (intro i hi; exact absurd hi (Nat.not_lt_zero _)))⟩⟩
          · have h2 : (!ltB (prK L (i - 1).toNat) (prK L i.toNat)) = false := h2
            have hg : goodAt L i.toNat = true := by unfold goodAt; rw [hz, ← e3, show ltB (prK L (i - 1).toNat) (prK L i.toNat) = true by simpa using h2]; simp
            refine Need.mk (by show fitStd .i64 (i + 1); unfold fitStd; omega) fun _ => ?_
            refine ⟨⟨i + 1, by omega, by omega, hYES hg⟩, [0], (by show n - (i + 1).toNat < n - i.toNat; omega), ?_⟩
            refine ⟨rfl, by decide, ?_, ?_⟩ <;> repeat' (first | exact trivial | exact rfl | apply And.intro | exact (fun _ _ _ _ => Cell.le_refl _) | (intro i hi; rfl) | (intro i hi; exact absurd hi (Nat.not_lt_zero _)))
        · have h1 : ¬ 0 < i := of_decide_eq_false (p := 0 < i) h1
          have hg : goodAt L i.toNat = true := by unfold goodAt; rw [hz, decide_eq_true (show i.toNat = 0 by omega)]; simp
          refine Need.mk (by show fitStd .i64 (i + 1); unfold fitStd; omega) fun _ => ?_
          refine ⟨⟨i + 1, by omega, by omega, hYES hg⟩, [0], (by show n - (i + 1).toNat < n - i.toNat; omega), ?_⟩
          refine ⟨rfl, by decide, ?_, ?_⟩ <;> repeat' (first | exact trivial | exact rfl | apply And.intro | exact (fun _ _ _ _ => Cell.le_refl _) | (intro i hi; rfl) | (intro i hi; exact absurd hi (Nat.not_lt_zero _)))
    · replace hlt : ¬ i < @Nat.cast Int instNatCastInt n := of_decide_eq_false (p := i < (n : Int)) hlt
      rw [goodL_yes fun k hk => hP k (by omega)]
      exact ⟨[0], ⟨rfl, (by repeat' (first | exact trivial | exact rfl | apply And.intro | exact (fun _ _ _ _ => Cell.le_refl _) | (intro i hi; rfl) | (intro i hi; exact absurd hi (Nat.not_lt_zero _)))), by decide, rfl, by repeat' (first | exact trivial | exact rfl | apply And.intro | exact (fun _ _ _ _ => Cell.le_refl _) | (intro i hi; rfl) | (intro i hi; exact absurd hi (Nat.not_lt_zero _)))⟩⟩


















end Go.Proofs.YthomoliklfmnkaaDoor.Vx
end

section
/- The document's pairs in order: place, Set, Rise, by the walker. -/
namespace Go.Proofs.YthomoliklfmnkaaDoor.Vx
open Go.RowKit
set_option linter.unusedVariables false
set_option linter.unusedSimpArgs false
def prPreR (ty one n : Nat) (get : Nat → List CV) : Prop := ty = 46 ∧ one = 2 ∧ PrAt n get ∧ n ≤ 1000000
def riseL (L : List PP) : List PP := L.foldl (fun out p => putS out p.1 p.2) []
structure LPl (L : List PP) (k : List UInt8) (n : Nat) where
  j : Nat
  h1 : j ≤ n
  h2 : ∀ q, q < j → ltB (prK L q) k = true
structure LRs (L : List PP) (n : Nat) where
  j : Nat
  out : List PP
  h1 : j ≤ n
  h2 : out = riseL (L.take j)
  h3 : out.length ≤ j
theorem rise_take {L : List PP} {j : Nat} (h : j < L.length) : riseL (L.take (j + 1)) = putS (riseL (L.take j)) (prK L j) (prV L j) := by
  unfold riseL
  rw [List.take_succ_eq_append_getElem h, List.foldl_append, prK_eq h, prV_eq h]
  rfl
theorem findI_at {L : List PP} {k : List UInt8} {j : Nat} (h1 : j ≤ L.length) (h2 : ∀ q, q < j → ltB (prK L q) k = true) (h3 : j < L.length → ltB (prK L j) k = false) : findI L k = j := by
  rcases Nat.lt_trichotomy (findI L k) j with h | h | h
  · have := findI_stop (L := L) (k := k) (by omega)
    rw [h2 _ h] at this
    cases this
  · exact h
  · have hle := findI_le (L := L) (k := k)
    have := findI_lt h
    rw [h3 (by omega)] at this
    cases this
theorem natM (a b : Nat) : (match a, b with
    | a, Nat.zero => a
    | a, Nat.succ b => Nat.succ (Nat.add a b)) = a + b := by cases b <;> rfl
theorem prG_cat {L : List PP} {k v : List UInt8} {c d : Nat} (hc : c ≤ L.length) (i : Nat) : catG (c + 1) (pushG c (fun i => prG L (0 + i)) [.str k, .str v]) (fun i => prG L (d + i)) i = prG (L.take c ++ (k, v) :: L.drop d) i := by
  have hl : (L.take c).length = c := by rw [List.length_take]; omega
  unfold catG pushG
  rcases Nat.lt_trichotomy i c with h | h | h
  · rw [show Nat.blt i (c + 1) = true by rw [Nat.blt_eq]; omega, show Nat.blt i c = true by rw [Nat.blt_eq]; omega]
    simp only [Nat.zero_add]
    unfold prG prGP prK prV
    simp [List.getD, List.getElem?_append_left (show i < (L.take c).length by omega), List.getElem?_take_of_lt h]
  · subst h
    rw [show Nat.blt i (i + 1) = true by rw [Nat.blt_eq]; omega, show Nat.blt i i = false by rw [Bool.eq_false_iff]; intro h2; rw [Nat.blt_eq] at h2; omega]
    unfold prG prGP prK prV
    simp [List.getD, List.getElem?_append_right (show (L.take i).length ≤ i by omega), hl]
  · rw [show Nat.blt i (c + 1) = false by rw [Bool.eq_false_iff]; intro h2; rw [Nat.blt_eq] at h2; omega]
    obtain ⟨m, rfl⟩ : ∃ m, i = c + m + 1 := ⟨i - c - 1, by omega⟩
    rw [show c + m + 1 - (c + 1) = m by omega]
    unfold prG prGP prK prV
    simp [List.getD, List.getElem?_append_right (show (L.take c).length ≤ c + m + 1 by omega), hl, show c + m + 1 - c = m + 1 by omega]
theorem setL_cat {L : List PP} {k v : List UInt8} : setL L k v = L.take (findI L k) ++ (k, v) :: L.drop (if findB L k = true then findI L k + 1 else findI L k) := by
  unfold setL
  by_cases h : findB L k = true
  · rw [if_pos h, if_pos h, List.set_eq_take_append_cons_drop, if_pos (findB_eq h).1]
  · rw [if_neg h, if_neg h]
def tbSr : Tbl where
  T :=
    (3, ⟨1, false, [.int .i64 (0)], .int .i64, 8⟩) ::
    (4, ⟨1, false, [.ff], .bool, 1⟩) ::
    (9, ⟨1, false, [.str []], .str, 16⟩) ::
    (46, ⟨2, true, [.str [], .str []], .struct [(0, (1, false)), (1, (1, false))], 32⟩) ::
    (22, ⟨1, false, [.val (.slice none 0 0)], .slice 46, 24⟩) ::
    []
  F :=
    []

theorem tbSr_ok : tbSr.Ok Tryd.prog where
  T :=
    TblOk.cons (by kernel_rfl) <|
    TblOk.cons (by kernel_rfl) <|
    TblOk.cons (by kernel_rfl) <|
    TblOk.cons (by kernel_rfl) <|
    TblOk.cons (by kernel_rfl) <|
    TblOk.nil _
  F :=
    FlatsOk.nil _

def sPlace : SpecF
  | [.c (.row 0), .c (.str k)], [.elems ty one n get] => some (prPreR ty one n get, .tup [(some (.int .i64 (findI (prL n get) k : Int)), []), (some (.bool (findB (prL n get) k)), [])], [.dead])
  | _, _ => none

set_option maxRecDepth 100000 in
set_option maxHeartbeats 8000000 in
theorem placeP : Fn Tryd.prog 103 [] [(46, 2)] sPlace := by
  have hC : CtsOk Tryd.prog [] := CtsOk.nil _
  refine Fn.of (E := tbSr) [] 0 [(4, [(0, true), (1, true), (2, true), (3, true), (4, true), (5, true), (6, true), (7, true), (8, true), (9, true), (10, true), (11, true), (12, true), (13, true), (14, true), (15, true)])] tbSr_ok hC (by kernel_rfl) Tryd.func103 rfl rfl rfl (by kernel_rfl) (by kernel_rfl) 1 46 2 ?_ ?_
  · intro args h pre r h' hs
    unfold sPlace at hs
    split at hs
    · cases hs; exact ⟨rfl, rfl, Nat.le_of_ble_eq_true rfl⟩
    · cases hs
  · intro args h pre r h' hs hp
    unfold sPlace at hs
    split at hs
    rotate_left
    · cases hs
    rename_i k ty one n get
    cases hs
    obtain ⟨rfl, rfl, hst, hm⟩ := hp
    refine ⟨[.elems 46 2 n (prG (prL n get))], hst.same, ?_⟩
    have hL : (prL n get).length = n := prL_len
    have ePR : prL n (prG (prL n get)) = prL n get := by
      have := prL_prG (prL n get)
      rwa [hL] at this
    generalize prL n get = L at hL ePR ⊢
    show Runs Tryd.prog 1 (.loop _) _ _
    refine loop_ruleR (N := env (lft Tryd.prog 1) 0 .std tbSr [] [(4, [(0, true), (1, true), (2, true), (3, true), (4, true), (5, true), (6, true), (7, true), (8, true), (9, true), (10, true), (11, true), (12, true), (13, true), (14, true), (15, true)])]) rfl tbSr_ok hC (fun c st K _ h => h) (by kernel_rfl) [] (X := LPl L k n)
      (S := fun x => ⟨[.c (.row 0), .c (.str k), .any, .any, .any, .any, .c (.int .i64 (x.j : Int))] ++ List.replicate 29 .any, [.elems 46 2 n (prG L)]⟩) (μ := fun x => n - x.j) ⟨0, by omega, fun q hq => absurd hq (by omega)⟩ (by kernel_rfl) [0] ?_ ?_
    · refine ⟨rfl, by decide, ?_, ?_⟩ <;> repeat' (first | exact trivial | exact rfl | apply And.intro | exact (fun _ _ _ _ => Cell.le_refl _) | (intro i hi; rfl) | (intro i hi; exact absurd hi (Nat.not_lt_zero _)))
    rintro ⟨j, hjn, hP⟩
    generalize hg0 : (List.length : List PP → Nat) = g0
    generalize hL : lft Tryd.prog _ = L
    try dsimp only
    try unfold prG
    generalize ho0 : @prK = zo0, ho1 : @prV = zo1, ho2 : @prL = zo2, ho3 : @ltB = zo3, ho4 : @findI = zo4, ho5 : @findB = zo5, ho6 : @prPreR = zo6
    generalize hA : Arith.std = A
    cbv
    subst hA hg0 hL ho0 ho1 ho2 ho3 ho4 ho5 ho6
    have hED : (∀ q, q < j → ltB (prK L q) k = true) → (j < L.length → ltB (prK L j) k = false) → findI L k = j := fun h1 h2 => findI_at (by omega) h1 h2
    refine Ife.mk (fun h => ?_) (fun h => ?_)
    · have h : (j : Int) < (@Nat.cast Int instNatCastInt n) := of_decide_eq_true (p := (j : Int) < (n : Int)) h
      have hjn2 : j < n := Int.ofNat_lt.mp h
      refine Need.mk (by show 0 ≤ (j : Int) ∧ (j : Int) < (n : Int); omega) fun _ => Need.mk (by show (j : Int).toNat < n; omega) fun _ => ?_
      refine Ife.mk (fun h2 => ?_) (fun h2 => ?_)
      · have h2 : ltB (prK L j) k = true := h2
        refine Need.mk (by show fitStd .i64 ((j : Int) + 1); unfold fitStd; omega) fun _ => ?_
        refine ⟨⟨j + 1, by omega, fun q h4 => by
          by_cases hq : q = j
          · rw [hq]; exact h2
          · exact hP q (by omega)⟩, [0], (by show n - (j + 1) < n - j; omega), ?_⟩
        refine ⟨rfl, by decide, ?_, ?_⟩ <;> repeat' (first | exact trivial | exact rfl | apply And.intro | exact (fun _ _ _ _ => Cell.le_refl _) | (intro i hi; rfl) | (intro i hi; exact absurd hi (Nat.not_lt_zero _)))
      · have h2 : ltB (prK L j) k = false := h2
        have en := hED hP fun _ => h2
        refine Ife.mk (fun _ => ?_) (fun h3 => absurd h (of_decide_eq_false (p := (j : Int) < (n : Int)) h3))
        refine Need.mk (by show 0 ≤ (j : Int) ∧ (j : Int) < (n : Int); omega) fun _ => Need.mk (by show (j : Int).toNat < n; omega) fun _ => ?_
        have ei : (j : Int) = (findI L k : Int) := by rw [en]
        have e2 : decide (prK L j = k) = findB L k := by
          unfold findB
          rw [en, decide_eq_true (show j < L.length by omega), Bool.true_and]
        exact ⟨[0], ⟨rfl, (by repeat' (first | exact trivial | exact ei | exact e2 | exact rfl | apply And.intro)), by decide, rfl, by repeat' (first | exact trivial | exact rfl | apply And.intro | exact (fun _ _ _ _ => Cell.le_refl _) | (intro i hi; rfl) | (intro i hi; exact absurd hi (Nat.not_lt_zero _)))⟩⟩
    · have h : ¬ (j : Int) < (@Nat.cast Int instNatCastInt n) := of_decide_eq_false (p := (j : Int) < (n : Int)) h
      have hjn2 : ¬ j < n := fun h3 => h (Int.ofNat_lt.mpr h3)
      have en := hED hP fun h3 => absurd h3 (by omega)
      refine Ife.mk (fun h3 => absurd (of_decide_eq_true (p := (j : Int) < (n : Int)) h3) h) (fun _ => ?_)
      have ei : (j : Int) = (findI L k : Int) := by rw [en]
      have e2 : false = findB L k := by
        unfold findB
        rw [en, decide_eq_false (show ¬ j < L.length by omega), Bool.false_and]
      rw [← e2]
      exact ⟨[0], ⟨rfl, (by repeat' (first | exact trivial | exact ei | exact e2 | exact rfl | apply And.intro)), by decide, rfl, by repeat' (first | exact trivial | exact rfl | apply And.intro | exact (fun _ _ _ _ => Cell.le_refl _) | (intro i hi; rfl) | (intro i hi; exact absurd hi (Nat.not_lt_zero _)))⟩⟩

def sMayPx : List SV → Option (Prop × SV)
  | [.c (.str k), .c (.str v)] => some (True, .c (.bool (szB k v)))
  | _ => none

set_option maxRecDepth 100000 in
set_option maxHeartbeats 2000000 in
theorem mayPxP : Pure Tryd.prog 47 sMayPx := by
  have hC : CtsOk Tryd.prog [] := CtsOk.nil _
  refine Pure.of (E := tbSr) (C := []) [] 0 [] tbSr_ok hC (by kernel_rfl) Tryd.func47 rfl rfl rfl (by kernel_rfl) (by kernel_rfl) ?_ ?_
  · intro args pre r h
    unfold sMayPx at h
    split at h
    · cases h; rfl
    · cases h
  · intro args pre r h hp
    unfold sMayPx at h
    split at h
    rotate_left
    · cases h
    rename_i k v
    cases h
    generalize ho0 : @szB = zo0
    generalize hA : Arith.std = A
    cbv
    subst hA ho0
    unfold szB
    have hI : ∀ a b : Nat, decide ((a : Int) ≤ (b : Int)) = decide (a ≤ b) := fun a b => by simp
    refine Ife.mk (fun h1 => ?_) (fun h1 => ?_)
    · have h1 : decide ((1 : Nat) ≤ k.length) = true := (hI 1 k.length).symm.trans h1
      rw [h1]
      refine Ife.mk (fun h2 => ?_) (fun h2 => ?_)
      · have h2 : decide (k.length ≤ 160) = true := (hI k.length 160).symm.trans h2
        rw [h2]
        refine Ife.mk (fun h3 => ?_) (fun h3 => ?_)
        · have h3 : decide ((1 : Nat) ≤ v.length) = true := (hI 1 v.length).symm.trans h3
          rw [h3]
          simp only [Bool.true_and]
          exact hI v.length 64
        · have h3 : decide ((1 : Nat) ≤ v.length) = false := (hI 1 v.length).symm.trans h3
          rw [h3]
          rfl
      · have h2 : decide (k.length ≤ 160) = false := (hI k.length 160).symm.trans h2
        rw [h2]
        rfl
    · have h1 : decide ((1 : Nat) ≤ k.length) = false := (hI 1 k.length).symm.trans h1
      rw [h1]
      rfl

def sSetR : SpecF
  | [.c (.row 0), .c (.str k), .c (.str v)], [.elems ty one n get] => some (prPreR ty one n get, .c (.row 1), [.dead, .row 46 2 (setL (prL n get) k v).length (prG (setL (prL n get) k v))])
  | _, _ => none

set_option maxRecDepth 100000 in
set_option maxHeartbeats 8000000 in
theorem setRP : Fn Tryd.prog 48 [] [(46, 2)] sSetR := by
  have hC : CtsOk Tryd.prog [(103, appFn [] [(46, 2)] sPlace)] := CtsOk.cons (Fn.ct placeP) <| CtsOk.nil _
  refine Fn.of (E := tbSr) [] 0 [] tbSr_ok hC (by kernel_rfl) Tryd.func48 rfl rfl rfl (by kernel_rfl) (by kernel_rfl) 1 46 2 ?_ ?_
  · intro args h pre r h' hs
    unfold sSetR at hs
    split at hs
    · cases hs; exact ⟨rfl, rfl, Nat.le_of_ble_eq_true rfl⟩
    · cases hs
  · intro args h pre r h' hs hp
    unfold sSetR at hs
    split at hs
    rotate_left
    · cases hs
    rename_i k v ty one n get
    cases hs
    obtain ⟨rfl, rfl, hst, hm⟩ := hp
    refine ⟨[.elems 46 2 n (prG (prL n get))], hst.same, ?_⟩
    have hL : (prL n get).length = n := prL_len
    have ePR : prL n (prG (prL n get)) = prL n get := by
      have := prL_prG (prL n get)
      rwa [hL] at this
    generalize prL n get = L at hL ePR ⊢
    unfold sPlace
    generalize hg0 : (List.length : List PP → Nat) = g0
    try unfold prG
    generalize ho0 : @prK = zo0, ho1 : @prV = zo1, ho2 : @prL = zo2, ho3 : @findI = zo3, ho4 : @findB = zo4, ho5 : @setL = zo5, ho6 : @prPreR = zo6
    generalize hA : Arith.std = A
    cbv
    subst hA hg0 ho0 ho1 ho2 ho3 ho4 ho5 ho6
    refine Need.mk ⟨rfl, rfl, prAt_prG n L, hm⟩ fun _ => ?_
    rw [ePR]
    have hle := findI_le (L := L) (k := k)
    refine Need.mk (by show (0 : Int) ≤ 0 ∧ (0 : Int) ≤ (findI L k : Int) ∧ (findI L k : Int) ≤ (n : Int); omega) fun _ => Need.mk (by show (0 + ((findI L k : Int) - 0).toNat ≤ maxLen ∧ (0 + ((findI L k : Int) - 0).toNat) * 32 ≤ 140737488355328) ∧ _; refine ⟨?_, fun i _ => rfl⟩; unfold maxLen; omega) fun _ => ?_
    refine Need.mk (by show ((findI L k : Int) - 0).toNat + 1 ≤ maxLen ∧ (((findI L k : Int) - 0).toNat + 1) * 32 ≤ 140737488355328; unfold maxLen; omega) fun _ => ?_
    refine Ife.mk (fun hb => ?_) (fun hb => ?_)
    · have hb : findB L k = true := hb
      obtain ⟨h1, h2⟩ := findB_eq hb
      refine Need.mk (by show fitStd .i64 ((findI L k : Int) + 1); unfold fitStd; omega) fun _ => ?_
      refine Need.mk (by show 0 ≤ ((findI L k : Int) + 1) ∧ ((findI L k : Int) + 1) ≤ (n : Int) ∧ (n : Int) ≤ (n : Int); omega) fun _ => ?_
      refine Need.mk (by show ((((findI L k : Int) - 0).toNat + 1) + ((n : Int) - ((findI L k : Int) + 1)).toNat ≤ maxLen ∧ ((((findI L k : Int) - 0).toNat + 1) + ((n : Int) - ((findI L k : Int) + 1)).toNat) * 32 ≤ 140737488355328) ∧ _; refine ⟨?_, fun i _ => rfl⟩; unfold maxLen; omega) fun _ => ?_
      have hR1 := (natM (((findI L k : Int) - 0).toNat + 1) (((n : Int) - ((findI L k : Int) + 1)).toNat)).trans (show (((findI L k : Int) - 0).toNat + 1) + ((n : Int) - ((findI L k : Int) + 1)).toNat = (setL L k v).length by rw [setL_len, if_pos hb]; omega)
      have hR2 : ∀ i, i < (setL L k v).length → catG (((findI L k : Int) - 0).toNat + 1) (pushG ((findI L k : Int) - 0).toNat (fun i => prG L (0 + i)) [.str k, .str v]) (fun i => prG L ((((findI L k : Int) + 1)).toNat + i)) i = prG (setL L k v) i := fun i _ => by
        rw [setL_cat, if_pos hb, show ((findI L k : Int) - 0).toNat = findI L k by omega, show (((findI L k : Int) + 1)).toNat = findI L k + 1 by omega]
        exact prG_cat hle i
      exact ⟨[0, 5], ⟨rfl, (by repeat' (first | exact trivial | exact hR1 | exact hR2 | exact rfl | apply And.intro | exact (fun _ _ _ _ => Cell.le_refl _) | (intro i hi; rfl) | (intro i hi; exact absurd hi (Nat.not_lt_zero _)))), (by show List.Nodup [5]; decide), rfl, by repeat' (first | exact trivial | exact hR1 | exact hR2 | exact rfl | apply And.intro | exact (fun _ _ _ _ => Cell.le_refl _) | (intro i hi; rfl) | (intro i hi; exact absurd hi (Nat.not_lt_zero _)))⟩⟩
    · have hb : findB L k = false := hb
      have hb2 : ¬ findB L k = true := by rw [hb]; decide
      refine Need.mk (by show 0 ≤ (findI L k : Int) ∧ (findI L k : Int) ≤ (n : Int) ∧ (n : Int) ≤ (n : Int); omega) fun _ => ?_
      refine Need.mk (by show ((((findI L k : Int) - 0).toNat + 1) + ((n : Int) - (findI L k : Int)).toNat ≤ maxLen ∧ ((((findI L k : Int) - 0).toNat + 1) + ((n : Int) - (findI L k : Int)).toNat) * 32 ≤ 140737488355328) ∧ _; refine ⟨?_, fun i _ => rfl⟩; unfold maxLen; omega) fun _ => ?_
      have hR1 := (natM (((findI L k : Int) - 0).toNat + 1) (((n : Int) - (findI L k : Int)).toNat)).trans (show (((findI L k : Int) - 0).toNat + 1) + ((n : Int) - (findI L k : Int)).toNat = (setL L k v).length by rw [setL_len, if_neg hb2]; omega)
      have hR2 : ∀ i, i < (setL L k v).length → catG (((findI L k : Int) - 0).toNat + 1) (pushG ((findI L k : Int) - 0).toNat (fun i => prG L (0 + i)) [.str k, .str v]) (fun i => prG L (((findI L k : Int)).toNat + i)) i = prG (setL L k v) i := fun i _ => by
        rw [setL_cat, if_neg hb2, show ((findI L k : Int) - 0).toNat = findI L k by omega, show ((findI L k : Int)).toNat = findI L k by omega]
        exact prG_cat hle i
      exact ⟨[0, 5], ⟨rfl, (by repeat' (first | exact trivial | exact hR1 | exact hR2 | exact rfl | apply And.intro | exact (fun _ _ _ _ => Cell.le_refl _) | (intro i hi; rfl) | (intro i hi; exact absurd hi (Nat.not_lt_zero _)))), (by show List.Nodup [5]; decide), rfl, by repeat' (first | exact trivial | exact hR1 | exact hR2 | exact rfl | apply And.intro | exact (fun _ _ _ _ => Cell.le_refl _) | (intro i hi; rfl) | (intro i hi; exact absurd hi (Nat.not_lt_zero _)))⟩⟩

def sRise : SpecF
  | [.c (.row 0)], [.elems ty one n get] => some (prPreR ty one n get, .c (.row 1), [.dead, .row 46 2 (riseL (prL n get)).length (prG (riseL (prL n get)))])
  | _, _ => none

set_option maxRecDepth 100000 in
set_option maxHeartbeats 8000000 in
theorem riseP : Fn Tryd.prog 30 [] [(46, 2)] sRise := by
  have hC : CtsOk Tryd.prog [(47, appPure sMayPx), (48, appFn [] [(46, 2)] sSetR)] := CtsOk.cons (Pure.ct mayPxP) <| CtsOk.cons (Fn.ct setRP) <| CtsOk.nil _
  refine Fn.of (E := tbSr) [] 0 [(5, [(0, true), (1, true), (2, true), (3, true), (4, true), (5, true), (6, true), (7, true), (8, true), (9, true), (10, false)]), (6, [(0, true), (1, true), (2, true), (3, true), (4, true), (5, true), (6, true), (7, true), (8, true), (9, true), (10, true), (11, false), (12, true)])] tbSr_ok hC (by kernel_rfl) Tryd.func30 rfl rfl rfl (by kernel_rfl) (by kernel_rfl) 1 46 2 ?_ ?_
  · intro args h pre r h' hs
    unfold sRise at hs
    split at hs
    · cases hs; exact ⟨rfl, rfl, Nat.le_of_ble_eq_true rfl⟩
    · cases hs
  · intro args h pre r h' hs hp
    unfold sRise at hs
    split at hs
    rotate_left
    · cases hs
    rename_i ty one n get
    cases hs
    obtain ⟨rfl, rfl, hst, hm⟩ := hp
    refine ⟨[.elems 46 2 n (prG (prL n get))], hst.same, ?_⟩
    have hL : (prL n get).length = n := prL_len
    have ePR : prL n (prG (prL n get)) = prL n get := by
      have := prL_prG (prL n get)
      rwa [hL] at this
    generalize prL n get = L at hL ePR ⊢
    generalize hg0 : (List.length : List PP → Nat) = g0
    generalize hL : lft Tryd.prog _ = L
    try unfold prG
    generalize ho0 : @prK = zo0, ho1 : @prV = zo1, ho2 : @prL = zo2, ho3 : @szB = zo3, ho4 : @setL = zo4, ho5 : @putS = zo5, ho6 : @prPreR = zo6, ho7 : @riseL = zo7
    generalize hA : Arith.std = A
    cbv
    subst hA hg0 hL ho0 ho1 ho2 ho3 ho4 ho5 ho6 ho7
    refine Runs.nilTmp 3 46 2 (prG []) rfl ?_
    show Runs Tryd.prog 1 (.loop _) _ _
    refine loop_ruleR (N := env (lft Tryd.prog 1) 0 .std tbSr [(47, appPure sMayPx), (48, appFn [] [(46, 2)] sSetR)] [(5, [(0, true), (1, true), (2, true), (3, true), (4, true), (5, true), (6, true), (7, true), (8, true), (9, true), (10, false)]), (6, [(0, true), (1, true), (2, true), (3, true), (4, true), (5, true), (6, true), (7, true), (8, true), (9, true), (10, true), (11, false), (12, true)])]) rfl tbSr_ok hC (fun c st K _ h => h) (by kernel_rfl) [] (X := LRs L n)
      (S := fun x => ⟨[.c (.row 0), .any, .any, .c (.row 1), .c (.int .i64 (x.j : Int))] ++ List.replicate 30 .any, [.elems 46 2 n (prG L), .row 46 2 x.out.length (prG x.out)]⟩) (μ := fun x => n - x.j) ⟨0, [], by omega, rfl, by simp⟩ (by kernel_rfl) [0, 1] ?_ ?_
    · refine ⟨rfl, by decide, ?_, ?_⟩ <;> repeat' (first | exact trivial | exact rfl | apply And.intro | exact (fun _ _ _ _ => Cell.le_refl _) | (intro i hi; rfl) | (intro i hi; exact absurd hi (Nat.not_lt_zero _)))
    rintro ⟨j, out, hjn, ho, hol⟩
    unfold sMayPx sSetR
    generalize hg0 : (List.length : List PP → Nat) = g0
    generalize hL : lft Tryd.prog _ = L
    try dsimp only
    try unfold prG
    generalize ho0 : @prK = zo0, ho1 : @prV = zo1, ho2 : @prL = zo2, ho3 : @szB = zo3, ho4 : @setL = zo4, ho5 : @putS = zo5, ho6 : @prPreR = zo6, ho7 : @riseL = zo7
    generalize hA : Arith.std = A
    cbv
    subst hA hg0 hL ho0 ho1 ho2 ho3 ho4 ho5 ho6 ho7
    have hx : prL out.length (prG out) = out := prL_prG out
    have hfit : j < n → fitStd .i64 ((j : Int) + 1) := fun _ => by unfold fitStd; omega
    refine Ife.mk (fun h => ?_) (fun h => ?_)
    · have h : (j : Int) < (@Nat.cast Int instNatCastInt n) := of_decide_eq_true (p := (j : Int) < (n : Int)) h
      have hjn2 : j < n := Int.ofNat_lt.mp h
      have ht := rise_take (L := L) (j := j) (by omega)
      rw [← ho] at ht
      refine Need.mk (by show 0 ≤ (j : Int) ∧ (j : Int) < (n : Int); omega) fun _ => Need.mk (by show (j : Int).toNat < n; omega) fun _ => Need.mk (by show 0 ≤ (j : Int) ∧ (j : Int) < (n : Int); omega) fun _ => Need.mk (by show (j : Int).toNat < n; omega) fun _ => Need.mk trivial fun _ => ?_
      refine Ife.mk (fun h2 => ?_) (fun h2 => ?_)
      · have h2 : szB (prK L j) (prV L j) = true := h2
        have hp2 : putS out (prK L j) (prV L j) = setL out (prK L j) (prV L j) := by unfold putS; rw [h2]; rfl
        refine Need.mk (by show 0 ≤ (j : Int) ∧ (j : Int) < (n : Int); omega) fun _ => Need.mk (by show (j : Int).toNat < n; omega) fun _ => Need.mk (by show 0 ≤ (j : Int) ∧ (j : Int) < (n : Int); omega) fun _ => Need.mk (by show (j : Int).toNat < n; omega) fun _ => ?_
        refine Need.mk (show prPreR 46 2 out.length (prG out) from ⟨rfl, rfl, prAt_prG _ out, by omega⟩) fun _ => Need.mk (hfit hjn2) fun _ => ?_
        try dsimp only
        rw [hx]
        refine ⟨⟨j + 1, setL out (prK L j) (prV L j), by omega, by rw [ht, hp2], by rw [setL_len]; split <;> omega⟩, [0, 3], (by show n - (j + 1) < n - j; omega), ?_⟩
        refine ⟨rfl, (by decide), ?_, ?_⟩ <;> repeat' (first | exact trivial | exact hR1 | exact hR2 | exact rfl | apply And.intro | exact (fun _ _ _ _ => Cell.le_refl _) | (intro i hi; rfl) | (intro i hi; exact absurd hi (Nat.not_lt_zero _)))
      · have h2 : szB (prK L j) (prV L j) = false := h2
        have hp2 : putS out (prK L j) (prV L j) = out := by unfold putS; rw [h2]; rfl
        refine Need.mk (hfit hjn2) fun _ => ?_
        refine ⟨⟨j + 1, out, by omega, by rw [ht, hp2], by omega⟩, [0, 1], (by show n - (j + 1) < n - j; omega), ?_⟩
        refine ⟨rfl, (by decide), ?_, ?_⟩ <;> repeat' (first | exact trivial | exact hR1 | exact hR2 | exact rfl | apply And.intro | exact (fun _ _ _ _ => Cell.le_refl _) | (intro i hi; rfl) | (intro i hi; exact absurd hi (Nat.not_lt_zero _)))
    · have h : ¬ (j : Int) < (@Nat.cast Int instNatCastInt n) := of_decide_eq_false (p := (j : Int) < (n : Int)) h
      have hjn2 : ¬ j < n := fun h3 => h (Int.ofNat_lt.mpr h3)
      have e : out = riseL L := by rw [ho, List.take_of_length_le (by omega)]
      have hR1 : out.length = (riseL L).length := by rw [e]
      have hR2 : ∀ i, i < (riseL L).length → prG out i = prG (riseL L) i := fun i _ => by rw [e]
      exact ⟨[0, 1], ⟨rfl, (by repeat' (first | exact trivial | exact hR1 | exact hR2 | exact rfl | apply And.intro | exact (fun _ _ _ _ => Cell.le_refl _) | (intro i hi; rfl) | (intro i hi; exact absurd hi (Nat.not_lt_zero _)))), (by show List.Nodup [1]; decide), rfl, by repeat' (first | exact trivial | exact hR1 | exact hR2 | exact rfl | apply And.intro | exact (fun _ _ _ _ => Cell.le_refl _) | (intro i hi; rfl) | (intro i hi; exact absurd hi (Nat.not_lt_zero _)))⟩⟩

end Go.Proofs.YthomoliklfmnkaaDoor.Vx
end

section
/- Stores: the chapter's examples; what lies under a text, plainly. -/
namespace Go.Proofs.YthomoliklfmnkaaDoor.Vx
open Go.RowKit
set_option linter.unusedVariables false
set_option linter.unusedSimpArgs false
theorem rise_s {L : List PP} : StS (riseL L) := by
  unfold riseL
  have key : ∀ (L M : List PP), StS M → StS (L.foldl (fun out p => putS out p.1 p.2) M) := by
    intro L
    induction L with
    | nil => intro M h; exact h
    | cons p L ih => intro M h; exact ih _ (putS_s h)
  exact key L [] List.Pairwise.nil
def AllSz (L : List PP) : Prop := ∀ p ∈ L, szB p.1 p.2 = true
theorem put_sz {L : List PP} {k v : List UInt8} (h : AllSz L) : AllSz (putS L k v) := by
  unfold putS
  split
  · rename_i hz
    unfold setL
    intro p hp
    split at hp
    · rcases List.mem_or_eq_of_mem_set hp with h1 | h1
      · exact h p h1
      · rw [h1]; exact hz
    · rcases List.mem_append.1 hp with h1 | h1
      · exact h p (List.mem_of_mem_take h1)
      · rcases List.mem_cons.1 h1 with h1 | h1
        · rw [h1]; exact hz
        · exact h p (List.mem_of_mem_drop h1)
  · exact h
theorem rise_sz {L : List PP} : AllSz (riseL L) := by
  unfold riseL
  have key : ∀ (L M : List PP), AllSz M → AllSz (L.foldl (fun out p => putS out p.1 p.2) M) := by
    intro L
    induction L with
    | nil => intro M h; exact h
    | cons p L ih => intro M h; exact ih _ (put_sz h)
  exact key L [] fun p hp => by cases hp
theorem AllSz.at {L : List PP} (h : AllSz L) {i : Nat} (hi : i < L.length) : szB (prK L i) (prV L i) = true := by
  rw [prK_eq hi, prV_eq hi]
  exact h _ (List.getElem_mem hi)
theorem szB_iff {k v : List UInt8} : szB k v = true ↔ (1 ≤ k.length ∧ k.length ≤ 160) ∧ 1 ≤ v.length ∧ v.length ≤ 64 := by simp [szB]



end Go.Proofs.YthomoliklfmnkaaDoor.Vx
end
