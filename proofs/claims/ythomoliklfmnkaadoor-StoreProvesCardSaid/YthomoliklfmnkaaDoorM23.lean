/- Stores: Good, Clone, New, Set, Drop, Get, Len, Under, by the walker. -/
import Derived.Test.YthomoliklfmnkaaDoorVSt1
import Derived.Test.YthomoliklfmnkaaDoorM11
import Derived.Test.YthomoliklfmnkaaDoorM13
section
namespace Go.Proofs.YthomoliklfmnkaaDoor.Vx
open Go.RowKit
set_option linter.unusedVariables false
set_option linter.unusedSimpArgs false
/-- May the pairs be proved? -/
def goodAt (L : List PP) (i : Nat) : Bool := szB (prK L i) (prV L i) && (decide (i = 0) || ltB (prK L (i - 1)) (prK L i))
def goodL (L : List PP) : Bool := (List.range L.length).all (goodAt L)
structure LGo (L : List PP) (n : Nat) where
  i : Int
  h0 : 0 ≤ i
  h1 : i ≤ (n : Int)
  h2 : ∀ k, k < i.toNat → goodAt L k = true
theorem goodL_no {L : List PP} {i : Nat} (hi : i < L.length) (h : goodAt L i = false) : goodL L = false := by
  rw [Bool.eq_false_iff]
  intro h2
  have := List.all_eq_true.1 h2 i (List.mem_range.2 hi)
  rw [h] at this
  cases this
theorem goodL_yes {L : List PP} (h : ∀ k, k < L.length → goodAt L k = true) : goodL L = true := List.all_eq_true.2 fun k hk => h k (List.mem_range.1 hk)
theorem goodL_one {k v : List UInt8} : goodL [(k, v)] = szB k v := by
  show (List.range 1).all (goodAt [(k, v)]) = _
  simp [goodAt, prK, prV]
theorem prL_one {k v : List UInt8} {get : Nat → List CV} (h : get 0 = [.str k, .str v]) : prL 1 get = [(k, v)] := by
  show [prOf (get 0)] = _
  rw [h]
  rfl
theorem prG_set {L : List PP} {k v : List UInt8} {i : Nat} (hi : i < L.length) (j : Nat) (hj : j < L.length) : upG (prG L) i 0 [.str k, .str v] j = prG (L.set i (k, v)) j := by
  unfold upG
  by_cases h : j = i
  · subst h
    rw [show Nat.beq j j = true by simp]
    show setMany (prG L j) 0 [.str k, .str v] = _
    unfold prG prGP prK prV
    simp [setMany, List.getD, hj]
  · rw [show Nat.beq j i = false by rw [Bool.eq_false_iff]; intro h2; exact h (by simpa using h2)]
    unfold prG prGP prK prV
    simp [List.getD, List.getElem?_set_ne (Ne.symm h)]
theorem prG_ins {L : List PP} {k v : List UInt8} {i : Nat} (hi : i ≤ L.length) (j : Nat) : insG (prG L) i [.str k, .str v] j = prG (L.take i ++ (k, v) :: L.drop i) j := by
  have hl : (L.take i).length = i := by rw [List.length_take]; omega
  rcases Nat.lt_trichotomy j i with h | h | h
  · rw [insG_lt h]
    unfold prG prGP prK prV
    simp [List.getD, List.getElem?_append_left (show j < (L.take i).length by omega), List.getElem?_take_of_lt h]
  · subst h
    rw [insG_eq]
    unfold prG prGP prK prV
    simp [List.getD, List.getElem?_append_right (show (L.take j).length ≤ j by omega), hl]
  · rw [insG_gt h]
    obtain ⟨m, rfl⟩ : ∃ m, j = i + m + 1 := ⟨j - i - 1, by omega⟩
    unfold prG prGP prK prV
    simp [List.getD, List.getElem?_append_right (show (L.take i).length ≤ i + m + 1 by omega), hl, show i + m + 1 - i = m + 1 by omega, Nat.add_comm]
theorem prG_del {L : List PP} {i : Nat} (j : Nat) : delG (prG L) i j = prG (L.eraseIdx i) j := by
  by_cases h : j < i
  · rw [delG_lt h]
    unfold prG prGP prK prV
    simp [List.getD, List.getElem?_eraseIdx_of_lt h]
  · rw [delG_ge (by omega)]
    unfold prG prGP prK prV
    simp [List.getD, List.getElem?_eraseIdx_of_ge (show i ≤ j by omega)]
theorem prPre_one {k v : List UInt8} : prPre 63 2 1 (cutC 2 [.str k, .str v] 0) := by
  refine ⟨rfl, rfl, fun i hi => ⟨k, v, ?_⟩, by decide⟩
  obtain rfl : i = 0 := by omega
  rfl
def sGood : SpecF
  | [.c (.row 0)], [.elems ty one n get] => some (prPre ty one n get, .c (.bool (goodL (prL n get))), [.dead])
  | _, _ => none

set_option maxRecDepth 100000 in
set_option maxHeartbeats 8000000 in
theorem goodP : Fn Tryd.prog 18 [] [(63, 2)] sGood := by
  have hC : CtsOk Tryd.prog [(76, appPure sSzd)] := CtsOk.cons (Pure.ct szdP) <| CtsOk.nil _
  refine Fn.of (E := tbSt) [] 0 [(4, [(0, true), (1, true), (2, true), (3, true), (4, false), (5, true), (6, true), (7, true), (8, true), (9, true), (10, true), (11, true), (12, true), (13, true), (14, true), (15, true), (16, true), (17, true), (18, true), (19, true), (20, true)])] tbSt_ok hC (by kernel_rfl) Tryd.func18 rfl rfl rfl (by kernel_rfl) (by kernel_rfl) 1 63 2 ?_ ?_
  · intro args h pre r h' hs
    unfold sGood at hs
    split at hs
    · cases hs; exact ⟨rfl, rfl, Nat.le_of_ble_eq_true rfl⟩
    · cases hs
  · intro args h pre r h' hs hp
    unfold sGood at hs
    split at hs
    rotate_left
    · cases hs
    rename_i ty one n get
    cases hs
    obtain ⟨rfl, rfl, hst, hm⟩ := hp
    refine ⟨[.elems 63 2 n (prG (prL n get))], hst.same, ?_⟩
    have hL : (prL n get).length = n := prL_len
    generalize prL n get = L at hL ⊢
    show Runs Tryd.prog 1 (.loop _) _ _
    refine loop_ruleR (N := env (lft Tryd.prog 1) 0 .std tbSt [(76, appPure sSzd)] [(4, [(0, true), (1, true), (2, true), (3, true), (4, false), (5, true), (6, true), (7, true), (8, true), (9, true), (10, true), (11, true), (12, true), (13, true), (14, true), (15, true), (16, true), (17, true), (18, true), (19, true), (20, true)])]) rfl tbSt_ok hC (fun c st K _ h => h) (by kernel_rfl) [] (X := LGo L n)
      (S := fun x => ⟨[.c (.row 0), .any, .any, .any, .any, .c (.row 0), .c (.int .i64 n), .c (.int .i64 x.i)] ++ List.replicate 26 .any, [.elems 63 2 n (prG L)]⟩) (μ := fun x => n - x.i.toNat) ⟨0, by omega, by omega, fun k hk => absurd hk (by omega)⟩ (by kernel_rfl) [0] ?_ ?_
    · refine ⟨rfl, by decide, ?_, ?_⟩ <;> repeat' (first | exact trivial | exact rfl | apply And.intro | exact (fun _ _ _ _ => Cell.le_refl _) | (intro i hi; rfl) | (intro i hi; exact absurd hi (Nat.not_lt_zero _)))
    rintro ⟨i, hi0, hin, hP⟩
    unfold sSzd
    generalize hg0 : (List.length : List PP → Nat) = g0
    generalize hL : lft Tryd.prog _ = L
    try dsimp only
    try unfold prG
    generalize ho0 : @prK = zo0, ho1 : @prV = zo1, ho2 : @prL = zo2, ho3 : @ltB = zo3, ho4 : @szB = zo4, ho5 : @prPre = zo5, ho6 : @goodAt = zo6, ho7 : @goodL = zo7
    generalize hA : Arith.std = A
    cbv
    subst hA hg0 hL ho0 ho1 ho2 ho3 ho4 ho5 ho6 ho7
    replace hin : i ≤ @Nat.cast Int instNatCastInt n := hin
    refine Ife.mk (fun hlt => ?_) (fun hlt => ?_)
    · replace hlt : i < @Nat.cast Int instNatCastInt n := of_decide_eq_true (p := i < (n : Int)) hlt
      refine Need.mk (by show 0 ≤ i ∧ i < (n : Int); omega) fun _ => Need.mk (by show i.toNat < n; omega) fun _ => Need.mk trivial fun _ => ?_
      have hNO : goodAt L i.toNat = false → goodL L = false := fun h => goodL_no (by omega) h
      have hYES : goodAt L i.toNat = true → ∀ k, k < (i + 1).toNat → goodAt L k = true := fun h k hk => by
        by_cases hki : k = i.toNat
        · rw [hki]; exact h
        · exact hP k (by omega)
      refine Ife.mk (fun h => ?_) (fun h => ?_)
      · have h : (!szB (prK L i.toNat) (prV L i.toNat)) = true := h
        rw [hNO (by unfold goodAt; rw [show szB (prK L i.toNat) (prV L i.toNat) = false by simpa using h, Bool.false_and])]
        exact ⟨[0], ⟨rfl, (by repeat' (first | exact trivial | exact rfl | apply And.intro | exact (fun _ _ _ _ => Cell.le_refl _) | (intro i hi; rfl) | (intro i hi; exact absurd hi (Nat.not_lt_zero _)))), by decide, rfl, by repeat' (first | exact trivial | exact rfl | apply And.intro | exact (fun _ _ _ _ => Cell.le_refl _) | (intro i hi; rfl) | (intro i hi; exact absurd hi (Nat.not_lt_zero _)))⟩⟩
      · have h : (!szB (prK L i.toNat) (prV L i.toNat)) = false := h
        have hz : szB (prK L i.toNat) (prV L i.toNat) = true := by simpa using h
        refine Ife.mk (fun h1 => ?_) (fun h1 => ?_)
        · have h1 : 0 < i := of_decide_eq_true (p := 0 < i) h1
          have e3 : (i - 1).toNat = i.toNat - 1 := by omega
          refine Need.mk (by show fitStd .i64 (i - 1); unfold fitStd; omega) fun _ => Need.mk (by show 0 ≤ i - 1 ∧ i - 1 < (n : Int); omega) fun _ => Need.mk (by show (i - 1).toNat < n; omega) fun _ => ?_
          refine Ife.mk (fun h2 => ?_) (fun h2 => ?_)
          · have h2 : (!ltB (prK L (i - 1).toNat) (prK L i.toNat)) = true := h2
            rw [hNO (by unfold goodAt; rw [hz, decide_eq_false (show ¬ i.toNat = 0 by omega), ← e3, show ltB (prK L (i - 1).toNat) (prK L i.toNat) = false by simpa using h2]; rfl)]
            exact ⟨[0], ⟨rfl, (by repeat' (first | exact trivial | exact rfl | apply And.intro | exact (fun _ _ _ _ => Cell.le_refl _) | (intro i hi; rfl) | (intro i hi; exact absurd hi (Nat.not_lt_zero _)))), by decide, rfl, by repeat' (first | exact trivial | exact rfl | apply And.intro | exact (fun _ _ _ _ => Cell.le_refl _) | (intro i hi; rfl) | (intro i hi; exact absurd hi (Nat.not_lt_zero _)))⟩⟩
          · have h2 : (!ltB (prK L (i - 1).toNat) (prK L i.toNat)) = false := h2
            have hg : goodAt L i.toNat = true := by unfold goodAt; rw [hz, ← e3, show ltB (prK L (i - 1).toNat) (prK L i.toNat) = true by simpa using h2]; simp
            refine Need.mk (by show fitStd .i64 (i + 1); unfold fitStd; omega) fun _ => ?_
            refine ⟨⟨i + 1, by omega, by omega, hYES hg⟩, [0], (by show n - (i + 1).toNat < n - i.toNat; omega), ?_⟩
            refine ⟨rfl, by decide, ?_, ?_⟩ <;> repeat' (first | exact trivial | exact rfl | apply And.intro | exact (fun _ _ _ _ => Cell.le_refl _) | (intro i hi; rfl) | (intro i hi; exact absurd hi (Nat.not_lt_zero _)))
        · have h1 : ¬ 0 < i := of_decide_eq_false (p := 0 < i) h1
          have hg : goodAt L i.toNat = true := by unfold goodAt; rw [hz, decide_eq_true (show i.toNat = 0 by omega)]; simp
          refine Need.mk (by show fitStd .i64 (i + 1); unfold fitStd; omega) fun _ => ?_
          refine ⟨⟨i + 1, by omega, by omega, hYES hg⟩, [0], (by show n - (i + 1).toNat < n - i.toNat; omega), ?_⟩
          refine ⟨rfl, by decide, ?_, ?_⟩ <;> repeat' (first | exact trivial | exact rfl | apply And.intro | exact (fun _ _ _ _ => Cell.le_refl _) | (intro i hi; rfl) | (intro i hi; exact absurd hi (Nat.not_lt_zero _)))
    · replace hlt : ¬ i < @Nat.cast Int instNatCastInt n := of_decide_eq_false (p := i < (n : Int)) hlt
      rw [goodL_yes fun k hk => hP k (by omega)]
      exact ⟨[0], ⟨rfl, (by repeat' (first | exact trivial | exact rfl | apply And.intro | exact (fun _ _ _ _ => Cell.le_refl _) | (intro i hi; rfl) | (intro i hi; exact absurd hi (Nat.not_lt_zero _)))), by decide, rfl, by repeat' (first | exact trivial | exact rfl | apply And.intro | exact (fun _ _ _ _ => Cell.le_refl _) | (intro i hi; rfl) | (intro i hi; exact absurd hi (Nat.not_lt_zero _)))⟩⟩



def sNewS : SpecF
  | [], [] => some (True, .c (.ptr 0 0), [.cells 137 [.row 1], .row 63 2 0 (prG [])])
  | _, _ => none
set_option maxRecDepth 100000 in
set_option maxHeartbeats 8000000 in
theorem newSP : Fn Tryd.prog 37 [] [] sNewS := by
  have hC : CtsOk Tryd.prog [] := CtsOk.nil _
  refine Fn.ofR (E := tbSt) tbSt_ok Tryd.func37 rfl rfl rfl (by kernel_rfl) 0 63 2 ?_ ?_
  · intro args h pre r h' hs
    unfold sNewS at hs
    split at hs
    · cases hs; exact ⟨rfl, rfl, Nat.le_of_ble_eq_true rfl⟩
    · cases hs
  · intro args h pre r h' hs hp
    unfold sNewS at hs
    split at hs
    rotate_left
    · cases hs
    cases hs
    refine ⟨[], trivial, ?_⟩
    refine Runs.cutT ⟨List.replicate 3 .any, []⟩ ?_ ?_
    · refine exec_ok (N := env (lft Tryd.prog 0) 0 .std tbSt [] []) rfl tbSt_ok hC (fun c st K _ h => h) (by kernel_rfl) [] _ _ _ (by kernel_rfl) ?_
      generalize hL : lft Tryd.prog _ = L
      try unfold prG
      generalize ho0 : @prK = zo0, ho1 : @prV = zo1
      generalize hA : Arith.std = A
      cbv
      subst hA hL ho0 ho1
      exact StT.ofL (σ := []) ⟨rfl, by show List.Nodup []; exact List.nodup_nil, by repeat' (first | exact trivial | exact rfl | apply And.intro | exact (fun _ _ _ _ => Cell.le_refl _) | (intro i hi; rfl) | (intro i hi; exact absurd hi (Nat.not_lt_zero _))), by repeat' (first | exact trivial | exact rfl | apply And.intro | exact (fun _ _ _ _ => Cell.le_refl _) | (intro i hi; rfl) | (intro i hi; exact absurd hi (Nat.not_lt_zero _)))⟩
    refine Runs.cutT ⟨[.c (.ptr 0 0), .any, .any], [.cells 137 [.row 1], .row 63 2 0 (prG [])]⟩ ?_ ?_
    · refine exec_ok (N := env (lft Tryd.prog 0) 0 .std tbSt [] []) rfl tbSt_ok hC (fun c st K _ h => h) (by kernel_rfl) [] _ _ _ (by kernel_rfl) ?_
      generalize hL : lft Tryd.prog _ = L
      try unfold prG
      generalize ho0 : @prK = zo0, ho1 : @prV = zo1
      generalize hA : Arith.std = A
      cbv
      subst hA hL ho0 ho1
      exact StT.trans (StT.nilCell 0 0 (.row 63 2 0 (prG [])) rfl rfl rfl) (StT.ofL (σ := [0, 1]) ⟨rfl, by show List.Nodup [0, 1]; decide, by repeat' (first | exact trivial | exact rfl | apply And.intro | exact (fun _ _ _ _ => Cell.le_refl _) | (intro i hi; rfl) | (intro i hi; exact absurd hi (Nat.not_lt_zero _))), by repeat' (first | exact trivial | exact rfl | apply And.intro | exact (fun _ _ _ _ => Cell.le_refl _) | (intro i hi; rfl) | (intro i hi; exact absurd hi (Nat.not_lt_zero _)))⟩)
    refine exec_ok (N := env (lft Tryd.prog 0) 0 .std tbSt [] []) rfl tbSt_ok hC (fun c st K _ h => h) (by kernel_rfl) [] _ _ _ (by kernel_rfl) ?_
    generalize hL : lft Tryd.prog _ = L
    try unfold prG
    generalize ho0 : @prK = zo0, ho1 : @prV = zo1
    generalize hA : Arith.std = A
    cbv
    subst hA hL ho0 ho1
    exact ⟨[0, 1], ⟨rfl, (by repeat' (first | exact trivial | exact rfl | apply And.intro | exact (fun _ _ _ _ => Cell.le_refl _) | (intro i hi; rfl) | (intro i hi; exact absurd hi (Nat.not_lt_zero _)))), (by show List.Nodup [0, 1]; decide), rfl, by repeat' (first | exact trivial | exact rfl | apply And.intro | exact (fun _ _ _ _ => Cell.le_refl _) | (intro i hi; rfl) | (intro i hi; exact absurd hi (Nat.not_lt_zero _)))⟩⟩

def sCloneL : List SV → Option (Prop × SV)
  | [.c (.str l)] => some (l.length ≤ 281474976710656, .c (.str l))
  | _ => none

def sClnS : List SV → Option (Prop × SV)
  | [.c (.str l)] => some (l.length ≤ 281474976710656, .c (.str l))
  | _ => none

theorem cloneLP : Pure Tryd.prog 133 sCloneL := by
  refine ⟨by kernel_rfl, fun args pre r h hp us hs W => ?_⟩
  unfold sCloneL at h
  split at h
  rotate_left
  · cases h
  rename_i l
  cases h
  obtain ⟨u0, _, rfl, a0, b0⟩ := hs
  obtain rfl : .string ⟨(l).toArray⟩ = u0 := Option.some.inj a0
  cases b0
  refine Calls.mono (Tryd.stringslite_Clone ⟨l.toArray⟩ W (by exact hp)) fun e W' he => ?_
  obtain ⟨rfl, hb⟩ := he
  exact ⟨_, rfl, rfl, hb⟩

set_option maxRecDepth 100000 in
set_option maxHeartbeats 2000000 in
theorem clnSP : Pure Tryd.prog 98 sClnS := by
  have hC : CtsOk Tryd.prog [(133, appPure sCloneL)] := CtsOk.cons (Pure.ct cloneLP) <| CtsOk.nil _
  refine Pure.of (E := tbSt) (C := [(133, appPure sCloneL)]) [] 0 [] tbSt_ok hC (by kernel_rfl) Tryd.func98 rfl rfl rfl (by kernel_rfl) (by kernel_rfl) ?_ ?_
  · intro args pre r h
    unfold sClnS at h
    split at h
    · cases h; rfl
    · cases h
  · intro args pre r h hp
    unfold sClnS at h
    split at h
    rotate_left
    · cases h
    rename_i l
    cases h
    have hl : l.length ≤ 281474976710656 := hp
    unfold sCloneL
    generalize hg0 : (List.length : List UInt8 → Nat) = g0
    generalize hA : Arith.std = A
    cbv
    subst hA hg0
    exact Need.mk hl fun _ => trivial

def sLen : SpecF
  | [.c (.ptr 0 0)], [.cells t [.row 1], .row ty one n get] => some (t = 137 ∧ prPre ty one n get, .c (.int .i64 (n : Int)), [.cells 137 [.row 1], .row 63 2 n (prG (prL n get))])
  | _, _ => none

set_option maxRecDepth 100000 in
set_option maxHeartbeats 8000000 in
theorem lenSP : Fn Tryd.prog 42 [] [] sLen := by
  have hC : CtsOk Tryd.prog [] := CtsOk.nil _
  refine Fn.of (E := tbSt) [] 0 [] tbSt_ok hC (by kernel_rfl) Tryd.func42 rfl rfl rfl (by kernel_rfl) (by kernel_rfl) 2 5 1 ?_ ?_
  · intro args h pre r h' hs
    unfold sLen at hs
    split at hs
    · cases hs; exact ⟨rfl, rfl, Nat.le_of_ble_eq_true rfl⟩
    · cases hs
  · intro args h pre r h' hs hp
    unfold sLen at hs
    split at hs
    rotate_left
    · cases hs
    rename_i t ty one n get
    cases hs
    obtain ⟨rfl, rfl, rfl, hst, hm⟩ := hp
    refine ⟨[.cells 137 [.row 1], .row 63 2 n (prG (prL n get))], ⟨rfl, ⟨rfl, rfl, rfl, fun i hi => hst.eq hi⟩, trivial⟩, ?_⟩
    have hL : (prL n get).length = n := prL_len
    have ePR : prL n (prG (prL n get)) = prL n get := by
      have := prL_prG (prL n get)
      rwa [hL] at this
    generalize prL n get = L at hL ePR ⊢
    generalize hg0 : (List.length : List PP → Nat) = g0
    try unfold prG
    generalize ho0 : @prK = zo0, ho1 : @prV = zo1, ho2 : @prL = zo2, ho3 : @prPre = zo3
    generalize hA : Arith.std = A
    cbv
    subst hA hg0 ho0 ho1 ho2 ho3
    exact ⟨[0, 1], ⟨rfl, (by repeat' (first | exact trivial | exact rfl | apply And.intro | exact (fun _ _ _ _ => Cell.le_refl _) | (intro i hi; rfl) | (intro i hi; exact absurd hi (Nat.not_lt_zero _)))), (by show List.Nodup [0, 1]; decide), rfl, by repeat' (first | exact trivial | exact rfl | apply And.intro | exact (fun _ _ _ _ => Cell.le_refl _) | (intro i hi; rfl) | (intro i hi; exact absurd hi (Nat.not_lt_zero _)))⟩⟩

def sGet : SpecF
  | [.c (.ptr 0 0), .c (.str k)], [.cells t [.row 1], .row ty one n get] => some (t = 137 ∧ prPre ty one n get ∧ StS (prL n get), .tup [(some (.str (getL (prL n get) k)), []), (some (.bool (findB (prL n get) k)), [])], [.cells 137 [.row 1], .row 63 2 n (prG (prL n get))])
  | _, _ => none

set_option maxRecDepth 100000 in
set_option maxHeartbeats 8000000 in
theorem getSP : Fn Tryd.prog 39 [] [] sGet := by
  have hC : CtsOk Tryd.prog [(99, appFn [] [] sFind)] := CtsOk.cons (Fn.ct findP) <| CtsOk.nil _
  refine Fn.of (E := tbSt) [] 0 [] tbSt_ok hC (by kernel_rfl) Tryd.func39 rfl rfl rfl (by kernel_rfl) (by kernel_rfl) 2 5 1 ?_ ?_
  · intro args h pre r h' hs
    unfold sGet at hs
    split at hs
    · cases hs; exact ⟨rfl, rfl, Nat.le_of_ble_eq_true rfl⟩
    · cases hs
  · intro args h pre r h' hs hp
    unfold sGet at hs
    split at hs
    rotate_left
    · cases hs
    rename_i k t ty one n get
    cases hs
    obtain ⟨hp1, ⟨hp2, hp3, hp4, hp5⟩, hp6⟩ := hp
    have hp := (⟨hp1, ⟨hp2, hp3, hp4, hp5⟩, hp6⟩ : _ ∧ (_ ∧ _ ∧ _ ∧ _) ∧ _)
    obtain ⟨rfl, ⟨rfl, rfl, hst, hm⟩, hs⟩ := hp
    refine ⟨[.cells 137 [.row 1], .row 63 2 n (prG (prL n get))], ⟨rfl, ⟨rfl, rfl, rfl, fun i hi => hst.eq hi⟩, trivial⟩, ?_⟩
    have hL : (prL n get).length = n := prL_len
    have ePR : prL n (prG (prL n get)) = prL n get := by
      have := prL_prG (prL n get)
      rwa [hL] at this
    generalize prL n get = L at hL hs ePR ⊢
    unfold sFind
    generalize hg0 : (List.length : List PP → Nat) = g0
    try unfold prG
    generalize ho0 : @prK = zo0, ho1 : @prV = zo1, ho2 : @prL = zo2, ho3 : @ltB = zo3, ho4 : @findI = zo4, ho5 : @findB = zo5, ho6 : @getL = zo6, ho7 : @prPre = zo7
    generalize hA : Arith.std = A
    cbv
    subst hA hg0 ho0 ho1 ho2 ho3 ho4 ho5 ho6 ho7
    refine Need.mk ⟨⟨rfl, rfl, prAt_prG n L, hm⟩, by rw [ePR]; exact hs⟩ fun _ => ?_
    rw [ePR]
    refine Ife.mk (fun h => ?_) (fun h => ?_)
    · have h : (!findB L k) = true := h
      have hb : findB L k = false := by simpa using h
      have hR1 : ([] : List UInt8) = getL L k := by unfold getL; rw [hb]; rfl
      rw [hb]
      exact ⟨[0, 1], ⟨rfl, (by repeat' (first | exact trivial | exact hR1 | exact hR2 | exact rfl | apply And.intro | exact (fun _ _ _ _ => Cell.le_refl _) | (intro i hi; rfl) | (intro i hi; exact absurd hi (Nat.not_lt_zero _)))), (by show List.Nodup [0, 1]; decide), rfl, by repeat' (first | exact trivial | exact hR1 | exact hR2 | exact rfl | apply And.intro | exact (fun _ _ _ _ => Cell.le_refl _) | (intro i hi; rfl) | (intro i hi; exact absurd hi (Nat.not_lt_zero _)))⟩⟩
    · have h : (!findB L k) = false := h
      have hb : findB L k = true := by simpa using h
      obtain ⟨h1, h2⟩ := findB_eq hb
      refine Need.mk (by show 0 ≤ (findI L k : Int) ∧ (findI L k : Int) < (n : Int); omega) fun _ => Need.mk (by show (findI L k : Int).toNat < n; omega) fun _ => ?_
      have hR1 : prV L (findI L k) = getL L k := by unfold getL; rw [hb]; rfl
      rw [hb]
      exact ⟨[0, 1], ⟨rfl, (by repeat' (first | exact trivial | exact hR1 | exact hR2 | exact rfl | apply And.intro | exact (fun _ _ _ _ => Cell.le_refl _) | (intro i hi; rfl) | (intro i hi; exact absurd hi (Nat.not_lt_zero _)))), (by show List.Nodup [0, 1]; decide), rfl, by repeat' (first | exact trivial | exact hR1 | exact hR2 | exact rfl | apply And.intro | exact (fun _ _ _ _ => Cell.le_refl _) | (intro i hi; rfl) | (intro i hi; exact absurd hi (Nat.not_lt_zero _)))⟩⟩

def sDrop : SpecF
  | [.c (.ptr 0 0), .c (.str k)], [.cells t [.row 1], .row ty one n get] => some (t = 137 ∧ prPre ty one n get ∧ StS (prL n get), .c (.bool (findB (prL n get) k)), [.cells 137 [.row 2], .dead, .row 63 2 (dropL (prL n get) k).length (prG (dropL (prL n get) k))])
  | _, _ => none

set_option maxRecDepth 100000 in
set_option maxHeartbeats 8000000 in
theorem dropSP : Fn Tryd.prog 40 [] [] sDrop := by
  have hC : CtsOk Tryd.prog [(99, appFn [] [] sFind), (101, appDel)] := CtsOk.cons (Fn.ct findP) <| CtsOk.cons (delCt) <| CtsOk.nil _
  refine Fn.of (E := tbSt) [] 0 [] tbSt_ok hC (by kernel_rfl) Tryd.func40 rfl rfl rfl (by kernel_rfl) (by kernel_rfl) 2 5 1 ?_ ?_
  · intro args h pre r h' hs
    unfold sDrop at hs
    split at hs
    · cases hs; exact ⟨rfl, rfl, Nat.le_of_ble_eq_true rfl⟩
    · cases hs
  · intro args h pre r h' hs hp
    unfold sDrop at hs
    split at hs
    rotate_left
    · cases hs
    rename_i k t ty one n get
    cases hs
    obtain ⟨rfl, ⟨rfl, rfl, hst, hm⟩, hs⟩ := hp
    refine ⟨[.cells 137 [.row 1], .row 63 2 n (prG (prL n get))], ⟨rfl, ⟨rfl, rfl, rfl, fun i hi => hst.eq hi⟩, trivial⟩, ?_⟩
    have hL : (prL n get).length = n := prL_len
    have ePR : prL n (prG (prL n get)) = prL n get := by
      have := prL_prG (prL n get)
      rwa [hL] at this
    generalize prL n get = L at hL hs ePR ⊢
    unfold sFind appDel
    generalize hg0 : (List.length : List PP → Nat) = g0
    try unfold prG
    generalize ho0 : @prK = zo0, ho1 : @prV = zo1, ho2 : @prL = zo2, ho3 : @ltB = zo3, ho4 : @findI = zo4, ho5 : @findB = zo5, ho6 : @dropL = zo6, ho7 : @prPre = zo7, ho8 : @delG = zo8, ho9 : @delPre = zo9
    generalize hA : Arith.std = A
    cbv
    subst hA hg0 ho0 ho1 ho2 ho3 ho4 ho5 ho6 ho7 ho8 ho9
    refine Need.mk ⟨⟨rfl, rfl, prAt_prG n L, hm⟩, by rw [ePR]; exact hs⟩ fun _ => ?_
    rw [ePR]
    refine Ife.mk (fun hb => ?_) (fun hb => ?_)
    · have hb : findB L k = true := hb
      obtain ⟨h1, h2⟩ := findB_eq hb
      refine Need.mk (by show fitStd .i64 ((findI L k : Int) + 1); unfold fitStd; omega) fun _ => Need.mk (by show delPre (findI L k : Int) ((findI L k : Int) + 1) n; unfold delPre; omega) fun _ => ?_
      have e : dropL L k = L.eraseIdx (findI L k) := if_pos hb
      have hR1 : n - 1 = (dropL L k).length := by rw [e, List.length_eraseIdx_of_lt h1, hL]
      have hR2 : ∀ j, j < (dropL L k).length → delG (prG L) (findI L k) j = prG (dropL L k) j := fun j _ => by rw [e]; exact prG_del j
      exact ⟨[0, 1, 2], ⟨rfl, (by repeat' (first | exact trivial | exact hR1 | exact hR2 | exact rfl | apply And.intro | exact (fun _ _ _ _ => Cell.le_refl _) | (intro i hi; rfl) | (intro i hi; exact absurd hi (Nat.not_lt_zero _)))), (by show List.Nodup [0, 2]; decide), rfl, by repeat' (first | exact trivial | exact hR1 | exact hR2 | exact rfl | apply And.intro | exact (fun _ _ _ _ => Cell.le_refl _) | (intro i hi; rfl) | (intro i hi; exact absurd hi (Nat.not_lt_zero _)))⟩⟩
    · have hb : findB L k = false := hb
      have e : dropL L k = L := if_neg (by rw [hb]; decide)
      have hR1 : n = (dropL L k).length := by rw [e, hL]
      have hR2 : ∀ j, j < (dropL L k).length → prG L j = prG (dropL L k) j := fun j _ => by rw [e]
      exact ⟨[0, 1, 1], ⟨rfl, (by repeat' (first | exact trivial | exact hR1 | exact hR2 | exact rfl | apply And.intro | exact (fun _ _ _ _ => Cell.le_refl _) | (intro i hi; rfl) | (intro i hi; exact absurd hi (Nat.not_lt_zero _)))), (by show List.Nodup [0, 1]; decide), rfl, by repeat' (first | exact trivial | exact hR1 | exact hR2 | exact rfl | apply And.intro | exact (fun _ _ _ _ => Cell.le_refl _) | (intro i hi; rfl) | (intro i hi; exact absurd hi (Nat.not_lt_zero _)))⟩⟩

def sSet : SpecF
  | [.c (.ptr 0 0), .c (.str k), .c (.str v)], [.cells t [.row 1], .row ty one n get] => some (t = 137 ∧ prPre ty one n get ∧ StS (prL n get) ∧ k.length ≤ 281474976710656 ∧ v.length ≤ 281474976710656, .c (.int .i64 (if szB k v = true then 0 else 1)), [.cells 137 [.row 2], .dead, .row 63 2 (putS (prL n get) k v).length (prG (putS (prL n get) k v))])
  | _, _ => none

set_option maxRecDepth 100000 in
set_option maxHeartbeats 8000000 in
theorem setSP : Fn Tryd.prog 38 [] [] sSet := by
  have hC : CtsOk Tryd.prog [(98, appPure sClnS), (18, appFn [] [(63, 2)] sGood), (99, appFn [] [] sFind), (100, appIns)] := CtsOk.cons (Pure.ct clnSP) <| CtsOk.cons (Fn.ct goodP) <| CtsOk.cons (Fn.ct findP) <| CtsOk.cons (insCt) <| CtsOk.nil _
  refine Fn.of (E := tbSt) [] 0 [(6, [(0, true), (1, true), (2, true), (3, true), (4, true), (5, true), (6, true), (1007, false), (7, false)]), (7, [(2001, false), (0, true), (1, true), (2, true), (3, true), (4, true), (5, true), (6, true), (7, false), (8, false), (1009, false), (9, true), (10, true), (11, false)])] tbSt_ok hC (by kernel_rfl) Tryd.func38 rfl rfl rfl (by kernel_rfl) (by kernel_rfl) 2 5 1 ?_ ?_
  · intro args h pre r h' hs
    unfold sSet at hs
    split at hs
    · cases hs; exact ⟨rfl, rfl, Nat.le_of_ble_eq_true rfl⟩
    · cases hs
  · intro args h pre r h' hs hp
    unfold sSet at hs
    split at hs
    rotate_left
    · cases hs
    rename_i k v t ty one n get
    cases hs
    obtain ⟨rfl, ⟨rfl, rfl, hst, hm⟩, hs, hk, hv⟩ := hp
    refine ⟨[.cells 137 [.row 1], .row 63 2 n (prG (prL n get))], ⟨rfl, ⟨rfl, rfl, rfl, fun i hi => hst.eq hi⟩, trivial⟩, ?_⟩
    have hL : (prL n get).length = n := prL_len
    have ePR : prL n (prG (prL n get)) = prL n get := by
      have := prL_prG (prL n get)
      rwa [hL] at this
    generalize prL n get = L at hL hs ePR ⊢
    unfold sFind appIns sClnS sGood
    generalize hg0 : (List.length : List PP → Nat) = g0
    generalize hg1 : (List.length : List UInt8 → Nat) = g1
    try unfold prG
    generalize ho0 : @prK = zo0, ho1 : @prV = zo1, ho2 : @prL = zo2, ho3 : @ltB = zo3, ho4 : @findI = zo4, ho5 : @findB = zo5, ho6 : @szB = zo6, ho7 : @setL = zo7, ho8 : @putS = zo8, ho9 : @prPre = zo9, ho10 : @goodL = zo10, ho11 : @insG = zo11, ho12 : @insPre = zo12
    generalize hA : Arith.std = A
    cbv
    subst hA hg0 hg1 ho0 ho1 ho2 ho3 ho4 ho5 ho6 ho7 ho8 ho9 ho10 ho11 ho12
    refine Need.mk (by show k.length ≤ 281474976710656; exact hk) fun _ => Need.mk (by show v.length ≤ 281474976710656; exact hv) fun _ => ?_
    have e1 : prL 1 (cutC 2 [.str k, .str v] 0) = [(k, v)] := prL_one rfl
    refine Need.mk prPre_one fun _ => ?_
    rw [e1, goodL_one]
    refine Ife.mk (fun h => ?_) (fun h => ?_)
    · have h : (!szB k v) = true := h
      have hz : szB k v = false := by simpa using h
      have e : putS L k v = L := by unfold putS; rw [hz]; rfl
      have hR1 : n = (putS L k v).length := by rw [e, hL]
      have hR2 : ∀ j, j < (putS L k v).length → prG L j = prG (putS L k v) j := fun j _ => by rw [e]
      rw [show (if szB k v = true then (0 : Int) else 1) = 1 by rw [hz]; rfl]
      exact ⟨[0, 1, 1], ⟨rfl, (by repeat' (first | exact trivial | exact hR1 | exact hR2 | exact rfl | apply And.intro | exact (fun _ _ _ _ => Cell.le_refl _) | (intro i hi; rfl) | (intro i hi; exact absurd hi (Nat.not_lt_zero _)))), (by show List.Nodup [0, 1]; decide), rfl, by repeat' (first | exact trivial | exact hR1 | exact hR2 | exact rfl | apply And.intro | exact (fun _ _ _ _ => Cell.le_refl _) | (intro i hi; rfl) | (intro i hi; exact absurd hi (Nat.not_lt_zero _)))⟩⟩
    · have h : (!szB k v) = false := h
      have hz : szB k v = true := by simpa using h
      have e : putS L k v = setL L k v := by unfold putS; rw [hz]; rfl
      rw [show (if szB k v = true then (0 : Int) else 1) = 0 by rw [hz]; rfl]
      refine Need.mk ⟨⟨rfl, rfl, prAt_prG n L, hm⟩, by rw [ePR]; exact hs⟩ fun _ => ?_
      rw [ePR]
      have hle := findI_le (L := L) (k := k)
      refine Ife.mk (fun hb => ?_) (fun hb => ?_)
      · have hb : findB L k = true := hb
        obtain ⟨h1, h2⟩ := findB_eq hb
        have e2 : setL L k v = L.set (findI L k) (k, v) := if_pos hb
        refine Need.mk (by show 0 ≤ (findI L k : Int) ∧ (findI L k : Int) < (n : Int); omega) fun _ => Need.mk (by show (findI L k : Int).toNat < n; omega) fun _ => ?_
        have hR1 : n = (putS L k v).length := by rw [e, e2, List.length_set, hL]
        have hR2 : ∀ j, j < (putS L k v).length → upG (prG L) (findI L k) 0 [.str k, .str v] j = prG (putS L k v) j := fun j hj => by rw [e, e2]; exact prG_set h1 j (by rw [← hR1] at hj; omega)
        exact ⟨[0, 1, 1], ⟨rfl, (by repeat' (first | exact trivial | exact hR1 | exact hR2 | exact rfl | apply And.intro | exact (fun _ _ _ _ => Cell.le_refl _) | (intro i hi; rfl) | (intro i hi; exact absurd hi (Nat.not_lt_zero _)))), (by show List.Nodup [0, 1]; decide), rfl, by repeat' (first | exact trivial | exact hR1 | exact hR2 | exact rfl | apply And.intro | exact (fun _ _ _ _ => Cell.le_refl _) | (intro i hi; rfl) | (intro i hi; exact absurd hi (Nat.not_lt_zero _)))⟩⟩
      · have hb : findB L k = false := hb
        have e2 : setL L k v = L.take (findI L k) ++ (k, v) :: L.drop (findI L k) := if_neg (by rw [hb]; decide)
        refine Need.mk (by show insPre (findI L k : Int) n; unfold insPre; omega) fun _ => ?_
        have hR1 : n + 1 = (putS L k v).length := by rw [e, setL_len, if_neg (by rw [hb]; decide), hL]
        have hR2 : ∀ j, j < (putS L k v).length → insG (prG L) (findI L k) [.str k, .str v] j = prG (putS L k v) j := fun j _ => by rw [e, e2]; exact prG_ins hle j
        exact ⟨[0, 1, 6], ⟨rfl, (by repeat' (first | exact trivial | exact hR1 | exact hR2 | exact rfl | apply And.intro | exact (fun _ _ _ _ => Cell.le_refl _) | (intro i hi; rfl) | (intro i hi; exact absurd hi (Nat.not_lt_zero _)))), (by show List.Nodup [0, 6]; decide), rfl, by repeat' (first | exact trivial | exact hR1 | exact hR2 | exact rfl | apply And.intro | exact (fun _ _ _ _ => Cell.le_refl _) | (intro i hi; rfl) | (intro i hi; exact absurd hi (Nat.not_lt_zero _)))⟩⟩



end Go.Proofs.YthomoliklfmnkaaDoor.Vx
end

section
/- The document's pairs in order: place, Set, Rise, by the walker. -/
namespace Go.Proofs.YthomoliklfmnkaaDoor.Vx
open Go.RowKit
set_option linter.unusedVariables false
set_option linter.unusedSimpArgs false










end Go.Proofs.YthomoliklfmnkaaDoor.Vx
end

section
/- Stores: the chapter's examples; what lies under a text, plainly. -/
namespace Go.Proofs.YthomoliklfmnkaaDoor.Vx
open Go.RowKit
set_option linter.unusedVariables false
set_option linter.unusedSimpArgs false
def AllSz (L : List PP) : Prop := ∀ p ∈ L, szB p.1 p.2 = true
theorem put_sz {L : List PP} {k v : List UInt8} (h : AllSz L) : AllSz (putS L k v) := by
  unfold putS
  split
  · rename_i hz
    unfold setL
    intro p hp
    split at hp
    · rcases List.mem_or_eq_of_mem_set hp with h1 | h1
      · exact h p h1
      · rw [h1]; exact hz
    · rcases List.mem_append.1 hp with h1 | h1
      · exact h p (List.mem_of_mem_take h1)
      · rcases List.mem_cons.1 h1 with h1 | h1
        · rw [h1]; exact hz
        · exact h p (List.mem_of_mem_drop h1)
  · exact h
theorem AllSz.at {L : List PP} (h : AllSz L) {i : Nat} (hi : i < L.length) : szB (prK L i) (prV L i) = true := by
  rw [prK_eq hi, prV_eq hi]
  exact h _ (List.getElem_mem hi)
theorem szB_iff {k v : List UInt8} : szB k v = true ↔ (1 ≤ k.length ∧ k.length ≤ 160) ∧ 1 ≤ v.length ∧ v.length ≤ 64 := by simp [szB]
theorem prL_zero {g : Nat → List CV} : prL 0 g = [] := rfl
def tbU : Tbl where
  T :=
    (3, ⟨1, false, [.int .i64 (0)], .int .i64, 8⟩) ::
    (4, ⟨1, false, [.ff], .bool, 1⟩) ::
    (9, ⟨1, false, [.str []], .str, 16⟩) ::
    (46, ⟨2, true, [.str [], .str []], .struct [(0, (1, false)), (1, (1, false))], 32⟩) ::
    (22, ⟨1, false, [.val (.slice none 0 0)], .slice 46, 24⟩) ::
    (63, ⟨2, true, [.str [], .str []], .struct [(0, (1, false)), (1, (1, false))], 32⟩) ::
    (31, ⟨1, false, [.val (.slice none 0 0)], .slice 63, 24⟩) ::
    (137, ⟨1, true, [.val (.slice none 0 0)], .struct [(0, (1, false))], 24⟩) ::
    (53, ⟨1, false, [.val (.pointer none)], .ptr 137, 8⟩) ::
    (55, ⟨1, false, [.int .i64 (0)], .int .i64, 8⟩) ::
    []
  F :=
    []

theorem tbU_ok : tbU.Ok Tryd.prog where
  T :=
    TblOk.cons (by kernel_rfl) <|
    TblOk.cons (by kernel_rfl) <|
    TblOk.cons (by kernel_rfl) <|
    TblOk.cons (by kernel_rfl) <|
    TblOk.cons (by kernel_rfl) <|
    TblOk.cons (by kernel_rfl) <|
    TblOk.cons (by kernel_rfl) <|
    TblOk.cons (by kernel_rfl) <|
    TblOk.cons (by kernel_rfl) <|
    TblOk.cons (by kernel_rfl) <|
    TblOk.nil _
  F :=
    FlatsOk.nil _

def sFirst12 : SpecF
  | [], [] => some (True, .c .tt, [])
  | _, _ => none
set_option maxRecDepth 100000 in
set_option maxHeartbeats 8000000 in
theorem first12P : Fn Tryd.prog 36 [] [] sFirst12 := by
  have hC : CtsOk Tryd.prog [(37, appFn [] [] sNewS), (38, appFn [] [] sSet), (39, appFn [] [] sGet), (40, appFn [] [] sDrop), (42, appFn [] [] sLen)] := CtsOk.cons (Fn.ct newSP) <| CtsOk.cons (Fn.ct setSP) <| CtsOk.cons (Fn.ct getSP) <| CtsOk.cons (Fn.ct dropSP) <| CtsOk.cons (Fn.ct lenSP) <| CtsOk.nil _
  refine Fn.of (E := tbU) [] 0 [] tbU_ok hC (by kernel_rfl) Tryd.func36 rfl rfl rfl (by kernel_rfl) (by kernel_rfl) 0 5 1 ?_ ?_
  · intro args h pre r h' hs
    unfold sFirst12 at hs
    split at hs
    · cases hs; exact ⟨rfl, rfl, Nat.le_of_ble_eq_true rfl⟩
    · cases hs
  · intro args h pre r h' hs hp
    unfold sFirst12 at hs
    split at hs
    rotate_left
    · cases hs
    cases hs
    refine ⟨[], trivial, ?_⟩
    unfold sNewS sSet sGet sDrop sLen
    generalize hg0 : (List.length : List PP → Nat) = g0
    try unfold prG
    generalize ho0 : @prK = zo0, ho1 : @prV = zo1, ho2 : @prL = zo2, ho3 : @ltB = zo3, ho4 : @findB = zo4, ho5 : @szB = zo5, ho6 : @putS = zo6, ho7 : @dropL = zo7, ho8 : @getL = zo8, ho9 : @prPre = zo9
    generalize hA : Arith.std = A
    cbv
    subst hA hg0 ho0 ho1 ho2 ho3 ho4 ho5 ho6 ho7 ho8 ho9
    have p1 : putS [] [97] [49] = [([97], [49])] := by decide
    have p2 : putS [([97], [49])] [97] [50] = [([97], [50])] := by decide
    have p3 : prL [(([97] : List UInt8), ([49] : List UInt8))].length (prG [([97], [49])]) = [([97], [49])] := prL_prG _
    have p4 : prL [(([97] : List UInt8), ([50] : List UInt8))].length (prG [([97], [50])]) = [([97], [50])] := prL_prG _
    have p5 : dropL [([97], [50])] [98] = [([97], [50])] := by decide
    have s1 : StS [([97], [49])] := List.pairwise_singleton _ _
    have s2 : StS [([97], [50])] := List.pairwise_singleton _ _
    have q1 : prPre 63 2 1 (prG [([97], [49])]) := ⟨rfl, rfl, prAt_prG _ _, by decide⟩
    have q2 : prPre 63 2 1 (prG [([97], [50])]) := ⟨rfl, rfl, prAt_prG _ _, by decide⟩
    refine Need.mk trivial fun _ => Need.mk ⟨⟨rfl, rfl, prAt_prG _ _, by decide⟩, List.Pairwise.nil, trivial⟩ fun _ => ?_
    rw [prL_zero, p1, p3, p2, p4]
    refine Need.mk ⟨q1, s1, trivial⟩ fun _ => Need.mk ⟨q2, s2⟩ fun _ => ?_
    refine Ife.mk (fun _ => ?_) (fun h => by exact absurd h (by show ¬ decide ((if szB [97] [49] = true then (0 : Int) else 1) = 0) = false; decide))
    refine Ife.mk (fun _ => ?_) (fun h => by exact absurd h (by show ¬ decide ((if szB [97] [50] = true then (0 : Int) else 1) = 0) = false; decide))
    refine Need.mk ⟨q2, by rw [p4]; exact s2⟩ fun _ => ?_
    refine Ife.mk (fun _ => ?_) (fun h => by exact absurd h (by rw [p4]; show ¬ (!findB [([97], [50])] [98]) = false; decide))
    refine Need.mk (by rw [p4, p5]; exact q2) fun _ => ?_
    refine Ife.mk (fun _ => ?_) (fun h => by exact absurd h (by rw [p4, p5]; show ¬ decide ((1 : Int) = 1) = false; decide))
    refine Ife.mk (fun _ => ?_) (fun h => by exact absurd h (by show ¬ decide (getL [([97], [50])] [97] = [50]) = false; decide))
    rw [show findB [([97], [50])] [97] = true by decide]
    exact ⟨[], ⟨rfl, (by repeat' (first | exact trivial | exact rfl | apply And.intro | exact (fun _ _ _ _ => Cell.le_refl _) | (intro i hi; rfl) | (intro i hi; exact absurd hi (Nat.not_lt_zero _)))), (by show List.Nodup []; exact List.nodup_nil), rfl, by repeat' (first | exact trivial | exact rfl | apply And.intro | exact (fun _ _ _ _ => Cell.le_refl _) | (intro i hi; rfl) | (intro i hi; exact absurd hi (Nat.not_lt_zero _)))⟩⟩

end Go.Proofs.YthomoliklfmnkaaDoor.Vx
end
