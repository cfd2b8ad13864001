/- Stores: Good, Clone, New, Set, Drop, Get, Len, Under, by the walker. -/
import Derived.Test.YthomoliklfmnkaaDoorVSt1
import Derived.Test.YthomoliklfmnkaaDoorM11
import Derived.Test.YthomoliklfmnkaaDoorM14
section
namespace Go.Proofs.YthomoliklfmnkaaDoor.Vx
open Go.RowKit
set_option linter.unusedVariables false
set_option linter.unusedSimpArgs false
/-- May the pairs be proved? -/
def goodAt (L : List PP) (i : Nat) : Bool := szB (prK L i) (prV L i) && (decide (i = 0) || ltB (prK L (i - 1)) (prK L i))
def goodL (L : List PP) : Bool := (List.range L.length).all (goodAt L)
structure LGo (L : List PP) (n : Nat) where
  i : Int
  h0 : 0 ≤ i
  h1 : i ≤ (n : Int)
  h2 : ∀ k, k < i.toNat → goodAt L k = true
theorem goodL_no {L : List PP} {i : Nat} (hi : i < L.length) (h : goodAt L i = false) : goodL L = false := by
  rw [Bool.eq_false_iff]
  intro h2
  have := List.all_eq_true.1 h2 i (List.mem_range.2 hi)
  rw [h] at this
  cases this
theorem goodL_yes {L : List PP} (h : ∀ k, k < L.length → goodAt L k = true) : goodL L = true := List.all_eq_true.2 fun k hk => h k (List.mem_range.1 hk)
def sGood : SpecF
  | [.c (.row 0)], [.elems ty one n get] => some (prPre ty one n get, .c (.bool (goodL (prL n get))), [.dead])
  | _, _ => none

set_option maxRecDepth 100000 in
set_option maxHeartbeats 8000000 in
theorem goodP : Fn Tryd.prog 18 [] [(63, 2)] sGood := by
  have hC : CtsOk Tryd.prog [(76, appPure sSzd)] := CtsOk.cons (Pure.ct szdP) <| CtsOk.nil _
  refine Fn.of (E := tbSt) [] 0 [(4, [(0, true), (1, true), (2, true), (3, true), (4, false), (5, true), (6, true), (7, true), (8, true), (9, true), (10, true), (11, true), (12, true), (13, true), (14, true), (15, true), (16, true), (17, true), (18, true), (19, true), (20, true)])] tbSt_ok hC (by kernel_rfl) Tryd.func18 rfl rfl rfl (by kernel_rfl) (by kernel_rfl) 1 63 2 ?_ ?_
  · intro args h pre r h' hs
    unfold sGood at hs
    split at hs
    · cases hs; exact ⟨rfl, rfl, Nat.le_of_ble_eq_true rfl⟩
    · cases hs
  · intro args h pre r h' hs hp
    unfold sGood at hs
    split at hs
    rotate_left
    · cases hs
    rename_i ty one n get
    cases hs
    obtain ⟨rfl, rfl, hst, hm⟩ := hp
    refine ⟨[.elems 63 2 n (prG (prL n get))], hst.same, ?_⟩
    have hL : (prL n get).length = n := prL_len
    generalize prL n get = L at hL ⊢
    show Runs Tryd.prog 1 (.loop _) _ _
    refine loop_ruleR (N := env (lft Tryd.prog 1) 0 .std tbSt [(76, appPure sSzd)] [(4, [(0, true), (1, true), (2, true), (3, true), (4, false), (5, true), (6, true), (7, true), (8, true), (9, true), (10, true), (11, true), (12, true), (13, true), (14, true), (15, true), (16, true), (17, true), (18, true), (19, true), (20, true)])]) rfl tbSt_ok hC (fun c st K _ h => h) (by kernel_rfl) [] (X := LGo L n)
      (S := fun x => ⟨[.c (.row 0), .any, .any, .any, .any, .c (.row 0), .c (.int .i64 n), .c (.int .i64 x.i)] ++ List.replicate 26 .any, [.elems 63 2 n (prG L)]⟩) (μ := fun x => n - x.i.toNat) ⟨0, by omega, by omega, fun k hk => absurd hk (by omega)⟩ (by kernel_rfl) [0] ?_ ?_
    · refine ⟨rfl, by decide, ?_, ?_⟩ <;> repeat' (first | exact trivial | exact rfl | apply And.intro | exact (fun _ _ _ _ => Cell.le_refl _) | (intro i hi; rfl) | (intro i hi; exact absurd hi (Nat.not_lt_zero _)))
    rintro ⟨i, hi0, hin, hP⟩
    unfold sSzd
    generalize hg0 : (List.length : List PP → Nat) = g0
    generalize hL : lft Tryd.prog _ = L
    try dsimp only
    try unfold prG
    generalize ho0 : @prK = zo0, ho1 : @prV = zo1, ho2 : @prL = zo2, ho3 : @ltB = zo3, ho4 : @szB = zo4, ho5 : @prPre = zo5, ho6 : @goodAt = zo6, ho7 : @goodL = zo7
    generalize hA : Arith.std = A
    cbv
    subst hA hg0 hL ho0 ho1 ho2 ho3 ho4 ho5 ho6 ho7
    replace hin : i ≤ @Nat.cast Int instNatCastInt n := hin
    refine Ife.mk (fun hlt => ?_) (fun hlt => ?_)
    · replace hlt : i < @Nat.cast Int instNatCastInt n := of_decide_eq_true (p := i < (n : Int)) hlt
      refine Need.mk (by show 0 ≤ i ∧ i < (n : Int); omega) fun _ => Need.mk (by show i.toNat < n; omega) fun _ => Need.mk trivial fun _ => ?_
      have hNO : goodAt L i.toNat = false → goodL L = false := fun h => goodL_no (by omega) h
      have hYES : goodAt L i.toNat = true → ∀ k, k < (i + 1).toNat → goodAt L k = true := fun h k hk => by
        by_cases hki : k = i.toNat
        · rw [hki]; exact h
        · exact hP k (by omega)
      refine Ife.mk (fun h => ?_) (fun h => ?_)
      · have h : (!szB (prK L i.toNat) (prV L i.toNat)) = true := h
        rw [hNO (by unfold goodAt; rw [show szB (prK L i.toNat) (prV L i.toNat) = false by simpa using h, Bool.false_and])]
        exact ⟨[0], ⟨rfl, (by repeat' (first | exact trivial | exact rfl | apply And.intro | exact (fun _ _ _ _ => Cell.le_refl _) | (intro i hi; rfl) | (intro i hi; exact absurd hi (Nat.not_lt_zero _)))), by decide, rfl, by repeat' (first | exact trivial | exact rfl | apply And.intro | exact (fun _ _ _ _ => Cell.le_refl _) | (intro i hi; rfl) | (intro i hi; exact absurd hi (Nat.not_lt_zero _)))⟩⟩
      · have h : (!szB (prK L i.toNat) (prV L i.toNat)) = false := h
        have hz : szB (prK L i.toNat) (prV L i.toNat) = true := by simpa using h
        refine Ife.mk (fun h1 => ?_) (fun h1 => ?_)
        · have h1 : 0 < i := of_decide_eq_true (p := 0 < i) h1
          have e3 : (i - 1).toNat = i.toNat - 1 := by omega
          refine Need.mk (by show fitStd .i64 (i - 1); unfold fitStd; omega) fun _ => Need.mk (by show 0 ≤ i - 1 ∧ i - 1 < (n : Int); omega) fun _ => Need.mk (by show (i - 1).toNat < n; omega) fun _ => ?_
          refine Ife.mk (fun h2 => ?_) (fun h2 => ?_)
          · have h2 : (!ltB (prK L (i - 1).toNat) (prK L i.toNat)) = true := h2
            rw [hNO (by unfold goodAt; rw [hz, decide_eq_false (show ¬ i.toNat = 0 by omega), ← e3, show ltB (prK L (i - 1).toNat) (prK L i.toNat) = false by simpa using h2]; rfl)]
            exact ⟨[0], ⟨rfl, (by repeat' (first | exact trivial | exact rfl | apply And.intro | exact (fun _ _ _ _ => Cell.le_refl _) | (intro i hi; rfl) | (intro i hi; exact absurd hi (Nat.not_lt_zero _)))), by decide, rfl, by repeat' (first | exact trivial | exact rfl | apply And.intro | exact (fun _ _ _ _ => Cell.le_refl _) | (intro i hi; rfl) | (intro i hi; exact absurd hi (Nat.not_lt_zero _)))⟩⟩
          · have h2 : (!ltB (prK L (i - 1).toNat) (prK L i.toNat)) = false := h2
            have hg : goodAt L i.toNat = true := by unfold goodAt; rw [hz, ← e3, show ltB (prK L (i - 1).toNat) (prK L i.toNat) = true by simpa using h2]; simp
            refine Need.mk (by show fitStd .i64 (i + 1); unfold fitStd; omega) fun _ => ?_
            refine ⟨⟨i + 1, by omega, by omega, hYES hg⟩, [0], (by show n - (i + 1).toNat < n - i.toNat; omega), ?_⟩
            refine ⟨rfl, by decide, ?_, ?_⟩ <;> repeat' (first | exact trivial | exact rfl | apply And.intro | exact (fun _ _ _ _ => Cell.le_refl _) | (intro i hi; rfl) | (intro i hi; exact absurd hi (Nat.not_lt_zero _)))
        · have h1 : ¬ 0 < i := of_decide_eq_false (p := 0 < i) h1
          have hg : goodAt L i.toNat = true := by unfold goodAt; rw [hz, decide_eq_true (show i.toNat = 0 by omega)]; simp
          refine Need.mk (by show fitStd .i64 (i + 1); unfold fitStd; omega) fun _ => ?_
          refine ⟨⟨i + 1, by omega, by omega, hYES hg⟩, [0], (by show n - (i + 1).toNat < n - i.toNat; omega), ?_⟩
          refine ⟨rfl, by decide, ?_, ?_⟩ <;> repeat' (first | exact trivial | exact rfl | apply And.intro | exact (fun _ _ _ _ => Cell.le_refl _) | (intro i hi; rfl) | (intro i hi; exact absurd hi (Nat.not_lt_zero _)))
    · replace hlt : ¬ i < @Nat.cast Int instNatCastInt n := of_decide_eq_false (p := i < (n : Int)) hlt
      rw [goodL_yes fun k hk => hP k (by omega)]
      exact ⟨[0], ⟨rfl, (by repeat' (first | exact trivial | exact rfl | apply And.intro | exact (fun _ _ _ _ => Cell.le_refl _) | (intro i hi; rfl) | (intro i hi; exact absurd hi (Nat.not_lt_zero _)))), by decide, rfl, by repeat' (first | exact trivial | exact rfl | apply And.intro | exact (fun _ _ _ _ => Cell.le_refl _) | (intro i hi; rfl) | (intro i hi; exact absurd hi (Nat.not_lt_zero _)))⟩⟩


















end Go.Proofs.YthomoliklfmnkaaDoor.Vx
end

section
/- The document's pairs in order: place, Set, Rise, by the walker. -/
namespace Go.Proofs.YthomoliklfmnkaaDoor.Vx
open Go.RowKit
set_option linter.unusedVariables false
set_option linter.unusedSimpArgs false
def prPreR (ty one n : Nat) (get : Nat → List CV) : Prop := ty = 46 ∧ one = 2 ∧ PrAt n get ∧ n ≤ 1000000
structure LPl (L : List PP) (k : List UInt8) (n : Nat) where
  j : Nat
  h1 : j ≤ n
  h2 : ∀ q, q < j → ltB (prK L q) k = true
theorem findI_at {L : List PP} {k : List UInt8} {j : Nat} (h1 : j ≤ L.length) (h2 : ∀ q, q < j → ltB (prK L q) k = true) (h3 : j < L.length → ltB (prK L j) k = false) : findI L k = j := by
  rcases Nat.lt_trichotomy (findI L k) j with h | h | h
  · have := findI_stop (L := L) (k := k) (by omega)
    rw [h2 _ h] at this
    cases this
  · exact h
  · have hle := findI_le (L := L) (k := k)
    have := findI_lt h
    rw [h3 (by omega)] at this
    cases this










end Go.Proofs.YthomoliklfmnkaaDoor.Vx
end

section
/- Stores: the chapter's examples; what lies under a text, plainly. -/
namespace Go.Proofs.YthomoliklfmnkaaDoor.Vx
open Go.RowKit
set_option linter.unusedVariables false
set_option linter.unusedSimpArgs false
def AllSz (L : List PP) : Prop := ∀ p ∈ L, szB p.1 p.2 = true
theorem AllSz.at {L : List PP} (h : AllSz L) {i : Nat} (hi : i < L.length) : szB (prK L i) (prV L i) = true := by
  rw [prK_eq hi, prV_eq hi]
  exact h _ (List.getElem_mem hi)
theorem szB_iff {k v : List UInt8} : szB k v = true ↔ (1 ≤ k.length ∧ k.length ≤ 160) ∧ 1 ≤ v.length ∧ v.length ≤ 64 := by simp [szB]



end Go.Proofs.YthomoliklfmnkaaDoor.Vx
end
