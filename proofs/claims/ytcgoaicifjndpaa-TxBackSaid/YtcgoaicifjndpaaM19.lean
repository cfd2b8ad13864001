/- Proofs compared; copies of leaves and of sums, by the walker. -/
import Derived.Test.YtcgoaicifjndpaaVPr2
section
namespace Go.Proofs.Ytcgoaicifjndpaa.Vx
open Go.RowKit
set_option linter.unusedVariables false
set_option linter.unusedSimpArgs false
/-- Sums, of their cells. -/
def hsL (n : Nat) (get : Nat → List CV) : List (List Int) := (List.range n).map fun i => (get i).map vInt
structure HsOk (p : List (List Int)) : Prop where
  len : p.length ≤ 1000000000
  hs : ∀ h ∈ p, h.length = 32 ∧ ∀ b ∈ h, 0 ≤ b ∧ b < 256
def HsAt (n : Nat) (get : Nat → List CV) : Prop := ∀ i, i < n → get i = pG (hsL n get) i
theorem hsL_len {n : Nat} {get : Nat → List CV} : (hsL n get).length = n := by simp [hsL]
theorem hsL_pG {p : List (List Int)} (h : HsOk p) : hsL p.length (pG p) = p := by
  unfold hsL
  apply List.ext_getElem?
  intro j
  rw [List.getElem?_map]
  by_cases hj : j < p.length
  · rw [List.getElem?_range hj, List.getElem?_eq_getElem hj, Option.map_some]
    congr 1
    unfold pG
    rw [show p.getD j [] = p[j] by simp [List.getD, hj]]
    exact pG_vInt (h.hs _ (List.getElem_mem hj)).1
  · rw [List.getElem?_eq_none (by simp; omega), List.getElem?_eq_none (by omega)]; rfl
theorem hsAt_pG {p : List (List Int)} (h : HsOk p) : HsAt p.length (pG p) := fun i hi => by rw [hsL_pG h]
def hsPre (ty sz n : Nat) (get : Nat → List CV) : Prop := ty = 63 ∧ sz = 32 ∧ HsAt n get ∧ HsOk (hsL n get)
theorem hsPre_pG {p : List (List Int)} (h : HsOk p) : hsPre 63 32 p.length (pG p) := ⟨rfl, rfl, hsAt_pG h, by rw [hsL_pG h]; exact h⟩
theorem PLeaf.ok.hsOk {x : PLeaf} (h : x.ok) : HsOk x.p := ⟨h.ps, h.hs⟩
theorem lP_ok {L : List PLeaf} (hok : ∀ x ∈ L, x.ok) {i : Nat} : HsOk (lP L i) := by
  unfold lP
  by_cases hi : i < L.length
  · rw [show L.getD i .none = L[i] by simp [List.getD, hi]]
    exact (hok _ (List.getElem_mem hi)).hsOk
  · rw [List.getD_eq_getElem?_getD, List.getElem?_eq_none (by omega)]
    exact ⟨by simp [PLeaf.none], fun h hh => by simp [PLeaf.none] at hh⟩
def sumAt (p q : List (List Int)) (i : Nat) : Bool := decide (p.getD i [] = q.getD i [])
def e32 (f g : Nat → Int) : Bool := decide (f 0 = g 0) && (decide (f 1 = g 1) && (decide (f 2 = g 2) && (decide (f 3 = g 3) && (decide (f 4 = g 4) && (decide (f 5 = g 5) && (decide (f 6 = g 6) && (decide (f 7 = g 7) && (decide (f 8 = g 8) && (decide (f 9 = g 9) && (decide (f 10 = g 10) && (decide (f 11 = g 11) && (decide (f 12 = g 12) && (decide (f 13 = g 13) && (decide (f 14 = g 14) && (decide (f 15 = g 15) && (decide (f 16 = g 16) && (decide (f 17 = g 17) && (decide (f 18 = g 18) && (decide (f 19 = g 19) && (decide (f 20 = g 20) && (decide (f 21 = g 21) && (decide (f 22 = g 22) && (decide (f 23 = g 23) && (decide (f 24 = g 24) && (decide (f 25 = g 25) && (decide (f 26 = g 26) && (decide (f 27 = g 27) && (decide (f 28 = g 28) && (decide (f 29 = g 29) && (decide (f 30 = g 30) && (decide (f 31 = g 31) && true)))))))))))))))))))))))))))))))
theorem e32_iff {f g : Nat → Int} : e32 f g = true ↔ ∀ i, i < 32 → f i = g i := by
  constructor
  · intro h i hi
    simp only [e32, Bool.and_eq_true, decide_eq_true_iff, and_true] at h
    have : i = 0 ∨ i = 1 ∨ i = 2 ∨ i = 3 ∨ i = 4 ∨ i = 5 ∨ i = 6 ∨ i = 7 ∨ i = 8 ∨ i = 9 ∨ i = 10 ∨ i = 11 ∨ i = 12 ∨ i = 13 ∨ i = 14 ∨ i = 15 ∨ i = 16 ∨ i = 17 ∨ i = 18 ∨ i = 19 ∨ i = 20 ∨ i = 21 ∨ i = 22 ∨ i = 23 ∨ i = 24 ∨ i = 25 ∨ i = 26 ∨ i = 27 ∨ i = 28 ∨ i = 29 ∨ i = 30 ∨ i = 31 := by omega
    rcases this with rfl | rfl | rfl | rfl | rfl | rfl | rfl | rfl | rfl | rfl | rfl | rfl | rfl | rfl | rfl | rfl | rfl | rfl | rfl | rfl | rfl | rfl | rfl | rfl | rfl | rfl | rfl | rfl | rfl | rfl | rfl | rfl <;> simp [h]
  · intro h
    simp only [e32, Bool.and_eq_true, decide_eq_true_iff, and_true]
    refine ⟨h 0 (by omega), h 1 (by omega), h 2 (by omega), h 3 (by omega), h 4 (by omega), h 5 (by omega), h 6 (by omega), h 7 (by omega), h 8 (by omega), h 9 (by omega), h 10 (by omega), h 11 (by omega), h 12 (by omega), h 13 (by omega), h 14 (by omega), h 15 (by omega), h 16 (by omega), h 17 (by omega), h 18 (by omega), h 19 (by omega), h 20 (by omega), h 21 (by omega), h 22 (by omega), h 23 (by omega), h 24 (by omega), h 25 (by omega), h 26 (by omega), h 27 (by omega), h 28 (by omega), h 29 (by omega), h 30 (by omega), h 31 (by omega)⟩
theorem e32_sum {p q : List (List Int)} (hp : HsOk p) (hq : HsOk q) {i : Nat} (h1 : i < p.length) (h2 : i < q.length) : e32 (fun j => (p.getD i []).getD j 0) (fun j => (q.getD i []).getD j 0) = sumAt p q i := by
  unfold sumAt
  rw [show p.getD i [] = p[i] by simp [List.getD, h1], show q.getD i [] = q[i] by simp [List.getD, h2]]
  have l1 := (hp.hs _ (List.getElem_mem h1)).1
  have l2 := (hq.hs _ (List.getElem_mem h2)).1
  rw [Bool.eq_iff_iff, e32_iff, decide_eq_true_iff]
  constructor
  · intro h
    apply List.ext_getElem (by omega)
    intro j k1 k2
    have := h j (by omega)
    simpa [List.getD, k1, k2] using this
  · intro h j hj
    rw [h]
theorem list_eq {α : Type} {l m : List α} (d : α) (hl : l.length = m.length) {j : Nat} (hj : l.length ≤ j) (h : ∀ k, k < j → l.getD k d = m.getD k d) : l = m := by
  apply List.ext_getElem hl
  intro i h1 h2
  have := h i (by omega)
  simpa [List.getD, h1, h2] using this
theorem list_ne {α : Type} {l m : List α} (d : α) {i : Nat} (h : ¬ l.getD i d = m.getD i d) : ¬ l = m := fun e => h (by rw [e])
def tbQ : Tbl where
  T :=
    (3, ⟨1, false, [.int .i64 (0)], .int .i64, 8⟩) ::
    (4, ⟨1, false, [.ff], .bool, 1⟩) ::
    (9, ⟨1, false, [.str []], .str, 16⟩) ::
    (140, ⟨4, true, [.str [], .str [], .int .i64 (0), .val (.slice none 0 0)], .struct [(0, (1, false)), (1, (1, false)), (2, (1, false)), (3, (1, false))], 64⟩) ::
    (70, ⟨1, false, [.val (.slice none 0 0)], .slice 140, 24⟩) ::
    (72, ⟨2, true, [.int .i64 (0), .val (.slice none 0 0)], .struct [(0, (1, false)), (1, (1, false))], 32⟩) ::
    (63, ⟨32, true, [.int .u8 (0), .int .u8 (0), .int .u8 (0), .int .u8 (0), .int .u8 (0), .int .u8 (0), .int .u8 (0), .int .u8 (0), .int .u8 (0), .int .u8 (0), .int .u8 (0), .int .u8 (0), .int .u8 (0), .int .u8 (0), .int .u8 (0), .int .u8 (0), .int .u8 (0), .int .u8 (0), .int .u8 (0), .int .u8 (0), .int .u8 (0), .int .u8 (0), .int .u8 (0), .int .u8 (0), .int .u8 (0), .int .u8 (0), .int .u8 (0), .int .u8 (0), .int .u8 (0), .int .u8 (0), .int .u8 (0), .int .u8 (0)], .array 32 5, 32⟩) ::
    (138, ⟨1, false, [.val (.slice none 0 0)], .slice 63, 24⟩) ::
    (5, ⟨1, false, [.int .u8 (0)], .int .u8, 1⟩) ::
    []
  F :=
    (63, [0, 0, 0, 0, 0, 0, 0, 0, 0, 0, 0, 0, 0, 0, 0, 0, 0, 0, 0, 0, 0, 0, 0, 0, 0, 0, 0, 0, 0, 0, 0, 0]) ::
    []

theorem tbQ_ok : tbQ.Ok Try.prog where
  T :=
    TblOk.cons (by kernel_rfl) <|
    TblOk.cons (by kernel_rfl) <|
    TblOk.cons (by kernel_rfl) <|
    TblOk.cons (by kernel_rfl) <|
    TblOk.cons (by kernel_rfl) <|
    TblOk.cons (by kernel_rfl) <|
    TblOk.cons (by kernel_rfl) <|
    TblOk.cons (by kernel_rfl) <|
    TblOk.cons (by kernel_rfl) <|
    TblOk.nil _
  F :=
    FlatsOk.cons (FlatOk.of (D := .array 32 5) 6 (by decide) (by kernel_rfl) (by kernel_rfl) rfl (by kernel_rfl)) <|
    FlatsOk.nil _

def sEqH : SpecF
  | [.c (.row 0), .c (.row 1)], [.elems ty sz n get, .elems ty' sz' n' get'] => some (hsPre ty sz n get ∧ hsPre ty' sz' n' get', .c (.bool (decide (hsL n get = hsL n' get'))), [.dead, .dead])
  | _, _ => none

set_option maxRecDepth 100000 in
set_option maxHeartbeats 8000000 in
theorem eqHsP : Fn Try.prog 193 [] [(63, 32), (63, 32)] sEqH := by
  have hC : CtsOk Try.prog [] := CtsOk.nil _
  refine Fn.of (E := tbQ) [] 0 [(6, [(0, true), (1, true), (2, true), (3, true), (4, true), (5, true), (6, true), (7, true), (8, true)])] tbQ_ok hC (by kernel_rfl) Try.func193 rfl rfl rfl (by kernel_rfl) (by kernel_rfl) 2 5 1 ?_ ?_
  · intro args h pre r h' hs
    unfold sEqH at hs
    split at hs
    · cases hs; exact ⟨rfl, rfl, Nat.le_of_ble_eq_true rfl⟩
    · cases hs
  · intro args h pre r h' hs hp
    unfold sEqH at hs
    split at hs
    rotate_left
    · cases hs
    rename_i ty sz n get ty' sz' n' get'
    cases hs
    obtain ⟨⟨rfl, rfl, hst, hok⟩, ⟨rfl, rfl, hst', hok'⟩⟩ := hp
    refine ⟨[.elems 63 32 n (pG (hsL n get)), .elems 63 32 n' (pG (hsL n' get'))], ⟨⟨rfl, rfl, rfl, fun i hi => hst i hi⟩, ⟨rfl, rfl, rfl, fun i hi => hst' i hi⟩, trivial⟩, ?_⟩
    have hL : (hsL n get).length = n := hsL_len
    have hL' : (hsL n' get').length = n' := hsL_len
    generalize hsL n get = p at hL hok ⊢
    generalize hsL n' get' = q at hL' hok' ⊢
    generalize hL : lft Try.prog _ = L
    generalize ho0 : @pG = zo0, ho1 : @hsL = zo1, ho2 : @sumAt = zo2, ho3 : @hsPre = zo3
    generalize hA : Arith.std = A
    cbv
    subst hA hL ho0 ho1 ho2 ho3
    refine Ife.mk (fun h => ?_) (fun h => ?_)
    · have h : ¬ ((n : Int) = (n' : Int)) := by simpa using (show (!decide ((n : Int) = (n' : Int))) = true from h)
      rw [decide_eq_false (show ¬ p = q from fun e => by rw [e] at hL; omega)]
      exact ⟨[0, 1], ⟨rfl, by repeat' (first | exact trivial | exact rfl | apply And.intro | exact (fun _ _ _ _ => Cell.le_refl _) | (intro i hi; rfl) | (intro i hi; exact absurd hi (Nat.not_lt_zero _))), by decide, rfl, by repeat' (first | exact trivial | exact rfl | apply And.intro | exact (fun _ _ _ _ => Cell.le_refl _) | (intro i hi; rfl) | (intro i hi; exact absurd hi (Nat.not_lt_zero _)))⟩⟩
    have h : ((n : Int) = (n' : Int)) := by simpa using (show (!decide ((n : Int) = (n' : Int))) = false from h)
    replace h := And.intro h trivial
    obtain ⟨hc0, _⟩ := h
    have hnn : n = n' := by omega
    subst hnn
    clear hc0
    have hlen := hok.len
    show Runs Try.prog 2 (.loop _) _ _
    refine loop_ruleR (N := env (lft Try.prog 2) 0 .std tbQ [] [(6, [(0, true), (1, true), (2, true), (3, true), (4, true), (5, true), (6, true), (7, true), (8, true)])]) rfl tbQ_ok hC (fun c st K _ h => h) (by kernel_rfl) [] (X := LIx n (sumAt p q))
      (S := fun x => ⟨[.c (.row 0), .c (.row 1), .any, .any, .any, .any, .any, .any, .any, .any, .any, .any, .c (.int .i64 n), .c (.int .i64 x.i)] ++ List.replicate 12 .any, [.elems 63 32 n (pG p), .elems 63 32 n (pG q)]⟩) (μ := fun x => n - x.i.toNat) ⟨0, by omega, by omega, fun k hk => absurd hk (by omega)⟩ (by kernel_rfl) [0, 1] ?_ ?_
    · refine ⟨rfl, by decide, ?_, ?_⟩ <;> repeat' (first | exact trivial | exact rfl | apply And.intro | exact (fun _ _ _ _ => Cell.le_refl _) | (intro i hi; rfl) | (intro i hi; exact absurd hi (Nat.not_lt_zero _)))
    rintro ⟨i, hi0, hin, hP⟩
    generalize hL : lft Try.prog _ = L
    try dsimp only
    generalize ho0 : @pG = zo0, ho1 : @hsL = zo1, ho2 : @sumAt = zo2, ho3 : @hsPre = zo3
    generalize hA : Arith.std = A
    cbv
    subst hA hL ho0 ho1 ho2 ho3
    replace hi0 : 0 ≤ i := hi0
    replace hin : i ≤ @Nat.cast Int instNatCastInt n := hin
    replace hP : ∀ k, k < i.toNat → sumAt p q k = true := hP
    refine Ife.mk (fun hlt => ?_) (fun hlt => ?_)
    · replace hlt : i < @Nat.cast Int instNatCastInt n := of_decide_eq_true (p := i < (n : Int)) hlt
      refine Need.mk (by show 0 ≤ i ∧ i < (n : Int); omega) fun _ => Need.mk (by show i.toNat < n; omega) fun _ => Need.mk (by show 0 ≤ i ∧ i < (n : Int); omega) fun _ => Need.mk (by show i.toNat < n; omega) fun _ => ?_
      have he := e32_sum hok hok' (i := i.toNat) (by omega) (by omega)
      refine Ife.mk (fun h => ?_) (fun h => ?_)
      · have h : (!e32 (fun j => (p.getD i.toNat []).getD j 0) (fun j => (q.getD i.toNat []).getD j 0)) = true := h
        rw [he] at h
        rw [decide_eq_false (list_ne [] (i := i.toNat) (by simpa [sumAt] using h))]
        exact ⟨[0, 1], ⟨rfl, by repeat' (first | exact trivial | exact rfl | apply And.intro | exact (fun _ _ _ _ => Cell.le_refl _) | (intro i hi; rfl) | (intro i hi; exact absurd hi (Nat.not_lt_zero _))), by decide, rfl, by repeat' (first | exact trivial | exact rfl | apply And.intro | exact (fun _ _ _ _ => Cell.le_refl _) | (intro i hi; rfl) | (intro i hi; exact absurd hi (Nat.not_lt_zero _)))⟩⟩
      · have h : (!e32 (fun j => (p.getD i.toNat []).getD j 0) (fun j => (q.getD i.toNat []).getD j 0)) = false := h
        rw [he] at h
        refine Need.mk (by show fitStd .i64 (i + 1); unfold fitStd; omega) fun _ => ?_
        refine ⟨⟨i + 1, by omega, by omega, lix_next hi0 hP (by simpa using h)⟩, [0, 1], (by show n - (i + 1).toNat < n - i.toNat; omega), ?_⟩
        refine ⟨rfl, by decide, ?_, ?_⟩ <;> repeat' (first | exact trivial | exact rfl | apply And.intro | exact (fun _ _ _ _ => Cell.le_refl _) | (intro i hi; rfl) | (intro i hi; exact absurd hi (Nat.not_lt_zero _)))
    · replace hlt : ¬ i < @Nat.cast Int instNatCastInt n := of_decide_eq_false (p := i < (n : Int)) hlt
      rw [decide_eq_true (list_eq [] (by omega) (j := i.toNat) (by omega) fun k hk => by have := hP k hk; simpa [sumAt] using this)]
      exact ⟨[0, 1], ⟨rfl, by repeat' (first | exact trivial | exact rfl | apply And.intro | exact (fun _ _ _ _ => Cell.le_refl _) | (intro i hi; rfl) | (intro i hi; exact absurd hi (Nat.not_lt_zero _))), by decide, rfl, by repeat' (first | exact trivial | exact rfl | apply And.intro | exact (fun _ _ _ _ => Cell.le_refl _) | (intro i hi; rfl) | (intro i hi; exact absurd hi (Nat.not_lt_zero _)))⟩⟩

def sAlike : SpecF
  | [.agg [.str k, .str v, .int .i64 i, .row 0], .agg [.str k', .str v', .int .i64 i', .row 1]], [.elems ty sz n get, .elems ty' sz' n' get'] => some (hsPre ty sz n get ∧ hsPre ty' sz' n' get', .c (.bool (decide ((⟨k, v, i, hsL n get⟩ : PLeaf) = ⟨k', v', i', hsL n' get'⟩))), [.dead, .dead])
  | _, _ => none

set_option maxRecDepth 100000 in
set_option maxHeartbeats 8000000 in
theorem alikeP : Fn Try.prog 162 [] [(63, 32), (63, 32)] sAlike := by
  have hC : CtsOk Try.prog [(193, appFn [] [(63, 32), (63, 32)] sEqH)] := CtsOk.cons (Fn.ct eqHsP) <| CtsOk.nil _
  refine Fn.of (E := tbQ) [] 0 [] tbQ_ok hC (by kernel_rfl) Try.func162 rfl rfl rfl (by kernel_rfl) (by kernel_rfl) 2 5 1 ?_ ?_
  · intro args h pre r h' hs
    unfold sAlike at hs
    split at hs
    · cases hs; exact ⟨rfl, rfl, Nat.le_of_ble_eq_true rfl⟩
    · cases hs
  · intro args h pre r h' hs hp
    unfold sAlike at hs
    split at hs
    rotate_left
    · cases hs
    rename_i k v i k' v' i' ty sz n get ty' sz' n' get'
    cases hs
    obtain ⟨⟨rfl, rfl, hst, hok⟩, ⟨rfl, rfl, hst', hok'⟩⟩ := hp
    refine ⟨[.elems 63 32 n (pG (hsL n get)), .elems 63 32 n' (pG (hsL n' get'))], ⟨⟨rfl, rfl, rfl, fun i hi => hst i hi⟩, ⟨rfl, rfl, rfl, fun i hi => hst' i hi⟩, trivial⟩, ?_⟩
    have hL : (hsL n get).length = n := hsL_len
    have hL' : (hsL n' get').length = n' := hsL_len
    generalize hsL n get = p at hL hok ⊢
    generalize hsL n' get' = q at hL' hok' ⊢
    have e1 : hsL n (pG p) = p := by rw [← hL]; exact hsL_pG hok
    have e2 : hsL n' (pG q) = q := by rw [← hL']; exact hsL_pG hok'
    have q1 : hsPre 63 32 n (pG p) := by rw [← hL]; exact hsPre_pG hok
    have q2 : hsPre 63 32 n' (pG q) := by rw [← hL']; exact hsPre_pG hok'
    unfold sEqH
    generalize ho0 : @pG = zo0, ho1 : @hsL = zo1, ho2 : @hsPre = zo2
    generalize hA : Arith.std = A
    cbv
    subst hA ho0 ho1 ho2
    refine Ife.mk (fun h => ?_) (fun h => ?_)
    · have h1 : k = k' := of_decide_eq_true (p := k = k') h
      refine Ife.mk (fun h => ?_) (fun h => ?_)
      · have h2 : v = v' := of_decide_eq_true (p := v = v') h
        refine Ife.mk (fun h => ?_) (fun h => ?_)
        · have h3 : i = i' := of_decide_eq_true (p := i = i') h
          refine Need.mk ⟨q1, q2⟩ fun _ => ?_
          rw [e1, e2, show decide ((⟨k, v, i, p⟩ : PLeaf) = ⟨k', v', i', q⟩) = decide (p = q) by rw [h1, h2, h3]; simp]
          exact ⟨[0, 1], ⟨rfl, by repeat' (first | exact trivial | exact rfl | apply And.intro | exact (fun _ _ _ _ => Cell.le_refl _) | (intro i hi; rfl) | (intro i hi; exact absurd hi (Nat.not_lt_zero _))), by decide, rfl, by repeat' (first | exact trivial | exact rfl | apply And.intro | exact (fun _ _ _ _ => Cell.le_refl _) | (intro i hi; rfl) | (intro i hi; exact absurd hi (Nat.not_lt_zero _)))⟩⟩
        · have h3 : ¬ i = i' := of_decide_eq_false (p := i = i') h
          rw [decide_eq_false (show ¬ (⟨k, v, i, p⟩ : PLeaf) = ⟨k', v', i', q⟩ from fun e => h3 (PLeaf.mk.inj e).2.2.1)]
          exact ⟨[0, 1], ⟨rfl, by repeat' (first | exact trivial | exact rfl | apply And.intro | exact (fun _ _ _ _ => Cell.le_refl _) | (intro i hi; rfl) | (intro i hi; exact absurd hi (Nat.not_lt_zero _))), by decide, rfl, by repeat' (first | exact trivial | exact rfl | apply And.intro | exact (fun _ _ _ _ => Cell.le_refl _) | (intro i hi; rfl) | (intro i hi; exact absurd hi (Nat.not_lt_zero _)))⟩⟩
      · have h2 : ¬ v = v' := of_decide_eq_false (p := v = v') h
        rw [decide_eq_false (show ¬ (⟨k, v, i, p⟩ : PLeaf) = ⟨k', v', i', q⟩ from fun e => h2 (PLeaf.mk.inj e).2.1)]
        exact ⟨[0, 1], ⟨rfl, by repeat' (first | exact trivial | exact rfl | apply And.intro | exact (fun _ _ _ _ => Cell.le_refl _) | (intro i hi; rfl) | (intro i hi; exact absurd hi (Nat.not_lt_zero _))), by decide, rfl, by repeat' (first | exact trivial | exact rfl | apply And.intro | exact (fun _ _ _ _ => Cell.le_refl _) | (intro i hi; rfl) | (intro i hi; exact absurd hi (Nat.not_lt_zero _)))⟩⟩
    · have h1 : ¬ k = k' := of_decide_eq_false (p := k = k') h
      rw [decide_eq_false (show ¬ (⟨k, v, i, p⟩ : PLeaf) = ⟨k', v', i', q⟩ from fun e => h1 (PLeaf.mk.inj e).1)]
      exact ⟨[0, 1], ⟨rfl, by repeat' (first | exact trivial | exact rfl | apply And.intro | exact (fun _ _ _ _ => Cell.le_refl _) | (intro i hi; rfl) | (intro i hi; exact absurd hi (Nat.not_lt_zero _))), by decide, rfl, by repeat' (first | exact trivial | exact rfl | apply And.intro | exact (fun _ _ _ _ => Cell.le_refl _) | (intro i hi; rfl) | (intro i hi; exact absurd hi (Nat.not_lt_zero _)))⟩⟩

def leafAtB (L M : List PLeaf) (i : Nat) : Bool := decide (L.getD i .none = M.getD i .none)
theorem hsL_lP {L : List PLeaf} (hok : ∀ x ∈ L, x.ok) {i : Nat} : hsL (lN L i) (pG (lP L i)) = lP L i := hsL_pG (lP_ok hok)
theorem hsPre_lP {L : List PLeaf} (hok : ∀ x ∈ L, x.ok) {i : Nat} : hsPre 63 32 (lN L i) (pG (lP L i)) := hsPre_pG (lP_ok hok)
def sEqF : SpecF
  | [.c (.row 0), .c (.row 1), .fn f []], [.data fr ty sz n get, .data fr' ty' sz' n' get'] => some (f = 162 ∧ leavesPre ty sz n get ∧ leavesPre ty' sz' n' get', .c (.bool (decide (leafL n get = leafL n' get'))), [.dead, .dead])
  | _, _ => none

set_option maxRecDepth 100000 in
set_option maxHeartbeats 8000000 in
theorem eqFP : Fn Try.prog 161 [] [(140, 204), (140, 204)] sEqF := by
  have hC : CtsOk Try.prog [(162, appFn [] [(63, 32), (63, 32)] sAlike)] := CtsOk.cons (Fn.ct alikeP) <| CtsOk.nil _
  refine Fn.of (E := tbQ) [] 0 [] tbQ_ok hC (by kernel_rfl) Try.func161 rfl rfl rfl (by kernel_rfl) (by kernel_rfl) 2 5 1 ?_ ?_
  · intro args h pre r h' hs
    unfold sEqF at hs
    split at hs
    · cases hs; exact ⟨rfl, rfl, Nat.le_of_ble_eq_true rfl⟩
    · cases hs
  · intro args h pre r h' hs hp
    unfold sEqF at hs
    split at hs
    rotate_left
    · cases hs
    rename_i f fr ty sz n get fr' ty' sz' n' get'
    cases hs
    obtain ⟨rfl, ⟨rfl, rfl, hst, hok, hm⟩, ⟨rfl, rfl, hst', hok', hm'⟩⟩ := hp
    refine ⟨[.data fr 140 4 n (leafG false (leafL n get)), .data fr' 140 4 n' (leafG false (leafL n' get'))], ⟨⟨rfl, rfl, rfl, rfl, fun i j hi hj => by rw [hst i j hi hj]; exact Cell.le_refl _⟩, ⟨rfl, rfl, rfl, rfl, fun i j hi hj => by rw [hst' i j hi hj]; exact Cell.le_refl _⟩, trivial⟩, ?_⟩
    have hL : (leafL n get).length = n := leafL_len
    have hL' : (leafL n' get').length = n' := leafL_len
    generalize leafL n get = L at hL hok ⊢
    generalize leafL n' get' = K at hL' hok' ⊢
    unfold sAlike
    generalize hL : lft Try.prog _ = L
    try unfold leafG
    generalize ho0 : @lK = zo0, ho1 : @lV = zo1, ho2 : @lI = zo2, ho3 : @lP = zo3, ho4 : @lN = zo4, ho5 : @pG = zo5, ho6 : @leafL = zo6, ho7 : @leavesPre = zo7, ho8 : @hsL = zo8, ho9 : @hsPre = zo9, ho10 : @leafAtB = zo10
    generalize hA : Arith.std = A
    cbv
    subst hA hL ho0 ho1 ho2 ho3 ho4 ho5 ho6 ho7 ho8 ho9 ho10
    refine Ife.mk (fun h => ?_) (fun h => ?_)
    · have h : ¬ ((n : Int) = (n' : Int)) := by simpa using (show (!decide ((n : Int) = (n' : Int))) = true from h)
      rw [decide_eq_false (show ¬ L = K from fun e => by rw [e] at hL; omega)]
      exact ⟨[0, 1], ⟨rfl, by repeat' (first | exact trivial | exact rfl | apply And.intro | exact (fun _ _ _ _ => Cell.le_refl _) | (intro i hi; rfl) | (intro i hi; exact absurd hi (Nat.not_lt_zero _))), by decide, rfl, by repeat' (first | exact trivial | exact rfl | apply And.intro | exact (fun _ _ _ _ => Cell.le_refl _) | (intro i hi; rfl) | (intro i hi; exact absurd hi (Nat.not_lt_zero _)))⟩⟩
    have h : ((n : Int) = (n' : Int)) := by simpa using (show (!decide ((n : Int) = (n' : Int))) = false from h)
    replace h := And.intro h trivial
    obtain ⟨hc0, _⟩ := h
    have hnn : n = n' := by omega
    subst hnn
    clear hc0
    show Runs Try.prog 2 (.loop _) _ _
    refine loop_ruleR (N := env (lft Try.prog 2) 0 .std tbQ [(162, appFn [] [(63, 32), (63, 32)] sAlike)] []) rfl tbQ_ok hC (fun c st K _ h => h) (by kernel_rfl) [] (X := LIx n (leafAtB L K))
      (S := fun x => ⟨[.c (.row 0), .c (.row 1), .fn 162 [], .any, .any, .any, .any, .any, .any, .any, .any, .any, .any, .any, .any, .c (.row 0), .c (.int .i64 n), .c (.int .i64 x.i)] ++ List.replicate 14 .any, [.data fr 140 4 n (leafG false L), .data fr' 140 4 n (leafG false K)]⟩) (μ := fun x => n - x.i.toNat) ⟨0, by omega, by omega, fun k hk => absurd hk (by omega)⟩ (by kernel_rfl) [0, 1] ?_ ?_
    · refine ⟨rfl, by decide, ?_, ?_⟩ <;> repeat' (first | exact trivial | exact rfl | apply And.intro | exact (fun _ _ _ _ => Cell.le_refl _) | (intro i hi; rfl) | (intro i hi; exact absurd hi (Nat.not_lt_zero _)))
    rintro ⟨i, hi0, hin, hP⟩
    unfold sAlike
    generalize hL : lft Try.prog _ = L
    try dsimp only
    try unfold leafG
    generalize ho0 : @lK = zo0, ho1 : @lV = zo1, ho2 : @lI = zo2, ho3 : @lP = zo3, ho4 : @lN = zo4, ho5 : @pG = zo5, ho6 : @leafL = zo6, ho7 : @leavesPre = zo7, ho8 : @hsL = zo8, ho9 : @hsPre = zo9, ho10 : @leafAtB = zo10
    generalize hA : Arith.std = A
    cbv
    subst hA hL ho0 ho1 ho2 ho3 ho4 ho5 ho6 ho7 ho8 ho9 ho10
    replace hi0 : 0 ≤ i := hi0
    replace hin : i ≤ @Nat.cast Int instNatCastInt n := hin
    replace hP : ∀ k, k < i.toNat → leafAtB L K k = true := hP
    refine Ife.mk (fun hlt => ?_) (fun hlt => ?_)
    · replace hlt : i < @Nat.cast Int instNatCastInt n := of_decide_eq_true (p := i < (n : Int)) hlt
      refine Need.mk (by show 0 ≤ i ∧ i < (n : Int); omega) fun _ => Need.mk (by show i.toNat < n; omega) fun _ => Need.mk (by show 0 ≤ i ∧ i < (n : Int); omega) fun _ => Need.mk (by show i.toNat < n; omega) fun _ => ?_
      refine Need.mk ⟨hsPre_lP hok, hsPre_lP hok'⟩ fun _ => ?_
      have e1 : hsL (lN L i.toNat) (pG (lP L i.toNat)) = lP L i.toNat := hsL_lP hok
      have e2 : hsL (lN K i.toNat) (pG (lP K i.toNat)) = lP K i.toNat := hsL_lP hok'
      have he : decide ((⟨lK L i.toNat, lV L i.toNat, lI L i.toNat, hsL (lN L i.toNat) (pG (lP L i.toNat))⟩ : PLeaf) = ⟨lK K i.toNat, lV K i.toNat, lI K i.toNat, hsL (lN K i.toNat) (pG (lP K i.toNat))⟩) = leafAtB L K i.toNat := by rw [e1, e2]; rfl
      refine Ife.mk (fun h => ?_) (fun h => ?_)
      · replace h := (congrArg (fun b => !b) he).symm.trans h
        rw [decide_eq_false (list_ne PLeaf.none (i := i.toNat) (by simpa [leafAtB] using h))]
        exact ⟨[0, 1], ⟨rfl, by repeat' (first | exact trivial | exact rfl | apply And.intro | exact (fun _ _ _ _ => Cell.le_refl _) | (intro i hi; rfl) | (intro i hi; exact absurd hi (Nat.not_lt_zero _))), by decide, rfl, by repeat' (first | exact trivial | exact rfl | apply And.intro | exact (fun _ _ _ _ => Cell.le_refl _) | (intro i hi; rfl) | (intro i hi; exact absurd hi (Nat.not_lt_zero _)))⟩⟩
      · replace h := (congrArg (fun b => !b) he).symm.trans h
        refine Need.mk (by show fitStd .i64 (i + 1); unfold fitStd; omega) fun _ => ?_
        refine ⟨⟨i + 1, by omega, by omega, lix_next hi0 hP (by simpa using h)⟩, [0, 1], (by show n - (i + 1).toNat < n - i.toNat; omega), ?_⟩
        refine ⟨rfl, by decide, ?_, ?_⟩ <;> repeat' (first | exact trivial | exact rfl | apply And.intro | exact (fun _ _ _ _ => Cell.le_refl _) | (intro i hi; rfl) | (intro i hi; exact absurd hi (Nat.not_lt_zero _)))
    · replace hlt : ¬ i < @Nat.cast Int instNatCastInt n := of_decide_eq_false (p := i < (n : Int)) hlt
      rw [decide_eq_true (list_eq PLeaf.none (by omega) (j := i.toNat) (by omega) fun k hk => by have := hP k hk; simpa [leafAtB] using this)]
      exact ⟨[0, 1], ⟨rfl, by repeat' (first | exact trivial | exact rfl | apply And.intro | exact (fun _ _ _ _ => Cell.le_refl _) | (intro i hi; rfl) | (intro i hi; exact absurd hi (Nat.not_lt_zero _))), by decide, rfl, by repeat' (first | exact trivial | exact rfl | apply And.intro | exact (fun _ _ _ _ => Cell.le_refl _) | (intro i hi; rfl) | (intro i hi; exact absurd hi (Nat.not_lt_zero _)))⟩⟩

def sSamePr : SpecF
  | [.agg [.int .i64 c, .row 0], .agg [.int .i64 c', .row 1]], [.data fr ty sz n get, .data fr' ty' sz' n' get'] => some (leavesPre ty sz n get ∧ leavesPre ty' sz' n' get', .c (.bool (decide (c = c') && decide (leafL n get = leafL n' get'))), [.dead, .dead])
  | _, _ => none

set_option maxRecDepth 100000 in
set_option maxHeartbeats 8000000 in
theorem samePrP : Fn Try.prog 117 [] [(140, 204), (140, 204)] sSamePr := by
  have hC : CtsOk Try.prog [(161, appFn [] [(140, 204), (140, 204)] sEqF)] := CtsOk.cons (Fn.ct eqFP) <| CtsOk.nil _
  refine Fn.of (E := tbQ) [] 0 [] tbQ_ok hC (by kernel_rfl) Try.func117 rfl rfl rfl (by kernel_rfl) (by kernel_rfl) 2 5 1 ?_ ?_
  · intro args h pre r h' hs
    unfold sSamePr at hs
    split at hs
    · cases hs; exact ⟨rfl, rfl, Nat.le_of_ble_eq_true rfl⟩
    · cases hs
  · intro args h pre r h' hs hp
    unfold sSamePr at hs
    split at hs
    rotate_left
    · cases hs
    rename_i c c' fr ty sz n get fr' ty' sz' n' get'
    cases hs
    obtain ⟨⟨rfl, rfl, hst, hok, hm⟩, ⟨rfl, rfl, hst', hok', hm'⟩⟩ := hp
    refine ⟨[.data fr 140 4 n (leafG false (leafL n get)), .data fr' 140 4 n' (leafG false (leafL n' get'))], ⟨⟨rfl, rfl, rfl, rfl, fun i j hi hj => by rw [hst i j hi hj]; exact Cell.le_refl _⟩, ⟨rfl, rfl, rfl, rfl, fun i j hi hj => by rw [hst' i j hi hj]; exact Cell.le_refl _⟩, trivial⟩, ?_⟩
    have hL : (leafL n get).length = n := leafL_len
    have hL' : (leafL n' get').length = n' := leafL_len
    generalize leafL n get = L at hL hok ⊢
    generalize leafL n' get' = K at hL' hok' ⊢
    have q1 : leavesPre 140 4 n (fun i j => (leafG false L i j).old) := by rw [← hL]; exact leavesPre_old hok (by omega)
    have q2 : leavesPre 140 4 n' (fun i j => (leafG false K i j).old) := by rw [← hL']; exact leavesPre_old hok' (by omega)
    have e1 : leafL n (fun i j => (leafG false L i j).old) = L := by rw [← hL]; exact leaves_old hok
    have e2 : leafL n' (fun i j => (leafG false K i j).old) = K := by rw [← hL']; exact leaves_old hok'
    unfold sEqF
    try unfold leafG
    generalize ho0 : @lK = zo0, ho1 : @lV = zo1, ho2 : @lI = zo2, ho3 : @lP = zo3, ho4 : @lN = zo4, ho5 : @pG = zo5, ho6 : @leafL = zo6, ho7 : @leavesPre = zo7
    generalize hA : Arith.std = A
    cbv
    subst hA ho0 ho1 ho2 ho3 ho4 ho5 ho6 ho7
    refine Ife.mk (fun h => ?_) (fun h => ?_)
    · have h1 : c = c' := of_decide_eq_true (p := c = c') h
      refine Need.mk ⟨q1, q2⟩ fun _ => ?_
      rw [e1, e2, decide_eq_true h1, Bool.true_and]
      exact ⟨[0, 1], ⟨rfl, by repeat' (first | exact trivial | exact rfl | apply And.intro | exact (fun _ _ _ _ => Cell.le_refl _) | (intro i hi; rfl) | (intro i hi; exact absurd hi (Nat.not_lt_zero _))), by decide, rfl, by repeat' (first | exact trivial | exact rfl | apply And.intro | exact (fun _ _ _ _ => Cell.le_refl _) | (intro i hi; rfl) | (intro i hi; exact absurd hi (Nat.not_lt_zero _)))⟩⟩
    · have h1 : ¬ c = c' := of_decide_eq_false (p := c = c') h
      rw [decide_eq_false h1, Bool.false_and]
      exact ⟨[0, 1], ⟨rfl, by repeat' (first | exact trivial | exact rfl | apply And.intro | exact (fun _ _ _ _ => Cell.le_refl _) | (intro i hi; rfl) | (intro i hi; exact absurd hi (Nat.not_lt_zero _))), by decide, rfl, by repeat' (first | exact trivial | exact rfl | apply And.intro | exact (fun _ _ _ _ => Cell.le_refl _) | (intro i hi; rfl) | (intro i hi; exact absurd hi (Nat.not_lt_zero _)))⟩⟩

def sCloneH : SpecF
  | [.c (.row 0)], [.elems ty sz n get] => some (hsPre ty sz n get, .c (.row 1), [.dead, .row 63 32 n (pG (hsL n get))])
  | _, _ => none

set_option maxRecDepth 100000 in
set_option maxHeartbeats 8000000 in
theorem cloneHP : Fn Try.prog 164 [] [(63, 32)] sCloneH := by
  have hC : CtsOk Try.prog [] := CtsOk.nil _
  refine Fn.of (E := tbQ) [] 0 [] tbQ_ok hC (by kernel_rfl) Try.func164 rfl rfl rfl (by kernel_rfl) (by kernel_rfl) 1 63 32 ?_ ?_
  · intro args h pre r h' hs
    unfold sCloneH at hs
    split at hs
    · cases hs; exact ⟨rfl, rfl, Nat.le_of_ble_eq_true rfl⟩
    · cases hs
  · intro args h pre r h' hs hp
    unfold sCloneH at hs
    split at hs
    rotate_left
    · cases hs
    rename_i ty sz n get
    cases hs
    obtain ⟨rfl, rfl, hst, hok⟩ := hp
    refine ⟨[.elems 63 32 n (pG (hsL n get))], ⟨⟨rfl, rfl, rfl, fun i hi => hst i hi⟩, trivial⟩, ?_⟩
    have hL : (hsL n get).length = n := hsL_len
    generalize hsL n get = p at hL hok ⊢
    generalize ho0 : @pG = zo0, ho1 : @hsL = zo1, ho2 : @hsPre = zo2
    generalize hA : Arith.std = A
    cbv
    subst hA ho0 ho1 ho2
    refine Fork.mk (fun h0 => ?_) ?_
    · replace h0 : n = 0 := h0
      refine ⟨[0, 1], ⟨rfl, rfl, (by show List.Nodup [1]; decide), rfl, ?_⟩⟩
      repeat' (first | exact trivial | exact rfl | apply And.intro)
      · exact h0.symm
      · intro j hj
        exact absurd hj (by show ¬ j < n; omega)
    · have hlen := hok.len
      refine Need.mk ⟨(by show 0 + n ≤ maxLen ∧ (0 + n) * 32 ≤ 140737488355328; unfold maxLen; omega), fun i _ => (rfl : (h32 _).length = 32)⟩ fun _ => ?_
      refine ⟨[0, 2], ⟨rfl, rfl, (by show List.Nodup [2]; decide), rfl, ?_⟩⟩
      repeat' (first | exact trivial | exact rfl | apply And.intro)
      · cases n with
        | zero => rfl
        | succ k => exact congrArg Nat.succ (Nat.zero_add k)
      · intro j hj
        rfl

end Go.Proofs.Ytcgoaicifjndpaa.Vx
end

section
/- Copies of leaves: elements that hold slices, as values that are not looked into. -/
namespace Go.Proofs.Ytcgoaicifjndpaa.Vx
open Go.RowKit
set_option linter.unusedVariables false
set_option linter.unusedSimpArgs false
def tbV : Tbl where
  T :=
    (70, ⟨1, false, [.val (.slice none 0 0)], .slice 140, 24⟩) ::
    (140, ⟨4, true, [.str [], .str [], .int .i64 (0), .val (.slice none 0 0)], .struct [(0, (1, false)), (1, (1, false)), (2, (1, false)), (3, (1, false))], 64⟩) ::
    []
  F := []
  flat := true

theorem tbV_ok : tbV.Ok Try.prog where
  T := TblOk.cons (by kernel_rfl) <| TblOk.cons (by kernel_rfl) <| TblOk.nil _
  F := FlatsOk.nil _

def valPre (ty sz n : Nat) (get : Nat → List CV) : Prop := ty = 140 ∧ sz = 4 ∧ (∀ i, i < n → (get i).length = 4) ∧ n ≤ 1000000
def sCloneV : SpecF
  | [.c (.row 0)], [.elems ty sz n get] => some (valPre ty sz n get, .c (.row 1), [.dead, .row 140 4 n get])
  | _, _ => none

set_option maxRecDepth 100000 in
set_option maxHeartbeats 4000000 in
theorem cloneVP : Fn Try.prog 163 [] [(140, 4)] sCloneV := by
  have hC : CtsOk Try.prog [] := CtsOk.nil _
  refine Fn.of (E := tbV) [] 0 [] tbV_ok hC (by kernel_rfl) Try.func163 rfl rfl rfl (by kernel_rfl) (by kernel_rfl) 1 140 4 ?_ ?_
  · intro args h pre r h' hs
    unfold sCloneV at hs
    split at hs
    · cases hs; exact ⟨rfl, rfl, Nat.le_of_ble_eq_true rfl⟩
    · cases hs
  · intro args h pre r h' hs hp
    unfold sCloneV at hs
    split at hs
    rotate_left
    · cases hs
    rename_i ty sz n get
    cases hs
    obtain ⟨rfl, rfl, hlen, hn⟩ := hp
    refine ⟨[.elems 140 4 n get], ⟨⟨rfl, rfl, rfl, fun i hi => rfl⟩, trivial⟩, ?_⟩
    generalize ho0 : @valPre = zo0
    generalize hA : Arith.std = A
    cbv
    subst hA ho0
    refine Fork.mk (fun h0 => ?_) ?_
    · replace h0 : n = 0 := h0
      refine ⟨[0, 1], ⟨rfl, rfl, (by show List.Nodup [1]; decide), rfl, ?_⟩⟩
      repeat' (first | exact trivial | exact rfl | apply And.intro)
      · exact h0.symm
      · intro j hj
        exact absurd hj (by show ¬ j < n; omega)
    · refine Need.mk ⟨(by show 0 + n ≤ maxLen ∧ (0 + n) * 64 ≤ 140737488355328; unfold maxLen; omega), hlen⟩ fun _ => ?_
      refine ⟨[0, 2], ⟨rfl, rfl, (by show List.Nodup [2]; decide), rfl, ?_⟩⟩
      repeat' (first | exact trivial | exact rfl | apply And.intro)
      · cases n with
        | zero => rfl
        | succ k => exact congrArg Nat.succ (Nat.zero_add k)
      · intro j hj
        rfl

/-- A copy of elements that may hold slices: an own row of the same cells. -/
def appClone (e sz : Nat) : App := fun args h => match args with
  | [.c (.row k)] => match h[k]? with
    | some (.data false ty sz' n g) => match Nat.beq e ty && Nat.beq sz sz' with
      | true => some ⟨n ≤ 1000000, .c (.row h.length), h ++ [.orow e sz n g], []⟩
      | false => none
    | _ => none
  | _ => none

theorem cloneCt : CtOk Try.prog 163 (appClone 140 4) := by
  have hsp : ∀ args h r, appClone 140 4 args h = some r → ∃ k n g, args = [.c (.row k)] ∧ h[k]? = some (.data false 140 4 n g) ∧ r = ⟨n ≤ 1000000, .c (.row h.length), h ++ [.orow 140 4 n g], []⟩ := fun args h r hr => by
    unfold appClone at hr
    split at hr
    · split at hr
      · split at hr
        · rename_i hb
          simp only [Bool.and_eq_true, Nat.beq_eq] at hb
          obtain ⟨rfl, rfl⟩ := hb
          exact ⟨_, _, _, rfl, by assumption, (Option.some.inj hr).symm⟩
        · cases hr
      · cases hr
    · cases hr
  refine ⟨callable_spec cloneVP.fn, fun args h r hr => ?_, fun args h r hr hpre w0 G ρ W us rel hus => ?_⟩
  · obtain ⟨k, n, g, rfl, hk, rfl⟩ := hsp args h r hr
    exact ⟨by simp, fun j hj hn => List.getElem?_append_left hj⟩
  · obtain ⟨k, n, g, rfl, hk, rfl⟩ := hsp args h r hr
    have hn : n ≤ 1000000 := hpre
    obtain ⟨v, us', rfl, hv, hus'⟩ := hus
    cases hus'
    obtain ⟨p, hp, rfl⟩ := den_row hv
    have hok := rel.ok k _ p hk hp
    have hdat := rel.dat k _ p hk hp
    obtain ⟨hsl, hcell⟩ := Ent.dview_ok (e := .data false 140 4 n g) rfl hok hdat
    have hlt : 0 < n → p.b < W.heap.size := fun h0 => by
      obtain ⟨a, cap, h1, h2, h3⟩ := hdat
      obtain ⟨b, o, h4, h5, _⟩ := h3 h0
      obtain ⟨a', cap', k1, k2, k3⟩ := hsl
      rw [k1] at h1
      cases h1
      have := (k3 h0).symm.trans h4
      cases this
      exact (Dom.own rel h5).1
    obtain ⟨f, hf⟩ : ∃ f : Nat → List Value, ∀ i, i < n → ShowsL W (Dom w0 G ρ h W) (takeC (g i) 0 4) (f i) ∧ (f i).length = 4 ∧ ∀ j v, (f i)[j]? = some v → W.cell? ⟨p.b, p.o + i * 4 + j, none⟩ = some v := by
      have h1 : ∀ i, i < n → ∃ us, ShowsL W (Dom w0 G ρ h W) (takeC (g i) 0 4) us ∧ us.length = 4 ∧ ∀ j v, us[j]? = some v → W.cell? ⟨p.b, p.o + i * 4 + j, none⟩ = some v := fun i hi => by
        obtain ⟨us, g1, g2, g3⟩ := takeC_ok (f := g i) (fun j hj => hcell i j hi hj) 4 0 (by omega)
        exact ⟨us, g1, g2, fun j v hj => by have := g3 j v hj; rwa [Nat.zero_add] at this⟩
      refine ⟨fun i => if h : i < n then Classical.choose (h1 i h) else [], fun i h => ?_⟩
      dsimp only
      rw [dif_pos h]
      exact Classical.choose_spec (h1 i h)
    have hones : ∀ i, i < n → ∀ u ∈ f i, one u = true := fun i hi u hu => by
      have := ShowsL.one (hf i hi).1 u hu
      cases u <;> first | rfl | cases this
    have hIs : ∀ i, i < n → IsL [] ((f i).map CV.val) (f i) := fun i hi => by
      have := hones i hi
      generalize f i = l at this
      induction l with
      | nil => exact rfl
      | cons u l ih => exact IsL.cons (by simp [CV.den, this u (by simp)]) (ih fun x hx => this x (by simp [hx]))
    have rel0 : Rel W (Gs.all []) [p] [.elems 140 4 n fun i => (f i).map CV.val] W := by
      have hg : ∀ {j : Nat} {x : Ent} {q : Pl}, ([.elems 140 4 n fun i => (f i).map CV.val] : List Ent)[j]? = some x → ([p] : List Pl)[j]? = some q → x = .elems 140 4 n (fun i => (f i).map CV.val) ∧ q = p := fun {j x q} hx hq => by
        cases j with
        | zero => simp at hx hq; exact ⟨hx.symm, hq.symm⟩
        | succ j => simp at hx
      have hfp : ∀ j b, fp [p] [.elems 140 4 n fun i => (f i).map CV.val] j ≠ some b := fun j b hb => by
        obtain ⟨x, q, hx, hq, hxb⟩ := fp_some hb
        obtain ⟨rfl, rfl⟩ := hg hx hq
        cases hxb
      refine ⟨rfl, fun j x q hx hq => ?_, fun j b hb => absurd hb (hfp j b), fun i j b hb _ => absurd hb (hfp i b), fun _ _ _ => rfl, fun j x q hx hq => ?_, rfl, rfl, rfl, Nat.le_refl _⟩
      · obtain ⟨rfl, rfl⟩ := hg hx hq
        exact ⟨hsl, fun i hi => ⟨f i, hIs i hi, (hf i hi).2.2⟩⟩
      · obtain ⟨rfl, rfl⟩ := hg hx hq
        exact fun h0 => Or.inl ⟨hlt h0, by simp, trivial⟩
    have hFps : Fps [p] [.elems 140 4 n fun i => (f i).map CV.val] = [] := rfl
    obtain ⟨a, cap, hpv, hcap, ha⟩ := hsl
    refine Calls.mono (cloneVP.run [.c (.row 0)] [.elems 140 4 n fun i => (f i).map CV.val] _ _ _ rfl ⟨rfl, rfl, fun i hi => by simp [(hf i hi).2.1], hn⟩ [p] W [p.v] (by rw [hFps]; exact rel0) ⟨_, _, rfl, (by simp [SV.is, CV.den, hpv, one] : SV.is [p] (.c (.row 0)) p.v), rfl⟩) fun e W' he => ?_
    obtain ⟨u, ρ', rfl, hu, hr⟩ := he
    rw [hFps] at hr
    have hlen := hr.len
    obtain ⟨q, rfl⟩ : ∃ q, ρ' = [q] := by
      simp at hlen
      match ρ', hlen with
      | [q], _ => exact ⟨q, rfl⟩
    have hq : q.v = u := by
      obtain ⟨q', h1, h2⟩ := den_row (show (CV.row 1).den ([p] ++ [q]) = some u from hu)
      simp at h1
      rw [h1, h2]
    subst hq
    obtain ⟨vs, ⟨hvs, hqo, hqb⟩, hown⟩ := hr.ok 1 _ q rfl rfl
    have hown1 : ∀ b, q.v.ownBlock = some b → b < W'.heap.size ∧ W.heap.size ≤ b := fun b hb => by
      have := hr.own 1 b (by rw [fp_mk (e := .row 140 4 n fun i => (f i).map CV.val) (p := q) rfl rfl]; exact hb)
      exact ⟨this.1, this.2.resolve_left (by simp)⟩
    have hg : W.grownBy W' none := ⟨hr.os, hr.tape, hr.output, hr.size, fun j hj _ => hr.kept j hj (by simp)⟩
    have hokq : Ent.ok (ρ ++ [q]) q W' (.orow 140 4 n g) := by
      refine ⟨?_, hqo, hqb⟩
      rcases hown.2 with ⟨h1, h2⟩ | ⟨b, cap', cur, h1, _, _, h2, _⟩
      · exact ⟨none, 0, by rw [h1, h2], by omega, fun h => by omega⟩
      · refine ⟨_, cap', h1, h2, fun _ => ?_⟩
        rw [hqo, ← hqb b (by rw [h1]; rfl)]
    have hb := rel.bornE (W' := W') (en := .orow 140 4 n g) (q0 := q) hokq rfl (fun b hb => (hown1 b hb).1) hg (fun b hb => (hown1 b hb).2) fun hst => ⟨vs, hown, fun i j hi hj => ?_⟩
    · refine ⟨q.v, [q], rfl, ?_, hb⟩
      show CV.den _ (.row h.length) = some q.v
      simp only [CV.den]
      rw [← rel.len, List.getElem?_append_right (Nat.le_refl _)]
      have : one q.v = true := by rcases hown.2 with ⟨h1, _⟩ | ⟨b, cap', cur, h1, _⟩ <;> rw [h1] <;> rfl
      simp [this]
    · have hch : (vs.drop (i * 4)).take 4 = f i := (hvs i hi).unique (hIs i hi)
      obtain ⟨v, k1, k2⟩ := (hf i hi).1.get (j := j) (by rw [takeC_len]; exact hj)
      rw [takeC_get _ _ _ _ hj, Nat.zero_add] at k2
      refine ⟨v, ?_, Cell.shows_mono hst k2⟩
      have := congrArg (fun l => l[j]?) hch
      simp only [List.getElem?_take, List.getElem?_drop, if_pos hj] at this
      rw [this]
      exact k1
end Go.Proofs.Ytcgoaicifjndpaa.Vx
end

section
/- Proofs copied, by the walker. -/
namespace Go.Proofs.Ytcgoaicifjndpaa.Vx
open Go.RowKit
set_option linter.unusedVariables false
set_option linter.unusedSimpArgs false
/-- Leaves of which the first m have their own sums. -/
def copGP (zp0 : type_of% @lI) (zp1 : type_of% @lK) (zp2 : type_of% @lN) (zp3 : type_of% @lP) (zp4 : type_of% @lV) (zp5 : type_of% @pG) (l : List PLeaf) (m i j : Nat) : Cell := match j with
  | 0 => .pl (.str (zp1 l i))
  | 1 => .pl (.str (zp4 l i))
  | 2 => .pl (.int .i64 (zp0 l i))
  | _ => .es (Nat.blt i m) 63 32 (zp2 l i) (zp5 (zp3 l i))
@[reducible] def copG := copGP lI lK lN lP lV pG
theorem four {j : Nat} (h : j < 4) : j = 0 ∨ j = 1 ∨ j = 2 ∨ j = 3 := by omega
theorem cop_zero {l : List PLeaf} {n : Nat} : ∀ i j, i < n → j < 4 → Cell.le (leafG false l i j) (copG l 0 i j) := fun i j _ hj => by
  have e : Nat.blt i 0 = false := by rw [Bool.eq_false_iff, ne_eq, Nat.blt_eq]; omega
  rcases four hj with rfl | rfl | rfl | rfl
  · exact Cell.le_refl _
  · exact Cell.le_refl _
  · exact Cell.le_refl _
  · show Cell.le _ (.es (Nat.blt i 0) _ _ _ _)
    rw [e]; exact Cell.le_refl _
theorem cop_end {l : List PLeaf} {n : Nat} : ∀ i j, i < n → j < 4 → Cell.le (copG l n i j) (leafG true l i j) := fun i j hi hj => by
  have e : Nat.blt i n = true := by rw [Nat.blt_eq]; exact hi
  rcases four hj with rfl | rfl | rfl | rfl
  · exact Cell.le_refl _
  · exact Cell.le_refl _
  · exact Cell.le_refl _
  · show Cell.le (.es (Nat.blt i n) _ _ _ _) _
    rw [e]; exact Cell.le_refl _
theorem cop_new {l : List PLeaf} {n : Nat} : newR n 4 (copG l n) := fun i j hi hj => by
  have e : Nat.blt i n = true := by rw [Nat.blt_eq]; exact hi
  rcases four hj with rfl | rfl | rfl | rfl
  · trivial
  · trivial
  · trivial
  · exact e
theorem cop_step {l : List PLeaf} {k n : Nat} {g : Nat → List CV} (hg : g = pG (lP l k)) : ∀ i j, i < n → j < 4 → Cell.le (upC (copG l k) k 3 [.es true 63 32 (lN l k) g] i j) (copG l (k + 1) i j) := fun i j _ hj => by
  subst hg
  by_cases hc : i = k ∧ 3 ≤ j ∧ j < 3 + 1
  · obtain ⟨rfl, h1, h2⟩ := hc
    obtain rfl : j = 3 := by omega
    rw [upC_eq (show 3 ≤ 3 ∧ 3 < 3 + List.length [_] from ⟨h1, h2⟩)]
    have e : Nat.blt i (i + 1) = true := by rw [Nat.blt_eq]; omega
    show Cell.le _ (.es (Nat.blt i (i + 1)) _ _ _ _)
    rw [e]; exact Cell.le_refl _
  · rw [upC_ne hc]
    rcases four hj with rfl | rfl | rfl | rfl
    · exact Cell.le_refl _
    · exact Cell.le_refl _
    · exact Cell.le_refl _
    · have e : Nat.blt i k = Nat.blt i (k + 1) := by
        rw [Bool.eq_iff_iff, Nat.blt_eq, Nat.blt_eq]
        have : ¬ i = k := fun h => hc ⟨h, by omega, by omega⟩
        omega
      show Cell.le (.es (Nat.blt i k) _ _ _ _) (.es (Nat.blt i (k + 1)) _ _ _ _)
      rw [e]; exact Cell.le_refl _
structure LCp (n : Nat) where
  i : Int
  h0 : 0 ≤ i
  h1 : i ≤ (n : Int)
def sCopied : SpecF
  | [.agg [.int .i64 c, .row 0]], [.data false ty sz n get] => some (leavesPre ty sz n get, .agg [.int .i64 c, .row 1], [.dead, .data true 140 4 n (leafG true (leafL n get))])
  | _, _ => none

set_option maxRecDepth 100000 in
set_option maxHeartbeats 8000000 in
theorem copiedP : Fn Try.prog 118 [] [(140, 204)] sCopied := by
  have hC : CtsOk Try.prog [(163, appClone 140 4), (164, appFn [] [(63, 32)] sCloneH)] := CtsOk.cons (cloneCt) <| CtsOk.cons (Fn.ct cloneHP) <| CtsOk.nil _
  refine Fn.ofZ (E := tbQ) [] 0 [(5, [(0, true), (1, true), (2, true), (3, true), (4, true), (5, true), (6, true), (7, true), (8, false), (9, false), (10, true), (11, true), (1012, false), (12, false)])] tbQ_ok hC (by kernel_rfl) Try.func118 rfl rfl rfl (by kernel_rfl) (by kernel_rfl) 1 (.data true 140 4 0 fun _ _ => .pl .tt) rfl ?_ ?_
  · intro args h pre r h' hs
    unfold sCopied at hs
    split at hs
    · cases hs; exact ⟨rfl, rfl, Nat.le_of_ble_eq_true rfl⟩
    · cases hs
  · intro args h pre r h' hs hp
    unfold sCopied at hs
    split at hs
    rotate_left
    · cases hs
    rename_i c ty sz n get
    cases hs
    obtain ⟨rfl, rfl, hst, hok, hm⟩ := hp
    refine ⟨[.data false 140 4 n (leafG false (leafL n get))], ⟨⟨rfl, rfl, rfl, rfl, fun i j hi hj => by rw [hst i j hi hj]; exact Cell.le_refl _⟩, trivial⟩, ?_⟩
    have hL : (leafL n get).length = n := leafL_len
    generalize leafL n get = L at hL hok ⊢
    unfold sCloneH
    generalize hL : lft Try.prog _ = L
    try unfold leafG
    try unfold copG
    generalize ho0 : @lK = zo0, ho1 : @lV = zo1, ho2 : @lI = zo2, ho3 : @lP = zo3, ho4 : @lN = zo4, ho5 : @pG = zo5, ho6 : @leafL = zo6, ho7 : @leavesPre = zo7, ho8 : @hsL = zo8, ho9 : @hsPre = zo9, ho10 : @newR = zo10
    generalize hA : Arith.std = A
    cbv
    subst hA hL ho0 ho1 ho2 ho3 ho4 ho5 ho6 ho7 ho8 ho9 ho10
    refine Need.mk hm fun _ => ?_
    show Runs Try.prog 1 (.loop _) _ _
    refine loop_ruleR (N := env (lft Try.prog 1) 0 .std tbQ [(163, appClone 140 4), (164, appFn [] [(63, 32)] sCloneH)] [(5, [(0, true), (1, true), (2, true), (3, true), (4, true), (5, true), (6, true), (7, true), (8, false), (9, false), (10, true), (11, true), (1012, false), (12, false)])]) rfl tbQ_ok hC (fun c st K _ h => h) (by kernel_rfl) [] (X := LCp n)
      (S := fun x => ⟨[.any, .c (.ptr 1 0), .c (.ptr 2 0), .any, .any, .any, .any, .any, .any, .any, .c (.int .i64 n), .c (.int .i64 x.i)] ++ List.replicate 16 .any, [.data false 140 4 n (leafG false L), .cells 72 [.int .i64 c, .row 3], .cells 72 [.int .i64 0, .val (.slice none 0 0)], .orow 140 4 n (copG L x.i.toNat)]⟩) (μ := fun x => n - x.i.toNat) ⟨0, by omega, by omega⟩ (by kernel_rfl) [0, 1, 2, 3] ?_ ?_
    · refine ⟨rfl, by decide, ?_, ?_⟩ <;> repeat' (first | exact trivial | exact rfl | apply And.intro | exact (fun _ _ _ _ => Cell.le_refl _) | exact cop_zero)
    rintro ⟨i, hi0, hin⟩
    unfold sCloneH
    generalize hL : lft Try.prog _ = L
    try dsimp only
    try unfold leafG
    try unfold copG
    generalize ho0 : @lK = zo0, ho1 : @lV = zo1, ho2 : @lI = zo2, ho3 : @lP = zo3, ho4 : @lN = zo4, ho5 : @pG = zo5, ho6 : @leafL = zo6, ho7 : @leavesPre = zo7, ho8 : @hsL = zo8, ho9 : @hsPre = zo9, ho10 : @newR = zo10
    generalize hA : Arith.std = A
    cbv
    subst hA hL ho0 ho1 ho2 ho3 ho4 ho5 ho6 ho7 ho8 ho9 ho10
    replace hi0 : 0 ≤ i := hi0
    replace hin : i ≤ @Nat.cast Int instNatCastInt n := hin
    refine Ife.mk (fun hlt => ?_) (fun hlt => ?_)
    · replace hlt : i < @Nat.cast Int instNatCastInt n := of_decide_eq_true (p := i < (n : Int)) hlt
      have b1 : 0 ≤ i ∧ i < (n : Int) := by omega
      have b2 : i.toNat < n := by omega
      refine Need.mk b1 fun _ => Need.mk b2 fun _ => Need.mk (hsPre_lP hok) fun _ => Need.mk b1 fun _ => Need.mk ⟨b2, trivial⟩ fun _ => Need.mk (by show fitStd .i64 (i + 1); unfold fitStd; omega) fun _ => ?_
      have e1 : hsL (lN L i.toNat) (pG (lP L i.toNat)) = lP L i.toNat := hsL_lP hok
      refine ⟨⟨i + 1, by omega, by omega⟩, [0, 1, 2, 3], (by show n - (i + 1).toNat < n - i.toNat; omega), ?_⟩
      refine ⟨rfl, by decide, by repeat' (first | exact trivial | exact rfl | apply And.intro | exact (fun _ _ _ _ => Cell.le_refl _) | (intro i hi; rfl) | (intro i hi; exact absurd hi (Nat.not_lt_zero _))), ?_⟩
      repeat' (first | exact trivial | exact rfl | apply And.intro | exact (fun _ _ _ _ => Cell.le_refl _))
      intro i' j hi' hj
      show Cell.le _ (copG L (i + 1).toNat i' j)
      rw [show (i + 1).toNat = i.toNat + 1 by omega]
      exact cop_step (n := n) (congrArg pG e1) i' j hi' hj
    · replace hlt : ¬ i < @Nat.cast Int instNatCastInt n := of_decide_eq_false (p := i < (n : Int)) hlt
      have ei : i.toNat = n := by omega
      refine ⟨[3], [0, 3], ⟨?fz, rfl, (by repeat' (first | exact trivial | exact rfl | apply And.intro | exact (fun _ _ _ _ => Cell.le_refl _) | (intro i hi; rfl) | (intro i hi; exact absurd hi (Nat.not_lt_zero _)))), (by show List.Nodup []; exact List.nodup_nil), rfl, ?hh⟩⟩
      case fz =>
        show newR n 4 (copG L i.toNat) ∧ True
        rw [ei]
        exact ⟨cop_new, trivial⟩
      case hh =>
        repeat' (first | exact trivial | exact rfl | apply And.intro)
        intro i' j hi' hj
        have := cop_end (l := L) (n := n) i' j hi' hj
        rw [← ei] at this
        exact this

end Go.Proofs.Ytcgoaicifjndpaa.Vx
end
