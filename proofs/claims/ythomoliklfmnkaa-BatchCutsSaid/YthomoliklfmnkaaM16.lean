/- The document's comparison of proofs, by the walker. -/
import Derived.Test.YthomoliklfmnkaaM15
import Derived.Test.YthomoliklfmnkaaM12
import Derived.Test.YthomoliklfmnkaaVxFrame
import Derived.Test.YthomoliklfmnkaaVxFlat
import Derived.Test.YthomoliklfmnkaaVxLive
import Derived.Test.YthomoliklfmnkaaRows
section
namespace Go.Proofs.Ythomoliklfmnkaa.Vx
open Go.RowKit
set_option linter.unusedVariables false
set_option linter.unusedSimpArgs false
/-- The first leaves are alike. -/
structure LSpr (L K : List PLeaf) (n : Nat) where
  i : Int
  k : Nat
  hk : i = (k : Int)
  h1 : k ≤ n
  h2 : L.take k = K.take k
theorem leaf_split {L : List PLeaf} {k : Nat} (h : k < L.length) : L[k] = ⟨lK L k, lV L k, lI L k, lP L k⟩ := by
  have e : L.getD k .none = L[k] := by simp [List.getD, h]
  unfold lK lV lI lP
  rw [e]
theorem take_ne {L K : List PLeaf} {k : Nat} (h : k < L.length) (h' : k < K.length) (hn : ¬ (lK L k = lK K k ∧ lV L k = lV K k ∧ lI L k = lI K k ∧ lP L k = lP K k)) : ¬ L = K := fun e => by
  subst e
  exact hn ⟨rfl, rfl, rfl, rfl⟩
theorem take_eq {L K : List PLeaf} {k : Nat} (h : k < L.length) (h' : k < K.length) (he : L.take k = K.take k) (h1 : lK L k = lK K k) (h2 : lV L k = lV K k) (h3 : lI L k = lI K k) (h4 : lP L k = lP K k) : L.take (k + 1) = K.take (k + 1) := by
  rw [List.take_add_one, List.take_add_one, he, List.getElem?_eq_getElem h, List.getElem?_eq_getElem h', leaf_split h, leaf_split h', h1, h2, h3, h4]
/-- A byte of a sum. -/
def hQ (p : List (List Int)) (i j : Nat) : Int := (p.getD i []).getD j 0
set_option maxRecDepth 100000 in
set_option maxHeartbeats 16000000 in
theorem rsamePrP : Fn Try.prog 100 [] [(118, 204), (118, 204)] sSamePr := by
  have hC : CtsOk Try.prog [] := CtsOk.nil _
  refine Fn.of (E := tbQ) [] 0 [(6, [(9999, true), (0, true), (1, true), (2, true), (3, true), (5, true), (6, true), (7, true), (8, true), (3004, false), (3009, false), (3010, false), (11, false), (12, false), (13, false), (2999, false), (11, false), (10, false), (12, false), (13, false), (2999, false), (3010, false), (3009, false), (11, false), (12, false), (13, false), (2999, false), (11, false), (3009, false), (12, false), (13, false), (2999, false), (12, false), (9, false), (13, false), (2999, false), (11, false), (3009, false), (10, false), (12, false), (13, false), (2999, false), (10, false), (3009, false), (12, false), (13, false), (2999, false), (12, false), (9, false), (13, false), (2999, false), (3009, false), (3004, false), (3010, false), (11, false), (12, false), (13, false), (2999, false), (11, false), (10, false), (12, false), (13, false), (2999, false), (3010, false), (3004, false), (11, false), (12, false), (13, false), (2999, false), (11, false), (4, false), (12, false), (13, false), (2999, false), (11, false), (3004, false), (10, false), (12, false), (13, false), (2999, false), (10, false), (4, false), (12, false), (13, false), (2999, false), (3010, false), (3004, false), (3009, false), (11, false), (12, false), (13, false), (2999, false), (11, false), (3009, false), (12, false), (13, false), (2999, false), (12, false), (9, false), (13, false), (2999, false), (3009, false), (3004, false), (11, false), (12, false), (13, false), (2999, false), (11, false), (4, false), (12, false), (13, false), (2999, false), (11, false), (3004, false), (3009, false), (12, false), (13, false), (2999, false), (12, false), (9, false), (13, false), (2999, false), (9, false), (4, false), (12, false), (13, false), (2999, false), (11, false), (3004, false), (3009, false), (10, false), (12, false), (13, false), (2999, false), (10, false), (3009, false), (12, false), (13, false), (2999, false), (12, false), (9, false), (13, false), (2999, false), (3009, false), (3004, false), (10, false), (12, false), (13, false), (2999, false), (10, false), (4, false), (12, false), (13, false), (2999, false), (10, false), (3004, false), (3009, false), (12, false), (13, false), (2999, false), (12, false), (9, false), (13, false), (2999, false), (9, false), (4, false), (12, false), (13, false), (2999, false)]), (12, [(0, true), (1, true), (2, true), (3, true), (4, true), (5, true), (6, true), (7, true), (8, true), (9, true), (10, true)])] tbQ_ok hC (by kernel_rfl) Try.func100 rfl rfl rfl (by kernel_rfl) (by kernel_rfl) 2 5 1 ?_ ?_
  · intro args h pre r h' hs
    unfold sSamePr at hs
    split at hs
    · cases hs; exact ⟨rfl, rfl, Nat.le_of_ble_eq_true rfl⟩
    · cases hs
  · intro args h pre r h' hs hp
    unfold sSamePr at hs
    split at hs
    rotate_left
    · cases hs
    rename_i c c' fr ty sz n get fr' ty' sz' n' get'
    cases hs
    obtain ⟨⟨rfl, rfl, hst, hok, hm⟩, ⟨rfl, rfl, hst', hok', hm'⟩⟩ := hp
    refine ⟨[.data fr 118 4 n (leafG false (leafL n get)), .data fr' 118 4 n' (leafG false (leafL n' get'))], ⟨⟨rfl, rfl, rfl, rfl, fun i j hi hj => by rw [hst i j hi hj]; exact Cell.le_refl _⟩, ⟨rfl, rfl, rfl, rfl, fun i j hi hj => by rw [hst' i j hi hj]; exact Cell.le_refl _⟩, trivial⟩, ?_⟩
    have hL : (leafL n get).length = n := leafL_len
    have hL' : (leafL n' get').length = n' := leafL_len
    generalize leafL n get = L at hL hok ⊢
    generalize leafL n' get' = K at hL' hok' ⊢
    generalize hL : lft Try.prog _ = L
    try unfold leafG
    generalize ho0 : @lK = zo0, ho1 : @lV = zo1, ho2 : @lI = zo2, ho3 : @lP = zo3, ho4 : @lN = zo4, ho5 : @leafL = zo5, ho6 : @leavesPre = zo6, ho7 : @hQ = zo7, ho8 : @sumAt = zo8
    generalize hA : Arith.std = A
    cbv
    subst hA hL ho0 ho1 ho2 ho3 ho4 ho5 ho6 ho7 ho8
    refine Ife.mk (fun h => ?_) (fun h => ?_)
    · have h : ¬ c = c' := by simpa using (show (!decide (c = c')) = true from h)
      rw [decide_eq_false h, Bool.false_and]
      exact ⟨[0, 1], ⟨rfl, by repeat' (first | exact trivial | exact rfl | apply And.intro | exact (fun _ _ _ _ => Cell.le_refl _) | (intro i hi; rfl) | (intro i hi; exact absurd hi (Nat.not_lt_zero _))), by decide, rfl, by repeat' (first | exact trivial | exact rfl | apply And.intro | exact (fun _ _ _ _ => Cell.le_refl _) | (intro i hi; rfl) | (intro i hi; exact absurd hi (Nat.not_lt_zero _)))⟩⟩
    have h : c = c' := by simpa using (show (!decide (c = c')) = false from h)
    subst h
    refine Ife.mk (fun h => ?_) (fun h => ?_)
    · have h : ¬ ((n : Int) = (n' : Int)) := by simpa using (show (!decide ((n : Int) = (n' : Int))) = true from h)
      rw [decide_eq_false (show ¬ L = K from fun e => by rw [e] at hL; omega), Bool.and_false]
      exact ⟨[0, 1], ⟨rfl, by repeat' (first | exact trivial | exact rfl | apply And.intro | exact (fun _ _ _ _ => Cell.le_refl _) | (intro i hi; rfl) | (intro i hi; exact absurd hi (Nat.not_lt_zero _))), by decide, rfl, by repeat' (first | exact trivial | exact rfl | apply And.intro | exact (fun _ _ _ _ => Cell.le_refl _) | (intro i hi; rfl) | (intro i hi; exact absurd hi (Nat.not_lt_zero _)))⟩⟩
    have h : ((n : Int) = (n' : Int)) := by simpa using (show (!decide ((n : Int) = (n' : Int))) = false from h)
    replace h := And.intro h trivial
    obtain ⟨hc0, _⟩ := h
    have hnn : n = n' := by omega
    subst hnn
    clear hc0
    rw [decide_eq_true (rfl : c = c), Bool.true_and]
    obtain ⟨E, hE⟩ : ∃ E, decide (L = K) = E := ⟨_, rfl⟩
    rw [hE]
    show Runs Try.prog 2 (.loop _) _ _
    refine loop_ruleX (X := LSpr L K n) (fun x : LSpr L K n => ⟨[.any, .any, .c (.ptr 2 0), .c (.ptr 3 0), .any, .c (.int .i64 x.i)] ++ List.replicate 80 .any, [.data fr 118 4 n (leafG false L), .data fr' 118 4 n (leafG false K), .cells 58 [.int .i64 c, .row 0], .cells 58 [.int .i64 c, .row 1]]⟩) (fun x => n - x.k) ⟨0, 0, rfl, Nat.zero_le _, rfl⟩ [0, 1, 2, 3] ?_ ?_
    · refine ⟨rfl, by show List.Nodup [2, 3]; decide, ?_, ?_⟩ <;> repeat' (first | exact trivial | exact rfl | apply And.intro | exact (fun _ _ _ _ => Cell.le_refl _) | (intro i hi; rfl) | (intro i hi; exact absurd hi (Nat.not_lt_zero _)))
    rintro ⟨i, k, hk, hkn, htk⟩
    replace hk : i = @Nat.cast Int instNatCastInt k := hk
    subst hk
    refine Runs.cut ⟨[.any, .any, .c (.ptr 2 0), .c (.ptr 3 0), .any, .c (.int .i64 (k : Int))] ++ List.replicate 80 .any, [.data fr 118 4 n (leafG false L), .data fr' 118 4 n (leafG false K), .cells 58 [.int .i64 c, .row 0], .cells 58 [.int .i64 c, .row 1]]⟩ (k < n) ?_ fun hlt => ?_
    · refine exec_ok (N := env (lft Try.prog 2) 0 .std tbQ [] [(6, [(9999, true), (0, true), (1, true), (2, true), (3, true), (5, true), (6, true), (7, true), (8, true), (3004, false), (3009, false), (3010, false), (11, false), (12, false), (13, false), (2999, false), (11, false), (10, false), (12, false), (13, false), (2999, false), (3010, false), (3009, false), (11, false), (12, false), (13, false), (2999, false), (11, false), (3009, false), (12, false), (13, false), (2999, false), (12, false), (9, false), (13, false), (2999, false), (11, false), (3009, false), (10, false), (12, false), (13, false), (2999, false), (10, false), (3009, false), (12, false), (13, false), (2999, false), (12, false), (9, false), (13, false), (2999, false), (3009, false), (3004, false), (3010, false), (11, false), (12, false), (13, false), (2999, false), (11, false), (10, false), (12, false), (13, false), (2999, false), (3010, false), (3004, false), (11, false), (12, false), (13, false), (2999, false), (11, false), (4, false), (12, false), (13, false), (2999, false), (11, false), (3004, false), (10, false), (12, false), (13, false), (2999, false), (10, false), (4, false), (12, false), (13, false), (2999, false), (3010, false), (3004, false), (3009, false), (11, false), (12, false), (13, false), (2999, false), (11, false), (3009, false), (12, false), (13, false), (2999, false), (12, false), (9, false), (13, false), (2999, false), (3009, false), (3004, false), (11, false), (12, false), (13, false), (2999, false), (11, false), (4, false), (12, false), (13, false), (2999, false), (11, false), (3004, false), (3009, false), (12, false), (13, false), (2999, false), (12, false), (9, false), (13, false), (2999, false), (9, false), (4, false), (12, false), (13, false), (2999, false), (11, false), (3004, false), (3009, false), (10, false), (12, false), (13, false), (2999, false), (10, false), (3009, false), (12, false), (13, false), (2999, false), (12, false), (9, false), (13, false), (2999, false), (3009, false), (3004, false), (10, false), (12, false), (13, false), (2999, false), (10, false), (4, false), (12, false), (13, false), (2999, false), (10, false), (3004, false), (3009, false), (12, false), (13, false), (2999, false), (12, false), (9, false), (13, false), (2999, false), (9, false), (4, false), (12, false), (13, false), (2999, false)]), (12, [(0, true), (1, true), (2, true), (3, true), (4, true), (5, true), (6, true), (7, true), (8, true), (9, true), (10, true)])]) rfl tbQ_ok hC (fun c st K _ h => h) (by kernel_rfl) [] _ _ _ (by kernel_rfl) ?_
      generalize hL : lft Try.prog _ = L
      try dsimp only
      try unfold leafG
      generalize ho0 : @lK = zo0, ho1 : @lV = zo1, ho2 : @lI = zo2, ho3 : @lP = zo3, ho4 : @lN = zo4, ho5 : @leafL = zo5, ho6 : @leavesPre = zo6, ho7 : @hQ = zo7, ho8 : @sumAt = zo8
      generalize hA : Arith.std = A
      cbv
      subst hA hL ho0 ho1 ho2 ho3 ho4 ho5 ho6 ho7 ho8
      refine Ife.mk (fun hlt => ?_) (fun hlt => ?_)
      · replace hlt : (k : Int) < @Nat.cast Int instNatCastInt n := of_decide_eq_true (p := (k : Int) < (n : Int)) hlt
        refine ⟨⟨[0, 1, 2, 3], rfl, (by show List.Nodup [2, 3]; decide), (by repeat' (first | exact trivial | exact rfl | apply And.intro | exact (fun _ _ _ _ => Cell.le_refl _) | (intro i hi; rfl) | (intro i hi; exact absurd hi (Nat.not_lt_zero _)))), (by repeat' (first | exact trivial | exact rfl | apply And.intro | exact (fun _ _ _ _ => Cell.le_refl _) | (intro i hi; rfl) | (intro i hi; exact absurd hi (Nat.not_lt_zero _))))⟩, (show k < n by omega)⟩
      · replace hlt : ¬ (k : Int) < @Nat.cast Int instNatCastInt n := of_decide_eq_false (p := (k : Int) < (n : Int)) hlt
        rw [List.take_of_length_le (l := L) (by omega), List.take_of_length_le (l := K) (by omega)] at htk
        have hD : E = true := by rw [← hE]; exact decide_eq_true htk
        subst hD
        exact ⟨[0, 1], ⟨rfl, by repeat' (first | exact trivial | exact rfl | apply And.intro | exact (fun _ _ _ _ => Cell.le_refl _) | (intro i hi; rfl) | (intro i hi; exact absurd hi (Nat.not_lt_zero _))), by decide, rfl, by repeat' (first | exact trivial | exact rfl | apply And.intro | exact (fun _ _ _ _ => Cell.le_refl _) | (intro i hi; rfl) | (intro i hi; exact absurd hi (Nat.not_lt_zero _)))⟩⟩
    have hkL : k < L.length := by omega
    have hkK : k < K.length := by omega
    refine Runs.seq (Runs.block (Runs.cut ⟨[.any, .any, .c (.ptr 2 0), .c (.ptr 3 0), .any, .c (.int .i64 (k : Int)), .c (.ptr 6 0), .c (.ptr 7 0)] ++ List.replicate 78 .any, [.data fr 118 4 n (leafG false L), .data fr' 118 4 n (leafG false K), .cells 58 [.int .i64 c, .row 0], .cells 58 [.int .i64 c, .row 1], .elems 49 32 (lN L k) (fun i => h32 (hQ (lP L k) i)), .elems 49 32 (lN K k) (fun i => h32 (hQ (lP K k) i)), .cells 118 [.str (lK L k), .str (lV L k), .int .i64 (lI L k), .row 4], .cells 118 [.str (lK K k), .str (lV K k), .int .i64 (lI K k), .row 5]]⟩ True ?_ fun _ => ?_))
    · refine exec_ok (N := env (lft Try.prog 2) 0 .std tbQ [] [(6, [(9999, true), (0, true), (1, true), (2, true), (3, true), (5, true), (6, true), (7, true), (8, true), (3004, false), (3009, false), (3010, false), (11, false), (12, false), (13, false), (2999, false), (11, false), (10, false), (12, false), (13, false), (2999, false), (3010, false), (3009, false), (11, false), (12, false), (13, false), (2999, false), (11, false), (3009, false), (12, false), (13, false), (2999, false), (12, false), (9, false), (13, false), (2999, false), (11, false), (3009, false), (10, false), (12, false), (13, false), (2999, false), (10, false), (3009, false), (12, false), (13, false), (2999, false), (12, false), (9, false), (13, false), (2999, false), (3009, false), (3004, false), (3010, false), (11, false), (12, false), (13, false), (2999, false), (11, false), (10, false), (12, false), (13, false), (2999, false), (3010, false), (3004, false), (11, false), (12, false), (13, false), (2999, false), (11, false), (4, false), (12, false), (13, false), (2999, false), (11, false), (3004, false), (10, false), (12, false), (13, false), (2999, false), (10, false), (4, false), (12, false), (13, false), (2999, false), (3010, false), (3004, false), (3009, false), (11, false), (12, false), (13, false), (2999, false), (11, false), (3009, false), (12, false), (13, false), (2999, false), (12, false), (9, false), (13, false), (2999, false), (3009, false), (3004, false), (11, false), (12, false), (13, false), (2999, false), (11, false), (4, false), (12, false), (13, false), (2999, false), (11, false), (3004, false), (3009, false), (12, false), (13, false), (2999, false), (12, false), (9, false), (13, false), (2999, false), (9, false), (4, false), (12, false), (13, false), (2999, false), (11, false), (3004, false), (3009, false), (10, false), (12, false), (13, false), (2999, false), (10, false), (3009, false), (12, false), (13, false), (2999, false), (12, false), (9, false), (13, false), (2999, false), (3009, false), (3004, false), (10, false), (12, false), (13, false), (2999, false), (10, false), (4, false), (12, false), (13, false), (2999, false), (10, false), (3004, false), (3009, false), (12, false), (13, false), (2999, false), (12, false), (9, false), (13, false), (2999, false), (9, false), (4, false), (12, false), (13, false), (2999, false)]), (12, [(0, true), (1, true), (2, true), (3, true), (4, true), (5, true), (6, true), (7, true), (8, true), (9, true), (10, true)])]) rfl tbQ_ok hC (fun c st K _ h => h) (by kernel_rfl) [] _ _ _ (by kernel_rfl) ?_
      generalize hL : lft Try.prog _ = L
      try unfold leafG
      generalize ho0 : @lK = zo0, ho1 : @lV = zo1, ho2 : @lI = zo2, ho3 : @lP = zo3, ho4 : @lN = zo4, ho5 : @leafL = zo5, ho6 : @leavesPre = zo6, ho7 : @hQ = zo7, ho8 : @sumAt = zo8
      generalize hA : Arith.std = A
      cbv
      subst hA hL ho0 ho1 ho2 ho3 ho4 ho5 ho6 ho7 ho8
      refine Need.mk (show 0 ≤ (k : Int) ∧ (k : Int) < (n : Int) by omega) fun _ => Need.mk (show 0 ≤ (k : Int) ∧ (k : Int) < (n : Int) by omega) fun _ => ?_
      repeat' (first | refine Both.mk ?_ ?_ | refine Need.mk (show k < n from hlt) fun _ => ?_)
      · exact ⟨⟨[0, 1, 2, 3, 4, 5, 6, 7], rfl, (by show List.Nodup [2, 3, 6, 7]; decide), (by repeat' (first | exact trivial | exact rfl | apply And.intro | exact (fun _ _ _ _ => Cell.le_refl _) | (intro i hi; rfl) | (intro i hi; exact absurd hi (Nat.not_lt_zero _)))), (by repeat' (first | exact trivial | exact rfl | apply And.intro | exact (fun _ _ _ _ => Cell.le_refl _) | (intro i hi; rfl) | (intro i hi; exact absurd hi (Nat.not_lt_zero _))))⟩, trivial⟩
      · exact ⟨⟨[0, 1, 2, 3, 4, 5, 7, 6], rfl, (by show List.Nodup [2, 3, 7, 6]; decide), (by repeat' (first | exact trivial | exact rfl | apply And.intro | exact (fun _ _ _ _ => Cell.le_refl _) | (intro i hi; rfl) | (intro i hi; exact absurd hi (Nat.not_lt_zero _)))), (by repeat' (first | exact trivial | exact rfl | apply And.intro | exact (fun _ _ _ _ => Cell.le_refl _) | (intro i hi; rfl) | (intro i hi; exact absurd hi (Nat.not_lt_zero _))))⟩, trivial⟩
      · exact ⟨⟨[0, 1, 2, 3, 4, 6, 5, 7], rfl, (by show List.Nodup [2, 3, 5, 7]; decide), (by repeat' (first | exact trivial | exact rfl | apply And.intro | exact (fun _ _ _ _ => Cell.le_refl _) | (intro i hi; rfl) | (intro i hi; exact absurd hi (Nat.not_lt_zero _)))), (by repeat' (first | exact trivial | exact rfl | apply And.intro | exact (fun _ _ _ _ => Cell.le_refl _) | (intro i hi; rfl) | (intro i hi; exact absurd hi (Nat.not_lt_zero _))))⟩, trivial⟩
      · exact ⟨⟨[0, 1, 2, 3, 4, 7, 5, 6], rfl, (by show List.Nodup [2, 3, 5, 6]; decide), (by repeat' (first | exact trivial | exact rfl | apply And.intro | exact (fun _ _ _ _ => Cell.le_refl _) | (intro i hi; rfl) | (intro i hi; exact absurd hi (Nat.not_lt_zero _)))), (by repeat' (first | exact trivial | exact rfl | apply And.intro | exact (fun _ _ _ _ => Cell.le_refl _) | (intro i hi; rfl) | (intro i hi; exact absurd hi (Nat.not_lt_zero _))))⟩, trivial⟩
      · exact ⟨⟨[0, 1, 2, 3, 4, 7, 5, 6], rfl, (by show List.Nodup [2, 3, 5, 6]; decide), (by repeat' (first | exact trivial | exact rfl | apply And.intro | exact (fun _ _ _ _ => Cell.le_refl _) | (intro i hi; rfl) | (intro i hi; exact absurd hi (Nat.not_lt_zero _)))), (by repeat' (first | exact trivial | exact rfl | apply And.intro | exact (fun _ _ _ _ => Cell.le_refl _) | (intro i hi; rfl) | (intro i hi; exact absurd hi (Nat.not_lt_zero _))))⟩, trivial⟩
      · exact ⟨⟨[0, 1, 2, 3, 4, 6, 7, 5], rfl, (by show List.Nodup [2, 3, 7, 5]; decide), (by repeat' (first | exact trivial | exact rfl | apply And.intro | exact (fun _ _ _ _ => Cell.le_refl _) | (intro i hi; rfl) | (intro i hi; exact absurd hi (Nat.not_lt_zero _)))), (by repeat' (first | exact trivial | exact rfl | apply And.intro | exact (fun _ _ _ _ => Cell.le_refl _) | (intro i hi; rfl) | (intro i hi; exact absurd hi (Nat.not_lt_zero _))))⟩, trivial⟩
      · exact ⟨⟨[0, 1, 2, 3, 4, 7, 6, 5], rfl, (by show List.Nodup [2, 3, 6, 5]; decide), (by repeat' (first | exact trivial | exact rfl | apply And.intro | exact (fun _ _ _ _ => Cell.le_refl _) | (intro i hi; rfl) | (intro i hi; exact absurd hi (Nat.not_lt_zero _)))), (by repeat' (first | exact trivial | exact rfl | apply And.intro | exact (fun _ _ _ _ => Cell.le_refl _) | (intro i hi; rfl) | (intro i hi; exact absurd hi (Nat.not_lt_zero _))))⟩, trivial⟩
      · exact ⟨⟨[0, 1, 2, 3, 4, 7, 6, 5], rfl, (by show List.Nodup [2, 3, 6, 5]; decide), (by repeat' (first | exact trivial | exact rfl | apply And.intro | exact (fun _ _ _ _ => Cell.le_refl _) | (intro i hi; rfl) | (intro i hi; exact absurd hi (Nat.not_lt_zero _)))), (by repeat' (first | exact trivial | exact rfl | apply And.intro | exact (fun _ _ _ _ => Cell.le_refl _) | (intro i hi; rfl) | (intro i hi; exact absurd hi (Nat.not_lt_zero _))))⟩, trivial⟩
      · exact ⟨⟨[0, 1, 2, 3, 5, 4, 6, 7], rfl, (by show List.Nodup [2, 3, 6, 7]; decide), (by repeat' (first | exact trivial | exact rfl | apply And.intro | exact (fun _ _ _ _ => Cell.le_refl _) | (intro i hi; rfl) | (intro i hi; exact absurd hi (Nat.not_lt_zero _)))), (by repeat' (first | exact trivial | exact rfl | apply And.intro | exact (fun _ _ _ _ => Cell.le_refl _) | (intro i hi; rfl) | (intro i hi; exact absurd hi (Nat.not_lt_zero _))))⟩, trivial⟩
      · exact ⟨⟨[0, 1, 2, 3, 5, 4, 7, 6], rfl, (by show List.Nodup [2, 3, 7, 6]; decide), (by repeat' (first | exact trivial | exact rfl | apply And.intro | exact (fun _ _ _ _ => Cell.le_refl _) | (intro i hi; rfl) | (intro i hi; exact absurd hi (Nat.not_lt_zero _)))), (by repeat' (first | exact trivial | exact rfl | apply And.intro | exact (fun _ _ _ _ => Cell.le_refl _) | (intro i hi; rfl) | (intro i hi; exact absurd hi (Nat.not_lt_zero _))))⟩, trivial⟩
      · exact ⟨⟨[0, 1, 2, 3, 6, 4, 5, 7], rfl, (by show List.Nodup [2, 3, 5, 7]; decide), (by repeat' (first | exact trivial | exact rfl | apply And.intro | exact (fun _ _ _ _ => Cell.le_refl _) | (intro i hi; rfl) | (intro i hi; exact absurd hi (Nat.not_lt_zero _)))), (by repeat' (first | exact trivial | exact rfl | apply And.intro | exact (fun _ _ _ _ => Cell.le_refl _) | (intro i hi; rfl) | (intro i hi; exact absurd hi (Nat.not_lt_zero _))))⟩, trivial⟩
      · exact ⟨⟨[0, 1, 2, 3, 7, 4, 5, 6], rfl, (by show List.Nodup [2, 3, 5, 6]; decide), (by repeat' (first | exact trivial | exact rfl | apply And.intro | exact (fun _ _ _ _ => Cell.le_refl _) | (intro i hi; rfl) | (intro i hi; exact absurd hi (Nat.not_lt_zero _)))), (by repeat' (first | exact trivial | exact rfl | apply And.intro | exact (fun _ _ _ _ => Cell.le_refl _) | (intro i hi; rfl) | (intro i hi; exact absurd hi (Nat.not_lt_zero _))))⟩, trivial⟩
      · exact ⟨⟨[0, 1, 2, 3, 6, 4, 7, 5], rfl, (by show List.Nodup [2, 3, 7, 5]; decide), (by repeat' (first | exact trivial | exact rfl | apply And.intro | exact (fun _ _ _ _ => Cell.le_refl _) | (intro i hi; rfl) | (intro i hi; exact absurd hi (Nat.not_lt_zero _)))), (by repeat' (first | exact trivial | exact rfl | apply And.intro | exact (fun _ _ _ _ => Cell.le_refl _) | (intro i hi; rfl) | (intro i hi; exact absurd hi (Nat.not_lt_zero _))))⟩, trivial⟩
      · exact ⟨⟨[0, 1, 2, 3, 7, 4, 6, 5], rfl, (by show List.Nodup [2, 3, 6, 5]; decide), (by repeat' (first | exact trivial | exact rfl | apply And.intro | exact (fun _ _ _ _ => Cell.le_refl _) | (intro i hi; rfl) | (intro i hi; exact absurd hi (Nat.not_lt_zero _)))), (by repeat' (first | exact trivial | exact rfl | apply And.intro | exact (fun _ _ _ _ => Cell.le_refl _) | (intro i hi; rfl) | (intro i hi; exact absurd hi (Nat.not_lt_zero _))))⟩, trivial⟩
      · exact ⟨⟨[0, 1, 2, 3, 5, 6, 4, 7], rfl, (by show List.Nodup [2, 3, 4, 7]; decide), (by repeat' (first | exact trivial | exact rfl | apply And.intro | exact (fun _ _ _ _ => Cell.le_refl _) | (intro i hi; rfl) | (intro i hi; exact absurd hi (Nat.not_lt_zero _)))), (by repeat' (first | exact trivial | exact rfl | apply And.intro | exact (fun _ _ _ _ => Cell.le_refl _) | (intro i hi; rfl) | (intro i hi; exact absurd hi (Nat.not_lt_zero _))))⟩, trivial⟩
      · exact ⟨⟨[0, 1, 2, 3, 5, 7, 4, 6], rfl, (by show List.Nodup [2, 3, 4, 6]; decide), (by repeat' (first | exact trivial | exact rfl | apply And.intro | exact (fun _ _ _ _ => Cell.le_refl _) | (intro i hi; rfl) | (intro i hi; exact absurd hi (Nat.not_lt_zero _)))), (by repeat' (first | exact trivial | exact rfl | apply And.intro | exact (fun _ _ _ _ => Cell.le_refl _) | (intro i hi; rfl) | (intro i hi; exact absurd hi (Nat.not_lt_zero _))))⟩, trivial⟩
      · exact ⟨⟨[0, 1, 2, 3, 5, 7, 4, 6], rfl, (by show List.Nodup [2, 3, 4, 6]; decide), (by repeat' (first | exact trivial | exact rfl | apply And.intro | exact (fun _ _ _ _ => Cell.le_refl _) | (intro i hi; rfl) | (intro i hi; exact absurd hi (Nat.not_lt_zero _)))), (by repeat' (first | exact trivial | exact rfl | apply And.intro | exact (fun _ _ _ _ => Cell.le_refl _) | (intro i hi; rfl) | (intro i hi; exact absurd hi (Nat.not_lt_zero _))))⟩, trivial⟩
      · exact ⟨⟨[0, 1, 2, 3, 6, 5, 4, 7], rfl, (by show List.Nodup [2, 3, 4, 7]; decide), (by repeat' (first | exact trivial | exact rfl | apply And.intro | exact (fun _ _ _ _ => Cell.le_refl _) | (intro i hi; rfl) | (intro i hi; exact absurd hi (Nat.not_lt_zero _)))), (by repeat' (first | exact trivial | exact rfl | apply And.intro | exact (fun _ _ _ _ => Cell.le_refl _) | (intro i hi; rfl) | (intro i hi; exact absurd hi (Nat.not_lt_zero _))))⟩, trivial⟩
      · exact ⟨⟨[0, 1, 2, 3, 7, 5, 4, 6], rfl, (by show List.Nodup [2, 3, 4, 6]; decide), (by repeat' (first | exact trivial | exact rfl | apply And.intro | exact (fun _ _ _ _ => Cell.le_refl _) | (intro i hi; rfl) | (intro i hi; exact absurd hi (Nat.not_lt_zero _)))), (by repeat' (first | exact trivial | exact rfl | apply And.intro | exact (fun _ _ _ _ => Cell.le_refl _) | (intro i hi; rfl) | (intro i hi; exact absurd hi (Nat.not_lt_zero _))))⟩, trivial⟩
      · exact ⟨⟨[0, 1, 2, 3, 6, 7, 4, 5], rfl, (by show List.Nodup [2, 3, 4, 5]; decide), (by repeat' (first | exact trivial | exact rfl | apply And.intro | exact (fun _ _ _ _ => Cell.le_refl _) | (intro i hi; rfl) | (intro i hi; exact absurd hi (Nat.not_lt_zero _)))), (by repeat' (first | exact trivial | exact rfl | apply And.intro | exact (fun _ _ _ _ => Cell.le_refl _) | (intro i hi; rfl) | (intro i hi; exact absurd hi (Nat.not_lt_zero _))))⟩, trivial⟩
      · exact ⟨⟨[0, 1, 2, 3, 6, 7, 4, 5], rfl, (by show List.Nodup [2, 3, 4, 5]; decide), (by repeat' (first | exact trivial | exact rfl | apply And.intro | exact (fun _ _ _ _ => Cell.le_refl _) | (intro i hi; rfl) | (intro i hi; exact absurd hi (Nat.not_lt_zero _)))), (by repeat' (first | exact trivial | exact rfl | apply And.intro | exact (fun _ _ _ _ => Cell.le_refl _) | (intro i hi; rfl) | (intro i hi; exact absurd hi (Nat.not_lt_zero _))))⟩, trivial⟩
      · exact ⟨⟨[0, 1, 2, 3, 7, 6, 4, 5], rfl, (by show List.Nodup [2, 3, 4, 5]; decide), (by repeat' (first | exact trivial | exact rfl | apply And.intro | exact (fun _ _ _ _ => Cell.le_refl _) | (intro i hi; rfl) | (intro i hi; exact absurd hi (Nat.not_lt_zero _)))), (by repeat' (first | exact trivial | exact rfl | apply And.intro | exact (fun _ _ _ _ => Cell.le_refl _) | (intro i hi; rfl) | (intro i hi; exact absurd hi (Nat.not_lt_zero _))))⟩, trivial⟩
      · exact ⟨⟨[0, 1, 2, 3, 5, 6, 7, 4], rfl, (by show List.Nodup [2, 3, 7, 4]; decide), (by repeat' (first | exact trivial | exact rfl | apply And.intro | exact (fun _ _ _ _ => Cell.le_refl _) | (intro i hi; rfl) | (intro i hi; exact absurd hi (Nat.not_lt_zero _)))), (by repeat' (first | exact trivial | exact rfl | apply And.intro | exact (fun _ _ _ _ => Cell.le_refl _) | (intro i hi; rfl) | (intro i hi; exact absurd hi (Nat.not_lt_zero _))))⟩, trivial⟩
      · exact ⟨⟨[0, 1, 2, 3, 5, 7, 6, 4], rfl, (by show List.Nodup [2, 3, 6, 4]; decide), (by repeat' (first | exact trivial | exact rfl | apply And.intro | exact (fun _ _ _ _ => Cell.le_refl _) | (intro i hi; rfl) | (intro i hi; exact absurd hi (Nat.not_lt_zero _)))), (by repeat' (first | exact trivial | exact rfl | apply And.intro | exact (fun _ _ _ _ => Cell.le_refl _) | (intro i hi; rfl) | (intro i hi; exact absurd hi (Nat.not_lt_zero _))))⟩, trivial⟩
      · exact ⟨⟨[0, 1, 2, 3, 5, 7, 6, 4], rfl, (by show List.Nodup [2, 3, 6, 4]; decide), (by repeat' (first | exact trivial | exact rfl | apply And.intro | exact (fun _ _ _ _ => Cell.le_refl _) | (intro i hi; rfl) | (intro i hi; exact absurd hi (Nat.not_lt_zero _)))), (by repeat' (first | exact trivial | exact rfl | apply And.intro | exact (fun _ _ _ _ => Cell.le_refl _) | (intro i hi; rfl) | (intro i hi; exact absurd hi (Nat.not_lt_zero _))))⟩, trivial⟩
      · exact ⟨⟨[0, 1, 2, 3, 6, 5, 7, 4], rfl, (by show List.Nodup [2, 3, 7, 4]; decide), (by repeat' (first | exact trivial | exact rfl | apply And.intro | exact (fun _ _ _ _ => Cell.le_refl _) | (intro i hi; rfl) | (intro i hi; exact absurd hi (Nat.not_lt_zero _)))), (by repeat' (first | exact trivial | exact rfl | apply And.intro | exact (fun _ _ _ _ => Cell.le_refl _) | (intro i hi; rfl) | (intro i hi; exact absurd hi (Nat.not_lt_zero _))))⟩, trivial⟩
      · exact ⟨⟨[0, 1, 2, 3, 7, 5, 6, 4], rfl, (by show List.Nodup [2, 3, 6, 4]; decide), (by repeat' (first | exact trivial | exact rfl | apply And.intro | exact (fun _ _ _ _ => Cell.le_refl _) | (intro i hi; rfl) | (intro i hi; exact absurd hi (Nat.not_lt_zero _)))), (by repeat' (first | exact trivial | exact rfl | apply And.intro | exact (fun _ _ _ _ => Cell.le_refl _) | (intro i hi; rfl) | (intro i hi; exact absurd hi (Nat.not_lt_zero _))))⟩, trivial⟩
      · exact ⟨⟨[0, 1, 2, 3, 6, 7, 5, 4], rfl, (by show List.Nodup [2, 3, 5, 4]; decide), (by repeat' (first | exact trivial | exact rfl | apply And.intro | exact (fun _ _ _ _ => Cell.le_refl _) | (intro i hi; rfl) | (intro i hi; exact absurd hi (Nat.not_lt_zero _)))), (by repeat' (first | exact trivial | exact rfl | apply And.intro | exact (fun _ _ _ _ => Cell.le_refl _) | (intro i hi; rfl) | (intro i hi; exact absurd hi (Nat.not_lt_zero _))))⟩, trivial⟩
      · exact ⟨⟨[0, 1, 2, 3, 6, 7, 5, 4], rfl, (by show List.Nodup [2, 3, 5, 4]; decide), (by repeat' (first | exact trivial | exact rfl | apply And.intro | exact (fun _ _ _ _ => Cell.le_refl _) | (intro i hi; rfl) | (intro i hi; exact absurd hi (Nat.not_lt_zero _)))), (by repeat' (first | exact trivial | exact rfl | apply And.intro | exact (fun _ _ _ _ => Cell.le_refl _) | (intro i hi; rfl) | (intro i hi; exact absurd hi (Nat.not_lt_zero _))))⟩, trivial⟩
      · exact ⟨⟨[0, 1, 2, 3, 7, 6, 5, 4], rfl, (by show List.Nodup [2, 3, 5, 4]; decide), (by repeat' (first | exact trivial | exact rfl | apply And.intro | exact (fun _ _ _ _ => Cell.le_refl _) | (intro i hi; rfl) | (intro i hi; exact absurd hi (Nat.not_lt_zero _)))), (by repeat' (first | exact trivial | exact rfl | apply And.intro | exact (fun _ _ _ _ => Cell.le_refl _) | (intro i hi; rfl) | (intro i hi; exact absurd hi (Nat.not_lt_zero _))))⟩, trivial⟩
    refine exec_ok (N := env (lft Try.prog 2) 0 .std tbQ [] [(6, [(9999, true), (0, true), (1, true), (2, true), (3, true), (5, true), (6, true), (7, true), (8, true), (3004, false), (3009, false), (3010, false), (11, false), (12, false), (13, false), (2999, false), (11, false), (10, false), (12, false), (13, false), (2999, false), (3010, false), (3009, false), (11, false), (12, false), (13, false), (2999, false), (11, false), (3009, false), (12, false), (13, false), (2999, false), (12, false), (9, false), (13, false), (2999, false), (11, false), (3009, false), (10, false), (12, false), (13, false), (2999, false), (10, false), (3009, false), (12, false), (13, false), (2999, false), (12, false), (9, false), (13, false), (2999, false), (3009, false), (3004, false), (3010, false), (11, false), (12, false), (13, false), (2999, false), (11, false), (10, false), (12, false), (13, false), (2999, false), (3010, false), (3004, false), (11, false), (12, false), (13, false), (2999, false), (11, false), (4, false), (12, false), (13, false), (2999, false), (11, false), (3004, false), (10, false), (12, false), (13, false), (2999, false), (10, false), (4, false), (12, false), (13, false), (2999, false), (3010, false), (3004, false), (3009, false), (11, false), (12, false), (13, false), (2999, false), (11, false), (3009, false), (12, false), (13, false), (2999, false), (12, false), (9, false), (13, false), (2999, false), (3009, false), (3004, false), (11, false), (12, false), (13, false), (2999, false), (11, false), (4, false), (12, false), (13, false), (2999, false), (11, false), (3004, false), (3009, false), (12, false), (13, false), (2999, false), (12, false), (9, false), (13, false), (2999, false), (9, false), (4, false), (12, false), (13, false), (2999, false), (11, false), (3004, false), (3009, false), (10, false), (12, false), (13, false), (2999, false), (10, false), (3009, false), (12, false), (13, false), (2999, false), (12, false), (9, false), (13, false), (2999, false), (3009, false), (3004, false), (10, false), (12, false), (13, false), (2999, false), (10, false), (4, false), (12, false), (13, false), (2999, false), (10, false), (3004, false), (3009, false), (12, false), (13, false), (2999, false), (12, false), (9, false), (13, false), (2999, false), (9, false), (4, false), (12, false), (13, false), (2999, false)]), (12, [(0, true), (1, true), (2, true), (3, true), (4, true), (5, true), (6, true), (7, true), (8, true), (9, true), (10, true)])]) rfl tbQ_ok hC (fun c st K _ h => h) (by kernel_rfl) [] _ _ _ (by kernel_rfl) ?_
    generalize hL : lft Try.prog _ = L
    try unfold leafG
    generalize ho0 : @lK = zo0, ho1 : @lV = zo1, ho2 : @lI = zo2, ho3 : @lP = zo3, ho4 : @lN = zo4, ho5 : @leafL = zo5, ho6 : @leavesPre = zo6, ho7 : @hQ = zo7, ho8 : @sumAt = zo8
    generalize hA : Arith.std = A
    cbv
    subst hA hL ho0 ho1 ho2 ho3 ho4 ho5 ho6 ho7 ho8
    refine Ife.mk (fun h => ?_) (fun h => ?_)
    · have h : ¬ lK L k = lK K k := by simpa using (show (!decide (lK L k = lK K k)) = true from h)
      have hD : E = false := by rw [← hE]; exact decide_eq_false (take_ne hkL hkK fun e => h e.1)
      subst hD
      exact ⟨[0, 1], ⟨rfl, by repeat' (first | exact trivial | exact rfl | apply And.intro | exact (fun _ _ _ _ => Cell.le_refl _) | (intro i hi; rfl) | (intro i hi; exact absurd hi (Nat.not_lt_zero _))), by decide, rfl, by repeat' (first | exact trivial | exact rfl | apply And.intro | exact (fun _ _ _ _ => Cell.le_refl _) | (intro i hi; rfl) | (intro i hi; exact absurd hi (Nat.not_lt_zero _)))⟩⟩
    have q1 : lK L k = lK K k := by simpa using (show (!decide (lK L k = lK K k)) = false from h)
    refine Ife.mk (fun h => ?_) (fun h => ?_)
    · have h : ¬ lV L k = lV K k := by simpa using (show (!decide (lV L k = lV K k)) = true from h)
      have hD : E = false := by rw [← hE]; exact decide_eq_false (take_ne hkL hkK fun e => h e.2.1)
      subst hD
      exact ⟨[0, 1], ⟨rfl, by repeat' (first | exact trivial | exact rfl | apply And.intro | exact (fun _ _ _ _ => Cell.le_refl _) | (intro i hi; rfl) | (intro i hi; exact absurd hi (Nat.not_lt_zero _))), by decide, rfl, by repeat' (first | exact trivial | exact rfl | apply And.intro | exact (fun _ _ _ _ => Cell.le_refl _) | (intro i hi; rfl) | (intro i hi; exact absurd hi (Nat.not_lt_zero _)))⟩⟩
    have q2 : lV L k = lV K k := by simpa using (show (!decide (lV L k = lV K k)) = false from h)
    refine Ife.mk (fun h => ?_) (fun h => ?_)
    · have h : ¬ lI L k = lI K k := by simpa using (show (!decide (lI L k = lI K k)) = true from h)
      have hD : E = false := by rw [← hE]; exact decide_eq_false (take_ne hkL hkK fun e => h e.2.2.1)
      subst hD
      exact ⟨[0, 1], ⟨rfl, by repeat' (first | exact trivial | exact rfl | apply And.intro | exact (fun _ _ _ _ => Cell.le_refl _) | (intro i hi; rfl) | (intro i hi; exact absurd hi (Nat.not_lt_zero _))), by decide, rfl, by repeat' (first | exact trivial | exact rfl | apply And.intro | exact (fun _ _ _ _ => Cell.le_refl _) | (intro i hi; rfl) | (intro i hi; exact absurd hi (Nat.not_lt_zero _)))⟩⟩
    have q3 : lI L k = lI K k := by simpa using (show (!decide (lI L k = lI K k)) = false from h)
    refine Ife.mk (fun h => ?_) (fun h => ?_)
    · have h : ¬ ((lN L k : Int) = (lN K k : Int)) := by simpa using (show (!decide ((lN L k : Int) = (lN K k : Int))) = true from h)
      have hD : E = false := by rw [← hE]; exact decide_eq_false (take_ne hkL hkK fun e => h (by unfold lN; rw [e.2.2.2]))
      subst hD
      exact ⟨[0, 1], ⟨rfl, by repeat' (first | exact trivial | exact rfl | apply And.intro | exact (fun _ _ _ _ => Cell.le_refl _) | (intro i hi; rfl) | (intro i hi; exact absurd hi (Nat.not_lt_zero _))), by decide, rfl, by repeat' (first | exact trivial | exact rfl | apply And.intro | exact (fun _ _ _ _ => Cell.le_refl _) | (intro i hi; rfl) | (intro i hi; exact absurd hi (Nat.not_lt_zero _)))⟩⟩
    have q4 : ((lN L k : Int) = (lN K k : Int)) := by simpa using (show (!decide ((lN L k : Int) = (lN K k : Int))) = false from h)
    have q5 : lN L k = lN K k := by omega
    have o1 := lP_ok hok (i := k)
    have o2 := lP_ok hok' (i := k)
    have o3 : (lP L k).length = lN L k := rfl
    have o4 : (lP K k).length = lN K k := rfl
    have o5 := lN_le hok (i := k)
    show Runs Try.prog 2 (.loop _) _ _
    refine loop_ruleL (N := env (lft Try.prog 2) 0 .std tbQ [] [(6, [(9999, true), (0, true), (1, true), (2, true), (3, true), (5, true), (6, true), (7, true), (8, true), (3004, false), (3009, false), (3010, false), (11, false), (12, false), (13, false), (2999, false), (11, false), (10, false), (12, false), (13, false), (2999, false), (3010, false), (3009, false), (11, false), (12, false), (13, false), (2999, false), (11, false), (3009, false), (12, false), (13, false), (2999, false), (12, false), (9, false), (13, false), (2999, false), (11, false), (3009, false), (10, false), (12, false), (13, false), (2999, false), (10, false), (3009, false), (12, false), (13, false), (2999, false), (12, false), (9, false), (13, false), (2999, false), (3009, false), (3004, false), (3010, false), (11, false), (12, false), (13, false), (2999, false), (11, false), (10, false), (12, false), (13, false), (2999, false), (3010, false), (3004, false), (11, false), (12, false), (13, false), (2999, false), (11, false), (4, false), (12, false), (13, false), (2999, false), (11, false), (3004, false), (10, false), (12, false), (13, false), (2999, false), (10, false), (4, false), (12, false), (13, false), (2999, false), (3010, false), (3004, false), (3009, false), (11, false), (12, false), (13, false), (2999, false), (11, false), (3009, false), (12, false), (13, false), (2999, false), (12, false), (9, false), (13, false), (2999, false), (3009, false), (3004, false), (11, false), (12, false), (13, false), (2999, false), (11, false), (4, false), (12, false), (13, false), (2999, false), (11, false), (3004, false), (3009, false), (12, false), (13, false), (2999, false), (12, false), (9, false), (13, false), (2999, false), (9, false), (4, false), (12, false), (13, false), (2999, false), (11, false), (3004, false), (3009, false), (10, false), (12, false), (13, false), (2999, false), (10, false), (3009, false), (12, false), (13, false), (2999, false), (12, false), (9, false), (13, false), (2999, false), (3009, false), (3004, false), (10, false), (12, false), (13, false), (2999, false), (10, false), (4, false), (12, false), (13, false), (2999, false), (10, false), (3004, false), (3009, false), (12, false), (13, false), (2999, false), (12, false), (9, false), (13, false), (2999, false), (9, false), (4, false), (12, false), (13, false), (2999, false)]), (12, [(0, true), (1, true), (2, true), (3, true), (4, true), (5, true), (6, true), (7, true), (8, true), (9, true), (10, true)])]) rfl tbQ_ok hC (fun c st K _ h => h) (by kernel_rfl) [] (X := LIx (lN L k) (sumAt (lP L k) (lP K k)))
      (S := fun x => ⟨[.any, .any, .c (.ptr 2 0), .c (.ptr 3 0), .any, .c (.int .i64 (k : Int)), .c (.ptr 6 0), .c (.ptr 7 0), .c (.int .i64 x.i)] ++ List.replicate 77 .any, [.data fr 118 4 n (leafG false L), .data fr' 118 4 n (leafG false K), .cells 58 [.int .i64 c, .row 0], .cells 58 [.int .i64 c, .row 1], .elems 49 32 (lN L k) (fun i => h32 (hQ (lP L k) i)), .elems 49 32 (lN K k) (fun i => h32 (hQ (lP K k) i)), .cells 118 [.str (lK L k), .str (lV L k), .int .i64 (lI L k), .row 4], .cells 118 [.str (lK K k), .str (lV K k), .int .i64 (lI K k), .row 5]]⟩) (μ := fun x => lN L k - x.i.toNat) ⟨0, by omega, by omega, fun k hk => absurd hk (Nat.not_lt_zero _)⟩ (by kernel_rfl) [0, 1, 2, 3, 4, 5, 6, 7] ?_ ?_
    · refine ⟨rfl, by show List.Nodup [2, 3, 6, 7]; decide, ?_, ?_⟩ <;> repeat' (first | exact trivial | exact rfl | apply And.intro | exact (fun _ _ _ _ => Cell.le_refl _) | (intro i hi; rfl) | (intro i hi; exact absurd hi (Nat.not_lt_zero _)))
    rintro ⟨j, hj0, hjn, hP⟩
    generalize hL : lft Try.prog _ = L
    try dsimp only
    try unfold leafG
    generalize ho0 : @lK = zo0, ho1 : @lV = zo1, ho2 : @lI = zo2, ho3 : @lP = zo3, ho4 : @lN = zo4, ho5 : @leafL = zo5, ho6 : @leavesPre = zo6, ho7 : @hQ = zo7, ho8 : @sumAt = zo8
    generalize hA : Arith.std = A
    cbv
    subst hA hL ho0 ho1 ho2 ho3 ho4 ho5 ho6 ho7 ho8
    replace hj0 : 0 ≤ j := hj0
    replace hjn : j ≤ @Nat.cast Int instNatCastInt (lN L k) := hjn
    replace hP : ∀ i, i < j.toNat → sumAt (lP L k) (lP K k) i = true := hP
    refine Ife.mk (fun hlt2 => ?_) (fun hlt2 => ?_)
    · replace hlt2 : j < @Nat.cast Int instNatCastInt (lN L k) := of_decide_eq_true (p := j < (lN L k : Int)) hlt2
      refine Need.mk (show 0 ≤ j ∧ j < (lN L k : Int) by omega) fun _ => Need.mk (show j.toNat < lN L k by omega) fun _ => Need.mk (show 0 ≤ j ∧ j < (lN K k : Int) by omega) fun _ => Need.mk (show j.toNat < lN K k by omega) fun _ => ?_
      have he : e32 (hQ (lP L k) j.toNat) (hQ (lP K k) j.toNat) = sumAt (lP L k) (lP K k) j.toNat := e32_sum o1 o2 (i := j.toNat) (by omega) (by omega)
      refine Ife.mk (fun h => ?_) (fun h => ?_)
      · have h : (!e32 (hQ (lP L k) j.toNat) (hQ (lP K k) j.toNat)) = true := h
        rw [he] at h
        have hD : E = false := by rw [← hE]; exact decide_eq_false (take_ne hkL hkK fun e => (list_ne [] (i := j.toNat) (by simpa [sumAt] using h)) e.2.2.2)
        subst hD
        exact ⟨[0, 1], ⟨rfl, by repeat' (first | exact trivial | exact rfl | apply And.intro | exact (fun _ _ _ _ => Cell.le_refl _) | (intro i hi; rfl) | (intro i hi; exact absurd hi (Nat.not_lt_zero _))), by decide, rfl, by repeat' (first | exact trivial | exact rfl | apply And.intro | exact (fun _ _ _ _ => Cell.le_refl _) | (intro i hi; rfl) | (intro i hi; exact absurd hi (Nat.not_lt_zero _)))⟩⟩
      · have h : (!e32 (hQ (lP L k) j.toNat) (hQ (lP K k) j.toNat)) = false := h
        rw [he] at h
        refine Need.mk (by show fitStd .i64 (j + 1); unfold fitStd; omega) fun _ => ?_
        refine ⟨⟨j + 1, by omega, by omega, lix_next hj0 hP (by simpa using h)⟩, [0, 1, 2, 3, 4, 5, 6, 7], (by show lN L k - (j + 1).toNat < lN L k - j.toNat; omega), ?_⟩
        refine ⟨rfl, by show List.Nodup [2, 3, 6, 7]; decide, ?_, ?_⟩ <;> repeat' (first | exact trivial | exact rfl | apply And.intro | exact (fun _ _ _ _ => Cell.le_refl _) | (intro i hi; rfl) | (intro i hi; exact absurd hi (Nat.not_lt_zero _)))
    · replace hlt2 : ¬ j < @Nat.cast Int instNatCastInt (lN L k) := of_decide_eq_false (p := j < (lN L k : Int)) hlt2
      have q6 : lP L k = lP K k := list_eq [] (by omega) (j := j.toNat) (by omega) fun i hi => by have := hP i hi; simpa [sumAt] using this
      refine exec_ok (N := env (lft Try.prog 2) 0 .std tbQ [] [(6, [(9999, true), (0, true), (1, true), (2, true), (3, true), (5, true), (6, true), (7, true), (8, true), (3004, false), (3009, false), (3010, false), (11, false), (12, false), (13, false), (2999, false), (11, false), (10, false), (12, false), (13, false), (2999, false), (3010, false), (3009, false), (11, false), (12, false), (13, false), (2999, false), (11, false), (3009, false), (12, false), (13, false), (2999, false), (12, false), (9, false), (13, false), (2999, false), (11, false), (3009, false), (10, false), (12, false), (13, false), (2999, false), (10, false), (3009, false), (12, false), (13, false), (2999, false), (12, false), (9, false), (13, false), (2999, false), (3009, false), (3004, false), (3010, false), (11, false), (12, false), (13, false), (2999, false), (11, false), (10, false), (12, false), (13, false), (2999, false), (3010, false), (3004, false), (11, false), (12, false), (13, false), (2999, false), (11, false), (4, false), (12, false), (13, false), (2999, false), (11, false), (3004, false), (10, false), (12, false), (13, false), (2999, false), (10, false), (4, false), (12, false), (13, false), (2999, false), (3010, false), (3004, false), (3009, false), (11, false), (12, false), (13, false), (2999, false), (11, false), (3009, false), (12, false), (13, false), (2999, false), (12, false), (9, false), (13, false), (2999, false), (3009, false), (3004, false), (11, false), (12, false), (13, false), (2999, false), (11, false), (4, false), (12, false), (13, false), (2999, false), (11, false), (3004, false), (3009, false), (12, false), (13, false), (2999, false), (12, false), (9, false), (13, false), (2999, false), (9, false), (4, false), (12, false), (13, false), (2999, false), (11, false), (3004, false), (3009, false), (10, false), (12, false), (13, false), (2999, false), (10, false), (3009, false), (12, false), (13, false), (2999, false), (12, false), (9, false), (13, false), (2999, false), (3009, false), (3004, false), (10, false), (12, false), (13, false), (2999, false), (10, false), (4, false), (12, false), (13, false), (2999, false), (10, false), (3004, false), (3009, false), (12, false), (13, false), (2999, false), (12, false), (9, false), (13, false), (2999, false), (9, false), (4, false), (12, false), (13, false), (2999, false)]), (12, [(0, true), (1, true), (2, true), (3, true), (4, true), (5, true), (6, true), (7, true), (8, true), (9, true), (10, true)])]) rfl tbQ_ok hC (fun c st K _ h => h) (by kernel_rfl) [] _ _ _ (by kernel_rfl) ?_
      generalize hL : lft Try.prog _ = L
      try unfold leafG
      generalize ho0 : @lK = zo0, ho1 : @lV = zo1, ho2 : @lI = zo2, ho3 : @lP = zo3, ho4 : @lN = zo4, ho5 : @leafL = zo5, ho6 : @leavesPre = zo6, ho7 : @hQ = zo7, ho8 : @sumAt = zo8
      generalize hA : Arith.std = A
      cbv
      subst hA hL ho0 ho1 ho2 ho3 ho4 ho5 ho6 ho7 ho8
      refine Need.mk (by show fitStd .i64 ((k : Int) + 1); unfold fitStd; omega) fun _ => ?_
      refine ⟨⟨(k : Int) + 1, k + 1, by omega, by omega, take_eq hkL hkK htk q1 q2 q3 q6⟩, [0, 1, 2, 3], (by show n - (k + 1) < n - k; omega), ?_⟩
      refine ⟨rfl, by show List.Nodup [2, 3]; decide, ?_, ?_⟩ <;> repeat' (first | exact trivial | exact rfl | apply And.intro | exact (fun _ _ _ _ => Cell.le_refl _) | (intro i hi; rfl) | (intro i hi; exact absurd hi (Nat.not_lt_zero _)))

end Go.Proofs.Ythomoliklfmnkaa.Vx
end

section
/- Ranges of numbers: Good, Count, by the walker. -/
namespace Go.Proofs.Ythomoliklfmnkaa.Vx
open Go.RowKit Span
set_option linter.unusedVariables false
set_option linter.unusedSimpArgs false
def rgOf : List CV → Rg
  | [.int .i64 a, .int .i64 b] => (a, b)
  | _ => (0, 0)
/-- Numbers, as cells. -/
def iA (l : List Int) (i : Nat) : Int := l.getD i 0
def inGP (zp0 : type_of% @iA) (l : List Int) (i : Nat) : List CV := [.int .i64 (zp0 l i)]
@[reducible] def inG := inGP iA
def iOf : List CV → Int
  | [.int .i64 a] => a
  | _ => 0
def iL (n : Nat) (get : Nat → List CV) : List Int := (List.range n).map fun i => iOf (get i)
def InAt (n : Nat) (get : Nat → List CV) : Prop := ∀ i, i < n → ∃ a, get i = [.int .i64 a]
theorem iL_len {n : Nat} {get : Nat → List CV} : (iL n get).length = n := by simp [iL]
theorem InAt.eq {n : Nat} {get : Nat → List CV} (h : InAt n get) {i : Nat} (hi : i < n) : get i = inG (iL n get) i := by
  obtain ⟨a, e⟩ := h i hi
  unfold inG inGP iA
  rw [show (iL n get).getD i 0 = iOf (get i) by simp [iL, List.getD, List.getElem?_map, List.getElem?_range hi], e]
  rfl
theorem InAt.same {n : Nat} {get : Nat → List CV} {ty : Nat} (h : InAt n get) : hSame [.elems ty 1 n get] [.elems ty 1 n (inG (iL n get))] := ⟨⟨rfl, rfl, rfl, fun i hi => h.eq hi⟩, trivial⟩
theorem inAt_inG (n : Nat) (l : List Int) : InAt n (inG l) := fun i _ => ⟨_, rfl⟩
theorem iL_inG (l : List Int) : iL l.length (inG l) = l := by
  apply List.ext_getElem?
  intro i
  by_cases hi : i < l.length
  · simp [iL, inG, inGP, iOf, iA, List.getElem?_range hi, List.getD, hi]
  · rw [List.getElem?_eq_none (by simp [iL]; omega), List.getElem?_eq_none (by omega)]
theorem inG_push (l : List Int) (a : Int) (i : Nat) (h : i < l.length + 1) : pushG l.length (inG l) [.int .i64 a] i = inG (l ++ [a]) i := by
  unfold pushG inG inGP iA
  by_cases hi : i < l.length
  · rw [show Nat.blt i l.length = true by simpa [Nat.blt_eq] using hi]
    simp [List.getD, List.getElem?_append_left hi]
  · rw [show Nat.blt i l.length = false by rw [Bool.eq_false_iff]; intro h2; exact hi (by simpa [Nat.blt_eq] using h2)]
    obtain rfl : i = l.length := by omega
    simp [List.getD]
def inPre (ty one n : Nat) (get : Nat → List CV) : Prop := ty = 3 ∧ one = 1 ∧ InAt n get ∧ n ≤ 1000000






end Go.Proofs.Ythomoliklfmnkaa.Vx
end

section
/- Lists of numbers compared (ligkeep.Ints), by the walker. -/
namespace Go.Proofs.Ythomoliklfmnkaa.Vx
open Go.RowKit Span
set_option linter.unusedVariables false
set_option linter.unusedSimpArgs false
def tbH : Tbl where
  T :=
    (3, ⟨1, false, [.int .i64 (0)], .int .i64, 8⟩) ::
    (4, ⟨1, false, [.ff], .bool, 1⟩) ::
    (39, ⟨1, false, [.val (.slice none 0 0)], .slice 3, 24⟩) ::
    (9, ⟨1, false, [.str []], .str, 16⟩) ::
    []
  F :=
    []

theorem tbH_ok : tbH.Ok Try.prog where
  T :=
    TblOk.cons (by kernel_rfl) <|
    TblOk.cons (by kernel_rfl) <|
    TblOk.cons (by kernel_rfl) <|
    TblOk.cons (by kernel_rfl) <|
    TblOk.nil _
  F :=
    FlatsOk.nil _

structure LEi (L K : List Int) (n : Nat) where
  i : Int
  h0 : 0 ≤ i
  h1 : i ≤ (n : Int)
  h2 : ∀ k, k < i.toNat → iA L k = iA K k
theorem in_ext {L K : List Int} (hl : L.length = K.length) (h : ∀ k, k < L.length → iA L k = iA K k) : L = K := by
  apply List.ext_getElem hl
  intro i h1 h2
  have := h i h1
  unfold iA at this
  simpa [List.getD, h1, h2] using this
def sEqI : SpecF
  | [.c (.row 0), .c (.row 1)], [.elems ty one n get, .elems ty' one' n' get'] => some (inPre ty one n get ∧ inPre ty' one' n' get', .c (.bool (decide (iL n get = iL n' get'))), [.dead, .dead])
  | _, _ => none

set_option maxRecDepth 100000 in
set_option maxHeartbeats 4000000 in
theorem eqIP : Fn Try.prog 19 [] [(3, 1), (3, 1)] sEqI := by
  have hC : CtsOk Try.prog [] := CtsOk.nil _
  refine Fn.of (E := tbH) [] 0 [(6, [(0, true), (1, true), (2, true), (3, true), (4, true), (5, true), (6, true), (7, true), (8, true)])] tbH_ok hC (by kernel_rfl) Try.func19 rfl rfl rfl (by kernel_rfl) (by kernel_rfl) 2 5 1 ?_ ?_
  · intro args h pre r h' hs
    unfold sEqI at hs
    split at hs
    · cases hs; exact ⟨rfl, rfl, Nat.le_of_ble_eq_true rfl⟩
    · cases hs
  · intro args h pre r h' hs hp
    unfold sEqI at hs
    split at hs
    rotate_left
    · cases hs
    rename_i ty one n get ty' one' n' get'
    cases hs
    obtain ⟨⟨rfl, rfl, hst, hm⟩, ⟨rfl, rfl, hst', hm'⟩⟩ := hp
    refine ⟨[.elems 3 1 n (inG (iL n get)), .elems 3 1 n' (inG (iL n' get'))], ⟨hst.same.1, hst'.same.1, trivial⟩, ?_⟩
    have hL : (iL n get).length = n := iL_len
    have hK : (iL n' get').length = n' := iL_len
    generalize iL n get = L at hL ⊢
    generalize iL n' get' = K at hK ⊢
    generalize hL : lft Try.prog _ = L
    try unfold inG
    generalize ho0 : @iL = zo0, ho1 : @iA = zo1, ho2 : @inPre = zo2
    generalize hA : Arith.std = A
    cbv
    subst hA hL ho0 ho1 ho2
    refine Ife.mk (fun h => ?_) (fun h => ?_)
    · have h : ¬ ((n : Int) = (n' : Int)) := by simpa using (show (!decide ((n : Int) = (n' : Int))) = true from h)
      rw [show decide (L = K) = false from decide_eq_false fun e => h (by rw [← hL, ← hK, e])]
      exact ⟨[0, 1], ⟨rfl, rfl, by decide, rfl, by repeat' (first | exact trivial | exact rfl | apply And.intro)⟩⟩
    have h : ((n : Int) = (n' : Int)) := by simpa using (show (!decide ((n : Int) = (n' : Int))) = false from h)
    have hnn : n = n' := by omega
    subst hnn
    clear h
    show Runs Try.prog 2 (.loop _) _ _
    refine loop_ruleR (N := env (lft Try.prog 2) 0 .std tbH [] [(6, [(0, true), (1, true), (2, true), (3, true), (4, true), (5, true), (6, true), (7, true), (8, true)])]) rfl tbH_ok hC (fun c st K _ h => h) (by kernel_rfl) [] (X := LEi L K n)
      (S := fun x => ⟨[.c (.row 0), .c (.row 1), .any, .any, .any, .c (.int .i64 x.i)] ++ List.replicate 20 .any, [.elems 3 1 n (inG L), .elems 3 1 n (inG K)]⟩) (μ := fun x => n - x.i.toNat) ⟨0, by omega, by omega, fun k hk => absurd hk (by show ¬ k < (0 : Int).toNat; omega)⟩ (by kernel_rfl) [0, 1] ?_ ?_
    · refine ⟨rfl, by decide, ?_, ?_⟩ <;> repeat' (first | exact trivial | exact rfl | apply And.intro)
    rintro ⟨i, hi0, hin, hall⟩
    generalize hL : lft Try.prog _ = L
    try dsimp only
    try unfold inG
    generalize ho0 : @iL = zo0, ho1 : @iA = zo1, ho2 : @inPre = zo2
    generalize hA : Arith.std = A
    cbv
    subst hA hL ho0 ho1 ho2
    replace hall : ∀ k, k < i.toNat → iA L k = iA K k := hall
    replace hi0 : 0 ≤ i := hi0
    replace hin : i ≤ @Nat.cast Int instNatCastInt n := hin
    refine Ife.mk (fun hlt => ?_) (fun hlt => ?_)
    · replace hlt : i < @Nat.cast Int instNatCastInt n := of_decide_eq_true (p := i < (n : Int)) hlt
      repeat refine Need.mk (by first | exact trivial | (simp only [Arith.std, fitStd]; omega) | (simp [Arith.std, fitStd]; omega)) fun _ => ?_
      refine Ife.mk (fun h => ?_) (fun h => ?_)
      · have h : ¬ iA L i.toNat = iA K i.toNat := by simpa using (show (!decide (iA L i.toNat = iA K i.toNat)) = true from h)
        rw [show decide (L = K) = false from decide_eq_false fun e => h (by rw [e])]
        exact ⟨[0, 1], ⟨rfl, rfl, by decide, rfl, by repeat' (first | exact trivial | exact rfl | apply And.intro)⟩⟩
      have h1 : iA L i.toNat = iA K i.toNat := by simpa using (show (!decide (iA L i.toNat = iA K i.toNat)) = false from h)
      repeat refine Need.mk (by first | exact trivial | (simp only [Arith.std, fitStd]; omega) | (simp [Arith.std, fitStd]; omega)) fun _ => ?_
      refine ⟨⟨i + 1, by omega, by omega, ?h2⟩, [0, 1], (by show n - (i + 1).toNat < n - i.toNat; omega), ?st⟩
      case st => refine ⟨rfl, by decide, ?_, ?_⟩ <;> repeat' (first | exact trivial | exact rfl | apply And.intro)
      case h2 =>
        intro k hk
        by_cases hk2 : k = i.toNat
        · rw [hk2]; exact h1
        · exact hall k (by omega)
    · replace hlt : ¬ i < @Nat.cast Int instNatCastInt n := of_decide_eq_false (p := i < (n : Int)) hlt
      rw [show decide (L = K) = true from decide_eq_true (in_ext (by omega) fun k hk => hall k (by omega))]
      exact ⟨[0, 1], ⟨rfl, rfl, by decide, rfl, by repeat' (first | exact trivial | exact rfl | apply And.intro)⟩⟩

end Go.Proofs.Ythomoliklfmnkaa.Vx
end
