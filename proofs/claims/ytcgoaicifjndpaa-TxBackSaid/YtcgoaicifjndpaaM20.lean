/- The table of types that the walker is told. -/
import Derived.Test.YtcgoaicifjndpaaM11
import Derived.Test.YtcgoaicifjndpaaVxFlat
import Derived.Test.YtcgoaicifjndpaaRows
import Derived.Test.YtcgoaicifjndpaaM19
import Derived.Test.YtcgoaicifjndpaaM15
section
namespace Go.Proofs.Ytcgoaicifjndpaa.Vx
open Go.RowKit

def tb : Tbl where
  T :=
    (3, ⟨1, false, [.int .i64 (0)], .int .i64, 8⟩) ::
    (4, ⟨1, false, [.ff], .bool, 1⟩) ::
    (9, ⟨1, false, [.str []], .str, 16⟩) ::
    (5, ⟨1, false, [.int .u8 (0)], .int .u8, 1⟩) ::
    (194, ⟨1, false, [.int .u64 (0)], .int .u64, 8⟩) ::
    (188, ⟨1, false, [.val (.slice none 0 0)], .slice 5, 24⟩) ::
    (50, ⟨1, false, [.int .i64 (0)], .int .i64, 8⟩) ::
    (67, ⟨2, true, [.str [], .int .i64 (0)], .struct [(0, (1, false)), (1, (1, false))], 24⟩) ::
    (69, ⟨8, true, [.str [], .int .i64 (0), .str [], .int .i64 (0), .int .i64 (0), .str [], .int .i64 (0), .int .i64 (0)], .struct [(0, (2, true)), (2, (2, true)), (4, (1, false)), (5, (1, false)), (6, (1, false)), (7, (1, false))], 88⟩) ::
    (196, ⟨3, true, [.str [], .int .i64 (0), .int .i64 (0)], .struct [(0, (1, false)), (1, (1, false)), (2, (1, false))], 32⟩) ::
    (190, ⟨2, true, [.val (.slice none 0 0), .ff], .struct [(0, (1, false)), (1, (1, false))], 32⟩) ::
    (166, ⟨3, true, [.str [], .int .i64 (0), .int .i64 (0)], .struct [(0, (1, false)), (1, (1, false)), (2, (1, false))], 32⟩) ::
    (220, ⟨4, true, [.str [], .int .i64 (0), .str [], .int .i64 (0)], .array 2 67, 48⟩) ::
    []
  F :=
    (67, [1, 0]) ::
    (69, [1, 0, 1, 0, 0, 1, 0, 0]) ::
    []

theorem tb_ok : tb.Ok Try.prog where
  T :=
    TblOk.cons (by kernel_rfl) <|
    TblOk.cons (by kernel_rfl) <|
    TblOk.cons (by kernel_rfl) <|
    TblOk.cons (by kernel_rfl) <|
    TblOk.cons (by kernel_rfl) <|
    TblOk.cons (by kernel_rfl) <|
    TblOk.cons (by kernel_rfl) <|
    TblOk.cons (by kernel_rfl) <|
    TblOk.cons (by kernel_rfl) <|
    TblOk.cons (by kernel_rfl) <|
    TblOk.cons (by kernel_rfl) <|
    TblOk.cons (by kernel_rfl) <|
    TblOk.cons (by kernel_rfl) <|
    TblOk.nil _
  F :=
    FlatsOk.cons (FlatOk.of (D := .struct (Try.prog.fieldsOf 67)) 6 (by decide) (by kernel_rfl) (by kernel_rfl) rfl (by kernel_rfl)) <|
    FlatsOk.cons (FlatOk.of (D := .struct (Try.prog.fieldsOf 69)) 6 (by decide) (by kernel_rfl) (by kernel_rfl) rfl (by kernel_rfl)) <|
    FlatsOk.nil _

end Go.Proofs.Ytcgoaicifjndpaa.Vx
end

section
/- The document's comparison of proofs, by the walker. -/
namespace Go.Proofs.Ytcgoaicifjndpaa.Vx
open Go.RowKit
set_option linter.unusedVariables false
set_option linter.unusedSimpArgs false
/-- The first leaves are alike. -/
structure LSpr (L K : List PLeaf) (n : Nat) where
  i : Int
  k : Nat
  hk : i = (k : Int)
  h1 : k ≤ n
  h2 : L.take k = K.take k
theorem leaf_split {L : List PLeaf} {k : Nat} (h : k < L.length) : L[k] = ⟨lK L k, lV L k, lI L k, lP L k⟩ := by
  have e : L.getD k .none = L[k] := by simp [List.getD, h]
  unfold lK lV lI lP
  rw [e]
theorem take_ne {L K : List PLeaf} {k : Nat} (h : k < L.length) (h' : k < K.length) (hn : ¬ (lK L k = lK K k ∧ lV L k = lV K k ∧ lI L k = lI K k ∧ lP L k = lP K k)) : ¬ L = K := fun e => by
  subst e
  exact hn ⟨rfl, rfl, rfl, rfl⟩
theorem take_eq {L K : List PLeaf} {k : Nat} (h : k < L.length) (h' : k < K.length) (he : L.take k = K.take k) (h1 : lK L k = lK K k) (h2 : lV L k = lV K k) (h3 : lI L k = lI K k) (h4 : lP L k = lP K k) : L.take (k + 1) = K.take (k + 1) := by
  rw [List.take_add_one, List.take_add_one, he, List.getElem?_eq_getElem h, List.getElem?_eq_getElem h', leaf_split h, leaf_split h', h1, h2, h3, h4]
/-- A byte of a sum. -/
def hQ (p : List (List Int)) (i j : Nat) : Int := (p.getD i []).getD j 0
set_option maxRecDepth 100000 in
set_option maxHeartbeats 16000000 in
theorem rsamePrP : Fn Try.prog 131 [] [(140, 204), (140, 204)] sSamePr := by
  have hC : CtsOk Try.prog [] := CtsOk.nil _
  refine Fn.of (E := tbQ) [] 0 [(6, [(9999, true), (0, true), (1, true), (2, true), (3, true), (5, true), (6, true), (7, true), (8, true), (3004, false), (3009, false), (3010, false), (11, false), (12, false), (13, false), (2999, false), (11, false), (10, false), (12, false), (13, false), (2999, false), (3010, false), (3009, false), (11, false), (12, false), (13, false), (2999, false), (11, false), (3009, false), (12, false), (13, false), (2999, false), (12, false), (9, false), (13, false), (2999, false), (11, false), (3009, false), (10, false), (12, false), (13, false), (2999, false), (10, false), (3009, false), (12, false), (13, false), (2999, false), (12, false), (9, false), (13, false), (2999, false), (3009, false), (3004, false), (3010, false), (11, false), (12, false), (13, false), (2999, false), (11, false), (10, false), (12, false), (13, false), (2999, false), (3010, false), (3004, false), (11, false), (12, false), (13, false), (2999, false), (11, false), (4, false), (12, false), (13, false), (2999, false), (11, false), (3004, false), (10, false), (12, false), (13, false), (2999, false), (10, false), (4, false), (12, false), (13, false), (2999, false), (3010, false), (3004, false), (3009, false), (11, false), (12, false), (13, false), (2999, false), (11, false), (3009, false), (12, false), (13, false), (2999, false), (12, false), (9, false), (13, false), (2999, false), (3009, false), (3004, false), (11, false), (12, false), (13, false), (2999, false), (11, false), (4, false), (12, false), (13, false), (2999, false), (11, false), (3004, false), (3009, false), (12, false), (13, false), (2999, false), (12, false), (9, false), (13, false), (2999, false), (9, false), (4, false), (12, false), (13, false), (2999, false), (11, false), (3004, false), (3009, false), (10, false), (12, false), (13, false), (2999, false), (10, false), (3009, false), (12, false), (13, false), (2999, false), (12, false), (9, false), (13, false), (2999, false), (3009, false), (3004, false), (10, false), (12, false), (13, false), (2999, false), (10, false), (4, false), (12, false), (13, false), (2999, false), (10, false), (3004, false), (3009, false), (12, false), (13, false), (2999, false), (12, false), (9, false), (13, false), (2999, false), (9, false), (4, false), (12, false), (13, false), (2999, false)]), (12, [(0, true), (1, true), (2, true), (3, true), (4, true), (5, true), (6, true), (7, true), (8, true), (9, true), (10, true)])] tbQ_ok hC (by kernel_rfl) Try.func131 rfl rfl rfl (by kernel_rfl) (by kernel_rfl) 2 5 1 ?_ ?_
  · intro args h pre r h' hs
    unfold sSamePr at hs
    split at hs
    · cases hs; exact ⟨rfl, rfl, Nat.le_of_ble_eq_true rfl⟩
    · cases hs
  · intro args h pre r h' hs hp
    unfold sSamePr at hs
    split at hs
    rotate_left
    · cases hs
    rename_i c c' fr ty sz n get fr' ty' sz' n' get'
    cases hs
    obtain ⟨⟨rfl, rfl, hst, hok, hm⟩, ⟨rfl, rfl, hst', hok', hm'⟩⟩ := hp
    refine ⟨[.data fr 140 4 n (leafG false (leafL n get)), .data fr' 140 4 n' (leafG false (leafL n' get'))], ⟨⟨rfl, rfl, rfl, rfl, fun i j hi hj => by rw [hst i j hi hj]; exact Cell.le_refl _⟩, ⟨rfl, rfl, rfl, rfl, fun i j hi hj => by rw [hst' i j hi hj]; exact Cell.le_refl _⟩, trivial⟩, ?_⟩
    have hL : (leafL n get).length = n := leafL_len
    have hL' : (leafL n' get').length = n' := leafL_len
    generalize leafL n get = L at hL hok ⊢
    generalize leafL n' get' = K at hL' hok' ⊢
    generalize hL : lft Try.prog _ = L
    try unfold leafG
    generalize ho0 : @lK = zo0, ho1 : @lV = zo1, ho2 : @lI = zo2, ho3 : @lP = zo3, ho4 : @lN = zo4, ho5 : @leafL = zo5, ho6 : @leavesPre = zo6, ho7 : @hQ = zo7, ho8 : @sumAt = zo8
    generalize hA : Arith.std = A
    cbv
    subst hA hL ho0 ho1 ho2 ho3 ho4 ho5 ho6 ho7 ho8
    refine Ife.mk (fun h => ?_) (fun h => ?_)
    · have h : ¬ c = c' := by simpa using (show (!decide (c = c')) = true from h)
      rw [decide_eq_false h, Bool.false_and]
      exact ⟨[0, 1], ⟨rfl, by repeat' (first | exact trivial | exact rfl | apply And.intro | exact (fun _ _ _ _ => Cell.le_refl _) | (intro i hi; rfl) | (intro i hi; exact absurd hi (Nat.not_lt_zero _))), by decide, rfl, by repeat' (first | exact trivial | exact rfl | apply And.intro | exact (fun _ _ _ _ => Cell.le_refl _) | (intro i hi; rfl) | (intro i hi; exact absurd hi (Nat.not_lt_zero _)))⟩⟩
    have h : c = c' := by simpa using (show (!decide (c = c')) = false from h)
    subst h
    refine Ife.mk (fun h => ?_) (fun h => ?_)
    · have h : ¬ ((n : Int) = (n' : Int)) := by simpa using (show (!decide ((n : Int) = (n' : Int))) = true from h)
      rw [decide_eq_false (show ¬ L = K from fun e => by rw [e] at hL; omega), Bool.and_false]
      exact ⟨[0, 1], ⟨rfl, by repeat' (first | exact trivial | exact rfl | apply And.intro | exact (fun _ _ _ _ => Cell.le_refl _) | (intro i hi; rfl) | (intro i hi; exact absurd hi (Nat.not_lt_zero _))), by decide, rfl, by repeat' (first | exact trivial | exact rfl | apply And.intro | exact (fun _ _ _ _ => Cell.le_refl _) | (intro i hi; rfl) | (intro i hi; exact absurd hi (Nat.not_lt_zero _)))⟩⟩
    have h : ((n : Int) = (n' : Int)) := by simpa using (show (!decide ((n : Int) = (n' : Int))) = false from h)
    replace h := And.intro h trivial
    obtain ⟨hc0, _⟩ := h
    have hnn : n = n' := by omega
    subst hnn
    clear hc0
    rw [decide_eq_true (rfl : c = c), Bool.true_and]
    obtain ⟨E, hE⟩ : ∃ E, decide (L = K) = E := ⟨_, rfl⟩
    rw [hE]
    show Runs Try.prog 2 (.loop _) _ _
    refine loop_ruleX (X := LSpr L K n) (fun x : LSpr L K n => ⟨[.any, .any, .c (.ptr 2 0), .c (.ptr 3 0), .any, .c (.int .i64 x.i)] ++ List.replicate 80 .any, [.data fr 140 4 n (leafG false L), .data fr' 140 4 n (leafG false K), .cells 72 [.int .i64 c, .row 0], .cells 72 [.int .i64 c, .row 1]]⟩) (fun x => n - x.k) ⟨0, 0, rfl, Nat.zero_le _, rfl⟩ [0, 1, 2, 3] ?_ ?_
    · refine ⟨rfl, by show List.Nodup [2, 3]; decide, ?_, ?_⟩ <;> repeat' (first | exact trivial | exact rfl | apply And.intro | exact (fun _ _ _ _ => Cell.le_refl _) | (intro i hi; rfl) | (intro i hi; exact absurd hi (Nat.not_lt_zero _)))
    rintro ⟨i, k, hk, hkn, htk⟩
    replace hk : i = @Nat.cast Int instNatCastInt k := hk
    subst hk
    refine Runs.cut ⟨[.any, .any, .c (.ptr 2 0), .c (.ptr 3 0), .any, .c (.int .i64 (k : Int))] ++ List.replicate 80 .any, [.data fr 140 4 n (leafG false L), .data fr' 140 4 n (leafG false K), .cells 72 [.int .i64 c, .row 0], .cells 72 [.int .i64 c, .row 1]]⟩ (k < n) ?_ fun hlt => ?_
    · refine exec_ok (N := env (lft Try.prog 2) 0 .std tbQ [] [(6, [(9999, true), (0, true), (1, true), (2, true), (3, true), (5, true), (6, true), (7, true), (8, true), (3004, false), (3009, false), (3010, false), (11, false), (12, false), (13, false), (2999, false), (11, false), (10, false), (12, false), (13, false), (2999, false), (3010, false), (3009, false), (11, false), (12, false), (13, false), (2999, false), (11, false), (3009, false), (12, false), (13, false), (2999, false), (12, false), (9, false), (13, false), (2999, false), (11, false), (3009, false), (10, false), (12, false), (13, false), (2999, false), (10, false), (3009, false), (12, false), (13, false), (2999, false), (12, false), (9, false), (13, false), (2999, false), (3009, false), (3004, false), (3010, false), (11, false), (12, false), (13, false), (2999, false), (11, false), (10, false), (12, false), (13, false), (2999, false), (3010, false), (3004, false), (11, false), (12, false), (13, false), (2999, false), (11, false), (4, false), (12, false), (13, false), (2999, false), (11, false), (3004, false), (10, false), (12, false), (13, false), (2999, false), (10, false), (4, false), (12, false), (13, false), (2999, false), (3010, false), (3004, false), (3009, false), (11, false), (12, false), (13, false), (2999, false), (11, false), (3009, false), (12, false), (13, false), (2999, false), (12, false), (9, false), (13, false), (2999, false), (3009, false), (3004, false), (11, false), (12, false), (13, false), (2999, false), (11, false), (4, false), (12, false), (13, false), (2999, false), (11, false), (3004, false), (3009, false), (12, false), (13, false), (2999, false), (12, false), (9, false), (13, false), (2999, false), (9, false), (4, false), (12, false), (13, false), (2999, false), (11, false), (3004, false), (3009, false), (10, false), (12, false), (13, false), (2999, false), (10, false), (3009, false), (12, false), (13, false), (2999, false), (12, false), (9, false), (13, false), (2999, false), (3009, false), (3004, false), (10, false), (12, false), (13, false), (2999, false), (10, false), (4, false), (12, false), (13, false), (2999, false), (10, false), (3004, false), (3009, false), (12, false), (13, false), (2999, false), (12, false), (9, false), (13, false), (2999, false), (9, false), (4, false), (12, false), (13, false), (2999, false)]), (12, [(0, true), (1, true), (2, true), (3, true), (4, true), (5, true), (6, true), (7, true), (8, true), (9, true), (10, true)])]) rfl tbQ_ok hC (fun c st K _ h => h) (by kernel_rfl) [] _ _ _ (by kernel_rfl) ?_
      generalize hL : lft Try.prog _ = L
      try dsimp only
      try unfold leafG
      generalize ho0 : @lK = zo0, ho1 : @lV = zo1, ho2 : @lI = zo2, ho3 : @lP = zo3, ho4 : @lN = zo4, ho5 : @leafL = zo5, ho6 : @leavesPre = zo6, ho7 : @hQ = zo7, ho8 : @sumAt = zo8
      generalize hA : Arith.std = A
      cbv
      subst hA hL ho0 ho1 ho2 ho3 ho4 ho5 ho6 ho7 ho8
      refine Ife.mk (fun hlt => ?_) (fun hlt => ?_)
      · replace hlt : (k : Int) < @Nat.cast Int instNatCastInt n := of_decide_eq_true (p := (k : Int) < (n : Int)) hlt
        refine ⟨⟨[0, 1, 2, 3], rfl, (by show List.Nodup [2, 3]; decide), (by repeat' (first | exact trivial | exact rfl | apply And.intro | exact (fun _ _ _ _ => Cell.le_refl _) | (intro i hi; rfl) | (intro i hi; exact absurd hi (Nat.not_lt_zero _)))), (by repeat' (first | exact trivial | exact rfl | apply And.intro | exact (fun _ _ _ _ => Cell.le_refl _) | (intro i hi; rfl) | (intro i hi; exact absurd hi (Nat.not_lt_zero _))))⟩, (show k < n by omega)⟩
      · replace hlt : ¬ (k : Int) < @Nat.cast Int instNatCastInt n := of_decide_eq_false (p := (k : Int) < (n : Int)) hlt
        rw [List.take_of_length_le (l := L) (by omega), List.take_of_length_le (l := K) (by omega)] at htk
        have hD : E = true := by rw [← hE]; exact decide_eq_true htk
        subst hD
        exact ⟨[0, 1], ⟨rfl, by repeat' (first | exact trivial | exact rfl | apply And.intro | exact (fun _ _ _ _ => Cell.le_refl _) | (intro i hi; rfl) | (intro i hi; exact absurd hi (Nat.not_lt_zero _))), by decide, rfl, by repeat' (first | exact trivial | exact rfl | apply And.intro | exact (fun _ _ _ _ => Cell.le_refl _) | (intro i hi; rfl) | (intro i hi; exact absurd hi (Nat.not_lt_zero _)))⟩⟩
    have hkL : k < L.length := by omega
    have hkK : k < K.length := by omega
    refine Runs.seq (Runs.block (Runs.cut ⟨[.any, .any, .c (.ptr 2 0), .c (.ptr 3 0), .any, .c (.int .i64 (k : Int)), .c (.ptr 6 0), .c (.ptr 7 0)] ++ List.replicate 78 .any, [.data fr 140 4 n (leafG false L), .data fr' 140 4 n (leafG false K), .cells 72 [.int .i64 c, .row 0], .cells 72 [.int .i64 c, .row 1], .elems 63 32 (lN L k) (fun i => h32 (hQ (lP L k) i)), .elems 63 32 (lN K k) (fun i => h32 (hQ (lP K k) i)), .cells 140 [.str (lK L k), .str (lV L k), .int .i64 (lI L k), .row 4], .cells 140 [.str (lK K k), .str (lV K k), .int .i64 (lI K k), .row 5]]⟩ True ?_ fun _ => ?_))
    · refine exec_ok (N := env (lft Try.prog 2) 0 .std tbQ [] [(6, [(9999, true), (0, true), (1, true), (2, true), (3, true), (5, true), (6, true), (7, true), (8, true), (3004, false), (3009, false), (3010, false), (11, false), (12, false), (13, false), (2999, false), (11, false), (10, false), (12, false), (13, false), (2999, false), (3010, false), (3009, false), (11, false), (12, false), (13, false), (2999, false), (11, false), (3009, false), (12, false), (13, false), (2999, false), (12, false), (9, false), (13, false), (2999, false), (11, false), (3009, false), (10, false), (12, false), (13, false), (2999, false), (10, false), (3009, false), (12, false), (13, false), (2999, false), (12, false), (9, false), (13, false), (2999, false), (3009, false), (3004, false), (3010, false), (11, false), (12, false), (13, false), (2999, false), (11, false), (10, false), (12, false), (13, false), (2999, false), (3010, false), (3004, false), (11, false), (12, false), (13, false), (2999, false), (11, false), (4, false), (12, false), (13, false), (2999, false), (11, false), (3004, false), (10, false), (12, false), (13, false), (2999, false), (10, false), (4, false), (12, false), (13, false), (2999, false), (3010, false), (3004, false), (3009, false), (11, false), (12, false), (13, false), (2999, false), (11, false), (3009, false), (12, false), (13, false), (2999, false), (12, false), (9, false), (13, false), (2999, false), (3009, false), (3004, false), (11, false), (12, false), (13, false), (2999, false), (11, false), (4, false), (12, false), (13, false), (2999, false), (11, false), (3004, false), (3009, false), (12, false), (13, false), (2999, false), (12, false), (9, false), (13, false), (2999, false), (9, false), (4, false), (12, false), (13, false), (2999, false), (11, false), (3004, false), (3009, false), (10, false), (12, false), (13, false), (2999, false), (10, false), (3009, false), (12, false), (13, false), (2999, false), (12, false), (9, false), (13, false), (2999, false), (3009, false), (3004, false), (10, false), (12, false), (13, false), (2999, false), (10, false), (4, false), (12, false), (13, false), (2999, false), (10, false), (3004, false), (3009, false), (12, false), (13, false), (2999, false), (12, false), (9, false), (13, false), (2999, false), (9, false), (4, false), (12, false), (13, false), (2999, false)]), (12, [(0, true), (1, true), (2, true), (3, true), (4, true), (5, true), (6, true), (7, true), (8, true), (9, true), (10, true)])]) rfl tbQ_ok hC (fun c st K _ h => h) (by kernel_rfl) [] _ _ _ (by kernel_rfl) ?_
      generalize hL : lft Try.prog _ = L
      try unfold leafG
      generalize ho0 : @lK = zo0, ho1 : @lV = zo1, ho2 : @lI = zo2, ho3 : @lP = zo3, ho4 : @lN = zo4, ho5 : @leafL = zo5, ho6 : @leavesPre = zo6, ho7 : @hQ = zo7, ho8 : @sumAt = zo8
      generalize hA : Arith.std = A
      cbv
      subst hA hL ho0 ho1 ho2 ho3 ho4 ho5 ho6 ho7 ho8
      refine Need.mk (show 0 ≤ (k : Int) ∧ (k : Int) < (n : Int) by omega) fun _ => Need.mk (show 0 ≤ (k : Int) ∧ (k : Int) < (n : Int) by omega) fun _ => ?_
      repeat' (first | refine Both.mk ?_ ?_ | refine Need.mk (show k < n from hlt) fun _ => ?_)
      · exact ⟨⟨[0, 1, 2, 3, 4, 5, 6, 7], rfl, (by show List.Nodup [2, 3, 6, 7]; decide), (by repeat' (first | exact trivial | exact rfl | apply And.intro | exact (fun _ _ _ _ => Cell.le_refl _) | (intro i hi; rfl) | (intro i hi; exact absurd hi (Nat.not_lt_zero _)))), (by repeat' (first | exact trivial | exact rfl | apply And.intro | exact (fun _ _ _ _ => Cell.le_refl _) | (intro i hi; rfl) | (intro i hi; exact absurd hi (Nat.not_lt_zero _))))⟩, trivial⟩
      · exact ⟨⟨[0, 1, 2, 3, 4, 5, 7, 6], rfl, (by show List.Nodup [2, 3, 7, 6]; decide), (by repeat' (first | exact trivial | exact rfl | apply And.intro | exact (fun _ _ _ _ => Cell.le_refl _) | (intro i hi; rfl) | (intro i hi; exact absurd hi (Nat.not_lt_zero _)))), (by repeat' (first | exact trivial | exact rfl | apply And.intro | exact (fun _ _ _ _ => Cell.le_refl _) | (intro i hi; rfl) | (intro i hi; exact absurd hi (Nat.not_lt_zero _))))⟩, trivial⟩
      · exact ⟨⟨[0, 1, 2, 3, 4, 6, 5, 7], rfl, (by show List.Nodup [2, 3, 5, 7]; decide), (by repeat' (first | exact trivial | exact rfl | apply And.intro | exact (fun _ _ _ _ => Cell.le_refl _) | (intro i hi; rfl) | (intro i hi; exact absurd hi (Nat.not_lt_zero _)))), (by repeat' (first | exact trivial | exact rfl | apply And.intro | exact (fun _ _ _ _ => Cell.le_refl _) | (intro i hi; rfl) | (intro i hi; exact absurd hi (Nat.not_lt_zero _))))⟩, trivial⟩
      · exact ⟨⟨[0, 1, 2, 3, 4, 7, 5, 6], rfl, (by show List.Nodup [2, 3, 5, 6]; decide), (by repeat' (first | exact trivial | exact rfl | apply And.intro | exact (fun _ _ _ _ => Cell.le_refl _) | (intro i hi; rfl) | (intro i hi; exact absurd hi (Nat.not_lt_zero _)))), (by repeat' (first | exact trivial | exact rfl | apply And.intro | exact (fun _ _ _ _ => Cell.le_refl _) | (intro i hi; rfl) | (intro i hi; exact absurd hi (Nat.not_lt_zero _))))⟩, trivial⟩
      · exact ⟨⟨[0, 1, 2, 3, 4, 7, 5, 6], rfl, (by show List.Nodup [2, 3, 5, 6]; decide), (by repeat' (first | exact trivial | exact rfl | apply And.intro | exact (fun _ _ _ _ => Cell.le_refl _) | (intro i hi; rfl) | (intro i hi; exact absurd hi (Nat.not_lt_zero _)))), (by repeat' (first | exact trivial | exact rfl | apply And.intro | exact (fun _ _ _ _ => Cell.le_refl _) | (intro i hi; rfl) | (intro i hi; exact absurd hi (Nat.not_lt_zero _))))⟩, trivial⟩
      · exact ⟨⟨[0, 1, 2, 3, 4, 6, 7, 5], rfl, (by show List.Nodup [2, 3, 7, 5]; decide), (by repeat' (first | exact trivial | exact rfl | apply And.intro | exact (fun _ _ _ _ => Cell.le_refl _) | (intro i hi; rfl) | (intro i hi; exact absurd hi (Nat.not_lt_zero _)))), (by repeat' (first | exact trivial | exact rfl | apply And.intro | exact (fun _ _ _ _ => Cell.le_refl _) | (intro i hi; rfl) | (intro i hi; exact absurd hi (Nat.not_lt_zero _))))⟩, trivial⟩
      · exact ⟨⟨[0, 1, 2, 3, 4, 7, 6, 5], rfl, (by show List.Nodup [2, 3, 6, 5]; decide), (by repeat' (first | exact trivial | exact rfl | apply And.intro | exact (fun _ _ _ _ => Cell.le_refl _) | (intro i hi; rfl) | (intro i hi; exact absurd hi (Nat.not_lt_zero _)))), (by repeat' (first | exact trivial | exact rfl | apply And.intro | exact (fun _ _ _ _ => Cell.le_refl _) | (intro i hi; rfl) | (intro i hi; exact absurd hi (Nat.not_lt_zero _))))⟩, trivial⟩
      · exact ⟨⟨[0, 1, 2, 3, 4, 7, 6, 5], rfl, (by show List.Nodup [2, 3, 6, 5]; decide), (by repeat' (first | exact trivial | exact rfl | apply And.intro | exact (fun _ _ _ _ => Cell.le_refl _) | (intro i hi; rfl) | (intro i hi; exact absurd hi (Nat.not_lt_zero _)))), (by repeat' (first | exact trivial | exact rfl | apply And.intro | exact (fun _ _ _ _ => Cell.le_refl _) | (intro i hi; rfl) | (intro i hi; exact absurd hi (Nat.not_lt_zero _))))⟩, trivial⟩
      · exact ⟨⟨[0, 1, 2, 3, 5, 4, 6, 7], rfl, (by show List.Nodup [2, 3, 6, 7]; decide), (by repeat' (first | exact trivial | exact rfl | apply And.intro | exact (fun _ _ _ _ => Cell.le_refl _) | (intro i hi; rfl) | (intro i hi; exact absurd hi (Nat.not_lt_zero _)))), (by repeat' (first | exact trivial | exact rfl | apply And.intro | exact (fun _ _ _ _ => Cell.le_refl _) | (intro i hi; rfl) | (intro i hi; exact absurd hi (Nat.not_lt_zero _))))⟩, trivial⟩
      · exact ⟨⟨[0, 1, 2, 3, 5, 4, 7, 6], rfl, (by show List.Nodup [2, 3, 7, 6]; decide), (by repeat' (first | exact trivial | exact rfl | apply And.intro | exact (fun _ _ _ _ => Cell.le_refl _) | (intro i hi; rfl) | (intro i hi; exact absurd hi (Nat.not_lt_zero _)))), (by repeat' (first | exact trivial | exact rfl | apply And.intro | exact (fun _ _ _ _ => Cell.le_refl _) | (intro i hi; rfl) | (intro i hi; exact absurd hi (Nat.not_lt_zero _))))⟩, trivial⟩
      · exact ⟨⟨[0, 1, 2, 3, 6, 4, 5, 7], rfl, (by show List.Nodup [2, 3, 5, 7]; decide), (by repeat' (first | exact trivial | exact rfl | apply And.intro | exact (fun _ _ _ _ => Cell.le_refl _) | (intro i hi; rfl) | (intro i hi; exact absurd hi (Nat.not_lt_zero _)))), (by repeat' (first | exact trivial | exact rfl | apply And.intro | exact (fun _ _ _ _ => Cell.le_refl _) | (intro i hi; rfl) | (intro i hi; exact absurd hi (Nat.not_lt_zero _))))⟩, trivial⟩
      · exact ⟨⟨[0, 1, 2, 3, 7, 4, 5, 6], rfl, (by show List.Nodup [2, 3, 5, 6]; decide), (by repeat' (first | exact trivial | exact rfl | apply And.intro | exact (fun _ _ _ _ => Cell.le_refl _) | (intro i hi; rfl) | (intro i hi; exact absurd hi (Nat.not_lt_zero _)))), (by repeat' (first | exact trivial | exact rfl | apply And.intro | exact (fun _ _ _ _ => Cell.le_refl _) | (intro i hi; rfl) | (intro i hi; exact absurd hi (Nat.not_lt_zero _))))⟩, trivial⟩
      · exact ⟨⟨[0, 1, 2, 3, 6, 4, 7, 5], rfl, (by show List.Nodup [2, 3, 7, 5]; decide), (by repeat' (first | exact trivial | exact rfl | apply And.intro | exact (fun _ _ _ _ => Cell.le_refl _) | (intro i hi; rfl) | (intro i hi; exact absurd hi (Nat.not_lt_zero _)))), (by repeat' (first | exact trivial | exact rfl | apply And.intro | exact (fun _ _ _ _ => Cell.le_refl _) | (intro i hi; rfl) | (intro i hi; exact absurd hi (Nat.not_lt_zero _))))⟩, trivial⟩
      · exact ⟨⟨[0, 1, 2, 3, 7, 4, 6, 5], rfl, (by show List.Nodup [2, 3, 6, 5]; decide), (by repeat' (first | exact trivial | exact rfl | apply And.intro | exact (fun _ _ _ _ => Cell.le_refl _) | (intro i hi; rfl) | (intro i hi; exact absurd hi (Nat.not_lt_zero _)))), (by repeat' (first | exact trivial | exact rfl | apply And.intro | exact (fun _ _ _ _ => Cell.le_refl _) | (intro i hi; rfl) | (intro i hi; exact absurd hi (Nat.not_lt_zero _))))⟩, trivial⟩
      · exact ⟨⟨[0, 1, 2, 3, 5, 6, 4, 7], rfl, (by show List.Nodup [2, 3, 4, 7]; decide), (by repeat' (first | exact trivial | exact rfl | apply And.intro | exact (fun _ _ _ _ => Cell.le_refl _) | (intro i hi; rfl) | (intro i hi; exact absurd hi (Nat.not_lt_zero _)))), (by repeat' (first | exact trivial | exact rfl | apply And.intro | exact (fun _ _ _ _ => Cell.le_refl _) | (intro i hi; rfl) | (intro i hi; exact absurd hi (Nat.not_lt_zero _))))⟩, trivial⟩
      · exact ⟨⟨[0, 1, 2, 3, 5, 7, 4, 6], rfl, (by show List.Nodup [2, 3, 4, 6]; decide), (by repeat' (first | exact trivial | exact rfl | apply And.intro | exact (fun _ _ _ _ => Cell.le_refl _) | (intro i hi; rfl) | (intro i hi; exact absurd hi (Nat.not_lt_zero _)))), (by repeat' (first | exact trivial | exact rfl | apply And.intro | exact (fun _ _ _ _ => Cell.le_refl _) | (intro i hi; rfl) | (intro i hi; exact absurd hi (Nat.not_lt_zero _))))⟩, trivial⟩
      · exact ⟨⟨[0, 1, 2, 3, 5, 7, 4, 6], rfl, (by show List.Nodup [2, 3, 4, 6]; decide), (by repeat' (first | exact trivial | exact rfl | apply And.intro | exact (fun _ _ _ _ => Cell.le_refl _) | (intro i hi; rfl) | (intro i hi; exact absurd hi (Nat.not_lt_zero _)))), (by repeat' (first | exact trivial | exact rfl | apply And.intro | exact (fun _ _ _ _ => Cell.le_refl _) | (intro i hi; rfl) | (intro i hi; exact absurd hi (Nat.not_lt_zero _))))⟩, trivial⟩
      · exact ⟨⟨[0, 1, 2, 3, 6, 5, 4, 7], rfl, (by show List.Nodup [2, 3, 4, 7]; decide), (by repeat' (first | exact trivial | exact rfl | apply And.intro | exact (fun _ _ _ _ => Cell.le_refl _) | (intro i hi; rfl) | (intro i hi; exact absurd hi (Nat.not_lt_zero _)))), (by repeat' (first | exact trivial | exact rfl | apply And.intro | exact (fun _ _ _ _ => Cell.le_refl _) | (intro i hi; rfl) | (intro i hi; exact absurd hi (Nat.not_lt_zero _))))⟩, trivial⟩
      · exact ⟨⟨[0, 1, 2, 3, 7, 5, 4, 6], rfl, (by show List.Nodup [2, 3, 4, 6]; decide), (by repeat' (first | exact trivial | exact rfl | apply And.intro | exact (fun _ _ _ _ => Cell.le_refl _) | (intro i hi; rfl) | (intro i hi; exact absurd hi (Nat.not_lt_zero _)))), (by repeat' (first | exact trivial | exact rfl | apply And.intro | exact (fun _ _ _ _ => Cell.le_refl _) | (intro i hi; rfl) | (intro i hi; exact absurd hi (Nat.not_lt_zero _))))⟩, trivial⟩
      · exact ⟨⟨[0, 1, 2, 3, 6, 7, 4, 5], rfl, (by show List.Nodup [2, 3, 4, 5]; decide), (by repeat' (first | exact trivial | exact rfl | apply And.intro | exact (fun _ _ _ _ => Cell.le_refl _) | (intro i hi; rfl) | (intro i hi; exact absurd hi (Nat.not_lt_zero _)))), (by repeat' (first | exact trivial | exact rfl | apply And.intro | exact (fun _ _ _ _ => Cell.le_refl _) | (intro i hi; rfl) | (intro i hi; exact absurd hi (Nat.not_lt_zero _))))⟩, trivial⟩
      · exact ⟨⟨[0, 1, 2, 3, 6, 7, 4, 5], rfl, (by show List.Nodup [2, 3, 4, 5]; decide), (by repeat' (first | exact trivial | exact rfl | apply And.intro | exact (fun _ _ _ _ => Cell.le_refl _) | (intro i hi; rfl) | (intro i hi; exact absurd hi (Nat.not_lt_zero _)))), (by repeat' (first | exact trivial | exact rfl | apply And.intro | exact (fun _ _ _ _ => Cell.le_refl _) | (intro i hi; rfl) | (intro i hi; exact absurd hi (Nat.not_lt_zero _))))⟩, trivial⟩
      · exact ⟨⟨[0, 1, 2, 3, 7, 6, 4, 5], rfl, (by show List.Nodup [2, 3, 4, 5]; decide), (by repeat' (first | exact trivial | exact rfl | apply And.intro | exact (fun _ _ _ _ => Cell.le_refl _) | (intro i hi; rfl) | (intro i hi; exact absurd hi (Nat.not_lt_zero _)))), (by repeat' (first | exact trivial | exact rfl | apply And.intro | exact (fun _ _ _ _ => Cell.le_refl _) | (intro i hi; rfl) | (intro i hi; exact absurd hi (Nat.not_lt_zero _))))⟩, trivial⟩
      · exact ⟨⟨[0, 1, 2, 3, 5, 6, 7, 4], rfl, (by show List.Nodup [2, 3, 7, 4]; decide), (by repeat' (first | exact trivial | exact rfl | apply And.intro | exact (fun _ _ _ _ => Cell.le_refl _) | (intro i hi; rfl) | (intro i hi; exact absurd hi (Nat.not_lt_zero _)))), (by repeat' (first | exact trivial | exact rfl | apply And.intro | exact (fun _ _ _ _ => Cell.le_refl _) | (intro i hi; rfl) | (intro i hi; exact absurd hi (Nat.not_lt_zero _))))⟩, trivial⟩
      · exact ⟨⟨[0, 1, 2, 3, 5, 7, 6, 4], rfl, (by show List.Nodup [2, 3, 6, 4]; decide), (by repeat' (first | exact trivial | exact rfl | apply And.intro | exact (fun _ _ _ _ => Cell.le_refl _) | (intro i hi; rfl) | (intro i hi; exact absurd hi (Nat.not_lt_zero _)))), (by repeat' (first | exact trivial | exact rfl | apply And.intro | exact (fun _ _ _ _ => Cell.le_refl _) | (intro i hi; rfl) | (intro i hi; exact absurd hi (Nat.not_lt_zero _))))⟩, trivial⟩
      · exact ⟨⟨[0, 1, 2, 3, 5, 7, 6, 4], rfl, (by show List.Nodup [2, 3, 6, 4]; decide), (by repeat' (first | exact trivial | exact rfl | apply And.intro | exact (fun _ _ _ _ => Cell.le_refl _) | (intro i hi; rfl) | (intro i hi; exact absurd hi (Nat.not_lt_zero _)))), (by repeat' (first | exact trivial | exact rfl | apply And.intro | exact (fun _ _ _ _ => Cell.le_refl _) | (intro i hi; rfl) | (intro i hi; exact absurd hi (Nat.not_lt_zero _))))⟩, trivial⟩
      · exact ⟨⟨[0, 1, 2, 3, 6, 5, 7, 4], rfl, (by show List.Nodup [2, 3, 7, 4]; decide), (by repeat' (first | exact trivial | exact rfl | apply And.intro | exact (fun _ _ _ _ => Cell.le_refl _) | (intro i hi; rfl) | (intro i hi; exact absurd hi (Nat.not_lt_zero _)))), (by repeat' (first | exact trivial | exact rfl | apply And.intro | exact (fun _ _ _ _ => Cell.le_refl _) | (intro i hi; rfl) | (intro i hi; exact absurd hi (Nat.not_lt_zero _))))⟩, trivial⟩
      · exact ⟨⟨[0, 1, 2, 3, 7, 5, 6, 4], rfl, (by show List.Nodup [2, 3, 6, 4]; decide), (by repeat' (first | exact trivial | exact rfl | apply And.intro | exact (fun _ _ _ _ => Cell.le_refl _) | (intro i hi; rfl) | (intro i hi; exact absurd hi (Nat.not_lt_zero _)))), (by repeat' (first | exact trivial | exact rfl | apply And.intro | exact (fun _ _ _ _ => Cell.le_refl _) | (intro i hi; rfl) | (intro i hi; exact absurd hi (Nat.not_lt_zero _))))⟩, trivial⟩
      · exact ⟨⟨[0, 1, 2, 3, 6, 7, 5, 4], rfl, (by show List.Nodup [2, 3, 5, 4]; decide), (by repeat' (first | exact trivial | exact rfl | apply And.intro | exact (fun _ _ _ _ => Cell.le_refl _) | (intro i hi; rfl) | (intro i hi; exact absurd hi (Nat.not_lt_zero _)))), (by repeat' (first | exact trivial | exact rfl | apply And.intro | exact (fun _ _ _ _ => Cell.le_refl _) | (intro i hi; rfl) | (intro i hi; exact absurd hi (Nat.not_lt_zero _))))⟩, trivial⟩
      · exact ⟨⟨[0, 1, 2, 3, 6, 7, 5, 4], rfl, (by show List.Nodup [2, 3, 5, 4]; decide), (by repeat' (first | exact trivial | exact rfl | apply And.intro | exact (fun _ _ _ _ => Cell.le_refl _) | (intro i hi; rfl) | (intro i hi; exact absurd hi (Nat.not_lt_zero _)))), (by repeat' (first | exact trivial | exact rfl | apply And.intro | exact (fun _ _ _ _ => Cell.le_refl _) | (intro i hi; rfl) | (intro i hi; exact absurd hi (Nat.not_lt_zero _))))⟩, trivial⟩
      · exact ⟨⟨[0, 1, 2, 3, 7, 6, 5, 4], rfl, (by show List.Nodup [2, 3, 5, 4]; decide), (by repeat' (first | exact trivial | exact rfl | apply And.intro | exact (fun _ _ _ _ => Cell.le_refl _) | (intro i hi; rfl) | (intro i hi; exact absurd hi (Nat.not_lt_zero _)))), (by repeat' (first | exact trivial | exact rfl | apply And.intro | exact (fun _ _ _ _ => Cell.le_refl _) | (intro i hi; rfl) | (intro i hi; exact absurd hi (Nat.not_lt_zero _))))⟩, trivial⟩
    refine exec_ok (N := env (lft Try.prog 2) 0 .std tbQ [] [(6, [(9999, true), (0, true), (1, true), (2, true), (3, true), (5, true), (6, true), (7, true), (8, true), (3004, false), (3009, false), (3010, false), (11, false), (12, false), (13, false), (2999, false), (11, false), (10, false), (12, false), (13, false), (2999, false), (3010, false), (3009, false), (11, false), (12, false), (13, false), (2999, false), (11, false), (3009, false), (12, false), (13, false), (2999, false), (12, false), (9, false), (13, false), (2999, false), (11, false), (3009, false), (10, false), (12, false), (13, false), (2999, false), (10, false), (3009, false), (12, false), (13, false), (2999, false), (12, false), (9, false), (13, false), (2999, false), (3009, false), (3004, false), (3010, false), (11, false), (12, false), (13, false), (2999, false), (11, false), (10, false), (12, false), (13, false), (2999, false), (3010, false), (3004, false), (11, false), (12, false), (13, false), (2999, false), (11, false), (4, false), (12, false), (13, false), (2999, false), (11, false), (3004, false), (10, false), (12, false), (13, false), (2999, false), (10, false), (4, false), (12, false), (13, false), (2999, false), (3010, false), (3004, false), (3009, false), (11, false), (12, false), (13, false), (2999, false), (11, false), (3009, false), (12, false), (13, false), (2999, false), (12, false), (9, false), (13, false), (2999, false), (3009, false), (3004, false), (11, false), (12, false), (13, false), (2999, false), (11, false), (4, false), (12, false), (13, false), (2999, false), (11, false), (3004, false), (3009, false), (12, false), (13, false), (2999, false), (12, false), (9, false), (13, false), (2999, false), (9, false), (4, false), (12, false), (13, false), (2999, false), (11, false), (3004, false), (3009, false), (10, false), (12, false), (13, false), (2999, false), (10, false), (3009, false), (12, false), (13, false), (2999, false), (12, false), (9, false), (13, false), (2999, false), (3009, false), (3004, false), (10, false), (12, false), (13, false), (2999, false), (10, false), (4, false), (12, false), (13, false), (2999, false), (10, false), (3004, false), (3009, false), (12, false), (13, false), (2999, false), (12, false), (9, false), (13, false), (2999, false), (9, false), (4, false), (12, false), (13, false), (2999, false)]), (12, [(0, true), (1, true), (2, true), (3, true), (4, true), (5, true), (6, true), (7, true), (8, true), (9, true), (10, true)])]) rfl tbQ_ok hC (fun c st K _ h => h) (by kernel_rfl) [] _ _ _ (by kernel_rfl) ?_
    generalize hL : lft Try.prog _ = L
    try unfold leafG
    generalize ho0 : @lK = zo0, ho1 : @lV = zo1, ho2 : @lI = zo2, ho3 : @lP = zo3, ho4 : @lN = zo4, ho5 : @leafL = zo5, ho6 : @leavesPre = zo6, ho7 : @hQ = zo7, ho8 : @sumAt = zo8
    generalize hA : Arith.std = A
    cbv
    subst hA hL ho0 ho1 ho2 ho3 ho4 ho5 ho6 ho7 ho8
    refine Ife.mk (fun h => ?_) (fun h => ?_)
    · have h : ¬ lK L k = lK K k := by simpa using (show (!decide (lK L k = lK K k)) = true from h)
      have hD : E = false := by rw [← hE]; exact decide_eq_false (take_ne hkL hkK fun e => h e.1)
      subst hD
      exact ⟨[0, 1], ⟨rfl, by repeat' (first | exact trivial | exact rfl | apply And.intro | exact (fun _ _ _ _ => Cell.le_refl _) | (intro i hi; rfl) | (intro i hi; exact absurd hi (Nat.not_lt_zero _))), by decide, rfl, by repeat' (first | exact trivial | exact rfl | apply And.intro | exact (fun _ _ _ _ => Cell.le_refl _) | (intro i hi; rfl) | (intro i hi; exact absurd hi (Nat.not_lt_zero _)))⟩⟩
    have q1 : lK L k = lK K k := by simpa using (show (!decide (lK L k = lK K k)) = false from h)
    refine Ife.mk (fun h => ?_) (fun h => ?_)
    · have h : ¬ lV L k = lV K k := by simpa using (show (!decide (lV L k = lV K k)) = true from h)
      have hD : E = false := by rw [← hE]; exact decide_eq_false (take_ne hkL hkK fun e => h e.2.1)
      subst hD
      exact ⟨[0, 1], ⟨rfl, by repeat' (first | exact trivial | exact rfl | apply And.intro | exact (fun _ _ _ _ => Cell.le_refl _) | (intro i hi; rfl) | (intro i hi; exact absurd hi (Nat.not_lt_zero _))), by decide, rfl, by repeat' (first | exact trivial | exact rfl | apply And.intro | exact (fun _ _ _ _ => Cell.le_refl _) | (intro i hi; rfl) | (intro i hi; exact absurd hi (Nat.not_lt_zero _)))⟩⟩
    have q2 : lV L k = lV K k := by simpa using (show (!decide (lV L k = lV K k)) = false from h)
    refine Ife.mk (fun h => ?_) (fun h => ?_)
    · have h : ¬ lI L k = lI K k := by simpa using (show (!decide (lI L k = lI K k)) = true from h)
      have hD : E = false := by rw [← hE]; exact decide_eq_false (take_ne hkL hkK fun e => h e.2.2.1)
      subst hD
      exact ⟨[0, 1], ⟨rfl, by repeat' (first | exact trivial | exact rfl | apply And.intro | exact (fun _ _ _ _ => Cell.le_refl _) | (intro i hi; rfl) | (intro i hi; exact absurd hi (Nat.not_lt_zero _))), by decide, rfl, by repeat' (first | exact trivial | exact rfl | apply And.intro | exact (fun _ _ _ _ => Cell.le_refl _) | (intro i hi; rfl) | (intro i hi; exact absurd hi (Nat.not_lt_zero _)))⟩⟩
    have q3 : lI L k = lI K k := by simpa using (show (!decide (lI L k = lI K k)) = false from h)
    refine Ife.mk (fun h => ?_) (fun h => ?_)
    · have h : ¬ ((lN L k : Int) = (lN K k : Int)) := by simpa using (show (!decide ((lN L k : Int) = (lN K k : Int))) = true from h)
      have hD : E = false := by rw [← hE]; exact decide_eq_false (take_ne hkL hkK fun e => h (by unfold lN; rw [e.2.2.2]))
      subst hD
      exact ⟨[0, 1], ⟨rfl, by repeat' (first | exact trivial | exact rfl | apply And.intro | exact (fun _ _ _ _ => Cell.le_refl _) | (intro i hi; rfl) | (intro i hi; exact absurd hi (Nat.not_lt_zero _))), by decide, rfl, by repeat' (first | exact trivial | exact rfl | apply And.intro | exact (fun _ _ _ _ => Cell.le_refl _) | (intro i hi; rfl) | (intro i hi; exact absurd hi (Nat.not_lt_zero _)))⟩⟩
    have q4 : ((lN L k : Int) = (lN K k : Int)) := by simpa using (show (!decide ((lN L k : Int) = (lN K k : Int))) = false from h)
    have q5 : lN L k = lN K k := by omega
    have o1 := lP_ok hok (i := k)
    have o2 := lP_ok hok' (i := k)
    have o3 : (lP L k).length = lN L k := rfl
    have o4 : (lP K k).length = lN K k := rfl
    have o5 := lN_le hok (i := k)
    show Runs Try.prog 2 (.loop _) _ _
    refine loop_ruleL (N := env (lft Try.prog 2) 0 .std tbQ [] [(6, [(9999, true), (0, true), (1, true), (2, true), (3, true), (5, true), (6, true), (7, true), (8, true), (3004, false), (3009, false), (3010, false), (11, false), (12, false), (13, false), (2999, false), (11, false), (10, false), (12, false), (13, false), (2999, false), (3010, false), (3009, false), (11, false), (12, false), (13, false), (2999, false), (11, false), (3009, false), (12, false), (13, false), (2999, false), (12, false), (9, false), (13, false), (2999, false), (11, false), (3009, false), (10, false), (12, false), (13, false), (2999, false), (10, false), (3009, false), (12, false), (13, false), (2999, false), (12, false), (9, false), (13, false), (2999, false), (3009, false), (3004, false), (3010, false), (11, false), (12, false), (13, false), (2999, false), (11, false), (10, false), (12, false), (13, false), (2999, false), (3010, false), (3004, false), (11, false), (12, false), (13, false), (2999, false), (11, false), (4, false), (12, false), (13, false), (2999, false), (11, false), (3004, false), (10, false), (12, false), (13, false), (2999, false), (10, false), (4, false), (12, false), (13, false), (2999, false), (3010, false), (3004, false), (3009, false), (11, false), (12, false), (13, false), (2999, false), (11, false), (3009, false), (12, false), (13, false), (2999, false), (12, false), (9, false), (13, false), (2999, false), (3009, false), (3004, false), (11, false), (12, false), (13, false), (2999, false), (11, false), (4, false), (12, false), (13, false), (2999, false), (11, false), (3004, false), (3009, false), (12, false), (13, false), (2999, false), (12, false), (9, false), (13, false), (2999, false), (9, false), (4, false), (12, false), (13, false), (2999, false), (11, false), (3004, false), (3009, false), (10, false), (12, false), (13, false), (2999, false), (10, false), (3009, false), (12, false), (13, false), (2999, false), (12, false), (9, false), (13, false), (2999, false), (3009, false), (3004, false), (10, false), (12, false), (13, false), (2999, false), (10, false), (4, false), (12, false), (13, false), (2999, false), (10, false), (3004, false), (3009, false), (12, false), (13, false), (2999, false), (12, false), (9, false), (13, false), (2999, false), (9, false), (4, false), (12, false), (13, false), (2999, false)]), (12, [(0, true), (1, true), (2, true), (3, true), (4, true), (5, true), (6, true), (7, true), (8, true), (9, true), (10, true)])]) rfl tbQ_ok hC (fun c st K _ h => h) (by kernel_rfl) [] (X := LIx (lN L k) (sumAt (lP L k) (lP K k)))
      (S := fun x => ⟨[.any, .any, .c (.ptr 2 0), .c (.ptr 3 0), .any, .c (.int .i64 (k : Int)), .c (.ptr 6 0), .c (.ptr 7 0), .c (.int .i64 x.i)] ++ List.replicate 77 .any, [.data fr 140 4 n (leafG false L), .data fr' 140 4 n (leafG false K), .cells 72 [.int .i64 c, .row 0], .cells 72 [.int .i64 c, .row 1], .elems 63 32 (lN L k) (fun i => h32 (hQ (lP L k) i)), .elems 63 32 (lN K k) (fun i => h32 (hQ (lP K k) i)), .cells 140 [.str (lK L k), .str (lV L k), .int .i64 (lI L k), .row 4], .cells 140 [.str (lK K k), .str (lV K k), .int .i64 (lI K k), .row 5]]⟩) (μ := fun x => lN L k - x.i.toNat) ⟨0, by omega, by omega, fun k hk => absurd hk (Nat.not_lt_zero _)⟩ (by kernel_rfl) [0, 1, 2, 3, 4, 5, 6, 7] ?_ ?_
    · refine ⟨rfl, by show List.Nodup [2, 3, 6, 7]; decide, ?_, ?_⟩ <;> repeat' (first | exact trivial | exact rfl | apply And.intro | exact (fun _ _ _ _ => Cell.le_refl _) | (intro i hi; rfl) | (intro i hi; exact absurd hi (Nat.not_lt_zero _)))
    rintro ⟨j, hj0, hjn, hP⟩
    generalize hL : lft Try.prog _ = L
    try dsimp only
    try unfold leafG
    generalize ho0 : @lK = zo0, ho1 : @lV = zo1, ho2 : @lI = zo2, ho3 : @lP = zo3, ho4 : @lN = zo4, ho5 : @leafL = zo5, ho6 : @leavesPre = zo6, ho7 : @hQ = zo7, ho8 : @sumAt = zo8
    generalize hA : Arith.std = A
    cbv
    subst hA hL ho0 ho1 ho2 ho3 ho4 ho5 ho6 ho7 ho8
    replace hj0 : 0 ≤ j := hj0
    replace hjn : j ≤ @Nat.cast Int instNatCastInt (lN L k) := hjn
    replace hP : ∀ i, i < j.toNat → sumAt (lP L k) (lP K k) i = true := hP
    refine Ife.mk (fun hlt2 => ?_) (fun hlt2 => ?_)
    · replace hlt2 : j < @Nat.cast Int instNatCastInt (lN L k) := of_decide_eq_true (p := j < (lN L k : Int)) hlt2
      refine Need.mk (show 0 ≤ j ∧ j < (lN L k : Int) by omega) fun _ => Need.mk (show j.toNat < lN L k by omega) fun _ => Need.mk (show 0 ≤ j ∧ j < (lN K k : Int) by omega) fun _ => Need.mk (show j.toNat < lN K k by omega) fun _ => ?_
      have he : e32 (hQ (lP L k) j.toNat) (hQ (lP K k) j.toNat) = sumAt (lP L k) (lP K k) j.toNat := e32_sum o1 o2 (i := j.toNat) (by omega) (by omega)
      refine Ife.mk (fun h => ?_) (fun h => ?_)
      · have h : (!e32 (hQ (lP L k) j.toNat) (hQ (lP K k) j.toNat)) = true := h
        rw [he] at h
        have hD : E = false := by rw [← hE]; exact decide_eq_false (take_ne hkL hkK fun e => (list_ne [] (i := j.toNat) (by simpa [sumAt] using h)) e.2.2.2)
        subst hD
        exact ⟨[0, 1], ⟨rfl, by repeat' (first | exact trivial | exact rfl | apply And.intro | exact (fun _ _ _ _ => Cell.le_refl _) | (intro i hi; rfl) | (intro i hi; exact absurd hi (Nat.not_lt_zero _))), by decide, rfl, by repeat' (first | exact trivial | exact rfl | apply And.intro | exact (fun _ _ _ _ => Cell.le_refl _) | (intro i hi; rfl) | (intro i hi; exact absurd hi (Nat.not_lt_zero _)))⟩⟩
      · have h : (!e32 (hQ (lP L k) j.toNat) (hQ (lP K k) j.toNat)) = false := h
        rw [he] at h
        refine Need.mk (by show fitStd .i64 (j + 1); unfold fitStd; omega) fun _ => ?_
        refine ⟨⟨j + 1, by omega, by omega, lix_next hj0 hP (by simpa using h)⟩, [0, 1, 2, 3, 4, 5, 6, 7], (by show lN L k - (j + 1).toNat < lN L k - j.toNat; omega), ?_⟩
        refine ⟨rfl, by show List.Nodup [2, 3, 6, 7]; decide, ?_, ?_⟩ <;> repeat' (first | exact trivial | exact rfl | apply And.intro | exact (fun _ _ _ _ => Cell.le_refl _) | (intro i hi; rfl) | (intro i hi; exact absurd hi (Nat.not_lt_zero _)))
    · replace hlt2 : ¬ j < @Nat.cast Int instNatCastInt (lN L k) := of_decide_eq_false (p := j < (lN L k : Int)) hlt2
      have q6 : lP L k = lP K k := list_eq [] (by omega) (j := j.toNat) (by omega) fun i hi => by have := hP i hi; simpa [sumAt] using this
      refine exec_ok (N := env (lft Try.prog 2) 0 .std tbQ [] [(6, [(9999, true), (0, true), (1, true), (2, true), (3, true), (5, true), (6, true), (7, true), (8, true), (3004, false), (3009, false), (3010, false), (11, false), (12, false), (13, false), (2999, false), (11, false), (10, false), (12, false), (13, false), (2999, false), (3010, false), (3009, false), (11, false), (12, false), (13, false), (2999, false), (11, false), (3009, false), (12, false), (13, false), (2999, false), (12, false), (9, false), (13, false), (2999, false), (11, false), (3009, false), (10, false), (12, false), (13, false), (2999, false), (10, false), (3009, false), (12, false), (13, false), (2999, false), (12, false), (9, false), (13, false), (2999, false), (3009, false), (3004, false), (3010, false), (11, false), (12, false), (13, false), (2999, false), (11, false), (10, false), (12, false), (13, false), (2999, false), (3010, false), (3004, false), (11, false), (12, false), (13, false), (2999, false), (11, false), (4, false), (12, false), (13, false), (2999, false), (11, false), (3004, false), (10, false), (12, false), (13, false), (2999, false), (10, false), (4, false), (12, false), (13, false), (2999, false), (3010, false), (3004, false), (3009, false), (11, false), (12, false), (13, false), (2999, false), (11, false), (3009, false), (12, false), (13, false), (2999, false), (12, false), (9, false), (13, false), (2999, false), (3009, false), (3004, false), (11, false), (12, false), (13, false), (2999, false), (11, false), (4, false), (12, false), (13, false), (2999, false), (11, false), (3004, false), (3009, false), (12, false), (13, false), (2999, false), (12, false), (9, false), (13, false), (2999, false), (9, false), (4, false), (12, false), (13, false), (2999, false), (11, false), (3004, false), (3009, false), (10, false), (12, false), (13, false), (2999, false), (10, false), (3009, false), (12, false), (13, false), (2999, false), (12, false), (9, false), (13, false), (2999, false), (3009, false), (3004, false), (10, false), (12, false), (13, false), (2999, false), (10, false), (4, false), (12, false), (13, false), (2999, false), (10, false), (3004, false), (3009, false), (12, false), (13, false), (2999, false), (12, false), (9, false), (13, false), (2999, false), (9, false), (4, false), (12, false), (13, false), (2999, false)]), (12, [(0, true), (1, true), (2, true), (3, true), (4, true), (5, true), (6, true), (7, true), (8, true), (9, true), (10, true)])]) rfl tbQ_ok hC (fun c st K _ h => h) (by kernel_rfl) [] _ _ _ (by kernel_rfl) ?_
      generalize hL : lft Try.prog _ = L
      try unfold leafG
      generalize ho0 : @lK = zo0, ho1 : @lV = zo1, ho2 : @lI = zo2, ho3 : @lP = zo3, ho4 : @lN = zo4, ho5 : @leafL = zo5, ho6 : @leavesPre = zo6, ho7 : @hQ = zo7, ho8 : @sumAt = zo8
      generalize hA : Arith.std = A
      cbv
      subst hA hL ho0 ho1 ho2 ho3 ho4 ho5 ho6 ho7 ho8
      refine Need.mk (by show fitStd .i64 ((k : Int) + 1); unfold fitStd; omega) fun _ => ?_
      refine ⟨⟨(k : Int) + 1, k + 1, by omega, by omega, take_eq hkL hkK htk q1 q2 q3 q6⟩, [0, 1, 2, 3], (by show n - (k + 1) < n - k; omega), ?_⟩
      refine ⟨rfl, by show List.Nodup [2, 3]; decide, ?_, ?_⟩ <;> repeat' (first | exact trivial | exact rfl | apply And.intro | exact (fun _ _ _ _ => Cell.le_refl _) | (intro i hi; rfl) | (intro i hi; exact absurd hi (Nat.not_lt_zero _)))

end Go.Proofs.Ytcgoaicifjndpaa.Vx
end
