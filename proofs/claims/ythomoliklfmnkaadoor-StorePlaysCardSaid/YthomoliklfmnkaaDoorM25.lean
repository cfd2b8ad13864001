/- Sums over pairs, roots, copies of stores, by the walker. -/
import Derived.Test.YthomoliklfmnkaaDoorM22
import Derived.Test.YthomoliklfmnkaaDoorM24
import Derived.Test.YthomoliklfmnkaaDoorM12
section
namespace Go.Proofs.YthomoliklfmnkaaDoor.Vx
open Sha
open Go.RowKit
set_option linter.unusedVariables false
set_option linter.unusedSimpArgs false
/-- The sums of pairs, as cells. -/
def lfG (L : List PP) (i : Nat) : List CV := hashC (leafF (prK L i) (prV L i))
theorem lfG_hash (L : List PP) (n : Nat) : HashesAt n (lfG L) := fun i _ => hashC_sum _
def rootL (L : List PP) : Nat → Int := rootF (L.length : Int) (u8s (hashC (topG (lfG L) L.length)))
def sumsPre (gg sz0 n0 : Nat) (get0 : Nat → List CV) (ty one n : Nat) (get : Nat → List CV) : Prop := KsAt gg sz0 n0 get0 ∧ prPre ty one n get ∧ AllSz (prL n get)
structure LSm (n : Nat) where
  j : Nat
  h1 : j ≤ n
theorem lf_push {L : List PP} {m : Nat} (j : Nat) (hj : j < m + 1) : pushG m (lfG L) (hashC (leafF (prK L m) (prV L m))) j = lfG L j := by
  unfold pushG
  by_cases h : j < m
  · rw [show Nat.blt j m = true by rw [Nat.blt_eq]; exact h]
  · rw [show Nat.blt j m = false by rw [Bool.eq_false_iff]; intro h2; rw [Nat.blt_eq] at h2; exact h h2]
    obtain rfl : j = m := by omega
    rfl
def tbRt : Tbl where
  T :=
    (3, ⟨1, false, [.int .i64 (0)], .int .i64, 8⟩) ::
    (4, ⟨1, false, [.ff], .bool, 1⟩) ::
    (9, ⟨1, false, [.str []], .str, 16⟩) ::
    (63, ⟨2, true, [.str [], .str []], .struct [(0, (1, false)), (1, (1, false))], 32⟩) ::
    (31, ⟨1, false, [.val (.slice none 0 0)], .slice 63, 24⟩) ::
    (24, ⟨32, true, [.int .u8 (0), .int .u8 (0), .int .u8 (0), .int .u8 (0), .int .u8 (0), .int .u8 (0), .int .u8 (0), .int .u8 (0), .int .u8 (0), .int .u8 (0), .int .u8 (0), .int .u8 (0), .int .u8 (0), .int .u8 (0), .int .u8 (0), .int .u8 (0), .int .u8 (0), .int .u8 (0), .int .u8 (0), .int .u8 (0), .int .u8 (0), .int .u8 (0), .int .u8 (0), .int .u8 (0), .int .u8 (0), .int .u8 (0), .int .u8 (0), .int .u8 (0), .int .u8 (0), .int .u8 (0), .int .u8 (0), .int .u8 (0)], .array 32 5, 32⟩) ::
    (113, ⟨1, false, [.val (.slice none 0 0)], .slice 24, 24⟩) ::
    (137, ⟨1, true, [.val (.slice none 0 0)], .struct [(0, (1, false))], 24⟩) ::
    (53, ⟨1, false, [.val (.pointer none)], .ptr 137, 8⟩) ::
    []
  F :=
    (24, [0, 0, 0, 0, 0, 0, 0, 0, 0, 0, 0, 0, 0, 0, 0, 0, 0, 0, 0, 0, 0, 0, 0, 0, 0, 0, 0, 0, 0, 0, 0, 0]) ::
    []

theorem tbRt_ok : tbRt.Ok Tryd.prog where
  T :=
    TblOk.cons (by kernel_rfl) <|
    TblOk.cons (by kernel_rfl) <|
    TblOk.cons (by kernel_rfl) <|
    TblOk.cons (by kernel_rfl) <|
    TblOk.cons (by kernel_rfl) <|
    TblOk.cons (by kernel_rfl) <|
    TblOk.cons (by kernel_rfl) <|
    TblOk.cons (by kernel_rfl) <|
    TblOk.cons (by kernel_rfl) <|
    TblOk.nil _
  F :=
    FlatsOk.cons (FlatOk.of (D := .array 32 5) 6 (by decide) (by kernel_rfl) (by kernel_rfl) rfl (by kernel_rfl)) <|
    FlatsOk.nil _

def sSums : SpecF
  | [.c (.row 1)], [.glob gg sz0 n0 get0, .elems ty one n get] => some (sumsPre gg sz0 n0 get0 ty one n get, .c (.row 2), [.dead, .dead, .row 24 32 n (lfG (prL n get))])
  | _, _ => none

set_option maxRecDepth 100000 in
set_option maxHeartbeats 8000000 in
theorem sumsP : Fn Tryd.prog 79 [0] [(63, 2)] sSums := by
  have hC : CtsOk Tryd.prog [(123, appFn [0] [] sLeaf)] := CtsOk.cons (Fn.ct leafP) <| CtsOk.nil _
  refine Fn.of (E := tbRt) [0] 0 [] tbRt_ok hC (by kernel_rfl) Tryd.func79 rfl rfl rfl (by kernel_rfl) (by kernel_rfl) 2 24 32 ?_ ?_
  · intro args h pre r h' hs
    unfold sSums at hs
    split at hs
    · cases hs; exact ⟨rfl, rfl, Nat.le_of_ble_eq_true rfl⟩
    · cases hs
  · intro args h pre r h' hs hp
    unfold sSums at hs
    split at hs
    rotate_left
    · cases hs
    rename_i gg sz0 n0 get0 ty one n get
    cases hs
    obtain ⟨hK, ⟨rfl, rfl, hst, hm⟩, hz⟩ := hp
    refine ⟨[.glob 0 1 64 (fun i => [.int .u32 (kOf i)]), .elems 63 2 n (prG (prL n get))], ⟨hK.same.1, ⟨rfl, rfl, rfl, fun i hi => hst.eq hi⟩, trivial⟩, ?_⟩
    clear hK
    have hL : (prL n get).length = n := prL_len
    have ePR : prL n (prG (prL n get)) = prL n get := by
      have := prL_prG (prL n get)
      rwa [hL] at this
    generalize prL n get = L at hL hz ePR ⊢
    generalize hg0 : (List.length : List PP → Nat) = g0
    generalize hL : lft Tryd.prog _ = L
    try unfold prG
    generalize ho0 : @prK = zo0, ho1 : @prV = zo1, ho2 : @prL = zo2, ho3 : @leafF = zo3, ho4 : @leafPre = zo4, ho5 : @kOf = zo5, ho6 : @lfG = zo6, ho7 : @sumsPre = zo7
    generalize hA : Arith.std = A
    cbv
    subst hA hg0 hL ho0 ho1 ho2 ho3 ho4 ho5 ho6 ho7
    refine Runs.nilTmp 3 24 32 (lfG L) rfl ?_
    show Runs Tryd.prog 2 (.loop _) _ _
    refine loop_ruleR (N := env (lft Tryd.prog 2) 0 .std tbRt [(123, appFn [0] [] sLeaf)] []) rfl tbRt_ok hC (fun c st K _ h => h) (by kernel_rfl) [0] (X := LSm n)
      (S := fun x => ⟨[.any, .any, .any, .c (.row 2), .any, .any, .c (.row 1), .c (.int .i64 n), .c (.int .i64 (x.j : Int))] ++ List.replicate 13 .any, [.glob 0 1 64 (fun i => [.int .u32 (kOf i)]), .elems 63 2 n (prG L), .row 24 32 x.j (lfG L)]⟩) (μ := fun x => n - x.j) ⟨0, Nat.zero_le _⟩ (by kernel_rfl) [0, 1, 2] ?_ ?_
    · refine ⟨rfl, by decide, ?_, ?_⟩ <;> repeat' (first | exact trivial | exact rfl | apply And.intro | exact (fun _ _ _ _ => Cell.le_refl _) | (intro i hi; rfl) | (intro i hi; exact absurd hi (Nat.not_lt_zero _)))
    rintro ⟨j, hjn⟩
    unfold sLeaf
    generalize hg0 : (List.length : List PP → Nat) = g0
    generalize hL : lft Tryd.prog _ = L
    try dsimp only
    try unfold prG
    generalize ho0 : @prK = zo0, ho1 : @prV = zo1, ho2 : @prL = zo2, ho3 : @leafF = zo3, ho4 : @leafPre = zo4, ho5 : @kOf = zo5, ho6 : @lfG = zo6, ho7 : @sumsPre = zo7
    generalize hA : Arith.std = A
    cbv
    subst hA hg0 hL ho0 ho1 ho2 ho3 ho4 ho5 ho6 ho7
    refine Ife.mk (fun h => ?_) (fun h => ?_)
    · have h : (j : Int) < (@Nat.cast Int instNatCastInt n) := of_decide_eq_true (p := (j : Int) < (n : Int)) h
      have hj2 : j < n := Int.ofNat_lt.mp h
      have hsz := szB_iff.1 (hz.at (i := j) (by omega))
      refine Need.mk (by show 0 ≤ (j : Int) ∧ (j : Int) < (n : Int); omega) fun _ => Need.mk (by show (j : Int).toNat < n; omega) fun _ => ?_
      refine Need.mk ⟨ksAt_self, by show (prK L j).length ≤ 1000000000; omega, by show (prV L j).length ≤ 1000000000; omega⟩ fun _ => ?_
      refine Need.mk (by show j + 1 ≤ maxLen ∧ (j + 1) * 32 ≤ 140737488355328; unfold maxLen; omega) fun _ => Need.mk (by show fitStd .i64 ((j : Int) + 1); unfold fitStd; omega) fun _ => ?_
      have hp := lf_push (L := L) (m := j)
      refine ⟨⟨j + 1, by omega⟩, [0, 1, 5], (by show n - (j + 1) < n - j; omega), ?_⟩
      refine ⟨rfl, (by decide), ?_, ?_⟩ <;> repeat' (first | exact trivial | exact hp | exact ej | exact rfl | apply And.intro | exact (fun _ _ _ _ => Cell.le_refl _) | (intro i hi; rfl) | (intro i hi; exact absurd hi (Nat.not_lt_zero _)))
    · have h : ¬ (j : Int) < (@Nat.cast Int instNatCastInt n) := of_decide_eq_false (p := (j : Int) < (n : Int)) h
      have ej : j = n := by have : ¬ j < n := fun q => h (Int.ofNat_lt.mpr q)
                            omega
      exact ⟨[0, 1, 2], ⟨rfl, (by repeat' (first | exact trivial | exact hp | exact ej | exact rfl | apply And.intro | exact (fun _ _ _ _ => Cell.le_refl _) | (intro i hi; rfl) | (intro i hi; exact absurd hi (Nat.not_lt_zero _)))), (by show List.Nodup [2]; decide), rfl, by repeat' (first | exact trivial | exact hp | exact ej | exact rfl | apply And.intro | exact (fun _ _ _ _ => Cell.le_refl _) | (intro i hi; rfl) | (intro i hi; exact absurd hi (Nat.not_lt_zero _)))⟩⟩

def sPRoot : SpecF
  | [.c (.row 1)], [.glob gg sz0 n0 get0, .elems ty one n get] => some (sumsPre gg sz0 n0 get0 ty one n get, .agg (hashC (rootL (prL n get))), [.dead, .dead])
  | _, _ => none

set_option maxRecDepth 100000 in
set_option maxHeartbeats 8000000 in
theorem pRootP : Fn Tryd.prog 19 [0] [(63, 2)] sPRoot := by
  have hC : CtsOk Tryd.prog [(79, appFn [0] [(63, 2)] sSums), (78, appFn [0] [(24, 32)] sTop), (77, appFn [0] [] sRoot)] := CtsOk.cons (Fn.ct sumsP) <| CtsOk.cons (Fn.ct topP) <| CtsOk.cons (Fn.ct rootP) <| CtsOk.nil _
  refine Fn.of (E := tbRt) [0] 0 [] tbRt_ok hC (by kernel_rfl) Tryd.func19 rfl rfl rfl (by kernel_rfl) (by kernel_rfl) 2 24 32 ?_ ?_
  · intro args h pre r h' hs
    unfold sPRoot at hs
    split at hs
    · cases hs; exact ⟨rfl, rfl, Nat.le_of_ble_eq_true rfl⟩
    · cases hs
  · intro args h pre r h' hs hp
    unfold sPRoot at hs
    split at hs
    rotate_left
    · cases hs
    rename_i gg sz0 n0 get0 ty one n get
    cases hs
    obtain ⟨hK, ⟨rfl, rfl, hst, hm⟩, hz⟩ := hp
    refine ⟨[.glob 0 1 64 (fun i => [.int .u32 (kOf i)]), .elems 63 2 n (prG (prL n get))], ⟨hK.same.1, ⟨rfl, rfl, rfl, fun i hi => hst.eq hi⟩, trivial⟩, ?_⟩
    clear hK
    have hL : (prL n get).length = n := prL_len
    have ePR : prL n (prG (prL n get)) = prL n get := by
      have := prL_prG (prL n get)
      rwa [hL] at this
    generalize prL n get = L at hL hz ePR ⊢
    unfold sSums sTop sRoot
    generalize hg0 : (List.length : List PP → Nat) = g0
    try unfold prG
    generalize ho0 : @prK = zo0, ho1 : @prV = zo1, ho2 : @prL = zo2, ho3 : @topG = zo3, ho4 : @topPre0 = zo4, ho5 : @rootF = zo5, ho6 : @rootPre = zo6, ho7 : @kOf = zo7, ho8 : @u8s = zo8, ho9 : @lfG = zo9, ho10 : @rootL = zo10, ho11 : @sumsPre = zo11
    generalize hA : Arith.std = A
    cbv
    subst hA hg0 ho0 ho1 ho2 ho3 ho4 ho5 ho6 ho7 ho8 ho9 ho10 ho11
    refine Need.mk ⟨ksAt_self, ⟨rfl, rfl, prAt_prG _ L, hm⟩, by rw [ePR]; exact hz⟩ fun _ => ?_
    rw [ePR]
    refine Need.mk ⟨ksAt_self, rfl, rfl, lfG_hash L n, by show n ≤ 1073741824; omega⟩ fun _ => ?_
    refine Need.mk ⟨ksAt_self, topG_hash (lfG_hash L n) 0 n (by omega)⟩ fun _ => ?_
    have eR : rootL L = rootF (n : Int) (u8s (hashC (topG (lfG L) n))) := by unfold rootL; rw [hL]
    rw [eR]
    exact ⟨[0, 1], ⟨rfl, (by repeat' (first | exact trivial | exact rfl | apply And.intro | exact (fun _ _ _ _ => Cell.le_refl _) | (intro i hi; rfl) | (intro i hi; exact absurd hi (Nat.not_lt_zero _)))), (by decide), rfl, by repeat' (first | exact trivial | exact rfl | apply And.intro | exact (fun _ _ _ _ => Cell.le_refl _) | (intro i hi; rfl) | (intro i hi; exact absurd hi (Nat.not_lt_zero _)))⟩⟩

end Go.Proofs.YthomoliklfmnkaaDoor.Vx
end

section
/- Stores: Root, Copy, Pairs; sorted lists with the same members. -/
namespace Go.Proofs.YthomoliklfmnkaaDoor.Vx
open Sha
open Go.RowKit
set_option linter.unusedVariables false
set_option linter.unusedSimpArgs false
theorem mem_findB {L : List PP} (hs : StS L) {p : PP} (hp : p ∈ L) : findB L p.1 = true ∧ findI L p.1 < L.length ∧ L[findI L p.1]? = some p := by
  obtain ⟨i, hi, rfl⟩ := List.getElem_of_mem hp
  have e : findI L L[i].1 = i := findI_uniq hs (by omega) (fun j hj => by rw [← prK_eq hi]; exact hs.at hj hi) fun j h1 h2 => by
    rcases Nat.eq_or_lt_of_le h1 with h3 | h3
    · subst h3; rw [prK_eq hi]; exact lt_irr _
    · rw [← prK_eq hi]; exact lt_asym (hs.at h3 h2)
  refine ⟨?_, by rw [e]; exact hi, by rw [e]; exact List.getElem?_eq_getElem hi⟩
  unfold findB
  rw [e, decide_eq_true hi, decide_eq_true (prK_eq hi)]
  rfl
theorem mem_dropL {L : List PP} {k : List UInt8} (hs : StS L) (p : PP) : p ∈ dropL L k ↔ p ∈ L ∧ p.1 ≠ k := by
  unfold dropL
  by_cases hb : findB L k = true
  · obtain ⟨h1, h2⟩ := findB_eq hb
    rw [if_pos hb, List.eraseIdx_eq_take_drop_succ, List.mem_append]
    have hmid : L[findI L k].1 = k := by rw [← prK_eq h1]; exact h2
    constructor
    · rintro (h | h)
      · refine ⟨List.mem_of_mem_take h, fun hk => ?_⟩
        obtain ⟨i, hi, rfl⟩ := List.getElem_of_mem h
        rw [List.length_take] at hi
        rw [List.getElem_take] at hk
        have := hs.at (i := i) (j := findI L k) (by omega) h1
        rw [prK_eq (by omega), prK_eq h1, hk, hmid, lt_irr] at this
        cases this
      · refine ⟨List.mem_of_mem_drop h, fun hk => ?_⟩
        obtain ⟨i, hi, rfl⟩ := List.getElem_of_mem h
        rw [List.length_drop] at hi
        rw [List.getElem_drop] at hk
        have := hs.at (i := findI L k) (j := findI L k + 1 + i) (by omega) (by omega)
        rw [prK_eq h1, prK_eq (by omega), hmid, hk, lt_irr] at this
        cases this
    · rintro ⟨hp, hk⟩
      obtain ⟨i, hi, rfl⟩ := List.getElem_of_mem hp
      rcases Nat.lt_trichotomy i (findI L k) with h3 | h3 | h3
      · exact Or.inl (List.mem_iff_getElem.2 ⟨i, by rw [List.length_take]; omega, by rw [List.getElem_take]⟩)
      · subst h3; exact absurd hmid hk
      · exact Or.inr (List.mem_iff_getElem.2 ⟨i - (findI L k + 1), by rw [List.length_drop]; omega, by rw [List.getElem_drop]; congr 1; omega⟩)
  · rw [if_neg hb]
    refine ⟨fun hp => ⟨hp, fun hk => hb ?_⟩, fun h => h.1⟩
    rw [← hk]
    exact (mem_findB hs hp).1
def sSRoot : SpecF
  | [.c (.ptr 1 0)], [.glob gg sz0 n0 get0, .cells t [.row 2], .row ty one n get] => some (t = 137 ∧ sumsPre gg sz0 n0 get0 ty one n get, .agg (hashC (rootL (prL n get))), [.dead, .cells 137 [.row 2], .row 63 2 n (prG (prL n get))])
  | _, _ => none

set_option maxRecDepth 100000 in
set_option maxHeartbeats 8000000 in
theorem sRootP : Fn Tryd.prog 41 [0] [] sSRoot := by
  have hC : CtsOk Tryd.prog [(19, appFn [0] [(63, 2)] sPRoot)] := CtsOk.cons (Fn.ct pRootP) <| CtsOk.nil _
  refine Fn.of (E := tbRt) [0] 0 [] tbRt_ok hC (by kernel_rfl) Tryd.func41 rfl rfl rfl (by kernel_rfl) (by kernel_rfl) 3 63 2 ?_ ?_
  · intro args h pre r h' hs
    unfold sSRoot at hs
    split at hs
    · cases hs; exact ⟨rfl, rfl, Nat.le_of_ble_eq_true rfl⟩
    · cases hs
  · intro args h pre r h' hs hp
    unfold sSRoot at hs
    split at hs
    rotate_left
    · cases hs
    rename_i gg sz0 n0 get0 t ty one n get
    cases hs
    obtain ⟨rfl, hK, ⟨rfl, rfl, hst, hm⟩, hz⟩ := hp
    refine ⟨[.glob 0 1 64 (fun i => [.int .u32 (kOf i)]), .cells 137 [.row 2], .row 63 2 n (prG (prL n get))], ⟨hK.same.1, rfl, ⟨rfl, rfl, rfl, fun i hi => hst.eq hi⟩, trivial⟩, ?_⟩
    clear hK
    have hL : (prL n get).length = n := prL_len
    have ePR : prL n (prG (prL n get)) = prL n get := by
      have := prL_prG (prL n get)
      rwa [hL] at this
    generalize prL n get = L at hL hz ePR ⊢
    unfold sPRoot
    generalize hg0 : (List.length : List PP → Nat) = g0
    try unfold prG
    generalize ho0 : @prK = zo0, ho1 : @prV = zo1, ho2 : @prL = zo2, ho3 : @kOf = zo3, ho4 : @rootL = zo4, ho5 : @sumsPre = zo5
    generalize hA : Arith.std = A
    cbv
    subst hA hg0 ho0 ho1 ho2 ho3 ho4 ho5
    refine Need.mk ⟨ksAt_self, ⟨rfl, rfl, prAt_prG _ L, hm⟩, by rw [ePR]; exact hz⟩ fun _ => ?_
    rw [ePR]
    exact ⟨[0, 1, 2], ⟨rfl, (by repeat' (first | exact trivial | exact rfl | apply And.intro | exact (fun _ _ _ _ => Cell.le_refl _) | (intro i hi; rfl) | (intro i hi; exact absurd hi (Nat.not_lt_zero _)))), (by show List.Nodup [1, 2]; decide), rfl, by repeat' (first | exact trivial | exact rfl | apply And.intro | exact (fun _ _ _ _ => Cell.le_refl _) | (intro i hi; rfl) | (intro i hi; exact absurd hi (Nat.not_lt_zero _)))⟩⟩

def sPairs : SpecF
  | [.c (.ptr 0 0)], [.cells t [.row 1], .row ty one n get] => some (t = 137 ∧ prPre ty one n get, .c (.row 2), [.cells 137 [.row 1], .row 63 2 n (prG (prL n get)), .row 63 2 n (prG (prL n get))])
  | _, _ => none

set_option maxRecDepth 100000 in
set_option maxHeartbeats 8000000 in
theorem pairsP : Fn Tryd.prog 44 [] [] sPairs := by
  have hC : CtsOk Tryd.prog [(102, appFn [] [(63, 2)] sCloneP)] := CtsOk.cons (Fn.ct clonePP) <| CtsOk.nil _
  refine Fn.of (E := tbRt) [] 0 [] tbRt_ok hC (by kernel_rfl) Tryd.func44 rfl rfl rfl (by kernel_rfl) (by kernel_rfl) 2 63 2 ?_ ?_
  · intro args h pre r h' hs
    unfold sPairs at hs
    split at hs
    · cases hs; exact ⟨rfl, rfl, Nat.le_of_ble_eq_true rfl⟩
    · cases hs
  · intro args h pre r h' hs hp
    unfold sPairs at hs
    split at hs
    rotate_left
    · cases hs
    rename_i t ty one n get
    cases hs
    obtain ⟨rfl, rfl, rfl, hst, hm⟩ := hp
    refine ⟨[.cells 137 [.row 1], .row 63 2 n (prG (prL n get))], ⟨rfl, ⟨rfl, rfl, rfl, fun i hi => hst.eq hi⟩, trivial⟩, ?_⟩
    have hL : (prL n get).length = n := prL_len
    have ePR : prL n (prG (prL n get)) = prL n get := by
      have := prL_prG (prL n get)
      rwa [hL] at this
    generalize prL n get = L at hL ePR ⊢
    unfold sCloneP
    generalize hg0 : (List.length : List PP → Nat) = g0
    try unfold prG
    generalize ho0 : @prK = zo0, ho1 : @prV = zo1, ho2 : @prL = zo2, ho3 : @prPre = zo3
    generalize hA : Arith.std = A
    cbv
    subst hA hg0 ho0 ho1 ho2 ho3
    refine Need.mk ⟨rfl, rfl, prAt_prG n L, hm⟩ fun _ => ?_
    rw [ePR]
    exact ⟨[0, 1, 3], ⟨rfl, (by repeat' (first | exact trivial | exact rfl | apply And.intro | exact (fun _ _ _ _ => Cell.le_refl _) | (intro i hi; rfl) | (intro i hi; exact absurd hi (Nat.not_lt_zero _)))), (by show List.Nodup [0, 1, 3]; decide), rfl, by repeat' (first | exact trivial | exact rfl | apply And.intro | exact (fun _ _ _ _ => Cell.le_refl _) | (intro i hi; rfl) | (intro i hi; exact absurd hi (Nat.not_lt_zero _)))⟩⟩

def sCopy : SpecF
  | [.c (.ptr 0 0)], [.cells t [.row 1], .row ty one n get] => some (t = 137 ∧ prPre ty one n get, .c (.ptr 2 0), [.cells 137 [.row 1], .row 63 2 n (prG (prL n get)), .cells 137 [.row 3], .row 63 2 n (prG (prL n get))])
  | _, _ => none

set_option maxRecDepth 100000 in
set_option maxHeartbeats 8000000 in
theorem copyP : Fn Tryd.prog 43 [] [] sCopy := by
  have hC : CtsOk Tryd.prog [(102, appFn [] [(63, 2)] sCloneP)] := CtsOk.cons (Fn.ct clonePP) <| CtsOk.nil _
  refine Fn.of (E := tbRt) [] 0 [] tbRt_ok hC (by kernel_rfl) Tryd.func43 rfl rfl rfl (by kernel_rfl) (by kernel_rfl) 2 63 2 ?_ ?_
  · intro args h pre r h' hs
    unfold sCopy at hs
    split at hs
    · cases hs; exact ⟨rfl, rfl, Nat.le_of_ble_eq_true rfl⟩
    · cases hs
  · intro args h pre r h' hs hp
    unfold sCopy at hs
    split at hs
    rotate_left
    · cases hs
    rename_i t ty one n get
    cases hs
    obtain ⟨rfl, rfl, rfl, hst, hm⟩ := hp
    refine ⟨[.cells 137 [.row 1], .row 63 2 n (prG (prL n get))], ⟨rfl, ⟨rfl, rfl, rfl, fun i hi => hst.eq hi⟩, trivial⟩, ?_⟩
    have hL : (prL n get).length = n := prL_len
    have ePR : prL n (prG (prL n get)) = prL n get := by
      have := prL_prG (prL n get)
      rwa [hL] at this
    generalize prL n get = L at hL ePR ⊢
    unfold sCloneP
    generalize hg0 : (List.length : List PP → Nat) = g0
    try unfold prG
    generalize ho0 : @prK = zo0, ho1 : @prV = zo1, ho2 : @prL = zo2, ho3 : @prPre = zo3
    generalize hA : Arith.std = A
    cbv
    subst hA hg0 ho0 ho1 ho2 ho3
    refine Need.mk ⟨rfl, rfl, prAt_prG n L, hm⟩ fun _ => ?_
    rw [ePR]
    exact ⟨[0, 1, 4, 3], ⟨rfl, (by repeat' (first | exact trivial | exact rfl | apply And.intro | exact (fun _ _ _ _ => Cell.le_refl _) | (intro i hi; rfl) | (intro i hi; exact absurd hi (Nat.not_lt_zero _)))), (by show List.Nodup [0, 1, 4, 3]; decide), rfl, by repeat' (first | exact trivial | exact rfl | apply And.intro | exact (fun _ _ _ _ => Cell.le_refl _) | (intro i hi; rfl) | (intro i hi; exact absurd hi (Nat.not_lt_zero _)))⟩⟩

end Go.Proofs.YthomoliklfmnkaaDoor.Vx
end

section
/- ligkeep.Pairs, by the walker. -/
namespace Go.Proofs.YthomoliklfmnkaaDoor.Vx
open Sha
open Go.RowKit
set_option linter.unusedVariables false
set_option linter.unusedSimpArgs false
structure LKp (A B : List PP) (n : Nat) where
  j : Nat
  h1 : j ≤ n
  h2 : ∀ q, q < j → prK A q = prK B q ∧ prV A q = prV B q
theorem pp_eq {A B : List PP} (hl : A.length = B.length) (h : ∀ q, q < A.length → prK A q = prK B q ∧ prV A q = prV B q) : A = B := by
  apply List.ext_getElem hl
  intro i h1 h2
  have := h i h1
  rw [prK_eq h1, prK_eq h2, prV_eq h1, prV_eq h2] at this
  exact Prod.ext this.1 this.2
def tbK : Tbl where
  T :=
    (3, ⟨1, false, [.int .i64 (0)], .int .i64, 8⟩) ::
    (4, ⟨1, false, [.ff], .bool, 1⟩) ::
    (9, ⟨1, false, [.str []], .str, 16⟩) ::
    (46, ⟨2, true, [.str [], .str []], .struct [(0, (1, false)), (1, (1, false))], 32⟩) ::
    (22, ⟨1, false, [.val (.slice none 0 0)], .slice 46, 24⟩) ::
    (63, ⟨2, true, [.str [], .str []], .struct [(0, (1, false)), (1, (1, false))], 32⟩) ::
    (31, ⟨1, false, [.val (.slice none 0 0)], .slice 63, 24⟩) ::
    []
  F :=
    []

theorem tbK_ok : tbK.Ok Tryd.prog where
  T :=
    TblOk.cons (by kernel_rfl) <|
    TblOk.cons (by kernel_rfl) <|
    TblOk.cons (by kernel_rfl) <|
    TblOk.cons (by kernel_rfl) <|
    TblOk.cons (by kernel_rfl) <|
    TblOk.cons (by kernel_rfl) <|
    TblOk.cons (by kernel_rfl) <|
    TblOk.nil _
  F :=
    FlatsOk.nil _

def sKPairs : SpecF
  | [.c (.row 0), .c (.row 1)], [.elems ty one n get, .elems ty' one' n' get'] => some (prPre ty one n get ∧ prPreR ty' one' n' get', .c (.bool (decide (prL n get = prL n' get'))), [.dead, .dead])
  | _, _ => none

set_option maxRecDepth 100000 in
set_option maxHeartbeats 8000000 in
theorem kPairsP : Fn Tryd.prog 45 [] [(63, 2), (46, 2)] sKPairs := by
  have hC : CtsOk Tryd.prog [] := CtsOk.nil _
  refine Fn.of (E := tbK) [] 0 [(6, [(0, true), (1, true), (2, true), (3, true), (4, true), (5, true), (6, true), (7, true), (8, true), (9, true), (10, true), (11, true), (12, true), (13, true), (14, true), (15, true), (16, true), (17, true), (18, true), (19, true), (20, true), (21, true), (22, true), (23, true)])] tbK_ok hC (by kernel_rfl) Tryd.func45 rfl rfl rfl (by kernel_rfl) (by kernel_rfl) 2 63 2 ?_ ?_
  · intro args h pre r h' hs
    unfold sKPairs at hs
    split at hs
    · cases hs; exact ⟨rfl, rfl, Nat.le_of_ble_eq_true rfl⟩
    · cases hs
  · intro args h pre r h' hs hp
    unfold sKPairs at hs
    split at hs
    rotate_left
    · cases hs
    rename_i ty one n get ty' one' n' get'
    cases hs
    obtain ⟨⟨rfl, rfl, hst, hm⟩, ⟨rfl, rfl, hst', hm'⟩⟩ := hp
    refine ⟨[.elems 63 2 n (prG (prL n get)), .elems 46 2 n' (prG (prL n' get'))], ⟨⟨rfl, rfl, rfl, fun i hi => hst.eq hi⟩, ⟨rfl, rfl, rfl, fun i hi => hst'.eq hi⟩, trivial⟩, ?_⟩
    have hA : (prL n get).length = n := prL_len
    have hB : (prL n' get').length = n' := prL_len
    generalize prL n get = P at hA ⊢
    generalize prL n' get' = Q at hB ⊢
    generalize hg0 : (List.length : List PP → Nat) = g0
    generalize hL : lft Tryd.prog _ = L
    try unfold prG
    generalize ho0 : @prK = zo0, ho1 : @prV = zo1, ho2 : @prL = zo2, ho3 : @prPre = zo3, ho4 : @prPreR = zo4
    generalize hA : Arith.std = A
    cbv
    subst hA hg0 hL ho0 ho1 ho2 ho3 ho4
    refine Ife.mk (fun h => ?_) (fun h => ?_)
    · have h : (!decide ((n : Int) = (n' : Int))) = true := h
      rw [decide_eq_false (show ¬ P = Q from fun e => by rw [e] at hA; rw [← hA, ← hB] at h; simp at h)]
      exact ⟨[0, 1], ⟨rfl, (by repeat' (first | exact trivial | exact rfl | apply And.intro | exact (fun _ _ _ _ => Cell.le_refl _) | (intro i hi; rfl) | (intro i hi; exact absurd hi (Nat.not_lt_zero _)))), (by decide), rfl, by repeat' (first | exact trivial | exact rfl | apply And.intro | exact (fun _ _ _ _ => Cell.le_refl _) | (intro i hi; rfl) | (intro i hi; exact absurd hi (Nat.not_lt_zero _)))⟩⟩
    · have h : (!decide ((n : Int) = (n' : Int))) = false := h
      have hnn : n = n' := by have h9 : (n : Int) = (n' : Int) := by simpa using h
                              omega
      subst hnn
      show Runs Tryd.prog 2 (.loop _) _ _
      refine loop_ruleR (N := env (lft Tryd.prog 2) 0 .std tbK [] [(6, [(0, true), (1, true), (2, true), (3, true), (4, true), (5, true), (6, true), (7, true), (8, true), (9, true), (10, true), (11, true), (12, true), (13, true), (14, true), (15, true), (16, true), (17, true), (18, true), (19, true), (20, true), (21, true), (22, true), (23, true)])]) rfl tbK_ok hC (fun c st K _ h => h) (by kernel_rfl) [] (X := LKp P Q n)
        (S := fun x => ⟨[.c (.row 0), .c (.row 1), .any, .any, .any, .c (.int .i64 (x.j : Int))] ++ List.replicate 35 .any, [.elems 63 2 n (prG P), .elems 46 2 n (prG Q)]⟩) (μ := fun x => n - x.j) ⟨0, Nat.zero_le _, fun q hq => absurd hq (by omega)⟩ (by kernel_rfl) [0, 1] ?_ ?_
      · refine ⟨rfl, by decide, ?_, ?_⟩ <;> repeat' (first | exact trivial | exact rfl | apply And.intro | exact (fun _ _ _ _ => Cell.le_refl _) | (intro i hi; rfl) | (intro i hi; exact absurd hi (Nat.not_lt_zero _)))
      rintro ⟨j, hjn, hP⟩
      generalize hg0 : (List.length : List PP → Nat) = g0
      generalize hL : lft Tryd.prog _ = L
      try dsimp only
      try unfold prG
      generalize ho0 : @prK = zo0, ho1 : @prV = zo1, ho2 : @prL = zo2, ho3 : @prPre = zo3, ho4 : @prPreR = zo4
      generalize hA : Arith.std = A
      cbv
      subst hA hg0 hL ho0 ho1 ho2 ho3 ho4
      refine Ife.mk (fun h => ?_) (fun h => ?_)
      · have h : (j : Int) < (@Nat.cast Int instNatCastInt n) := of_decide_eq_true (p := (j : Int) < (n : Int)) h
        have hj2 : j < n := Int.ofNat_lt.mp h
        refine Need.mk (by show 0 ≤ (j : Int) ∧ (j : Int) < (n : Int); omega) fun _ => Need.mk (by show (j : Int).toNat < n; omega) fun _ => Need.mk (by show 0 ≤ (j : Int) ∧ (j : Int) < (n : Int); omega) fun _ => Need.mk (by show (j : Int).toNat < n; omega) fun _ => ?_
        refine Ife.mk (fun h2 => ?_) (fun h2 => ?_)
        · have h2 : (!decide (prK P j = prK Q j)) = true := h2
          rw [decide_eq_false (show ¬ P = Q from fun e => by rw [e] at h2; simp at h2)]
          exact ⟨[0, 1], ⟨rfl, (by repeat' (first | exact trivial | exact rfl | apply And.intro | exact (fun _ _ _ _ => Cell.le_refl _) | (intro i hi; rfl) | (intro i hi; exact absurd hi (Nat.not_lt_zero _)))), (by decide), rfl, by repeat' (first | exact trivial | exact rfl | apply And.intro | exact (fun _ _ _ _ => Cell.le_refl _) | (intro i hi; rfl) | (intro i hi; exact absurd hi (Nat.not_lt_zero _)))⟩⟩
        · have h2 : (!decide (prK P j = prK Q j)) = false := h2
          refine Need.mk (by show 0 ≤ (j : Int) ∧ (j : Int) < (n : Int); omega) fun _ => Need.mk (by show (j : Int).toNat < n; omega) fun _ => Need.mk (by show 0 ≤ (j : Int) ∧ (j : Int) < (n : Int); omega) fun _ => Need.mk (by show (j : Int).toNat < n; omega) fun _ => ?_
          refine Ife.mk (fun h3 => ?_) (fun h3 => ?_)
          · have h3 : (!decide (prV P j = prV Q j)) = true := h3
            rw [decide_eq_false (show ¬ P = Q from fun e => by rw [e] at h3; simp at h3)]
            exact ⟨[0, 1], ⟨rfl, (by repeat' (first | exact trivial | exact rfl | apply And.intro | exact (fun _ _ _ _ => Cell.le_refl _) | (intro i hi; rfl) | (intro i hi; exact absurd hi (Nat.not_lt_zero _)))), (by decide), rfl, by repeat' (first | exact trivial | exact rfl | apply And.intro | exact (fun _ _ _ _ => Cell.le_refl _) | (intro i hi; rfl) | (intro i hi; exact absurd hi (Nat.not_lt_zero _)))⟩⟩
          · have h3 : (!decide (prV P j = prV Q j)) = false := h3
            refine Need.mk (by show fitStd .i64 ((j : Int) + 1); unfold fitStd; omega) fun _ => ?_
            refine ⟨⟨j + 1, by omega, fun q hq => by
              by_cases hqj : q = j
              · rw [hqj]; exact ⟨by simpa using h2, by simpa using h3⟩
              · exact hP q (by omega)⟩, [0, 1], (by show n - (j + 1) < n - j; omega), ?_⟩
            refine ⟨rfl, (by decide), ?_, ?_⟩ <;> repeat' (first | exact trivial | exact rfl | apply And.intro | exact (fun _ _ _ _ => Cell.le_refl _) | (intro i hi; rfl) | (intro i hi; exact absurd hi (Nat.not_lt_zero _)))
      · have h : ¬ (j : Int) < (@Nat.cast Int instNatCastInt n) := of_decide_eq_false (p := (j : Int) < (n : Int)) h
        have hj2 : ¬ j < n := fun q => h (Int.ofNat_lt.mpr q)
        rw [decide_eq_true (pp_eq (by omega) fun q hq => hP q (by omega))]
        exact ⟨[0, 1], ⟨rfl, (by repeat' (first | exact trivial | exact rfl | apply And.intro | exact (fun _ _ _ _ => Cell.le_refl _) | (intro i hi; rfl) | (intro i hi; exact absurd hi (Nat.not_lt_zero _)))), (by decide), rfl, by repeat' (first | exact trivial | exact rfl | apply And.intro | exact (fun _ _ _ _ => Cell.le_refl _) | (intro i hi; rfl) | (intro i hi; exact absurd hi (Nat.not_lt_zero _)))⟩⟩

end Go.Proofs.YthomoliklfmnkaaDoor.Vx
end

section
/- The document's Get, Drop, Under, by the walker. -/
namespace Go.Proofs.YthomoliklfmnkaaDoor.Vx
open Sha
open Go.RowKit
set_option linter.unusedVariables false
set_option linter.unusedSimpArgs false
/-- What the document takes out. -/
def flt (f : List UInt8) (L : List PP) : List PP := L.filter fun p => preB f p.1
structure LUdR (L : List PP) (f : List UInt8) (n : Nat) where
  j : Nat
  out : List PP
  h1 : j ≤ n
  h2 : out = flt f (L.take j)
  h3 : out.length ≤ j
theorem flt_take {f : List UInt8} {L : List PP} {j : Nat} (h : j < L.length) : flt f (L.take (j + 1)) = if preB f (prK L j) = true then flt f (L.take j) ++ [(prK L j, prV L j)] else flt f (L.take j) := by
  have e : L[j] = (prK L j, prV L j) := by rw [prK_eq h, prV_eq h]
  unfold flt
  rw [List.take_succ_eq_append_getElem h, List.filter_append, e]
  by_cases hp : preB f (prK L j) = true
  · simp [hp]
  · simp [hp]
theorem prG_cat2 {L : List PP} {c d : Nat} (hc : c ≤ L.length) (i : Nat) : catG c (fun i => prG L (0 + i)) (fun i => prG L (d + i)) i = prG (L.take c ++ L.drop d) i := by
  have hl : (L.take c).length = c := by rw [List.length_take]; omega
  unfold catG
  by_cases h : i < c
  · rw [show Nat.blt i c = true by rw [Nat.blt_eq]; exact h]
    simp only [Nat.zero_add]
    unfold prG prGP prK prV
    simp [List.getD, List.getElem?_append_left (show i < (L.take c).length by omega), List.getElem?_take_of_lt h]
  · rw [show Nat.blt i c = false by rw [Bool.eq_false_iff]; intro h2; rw [Nat.blt_eq] at h2; exact h h2]
    obtain ⟨m, rfl⟩ : ∃ m, i = c + m := ⟨i - c, by omega⟩
    rw [show c + m - c = m by omega]
    unfold prG prGP prK prV
    simp [List.getD, List.getElem?_append_right (show (L.take c).length ≤ c + m by omega), hl]
theorem dropL_cat {L : List PP} {k : List UInt8} (h : findB L k = true) : dropL L k = L.take (findI L k) ++ L.drop (findI L k + 1) := by
  unfold dropL
  rw [if_pos h, List.eraseIdx_eq_take_drop_succ]
def tbR3 : Tbl where
  T :=
    (3, ⟨1, false, [.int .i64 (0)], .int .i64, 8⟩) ::
    (4, ⟨1, false, [.ff], .bool, 1⟩) ::
    (9, ⟨1, false, [.str []], .str, 16⟩) ::
    (46, ⟨2, true, [.str [], .str []], .struct [(0, (1, false)), (1, (1, false))], 32⟩) ::
    (22, ⟨1, false, [.val (.slice none 0 0)], .slice 46, 24⟩) ::
    []
  F :=
    []

theorem tbR3_ok : tbR3.Ok Tryd.prog where
  T :=
    TblOk.cons (by kernel_rfl) <|
    TblOk.cons (by kernel_rfl) <|
    TblOk.cons (by kernel_rfl) <|
    TblOk.cons (by kernel_rfl) <|
    TblOk.cons (by kernel_rfl) <|
    TblOk.nil _
  F :=
    FlatsOk.nil _

def sGetR : SpecF
  | [.c (.row 0), .c (.str k)], [.elems ty one n get] => some (prPreR ty one n get, .tup [(some (.str (getL (prL n get) k)), []), (some (.bool (findB (prL n get) k)), [])], [.dead])
  | _, _ => none

set_option maxRecDepth 100000 in
set_option maxHeartbeats 4000000 in
theorem getRP : Fn Tryd.prog 49 [] [(46, 2)] sGetR := by
  have hC : CtsOk Tryd.prog [(103, appFn [] [(46, 2)] sPlace)] := CtsOk.cons (Fn.ct placeP) <| CtsOk.nil _
  refine Fn.of (E := tbR3) [] 0 [] tbR3_ok hC (by kernel_rfl) Tryd.func49 rfl rfl rfl (by kernel_rfl) (by kernel_rfl) 1 46 2 ?_ ?_
  · intro args h pre r h' hs
    unfold sGetR at hs
    split at hs
    · cases hs; exact ⟨rfl, rfl, Nat.le_of_ble_eq_true rfl⟩
    · cases hs
  · intro args h pre r h' hs hp
    unfold sGetR at hs
    split at hs
    rotate_left
    · cases hs
    rename_i k ty one n get
    cases hs
    obtain ⟨rfl, rfl, hst, hm⟩ := hp
    refine ⟨[.elems 46 2 n (prG (prL n get))], ⟨⟨rfl, rfl, rfl, fun i hi => hst.eq hi⟩, trivial⟩, ?_⟩
    have hL : (prL n get).length = n := prL_len
    have ePR : prL n (prG (prL n get)) = prL n get := by
      have := prL_prG (prL n get)
      rwa [hL] at this
    generalize prL n get = L at hL ePR ⊢
    unfold sPlace
    generalize hg0 : (List.length : List PP → Nat) = g0
    try unfold prG
    generalize ho0 : @prK = zo0, ho1 : @prV = zo1, ho2 : @prL = zo2, ho3 : @findI = zo3, ho4 : @findB = zo4, ho5 : @getL = zo5, ho6 : @prPreR = zo6
    generalize hA : Arith.std = A
    cbv
    subst hA hg0 ho0 ho1 ho2 ho3 ho4 ho5 ho6
    refine Need.mk ⟨rfl, rfl, prAt_prG n L, hm⟩ fun _ => ?_
    simp only [ePR]
    refine Ife.mk (fun h => ?_) (fun h => ?_)
    · have h : findB L k = false := by simpa using (show (!findB L k) = true from h)
      rw [h, show getL L k = [] by unfold getL; rw [if_neg (by rw [h]; simp)]]
      exact ⟨[0], ⟨rfl, (by repeat' (first | exact trivial | exact rfl | apply And.intro | exact (fun _ _ _ _ => Cell.le_refl _) | (intro i hi; rfl) | (intro i hi; exact absurd hi (Nat.not_lt_zero _)))), by decide, rfl, by repeat' (first | exact trivial | exact rfl | apply And.intro | exact (fun _ _ _ _ => Cell.le_refl _) | (intro i hi; rfl) | (intro i hi; exact absurd hi (Nat.not_lt_zero _)))⟩⟩
    have h : findB L k = true := by simpa using (show (!findB L k) = false from h)
    obtain ⟨h1, h2⟩ := findB_eq h
    refine Need.mk (by show 0 ≤ (findI L k : Int) ∧ (findI L k : Int) < (n : Int); omega) fun _ => Need.mk (by show (findI L k : Int).toNat < n; omega) fun _ => ?_
    rw [h, show getL L k = prV L (findI L k) by unfold getL; rw [if_pos h]]
    exact ⟨[0], ⟨rfl, (by repeat' (first | exact trivial | exact rfl | apply And.intro | exact (fun _ _ _ _ => Cell.le_refl _) | (intro i hi; rfl) | (intro i hi; exact absurd hi (Nat.not_lt_zero _)))), by decide, rfl, by repeat' (first | exact trivial | exact rfl | apply And.intro | exact (fun _ _ _ _ => Cell.le_refl _) | (intro i hi; rfl) | (intro i hi; exact absurd hi (Nat.not_lt_zero _)))⟩⟩

def sDropR : SpecF
  | [.c (.row 0), .c (.str k)], [.row ty one n get] => some (prPreR ty one n get, .c (.row 1), [.dead, .row 46 2 (dropL (prL n get) k).length (prG (dropL (prL n get) k))])
  | _, _ => none

set_option maxRecDepth 100000 in
set_option maxHeartbeats 4000000 in
theorem dropRP : Fn Tryd.prog 50 [] [] sDropR := by
  have hC : CtsOk Tryd.prog [(103, appFn [] [(46, 2)] sPlace)] := CtsOk.cons (Fn.ct placeP) <| CtsOk.nil _
  refine Fn.of (E := tbR3) [] 0 [(4, [(0, true), (1, true), (2, true), (4, true), (5, true), (6, true), (7, true), (3, false), (8, false), (9, true)])] tbR3_ok hC (by kernel_rfl) Tryd.func50 rfl rfl rfl (by kernel_rfl) (by kernel_rfl) 1 46 2 ?_ ?_
  · intro args h pre r h' hs
    unfold sDropR at hs
    split at hs
    · cases hs; exact ⟨rfl, rfl, Nat.le_of_ble_eq_true rfl⟩
    · cases hs
  · intro args h pre r h' hs hp
    unfold sDropR at hs
    split at hs
    rotate_left
    · cases hs
    rename_i k ty one n get
    cases hs
    obtain ⟨rfl, rfl, hst, hm⟩ := hp
    refine ⟨[.row 46 2 n (prG (prL n get))], ⟨⟨rfl, rfl, rfl, fun i hi => hst.eq hi⟩, trivial⟩, ?_⟩
    have hL : (prL n get).length = n := prL_len
    have ePR : prL n (prG (prL n get)) = prL n get := by
      have := prL_prG (prL n get)
      rwa [hL] at this
    generalize prL n get = L at hL ePR ⊢
    unfold sPlace
    generalize hg0 : (List.length : List PP → Nat) = g0
    try unfold prG
    generalize ho0 : @prK = zo0, ho1 : @prV = zo1, ho2 : @prL = zo2, ho3 : @findI = zo3, ho4 : @findB = zo4, ho5 : @dropL = zo5, ho6 : @prPreR = zo6
    generalize hA : Arith.std = A
    cbv
    subst hA hg0 ho0 ho1 ho2 ho3 ho4 ho5 ho6
    refine Need.mk ⟨rfl, rfl, prAt_prG n L, hm⟩ fun _ => ?_
    simp only [ePR]
    refine Ife.mk (fun h => ?_) (fun h => ?_)
    · have h : findB L k = false := by simpa using (show (!findB L k) = true from h)
      rw [show dropL L k = L by unfold dropL; rw [if_neg (by rw [h]; simp)], hL]
      exact ⟨[0, 0], ⟨rfl, (by repeat' (first | exact trivial | exact rfl | apply And.intro | exact (fun _ _ _ _ => Cell.le_refl _) | (intro i hi; rfl) | (intro i hi; exact absurd hi (Nat.not_lt_zero _)))), (by show List.Nodup [0]; decide), rfl, by repeat' (first | exact trivial | exact rfl | apply And.intro | exact (fun _ _ _ _ => Cell.le_refl _) | (intro i hi; rfl) | (intro i hi; exact absurd hi (Nat.not_lt_zero _)))⟩⟩
    have h : findB L k = true := by simpa using (show (!findB L k) = false from h)
    obtain ⟨h1, h2⟩ := findB_eq h
    have hlen : ((findI L k : Int) - 0).toNat + ((n : Int) - ((findI L k : Int) + 1)).toNat = (dropL L k).length := by
      rw [dropL_cat h, List.length_append, List.length_take, List.length_drop]; omega
    have hR2 : ∀ i, i < (dropL L k).length → catG ((findI L k : Int) - 0).toNat (fun i => prG L (0 + i)) (fun i => prG L (((findI L k : Int) + 1).toNat + i)) i = prG (dropL L k) i := fun i _ => by
      rw [dropL_cat h, show ((findI L k : Int) - 0).toNat = findI L k by omega, show ((findI L k : Int) + 1).toNat = findI L k + 1 by omega]
      exact prG_cat2 (by omega) i
    refine Need.mk (by show (0 : Int) ≤ 0 ∧ (0 : Int) ≤ (findI L k : Int) ∧ (findI L k : Int) ≤ (n : Int); omega) fun _ => ?_
    refine Need.mk (by show fitStd .i64 ((findI L k : Int) + 1); unfold fitStd; omega) fun _ => ?_
    refine Need.mk (by show 0 ≤ (findI L k : Int) + 1 ∧ (findI L k : Int) + 1 ≤ (n : Int) ∧ (n : Int) ≤ (n : Int); omega) fun _ => ?_
    refine Need.mk (by show (0 + ((findI L k : Int) - 0).toNat ≤ maxLen ∧ (0 + ((findI L k : Int) - 0).toNat) * 32 ≤ 140737488355328) ∧ _; refine ⟨?_, fun i _ => rfl⟩; unfold maxLen; omega) fun _ => ?_
    refine Need.mk (by show (((findI L k : Int) - 0).toNat + ((n : Int) - ((findI L k : Int) + 1)).toNat ≤ maxLen ∧ (((findI L k : Int) - 0).toNat + ((n : Int) - ((findI L k : Int) + 1)).toNat) * 32 ≤ 140737488355328) ∧ _; refine ⟨?_, fun i _ => rfl⟩; unfold maxLen; omega) fun _ => ?_
    have hR1 := (natM ((findI L k : Int) - 0).toNat (((n : Int) - ((findI L k : Int) + 1)).toNat)).trans hlen
    exact ⟨[0, 3], ⟨rfl, (by repeat' (first | exact trivial | exact rfl | apply And.intro | exact (fun _ _ _ _ => Cell.le_refl _) | (intro i hi; rfl) | (intro i hi; exact absurd hi (Nat.not_lt_zero _)))), (by show List.Nodup [3]; decide), rfl, by repeat' (first | exact trivial | exact hR1 | exact hR2 | exact rfl | apply And.intro | exact (fun _ _ _ _ => Cell.le_refl _) | (intro i hi; rfl) | (intro i hi; exact absurd hi (Nat.not_lt_zero _)))⟩⟩

def sUnderR : SpecF
  | [.c (.row 0), .c (.str f)], [.elems ty one n get] => some (prPreR ty one n get, .c (.row 1), [.dead, .row 46 2 (flt f (prL n get)).length (prG (flt f (prL n get)))])
  | _, _ => none

set_option maxRecDepth 100000 in
set_option maxHeartbeats 8000000 in
theorem underRP : Fn Tryd.prog 52 [] [(46, 2)] sUnderR := by
  have hC : CtsOk Tryd.prog [] := CtsOk.nil _
  refine Fn.of (E := tbR3) [] 0 [] tbR3_ok hC (by kernel_rfl) Tryd.func52 rfl rfl rfl (by kernel_rfl) (by kernel_rfl) 1 46 2 ?_ ?_
  · intro args h pre r h' hs
    unfold sUnderR at hs
    split at hs
    · cases hs; exact ⟨rfl, rfl, Nat.le_of_ble_eq_true rfl⟩
    · cases hs
  · intro args h pre r h' hs hp
    unfold sUnderR at hs
    split at hs
    rotate_left
    · cases hs
    rename_i f ty one n get
    cases hs
    obtain ⟨rfl, rfl, hst, hm⟩ := hp
    refine ⟨[.elems 46 2 n (prG (prL n get))], ⟨⟨rfl, rfl, rfl, fun i hi => hst.eq hi⟩, trivial⟩, ?_⟩
    have hL : (prL n get).length = n := prL_len
    have ePR : prL n (prG (prL n get)) = prL n get := by
      have := prL_prG (prL n get)
      rwa [hL] at this
    generalize prL n get = L at hL ePR ⊢
    generalize hg0 : (List.length : List PP → Nat) = g0
    generalize hL : lft Tryd.prog _ = L
    try unfold prG
    generalize ho0 : @prK = zo0, ho1 : @prV = zo1, ho2 : @prL = zo2, ho3 : @preB = zo3, ho4 : @prPreR = zo4, ho5 : @flt = zo5
    generalize hA : Arith.std = A
    cbv
    subst hA hg0 hL ho0 ho1 ho2 ho3 ho4 ho5
    refine Runs.nilTmp 5 46 2 (prG []) rfl ?_
    show Runs Tryd.prog 1 (.loop _) _ _
    refine loop_ruleR (N := env (lft Tryd.prog 1) 0 .std tbR3 [] []) rfl tbR3_ok hC (fun c st K _ h => h) (by kernel_rfl) [] (X := LUdR L f n)
      (S := fun x => ⟨[.c (.row 0), .c (.str f), .any, .any, .any, .c (.row 1), .c (.int .i64 (x.j : Int))] ++ List.replicate 35 .any, [.elems 46 2 n (prG L), .row 46 2 x.out.length (prG x.out)]⟩) (μ := fun x => n - x.j) ⟨0, [], by omega, rfl, by simp⟩ (by kernel_rfl) [0, 1] ?_ ?_
    · refine ⟨rfl, by decide, ?_, ?_⟩ <;> repeat' (first | exact trivial | exact rfl | apply And.intro | exact (fun _ _ _ _ => Cell.le_refl _) | (intro i hi; rfl) | (intro i hi; exact absurd hi (Nat.not_lt_zero _)))
    rintro ⟨j, out, hjn, ho, hol⟩
    generalize hg0 : (List.length : List PP → Nat) = g0
    generalize hg1 : (List.length : List UInt8 → Nat) = g1
    generalize hL : lft Tryd.prog _ = L
    try dsimp only
    try unfold prG
    generalize ho0 : @prK = zo0, ho1 : @prV = zo1, ho2 : @prL = zo2, ho3 : @preB = zo3, ho4 : @prPreR = zo4, ho5 : @flt = zo5
    generalize hA : Arith.std = A
    cbv
    subst hA hg0 hg1 hL ho0 ho1 ho2 ho3 ho4 ho5
    have fl : j < n → fitStd .i64 ((j : Int) + 1) := fun _ => by unfold fitStd; omega
    refine Ife.mk (fun h => ?_) (fun h => ?_)
    · have h : (j : Int) < (@Nat.cast Int instNatCastInt n) := of_decide_eq_true (p := (j : Int) < (n : Int)) h
      have hj2 : j < n := Int.ofNat_lt.mp h
      have ht := flt_take (f := f) (L := L) (j := j) (by omega)
      rw [← ho] at ht
      have q1 : 0 ≤ (j : Int) ∧ (j : Int) < (n : Int) := by omega
      have q2 : (j : Int).toNat < n := by omega
      refine Need.mk q1 fun _ => Need.mk q2 fun _ => ?_
      have no : ¬ preB f (prK L j) = true → ∃ y : LUdR L f n, y.j = j + 1 ∧ y.out = out := fun hp => ⟨⟨j + 1, out, by omega, by rw [ht, if_neg hp], by omega⟩, rfl, rfl⟩
      refine Ife.mk (fun h2 => ?_) (fun h2 => ?_)
      · have h2 : (f.length : Int) ≤ ((prK L j).length : Int) := of_decide_eq_true (p := (f.length : Int) ≤ ((prK L j).length : Int)) h2
        refine Need.mk q1 fun _ => Need.mk q2 fun _ => Need.mk (by show (0 : Int) ≤ 0 ∧ (0 : Int) ≤ (f.length : Int) ∧ (f.length : Int) ≤ ((prK L j).length : Int); omega) fun _ => ?_
        refine Ife.mk (fun h3 => ?_) (fun h3 => ?_)
        · have h3 : (prK L j).take f.length = f := of_decide_eq_true (p := (prK L j).take f.length = f) h3
          have hp : preB f (prK L j) = true := by unfold preB; rw [decide_eq_true h3, decide_eq_true (by omega)]; rfl
          refine Need.mk q1 fun _ => Need.mk q2 fun _ => Need.mk (by show out.length + 1 ≤ maxLen ∧ (out.length + 1) * 32 ≤ 140737488355328; unfold maxLen; omega) fun _ => Need.mk (fl hj2) fun _ => ?_
          have hR1 : out.length + 1 = (out ++ [(prK L j, prV L j)]).length := by rw [List.length_append]; rfl
          have hR2 : ∀ i, i < (out ++ [(prK L j, prV L j)]).length → pushG out.length (prG out) [.str (prK L j), .str (prV L j)] i = prG (out ++ [(prK L j, prV L j)]) i := fun i hi => prG_push out (prK L j, prV L j) i (by rw [List.length_append] at hi; exact hi)
          refine ⟨⟨j + 1, out ++ [(prK L j, prV L j)], by omega, by rw [ht, if_pos hp], by rw [List.length_append]; simp; omega⟩, [0, 3], (by show n - (j + 1) < n - j; omega), ?_⟩
          refine ⟨rfl, (by decide), ?_, ?_⟩ <;> repeat' (first | exact trivial | exact hR1 | exact hR2 | exact rfl | apply And.intro | exact (fun _ _ _ _ => Cell.le_refl _) | (intro i hi; rfl) | (intro i hi; exact absurd hi (Nat.not_lt_zero _)))
        · have h3 : ¬ (prK L j).take f.length = f := of_decide_eq_false (p := (prK L j).take f.length = f) h3
          have hp : ¬ preB f (prK L j) = true := by unfold preB; rw [decide_eq_false h3, Bool.and_false]; simp
          refine Need.mk (fl hj2) fun _ => ?_
          refine ⟨⟨j + 1, out, by omega, by rw [ht, if_neg hp], by omega⟩, [0, 1], (by show n - (j + 1) < n - j; omega), ?_⟩
          refine ⟨rfl, (by decide), ?_, ?_⟩ <;> repeat' (first | exact trivial | exact rfl | apply And.intro | exact (fun _ _ _ _ => Cell.le_refl _) | (intro i hi; rfl) | (intro i hi; exact absurd hi (Nat.not_lt_zero _)))
      · have h2 : ¬ (f.length : Int) ≤ ((prK L j).length : Int) := of_decide_eq_false (p := (f.length : Int) ≤ ((prK L j).length : Int)) h2
        have hp : ¬ preB f (prK L j) = true := by unfold preB; rw [decide_eq_false (by omega), Bool.false_and]; simp
        refine Need.mk (fl hj2) fun _ => ?_
        refine ⟨⟨j + 1, out, by omega, by rw [ht, if_neg hp], by omega⟩, [0, 1], (by show n - (j + 1) < n - j; omega), ?_⟩
        refine ⟨rfl, (by decide), ?_, ?_⟩ <;> repeat' (first | exact trivial | exact rfl | apply And.intro | exact (fun _ _ _ _ => Cell.le_refl _) | (intro i hi; rfl) | (intro i hi; exact absurd hi (Nat.not_lt_zero _)))
    · have h : ¬ (j : Int) < (@Nat.cast Int instNatCastInt n) := of_decide_eq_false (p := (j : Int) < (n : Int)) h
      have hjn2 : ¬ j < n := fun h3 => h (Int.ofNat_lt.mpr h3)
      have e : out = flt f L := by rw [ho, List.take_of_length_le (by omega)]
      have hR1 : out.length = (flt f L).length := by rw [e]
      have hR2 : ∀ i, i < (flt f L).length → prG out i = prG (flt f L) i := fun i _ => by rw [e]
      exact ⟨[0, 1], ⟨rfl, (by repeat' (first | exact trivial | exact rfl | apply And.intro | exact (fun _ _ _ _ => Cell.le_refl _) | (intro i hi; rfl) | (intro i hi; exact absurd hi (Nat.not_lt_zero _)))), (by show List.Nodup [1]; decide), rfl, by repeat' (first | exact trivial | exact hR1 | exact hR2 | exact rfl | apply And.intro | exact (fun _ _ _ _ => Cell.le_refl _) | (intro i hi; rfl) | (intro i hi; exact absurd hi (Nat.not_lt_zero _)))⟩⟩

end Go.Proofs.YthomoliklfmnkaaDoor.Vx
end
