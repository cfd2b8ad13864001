/- Sums over pairs, roots, copies of stores, by the walker. -/
import Derived.Test.YthomoliklfmnkaaDoorM21
import Derived.Test.YthomoliklfmnkaaDoorM23
import Derived.Test.YthomoliklfmnkaaDoorM18
section
namespace Go.Proofs.YthomoliklfmnkaaDoor.Vx
open Sha
open Go.RowKit
set_option linter.unusedVariables false
set_option linter.unusedSimpArgs false
/-- The sums of pairs, as cells. -/
def lfG (L : List PP) (i : Nat) : List CV := hashC (leafF (prK L i) (prV L i))
theorem lfG_hash (L : List PP) (n : Nat) : HashesAt n (lfG L) := fun i _ => hashC_sum _
def rootL (L : List PP) : Nat → Int := rootF (L.length : Int) (u8s (hashC (topG (lfG L) L.length)))
def sumsPre (gg sz0 n0 : Nat) (get0 : Nat → List CV) (ty one n : Nat) (get : Nat → List CV) : Prop := KsAt gg sz0 n0 get0 ∧ prPre ty one n get ∧ AllSz (prL n get)
structure LSm (n : Nat) where
  j : Nat
  h1 : j ≤ n
theorem lf_push {L : List PP} {m : Nat} (j : Nat) (hj : j < m + 1) : pushG m (lfG L) (hashC (leafF (prK L m) (prV L m))) j = lfG L j := by
  unfold pushG
  by_cases h : j < m
  · rw [show Nat.blt j m = true by rw [Nat.blt_eq]; exact h]
  · rw [show Nat.blt j m = false by rw [Bool.eq_false_iff]; intro h2; rw [Nat.blt_eq] at h2; exact h h2]
    obtain rfl : j = m := by omega
    rfl
def tbRt : Tbl where
  T :=
    (3, ⟨1, false, [.int .i64 (0)], .int .i64, 8⟩) ::
    (4, ⟨1, false, [.ff], .bool, 1⟩) ::
    (9, ⟨1, false, [.str []], .str, 16⟩) ::
    (63, ⟨2, true, [.str [], .str []], .struct [(0, (1, false)), (1, (1, false))], 32⟩) ::
    (31, ⟨1, false, [.val (.slice none 0 0)], .slice 63, 24⟩) ::
    (24, ⟨32, true, [.int .u8 (0), .int .u8 (0), .int .u8 (0), .int .u8 (0), .int .u8 (0), .int .u8 (0), .int .u8 (0), .int .u8 (0), .int .u8 (0), .int .u8 (0), .int .u8 (0), .int .u8 (0), .int .u8 (0), .int .u8 (0), .int .u8 (0), .int .u8 (0), .int .u8 (0), .int .u8 (0), .int .u8 (0), .int .u8 (0), .int .u8 (0), .int .u8 (0), .int .u8 (0), .int .u8 (0), .int .u8 (0), .int .u8 (0), .int .u8 (0), .int .u8 (0), .int .u8 (0), .int .u8 (0), .int .u8 (0), .int .u8 (0)], .array 32 5, 32⟩) ::
    (113, ⟨1, false, [.val (.slice none 0 0)], .slice 24, 24⟩) ::
    (137, ⟨1, true, [.val (.slice none 0 0)], .struct [(0, (1, false))], 24⟩) ::
    (53, ⟨1, false, [.val (.pointer none)], .ptr 137, 8⟩) ::
    []
  F :=
    (24, [0, 0, 0, 0, 0, 0, 0, 0, 0, 0, 0, 0, 0, 0, 0, 0, 0, 0, 0, 0, 0, 0, 0, 0, 0, 0, 0, 0, 0, 0, 0, 0]) ::
    []

theorem tbRt_ok : tbRt.Ok Tryd.prog where
  T :=
    TblOk.cons (by kernel_rfl) <|
    TblOk.cons (by kernel_rfl) <|
    TblOk.cons (by kernel_rfl) <|
    TblOk.cons (by kernel_rfl) <|
    TblOk.cons (by kernel_rfl) <|
    TblOk.cons (by kernel_rfl) <|
    TblOk.cons (by kernel_rfl) <|
    TblOk.cons (by kernel_rfl) <|
    TblOk.cons (by kernel_rfl) <|
    TblOk.nil _
  F :=
    FlatsOk.cons (FlatOk.of (D := .array 32 5) 6 (by decide) (by kernel_rfl) (by kernel_rfl) rfl (by kernel_rfl)) <|
    FlatsOk.nil _

def sSums : SpecF
  | [.c (.row 1)], [.glob gg sz0 n0 get0, .elems ty one n get] => some (sumsPre gg sz0 n0 get0 ty one n get, .c (.row 2), [.dead, .dead, .row 24 32 n (lfG (prL n get))])
  | _, _ => none

set_option maxRecDepth 100000 in
set_option maxHeartbeats 8000000 in
theorem sumsP : Fn Tryd.prog 79 [0] [(63, 2)] sSums := by
  have hC : CtsOk Tryd.prog [(123, appFn [0] [] sLeaf)] := CtsOk.cons (Fn.ct leafP) <| CtsOk.nil _
  refine Fn.of (E := tbRt) [0] 0 [] tbRt_ok hC (by kernel_rfl) Tryd.func79 rfl rfl rfl (by kernel_rfl) (by kernel_rfl) 2 24 32 ?_ ?_
  · intro args h pre r h' hs
    unfold sSums at hs
    split at hs
    · cases hs; exact ⟨rfl, rfl, Nat.le_of_ble_eq_true rfl⟩
    · cases hs
  · intro args h pre r h' hs hp
    unfold sSums at hs
    split at hs
    rotate_left
    · cases hs
    rename_i gg sz0 n0 get0 ty one n get
    cases hs
    obtain ⟨hK, ⟨rfl, rfl, hst, hm⟩, hz⟩ := hp
    refine ⟨[.glob 0 1 64 (fun i => [.int .u32 (kOf i)]), .elems 63 2 n (prG (prL n get))], ⟨hK.same.1, ⟨rfl, rfl, rfl, fun i hi => hst.eq hi⟩, trivial⟩, ?_⟩
    clear hK
    have hL : (prL n get).length = n := prL_len
    have ePR : prL n (prG (prL n get)) = prL n get := by
      have := prL_prG (prL n get)
      rwa [hL] at this
    generalize prL n get = L at hL hz ePR ⊢
    generalize hg0 : (List.length : List PP → Nat) = g0
    generalize hL : lft Tryd.prog _ = L
    try unfold prG
    generalize ho0 : @prK = zo0, ho1 : @prV = zo1, ho2 : @prL = zo2, ho3 : @leafF = zo3, ho4 : @leafPre = zo4, ho5 : @kOf = zo5, ho6 : @lfG = zo6, ho7 : @sumsPre = zo7
    generalize hA : Arith.std = A
    cbv
    subst hA hg0 hL ho0 ho1 ho2 ho3 ho4 ho5 ho6 ho7
    refine Runs.nilTmp 3 24 32 (lfG L) rfl ?_
    show Runs Tryd.prog 2 (.loop _) _ _
    refine loop_ruleR (N := env (lft Tryd.prog 2) 0 .std tbRt [(123, appFn [0] [] sLeaf)] []) rfl tbRt_ok hC (fun c st K _ h => h) (by kernel_rfl) [0] (X := LSm n)
      (S := fun x => ⟨[.any, .any, .any, .c (.row 2), .any, .any, .c (.row 1), .c (.int .i64 n), .c (.int .i64 (x.j : Int))] ++ List.replicate 13 .any, [.glob 0 1 64 (fun i => [.int .u32 (kOf i)]), .elems 63 2 n (prG L), .row 24 32 x.j (lfG L)]⟩) (μ := fun x => n - x.j) ⟨0, Nat.zero_le _⟩ (by kernel_rfl) [0, 1, 2] ?_ ?_
    · refine ⟨rfl, by decide, ?_, ?_⟩ <;> repeat' (first | exact trivial | exact rfl | apply And.intro | exact (fun _ _ _ _ => Cell.le_refl _) | (intro i hi; rfl) | (intro i hi; exact absurd hi (Nat.not_lt_zero _)))
    rintro ⟨j, hjn⟩
    unfold sLeaf
    generalize hg0 : (List.length : List PP → Nat) = g0
    generalize hL : lft Tryd.prog _ = L
    try dsimp only
    try unfold prG
    generalize ho0 : @prK = zo0, ho1 : @prV = zo1, ho2 : @prL = zo2, ho3 : @leafF = zo3, ho4 : @leafPre = zo4, ho5 : @kOf = zo5, ho6 : @lfG = zo6, ho7 : @sumsPre = zo7
    generalize hA : Arith.std = A
    cbv
    subst hA hg0 hL ho0 ho1 ho2 ho3 ho4 ho5 ho6 ho7
    refine Ife.mk (fun h => ?_) (fun h => ?_)
    · have h : (j : Int) < (@Nat.cast Int instNatCastInt n) := of_decide_eq_true (p := (j : Int) < (n : Int)) h
      have hj2 : j < n := Int.ofNat_lt.mp h
      have hsz := szB_iff.1 (hz.at (i := j) (by omega))
      refine Need.mk (by show 0 ≤ (j : Int) ∧ (j : Int) < (n : Int); omega) fun _ => Need.mk (by show (j : Int).toNat < n; omega) fun _ => ?_
      refine Need.mk ⟨ksAt_self, by show (prK L j).length ≤ 1000000000; omega, by show (prV L j).length ≤ 1000000000; omega⟩ fun _ => ?_
      refine Need.mk (by show j + 1 ≤ maxLen ∧ (j + 1) * 32 ≤ 140737488355328; unfold maxLen; omega) fun _ => Need.mk (by show fitStd .i64 ((j : Int) + 1); unfold fitStd; omega) fun _ => ?_
      have hp := lf_push (L := L) (m := j)
      refine ⟨⟨j + 1, by omega⟩, [0, 1, 5], (by show n - (j + 1) < n - j; omega), ?_⟩
      refine ⟨rfl, (by decide), ?_, ?_⟩ <;> repeat' (first | exact trivial | exact hp | exact ej | exact rfl | apply And.intro | exact (fun _ _ _ _ => Cell.le_refl _) | (intro i hi; rfl) | (intro i hi; exact absurd hi (Nat.not_lt_zero _)))
    · have h : ¬ (j : Int) < (@Nat.cast Int instNatCastInt n) := of_decide_eq_false (p := (j : Int) < (n : Int)) h
      have ej : j = n := by have : ¬ j < n := fun q => h (Int.ofNat_lt.mpr q)
                            omega
      exact ⟨[0, 1, 2], ⟨rfl, (by repeat' (first | exact trivial | exact hp | exact ej | exact rfl | apply And.intro | exact (fun _ _ _ _ => Cell.le_refl _) | (intro i hi; rfl) | (intro i hi; exact absurd hi (Nat.not_lt_zero _)))), (by show List.Nodup [2]; decide), rfl, by repeat' (first | exact trivial | exact hp | exact ej | exact rfl | apply And.intro | exact (fun _ _ _ _ => Cell.le_refl _) | (intro i hi; rfl) | (intro i hi; exact absurd hi (Nat.not_lt_zero _)))⟩⟩

def sPRoot : SpecF
  | [.c (.row 1)], [.glob gg sz0 n0 get0, .elems ty one n get] => some (sumsPre gg sz0 n0 get0 ty one n get, .agg (hashC (rootL (prL n get))), [.dead, .dead])
  | _, _ => none

set_option maxRecDepth 100000 in
set_option maxHeartbeats 8000000 in
theorem pRootP : Fn Tryd.prog 19 [0] [(63, 2)] sPRoot := by
  have hC : CtsOk Tryd.prog [(79, appFn [0] [(63, 2)] sSums), (78, appFn [0] [(24, 32)] sTop), (77, appFn [0] [] sRoot)] := CtsOk.cons (Fn.ct sumsP) <| CtsOk.cons (Fn.ct topP) <| CtsOk.cons (Fn.ct rootP) <| CtsOk.nil _
  refine Fn.of (E := tbRt) [0] 0 [] tbRt_ok hC (by kernel_rfl) Tryd.func19 rfl rfl rfl (by kernel_rfl) (by kernel_rfl) 2 24 32 ?_ ?_
  · intro args h pre r h' hs
    unfold sPRoot at hs
    split at hs
    · cases hs; exact ⟨rfl, rfl, Nat.le_of_ble_eq_true rfl⟩
    · cases hs
  · intro args h pre r h' hs hp
    unfold sPRoot at hs
    split at hs
    rotate_left
    · cases hs
    rename_i gg sz0 n0 get0 ty one n get
    cases hs
    obtain ⟨hK, ⟨rfl, rfl, hst, hm⟩, hz⟩ := hp
    refine ⟨[.glob 0 1 64 (fun i => [.int .u32 (kOf i)]), .elems 63 2 n (prG (prL n get))], ⟨hK.same.1, ⟨rfl, rfl, rfl, fun i hi => hst.eq hi⟩, trivial⟩, ?_⟩
    clear hK
    have hL : (prL n get).length = n := prL_len
    have ePR : prL n (prG (prL n get)) = prL n get := by
      have := prL_prG (prL n get)
      rwa [hL] at this
    generalize prL n get = L at hL hz ePR ⊢
    unfold sSums sTop sRoot
    generalize hg0 : (List.length : List PP → Nat) = g0
    try unfold prG
    generalize ho0 : @prK = zo0, ho1 : @prV = zo1, ho2 : @prL = zo2, ho3 : @topG = zo3, ho4 : @topPre0 = zo4, ho5 : @rootF = zo5, ho6 : @rootPre = zo6, ho7 : @kOf = zo7, ho8 : @u8s = zo8, ho9 : @lfG = zo9, ho10 : @rootL = zo10, ho11 : @sumsPre = zo11
    generalize hA : Arith.std = A
    cbv
    subst hA hg0 ho0 ho1 ho2 ho3 ho4 ho5 ho6 ho7 ho8 ho9 ho10 ho11
    refine Need.mk ⟨ksAt_self, ⟨rfl, rfl, prAt_prG _ L, hm⟩, by rw [ePR]; exact hz⟩ fun _ => ?_
    rw [ePR]
    refine Need.mk ⟨ksAt_self, rfl, rfl, lfG_hash L n, by show n ≤ 1073741824; omega⟩ fun _ => ?_
    refine Need.mk ⟨ksAt_self, topG_hash (lfG_hash L n) 0 n (by omega)⟩ fun _ => ?_
    have eR : rootL L = rootF (n : Int) (u8s (hashC (topG (lfG L) n))) := by unfold rootL; rw [hL]
    rw [eR]
    exact ⟨[0, 1], ⟨rfl, (by repeat' (first | exact trivial | exact rfl | apply And.intro | exact (fun _ _ _ _ => Cell.le_refl _) | (intro i hi; rfl) | (intro i hi; exact absurd hi (Nat.not_lt_zero _)))), (by decide), rfl, by repeat' (first | exact trivial | exact rfl | apply And.intro | exact (fun _ _ _ _ => Cell.le_refl _) | (intro i hi; rfl) | (intro i hi; exact absurd hi (Nat.not_lt_zero _)))⟩⟩

end Go.Proofs.YthomoliklfmnkaaDoor.Vx
end

section
/- Stores: Root, Copy, Pairs; sorted lists with the same members. -/
namespace Go.Proofs.YthomoliklfmnkaaDoor.Vx
open Sha
open Go.RowKit
set_option linter.unusedVariables false
set_option linter.unusedSimpArgs false
theorem sts_eq : ∀ {A B : List PP}, StS A → StS B → (∀ p, p ∈ A ↔ p ∈ B) → A = B
  | [], [], _, _, _ => rfl
  | [], b :: B, _, _, h => by have := (h b).2 (by simp); simp at this
  | a :: A, [], _, _, h => by have := (h a).1 (by simp); simp at this
  | a :: A, b :: B, hA, hB, h => by
    have hA2 := List.pairwise_cons.1 hA
    have hB2 := List.pairwise_cons.1 hB
    have e : a = b := by
      rcases List.mem_cons.1 ((h a).1 (by simp)) with h1 | h1
      · exact h1
      · rcases List.mem_cons.1 ((h b).2 (by simp)) with h2 | h2
        · exact h2.symm
        · have h3 := hB2.1 a h1
          rw [lt_asym (hA2.1 b h2)] at h3
          cases h3
    subst e
    have hn : ∀ (M : List PP), (∀ x ∈ M, ltB a.1 x.1 = true) → ¬ a ∈ M := fun M hM hm => by
      have := hM a hm
      rw [lt_irr] at this
      cases this
    rw [sts_eq hA2.2 hB2.2 fun p => ?_]
    constructor
    · intro hp
      rcases List.mem_cons.1 ((h p).1 (by simp [hp])) with h1 | h1
      · subst h1; exact absurd hp (hn A hA2.1)
      · exact h1
    · intro hp
      rcases List.mem_cons.1 ((h p).2 (by simp [hp])) with h1 | h1
      · subst h1; exact absurd hp (hn B hB2.1)
      · exact h1
/-- A key stands once. -/
theorem sts_key {L : List PP} (hs : StS L) {p q : PP} (hp : p ∈ L) (hq : q ∈ L) (h : p.1 = q.1) : p = q := by
  obtain ⟨i, hi, rfl⟩ := List.getElem_of_mem hp
  obtain ⟨j, hj, rfl⟩ := List.getElem_of_mem hq
  rcases Nat.lt_trichotomy i j with h1 | h1 | h1
  · have := hs.at h1 hj
    rw [prK_eq hi, prK_eq hj, h, lt_irr] at this
    cases this
  · subst h1; rfl
  · have := hs.at h1 hi
    rw [prK_eq hi, prK_eq hj, h, lt_irr] at this
    cases this
theorem findB_mem {L : List PP} {k : List UInt8} (h : findB L k = true) : ∃ v, (k, v) ∈ L ∧ getL L k = v := by
  obtain ⟨h1, h2⟩ := findB_eq h
  refine ⟨prV L (findI L k), ?_, by unfold getL; rw [h]; rfl⟩
  have e : (k, prV L (findI L k)) = L[findI L k] := Prod.ext (by rw [prK_eq h1] at h2; exact h2.symm) (prV_eq h1)
  rw [e]
  exact List.getElem_mem h1
theorem mem_findB {L : List PP} (hs : StS L) {p : PP} (hp : p ∈ L) : findB L p.1 = true ∧ findI L p.1 < L.length ∧ L[findI L p.1]? = some p := by
  obtain ⟨i, hi, rfl⟩ := List.getElem_of_mem hp
  have e : findI L L[i].1 = i := findI_uniq hs (by omega) (fun j hj => by rw [← prK_eq hi]; exact hs.at hj hi) fun j h1 h2 => by
    rcases Nat.eq_or_lt_of_le h1 with h3 | h3
    · subst h3; rw [prK_eq hi]; exact lt_irr _
    · rw [← prK_eq hi]; exact lt_asym (hs.at h3 h2)
  refine ⟨?_, by rw [e]; exact hi, by rw [e]; exact List.getElem?_eq_getElem hi⟩
  unfold findB
  rw [e, decide_eq_true hi, decide_eq_true (prK_eq hi)]
  rfl
theorem setL_cat' {L : List PP} {k v : List UInt8} : setL L k v = L.take (findI L k) ++ (k, v) :: L.drop (if findB L k = true then findI L k + 1 else findI L k) := setL_cat
theorem mem_setL {L : List PP} {k v : List UInt8} (hs : StS L) (p : PP) : p ∈ setL L k v ↔ p = (k, v) ∨ (p ∈ L ∧ p.1 ≠ k) := by
  have hs2 := setL_s (k := k) (v := v) hs
  have hin : (k, v) ∈ setL L k v := by
    rw [setL_cat']
    simp
  constructor
  · intro hp
    by_cases hk : p.1 = k
    · exact Or.inl (sts_key hs2 hp hin hk)
    · refine Or.inr ⟨?_, hk⟩
      rw [setL_cat'] at hp
      rcases List.mem_append.1 hp with h1 | h1
      · exact List.mem_of_mem_take h1
      · rcases List.mem_cons.1 h1 with h1 | h1
        · exact absurd (by rw [h1]) hk
        · exact List.mem_of_mem_drop h1
  · rintro (rfl | ⟨hp, hk⟩)
    · exact hin
    · rw [setL_cat']
      obtain ⟨i, hi, rfl⟩ := List.getElem_of_mem hp
      rw [List.mem_append, List.mem_cons]
      rcases Nat.lt_or_ge i (findI L k) with h1 | h1
      · exact Or.inl (List.mem_iff_getElem.2 ⟨i, by rw [List.length_take]; omega, by rw [List.getElem_take]⟩)
      · refine Or.inr (Or.inr (List.mem_iff_getElem.2 ?_))
        by_cases hb : findB L k = true
        · have hne : i ≠ findI L k := fun e => hk (by rw [← prK_eq hi, e]; exact (findB_eq hb).2)
          simp only [hb, if_true]
          exact ⟨i - (findI L k + 1), by rw [List.length_drop]; omega, by rw [List.getElem_drop]; congr 1; omega⟩
        · simp only [hb, if_false]
          exact ⟨i - findI L k, by rw [List.length_drop]; simp; omega, by rw [List.getElem_drop]; congr 1; simp; omega⟩
theorem mem_dropL {L : List PP} {k : List UInt8} (hs : StS L) (p : PP) : p ∈ dropL L k ↔ p ∈ L ∧ p.1 ≠ k := by
  unfold dropL
  by_cases hb : findB L k = true
  · obtain ⟨h1, h2⟩ := findB_eq hb
    rw [if_pos hb, List.eraseIdx_eq_take_drop_succ, List.mem_append]
    have hmid : L[findI L k].1 = k := by rw [← prK_eq h1]; exact h2
    constructor
    · rintro (h | h)
      · refine ⟨List.mem_of_mem_take h, fun hk => ?_⟩
        obtain ⟨i, hi, rfl⟩ := List.getElem_of_mem h
        rw [List.length_take] at hi
        rw [List.getElem_take] at hk
        have := hs.at (i := i) (j := findI L k) (by omega) h1
        rw [prK_eq (by omega), prK_eq h1, hk, hmid, lt_irr] at this
        cases this
      · refine ⟨List.mem_of_mem_drop h, fun hk => ?_⟩
        obtain ⟨i, hi, rfl⟩ := List.getElem_of_mem h
        rw [List.length_drop] at hi
        rw [List.getElem_drop] at hk
        have := hs.at (i := findI L k) (j := findI L k + 1 + i) (by omega) (by omega)
        rw [prK_eq h1, prK_eq (by omega), hmid, hk, lt_irr] at this
        cases this
    · rintro ⟨hp, hk⟩
      obtain ⟨i, hi, rfl⟩ := List.getElem_of_mem hp
      rcases Nat.lt_trichotomy i (findI L k) with h3 | h3 | h3
      · exact Or.inl (List.mem_iff_getElem.2 ⟨i, by rw [List.length_take]; omega, by rw [List.getElem_take]⟩)
      · subst h3; exact absurd hmid hk
      · exact Or.inr (List.mem_iff_getElem.2 ⟨i - (findI L k + 1), by rw [List.length_drop]; omega, by rw [List.getElem_drop]; congr 1; omega⟩)
  · rw [if_neg hb]
    refine ⟨fun hp => ⟨hp, fun hk => hb ?_⟩, fun h => h.1⟩
    rw [← hk]
    exact (mem_findB hs hp).1
def sSRoot : SpecF
  | [.c (.ptr 1 0)], [.glob gg sz0 n0 get0, .cells t [.row 2], .row ty one n get] => some (t = 137 ∧ sumsPre gg sz0 n0 get0 ty one n get, .agg (hashC (rootL (prL n get))), [.dead, .cells 137 [.row 2], .row 63 2 n (prG (prL n get))])
  | _, _ => none

set_option maxRecDepth 100000 in
set_option maxHeartbeats 8000000 in
theorem sRootP : Fn Tryd.prog 41 [0] [] sSRoot := by
  have hC : CtsOk Tryd.prog [(19, appFn [0] [(63, 2)] sPRoot)] := CtsOk.cons (Fn.ct pRootP) <| CtsOk.nil _
  refine Fn.of (E := tbRt) [0] 0 [] tbRt_ok hC (by kernel_rfl) Tryd.func41 rfl rfl rfl (by kernel_rfl) (by kernel_rfl) 3 63 2 ?_ ?_
  · intro args h pre r h' hs
    unfold sSRoot at hs
    split at hs
    · cases hs; exact ⟨rfl, rfl, Nat.le_of_ble_eq_true rfl⟩
    · cases hs
  · intro args h pre r h' hs hp
    unfold sSRoot at hs
    split at hs
    rotate_left
    · cases hs
    rename_i gg sz0 n0 get0 t ty one n get
    cases hs
    obtain ⟨rfl, hK, ⟨rfl, rfl, hst, hm⟩, hz⟩ := hp
    refine ⟨[.glob 0 1 64 (fun i => [.int .u32 (kOf i)]), .cells 137 [.row 2], .row 63 2 n (prG (prL n get))], ⟨hK.same.1, rfl, ⟨rfl, rfl, rfl, fun i hi => hst.eq hi⟩, trivial⟩, ?_⟩
    clear hK
    have hL : (prL n get).length = n := prL_len
    have ePR : prL n (prG (prL n get)) = prL n get := by
      have := prL_prG (prL n get)
      rwa [hL] at this
    generalize prL n get = L at hL hz ePR ⊢
    unfold sPRoot
    generalize hg0 : (List.length : List PP → Nat) = g0
    try unfold prG
    generalize ho0 : @prK = zo0, ho1 : @prV = zo1, ho2 : @prL = zo2, ho3 : @kOf = zo3, ho4 : @rootL = zo4, ho5 : @sumsPre = zo5
    generalize hA : Arith.std = A
    cbv
    subst hA hg0 ho0 ho1 ho2 ho3 ho4 ho5
    refine Need.mk ⟨ksAt_self, ⟨rfl, rfl, prAt_prG _ L, hm⟩, by rw [ePR]; exact hz⟩ fun _ => ?_
    rw [ePR]
    exact ⟨[0, 1, 2], ⟨rfl, (by repeat' (first | exact trivial | exact rfl | apply And.intro | exact (fun _ _ _ _ => Cell.le_refl _) | (intro i hi; rfl) | (intro i hi; exact absurd hi (Nat.not_lt_zero _)))), (by show List.Nodup [1, 2]; decide), rfl, by repeat' (first | exact trivial | exact rfl | apply And.intro | exact (fun _ _ _ _ => Cell.le_refl _) | (intro i hi; rfl) | (intro i hi; exact absurd hi (Nat.not_lt_zero _)))⟩⟩





end Go.Proofs.YthomoliklfmnkaaDoor.Vx
end

section
/- Pairs that come in, opened; the walk of StoreUnder. -/
namespace Go.Proofs.YthomoliklfmnkaaDoor.Vx
/-- A pair's values. -/
def prVals (x : PP) : List Value := [.string ⟨x.1.toArray⟩, .string ⟨x.2.toArray⟩]
end Go.Proofs.YthomoliklfmnkaaDoor.Vx
namespace Go.Proofs.YthomoliklfmnkaaDoor
open Go.ChangeShapes Go.WideShapes Go.ChangeAt Go.RowKit
set_option linter.unusedVariables false
set_option linter.unusedSimpArgs false
section
variable {H : Type} {enc : TypeId × Value → H} {w : World} {base : Nat}
theorem cells_RPair : Tryd.prog.cellsOf 46 = 2 := by kernel_rfl
set_option maxRecDepth 100000 in
theorem open_Prs {v : Value} {d : DataW H} {p : List MemPlace} (hv : Value.okWide Tryd.prog w .any base 22 v) (h : DataW.Trod enc Tryd.prog w 0 (fun _ => true) true 22 v d p) :
    ∃ (a : Option Addr) (cap : Nat) (ls : List Vx.PP), v = .slice a ls.length cap ∧ SlIn w a 2 cap (ls.map Vx.prVals) := by
  obtain ⟨a, cap, xs, rfl, hs, hx⟩ := open_slice (sz := 2) (P := fun l => ∃ x : Vx.PP, l = Vx.prVals x) (by decide) Tryd.underlying22 cells_RPair (fun fuel l x hl => by
    obtain ⟨ys, m, _, _, hl2, hlen, hff⟩ := DataW.trod_struct Tryd.underlying46 hl
    rw [cells_RPair] at hl2
    match l, hl2 with
    | [c0, c1], _ =>
      match ys, hlen with
      | [y0, y1], _ =>
        have f0 := hff 0 _ rfl
        have f1 := hff 1 _ rfl
        simp [cells_string] at f0 f1
        obtain ⟨s0, e0, _, hs0⟩ := DataW.trod_string Tryd.underlying9 f0
        obtain ⟨s1, e1, _, hs1⟩ := DataW.trod_string Tryd.underlying9 f1
        simp at e0 e1
        obtain ⟨l0, rfl, b0⟩ := bytesOf s0 hs0
        obtain ⟨l1, rfl, b1⟩ := bytesOf s1 hs1
        exact ⟨rfl, (l0, l1), by simp [Vx.prVals, e0, e1]⟩) hv h
  obtain ⟨f, hf⟩ : ∃ f : Nat → Vx.PP, ∀ i (hi : i < xs.length), xs[i] = Vx.prVals (f i) := by
    have key : ∀ i, ∃ n : Vx.PP, ∀ hi : i < xs.length, xs[i] = Vx.prVals n := fun i => by
      by_cases hi : i < xs.length
      · obtain ⟨n, e⟩ := (hx _ (List.getElem_mem hi)).2
        exact ⟨n, fun _ => e⟩
      · exact ⟨([], []), fun h => absurd h hi⟩
    exact ⟨fun i => (key i).choose, fun i hi => (key i).choose_spec hi⟩
  have e : xs = ((List.range xs.length).map f).map Vx.prVals := by
    apply List.ext_getElem (by simp)
    intro i h1 h2
    simp [hf i h1]
  refine ⟨a, cap, (List.range xs.length).map f, by simp, ?_⟩
  rw [← e]
  exact hs
theorem prs_good {w : World} {a : Option Addr} {cap : Nat} {ls : List Vx.PP} (hs : SlIn w a 2 cap (ls.map Vx.prVals)) : ∃ p : Vx.Pl, p.v = .slice a ls.length cap ∧ Vx.Good w 2 (ls.length, Vx.prG ls) p := by
  obtain ⟨p, hp, g⟩ := hs.good (get := Vx.prG ls) (fun i hi => by
    have hi' : i < ls.length := by simpa using hi
    rw [List.getElem_map]
    have e : ls.getD i ([], []) = ls[i] := by simp [List.getD, hi']
    unfold Vx.prG Vx.prGP Vx.prK Vx.prV
    rw [e]
    rfl)
  simp only [List.length_map] at hp g
  exact ⟨p, hp, g⟩
end
end Go.Proofs.YthomoliklfmnkaaDoor
end

section
/- StoreOrder, by the walker. -/
namespace Go.Proofs.YthomoliklfmnkaaDoor.Vx
open Sha
open Go.RowKit
set_option linter.unusedVariables false
set_option linter.unusedSimpArgs false
def orderPre (gg sz0 n0 : Nat) (get0 : Nat → List CV) (ty one n : Nat) (get : Nat → List CV) : Prop := KsAt gg sz0 n0 get0 ∧ ty = 46 ∧ one = 2 ∧ PrAt n get
/-- What the second store holds. -/
structure BOk (R B : List PP) : Prop where
  s : StS B
  z : AllSz B
  k : ∀ p ∈ B, ∃ q ∈ R, q.1 = p.1
theorem BOk.put {R B : List PP} (h : BOk R B) {k v : List UInt8} (hk : ∃ q ∈ R, q.1 = k) : BOk R (putS B k v) := by
  refine ⟨putS_s h.s, put_sz h.z, fun p hp => ?_⟩
  unfold putS at hp
  split at hp
  · rcases (mem_setL h.s p).1 hp with h1 | h1
    · rw [h1]; exact hk
    · exact h.k p h1.1
  · exact h.k p hp
structure LO1 (R : List PP) (N : Nat) where
  i : Nat
  M : List PP
  B : List PP
  h1 : i ≤ N
  hM : M = R.take i
  hB : BOk R B
  hl : B.length ≤ i
structure LO2 (R : List PP) (N : Nat) where
  i : Int
  B : List PP
  h0 : -1 ≤ i
  h1 : i < (N : Int)
  hB : BOk R B
  hl : (B.length : Int) + i ≤ 2 * (N : Int)
  hj : ∀ j : Nat, i < (j : Int) → j < N → (prK R j, prV R j) ∈ B
theorem order_end {R B : List PP} (hR : StS R) (hB : BOk R B) (h : ∀ j, j < R.length → (prK R j, prV R j) ∈ B) : B = R := by
  refine sts_eq hB.s hR fun p => ?_
  have hin : ∀ q, q ∈ R → q ∈ B := fun q hq => by
    obtain ⟨j, hj, rfl⟩ := List.getElem_of_mem hq
    have := h j hj
    rwa [prK_eq hj, prV_eq hj] at this
  exact ⟨fun hp => by
    obtain ⟨q, hq, e⟩ := hB.k p hp
    rw [← sts_key hB.s (hin q hq) hp e]
    exact hq, hin p⟩
theorem zz_drop {R : List PP} {k v : List UInt8} (hR : StS R) (hn : findB R k = false) (hz : szB k v = true) : dropL (putS R k v) k = R := by
  have e : putS R k v = setL R k v := if_pos hz
  have hs := setL_s (k := k) (v := v) hR
  rw [e]
  refine sts_eq (dropL_s hs) hR fun p => ?_
  rw [mem_dropL hs, mem_setL hR]
  constructor
  · rintro ⟨h1 | h1, h2⟩
    · subst h1; exact absurd rfl h2
    · exact h1.1
  · intro hp
    have hk : p.1 ≠ k := fun hk => by
      have := (mem_findB hR hp).1
      rw [hk, hn] at this
      cases this
    exact ⟨Or.inr ⟨hp, hk⟩, hk⟩
theorem zz_set {R : List PP} {k v : List UInt8} (hR : StS R) (hzR : AllSz R) (hn : findB R k = true) (hz : szB k v = true) : putS (putS R k v) k (getL R k) = R := by
  have e : putS R k v = setL R k v := if_pos hz
  have hs := setL_s (k := k) (v := v) hR
  obtain ⟨w, hw, hg⟩ := findB_mem hn
  rw [e, hg, show putS (setL R k v) k w = setL (setL R k v) k w from if_pos (hzR _ hw)]
  refine sts_eq (setL_s hs) hR fun p => ?_
  rw [mem_setL hs, mem_setL hR]
  constructor
  · rintro (h1 | ⟨h1 | h1, h2⟩)
    · rw [h1]; exact hw
    · subst h1; exact absurd rfl h2
    · exact h1.1
  · intro hp
    by_cases hk : p.1 = k
    · exact Or.inl (sts_key hR hp hw hk)
    · exact Or.inr ⟨Or.inr ⟨hp, hk⟩, hk⟩
def tbZ : Tbl where
  T :=
    (3, ⟨1, false, [.int .i64 (0)], .int .i64, 8⟩) ::
    (4, ⟨1, false, [.ff], .bool, 1⟩) ::
    (9, ⟨1, false, [.str []], .str, 16⟩) ::
    (46, ⟨2, true, [.str [], .str []], .struct [(0, (1, false)), (1, (1, false))], 32⟩) ::
    (22, ⟨1, false, [.val (.slice none 0 0)], .slice 46, 24⟩) ::
    (63, ⟨2, true, [.str [], .str []], .struct [(0, (1, false)), (1, (1, false))], 32⟩) ::
    (31, ⟨1, false, [.val (.slice none 0 0)], .slice 63, 24⟩) ::
    (137, ⟨1, true, [.val (.slice none 0 0)], .struct [(0, (1, false))], 24⟩) ::
    (53, ⟨1, false, [.val (.pointer none)], .ptr 137, 8⟩) ::
    (55, ⟨1, false, [.int .i64 (0)], .int .i64, 8⟩) ::
    (24, ⟨32, true, [.int .u8 (0), .int .u8 (0), .int .u8 (0), .int .u8 (0), .int .u8 (0), .int .u8 (0), .int .u8 (0), .int .u8 (0), .int .u8 (0), .int .u8 (0), .int .u8 (0), .int .u8 (0), .int .u8 (0), .int .u8 (0), .int .u8 (0), .int .u8 (0), .int .u8 (0), .int .u8 (0), .int .u8 (0), .int .u8 (0), .int .u8 (0), .int .u8 (0), .int .u8 (0), .int .u8 (0), .int .u8 (0), .int .u8 (0), .int .u8 (0), .int .u8 (0), .int .u8 (0), .int .u8 (0), .int .u8 (0), .int .u8 (0)], .array 32 5, 32⟩) ::
    []
  F :=
    (24, [0, 0, 0, 0, 0, 0, 0, 0, 0, 0, 0, 0, 0, 0, 0, 0, 0, 0, 0, 0, 0, 0, 0, 0, 0, 0, 0, 0, 0, 0, 0, 0]) ::
    []

theorem tbZ_ok : tbZ.Ok Tryd.prog where
  T :=
    TblOk.cons (by kernel_rfl) <|
    TblOk.cons (by kernel_rfl) <|
    TblOk.cons (by kernel_rfl) <|
    TblOk.cons (by kernel_rfl) <|
    TblOk.cons (by kernel_rfl) <|
    TblOk.cons (by kernel_rfl) <|
    TblOk.cons (by kernel_rfl) <|
    TblOk.cons (by kernel_rfl) <|
    TblOk.cons (by kernel_rfl) <|
    TblOk.cons (by kernel_rfl) <|
    TblOk.cons (by kernel_rfl) <|
    TblOk.nil _
  F :=
    FlatsOk.cons (FlatOk.of (D := .array 32 5) 6 (by decide) (by kernel_rfl) (by kernel_rfl) rfl (by kernel_rfl)) <|
    FlatsOk.nil _

def sOrder : SpecF
  | [.c (.row 1), .c (.int .i64 b)], [.glob gg sz0 n0 get0, .elems ty one n get] => some (orderPre gg sz0 n0 get0 ty one n get, .c .tt, [.dead, .dead])
  | _, _ => none

set_option maxRecDepth 100000 in
set_option maxHeartbeats 16000000 in
theorem storeOrderP : Fn Tryd.prog 6 [0] [(46, 2)] sOrder := by
  have hC : CtsOk Tryd.prog [(36, appFn [] [] sFirst12), (30, appFn [] [(46, 2)] sRise), (37, appFn [] [] sNewS), (38, appFn [] [] sSet), (39, appFn [] [] sGet), (40, appFn [] [] sDrop), (42, appFn [] [] sLen), (41, appFn [0] [] sSRoot)] := CtsOk.cons (Fn.ct first12P) <| CtsOk.cons (Fn.ct riseP) <| CtsOk.cons (Fn.ct newSP) <| CtsOk.cons (Fn.ct setSP) <| CtsOk.cons (Fn.ct getSP) <| CtsOk.cons (Fn.ct dropSP) <| CtsOk.cons (Fn.ct lenSP) <| CtsOk.cons (Fn.ct sRootP) <| CtsOk.nil _
  refine Fn.of (E := tbZ) [0] 0 [(11, [(2004, false), (2005, false), (0, true), (1, true), (2, true), (3, true), (4, true), (5, true), (6, true), (7, true), (8, true), (9, true), (10, true), (11, false)]), (16, [(2006, false), (2007, false), (0, true), (1, true), (2, true), (3, true), (4, true), (5, true), (6, true), (7, true), (8, true), (9, true), (10, true), (11, false)])] tbZ_ok hC (by kernel_rfl) Tryd.func6 rfl rfl rfl (by kernel_rfl) (by kernel_rfl) 2 63 2 ?_ ?_
  · intro args h pre r h' hs
    unfold sOrder at hs
    split at hs
    · cases hs; exact ⟨rfl, rfl, Nat.le_of_ble_eq_true rfl⟩
    · cases hs
  · intro args h pre r h' hs hp
    unfold sOrder at hs
    split at hs
    rotate_left
    · cases hs
    rename_i b gg sz0 n0 get0 ty one n get
    cases hs
    obtain ⟨hK, rfl, rfl, hst⟩ := hp
    refine ⟨[.glob 0 1 64 (fun i => [.int .u32 (kOf i)]), .elems 46 2 n (prG (prL n get))], ⟨hK.same.1, ⟨rfl, rfl, rfl, fun i hi => hst.eq hi⟩, trivial⟩, ?_⟩
    clear hK
    have hL : (prL n get).length = n := prL_len
    generalize prL n get = L at hL ⊢
    unfold sFirst12 sRise sNewS sSet sGet sDrop sLen sSRoot
    generalize hg0 : (List.length : List PP → Nat) = g0
    generalize hg1 : (List.length : List UInt8 → Nat) = g1
    generalize hL : lft Tryd.prog _ = L
    try unfold prG
    generalize ho0 : @prK = zo0, ho1 : @prV = zo1, ho2 : @prL = zo2, ho3 : @ltB = zo3, ho4 : @findB = zo4, ho5 : @szB = zo5, ho6 : @setL = zo6, ho7 : @putS = zo7, ho8 : @dropL = zo8, ho9 : @getL = zo9, ho10 : @prPre = zo10, ho11 : @prPreR = zo11, ho12 : @riseL = zo12, ho13 : @kOf = zo13, ho14 : @rootL = zo14, ho15 : @sumsPre = zo15, ho16 : @orderPre = zo16
    generalize hA : Arith.std = A
    cbv
    subst hA hg0 hg1 hL ho0 ho1 ho2 ho3 ho4 ho5 ho6 ho7 ho8 ho9 ho10 ho11 ho12 ho13 ho14 ho15 ho16
    have hmn : ((min (n : Int) 30) - 0).toNat ≤ 30 := by omega
    refine Need.mk trivial fun _ => Need.mk (by show (0 : Int) ≤ 0 ∧ (0 : Int) ≤ min (n : Int) 30 ∧ min (n : Int) 30 ≤ (n : Int); omega) fun _ => ?_
    refine Need.mk ⟨rfl, rfl, fun i hi => ⟨_, _, rfl⟩, (by show ((min (n : Int) 30) - 0).toNat ≤ 1000000; omega)⟩ fun _ => Need.mk trivial fun _ => Need.mk trivial fun _ => ?_
    have hRs : StS (riseL (prL ((min (n : Int) 30) - 0).toNat fun i => prG L (0 + i))) := rise_s
    have hRz : AllSz (riseL (prL ((min (n : Int) 30) - 0).toNat fun i => prG L (0 + i))) := rise_sz
    have hRl : (riseL (prL ((min (n : Int) 30) - 0).toNat fun i => prG L (0 + i))).length ≤ 30 := by
      have h1 := rise_len (L := prL ((min (n : Int) 30) - 0).toNat fun i => prG L (0 + i))
      rw [prL_len] at h1
      omega
    refine Ife.mk (fun h => ?_) (fun h => ?_)
    · refine Need.mk trivial fun _ => ?_
      exact ⟨[0, 1], ⟨rfl, (by repeat' (first | exact trivial | exact hR1 | exact hR2 | exact hR3 | exact hR4 | exact hA1 | exact hA2 | exact hB1 | exact hB2 | exact rfl | apply And.intro | exact (fun _ _ _ _ => Cell.le_refl _) | (intro i hi; rfl) | (intro i hi; exact absurd hi (Nat.not_lt_zero _)))), (by show List.Nodup []; exact List.nodup_nil), rfl, by repeat' (first | exact trivial | exact hR1 | exact hR2 | exact hR3 | exact hR4 | exact hA1 | exact hA2 | exact hB1 | exact hB2 | exact rfl | apply And.intro | exact (fun _ _ _ _ => Cell.le_refl _) | (intro i hi; rfl) | (intro i hi; exact absurd hi (Nat.not_lt_zero _)))⟩⟩
    have hb0 : ¬ b < 0 := of_decide_eq_false (p := b < 0) h
    generalize hR : riseL (prL ((min (n : Int) 30) - 0).toNat fun i => prG L (0 + i)) = R at hRs hRz hRl
    obtain ⟨N, hN⟩ : ∃ N, R.length = N := ⟨_, rfl⟩
    have hR1 : (riseL (prL ((min (n : Int) 30) - 0).toNat fun i => prG L (0 + i))).length = N := by rw [hR, hN]
    have hR2 : ∀ i, i < N → prG (riseL (prL ((min (n : Int) 30) - 0).toNat fun i => prG L (0 + i))) i = prG R i := fun i _ => by rw [hR]
    clear hR
    show Runs Tryd.prog 2 (.loop _) _ _
    refine loop_ruleR (N := env (lft Tryd.prog 2) 0 .std tbZ [(36, appFn [] [] sFirst12), (30, appFn [] [(46, 2)] sRise), (37, appFn [] [] sNewS), (38, appFn [] [] sSet), (39, appFn [] [] sGet), (40, appFn [] [] sDrop), (42, appFn [] [] sLen), (41, appFn [0] [] sSRoot)] [(11, [(2004, false), (2005, false), (0, true), (1, true), (2, true), (3, true), (4, true), (5, true), (6, true), (7, true), (8, true), (9, true), (10, true), (11, false)]), (16, [(2006, false), (2007, false), (0, true), (1, true), (2, true), (3, true), (4, true), (5, true), (6, true), (7, true), (8, true), (9, true), (10, true), (11, false)])]) rfl tbZ_ok hC (fun c st K _ h => h) (by kernel_rfl) [0] (X := LO1 R N)
      (S := fun x => ⟨[.c (.row 3), .c (.int .i64 b), .any, .any, .any, .c (.ptr 4 0), .c (.ptr 6 0), .c (.int .i64 (x.i : Int))] ++ List.replicate 127 .any, [.glob 0 1 64 (fun i => [.int .u32 (kOf i)]), .elems 46 2 n (prG L), .dead, .row 46 2 N (prG R), .cells 137 [.row 5], .row 63 2 x.M.length (prG x.M), .cells 137 [.row 7], .row 63 2 x.B.length (prG x.B)]⟩) (μ := fun x => N - x.i) ⟨0, [], [], Nat.zero_le _, rfl, ⟨List.Pairwise.nil, (fun p hp => by cases hp), (fun p hp => by cases hp)⟩, Nat.le_refl _⟩ (by kernel_rfl) [0, 1, 2, 3, 4, 5, 6, 7] ?h0 ?rd
    case h0 =>
      refine ⟨rfl, by decide, ?_, ?_⟩ <;> repeat' (first | exact trivial | exact hR1 | exact hR2 | exact hR3 | exact hR4 | exact hA1 | exact hA2 | exact hB1 | exact hB2 | exact rfl | apply And.intro | exact (fun _ _ _ _ => Cell.le_refl _) | (intro i hi; rfl) | (intro i hi; exact absurd hi (Nat.not_lt_zero _)))
    case rd =>
      rintro ⟨i, M, B, hi, hM, hB, hl⟩
      unfold sFirst12 sRise sNewS sSet sGet sDrop sLen sSRoot
      generalize hg0 : (List.length : List PP → Nat) = g0
      generalize hg1 : (List.length : List UInt8 → Nat) = g1
      generalize hL : lft Tryd.prog _ = L
      try dsimp only
      try unfold prG
      generalize ho0 : @prK = zo0, ho1 : @prV = zo1, ho2 : @prL = zo2, ho3 : @ltB = zo3, ho4 : @findB = zo4, ho5 : @szB = zo5, ho6 : @setL = zo6, ho7 : @putS = zo7, ho8 : @dropL = zo8, ho9 : @getL = zo9, ho10 : @prPre = zo10, ho11 : @prPreR = zo11, ho12 : @riseL = zo12, ho13 : @kOf = zo13, ho14 : @rootL = zo14, ho15 : @sumsPre = zo15, ho16 : @orderPre = zo16
      generalize hA : Arith.std = A
      cbv
      subst hA hg0 hg1 hL ho0 ho1 ho2 ho3 ho4 ho5 ho6 ho7 ho8 ho9 ho10 ho11 ho12 ho13 ho14 ho15 ho16
      have hx : prL M.length (prG M) = M := prL_prG M
      have hxB : prL B.length (prG B) = B := prL_prG B
      have hML : M.length = i := by rw [hM, List.length_take]; omega
      refine Ife.mk (fun h => ?_) (fun h => ?_)
      · have h : (i : Int) < (N : Int) := of_decide_eq_true (p := (i : Int) < (N : Int)) h
        have hiN : i < N := Int.ofNat_lt.mp h
        have hm1 : max (N : Int) 1 = (N : Int) := by omega
        have r0 : 0 ≤ b.tmod (max (N : Int) 1) := Int.tmod_nonneg _ (by omega)
        have r1 : b.tmod (max (N : Int) 1) < (N : Int) := by rw [hm1]; exact Int.tmod_lt_of_pos _ (by omega)
        have x0 : 0 ≤ (((i : Int) + b.tmod (max (N : Int) 1)).tmod (N : Int)) := Int.tmod_nonneg _ (by omega)
        have x1 : (((i : Int) + b.tmod (max (N : Int) 1)).tmod (N : Int)) < (N : Int) := Int.tmod_lt_of_pos _ (by omega)
        have xN : ((((i : Int) + b.tmod (max (N : Int) 1)).tmod (N : Int))).toNat < N := by omega
        have hsz := szB_iff.1 (hRz.at (i := i) (by omega))
        have hszQ := szB_iff.1 (hRz.at (i := ((((i : Int) + b.tmod (max (N : Int) 1)).tmod (N : Int))).toNat) (by omega))
        refine Need.mk (by show max (N : Int) 1 ≠ 0; omega) fun _ => Need.mk (by show fitStd .i64 ((i : Int) + b.tmod (max (N : Int) 1)); unfold fitStd; omega) fun _ => Need.mk (by show (N : Int) ≠ 0; omega) fun _ => ?_
        refine Need.mk (by show 0 ≤ (i : Int) ∧ (i : Int) < (N : Int); omega) fun _ => Need.mk (by show (i : Int).toNat < N; omega) fun _ => Need.mk (by show 0 ≤ (i : Int) ∧ (i : Int) < (N : Int); omega) fun _ => Need.mk (by show (i : Int).toNat < N; omega) fun _ => ?_
        refine Need.mk ⟨⟨rfl, rfl, prAt_prG _ M, by show M.length ≤ 1000000; omega⟩, by show StS (prL M.length (prG M)); rw [hx, hM]; exact hRs.sublist (List.take_sublist _ _), by show (prK R i).length ≤ 281474976710656; omega, by show (prV R i).length ≤ 281474976710656; omega⟩ fun _ => ?_
        refine Need.mk (by show 0 ≤ (((i : Int) + b.tmod (max (N : Int) 1)).tmod (N : Int)) ∧ (((i : Int) + b.tmod (max (N : Int) 1)).tmod (N : Int)) < (N : Int); exact ⟨x0, x1⟩) fun _ => Need.mk (by show ((((i : Int) + b.tmod (max (N : Int) 1)).tmod (N : Int))).toNat < N; exact xN) fun _ => ?_
        refine Need.mk ⟨⟨rfl, rfl, prAt_prG _ B, by show B.length ≤ 1000000; omega⟩, by show StS (prL B.length (prG B)); rw [hxB]; exact hB.s, by show (prK R ((((i : Int) + b.tmod (max (N : Int) 1)).tmod (N : Int))).toNat).length ≤ 281474976710656; omega, by show 3 ≤ 281474976710656; decide⟩ fun _ => ?_
        refine Need.mk (by show fitStd .i64 ((i : Int) + 1); unfold fitStd; omega) fun _ => ?_
        have hp := put_snoc hRs hRz (i := i) (by omega)
        rw [← hM] at hp
        have hR3 : (putS (prL M.length (prG M)) (prK R i) (prV R i)).length = (R.take (i + 1)).length := by rw [hx, hp]
        have hR4 : ∀ j, j < (R.take (i + 1)).length → prG (putS (prL M.length (prG M)) (prK R i) (prV R i)) j = prG (R.take (i + 1)) j := fun j _ => by rw [hx, hp]
        have hB1 : (putS (prL B.length (prG B)) (prK R ((((i : Int) + b.tmod (max (N : Int) 1)).tmod (N : Int))).toNat) [111, 108, 100]).length = (putS B (prK R ((((i : Int) + b.tmod (max (N : Int) 1)).tmod (N : Int))).toNat) [111, 108, 100]).length := by rw [hxB]
        have hB2 : ∀ j, j < (putS B (prK R ((((i : Int) + b.tmod (max (N : Int) 1)).tmod (N : Int))).toNat) [111, 108, 100]).length → prG (putS (prL B.length (prG B)) (prK R ((((i : Int) + b.tmod (max (N : Int) 1)).tmod (N : Int))).toNat) [111, 108, 100]) j = prG (putS B (prK R ((((i : Int) + b.tmod (max (N : Int) 1)).tmod (N : Int))).toNat) [111, 108, 100]) j := fun j _ => by rw [hxB]
        refine ⟨⟨i + 1, R.take (i + 1), putS B (prK R ((((i : Int) + b.tmod (max (N : Int) 1)).tmod (N : Int))).toNat) [111, 108, 100], by omega, rfl, hB.put ⟨R[((((i : Int) + b.tmod (max (N : Int) 1)).tmod (N : Int))).toNat], List.getElem_mem (by omega), by rw [prK_eq (by omega)]⟩, by have := putS_len (L := B) (k := prK R ((((i : Int) + b.tmod (max (N : Int) 1)).tmod (N : Int))).toNat) (v := [111, 108, 100]); omega⟩, [0, 1, 2, 3, 4, 8, 6, 9], (by show N - (i + 1) < N - i; omega), ?_⟩
        refine ⟨rfl, (by show List.Nodup [0, 1, 2, 3, 4, 8, 6, 9]; decide), ?_, ?_⟩ <;> repeat' (first | exact trivial | exact hR1 | exact hR2 | exact hR3 | exact hR4 | exact hA1 | exact hA2 | exact hB1 | exact hB2 | exact rfl | apply And.intro | exact (fun _ _ _ _ => Cell.le_refl _) | (intro i hi; rfl) | (intro i hi; exact absurd hi (Nat.not_lt_zero _)))
      have h : ¬ (i : Int) < (N : Int) := of_decide_eq_false (p := (i : Int) < (N : Int)) h
      have hiN : i = N := by omega
      have hMR : M = R := by rw [hM, List.take_of_length_le (by omega)]
      refine Need.mk (by show fitStd .i64 ((N : Int) - 1); unfold fitStd; omega) fun _ => ?_
      have hA1 : M.length = N := by omega
      have hA2 : ∀ j, j < N → prG M j = prG R j := fun j _ => by rw [hMR]
      show Runs Tryd.prog 2 (.loop _) _ _
      refine loop_ruleR (N := env (lft Tryd.prog 2) 0 .std tbZ [(36, appFn [] [] sFirst12), (30, appFn [] [(46, 2)] sRise), (37, appFn [] [] sNewS), (38, appFn [] [] sSet), (39, appFn [] [] sGet), (40, appFn [] [] sDrop), (42, appFn [] [] sLen), (41, appFn [0] [] sSRoot)] [(11, [(2004, false), (2005, false), (0, true), (1, true), (2, true), (3, true), (4, true), (5, true), (6, true), (7, true), (8, true), (9, true), (10, true), (11, false)]), (16, [(2006, false), (2007, false), (0, true), (1, true), (2, true), (3, true), (4, true), (5, true), (6, true), (7, true), (8, true), (9, true), (10, true), (11, false)])]) rfl tbZ_ok hC (fun c st K _ h => h) (by kernel_rfl) [0] (X := LO2 R N)
        (S := fun x => ⟨[.c (.row 3), .c (.int .i64 b), .any, .any, .any, .c (.ptr 4 0), .c (.ptr 6 0), .any, .any, .c (.int .i64 x.i)] ++ List.replicate 125 .any, [.glob 0 1 64 (fun i => [.int .u32 (kOf i)]), .elems 46 2 n (prG L), .dead, .row 46 2 N (prG R), .cells 137 [.row 5], .row 63 2 N (prG R), .cells 137 [.row 7], .row 63 2 x.B.length (prG x.B)]⟩) (μ := fun x => (x.i + 1).toNat) ⟨(N : Int) - 1, B, by omega, by omega, hB, by omega, fun j h1 h2 => absurd h2 (by omega)⟩ (by kernel_rfl) [0, 1, 2, 3, 4, 5, 6, 7] ?h02 ?rd2
      case h02 =>
        refine ⟨rfl, by decide, ?_, ?_⟩ <;> repeat' (first | exact trivial | exact hR1 | exact hR2 | exact hR3 | exact hR4 | exact hA1 | exact hA2 | exact hB1 | exact hB2 | exact rfl | apply And.intro | exact (fun _ _ _ _ => Cell.le_refl _) | (intro i hi; rfl) | (intro i hi; exact absurd hi (Nat.not_lt_zero _)))
      case rd2 =>
        rintro ⟨z, C, z0, z1, hQ, zl, zj⟩
        unfold sFirst12 sRise sNewS sSet sGet sDrop sLen sSRoot
        generalize hg0 : (List.length : List PP → Nat) = g0
        generalize hg1 : (List.length : List UInt8 → Nat) = g1
        generalize hL : lft Tryd.prog _ = L
        try dsimp only
        try unfold prG
        generalize ho0 : @prK = zo0, ho1 : @prV = zo1, ho2 : @prL = zo2, ho3 : @ltB = zo3, ho4 : @findB = zo4, ho5 : @szB = zo5, ho6 : @setL = zo6, ho7 : @putS = zo7, ho8 : @dropL = zo8, ho9 : @getL = zo9, ho10 : @prPre = zo10, ho11 : @prPreR = zo11, ho12 : @riseL = zo12, ho13 : @kOf = zo13, ho14 : @rootL = zo14, ho15 : @sumsPre = zo15, ho16 : @orderPre = zo16
        generalize hA : Arith.std = A
        cbv
        subst hA hg0 hg1 hL ho0 ho1 ho2 ho3 ho4 ho5 ho6 ho7 ho8 ho9 ho10 ho11 ho12 ho13 ho14 ho15 ho16
        replace z1 : z < @Nat.cast Int instNatCastInt N := z1
        have hxC : prL C.length (prG C) = C := prL_prG C
        have zj2 : ∀ j : Nat, z < @Nat.cast Int instNatCastInt j → j < N → (prK R j, prV R j) ∈ C := zj
        have zl2 : (@Nat.cast Int instNatCastInt C.length) + z ≤ 2 * @Nat.cast Int instNatCastInt N := zl
        refine Ife.mk (fun h => ?_) (fun h => ?_)
        · have h : 0 ≤ z := of_decide_eq_true (p := 0 ≤ z) h
          have hsz := szB_iff.1 (hRz.at (i := z.toNat) (by omega))
          refine Need.mk (by show 0 ≤ z ∧ z < (N : Int); omega) fun _ => Need.mk (by show z.toNat < N; omega) fun _ => Need.mk (by show 0 ≤ z ∧ z < (N : Int); omega) fun _ => Need.mk (by show z.toNat < N; omega) fun _ => ?_
          refine Need.mk ⟨⟨rfl, rfl, prAt_prG _ C, by show C.length ≤ 1000000; omega⟩, by show StS (prL C.length (prG C)); rw [hxC]; exact hQ.s, by show (prK R z.toNat).length ≤ 281474976710656; omega, by show (prV R z.toNat).length ≤ 281474976710656; omega⟩ fun _ => ?_
          refine Need.mk (by show fitStd .i64 (z - 1); unfold fitStd; omega) fun _ => ?_
          have hB1 : (putS (prL C.length (prG C)) (prK R z.toNat) (prV R z.toNat)).length = (putS C (prK R z.toNat) (prV R z.toNat)).length := by rw [hxC]
          have hB2 : ∀ j, j < (putS C (prK R z.toNat) (prV R z.toNat)).length → prG (putS (prL C.length (prG C)) (prK R z.toNat) (prV R z.toNat)) j = prG (putS C (prK R z.toNat) (prV R z.toNat)) j := fun j _ => by rw [hxC]
          have hes : putS C (prK R z.toNat) (prV R z.toNat) = setL C (prK R z.toNat) (prV R z.toNat) := if_pos (hRz.at (by omega))
          have hlen := putS_len (L := C) (k := prK R z.toNat) (v := prV R z.toNat)
          refine ⟨⟨z - 1, putS C (prK R z.toNat) (prV R z.toNat), by omega, by omega, hQ.put ⟨R[z.toNat], List.getElem_mem (by omega), by rw [prK_eq (by omega)]⟩, by omega, fun j j1 j2 => by
            replace j1 : z - 1 < @Nat.cast Int instNatCastInt j := j1
            rw [hes, mem_setL hQ.s]
            by_cases hjz : j = z.toNat
            · rw [hjz]; exact Or.inl rfl
            · refine Or.inr ⟨zj2 j (by omega) j2, fun hk => ?_⟩
              have := hRs.at (i := z.toNat) (j := j) (by omega) (by omega)
              rw [show prK R j = prK R z.toNat from hk, lt_irr] at this
              cases this⟩, [0, 1, 2, 3, 4, 5, 6, 8], (by show (z - 1 + 1).toNat < (z + 1).toNat; omega), ?_⟩
          refine ⟨rfl, (by show List.Nodup [0, 1, 2, 3, 4, 5, 6, 8]; decide), ?_, ?_⟩ <;> repeat' (first | exact trivial | exact hR1 | exact hR2 | exact hR3 | exact hR4 | exact hA1 | exact hA2 | exact hB1 | exact hB2 | exact rfl | apply And.intro | exact (fun _ _ _ _ => Cell.le_refl _) | (intro i hi; rfl) | (intro i hi; exact absurd hi (Nat.not_lt_zero _)))
        have h : ¬ 0 ≤ z := of_decide_eq_false (p := 0 ≤ z) h
        have hCR : C = R := order_end hRs hQ fun j hj => zj2 j (by omega) (by omega)
        have eN : prL N (prG R) = R := by rw [← hN]; exact prL_prG R
        have hPR : prPre 63 2 N (prG R) := ⟨rfl, rfl, prAt_prG _ R, by omega⟩
        have hPR2 : prPre 63 2 R.length (prG R) := ⟨rfl, rfl, prAt_prG _ R, by omega⟩
        have zzs : szB [122, 122] [122] = true := by decide
        have hPl := putS_len (L := R) (k := [122, 122]) (v := [122])
        have hPs := putS_s (k := [122, 122]) (v := [122]) hRs
        have hPP : prPre 63 2 (putS R [122, 122] [122]).length (prG (putS R [122, 122] [122])) := ⟨rfl, rfl, prAt_prG _ _, by omega⟩
        try dsimp only
        simp only [hCR, prL_prG, eN]
        refine Need.mk ⟨hPR2, hRs, by show 2 ≤ 281474976710656; decide, by show 1 ≤ 281474976710656; decide⟩ fun _ => Need.mk ⟨hPR, hRs⟩ fun _ => ?_
        refine Ife.mk (fun h4 => ?_) (fun h4 => ?_)
        · have h4 : (!findB R [122, 122]) = true := h4
          have hn : findB R [122, 122] = false := by simpa using h4
          refine Need.mk ⟨hPP, hPs⟩ fun _ => ?_
          simp only [zz_drop hRs hn zzs, prL_prG, eN]
          refine Need.mk ⟨ksAt_self, hPR, by rw [eN]; exact hRz⟩ fun _ => Need.mk ⟨ksAt_self, hPR2, by rw [prL_prG]; exact hRz⟩ fun _ => ?_
          refine Ife.mk (fun _ => ?_) (fun h5 => absurd h5 (by simp [Arith.std]))
          refine Need.mk hPR fun _ => ?_
          refine Ife.mk (fun _ => ?_) (fun h5 => absurd h5 (by simp [Arith.std]))
          refine Need.mk hPR2 fun _ => ?_
          have hT : decide ((R.length : Int) = (N : Int)) = true := by rw [hN]; simp
          exact ⟨[0, 1], ⟨rfl, (by repeat' (first | exact trivial | exact hT | exact rfl | apply And.intro)), (by show List.Nodup []; exact List.nodup_nil), rfl, by repeat' (first | exact trivial | exact hR1 | exact hR2 | exact hR3 | exact hR4 | exact hA1 | exact hA2 | exact hB1 | exact hB2 | exact rfl | apply And.intro | exact (fun _ _ _ _ => Cell.le_refl _) | (intro i hi; rfl) | (intro i hi; exact absurd hi (Nat.not_lt_zero _)))⟩⟩
        · have h4 : (!findB R [122, 122]) = false := h4
          have hn : findB R [122, 122] = true := by simpa using h4
          obtain ⟨w, hw, hg⟩ := findB_mem hn
          have hwz := szB_iff.1 (hRz _ hw)
          refine Need.mk ⟨hPR, hRs⟩ fun _ => Need.mk ⟨hPP, hPs, by show 2 ≤ 281474976710656; decide, by show (getL R [122, 122]).length ≤ 281474976710656; rw [hg]; exact Nat.le_trans hwz.2.2 (by decide)⟩ fun _ => ?_
          simp only [zz_set hRs hRz hn zzs, prL_prG, eN]
          refine Need.mk ⟨ksAt_self, hPR, by rw [eN]; exact hRz⟩ fun _ => Need.mk ⟨ksAt_self, hPR2, by rw [prL_prG]; exact hRz⟩ fun _ => ?_
          refine Ife.mk (fun _ => ?_) (fun h5 => absurd h5 (by simp [Arith.std]))
          refine Need.mk hPR fun _ => ?_
          refine Ife.mk (fun _ => ?_) (fun h5 => absurd h5 (by simp [Arith.std]))
          refine Need.mk hPR2 fun _ => ?_
          have hT : decide ((R.length : Int) = (N : Int)) = true := by rw [hN]; simp
          exact ⟨[0, 1], ⟨rfl, (by repeat' (first | exact trivial | exact hT | exact rfl | apply And.intro)), (by show List.Nodup []; exact List.nodup_nil), rfl, by repeat' (first | exact trivial | exact hR1 | exact hR2 | exact hR3 | exact hR4 | exact hA1 | exact hA2 | exact hB1 | exact hB2 | exact rfl | apply And.intro | exact (fun _ _ _ _ => Cell.le_refl _) | (intro i hi; rfl) | (intro i hi; exact absurd hi (Nat.not_lt_zero _)))⟩⟩

end Go.Proofs.YthomoliklfmnkaaDoor.Vx
namespace Go.Proofs.YthomoliklfmnkaaDoor
open Go.RowKit
set_option linter.unusedVariables false
theorem storeOrderWalk (w : World) (hk : ∀ i, i < 64 → w.cell? ⟨0, i, none⟩ = some (.int .u32 (Sha.kOf i))) (p : Option Addr) (cap : Nat) (ls : List Vx.PP) (hs : SlIn w p 2 cap (ls.map Vx.prVals)) (a : Int) (ha : -9223372036854775808 ≤ a ∧ a ≤ 9223372036854775807) :
    Calls Tryd.prog 6 #[.slice p ls.length cap, .int .i64 a] w fun e w' => e = .returned (.bool true) ∧ Below w.heap.size w w' := by
  obtain ⟨q, hq, gd⟩ := prs_good hs
  rw [← hq]
  refine Calls.mono (Vx.storeOrderP.run [.c (.row 1), .c (.int .i64 a)] [.glob 0 1 64 (fun i => [.int .u32 (Sha.kOf i)]), .elems 46 2 ls.length (Vx.prG ls)] _ _ _ rfl ⟨Vx.ksAt_self, rfl, rfl, Vx.prAt_prG _ _⟩ [⟨0, undef, 0⟩, q] w _ (Vx.Rel.addV (Vx.relGlob hk) 46 gd)
    ⟨_, _, rfl, (by obtain ⟨a', cap', e, _⟩ := gd.sl; simp [Vx.SV.is, Vx.CV.den, e, Vx.one] : Vx.SV.is [⟨0, undef, 0⟩, q] (.c (.row 1)) q.v), _, _, rfl, rfl, rfl⟩) fun e W' he => ?_
  obtain ⟨u, ρ', rfl, hu, hr⟩ := he
  obtain rfl : .bool true = u := Option.some.inj hu
  exact ⟨rfl, Vx.Rel.toBelow hr⟩
end Go.Proofs.YthomoliklfmnkaaDoor
end
