/- Pairs in order: Compare, BinarySearchFunc, find, by the walker. -/
import Derived.Test.YthomoliklfmnkaaVxFrame
import Derived.Test.YthomoliklfmnkaaVxFlat
import Derived.Test.YthomoliklfmnkaaVxLive
import Derived.Test.YthomoliklfmnkaaM11
import Derived.Test.YthomoliklfmnkaaShelf
import Derived.Test.YthomoliklfmnkaaRows
namespace Go.Proofs.Ythomoliklfmnkaa.Vx
open Go.RowKit
set_option linter.unusedVariables false
set_option linter.unusedSimpArgs false
/-- Pairs, as cells. -/
def prGP (zp0 : type_of% @prK) (zp1 : type_of% @prV) (l : List PP) (i : Nat) : List CV := [.str (zp0 l i), .str (zp1 l i)]
@[reducible] def prG := prGP prK prV
def prOf : List CV → PP
  | [.str a, .str b] => (a, b)
  | _ => ([], [])
def prL (n : Nat) (get : Nat → List CV) : List PP := (List.range n).map fun i => prOf (get i)
def PrAt (n : Nat) (get : Nat → List CV) : Prop := ∀ i, i < n → ∃ a b, get i = [.str a, .str b]
theorem prL_len {n : Nat} {get : Nat → List CV} : (prL n get).length = n := by simp [prL]
theorem prL_get {n : Nat} {get : Nat → List CV} {i : Nat} (h : i < n) : (prL n get).getD i ([], []) = prOf (get i) := by simp [prL, List.getD, List.getElem?_map, List.getElem?_range h]
theorem PrAt.eq {n : Nat} {get : Nat → List CV} (h : PrAt n get) {i : Nat} (hi : i < n) : get i = prG (prL n get) i := by
  obtain ⟨a, b, e⟩ := h i hi
  unfold prG prGP prK prV
  rw [prL_get hi, e]
  rfl
theorem PrAt.same {n : Nat} {get : Nat → List CV} {ty : Nat} (h : PrAt n get) : hSame [.elems ty 2 n get] [.elems ty 2 n (prG (prL n get))] := ⟨⟨rfl, rfl, rfl, fun i hi => h.eq hi⟩, trivial⟩
theorem prAt_prG (n : Nat) (l : List PP) : PrAt n (prG l) := fun i _ => ⟨_, _, rfl⟩
theorem prL_prG (l : List PP) : prL l.length (prG l) = l := by
  apply List.ext_getElem?
  intro i
  by_cases hi : i < l.length
  · simp [prL, prG, prGP, prOf, prK, prV, List.getElem?_range hi, List.getD, hi]
  · rw [List.getElem?_eq_none (by simp [prL]; omega), List.getElem?_eq_none (by omega)]
def prPre (ty one n : Nat) (get : Nat → List CV) : Prop := ty = 33 ∧ one = 2 ∧ PrAt n get ∧ n ≤ 1000000
/-- The search, so far. -/
structure LBs (L : List PP) (k : List UInt8) (n : Nat) where
  i : Int
  j : Int
  h0 : 0 ≤ i
  h1 : i ≤ j
  h2 : j ≤ (n : Int)
  h3 : i ≤ (findI L k : Int)
  h4 : (findI L k : Int) ≤ j
def tbSt : Tbl where
  T :=
    (3, ⟨1, false, [.int .i64 (0)], .int .i64, 8⟩) ::
    (4, ⟨1, false, [.ff], .bool, 1⟩) ::
    (9, ⟨1, false, [.str []], .str, 16⟩) ::
    (115, ⟨1, false, [.int .u64 (0)], .int .u64, 8⟩) ::
    (33, ⟨2, true, [.str [], .str []], .struct [(0, (1, false)), (1, (1, false))], 32⟩) ::
    (31, ⟨1, false, [.val (.slice none 0 0)], .slice 33, 24⟩) ::
    (77, ⟨1, true, [.val (.slice none 0 0)], .struct [(0, (1, false))], 24⟩) ::
    (25, ⟨1, false, [.val (.pointer none)], .ptr 77, 8⟩) ::
    []
  F :=
    []

theorem tbSt_ok : tbSt.Ok Try.prog where
  T :=
    TblOk.cons (by kernel_rfl) <|
    TblOk.cons (by kernel_rfl) <|
    TblOk.cons (by kernel_rfl) <|
    TblOk.cons (by kernel_rfl) <|
    TblOk.cons (by kernel_rfl) <|
    TblOk.cons (by kernel_rfl) <|
    TblOk.cons (by kernel_rfl) <|
    TblOk.cons (by kernel_rfl) <|
    TblOk.nil _
  F :=
    FlatsOk.nil _

def sCmpS : List SV → Option (Prop × SV)
  | [.c (.str a), .c (.str b)] => some (True, .c (.int .i64 (Lib.compareBytes a b)))
  | _ => none

theorem cmpSP : Pure Try.prog 48 sCmpS := by
  refine ⟨by kernel_rfl, fun args pre r h hp us hs W => ?_⟩
  unfold sCmpS at h
  split at h
  rotate_left
  · cases h
  rename_i a b
  cases h
  obtain ⟨u0, _, rfl, a0, b0⟩ := hs
  obtain rfl : .string ⟨(a).toArray⟩ = u0 := Option.some.inj a0
  obtain ⟨u1, _, rfl, a1, b1⟩ := b0
  obtain rfl : .string ⟨(b).toArray⟩ = u1 := Option.some.inj a1
  cases b1
  refine Calls.mono ((Try.strings_Compare ⟨a.toArray⟩ ⟨b.toArray⟩ W).mono fun e w' he => (⟨he.1, he.2 ▸ Below.refl _ _⟩ : _ ∧ Below W.heap.size W w')) fun e W' he => ?_
  obtain ⟨rfl, hb⟩ := he
  exact ⟨_, rfl, rfl, hb⟩

def sFind1 : List SV → Option (Prop × SV)
  | [.agg [.str a, .str b], .c (.str k)] => some (True, .c (.int .i64 (Lib.compareBytes a k)))
  | _ => none

set_option maxRecDepth 100000 in
set_option maxHeartbeats 2000000 in
theorem find1P : Pure Try.prog 47 sFind1 := by
  have hC : CtsOk Try.prog [(48, appPure sCmpS)] := CtsOk.cons (Pure.ct cmpSP) <| CtsOk.nil _
  refine Pure.of (E := tbSt) (C := [(48, appPure sCmpS)]) [] 0 [] tbSt_ok hC (by kernel_rfl) Try.func47 rfl rfl rfl (by kernel_rfl) (by kernel_rfl) ?_ ?_
  · intro args pre r h
    unfold sFind1 at h
    split at h
    · cases h; rfl
    · cases h
  · intro args pre r h hp
    unfold sFind1 at h
    split at h
    rotate_left
    · cases h
    rename_i a b k
    cases h
    unfold sCmpS
    generalize ho0 : @Lib.compareBytes = zo0
    generalize hA : Arith.std = A
    cbv
    subst hA ho0
    first | trivial | exact Need.mk trivial fun _ => trivial

def sBs : SpecF
  | [.c (.row 0), .c (.str k), .fn f []], [.elems ty one n get] => some (f = 47 ∧ prPre ty one n get ∧ StS (prL n get), .tup [(some (.int .i64 (findI (prL n get) k : Int)), []), (some (.bool (findB (prL n get) k)), [])], [.dead])
  | _, _ => none

set_option maxRecDepth 100000 in
set_option maxHeartbeats 8000000 in
theorem bsP : Fn Try.prog 46 [] [(33, 2)] sBs := by
  have hC : CtsOk Try.prog [(47, appPure sFind1)] := CtsOk.cons (Pure.ct find1P) <| CtsOk.nil _
  refine Fn.of (E := tbSt) [] 0 [] tbSt_ok hC (by kernel_rfl) Try.func46 rfl rfl rfl (by kernel_rfl) (by kernel_rfl) 1 33 2 ?_ ?_
  · intro args h pre r h' hs
    unfold sBs at hs
    split at hs
    · cases hs; exact ⟨rfl, rfl, Nat.le_of_ble_eq_true rfl⟩
    · cases hs
  · intro args h pre r h' hs hp
    unfold sBs at hs
    split at hs
    rotate_left
    · cases hs
    rename_i k f ty one n get
    cases hs
    obtain ⟨rfl, ⟨rfl, rfl, hst, hm⟩, hs⟩ := hp
    refine ⟨[.elems 33 2 n (prG (prL n get))], hst.same, ?_⟩
    have hL : (prL n get).length = n := prL_len
    generalize prL n get = L at hL hs ⊢
    show Runs Try.prog 1 (.loop _) _ _
    refine loop_ruleR (N := env (lft Try.prog 1) 0 .std tbSt [(47, appPure sFind1)] []) rfl tbSt_ok hC (fun c st K _ h => h) (by kernel_rfl) [] (X := LBs L k n)
      (S := fun x => ⟨[.c (.row 0), .c (.str k), .fn 47 [], .any, .any, .any, .any, .any, .c (.int .i64 n), .c (.int .i64 x.i), .c (.int .i64 x.j)] ++ List.replicate 38 .any, [.elems 33 2 n (prG L)]⟩) (μ := fun x => (x.j - x.i).toNat) ⟨0, n, by omega, by omega, by omega, by omega, by have := findI_le (L := L) (k := k); omega⟩ (by kernel_rfl) [0] ?_ ?_
    · refine ⟨rfl, by decide, ?_, ?_⟩ <;> repeat' (first | exact trivial | exact rfl | apply And.intro | exact (fun _ _ _ _ => Cell.le_refl _) | (intro i hi; rfl) | (intro i hi; exact absurd hi (Nat.not_lt_zero _)))
    rintro ⟨i, j, hi0, hij, hjn, hlo, hhi⟩
    unfold sFind1
    generalize hg0 : (List.length : List PP → Nat) = g0
    generalize hL : lft Try.prog _ = L
    try dsimp only
    try unfold prG
    generalize ho0 : @prK = zo0, ho1 : @prV = zo1, ho2 : @prL = zo2, ho3 : @ltB = zo3, ho4 : @findI = zo4, ho5 : @findB = zo5, ho6 : @Lib.compareBytes = zo6, ho7 : @prPre = zo7
    generalize hA : Arith.std = A
    cbv
    subst hA hg0 hL ho0 ho1 ho2 ho3 ho4 ho5 ho6 ho7
    replace hjn : j ≤ @Nat.cast Int instNatCastInt n := hjn
    replace hlo : i ≤ @Nat.cast Int instNatCastInt (findI L k) := hlo
    replace hhi : @Nat.cast Int instNatCastInt (findI L k) ≤ j := hhi
    have eM : (Arith.std.wrap .i64 (Arith.std.shr .u64 (Arith.std.wrap .u64 (Arith.std.add i j)) 1)) = (i + j) / 2 := by
      show IntKind.wrap .i64 (Int.fdiv (IntKind.wrap .u64 (i + j)) (2 ^ (min (1 : Int).toNat IntKind.u64.bits))) = _
      rw [show (2 : Int) ^ (min (1 : Int).toNat IntKind.u64.bits) = 2 from rfl, IntKind.wrap_u64, Int.fdiv_eq_ediv_of_nonneg _ (by decide), Int.emod_eq_of_lt (by omega) (by omega)]
      exact fitStd_wrap (by unfold fitStd; omega)
    refine Ife.mk (fun hlt => ?_) (fun hlt => ?_)
    · replace hlt : i < j := of_decide_eq_true (p := i < j) hlt
      have hm1 : i ≤ (i + j) / 2 := by omega
      have hm2 : (i + j) / 2 < j := by omega
      have hmn : ((i + j) / 2).toNat < n := by omega
      refine Need.mk (by show fitStd .i64 (i + j); unfold fitStd; omega) fun _ => Need.mk (by show (0 : Int) ≤ 1; decide) fun _ => ?_
      refine Need.mk (by show 0 ≤ (Arith.std.wrap .i64 (Arith.std.shr .u64 (Arith.std.wrap .u64 (Arith.std.add i j)) 1)) ∧ (Arith.std.wrap .i64 (Arith.std.shr .u64 (Arith.std.wrap .u64 (Arith.std.add i j)) 1)) < (n : Int); rw [eM]; omega) fun _ => Need.mk (by show ((Arith.std.wrap .i64 (Arith.std.shr .u64 (Arith.std.wrap .u64 (Arith.std.add i j)) 1))).toNat < n; rw [eM]; exact hmn) fun _ => Need.mk trivial fun _ => ?_
      refine Ife.mk (fun h => ?_) (fun h => ?_)
      · have h : decide (Lib.compareBytes (prK L ((Arith.std.wrap .i64 (Arith.std.shr .u64 (Arith.std.wrap .u64 (Arith.std.add i j)) 1))).toNat) k < 0) = true := h
        rw [eM, cmpB_less] at h
        have hlo2 : (i + j) / 2 + 1 ≤ (findI L k : Int) := by
          apply Classical.byContradiction
          intro hno
          have := findI_ge hs (k := k) (i := ((i + j) / 2).toNat) (by omega) (by omega)
          rw [h] at this
          cases this
        refine Need.mk (by show fitStd .i64 ((Arith.std.wrap .i64 (Arith.std.shr .u64 (Arith.std.wrap .u64 (Arith.std.add i j)) 1)) + 1); rw [eM]; unfold fitStd; omega) fun _ => ?_
        refine ⟨⟨(Arith.std.wrap .i64 (Arith.std.shr .u64 (Arith.std.wrap .u64 (Arith.std.add i j)) 1)) + 1, j, by rw [eM]; omega, by rw [eM]; omega, hjn, by rw [eM]; exact hlo2, hhi⟩, [0], (by show (j - ((Arith.std.wrap .i64 (Arith.std.shr .u64 (Arith.std.wrap .u64 (Arith.std.add i j)) 1)) + 1)).toNat < (j - i).toNat; rw [eM]; omega), ?_⟩
        refine ⟨rfl, by decide, ?_, ?_⟩ <;> repeat' (first | exact trivial | exact rfl | apply And.intro | exact (fun _ _ _ _ => Cell.le_refl _) | (intro i hi; rfl) | (intro i hi; exact absurd hi (Nat.not_lt_zero _)))
      · have h : decide (Lib.compareBytes (prK L ((Arith.std.wrap .i64 (Arith.std.shr .u64 (Arith.std.wrap .u64 (Arith.std.add i j)) 1))).toNat) k < 0) = false := h
        rw [eM, cmpB_less] at h
        have hhi2 : (findI L k : Int) ≤ (i + j) / 2 := by
          apply Classical.byContradiction
          intro hno
          have := findI_lt (L := L) (k := k) (i := ((i + j) / 2).toNat) (by omega)
          rw [h] at this
          cases this
        refine ⟨⟨i, (Arith.std.wrap .i64 (Arith.std.shr .u64 (Arith.std.wrap .u64 (Arith.std.add i j)) 1)), hi0, by rw [eM]; omega, by rw [eM]; omega, hlo, by rw [eM]; exact hhi2⟩, [0], (by show ((Arith.std.wrap .i64 (Arith.std.shr .u64 (Arith.std.wrap .u64 (Arith.std.add i j)) 1)) - i).toNat < (j - i).toNat; rw [eM]; omega), ?_⟩
        refine ⟨rfl, by decide, ?_, ?_⟩ <;> repeat' (first | exact trivial | exact rfl | apply And.intro | exact (fun _ _ _ _ => Cell.le_refl _) | (intro i hi; rfl) | (intro i hi; exact absurd hi (Nat.not_lt_zero _)))
    · replace hlt : ¬ i < j := of_decide_eq_false (p := i < j) hlt
      have ei : i = (findI L k : Int) := by omega
      have en : i.toNat = findI L k := by omega
      have hfl := findI_le (L := L) (k := k)
      refine Ife.mk (fun h => ?_) (fun h => ?_)
      · have h : i < (@Nat.cast Int instNatCastInt n) := of_decide_eq_true (p := i < (n : Int)) h
        refine Need.mk (by show 0 ≤ i ∧ i < (n : Int); omega) fun _ => Need.mk (by show i.toNat < n; omega) fun _ => Need.mk trivial fun _ => ?_
        have e2 : decide (Lib.compareBytes (prK L i.toNat) k = 0) = findB L k := by
          rw [cmpB_eq, en]
          unfold findB
          rw [decide_eq_true (show findI L k < L.length by omega), Bool.true_and]
        exact ⟨[0], ⟨rfl, (by repeat' (first | exact trivial | exact ei | exact e2 | exact congrArg CV.bool e2 | exact rfl | apply And.intro)), by decide, rfl, by repeat' (first | exact trivial | exact rfl | apply And.intro | exact (fun _ _ _ _ => Cell.le_refl _) | (intro i hi; rfl) | (intro i hi; exact absurd hi (Nat.not_lt_zero _)))⟩⟩
      · have h : ¬ i < (@Nat.cast Int instNatCastInt n) := of_decide_eq_false (p := i < (n : Int)) h
        have e2 : false = findB L k := by
          unfold findB
          rw [decide_eq_false (show ¬ findI L k < L.length by omega), Bool.false_and]
        rw [← e2]
        exact ⟨[0], ⟨rfl, (by repeat' (first | exact trivial | exact ei | exact e2 | exact congrArg CV.bool e2 | exact rfl | apply And.intro)), by decide, rfl, by repeat' (first | exact trivial | exact rfl | apply And.intro | exact (fun _ _ _ _ => Cell.le_refl _) | (intro i hi; rfl) | (intro i hi; exact absurd hi (Nat.not_lt_zero _)))⟩⟩

def sFind : SpecF
  | [.c (.ptr 0 0), .c (.str k)], [.cells t [.row 1], .row ty one n get] => some (t = 77 ∧ prPre ty one n get ∧ StS (prL n get), .tup [(some (.int .i64 (findI (prL n get) k : Int)), []), (some (.bool (findB (prL n get) k)), [])], [.cells 77 [.row 1], .row 33 2 n (prG (prL n get))])
  | _, _ => none

set_option maxRecDepth 100000 in
set_option maxHeartbeats 8000000 in
theorem findP : Fn Try.prog 29 [] [] sFind := by
  have hC : CtsOk Try.prog [(46, appFn [] [(33, 2)] sBs)] := CtsOk.cons (Fn.ct bsP) <| CtsOk.nil _
  refine Fn.of (E := tbSt) [] 0 [] tbSt_ok hC (by kernel_rfl) Try.func29 rfl rfl rfl (by kernel_rfl) (by kernel_rfl) 2 5 1 ?_ ?_
  · intro args h pre r h' hs
    unfold sFind at hs
    split at hs
    · cases hs; exact ⟨rfl, rfl, Nat.le_of_ble_eq_true rfl⟩
    · cases hs
  · intro args h pre r h' hs hp
    unfold sFind at hs
    split at hs
    rotate_left
    · cases hs
    rename_i k t ty one n get
    cases hs
    obtain ⟨rfl, ⟨rfl, rfl, hst, hm⟩, hs⟩ := hp
    refine ⟨[.cells 77 [.row 1], .row 33 2 n (prG (prL n get))], ⟨rfl, ⟨rfl, rfl, rfl, fun i hi => hst.eq hi⟩, trivial⟩, ?_⟩
    have hL : (prL n get).length = n := prL_len
    have ePR : prL n (prG (prL n get)) = prL n get := by
      have := prL_prG (prL n get)
      rwa [hL] at this
    generalize prL n get = L at hL hs ePR ⊢
    unfold sBs
    generalize hg0 : (List.length : List PP → Nat) = g0
    try unfold prG
    generalize ho0 : @prK = zo0, ho1 : @prV = zo1, ho2 : @prL = zo2, ho3 : @ltB = zo3, ho4 : @findI = zo4, ho5 : @findB = zo5, ho6 : @prPre = zo6
    generalize hA : Arith.std = A
    cbv
    subst hA hg0 ho0 ho1 ho2 ho3 ho4 ho5 ho6
    refine Need.mk ⟨⟨rfl, rfl, prAt_prG n L, hm⟩, by rw [ePR]; exact hs⟩ fun _ => ?_
    rw [ePR]
    exact ⟨[0, 1], ⟨rfl, (by repeat' (first | exact trivial | exact rfl | apply And.intro | exact (fun _ _ _ _ => Cell.le_refl _) | (intro i hi; rfl) | (intro i hi; exact absurd hi (Nat.not_lt_zero _)))), (by show List.Nodup [0, 1]; decide), rfl, by repeat' (first | exact trivial | exact rfl | apply And.intro | exact (fun _ _ _ _ => Cell.le_refl _) | (intro i hi; rfl) | (intro i hi; exact absurd hi (Nat.not_lt_zero _)))⟩⟩

def sHasP : List SV → Option (Prop × SV)
  | [.c (.str s), .c (.str f)] => some (True, .c (.bool (preB f s)))
  | _ => none

set_option maxRecDepth 100000 in
set_option maxHeartbeats 2000000 in
theorem hasLP : Pure Try.prog 51 sHasP := by
  have hC : CtsOk Try.prog [] := CtsOk.nil _
  refine Pure.of (E := tbSt) (C := []) [] 0 [] tbSt_ok hC (by kernel_rfl) Try.func51 rfl rfl rfl (by kernel_rfl) (by kernel_rfl) ?_ ?_
  · intro args pre r h
    unfold sHasP at h
    split at h
    · cases h; rfl
    · cases h
  · intro args pre r h hp
    unfold sHasP at h
    split at h
    rotate_left
    · cases h
    rename_i s f
    cases h
    generalize ho0 : @preB = zo0
    generalize hA : Arith.std = A
    cbv
    subst hA ho0
    refine Ife.mk (fun h => ?_) (fun h => ?_)
    · have h : (f.length : Int) ≤ (s.length : Int) := of_decide_eq_true (p := (f.length : Int) ≤ (s.length : Int)) h
      have h1 : f.length ≤ s.length := Int.ofNat_le.mp h
      refine Need.mk (by show (0 : Int) ≤ 0 ∧ (0 : Int) ≤ (f.length : Int) ∧ (f.length : Int) ≤ (s.length : Int); omega) fun _ => ?_
      unfold preB
      rw [decide_eq_true h1, Bool.true_and]
      rfl
    · have h : ¬ (f.length : Int) ≤ (s.length : Int) := of_decide_eq_false (p := (f.length : Int) ≤ (s.length : Int)) h
      have h1 : ¬ f.length ≤ s.length := fun q => h (Int.ofNat_le.mpr q)
      unfold preB
      rw [decide_eq_false h1, Bool.false_and]

set_option maxRecDepth 100000 in
set_option maxHeartbeats 2000000 in
theorem hasP : Pure Try.prog 31 sHasP := by
  have hC : CtsOk Try.prog [(51, appPure sHasP)] := CtsOk.cons (Pure.ct hasLP) <| CtsOk.nil _
  refine Pure.of (E := tbSt) (C := [(51, appPure sHasP)]) [] 0 [] tbSt_ok hC (by kernel_rfl) Try.func31 rfl rfl rfl (by kernel_rfl) (by kernel_rfl) ?_ ?_
  · intro args pre r h
    unfold sHasP at h
    split at h
    · cases h; rfl
    · cases h
  · intro args pre r h hp
    unfold sHasP at h
    split at h
    rotate_left
    · cases h
    rename_i s f
    cases h
    unfold sHasP
    generalize ho0 : @preB = zo0
    generalize hA : Arith.std = A
    cbv
    subst hA ho0
    first | trivial | exact Need.mk trivial fun _ => trivial

def sSzd : List SV → Option (Prop × SV)
  | [.c (.str k), .c (.str v)] => some (True, .c (.bool (szB k v)))
  | _ => none

set_option maxRecDepth 100000 in
set_option maxHeartbeats 2000000 in
theorem szdP : Pure Try.prog 45 sSzd := by
  have hC : CtsOk Try.prog [] := CtsOk.nil _
  refine Pure.of (E := tbSt) (C := []) [] 0 [] tbSt_ok hC (by kernel_rfl) Try.func45 rfl rfl rfl (by kernel_rfl) (by kernel_rfl) ?_ ?_
  · intro args pre r h
    unfold sSzd at h
    split at h
    · cases h; rfl
    · cases h
  · intro args pre r h hp
    unfold sSzd at h
    split at h
    rotate_left
    · cases h
    rename_i k v
    cases h
    generalize hg0 : (List.length : List UInt8 → Nat) = g0
    generalize ho0 : @szB = zo0
    generalize hA : Arith.std = A
    cbv
    subst hA hg0 ho0
    have e1 : ∀ k : List UInt8, (!decide (k = [])) = decide (1 ≤ k.length) := fun k => by cases k <;> simp
    unfold szB
    refine Ife.mk (fun h => ?_) (fun h => ?_)
    · have h : (!decide (k = [])) = true := h
      rw [e1] at h
      rw [h]
      refine Ife.mk (fun h2 => ?_) (fun h2 => ?_)
      · have h2 : (k.length : Int) ≤ 160 := of_decide_eq_true (p := (k.length : Int) ≤ 160) h2
        rw [decide_eq_true (show k.length ≤ 160 by omega)]
        refine Ife.mk (fun h3 => ?_) (fun h3 => ?_)
        · have h3 : (!decide (v = [])) = true := h3
          rw [e1] at h3
          rw [h3]
          show decide ((v.length : Int) ≤ 64) = (true && true && (true && decide (v.length ≤ 64)))
          rw [Bool.eq_iff_iff]
          simp
          omega
        · have h3 : (!decide (v = [])) = false := h3
          rw [e1] at h3
          rw [h3]
          rfl
      · have h2 : ¬ (k.length : Int) ≤ 160 := of_decide_eq_false (p := (k.length : Int) ≤ 160) h2
        rw [decide_eq_false (show ¬ k.length ≤ 160 by omega)]
        rfl
    · have h : (!decide (k = [])) = false := h
      rw [e1] at h
      rw [h]
      rfl

end Go.Proofs.Ythomoliklfmnkaa.Vx
