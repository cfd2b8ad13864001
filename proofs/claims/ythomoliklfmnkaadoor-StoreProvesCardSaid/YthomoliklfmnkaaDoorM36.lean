/- Acts on a store, by the walker: Few; and the store's Prove. -/
import Derived.Test.YthomoliklfmnkaaDoorM35
import Derived.Test.YthomoliklfmnkaaDoorM24
import Derived.Test.YthomoliklfmnkaaDoorM23
import Derived.Test.YthomoliklfmnkaaDoorM18
section
namespace Go.Proofs.YthomoliklfmnkaaDoor.Vx
open Sha
open Go.RowKit
set_option linter.unusedVariables false
set_option linter.unusedSimpArgs false
abbrev AC := Int × List UInt8 × List UInt8
def acK (L : List AC) (i : Nat) : Int := (L.getD i (0, [], [])).1
def acS (L : List AC) (i : Nat) : List UInt8 := (L.getD i (0, [], [])).2.1
def acV (L : List AC) (i : Nat) : List UInt8 := (L.getD i (0, [], [])).2.2
/-- Acts, as cells. -/
def acGP (zp0 : type_of% @acK) (zp1 : type_of% @acS) (zp2 : type_of% @acV) (l : List AC) (i : Nat) : List CV := [.int .i64 (zp0 l i), .str (zp1 l i), .str (zp2 l i)]
@[reducible] def acG := acGP acK acS acV
def acOf : List CV → AC
  | [.int .i64 k, .str a, .str b] => (k, a, b)
  | _ => (0, [], [])
def acL (n : Nat) (get : Nat → List CV) : List AC := (List.range n).map fun i => acOf (get i)
def AcAt (n : Nat) (get : Nat → List CV) : Prop := ∀ i, i < n → ∃ k a b, get i = [.int .i64 k, .str a, .str b]
theorem acL_len {n : Nat} {get : Nat → List CV} : (acL n get).length = n := by simp [acL]
theorem acL_get {n : Nat} {get : Nat → List CV} {i : Nat} (h : i < n) : (acL n get).getD i (0, [], []) = acOf (get i) := by simp [acL, List.getD, List.getElem?_map, List.getElem?_range h]
theorem AcAt.eq {n : Nat} {get : Nat → List CV} (h : AcAt n get) {i : Nat} (hi : i < n) : get i = acG (acL n get) i := by
  obtain ⟨k, a, b, e⟩ := h i hi
  unfold acG acGP acK acS acV
  rw [acL_get hi, e]
  rfl
theorem acAt_acG (n : Nat) (l : List AC) : AcAt n (acG l) := fun i _ => ⟨_, _, _, rfl⟩
theorem acL_acG (l : List AC) : acL l.length (acG l) = l := by
  apply List.ext_getElem?
  intro i
  by_cases hi : i < l.length
  · simp [acL, acG, acGP, acOf, acK, acS, acV, List.getElem?_range hi, List.getD, hi]
  · rw [List.getElem?_eq_none (by simp [acL]; omega), List.getElem?_eq_none (by omega)]
def acPre (many : Int) (ty sz n : Nat) (get : Nat → List CV) : Prop := ty = 69 ∧ sz = 3 ∧ AcAt n get ∧ many ≤ 1000000
def fewAt (L : List AC) (i : Nat) : Bool := decide ((acS L i).length ≤ 300) && decide ((acV L i).length ≤ 200)
def fewB (many : Int) (L : List AC) : Bool := decide ((L.length : Int) ≤ many) && (List.range L.length).all (fewAt L)
theorem fewAt_iff {L : List AC} {i : Nat} : fewAt L i = true ↔ (acS L i).length ≤ 300 ∧ (acV L i).length ≤ 200 := by simp [fewAt]
theorem fewB_iff {many : Int} {L : List AC} : fewB many L = true ↔ (L.length : Int) ≤ many ∧ ∀ i, i < L.length → (acS L i).length ≤ 300 ∧ (acV L i).length ≤ 200 := by
  unfold fewB
  simp only [Bool.and_eq_true, decide_eq_true_iff, List.all_eq_true, List.mem_range, fewAt_iff]
/-- What an act makes of what is stored. -/
def stepA (R : List PP) (x : AC) : List PP := if x.1 = 1 then dropL R x.2.1 else putS R x.2.1 x.2.2
def runA (L : List AC) : List PP := L.foldl stepA []
structure RunOk (R : List PP) (i : Nat) : Prop where
  s : StS R
  z : AllSz R
  l : R.length ≤ i
theorem drop_sz {L : List PP} {k : List UInt8} (hs : StS L) (h : AllSz L) : AllSz (dropL L k) := fun p hp => h p ((mem_dropL hs p).1 hp).1
theorem runA_ok : ∀ (L : List AC), RunOk (runA L) L.length := fun L => by
  have key : ∀ (L : List AC) (R : List PP) (m : Nat), RunOk R m → RunOk (L.foldl stepA R) (m + L.length) := by
    intro L
    induction L with
    | nil => exact fun R m h => h
    | cons x L ih =>
      intro R m h
      have h2 : RunOk (stepA R x) (m + 1) := by
        unfold stepA
        split
        · exact ⟨dropL_s h.s, drop_sz h.s h.z, by have := dropL_len (L := R) (k := x.2.1); have := h.l; omega⟩
        · exact ⟨putS_s h.s, put_sz h.z, by have := putS_len (L := R) (k := x.2.1) (v := x.2.2); have := h.l; omega⟩
      have := ih _ _ h2
      rw [show m + (x :: L).length = m + 1 + L.length by simp; omega]
      exact this
  have := key L [] 0 ⟨List.Pairwise.nil, (fun p hp => by cases hp), Nat.le_refl _⟩
  rw [Nat.zero_add] at this
  exact this
theorem runA_next {L : List AC} {i : Nat} (hi : i < L.length) : runA (L.take (i + 1)) = if acK L i = 1 then dropL (runA (L.take i)) (acS L i) else putS (runA (L.take i)) (acS L i) (acV L i) := by
  have e : L.getD i (0, [], []) = L[i] := by simp [List.getD, hi]
  unfold runA acK acS acV
  rw [e, List.take_add_one, List.getElem?_eq_getElem hi, Option.toList_some, List.foldl_append]
  rfl
def tbAc : Tbl where
  T :=
    (3, ⟨1, false, [.int .i64 (0)], .int .i64, 8⟩) ::
    (4, ⟨1, false, [.ff], .bool, 1⟩) ::
    (9, ⟨1, false, [.str []], .str, 16⟩) ::
    (69, ⟨3, true, [.int .i64 (0), .str [], .str []], .struct [(0, (1, false)), (1, (1, false)), (2, (1, false))], 40⟩) ::
    (66, ⟨1, false, [.val (.slice none 0 0)], .slice 69, 24⟩) ::
    []
  F :=
    []

theorem tbAc_ok : tbAc.Ok Tryd.prog where
  T :=
    TblOk.cons (by kernel_rfl) <|
    TblOk.cons (by kernel_rfl) <|
    TblOk.cons (by kernel_rfl) <|
    TblOk.cons (by kernel_rfl) <|
    TblOk.cons (by kernel_rfl) <|
    TblOk.nil _
  F :=
    FlatsOk.nil _

def sFewA : SpecF
  | [.c (.row 0), .c (.int .i64 many)], [.elems ty sz n get] => some (acPre many ty sz n get, .c (.bool (fewB many (acL n get))), [.dead])
  | _, _ => none

set_option maxRecDepth 100000 in
set_option maxHeartbeats 4000000 in
theorem fewAP : Fn Tryd.prog 46 [] [(69, 3)] sFewA := by
  have hC : CtsOk Tryd.prog [] := CtsOk.nil _
  refine Fn.of (E := tbAc) [] 0 [] tbAc_ok hC (by kernel_rfl) Tryd.func46 rfl rfl rfl (by kernel_rfl) (by kernel_rfl) 1 5 1 ?_ ?_
  · intro args h pre r h' hs
    unfold sFewA at hs
    split at hs
    · cases hs; exact ⟨rfl, rfl, Nat.le_of_ble_eq_true rfl⟩
    · cases hs
  · intro args h pre r h' hs hp
    unfold sFewA at hs
    split at hs
    rotate_left
    · cases hs
    rename_i many ty sz n get
    cases hs
    obtain ⟨rfl, rfl, hst, hmny⟩ := hp
    refine ⟨[.elems 69 3 n (acG (acL n get))], ⟨⟨rfl, rfl, rfl, fun i hi => hst.eq hi⟩, trivial⟩, ?_⟩
    have hL : (acL n get).length = n := acL_len
    generalize acL n get = L at hL ⊢
    generalize hg0 : (List.length : List UInt8 → Nat) = g0
    generalize hL : lft Tryd.prog _ = L
    try unfold acG
    generalize ho0 : @acK = zo0, ho1 : @acS = zo1, ho2 : @acV = zo2, ho3 : @acL = zo3, ho4 : @acPre = zo4, ho5 : @fewB = zo5, ho6 : @fewAt = zo6
    generalize hA : Arith.std = A
    cbv
    subst hA hg0 hL ho0 ho1 ho2 ho3 ho4 ho5 ho6
    refine Ife.mk (fun h => ?_) (fun h => ?_)
    · have h : many < (@Nat.cast Int instNatCastInt n) := of_decide_eq_true (p := many < (n : Int)) h
      rw [show fewB many L = false by unfold fewB; rw [decide_eq_false (by omega)]; rfl]
      exact ⟨[0], ⟨rfl, by repeat' (first | exact trivial | exact rfl | apply And.intro | exact (fun _ _ _ _ => Cell.le_refl _) | (intro i hi; rfl) | (intro i hi; exact absurd hi (Nat.not_lt_zero _))), by decide, rfl, by repeat' (first | exact trivial | exact rfl | apply And.intro | exact (fun _ _ _ _ => Cell.le_refl _) | (intro i hi; rfl) | (intro i hi; exact absurd hi (Nat.not_lt_zero _)))⟩⟩
    have h : ¬ (many < (@Nat.cast Int instNatCastInt n)) := of_decide_eq_false (p := many < (n : Int)) h
    replace h := And.intro h trivial
    obtain ⟨hc0, _⟩ := h
    show Runs Tryd.prog 1 (.loop _) _ _
    refine loop_ruleR (N := env (lft Tryd.prog 1) 0 .std tbAc [] []) rfl tbAc_ok hC (fun c st K _ h => h) (by kernel_rfl) [] (X := LIx n (fewAt L))
      (S := fun x => ⟨[.c (.row 0), .c (.int .i64 many), .any, .any, .any, .c (.int .i64 x.i)] ++ List.replicate 26 .any, [.elems 69 3 n (acG L)]⟩) (μ := fun x => n - x.i.toNat) ⟨0, by omega, by omega, fun k hk => absurd hk (by omega)⟩ (by kernel_rfl) [0] ?_ ?_
    · refine ⟨rfl, by decide, ?_, ?_⟩ <;> repeat' (first | exact trivial | exact rfl | apply And.intro | exact (fun _ _ _ _ => Cell.le_refl _) | (intro i hi; rfl) | (intro i hi; exact absurd hi (Nat.not_lt_zero _)))
    rintro ⟨i, hi0, hin, hP⟩
    generalize hg0 : (List.length : List UInt8 → Nat) = g0
    generalize hL : lft Tryd.prog _ = L
    try dsimp only
    try unfold acG
    generalize ho0 : @acK = zo0, ho1 : @acS = zo1, ho2 : @acV = zo2, ho3 : @acL = zo3, ho4 : @acPre = zo4, ho5 : @fewB = zo5, ho6 : @fewAt = zo6
    generalize hA : Arith.std = A
    cbv
    subst hA hg0 hL ho0 ho1 ho2 ho3 ho4 ho5 ho6
    try replace hc0 : ¬ (many < (@Nat.cast Int instNatCastInt n)) := hc0
    replace hi0 : 0 ≤ i := hi0
    replace hin : i ≤ @Nat.cast Int instNatCastInt n := hin
    replace hP : ∀ k, k < i.toNat → fewAt L k = true := hP
    refine Ife.mk (fun hlt => ?_) (fun hlt => ?_)
    · replace hlt : i < @Nat.cast Int instNatCastInt n := of_decide_eq_true (p := i < (n : Int)) hlt
      have hiL : i.toNat < L.length := by omega
      have no : ¬ fewAt L i.toNat = true → fewB many L = false := fun h => by unfold fewB; rw [all_no hiL h, Bool.and_false]
      refine Need.mk (by show 0 ≤ i ∧ i < (n : Int); omega) fun _ => Need.mk (by show i.toNat < n; omega) fun _ => ?_
      refine Ife.mk (fun h => ?_) (fun h => ?_)
      · have h : (300 : Int) < ((acS L i.toNat).length : Int) := of_decide_eq_true (p := (300 : Int) < ((acS L i.toNat).length : Int)) h
        rw [no fun hh => by have hh := fewAt_iff.1 hh; omega]
        exact ⟨[0], ⟨rfl, by repeat' (first | exact trivial | exact rfl | apply And.intro | exact (fun _ _ _ _ => Cell.le_refl _) | (intro i hi; rfl) | (intro i hi; exact absurd hi (Nat.not_lt_zero _))), by decide, rfl, by repeat' (first | exact trivial | exact rfl | apply And.intro | exact (fun _ _ _ _ => Cell.le_refl _) | (intro i hi; rfl) | (intro i hi; exact absurd hi (Nat.not_lt_zero _)))⟩⟩
      have h1 : ¬ (300 : Int) < ((acS L i.toNat).length : Int) := of_decide_eq_false (p := (300 : Int) < ((acS L i.toNat).length : Int)) h
      refine Need.mk (by show 0 ≤ i ∧ i < (n : Int); omega) fun _ => Need.mk (by show i.toNat < n; omega) fun _ => ?_
      refine Ife.mk (fun h => ?_) (fun h => ?_)
      · have h : (200 : Int) < ((acV L i.toNat).length : Int) := of_decide_eq_true (p := (200 : Int) < ((acV L i.toNat).length : Int)) h
        rw [no fun hh => by have hh := fewAt_iff.1 hh; omega]
        exact ⟨[0], ⟨rfl, by repeat' (first | exact trivial | exact rfl | apply And.intro | exact (fun _ _ _ _ => Cell.le_refl _) | (intro i hi; rfl) | (intro i hi; exact absurd hi (Nat.not_lt_zero _))), by decide, rfl, by repeat' (first | exact trivial | exact rfl | apply And.intro | exact (fun _ _ _ _ => Cell.le_refl _) | (intro i hi; rfl) | (intro i hi; exact absurd hi (Nat.not_lt_zero _)))⟩⟩
      have h2 : ¬ (200 : Int) < ((acV L i.toNat).length : Int) := of_decide_eq_false (p := (200 : Int) < ((acV L i.toNat).length : Int)) h
      refine Need.mk (by show fitStd .i64 (i + 1); unfold fitStd; omega) fun _ => ?_
      refine ⟨⟨i + 1, by omega, by omega, lix_next hi0 hP (fewAt_iff.2 (by omega))⟩, [0], (by show n - (i + 1).toNat < n - i.toNat; omega), ?_⟩
      refine ⟨rfl, by decide, ?_, ?_⟩ <;> repeat' (first | exact trivial | exact rfl | apply And.intro | exact (fun _ _ _ _ => Cell.le_refl _) | (intro i hi; rfl) | (intro i hi; exact absurd hi (Nat.not_lt_zero _)))
    · replace hlt : ¬ i < @Nat.cast Int instNatCastInt n := of_decide_eq_false (p := i < (n : Int)) hlt
      rw [show fewB many L = true by unfold fewB; rw [all_yes hP (by omega), decide_eq_true (by omega)]; rfl]
      exact ⟨[0], ⟨rfl, by repeat' (first | exact trivial | exact rfl | apply And.intro | exact (fun _ _ _ _ => Cell.le_refl _) | (intro i hi; rfl) | (intro i hi; exact absurd hi (Nat.not_lt_zero _))), by decide, rfl, by repeat' (first | exact trivial | exact rfl | apply And.intro | exact (fun _ _ _ _ => Cell.le_refl _) | (intro i hi; rfl) | (intro i hi; exact absurd hi (Nat.not_lt_zero _)))⟩⟩

def sProve : SpecF
  | [.c (.ptr 1 0), .c (.str k)], [.glob gg sz0 n0 get0, .cells t [.row 2], .row ty one n get] => some (t = 137 ∧ mkPre gg sz0 n0 get0 ty one n get, .agg [.int .i64 (mkC (prL n get)), .row 3], [.dead, .cells 137 [.row 2], .row 63 2 n (prG (prL n get)), .data true 115 4 (lenL (mkL (prL n get) k)) (leafG true (mkL (prL n get) k))])
  | _, _ => none

set_option maxRecDepth 100000 in
set_option maxHeartbeats 8000000 in
theorem proveP : Fn Tryd.prog 53 [0] [] sProve := by
  have hC : CtsOk Tryd.prog [(22, appFn [0] [(63, 2)] sMake)] := CtsOk.cons (Fn.ct makeP) <| CtsOk.nil _
  refine Fn.ofZ (E := tbMk) [0] 0 [] tbMk_ok hC (by kernel_rfl) Tryd.func53 rfl rfl rfl (by kernel_rfl) (by kernel_rfl) 3 (.data true 115 4 0 fun _ _ => .pl .tt) rfl ?_ ?_
  · intro args h pre r h' hs
    unfold sProve at hs
    split at hs
    · cases hs; exact ⟨rfl, rfl, Nat.le_of_ble_eq_true rfl⟩
    · cases hs
  · intro args h pre r h' hs hp
    unfold sProve at hs
    split at hs
    rotate_left
    · cases hs
    rename_i k gg sz0 n0 get0 t ty one n get
    cases hs
    obtain ⟨rfl, hK, rfl, rfl, hst, hm⟩ := hp
    refine ⟨[.glob 0 1 64 (fun i => [.int .u32 (kOf i)]), .cells 137 [.row 2], .row 63 2 n (prG (prL n get))], ⟨hK.same.1, rfl, ⟨rfl, rfl, rfl, fun i hi => hst.eq hi⟩, trivial⟩, ?_⟩
    clear hK
    have hL : (prL n get).length = n := prL_len
    have ePR : prL n (prG (prL n get)) = prL n get := by
      have := prL_prG (prL n get)
      rwa [hL] at this
    generalize prL n get = L at hL ePR ⊢
    unfold sMake
    generalize hg0 : (List.length : List PP → Nat) = g0
    try unfold prG
    try unfold leafG
    generalize ho0 : @prK = zo0, ho1 : @prV = zo1, ho2 : @prL = zo2, ho3 : @kOf = zo3, ho4 : @lK = zo4, ho5 : @lV = zo5, ho6 : @lI = zo6, ho7 : @lP = zo7, ho8 : @lN = zo8, ho9 : @pG = zo9, ho10 : @mkL = zo10, ho11 : @mkC = zo11, ho12 : @mkPre = zo12, ho13 : @lenL = zo13
    generalize hA : Arith.std = A
    cbv
    subst hA hg0 ho0 ho1 ho2 ho3 ho4 ho5 ho6 ho7 ho8 ho9 ho10 ho11 ho12 ho13
    refine Need.mk ⟨ksAt_self, rfl, rfl, prAt_prG _ L, hm⟩ fun _ => ?_
    simp only [ePR]
    exact ⟨[], [0, 1, 2, 5], ⟨trivial, rfl, (by repeat' (first | exact trivial | exact rfl | apply And.intro | exact (fun _ _ _ _ => Cell.le_refl _) | (intro i hi; rfl) | (intro i hi; exact absurd hi (Nat.not_lt_zero _)))), (by show List.Nodup [1, 2]; decide), rfl, by repeat' (first | exact trivial | exact rfl | apply And.intro | exact (fun _ _ _ _ => Cell.le_refl _) | (intro i hi; rfl) | (intro i hi; exact absurd hi (Nat.not_lt_zero _)))⟩⟩

end Go.Proofs.YthomoliklfmnkaaDoor.Vx
end

section
/- StoreProves, by the walker. -/
namespace Go.Proofs.YthomoliklfmnkaaDoor.Vx
open Sha
open Go.RowKit
set_option linter.unusedVariables false
set_option linter.unusedSimpArgs false
def psPre (gg sz0 n0 : Nat) (get0 : Nat → List CV) (ty one n : Nat) (get : Nat → List CV) : Prop := KsAt gg sz0 n0 get0 ∧ ty = 69 ∧ one = 3 ∧ AcAt n get
/-- Some acts are done. -/
structure LPs (L : List AC) (n : Nat) where
  i : Nat
  R : List PP
  h1 : i ≤ n
  h2 : R = runA (L.take i)
theorem rootL_range (R : List PP) (j : Nat) : 0 ≤ rootL R j ∧ rootL R j < 256 := by
  unfold rootL rootF
  split
  · exact ⟨Int.le_refl 0, (by decide : (0 : Int) < 256)⟩
  · exact sumI_range _ j
theorem val_own {R : List PP} {k : List UInt8} (hs : StS R) (hz : AllSz R) (h40 : R.length ≤ 40) : valB (hOf (hashC (rootL R))) (mkC R) (mkL R k) k = findB R k ∧ valV (hOf (hashC (rootL R))) (mkC R) (mkL R k) k = getL R k ∧ lackB (hOf (hashC (rootL R))) (mkC R) (mkL R k) k = !findB R k := by
  have hg : goodL R = true := goodL_iff.2 ⟨hs, hz⟩
  have eC : mkC R = (R.length : Int) := by unfold mkC; rw [if_pos hg]
  rw [eC]
  exact ⟨valB_mk hg h40, valV_mk hg h40, lackB_mk hg h40⟩
def tbPs : Tbl where
  T :=
    (3, ⟨1, false, [.int .i64 (0)], .int .i64, 8⟩) ::
    (4, ⟨1, false, [.ff], .bool, 1⟩) ::
    (9, ⟨1, false, [.str []], .str, 16⟩) ::
    (5, ⟨1, false, [.int .u8 (0)], .int .u8, 1⟩) ::
    (69, ⟨3, true, [.int .i64 (0), .str [], .str []], .struct [(0, (1, false)), (1, (1, false)), (2, (1, false))], 40⟩) ::
    (66, ⟨1, false, [.val (.slice none 0 0)], .slice 69, 24⟩) ::
    (63, ⟨2, true, [.str [], .str []], .struct [(0, (1, false)), (1, (1, false))], 32⟩) ::
    (31, ⟨1, false, [.val (.slice none 0 0)], .slice 63, 24⟩) ::
    (137, ⟨1, true, [.val (.slice none 0 0)], .struct [(0, (1, false))], 24⟩) ::
    (53, ⟨1, false, [.val (.pointer none)], .ptr 137, 8⟩) ::
    (55, ⟨1, false, [.int .i64 (0)], .int .i64, 8⟩) ::
    (115, ⟨4, true, [.str [], .str [], .int .i64 (0), .val (.slice none 0 0)], .struct [(0, (1, false)), (1, (1, false)), (2, (1, false)), (3, (1, false))], 64⟩) ::
    (25, ⟨1, false, [.val (.slice none 0 0)], .slice 115, 24⟩) ::
    (27, ⟨2, true, [.int .i64 (0), .val (.slice none 0 0)], .struct [(0, (1, false)), (1, (1, false))], 32⟩) ::
    (24, ⟨32, true, [.int .u8 (0), .int .u8 (0), .int .u8 (0), .int .u8 (0), .int .u8 (0), .int .u8 (0), .int .u8 (0), .int .u8 (0), .int .u8 (0), .int .u8 (0), .int .u8 (0), .int .u8 (0), .int .u8 (0), .int .u8 (0), .int .u8 (0), .int .u8 (0), .int .u8 (0), .int .u8 (0), .int .u8 (0), .int .u8 (0), .int .u8 (0), .int .u8 (0), .int .u8 (0), .int .u8 (0), .int .u8 (0), .int .u8 (0), .int .u8 (0), .int .u8 (0), .int .u8 (0), .int .u8 (0), .int .u8 (0), .int .u8 (0)], .array 32 5, 32⟩) ::
    (113, ⟨1, false, [.val (.slice none 0 0)], .slice 24, 24⟩) ::
    []
  F :=
    (24, [0, 0, 0, 0, 0, 0, 0, 0, 0, 0, 0, 0, 0, 0, 0, 0, 0, 0, 0, 0, 0, 0, 0, 0, 0, 0, 0, 0, 0, 0, 0, 0]) ::
    []

theorem tbPs_ok : tbPs.Ok Tryd.prog where
  T :=
    TblOk.cons (by kernel_rfl) <|
    TblOk.cons (by kernel_rfl) <|
    TblOk.cons (by kernel_rfl) <|
    TblOk.cons (by kernel_rfl) <|
    TblOk.cons (by kernel_rfl) <|
    TblOk.cons (by kernel_rfl) <|
    TblOk.cons (by kernel_rfl) <|
    TblOk.cons (by kernel_rfl) <|
    TblOk.cons (by kernel_rfl) <|
    TblOk.cons (by kernel_rfl) <|
    TblOk.cons (by kernel_rfl) <|
    TblOk.cons (by kernel_rfl) <|
    TblOk.cons (by kernel_rfl) <|
    TblOk.cons (by kernel_rfl) <|
    TblOk.cons (by kernel_rfl) <|
    TblOk.cons (by kernel_rfl) <|
    TblOk.nil _
  F :=
    FlatsOk.cons (FlatOk.of (D := .array 32 5) 6 (by decide) (by kernel_rfl) (by kernel_rfl) rfl (by kernel_rfl)) <|
    FlatsOk.nil _

def sPsL : SpecF
  | [.c (.row 1), .c (.str key)], [.glob gg sz0 n0 get0, .elems ty one n get] => some (psPre gg sz0 n0 get0 ty one n get, .c .tt, [.dead, .dead])
  | _, _ => none

set_option maxRecDepth 100000 in
set_option maxHeartbeats 16000000 in
theorem storeProvesP : Fn Tryd.prog 11 [0] [(69, 3)] sPsL := by
  have hC : CtsOk Tryd.prog [(36, appFn [] [] sFirst12), (46, appFn [] [(69, 3)] sFewA), (37, appFn [] [] sNewS), (38, appFn [] [] sSet), (39, appFn [] [] sGet), (40, appFn [] [] sDrop), (42, appFn [] [] sLen), (41, appFn [0] [] sSRoot), (53, appFn [0] [] sProve), (26, appFn [0] [(115, 204)] sHas), (28, appFn [0] [(115, 204)] sLacks)] := CtsOk.cons (Fn.ct first12P) <| CtsOk.cons (Fn.ct fewAP) <| CtsOk.cons (Fn.ct newSP) <| CtsOk.cons (Fn.ct setSP) <| CtsOk.cons (Fn.ct getSP) <| CtsOk.cons (Fn.ct dropSP) <| CtsOk.cons (Fn.ct lenSP) <| CtsOk.cons (Fn.ct sRootP) <| CtsOk.cons (Fn.ct proveP) <| CtsOk.cons (Fn.ct hasPrP) <| CtsOk.cons (Fn.ct lacksPrP) <| CtsOk.nil _
  refine Fn.of (E := tbPs) [0] 0 [(13, [(2002, false), (2003, false), (0, true), (1, true), (2, true), (3, true), (4, true), (5, true), (6, true), (7, true), (8, true), (9, true), (10, true), (11, false)]), (16, [(2002, false), (2003, false), (0, true), (1, true), (2, true), (3, true), (5, true), (4, false), (6, true), (7, true), (8, true), (9, true), (10, true), (12, true), (13, true), (11, false), (14, true), (15, true), (16, true), (17, true), (18, true), (19, true), (20, false), (21, true), (22, true), (23, true)])] tbPs_ok hC (by kernel_rfl) Tryd.func11 rfl rfl rfl (by kernel_rfl) (by kernel_rfl) 2 5 1 ?_ ?_
  · intro args h pre r h' hs
    unfold sPsL at hs
    split at hs
    · cases hs; exact ⟨rfl, rfl, Nat.le_of_ble_eq_true rfl⟩
    · cases hs
  · intro args h pre r h' hs hp
    unfold sPsL at hs
    split at hs
    rotate_left
    · cases hs
    rename_i key gg sz0 n0 get0 ty one n get
    cases hs
    obtain ⟨hK, rfl, rfl, hst⟩ := hp
    refine ⟨[.glob 0 1 64 (fun i => [.int .u32 (kOf i)]), .elems 69 3 n (acG (acL n get))], ⟨hK.same.1, ⟨rfl, rfl, rfl, fun i hi => hst.eq hi⟩, trivial⟩, ?_⟩
    clear hK
    have hL : (acL n get).length = n := acL_len
    have eAC : acL n (acG (acL n get)) = acL n get := by
      have := acL_acG (acL n get)
      rwa [hL] at this
    generalize acL n get = L at hL eAC ⊢
    unfold sFirst12 sFewA sNewS sSet sGet sDrop sLen sSRoot sProve sHas sLacks
    generalize hg0 : (List.length : List PP → Nat) = g0
    generalize hg1 : (List.length : List UInt8 → Nat) = g1
    generalize hL : lft Tryd.prog _ = L
    try unfold prG
    try unfold acG
    try unfold leafG
    generalize ho0 : @prK = zo0, ho1 : @prV = zo1, ho2 : @prL = zo2, ho3 : @ltB = zo3, ho4 : @findB = zo4, ho5 : @szB = zo5, ho6 : @putS = zo6, ho7 : @dropL = zo7, ho8 : @getL = zo8, ho9 : @prPre = zo9, ho10 : @hOf = zo10, ho11 : @kOf = zo11, ho12 : @rootL = zo12, ho13 : @sumsPre = zo13, ho14 : @lK = zo14, ho15 : @lV = zo15, ho16 : @lI = zo16, ho17 : @lP = zo17, ho18 : @lN = zo18, ho19 : @pG = zo19, ho20 : @leafL = zo20, ho21 : @mkL = zo21, ho22 : @mkC = zo22, ho23 : @mkPre = zo23, ho24 : @lenL = zo24, ho25 : @valB = zo25, ho26 : @valV = zo26, ho27 : @lackB = zo27, ho28 : @vlPre = zo28, ho29 : @acK = zo29, ho30 : @acS = zo30, ho31 : @acV = zo31, ho32 : @acL = zo32, ho33 : @acPre = zo33, ho34 : @fewB = zo34, ho35 : @psPre = zo35
    generalize hA : Arith.std = A
    cbv
    subst hA hg0 hg1 hL ho0 ho1 ho2 ho3 ho4 ho5 ho6 ho7 ho8 ho9 ho10 ho11 ho12 ho13 ho14 ho15 ho16 ho17 ho18 ho19 ho20 ho21 ho22 ho23 ho24 ho25 ho26 ho27 ho28 ho29 ho30 ho31 ho32 ho33 ho34 ho35
    refine Need.mk trivial fun _ => Need.mk ⟨rfl, rfl, acAt_acG n L, by decide⟩ fun _ => ?_
    simp only [eAC]
    refine Ife.mk (fun h => ?_) (fun h => ?_)
    · refine Need.mk trivial fun _ => ?_
      exact ⟨[0, 1], ⟨rfl, (by repeat' (first | exact trivial | exact hR1 | exact hR2 | exact hR3 | exact hR4 | exact hA1 | exact hA2 | exact hB1 | exact hB2 | exact rfl | apply And.intro | exact (fun _ _ _ _ => Cell.le_refl _) | (intro i hi; rfl) | (intro i hi; exact absurd hi (Nat.not_lt_zero _)))), (by show List.Nodup []; exact List.nodup_nil), rfl, by repeat' (first | exact trivial | exact hR1 | exact hR2 | exact hR3 | exact hR4 | exact hA1 | exact hA2 | exact hB1 | exact hB2 | exact rfl | apply And.intro | exact (fun _ _ _ _ => Cell.le_refl _) | (intro i hi; rfl) | (intro i hi; exact absurd hi (Nat.not_lt_zero _)))⟩⟩
    have hfew : fewB 30 L = true := by simpa using (show (!fewB 30 L) = false from h)
    clear h
    obtain ⟨hn30, hfl⟩ := fewB_iff.1 hfew
    have hn : n ≤ 30 := by omega
    refine Ife.mk (fun h => ?_) (fun c1 => ?_)
    · refine Need.mk trivial fun _ => ?_
      exact ⟨[0, 1], ⟨rfl, (by repeat' (first | exact trivial | exact hR1 | exact hR2 | exact hR3 | exact hR4 | exact hA1 | exact hA2 | exact hB1 | exact hB2 | exact rfl | apply And.intro | exact (fun _ _ _ _ => Cell.le_refl _) | (intro i hi; rfl) | (intro i hi; exact absurd hi (Nat.not_lt_zero _)))), (by show List.Nodup []; exact List.nodup_nil), rfl, by repeat' (first | exact trivial | exact hR1 | exact hR2 | exact hR3 | exact hR4 | exact hA1 | exact hA2 | exact hB1 | exact hB2 | exact rfl | apply And.intro | exact (fun _ _ _ _ => Cell.le_refl _) | (intro i hi; rfl) | (intro i hi; exact absurd hi (Nat.not_lt_zero _)))⟩⟩
    refine Ife.mk (fun h => ?_) (fun c2 => ?_)
    · refine Need.mk trivial fun _ => ?_
      exact ⟨[0, 1], ⟨rfl, (by repeat' (first | exact trivial | exact hR1 | exact hR2 | exact hR3 | exact hR4 | exact hA1 | exact hA2 | exact hB1 | exact hB2 | exact rfl | apply And.intro | exact (fun _ _ _ _ => Cell.le_refl _) | (intro i hi; rfl) | (intro i hi; exact absurd hi (Nat.not_lt_zero _)))), (by show List.Nodup []; exact List.nodup_nil), rfl, by repeat' (first | exact trivial | exact hR1 | exact hR2 | exact hR3 | exact hR4 | exact hA1 | exact hA2 | exact hB1 | exact hB2 | exact rfl | apply And.intro | exact (fun _ _ _ _ => Cell.le_refl _) | (intro i hi; rfl) | (intro i hi; exact absurd hi (Nat.not_lt_zero _)))⟩⟩
    refine Need.mk trivial fun _ => ?_
    show Runs Tryd.prog 2 (.loop _) _ _
    refine loop_ruleR (N := env (lft Tryd.prog 2) 0 .std tbPs [(36, appFn [] [] sFirst12), (46, appFn [] [(69, 3)] sFewA), (37, appFn [] [] sNewS), (38, appFn [] [] sSet), (39, appFn [] [] sGet), (40, appFn [] [] sDrop), (42, appFn [] [] sLen), (41, appFn [0] [] sSRoot), (53, appFn [0] [] sProve), (26, appFn [0] [(115, 204)] sHas), (28, appFn [0] [(115, 204)] sLacks)] [(13, [(2002, false), (2003, false), (0, true), (1, true), (2, true), (3, true), (4, true), (5, true), (6, true), (7, true), (8, true), (9, true), (10, true), (11, false)]), (16, [(2002, false), (2003, false), (0, true), (1, true), (2, true), (3, true), (5, true), (4, false), (6, true), (7, true), (8, true), (9, true), (10, true), (12, true), (13, true), (11, false), (14, true), (15, true), (16, true), (17, true), (18, true), (19, true), (20, false), (21, true), (22, true), (23, true)])]) rfl tbPs_ok hC (fun c st K _ h => h) (by kernel_rfl) [0] (X := LPs L n)
      (S := fun x => ⟨[.c (.row 1), .c (.str key), .any, .any, .any, .c (.ptr 2 0), .c (.int .i64 (x.i : Int))] ++ List.replicate 88 .any, [.glob 0 1 64 (fun i => [.int .u32 (kOf i)]), .elems 69 3 n (acG L), .cells 137 [.row 3], .row 63 2 x.R.length (prG x.R)]⟩) (μ := fun x => n - x.i) ⟨0, [], Nat.zero_le _, rfl⟩ (by kernel_rfl) [0, 1, 3, 4] ?h0 ?rd
    case h0 =>
      refine ⟨rfl, by decide, ?_, ?_⟩ <;> repeat' (first | exact trivial | exact hR1 | exact hR2 | exact hR3 | exact hR4 | exact hA1 | exact hA2 | exact hB1 | exact hB2 | exact rfl | apply And.intro | exact (fun _ _ _ _ => Cell.le_refl _) | (intro i hi; rfl) | (intro i hi; exact absurd hi (Nat.not_lt_zero _)))
    case rd =>
      rintro ⟨i, R, hi, hR⟩
      unfold sFirst12 sFewA sNewS sSet sGet sDrop sLen sSRoot sProve sHas sLacks
      generalize hg0 : (List.length : List PP → Nat) = g0
      generalize hg1 : (List.length : List UInt8 → Nat) = g1
      generalize hL : lft Tryd.prog _ = L
      try dsimp only
      try unfold prG
      try unfold acG
      try unfold leafG
      generalize ho0 : @prK = zo0, ho1 : @prV = zo1, ho2 : @prL = zo2, ho3 : @ltB = zo3, ho4 : @findB = zo4, ho5 : @szB = zo5, ho6 : @putS = zo6, ho7 : @dropL = zo7, ho8 : @getL = zo8, ho9 : @prPre = zo9, ho10 : @hOf = zo10, ho11 : @kOf = zo11, ho12 : @rootL = zo12, ho13 : @sumsPre = zo13, ho14 : @lK = zo14, ho15 : @lV = zo15, ho16 : @lI = zo16, ho17 : @lP = zo17, ho18 : @lN = zo18, ho19 : @pG = zo19, ho20 : @leafL = zo20, ho21 : @mkL = zo21, ho22 : @mkC = zo22, ho23 : @mkPre = zo23, ho24 : @lenL = zo24, ho25 : @valB = zo25, ho26 : @valV = zo26, ho27 : @lackB = zo27, ho28 : @vlPre = zo28, ho29 : @acK = zo29, ho30 : @acS = zo30, ho31 : @acV = zo31, ho32 : @acL = zo32, ho33 : @acPre = zo33, ho34 : @fewB = zo34, ho35 : @psPre = zo35
      generalize hA : Arith.std = A
      cbv
      subst hA hg0 hg1 hL ho0 ho1 ho2 ho3 ho4 ho5 ho6 ho7 ho8 ho9 ho10 ho11 ho12 ho13 ho14 ho15 ho16 ho17 ho18 ho19 ho20 ho21 ho22 ho23 ho24 ho25 ho26 ho27 ho28 ho29 ho30 ho31 ho32 ho33 ho34 ho35
      have hO : RunOk R i := by
        have h9 := runA_ok (L.take i)
        rw [← hR, List.length_take] at h9
        exact ⟨h9.s, h9.z, by have := h9.l; omega⟩
      have hOl := hO.l
      have hPR : prPre 63 2 R.length (prG R) := ⟨rfl, rfl, prAt_prG _ R, by omega⟩
      simp only [prL_prG]
      refine Ife.mk (fun h => ?_) (fun h => ?_)
      · have h : (i : Int) < (@Nat.cast Int instNatCastInt n) := of_decide_eq_true (p := (i : Int) < (n : Int)) h
        have hiN : i < n := Int.ofNat_lt.mp h
        have p0 : 0 ≤ (i : Int) ∧ (i : Int) < (n : Int) := by omega
        have p1 : (i : Int).toNat < n := by omega
        have hsz := hfl i (by omega)
        have hnx := runA_next (L := L) (i := i) (by omega)
        rw [← hR] at hnx
        have fl : fitStd .i64 ((i : Int) + 1) := by unfold fitStd; omega
        refine Need.mk p0 fun _ => Need.mk p1 fun _ => ?_
        refine Ife.mk (fun hk => ?_) (fun hk => ?_)
        · have hk : acK L i = 1 := of_decide_eq_true (p := acK L i = 1) hk
          refine Need.mk p0 fun _ => Need.mk p1 fun _ => Need.mk ⟨hPR, hO.s⟩ fun _ => Need.mk fl fun _ => ?_
          refine ⟨⟨i + 1, dropL R (acS L i), by omega, by rw [hnx, if_pos hk]⟩, [0, 1, 2, 4], (by show n - (i + 1) < n - i; omega), ?_⟩
          refine ⟨rfl, (by show List.Nodup [0, 1, 2, 4]; decide), ?_, ?_⟩ <;> repeat' (first | exact trivial | exact hR1 | exact hR2 | exact hR3 | exact hR4 | exact hA1 | exact hA2 | exact hB1 | exact hB2 | exact rfl | apply And.intro | exact (fun _ _ _ _ => Cell.le_refl _) | (intro i hi; rfl) | (intro i hi; exact absurd hi (Nat.not_lt_zero _)))
        · have hk : ¬ acK L i = 1 := of_decide_eq_false (p := acK L i = 1) hk
          refine Need.mk p0 fun _ => Need.mk p1 fun _ => Need.mk p0 fun _ => Need.mk p1 fun _ => Need.mk ⟨hPR, hO.s, Nat.le_trans hsz.1 (by decide), Nat.le_trans hsz.2 (by decide)⟩ fun _ => Need.mk fl fun _ => ?_
          refine ⟨⟨i + 1, putS R (acS L i) (acV L i), by omega, by rw [hnx, if_neg hk]⟩, [0, 1, 2, 4], (by show n - (i + 1) < n - i; omega), ?_⟩
          refine ⟨rfl, (by show List.Nodup [0, 1, 2, 4]; decide), ?_, ?_⟩ <;> repeat' (first | exact trivial | exact hR1 | exact hR2 | exact hR3 | exact hR4 | exact hA1 | exact hA2 | exact hB1 | exact hB2 | exact rfl | apply And.intro | exact (fun _ _ _ _ => Cell.le_refl _) | (intro i hi; rfl) | (intro i hi; exact absurd hi (Nat.not_lt_zero _)))
      have h : ¬ (i : Int) < (@Nat.cast Int instNatCastInt n) := of_decide_eq_false (p := (i : Int) < (n : Int)) h
      have hR40 : R.length ≤ 40 := by omega
      obtain ⟨v1, v2, v3⟩ := val_own (k := key) hO.s hO.z hR40
      unfold hashC at v1 v2 v3
      have hkl := mkL_len (L := R) (k := key)
      have hok : ∀ x ∈ mkL R key, x.ok := mkL_ok (by omega)
      have eD : leafL (lenL (mkL R key)) (fun i j => (leafG true (mkL R key) i j).old) = mkL R key := leaves_old hok
      have hPv : vlPre 0 1 64 (fun i => [.int .u32 (kOf i)]) (hashC (rootL R)) 115 4 (lenL (mkL R key)) (fun i j => (leafG true (mkL R key) i j).old) := ⟨ksAt_self, ⟨rootL R, rfl, rootL_range R⟩, leavesPre_old hok (by omega)⟩
      refine Need.mk ⟨hPR, hO.s⟩ fun _ => Need.mk ⟨ksAt_self, hPR⟩ fun _ => Need.mk ⟨ksAt_self, hPR, by rw [prL_prG]; exact hO.z⟩ fun _ => Need.mk hPv fun _ => ?_
      simp only [eD, v1, v2, v3]
      refine Ife.mk (fun _ => ?_) (fun h5 => absurd h5 (by cases findB R key <;> simp [Arith.std]))
      refine Need.mk hPv fun _ => ?_
      refine Ife.mk (fun _ => ?_) (fun h5 => absurd h5 (by cases findB R key <;> simp [Arith.std]))
      refine Need.mk hPR fun _ => ?_
      have eC : mkC R = (R.length : Int) := by unfold mkC; rw [if_pos (goodL_iff.2 ⟨hO.s, hO.z⟩)]
      have hT : decide (mkC R = (R.length : Int)) = true := decide_eq_true eC
      exact ⟨[0, 1], ⟨rfl, (by repeat' (first | exact trivial | exact hT | exact rfl | apply And.intro)), (by show List.Nodup []; exact List.nodup_nil), rfl, by repeat' (first | exact trivial | exact hR1 | exact hR2 | exact hR3 | exact hR4 | exact hA1 | exact hA2 | exact hB1 | exact hB2 | exact rfl | apply And.intro | exact (fun _ _ _ _ => Cell.le_refl _) | (intro i hi; rfl) | (intro i hi; exact absurd hi (Nat.not_lt_zero _)))⟩⟩

end Go.Proofs.YthomoliklfmnkaaDoor.Vx
end

section
/- Acts that come in, opened. -/
namespace Go.Proofs.YthomoliklfmnkaaDoor.Vx
/-- An act's values. -/
def acVals (x : AC) : List Value := [.int .i64 x.1, .string ⟨x.2.1.toArray⟩, .string ⟨x.2.2.toArray⟩]
end Go.Proofs.YthomoliklfmnkaaDoor.Vx
namespace Go.Proofs.YthomoliklfmnkaaDoor
open Go.ChangeShapes Go.WideShapes Go.ChangeAt Go.RowKit
set_option linter.unusedVariables false
set_option linter.unusedSimpArgs false
section
variable {H : Type} {enc : TypeId × Value → H} {w : World} {base : Nat}
theorem cells_Acs : Tryd.prog.cellsOf 69 = 3 := by kernel_rfl
set_option maxRecDepth 100000 in
theorem open_Acs {v : Value} {d : DataW H} {p : List MemPlace} (hv : Value.okWide Tryd.prog w .any base 66 v) (h : DataW.Trod enc Tryd.prog w 0 (fun _ => true) true 66 v d p) :
    ∃ (a : Option Addr) (cap : Nat) (ls : List Vx.AC), v = .slice a ls.length cap ∧ SlIn w a 3 cap (ls.map Vx.acVals) := by
  obtain ⟨a, cap, xs, rfl, hs, hx⟩ := open_slice (sz := 3) (P := fun l => ∃ x : Vx.AC, l = Vx.acVals x) (by decide) Tryd.underlying66 cells_Acs (fun fuel l x hl => by
    obtain ⟨ys, m, _, _, hl2, hlen, hff⟩ := DataW.trod_struct Tryd.underlying69 hl
    rw [cells_Acs] at hl2
    match l, hl2 with
    | [c0, c1, c2], _ =>
      match ys, hlen with
      | [y0, y1, y2], _ =>
        have f0 := hff 0 _ rfl
        have f1 := hff 1 _ rfl
        have f2 := hff 2 _ rfl
        simp [cells_int, cells_string] at f0 f1 f2
        obtain ⟨n0, e0, _, _⟩ := DataW.trod_int Tryd.underlying3 f0
        obtain ⟨s1, e1, _, hs1⟩ := DataW.trod_string Tryd.underlying9 f1
        obtain ⟨s2, e2, _, hs2⟩ := DataW.trod_string Tryd.underlying9 f2
        simp at e0 e1 e2
        obtain ⟨n1, rfl, b1⟩ := bytesOf s1 hs1
        obtain ⟨n2, rfl, b2⟩ := bytesOf s2 hs2
        exact ⟨rfl, (n0, n1, n2), by simp [Vx.acVals, e0, e1, e2]⟩) hv h
  obtain ⟨f, hf⟩ : ∃ f : Nat → Vx.AC, ∀ i (hi : i < xs.length), xs[i] = Vx.acVals (f i) := by
    have key : ∀ i, ∃ n : Vx.AC, ∀ hi : i < xs.length, xs[i] = Vx.acVals n := fun i => by
      by_cases hi : i < xs.length
      · obtain ⟨n, e⟩ := (hx _ (List.getElem_mem hi)).2
        exact ⟨n, fun _ => e⟩
      · exact ⟨(0, [], []), fun h => absurd h hi⟩
    exact ⟨fun i => (key i).choose, fun i hi => (key i).choose_spec hi⟩
  have e : xs = ((List.range xs.length).map f).map Vx.acVals := by
    apply List.ext_getElem (by simp)
    intro i h1 h2
    simp [hf i h1]
  refine ⟨a, cap, (List.range xs.length).map f, by simp, ?_⟩
  rw [← e]
  exact hs
theorem Acs_good {w : World} {a : Option Addr} {cap : Nat} {ls : List Vx.AC} (hs : SlIn w a 3 cap (ls.map Vx.acVals)) : ∃ p : Vx.Pl, p.v = .slice a ls.length cap ∧ Vx.Good w 3 (ls.length, Vx.acG ls) p := by
  obtain ⟨p, hp, g⟩ := hs.good (get := Vx.acG ls) (fun i hi => by
    have hi' : i < ls.length := by simpa using hi
    rw [List.getElem_map]
    have e : ls.getD i (0, [], []) = ls[i] := by simp [List.getD, hi']
    unfold Vx.acG Vx.acGP Vx.acK Vx.acS Vx.acV
    rw [e]
    rfl)
  simp only [List.length_map] at hp g
  exact ⟨p, hp, g⟩
end
end Go.Proofs.YthomoliklfmnkaaDoor
end

section
/- StoreProves: what a law's call answers. -/
namespace Go.Proofs.YthomoliklfmnkaaDoor
open Go.RowKit
set_option linter.unusedVariables false
theorem storeProvesWalk (w : World) (hk : ∀ i, i < 64 → w.cell? ⟨0, i, none⟩ = some (.int .u32 (Sha.kOf i))) (p : Option Addr) (cap : Nat) (ls : List Vx.AC) (hs : SlIn w p 3 cap (ls.map Vx.acVals)) (s : ByteArray) (hs2 : s.size ≤ maxLen) :
    Calls Tryd.prog 11 #[.slice p ls.length cap, .string s] w fun e w' => e = .returned (.bool true) ∧ Below w.heap.size w w' := by
  obtain ⟨b, rfl, hl⟩ := bytesOf s hs2
  obtain ⟨q, hq, gd⟩ := Acs_good hs
  rw [← hq]
  refine Calls.mono (Vx.storeProvesP.run [.c (.row 1), .c (.str b)] [.glob 0 1 64 (fun i => [.int .u32 (Sha.kOf i)]), .elems 69 3 ls.length (Vx.acG ls)] _ _ _ rfl ⟨Vx.ksAt_self, rfl, rfl, Vx.acAt_acG _ _⟩ [⟨0, undef, 0⟩, q] w _ (Vx.Rel.addV (Vx.relGlob hk) 69 gd)
    ⟨_, _, rfl, (by obtain ⟨a', cap', e, _⟩ := gd.sl; simp [Vx.SV.is, Vx.CV.den, e, Vx.one] : Vx.SV.is [⟨0, undef, 0⟩, q] (.c (.row 1)) q.v), _, _, rfl, rfl, rfl⟩) fun e W' he => ?_
  obtain ⟨u, ρ', rfl, hu, hr⟩ := he
  obtain rfl : .bool true = u := Option.some.inj hu
  exact ⟨rfl, Vx.Rel.toBelow hr⟩
end Go.Proofs.YthomoliklfmnkaaDoor
end
