/- Acts on a store, by the walker: Few; and the store's Prove. -/
import Derived.Test.YthomoliklfmnkaaDoorM36
import Derived.Test.YthomoliklfmnkaaDoorM25
import Derived.Test.YthomoliklfmnkaaDoorM24
import Derived.Test.YthomoliklfmnkaaDoorM22
import Derived.Test.YthomoliklfmnkaaDoorM12
section
namespace Go.Proofs.YthomoliklfmnkaaDoor.Vx
open Sha
open Go.RowKit
set_option linter.unusedVariables false
set_option linter.unusedSimpArgs false
abbrev AC := Int × List UInt8 × List UInt8
def acK (L : List AC) (i : Nat) : Int := (L.getD i (0, [], [])).1
def acS (L : List AC) (i : Nat) : List UInt8 := (L.getD i (0, [], [])).2.1
def acV (L : List AC) (i : Nat) : List UInt8 := (L.getD i (0, [], [])).2.2
/-- Acts, as cells. -/
def acGP (zp0 : type_of% @acK) (zp1 : type_of% @acS) (zp2 : type_of% @acV) (l : List AC) (i : Nat) : List CV := [.int .i64 (zp0 l i), .str (zp1 l i), .str (zp2 l i)]
@[reducible] def acG := acGP acK acS acV
def acOf : List CV → AC
  | [.int .i64 k, .str a, .str b] => (k, a, b)
  | _ => (0, [], [])
def acL (n : Nat) (get : Nat → List CV) : List AC := (List.range n).map fun i => acOf (get i)
def AcAt (n : Nat) (get : Nat → List CV) : Prop := ∀ i, i < n → ∃ k a b, get i = [.int .i64 k, .str a, .str b]
theorem acL_len {n : Nat} {get : Nat → List CV} : (acL n get).length = n := by simp [acL]
theorem acL_get {n : Nat} {get : Nat → List CV} {i : Nat} (h : i < n) : (acL n get).getD i (0, [], []) = acOf (get i) := by simp [acL, List.getD, List.getElem?_map, List.getElem?_range h]
theorem AcAt.eq {n : Nat} {get : Nat → List CV} (h : AcAt n get) {i : Nat} (hi : i < n) : get i = acG (acL n get) i := by
  obtain ⟨k, a, b, e⟩ := h i hi
  unfold acG acGP acK acS acV
  rw [acL_get hi, e]
  rfl
theorem acAt_acG (n : Nat) (l : List AC) : AcAt n (acG l) := fun i _ => ⟨_, _, _, rfl⟩
theorem acL_acG (l : List AC) : acL l.length (acG l) = l := by
  apply List.ext_getElem?
  intro i
  by_cases hi : i < l.length
  · simp [acL, acG, acGP, acOf, acK, acS, acV, List.getElem?_range hi, List.getD, hi]
  · rw [List.getElem?_eq_none (by simp [acL]; omega), List.getElem?_eq_none (by omega)]
def acPre (many : Int) (ty sz n : Nat) (get : Nat → List CV) : Prop := ty = 69 ∧ sz = 3 ∧ AcAt n get ∧ many ≤ 1000000
def fewAt (L : List AC) (i : Nat) : Bool := decide ((acS L i).length ≤ 300) && decide ((acV L i).length ≤ 200)
def fewB (many : Int) (L : List AC) : Bool := decide ((L.length : Int) ≤ many) && (List.range L.length).all (fewAt L)
theorem fewAt_iff {L : List AC} {i : Nat} : fewAt L i = true ↔ (acS L i).length ≤ 300 ∧ (acV L i).length ≤ 200 := by simp [fewAt]
theorem fewB_iff {many : Int} {L : List AC} : fewB many L = true ↔ (L.length : Int) ≤ many ∧ ∀ i, i < L.length → (acS L i).length ≤ 300 ∧ (acV L i).length ≤ 200 := by
  unfold fewB
  simp only [Bool.and_eq_true, decide_eq_true_iff, List.all_eq_true, List.mem_range, fewAt_iff]
structure RunOk (R : List PP) (i : Nat) : Prop where
  s : StS R
  z : AllSz R
  l : R.length ≤ i
theorem drop_sz {L : List PP} {k : List UInt8} (hs : StS L) (h : AllSz L) : AllSz (dropL L k) := fun p hp => h p ((mem_dropL hs p).1 hp).1
def tbAc : Tbl where
  T :=
    (3, ⟨1, false, [.int .i64 (0)], .int .i64, 8⟩) ::
    (4, ⟨1, false, [.ff], .bool, 1⟩) ::
    (9, ⟨1, false, [.str []], .str, 16⟩) ::
    (69, ⟨3, true, [.int .i64 (0), .str [], .str []], .struct [(0, (1, false)), (1, (1, false)), (2, (1, false))], 40⟩) ::
    (66, ⟨1, false, [.val (.slice none 0 0)], .slice 69, 24⟩) ::
    []
  F :=
    []

theorem tbAc_ok : tbAc.Ok Tryd.prog where
  T :=
    TblOk.cons (by kernel_rfl) <|
    TblOk.cons (by kernel_rfl) <|
    TblOk.cons (by kernel_rfl) <|
    TblOk.cons (by kernel_rfl) <|
    TblOk.cons (by kernel_rfl) <|
    TblOk.nil _
  F :=
    FlatsOk.nil _

def sFewA : SpecF
  | [.c (.row 0), .c (.int .i64 many)], [.elems ty sz n get] => some (acPre many ty sz n get, .c (.bool (fewB many (acL n get))), [.dead])
  | _, _ => none

set_option maxRecDepth 100000 in
set_option maxHeartbeats 4000000 in
theorem fewAP : Fn Tryd.prog 46 [] [(69, 3)] sFewA := by
  have hC : CtsOk Tryd.prog [] := CtsOk.nil _
  refine Fn.of (E := tbAc) [] 0 [] tbAc_ok hC (by kernel_rfl) Tryd.func46 rfl rfl rfl (by kernel_rfl) (by kernel_rfl) 1 5 1 ?_ ?_
  · intro args h pre r h' hs
    unfold sFewA at hs
    split at hs
    · cases hs; exact ⟨rfl, rfl, Nat.le_of_ble_eq_true rfl⟩
    · cases hs
  · intro args h pre r h' hs hp
    unfold sFewA at hs
    split at hs
    rotate_left
    · cases hs
    rename_i many ty sz n get
    cases hs
    obtain ⟨rfl, rfl, hst, hmny⟩ := hp
    refine ⟨[.elems 69 3 n (acG (acL n get))], ⟨⟨rfl, rfl, rfl, fun i hi => hst.eq hi⟩, trivial⟩, ?_⟩
    have hL : (acL n get).length = n := acL_len
    generalize acL n get = L at hL ⊢
    generalize hg0 : (List.length : List UInt8 → Nat) = g0
    generalize hL : lft Tryd.prog _ = L
    try unfold acG
    generalize ho0 : @acK = zo0, ho1 : @acS = zo1, ho2 : @acV = zo2, ho3 : @acL = zo3, ho4 : @acPre = zo4, ho5 : @fewB = zo5, ho6 : @fewAt = zo6
    generalize hA : Arith.std = A
    cbv
    subst hA hg0 hL ho0 ho1 ho2 ho3 ho4 ho5 ho6
    refine Ife.mk (fun h => ?_) (fun h => ?_)
    · have h : many < (@Nat.cast Int instNatCastInt n) := of_decide_eq_true (p := many < (n : Int)) h
      rw [show fewB many L = false by unfold fewB; rw [decide_eq_false (by omega)]; rfl]
      exact ⟨[0], ⟨rfl, by repeat' (first | exact trivial | exact rfl | apply And.intro | exact (fun _ _ _ _ => Cell.le_refl _) | (intro i hi; rfl) | (intro i hi; exact absurd hi (Nat.not_lt_zero _))), by decide, rfl, by repeat' (first | exact trivial | exact rfl | apply And.intro | exact (fun _ _ _ _ => Cell.le_refl _) | (intro i hi; rfl) | (intro i hi; exact absurd hi (Nat.not_lt_zero _)))⟩⟩
    have h : ¬ (many < (@Nat.cast Int instNatCastInt n)) := of_decide_eq_false (p := many < (n : Int)) h
    replace h := And.intro h trivial
    obtain ⟨hc0, _⟩ := h
    show Runs Tryd.prog 1 (.loop _) _ _
    refine loop_ruleR (N := env (lft Tryd.prog 1) 0 .std tbAc [] []) rfl tbAc_ok hC (fun c st K _ h => h) (by kernel_rfl) [] (X := LIx n (fewAt L))
      (S := fun x => ⟨[.c (.row 0), .c (.int .i64 many), .any, .any, .any, .c (.int .i64 x.i)] ++ List.replicate 26 .any, [.elems 69 3 n (acG L)]⟩) (μ := fun x => n - x.i.toNat) ⟨0, by omega, by omega, fun k hk => absurd hk (by omega)⟩ (by kernel_rfl) [0] ?_ ?_
    · refine ⟨rfl, by decide, ?_, ?_⟩ <;> repeat' (first | exact trivial | exact rfl | apply And.intro | exact (fun _ _ _ _ => Cell.le_refl _) | (intro i hi; rfl) | (intro i hi; exact absurd hi (Nat.not_lt_zero _)))
    rintro ⟨i, hi0, hin, hP⟩
    generalize hg0 : (List.length : List UInt8 → Nat) = g0
    generalize hL : lft Tryd.prog _ = L
    try dsimp only
    try unfold acG
    generalize ho0 : @acK = zo0, ho1 : @acS = zo1, ho2 : @acV = zo2, ho3 : @acL = zo3, ho4 : @acPre = zo4, ho5 : @fewB = zo5, ho6 : @fewAt = zo6
    generalize hA : Arith.std = A
    cbv
    subst hA hg0 hL ho0 ho1 ho2 ho3 ho4 ho5 ho6
    try replace hc0 : ¬ (many < (@Nat.cast Int instNatCastInt n)) := hc0
    replace hi0 : 0 ≤ i := hi0
    replace hin : i ≤ @Nat.cast Int instNatCastInt n := hin
    replace hP : ∀ k, k < i.toNat → fewAt L k = true := hP
    refine Ife.mk (fun hlt => ?_) (fun hlt => ?_)
    · replace hlt : i < @Nat.cast Int instNatCastInt n := of_decide_eq_true (p := i < (n : Int)) hlt
      have hiL : i.toNat < L.length := by omega
      have no : ¬ fewAt L i.toNat = true → fewB many L = false := fun h => by unfold fewB; rw [all_no hiL h, Bool.and_false]
      refine Need.mk (by show 0 ≤ i ∧ i < (n : Int); omega) fun _ => Need.mk (by show i.toNat < n; omega) fun _ => ?_
      refine Ife.mk (fun h => ?_) (fun h => ?_)
      · have h : (300 : Int) < ((acS L i.toNat).length : Int) := of_decide_eq_true (p := (300 : Int) < ((acS L i.toNat).length : Int)) h
        rw [no fun hh => by have hh := fewAt_iff.1 hh; omega]
        exact ⟨[0], ⟨rfl, by repeat' (first | exact trivial | exact rfl | apply And.intro | exact (fun _ _ _ _ => Cell.le_refl _) | (intro i hi; rfl) | (intro i hi; exact absurd hi (Nat.not_lt_zero _))), by decide, rfl, by repeat' (first | exact trivial | exact rfl | apply And.intro | exact (fun _ _ _ _ => Cell.le_refl _) | (intro i hi; rfl) | (intro i hi; exact absurd hi (Nat.not_lt_zero _)))⟩⟩
      have h1 : ¬ (300 : Int) < ((acS L i.toNat).length : Int) := of_decide_eq_false (p := (300 : Int) < ((acS L i.toNat).length : Int)) h
      refine Need.mk (by show 0 ≤ i ∧ i < (n : Int); omega) fun _ => Need.mk (by show i.toNat < n; omega) fun _ => ?_
      refine Ife.mk (fun h => ?_) (fun h => ?_)
      · have h : (200 : Int) < ((acV L i.toNat).length : Int) := of_decide_eq_true (p := (200 : Int) < ((acV L i.toNat).length : Int)) h
        rw [no fun hh => by have hh := fewAt_iff.1 hh; omega]
        exact ⟨[0], ⟨rfl, by repeat' (first | exact trivial | exact rfl | apply And.intro | exact (fun _ _ _ _ => Cell.le_refl _) | (intro i hi; rfl) | (intro i hi; exact absurd hi (Nat.not_lt_zero _))), by decide, rfl, by repeat' (first | exact trivial | exact rfl | apply And.intro | exact (fun _ _ _ _ => Cell.le_refl _) | (intro i hi; rfl) | (intro i hi; exact absurd hi (Nat.not_lt_zero _)))⟩⟩
      have h2 : ¬ (200 : Int) < ((acV L i.toNat).length : Int) := of_decide_eq_false (p := (200 : Int) < ((acV L i.toNat).length : Int)) h
      refine Need.mk (by show fitStd .i64 (i + 1); unfold fitStd; omega) fun _ => ?_
      refine ⟨⟨i + 1, by omega, by omega, lix_next hi0 hP (fewAt_iff.2 (by omega))⟩, [0], (by show n - (i + 1).toNat < n - i.toNat; omega), ?_⟩
      refine ⟨rfl, by decide, ?_, ?_⟩ <;> repeat' (first | exact trivial | exact rfl | apply And.intro | exact (fun _ _ _ _ => Cell.le_refl _) | (intro i hi; rfl) | (intro i hi; exact absurd hi (Nat.not_lt_zero _)))
    · replace hlt : ¬ i < @Nat.cast Int instNatCastInt n := of_decide_eq_false (p := i < (n : Int)) hlt
      rw [show fewB many L = true by unfold fewB; rw [all_yes hP (by omega), decide_eq_true (by omega)]; rfl]
      exact ⟨[0], ⟨rfl, by repeat' (first | exact trivial | exact rfl | apply And.intro | exact (fun _ _ _ _ => Cell.le_refl _) | (intro i hi; rfl) | (intro i hi; exact absurd hi (Nat.not_lt_zero _))), by decide, rfl, by repeat' (first | exact trivial | exact rfl | apply And.intro | exact (fun _ _ _ _ => Cell.le_refl _) | (intro i hi; rfl) | (intro i hi; exact absurd hi (Nat.not_lt_zero _)))⟩⟩

def sProve : SpecF
  | [.c (.ptr 1 0), .c (.str k)], [.glob gg sz0 n0 get0, .cells t [.row 2], .row ty one n get] => some (t = 137 ∧ mkPre gg sz0 n0 get0 ty one n get, .agg [.int .i64 (mkC (prL n get)), .row 3], [.dead, .cells 137 [.row 2], .row 63 2 n (prG (prL n get)), .data true 115 4 (lenL (mkL (prL n get) k)) (leafG true (mkL (prL n get) k))])
  | _, _ => none

set_option maxRecDepth 100000 in
set_option maxHeartbeats 8000000 in
theorem proveP : Fn Tryd.prog 53 [0] [] sProve := by
  have hC : CtsOk Tryd.prog [(22, appFn [0] [(63, 2)] sMake)] := CtsOk.cons (Fn.ct makeP) <| CtsOk.nil _
  refine Fn.ofZ (E := tbMk) [0] 0 [] tbMk_ok hC (by kernel_rfl) Tryd.func53 rfl rfl rfl (by kernel_rfl) (by kernel_rfl) 3 (.data true 115 4 0 fun _ _ => .pl .tt) rfl ?_ ?_
  · intro args h pre r h' hs
    unfold sProve at hs
    split at hs
    · cases hs; exact ⟨rfl, rfl, Nat.le_of_ble_eq_true rfl⟩
    · cases hs
  · intro args h pre r h' hs hp
    unfold sProve at hs
    split at hs
    rotate_left
    · cases hs
    rename_i k gg sz0 n0 get0 t ty one n get
    cases hs
    obtain ⟨rfl, hK, rfl, rfl, hst, hm⟩ := hp
    refine ⟨[.glob 0 1 64 (fun i => [.int .u32 (kOf i)]), .cells 137 [.row 2], .row 63 2 n (prG (prL n get))], ⟨hK.same.1, rfl, ⟨rfl, rfl, rfl, fun i hi => hst.eq hi⟩, trivial⟩, ?_⟩
    clear hK
    have hL : (prL n get).length = n := prL_len
    have ePR : prL n (prG (prL n get)) = prL n get := by
      have := prL_prG (prL n get)
      rwa [hL] at this
    generalize prL n get = L at hL ePR ⊢
    unfold sMake
    generalize hg0 : (List.length : List PP → Nat) = g0
    try unfold prG
    try unfold leafG
    generalize ho0 : @prK = zo0, ho1 : @prV = zo1, ho2 : @prL = zo2, ho3 : @kOf = zo3, ho4 : @lK = zo4, ho5 : @lV = zo5, ho6 : @lI = zo6, ho7 : @lP = zo7, ho8 : @lN = zo8, ho9 : @pG = zo9, ho10 : @mkL = zo10, ho11 : @mkC = zo11, ho12 : @mkPre = zo12, ho13 : @lenL = zo13
    generalize hA : Arith.std = A
    cbv
    subst hA hg0 ho0 ho1 ho2 ho3 ho4 ho5 ho6 ho7 ho8 ho9 ho10 ho11 ho12 ho13
    refine Need.mk ⟨ksAt_self, rfl, rfl, prAt_prG _ L, hm⟩ fun _ => ?_
    simp only [ePR]
    exact ⟨[], [0, 1, 2, 5], ⟨trivial, rfl, (by repeat' (first | exact trivial | exact rfl | apply And.intro | exact (fun _ _ _ _ => Cell.le_refl _) | (intro i hi; rfl) | (intro i hi; exact absurd hi (Nat.not_lt_zero _)))), (by show List.Nodup [1, 2]; decide), rfl, by repeat' (first | exact trivial | exact rfl | apply And.intro | exact (fun _ _ _ _ => Cell.le_refl _) | (intro i hi; rfl) | (intro i hi; exact absurd hi (Nat.not_lt_zero _)))⟩⟩

end Go.Proofs.YthomoliklfmnkaaDoor.Vx
end

section
/- StoreProves, by the walker. -/
namespace Go.Proofs.YthomoliklfmnkaaDoor.Vx
open Sha
open Go.RowKit
set_option linter.unusedVariables false
set_option linter.unusedSimpArgs false
def psPre (gg sz0 n0 : Nat) (get0 : Nat → List CV) (ty one n : Nat) (get : Nat → List CV) : Prop := KsAt gg sz0 n0 get0 ∧ ty = 69 ∧ one = 3 ∧ AcAt n get




end Go.Proofs.YthomoliklfmnkaaDoor.Vx
end

section
/- The document's sums of pairs and proofs of keys, by the walker. -/
namespace Go.Proofs.YthomoliklfmnkaaDoor.Vx
open Sha
open Go.RowKit
set_option linter.unusedVariables false
set_option linter.unusedSimpArgs false
def rlvPre (ty one n : Nat) (get : Nat → List CV) : Prop := prPreR ty one n get ∧ AllSz (prL n get)
def rlaPre (ty one n : Nat) (get : Nat → List CV) (ty' one' n' : Nat) (get' : Nat → List CV) (i : Int) : Prop := prPreR ty one n get ∧ (ty' = 24 ∧ one' = 32 ∧ n' = n ∧ ∀ j, j < n' → get' j = lfG (prL n get) j) ∧ 0 ≤ i ∧ i < (n : Int)
def tbRf : Tbl where
  T :=
    (3, ⟨1, false, [.int .i64 (0)], .int .i64, 8⟩) ::
    (4, ⟨1, false, [.ff], .bool, 1⟩) ::
    (9, ⟨1, false, [.str []], .str, 16⟩) ::
    (5, ⟨1, false, [.int .u8 (0)], .int .u8, 1⟩) ::
    (46, ⟨2, true, [.str [], .str []], .struct [(0, (1, false)), (1, (1, false))], 32⟩) ::
    (22, ⟨1, false, [.val (.slice none 0 0)], .slice 46, 24⟩) ::
    (115, ⟨4, true, [.str [], .str [], .int .i64 (0), .val (.slice none 0 0)], .struct [(0, (1, false)), (1, (1, false)), (2, (1, false)), (3, (1, false))], 64⟩) ::
    (25, ⟨1, false, [.val (.slice none 0 0)], .slice 115, 24⟩) ::
    (27, ⟨2, true, [.int .i64 (0), .val (.slice none 0 0)], .struct [(0, (1, false)), (1, (1, false))], 32⟩) ::
    (24, ⟨32, true, [.int .u8 (0), .int .u8 (0), .int .u8 (0), .int .u8 (0), .int .u8 (0), .int .u8 (0), .int .u8 (0), .int .u8 (0), .int .u8 (0), .int .u8 (0), .int .u8 (0), .int .u8 (0), .int .u8 (0), .int .u8 (0), .int .u8 (0), .int .u8 (0), .int .u8 (0), .int .u8 (0), .int .u8 (0), .int .u8 (0), .int .u8 (0), .int .u8 (0), .int .u8 (0), .int .u8 (0), .int .u8 (0), .int .u8 (0), .int .u8 (0), .int .u8 (0), .int .u8 (0), .int .u8 (0), .int .u8 (0), .int .u8 (0)], .array 32 5, 32⟩) ::
    (113, ⟨1, false, [.val (.slice none 0 0)], .slice 24, 24⟩) ::
    []
  F :=
    (24, [0, 0, 0, 0, 0, 0, 0, 0, 0, 0, 0, 0, 0, 0, 0, 0, 0, 0, 0, 0, 0, 0, 0, 0, 0, 0, 0, 0, 0, 0, 0, 0]) ::
    []

theorem tbRf_ok : tbRf.Ok Tryd.prog where
  T :=
    TblOk.cons (by kernel_rfl) <|
    TblOk.cons (by kernel_rfl) <|
    TblOk.cons (by kernel_rfl) <|
    TblOk.cons (by kernel_rfl) <|
    TblOk.cons (by kernel_rfl) <|
    TblOk.cons (by kernel_rfl) <|
    TblOk.cons (by kernel_rfl) <|
    TblOk.cons (by kernel_rfl) <|
    TblOk.cons (by kernel_rfl) <|
    TblOk.cons (by kernel_rfl) <|
    TblOk.cons (by kernel_rfl) <|
    TblOk.nil _
  F :=
    FlatsOk.cons (FlatOk.of (D := .array 32 5) 6 (by decide) (by kernel_rfl) (by kernel_rfl) rfl (by kernel_rfl)) <|
    FlatsOk.nil _

def sRGood : SpecF
  | [.c (.row 0)], [.elems ty one n get] => some (prPreR ty one n get, .c (.bool (goodL (prL n get))), [.dead])
  | _, _ => none

set_option maxRecDepth 100000 in
set_option maxHeartbeats 8000000 in
theorem rgoodP : Fn Tryd.prog 17 [] [(46, 2)] sRGood := by
  have hC : CtsOk Tryd.prog [] := CtsOk.nil _
  refine Fn.of (E := tbRf) [] 0 [(4, [(0, true), (1, true), (2, true), (3, true), (4, true), (5, true), (6, true), (7, true), (8, true), (9, true), (10, true), (11, true), (12, true), (13, true), (14, true), (15, true), (16, true), (17, true), (18, true), (19, true), (20, true), (21, true), (22, true), (23, true), (24, true), (25, true), (26, true), (27, true), (28, true), (29, true), (30, true), (31, true), (32, true), (33, true), (34, true), (35, true), (36, true), (37, true), (38, true), (39, true), (40, true), (41, true), (42, true), (43, true), (44, true), (45, true), (46, true), (47, true), (48, true), (49, true), (50, true), (51, true)])] tbRf_ok hC (by kernel_rfl) Tryd.func17 rfl rfl rfl (by kernel_rfl) (by kernel_rfl) 1 46 2 ?_ ?_
  · intro args h pre r h' hs
    unfold sRGood at hs
    split at hs
    · cases hs; exact ⟨rfl, rfl, Nat.le_of_ble_eq_true rfl⟩
    · cases hs
  · intro args h pre r h' hs hp
    unfold sRGood at hs
    split at hs
    rotate_left
    · cases hs
    rename_i ty one n get
    cases hs
    obtain ⟨rfl, rfl, hst, hm⟩ := hp
    refine ⟨[.elems 46 2 n (prG (prL n get))], ⟨⟨rfl, rfl, rfl, fun i hi => hst.eq hi⟩, trivial⟩, ?_⟩
    have hL : (prL n get).length = n := prL_len
    have ePR : prL n (prG (prL n get)) = prL n get := by
      have := prL_prG (prL n get)
      rwa [hL] at this
    generalize prL n get = L at hL ePR ⊢
    show Runs Tryd.prog 1 (.loop _) _ _
    refine loop_ruleR (N := env (lft Tryd.prog 1) 0 .std tbRf [] [(4, [(0, true), (1, true), (2, true), (3, true), (4, true), (5, true), (6, true), (7, true), (8, true), (9, true), (10, true), (11, true), (12, true), (13, true), (14, true), (15, true), (16, true), (17, true), (18, true), (19, true), (20, true), (21, true), (22, true), (23, true), (24, true), (25, true), (26, true), (27, true), (28, true), (29, true), (30, true), (31, true), (32, true), (33, true), (34, true), (35, true), (36, true), (37, true), (38, true), (39, true), (40, true), (41, true), (42, true), (43, true), (44, true), (45, true), (46, true), (47, true), (48, true), (49, true), (50, true), (51, true)])]) rfl tbRf_ok hC (fun c st K _ h => h) (by kernel_rfl) [] (X := LGo L n)
      (S := fun x => ⟨[.c (.row 0), .any, .any, .c (.int .i64 x.i)] ++ List.replicate 58 .any, [.elems 46 2 n (prG L)]⟩) (μ := fun x => n - x.i.toNat) ⟨0, by omega, by omega, fun k hk => absurd hk (by omega)⟩ (by kernel_rfl) [0] ?_ ?_
    · refine ⟨rfl, by decide, ?_, ?_⟩ <;> repeat' (first | exact trivial | exact rfl | apply And.intro | exact (fun _ _ _ _ => Cell.le_refl _) | (intro i hi; rfl) | (intro i hi; exact absurd hi (Nat.not_lt_zero _)))
    rintro ⟨i, hi0, hin, hP⟩
    generalize hg0 : (List.length : List PP → Nat) = g0
    generalize hg1 : (List.length : List UInt8 → Nat) = g1
    generalize hL : lft Tryd.prog _ = L
    try dsimp only
    try unfold prG
    generalize ho0 : @prK = zo0, ho1 : @prV = zo1, ho2 : @prL = zo2, ho3 : @ltB = zo3, ho4 : @szB = zo4, ho5 : @goodAt = zo5, ho6 : @goodL = zo6, ho7 : @prPreR = zo7
    generalize hA : Arith.std = A
    cbv
    subst hA hg0 hg1 hL ho0 ho1 ho2 ho3 ho4 ho5 ho6 ho7
    replace hin : i ≤ @Nat.cast Int instNatCastInt n := hin
    refine Ife.mk (fun hlt => ?_) (fun hlt => ?_)
    · replace hlt : i < @Nat.cast Int instNatCastInt n := of_decide_eq_true (p := i < (n : Int)) hlt
      have hNO : goodAt L i.toNat = false → goodL L = false := fun h => goodL_no (by omega) h
      have hYES : goodAt L i.toNat = true → ∀ k, k < (i + 1).toNat → goodAt L k = true := fun h k hk => by
        by_cases hki : k = i.toNat
        · rw [hki]; exact h
        · exact hP k (by omega)
      refine Need.mk (by show 0 ≤ i ∧ i < (n : Int); omega) fun _ => Need.mk (by show i.toNat < n; omega) fun _ => ?_
      refine Ife.mk (fun h => ?_) (fun h => ?_)
      · have h : ((prK L i.toNat).length : Int) < 1 := of_decide_eq_true (p := ((prK L i.toNat).length : Int) < 1) h
        rw [hNO (by
          rw [Bool.eq_false_iff]
          intro q
          have q := szB_iff.1 (goodAt_iff.1 q).1
          omega)]
        exact ⟨[0], ⟨rfl, (by repeat' (first | exact trivial | exact rfl | apply And.intro | exact (fun _ _ _ _ => Cell.le_refl _) | (intro i hi; rfl) | (intro i hi; exact absurd hi (Nat.not_lt_zero _)))), by decide, rfl, by repeat' (first | exact trivial | exact rfl | apply And.intro | exact (fun _ _ _ _ => Cell.le_refl _) | (intro i hi; rfl) | (intro i hi; exact absurd hi (Nat.not_lt_zero _)))⟩⟩
      replace h : ¬ ((prK L i.toNat).length : Int) < 1 := of_decide_eq_false (p := ((prK L i.toNat).length : Int) < 1) h
      have z0 := h
      clear h
      refine Need.mk (by show 0 ≤ i ∧ i < (n : Int); omega) fun _ => Need.mk (by show i.toNat < n; omega) fun _ => ?_
      refine Ife.mk (fun h => ?_) (fun h => ?_)
      · have h : (160 : Int) < ((prK L i.toNat).length : Int) := of_decide_eq_true (p := (160 : Int) < ((prK L i.toNat).length : Int)) h
        rw [hNO (by
          rw [Bool.eq_false_iff]
          intro q
          have q := szB_iff.1 (goodAt_iff.1 q).1
          omega)]
        exact ⟨[0], ⟨rfl, (by repeat' (first | exact trivial | exact rfl | apply And.intro | exact (fun _ _ _ _ => Cell.le_refl _) | (intro i hi; rfl) | (intro i hi; exact absurd hi (Nat.not_lt_zero _)))), by decide, rfl, by repeat' (first | exact trivial | exact rfl | apply And.intro | exact (fun _ _ _ _ => Cell.le_refl _) | (intro i hi; rfl) | (intro i hi; exact absurd hi (Nat.not_lt_zero _)))⟩⟩
      replace h : ¬ (160 : Int) < ((prK L i.toNat).length : Int) := of_decide_eq_false (p := (160 : Int) < ((prK L i.toNat).length : Int)) h
      have z1 := h
      clear h
      refine Need.mk (by show 0 ≤ i ∧ i < (n : Int); omega) fun _ => Need.mk (by show i.toNat < n; omega) fun _ => ?_
      refine Ife.mk (fun h => ?_) (fun h => ?_)
      · have h : ((prV L i.toNat).length : Int) < 1 := of_decide_eq_true (p := ((prV L i.toNat).length : Int) < 1) h
        rw [hNO (by
          rw [Bool.eq_false_iff]
          intro q
          have q := szB_iff.1 (goodAt_iff.1 q).1
          omega)]
        exact ⟨[0], ⟨rfl, (by repeat' (first | exact trivial | exact rfl | apply And.intro | exact (fun _ _ _ _ => Cell.le_refl _) | (intro i hi; rfl) | (intro i hi; exact absurd hi (Nat.not_lt_zero _)))), by decide, rfl, by repeat' (first | exact trivial | exact rfl | apply And.intro | exact (fun _ _ _ _ => Cell.le_refl _) | (intro i hi; rfl) | (intro i hi; exact absurd hi (Nat.not_lt_zero _)))⟩⟩
      replace h : ¬ ((prV L i.toNat).length : Int) < 1 := of_decide_eq_false (p := ((prV L i.toNat).length : Int) < 1) h
      have z2 := h
      clear h
      refine Need.mk (by show 0 ≤ i ∧ i < (n : Int); omega) fun _ => Need.mk (by show i.toNat < n; omega) fun _ => ?_
      refine Ife.mk (fun h => ?_) (fun h => ?_)
      · have h : (64 : Int) < ((prV L i.toNat).length : Int) := of_decide_eq_true (p := (64 : Int) < ((prV L i.toNat).length : Int)) h
        rw [hNO (by
          rw [Bool.eq_false_iff]
          intro q
          have q := szB_iff.1 (goodAt_iff.1 q).1
          omega)]
        exact ⟨[0], ⟨rfl, (by repeat' (first | exact trivial | exact rfl | apply And.intro | exact (fun _ _ _ _ => Cell.le_refl _) | (intro i hi; rfl) | (intro i hi; exact absurd hi (Nat.not_lt_zero _)))), by decide, rfl, by repeat' (first | exact trivial | exact rfl | apply And.intro | exact (fun _ _ _ _ => Cell.le_refl _) | (intro i hi; rfl) | (intro i hi; exact absurd hi (Nat.not_lt_zero _)))⟩⟩
      replace h : ¬ (64 : Int) < ((prV L i.toNat).length : Int) := of_decide_eq_false (p := (64 : Int) < ((prV L i.toNat).length : Int)) h
      have z3 := h
      clear h
      have hz : szB (prK L i.toNat) (prV L i.toNat) = true := szB_iff.2 ⟨⟨by omega, by omega⟩, by omega, by omega⟩
      refine Ife.mk (fun h1 => ?_) (fun h1 => ?_)
      · have h1 : 0 < i := of_decide_eq_true (p := 0 < i) h1
        have e3 : (i - 1).toNat = i.toNat - 1 := by omega
        refine Need.mk (by show fitStd .i64 (i - 1); unfold fitStd; omega) fun _ => Need.mk (by show 0 ≤ i - 1 ∧ i - 1 < (n : Int); omega) fun _ => Need.mk (by show (i - 1).toNat < n; omega) fun _ => Need.mk (by show 0 ≤ i ∧ i < (n : Int); omega) fun _ => Need.mk (by show i.toNat < n; omega) fun _ => ?_
        refine Ife.mk (fun h2 => ?_) (fun h2 => ?_)
        · have h2 : (!ltB (prK L (i - 1).toNat) (prK L i.toNat)) = true := h2
          rw [hNO (by unfold goodAt; rw [hz, decide_eq_false (show ¬ i.toNat = 0 by omega), ← e3, show ltB (prK L (i - 1).toNat) (prK L i.toNat) = false by simpa using h2]; rfl)]
          exact ⟨[0], ⟨rfl, (by repeat' (first | exact trivial | exact rfl | apply And.intro | exact (fun _ _ _ _ => Cell.le_refl _) | (intro i hi; rfl) | (intro i hi; exact absurd hi (Nat.not_lt_zero _)))), by decide, rfl, by repeat' (first | exact trivial | exact rfl | apply And.intro | exact (fun _ _ _ _ => Cell.le_refl _) | (intro i hi; rfl) | (intro i hi; exact absurd hi (Nat.not_lt_zero _)))⟩⟩
        · have h2 : (!ltB (prK L (i - 1).toNat) (prK L i.toNat)) = false := h2
          have hg : goodAt L i.toNat = true := by unfold goodAt; rw [hz, ← e3, show ltB (prK L (i - 1).toNat) (prK L i.toNat) = true by simpa using h2]; simp
          refine Need.mk (by show fitStd .i64 (i + 1); unfold fitStd; omega) fun _ => ?_
          refine ⟨⟨i + 1, by omega, by omega, hYES hg⟩, [0], (by show n - (i + 1).toNat < n - i.toNat; omega), ?_⟩
          refine ⟨rfl, by decide, ?_, ?_⟩ <;> repeat' (first | exact trivial | exact rfl | apply And.intro | exact (fun _ _ _ _ => Cell.le_refl _) | (intro i hi; rfl) | (intro i hi; exact absurd hi (Nat.not_lt_zero _)))
      · have h1 : ¬ 0 < i := of_decide_eq_false (p := 0 < i) h1
        have hg : goodAt L i.toNat = true := by unfold goodAt; rw [hz, decide_eq_true (show i.toNat = 0 by omega)]; simp
        refine Need.mk (by show fitStd .i64 (i + 1); unfold fitStd; omega) fun _ => ?_
        refine ⟨⟨i + 1, by omega, by omega, hYES hg⟩, [0], (by show n - (i + 1).toNat < n - i.toNat; omega), ?_⟩
        refine ⟨rfl, by decide, ?_, ?_⟩ <;> repeat' (first | exact trivial | exact rfl | apply And.intro | exact (fun _ _ _ _ => Cell.le_refl _) | (intro i hi; rfl) | (intro i hi; exact absurd hi (Nat.not_lt_zero _)))
    · replace hlt : ¬ i < @Nat.cast Int instNatCastInt n := of_decide_eq_false (p := i < (n : Int)) hlt
      rw [goodL_yes fun k hk => hP k (by omega)]
      exact ⟨[0], ⟨rfl, (by repeat' (first | exact trivial | exact rfl | apply And.intro | exact (fun _ _ _ _ => Cell.le_refl _) | (intro i hi; rfl) | (intro i hi; exact absurd hi (Nat.not_lt_zero _)))), by decide, rfl, by repeat' (first | exact trivial | exact rfl | apply And.intro | exact (fun _ _ _ _ => Cell.le_refl _) | (intro i hi; rfl) | (intro i hi; exact absurd hi (Nat.not_lt_zero _)))⟩⟩

def sRLvs : SpecF
  | [.c (.row 0)], [.elems ty one n get] => some (rlvPre ty one n get, .c (.row 1), [.dead, .row 24 32 n (lfG (prL n get))])
  | _, _ => none

set_option maxRecDepth 100000 in
set_option maxHeartbeats 8000000 in
theorem rlvsP : Fn Tryd.prog 82 [] [(46, 2)] sRLvs := by
  have hC : CtsOk Tryd.prog [(94, appPure sRLeaf)] := CtsOk.cons (Pure.ct rleafP) <| CtsOk.nil _
  refine Fn.of (E := tbRf) [] 0 [(5, [(2001, false), (0, true), (1, true), (2, true), (3, true), (4, true), (5, true), (6, true), (7, true), (8, true), (9, true), (10, true), (11, false), (12, false), (13, false), (14, true)])] tbRf_ok hC (by kernel_rfl) Tryd.func82 rfl rfl rfl (by kernel_rfl) (by kernel_rfl) 1 24 32 ?_ ?_
  · intro args h pre r h' hs
    unfold sRLvs at hs
    split at hs
    · cases hs; exact ⟨rfl, rfl, Nat.le_of_ble_eq_true rfl⟩
    · cases hs
  · intro args h pre r h' hs hp
    unfold sRLvs at hs
    split at hs
    rotate_left
    · cases hs
    rename_i ty one n get
    cases hs
    obtain ⟨⟨rfl, rfl, hst, hm⟩, hz⟩ := hp
    refine ⟨[.elems 46 2 n (prG (prL n get))], ⟨⟨rfl, rfl, rfl, fun i hi => hst.eq hi⟩, trivial⟩, ?_⟩
    have hL : (prL n get).length = n := prL_len
    have ePR : prL n (prG (prL n get)) = prL n get := by
      have := prL_prG (prL n get)
      rwa [hL] at this
    generalize prL n get = L at hL hz ePR ⊢
    generalize hg0 : (List.length : List PP → Nat) = g0
    generalize hL : lft Tryd.prog _ = L
    try unfold prG
    generalize ho0 : @prK = zo0, ho1 : @prV = zo1, ho2 : @prL = zo2, ho3 : @leafF = zo3, ho4 : @lfG = zo4, ho5 : @rleafPre = zo5, ho6 : @rlvPre = zo6
    generalize hA : Arith.std = A
    cbv
    subst hA hg0 hL ho0 ho1 ho2 ho3 ho4 ho5 ho6
    refine Runs.nilTmp 3 24 32 (lfG L) rfl ?_
    show Runs Tryd.prog 1 (.loop _) _ _
    refine loop_ruleR (N := env (lft Tryd.prog 1) 0 .std tbRf [(94, appPure sRLeaf)] [(5, [(2001, false), (0, true), (1, true), (2, true), (3, true), (4, true), (5, true), (6, true), (7, true), (8, true), (9, true), (10, true), (11, false), (12, false), (13, false), (14, true)])]) rfl tbRf_ok hC (fun c st K _ h => h) (by kernel_rfl) [] (X := LSm n)
      (S := fun x => ⟨[.c (.row 0), .any, .any, .c (.row 1), .c (.int .i64 (x.j : Int))] ++ List.replicate 21 .any, [.elems 46 2 n (prG L), .row 24 32 x.j (lfG L)]⟩) (μ := fun x => n - x.j) ⟨0, Nat.zero_le _⟩ (by kernel_rfl) [0, 1] ?_ ?_
    · refine ⟨rfl, by decide, ?_, ?_⟩ <;> repeat' (first | exact trivial | exact rfl | apply And.intro | exact (fun _ _ _ _ => Cell.le_refl _) | (intro i hi; rfl) | (intro i hi; exact absurd hi (Nat.not_lt_zero _)))
    rintro ⟨j, hjn⟩
    unfold sRLeaf
    generalize hg0 : (List.length : List PP → Nat) = g0
    generalize hL : lft Tryd.prog _ = L
    try dsimp only
    try unfold prG
    generalize ho0 : @prK = zo0, ho1 : @prV = zo1, ho2 : @prL = zo2, ho3 : @leafF = zo3, ho4 : @lfG = zo4, ho5 : @rleafPre = zo5, ho6 : @rlvPre = zo6
    generalize hA : Arith.std = A
    cbv
    subst hA hg0 hL ho0 ho1 ho2 ho3 ho4 ho5 ho6
    refine Ife.mk (fun h => ?_) (fun h => ?_)
    · have h : (j : Int) < (@Nat.cast Int instNatCastInt n) := of_decide_eq_true (p := (j : Int) < (n : Int)) h
      have hj2 : j < n := Int.ofNat_lt.mp h
      have hsz := szB_iff.1 (hz.at (i := j) (by omega))
      refine Need.mk (by show 0 ≤ (j : Int) ∧ (j : Int) < (n : Int); omega) fun _ => Need.mk (by show (j : Int).toNat < n; omega) fun _ => Need.mk (by show 0 ≤ (j : Int) ∧ (j : Int) < (n : Int); omega) fun _ => Need.mk (by show (j : Int).toNat < n; omega) fun _ => ?_
      refine Need.mk ⟨by show (prK L j).length ≤ 1000000000; omega, by show (prV L j).length ≤ 1000000000; omega⟩ fun _ => ?_
      refine Need.mk (by show j + 1 ≤ maxLen ∧ (j + 1) * 32 ≤ 140737488355328; unfold maxLen; omega) fun _ => Need.mk (by show fitStd .i64 ((j : Int) + 1); unfold fitStd; omega) fun _ => ?_
      have hp := lf_push (L := L) (m := j)
      refine ⟨⟨j + 1, by omega⟩, [0, 3], (by show n - (j + 1) < n - j; omega), ?_⟩
      refine ⟨rfl, (by decide), ?_, ?_⟩ <;> repeat' (first | exact trivial | exact hp | exact ej | exact rfl | apply And.intro | exact (fun _ _ _ _ => Cell.le_refl _) | (intro i hi; rfl) | (intro i hi; exact absurd hi (Nat.not_lt_zero _)))
    · have h : ¬ (j : Int) < (@Nat.cast Int instNatCastInt n) := of_decide_eq_false (p := (j : Int) < (n : Int)) h
      have ej : j = n := by have : ¬ j < n := fun q => h (Int.ofNat_lt.mpr q)
                            omega
      exact ⟨[0, 1], ⟨rfl, (by repeat' (first | exact trivial | exact hp | exact ej | exact rfl | apply And.intro | exact (fun _ _ _ _ => Cell.le_refl _) | (intro i hi; rfl) | (intro i hi; exact absurd hi (Nat.not_lt_zero _)))), (by show List.Nodup [1]; decide), rfl, by repeat' (first | exact trivial | exact hp | exact ej | exact rfl | apply And.intro | exact (fun _ _ _ _ => Cell.le_refl _) | (intro i hi; rfl) | (intro i hi; exact absurd hi (Nat.not_lt_zero _)))⟩⟩

def sRRtOf : SpecF
  | [.c (.row 0)], [.elems ty one n get] => some (rlvPre ty one n get, .agg (hashC (rootL (prL n get))), [.dead])
  | _, _ => none

set_option maxRecDepth 100000 in
set_option maxHeartbeats 8000000 in
theorem rrtOfP : Fn Tryd.prog 20 [] [(46, 2)] sRRtOf := by
  have hC : CtsOk Tryd.prog [(82, appFn [] [(46, 2)] sRLvs), (81, appFn [] [(24, 32)] sRTop), (80, appPure sRRoot)] := CtsOk.cons (Fn.ct rlvsP) <| CtsOk.cons (Fn.ct rtopP) <| CtsOk.cons (Pure.ct rrootP) <| CtsOk.nil _
  refine Fn.of (E := tbRf) [] 0 [] tbRf_ok hC (by kernel_rfl) Tryd.func20 rfl rfl rfl (by kernel_rfl) (by kernel_rfl) 1 24 32 ?_ ?_
  · intro args h pre r h' hs
    unfold sRRtOf at hs
    split at hs
    · cases hs; exact ⟨rfl, rfl, Nat.le_of_ble_eq_true rfl⟩
    · cases hs
  · intro args h pre r h' hs hp
    unfold sRRtOf at hs
    split at hs
    rotate_left
    · cases hs
    rename_i ty one n get
    cases hs
    obtain ⟨⟨rfl, rfl, hst, hm⟩, hz⟩ := hp
    refine ⟨[.elems 46 2 n (prG (prL n get))], ⟨⟨rfl, rfl, rfl, fun i hi => hst.eq hi⟩, trivial⟩, ?_⟩
    have hL : (prL n get).length = n := prL_len
    have ePR : prL n (prG (prL n get)) = prL n get := by
      have := prL_prG (prL n get)
      rwa [hL] at this
    generalize prL n get = L at hL hz ePR ⊢
    unfold sRLvs sRTop sRRoot
    generalize hg0 : (List.length : List PP → Nat) = g0
    try unfold prG
    generalize ho0 : @prK = zo0, ho1 : @prV = zo1, ho2 : @prL = zo2, ho3 : @topG = zo3, ho4 : @rootF = zo4, ho5 : @HashC = zo5, ho6 : @u8s = zo6, ho7 : @lfG = zo7, ho8 : @rootL = zo8, ho9 : @rtopPre0 = zo9, ho10 : @rlvPre = zo10
    generalize hA : Arith.std = A
    cbv
    subst hA hg0 ho0 ho1 ho2 ho3 ho4 ho5 ho6 ho7 ho8 ho9 ho10
    refine Need.mk ⟨⟨rfl, rfl, prAt_prG _ L, hm⟩, by rw [ePR]; exact hz⟩ fun _ => ?_
    rw [ePR]
    refine Need.mk ⟨rfl, rfl, lfG_hash L n, by show n ≤ 1073741824; omega⟩ fun _ => ?_
    refine Need.mk (topG_hash (lfG_hash L n) 0 n (by omega)) fun _ => ?_
    have eR : rootL L = rootF (n : Int) (u8s (hashC (topG (lfG L) n))) := by unfold rootL; rw [hL]
    rw [eR]
    exact ⟨[0], ⟨rfl, (by repeat' (first | exact trivial | exact rfl | apply And.intro | exact (fun _ _ _ _ => Cell.le_refl _) | (intro i hi; rfl) | (intro i hi; exact absurd hi (Nat.not_lt_zero _)))), (by decide), rfl, by repeat' (first | exact trivial | exact rfl | apply And.intro | exact (fun _ _ _ _ => Cell.le_refl _) | (intro i hi; rfl) | (intro i hi; exact absurd hi (Nat.not_lt_zero _)))⟩⟩

def sRLAt : SpecF
  | [.c (.row 0), .c (.row 1), .c (.int .i64 i)], [.elems ty one n get, .elems ty' one' n' get'] => some (rlaPre ty one n get ty' one' n' get' i, .agg [.str (prK (prL n get) i.toNat), .str (prV (prL n get) i.toNat), .int .i64 i, .row 2], [.dead, .dead, .row 24 32 (wayG (lfG (prL n get)) n i).length (hashesG (wayG (lfG (prL n get)) n i))])
  | _, _ => none

set_option maxRecDepth 100000 in
set_option maxHeartbeats 8000000 in
theorem rlAtP : Fn Tryd.prog 86 [] [(46, 2), (24, 32)] sRLAt := by
  have hC : CtsOk Tryd.prog [(126, appFn [] [(24, 32)] sRWay)] := CtsOk.cons (Fn.ct rwayP) <| CtsOk.nil _
  refine Fn.of (E := tbRf) [] 0 [(1, [(2002, false), (0, true), (1, true), (2, true), (3, true), (4, true), (5, true), (6, true), (7, true), (8, true), (9, true), (10, true), (11, true), (12, true), (13, false), (14, true), (15, false)])] tbRf_ok hC (by kernel_rfl) Tryd.func86 rfl rfl rfl (by kernel_rfl) (by kernel_rfl) 2 24 32 ?_ ?_
  · intro args h pre r h' hs
    unfold sRLAt at hs
    split at hs
    · cases hs; exact ⟨rfl, rfl, Nat.le_of_ble_eq_true rfl⟩
    · cases hs
  · intro args h pre r h' hs hp
    unfold sRLAt at hs
    split at hs
    rotate_left
    · cases hs
    rename_i i ty one n get ty' one' n' get'
    cases hs
    obtain ⟨⟨rfl, rfl, hst, hm⟩, ⟨rfl, rfl, rfl, hgl⟩, hq⟩ := hp
    refine ⟨[.elems 46 2 n' (prG (prL n' get)), .elems 24 32 n' (lfG (prL n' get))], ⟨⟨rfl, rfl, rfl, fun i hi => hst.eq hi⟩, ⟨rfl, rfl, rfl, fun i hi => hgl i hi⟩, trivial⟩, ?_⟩
    have hL : (prL n' get).length = n' := prL_len
    generalize prL n' get = L at hL hgl ⊢
    unfold sRWay
    generalize hg0 : (List.length : List PP → Nat) = g0
    generalize hg1 : (List.length : List (Nat → Int) → Nat) = g1
    try unfold prG
    generalize ho0 : @prK = zo0, ho1 : @prV = zo1, ho2 : @prL = zo2, ho3 : @lfG = zo3, ho4 : @wayG = zo4, ho5 : @hashesG = zo5, ho6 : @rwayPre0 = zo6, ho7 : @rlaPre = zo7
    generalize hA : Arith.std = A
    cbv
    subst hA hg0 hg1 ho0 ho1 ho2 ho3 ho4 ho5 ho6 ho7
    have hq2 : i < (n' : Int) := hq.2
    have hq0 : 0 ≤ i := hq.1
    refine Need.mk hq fun _ => Need.mk (by show i.toNat < n'; omega) fun _ => Need.mk hq fun _ => Need.mk (by show i.toNat < n'; omega) fun _ => ?_
    refine Need.mk ⟨rfl, rfl, lfG_hash L n', by omega⟩ fun _ => ?_
    exact ⟨[0, 1, 4], ⟨rfl, (by repeat' (first | exact trivial | exact rfl | apply And.intro | exact (fun _ _ _ _ => Cell.le_refl _) | (intro i hi; rfl) | (intro i hi; exact absurd hi (Nat.not_lt_zero _)))), (by show List.Nodup [4]; decide), rfl, by repeat' (first | exact trivial | exact rfl | apply And.intro | exact (fun _ _ _ _ => Cell.le_refl _) | (intro i hi; rfl) | (intro i hi; exact absurd hi (Nat.not_lt_zero _)))⟩⟩

end Go.Proofs.YthomoliklfmnkaaDoor.Vx
end

section
/- The document's Make, by the walker. -/
namespace Go.Proofs.YthomoliklfmnkaaDoor.Vx
open Sha
open Go.RowKit
set_option linter.unusedVariables false
set_option linter.unusedSimpArgs false
def lfCP (zp0 : type_of% @hashesG) (zp1 : type_of% @lfG) (zp2 : type_of% @prK) (zp3 : type_of% @prV) (zp4 : type_of% @wayG) (L : List PP) (n : Nat) (i : Int) : List Cell := [.pl (.str (zp2 L i.toNat)), .pl (.str (zp3 L i.toNat)), .pl (.int .i64 i), .es true 24 32 (zp4 (zp1 L) n i).length (zp0 (zp4 (zp1 L) n i))]
@[reducible] def lfC := lfCP hashesG lfG prK prV wayG
theorem leafG_wayI {L : List PP} {n : Nat} (hL : L.length = n) {i : Int} (h0 : 0 ≤ i) (hi : i < (n : Int)) {P : List PLeaf} {m : Nat} (hn : P.length = m) : ∀ a j, a < m + 1 → j < 4 → Cell.le (pushC m (leafG true P) (lfC L n i) a j) (leafG true (P ++ [mkLeaf L i.toNat]) a j) := by
  obtain ⟨k, rfl⟩ : ∃ k : Nat, i = (k : Int) := ⟨i.toNat, by omega⟩
  have := leafG_way (L := L) (i := k) hn (by omega)
  rw [hL] at this
  exact this
theorem leafG_one {L : List PP} {n : Nat} (hL : L.length = n) {i : Int} (h0 : 0 ≤ i) (hi : i < (n : Int)) : ∀ j, j < 4 → Cell.le ((lfC L n i).getD j (.pl .tt)) (leafG true [mkLeaf L i.toNat] 0 j) := fun j hj => leafG_wayI hL h0 hi (P := []) rfl 0 j (by omega) hj
theorem leafG_p1 {L : List PP} {n : Nat} (hL : L.length = n) {i : Int} (h0 : 0 ≤ i) (hi : i < (n : Int)) {g : Nat → Nat → Cell} : ∀ a j, a < 1 → j < 4 → Cell.le (pushC 0 g (lfC L n i) a j) (leafG true [mkLeaf L i.toNat] a j) := fun a j ha hj => by
  obtain rfl : a = 0 := by omega
  exact leafG_one hL h0 hi j hj
theorem leafG_p2 {L : List PP} {n : Nat} (hL : L.length = n) {i i' : Int} (h0 : 0 ≤ i) (hi : i < (n : Int)) (h0' : 0 ≤ i') (hi' : i' < (n : Int)) {g : Nat → Nat → Cell} : ∀ a j, a < 2 → j < 4 → Cell.le (pushC 1 (pushC 0 g (lfC L n i)) (lfC L n i') a j) (leafG true [mkLeaf L i.toNat, mkLeaf L i'.toNat] a j) := fun a j ha hj => by
  rcases (show a = 0 ∨ a = 1 by omega) with rfl | rfl
  · have := leafG_one hL h0 hi j hj
    rw [← leafG_left (x := mkLeaf L i'.toNat) (by simp)] at this
    exact this
  · exact leafG_wayI hL h0' hi' (P := [mkLeaf L i.toNat]) rfl 1 j (by omega) hj
theorem lfC_new {L : List PP} {n : Nat} {i : Int} : ∀ j, j < 4 → ((lfC L n i).getD j (.pl .tt)).isNew := fun j hj => by
  rcases four hj with rfl | rfl | rfl | rfl
  · trivial
  · trivial
  · trivial
  · exact rfl
def sRMake : SpecF
  | [.c (.row 0), .c (.str k)], [.elems ty one n get] => some (prPreR ty one n get, .agg [.int .i64 (mkC (prL n get)), .row 1], [.dead, .data true 115 4 (lenL (mkL (prL n get) k)) (leafG true (mkL (prL n get) k))])
  | _, _ => none

set_option maxRecDepth 100000 in
set_option maxHeartbeats 32000000 in
theorem rmakeP : Fn Tryd.prog 23 [] [(46, 2)] sRMake := by
  have hC : CtsOk Tryd.prog [(17, appFn [] [(46, 2)] sRGood), (82, appFn [] [(46, 2)] sRLvs), (86, appFn [] [(46, 2), (24, 32)] sRLAt)] := CtsOk.cons (Fn.ct rgoodP) <| CtsOk.cons (Fn.ct rlvsP) <| CtsOk.cons (Fn.ct rlAtP) <| CtsOk.nil _
  refine Fn.ofZL (E := tbRf) [] 0 [(11, [(0, true), (1, true), (2, true), (3, true), (4, true), (5, true), (6, false), (7, false), (8, false), (1009, false), (9, true), (10, false)]), (13, [(2009, false), (0, true), (1, true), (2, true), (3, true), (4, true), (5, false), (6, false), (7, false), (1008, false), (8, true), (9, false)])] tbRf_ok hC (by kernel_rfl) Tryd.func23 rfl rfl rfl (by kernel_rfl) (by kernel_rfl) 1 (.data true 115 4 0 fun _ _ => .pl .tt) rfl ?_ ?_
  · intro args h pre r h' hs
    unfold sRMake at hs
    split at hs
    · cases hs; exact ⟨rfl, rfl, Nat.le_of_ble_eq_true rfl⟩
    · cases hs
  · intro args h pre r h' hs hp
    unfold sRMake at hs
    split at hs
    rotate_left
    · cases hs
    rename_i k ty one n get
    cases hs
    obtain ⟨rfl, rfl, hst, hm⟩ := hp
    refine ⟨[.elems 46 2 n (prG (prL n get))], ⟨⟨rfl, rfl, rfl, fun i hi => hst.eq hi⟩, trivial⟩, ?_⟩
    have hL : (prL n get).length = n := prL_len
    have ePR : prL n (prG (prL n get)) = prL n get := by
      have := prL_prG (prL n get)
      rwa [hL] at this
    generalize prL n get = L at hL ePR ⊢
    unfold sRGood sRLvs sRLAt
    generalize hg0 : (List.length : List PP → Nat) = g0
    generalize hg1 : (List.length : List (Nat → Int) → Nat) = g1
    generalize hL : lft Tryd.prog _ = L
    try unfold prG
    try unfold leafG
    try unfold lfC
    generalize ho0 : @prK = zo0, ho1 : @prV = zo1, ho2 : @prL = zo2, ho3 : @ltB = zo3, ho4 : @findI = zo4, ho5 : @findB = zo5, ho6 : @goodL = zo6, ho7 : @prPreR = zo7, ho8 : @lfG = zo8, ho9 : @lK = zo9, ho10 : @lV = zo10, ho11 : @lI = zo11, ho12 : @lP = zo12, ho13 : @lN = zo13, ho14 : @pG = zo14, ho15 : @mkLeaf = zo15, ho16 : @mkL = zo16, ho17 : @mkC = zo17, ho18 : @wayG = zo18, ho19 : @hashesG = zo19, ho20 : @lenL = zo20, ho21 : @rlvPre = zo21, ho22 : @rlaPre = zo22
    generalize hA : Arith.std = A
    cbv
    subst hA hg0 hg1 hL ho0 ho1 ho2 ho3 ho4 ho5 ho6 ho7 ho8 ho9 ho10 ho11 ho12 ho13 ho14 ho15 ho16 ho17 ho18 ho19 ho20 ho21 ho22
    have hle := findI_le (L := L) (k := k)
    have hPr : prPreR 46 2 n (prG L) := ⟨rfl, rfl, prAt_prG n L, hm⟩
    refine Need.mk hPr fun _ => ?_
    simp only [ePR]
    refine Ife.mk (fun h => ?_) (fun h => ?_)
    · have h : goodL L = false := by simpa using (show (!goodL L) = true from h)
      have e1 : mkL L k = [] := by unfold mkL; rw [if_neg (by rw [h]; simp)]
      have e2 : mkC L = 0 := by unfold mkC; rw [if_neg (by rw [h]; simp)]
      rw [e1, e2]
      have hZ : ∀ (i j : Nat), i < lenL [] → j < 4 → Cell.le (.pl .tt) (leafG true [] i j) := fun i j hi => absurd hi (Nat.not_lt_zero i)
      exact Or.inl ⟨[], [0, 3], ⟨trivial, rfl, by repeat' (first | exact trivial | exact rfl | apply And.intro | exact (fun _ _ _ _ => Cell.le_refl _) | (intro i hi; rfl) | (intro i hi; exact absurd hi (Nat.not_lt_zero _))), (by show List.Nodup []; exact List.nodup_nil), rfl, by repeat' (first | exact trivial | exact rfl | exact hZ | apply And.intro)⟩⟩
    have hg : goodL L = true := by simpa using (show (!goodL L) = false from h)
    clear h
    obtain ⟨hs, hz⟩ := goodL_iff.1 hg
    have eC : mkC L = (n : Int) := by unfold mkC; rw [if_pos hg, hL]
    show Runs Tryd.prog 1 (.loop _) _ _
    refine loop_ruleR (N := env (lft Tryd.prog 1) 0 .std tbRf [(17, appFn [] [(46, 2)] sRGood), (82, appFn [] [(46, 2)] sRLvs), (86, appFn [] [(46, 2), (24, 32)] sRLAt)] [(11, [(0, true), (1, true), (2, true), (3, true), (4, true), (5, true), (6, false), (7, false), (8, false), (1009, false), (9, true), (10, false)]), (13, [(2009, false), (0, true), (1, true), (2, true), (3, true), (4, true), (5, false), (6, false), (7, false), (1008, false), (8, true), (9, false)])]) rfl tbRf_ok hC (fun c st K _ h => h) (by kernel_rfl) [] (X := LPl L k n)
      (S := fun x => ⟨[.c (.row 0), .c (.str k), .any, .any, .c (.ptr 1 0), .c (.int .i64 (x.j : Int))] ++ List.replicate 72 .any, [.elems 46 2 n (prG L), .cells 27 [.int .i64 0, .val (.slice none 0 0)]]⟩) (μ := fun x => n - x.j) ⟨0, by omega, fun q hq => absurd hq (by omega)⟩ (by kernel_rfl) [0, 1] ?h0 ?rd
    case h0 =>
      refine ⟨rfl, by decide, ?_, ?_⟩ <;> repeat' (first | exact trivial | exact rfl | apply And.intro | exact (fun _ _ _ _ => Cell.le_refl _) | (intro i hi; rfl) | (intro i hi; exact absurd hi (Nat.not_lt_zero _)))
    case rd =>
      rintro ⟨j, hjn, hP⟩
      unfold sRGood sRLvs sRLAt
      generalize hg0 : (List.length : List PP → Nat) = g0
      generalize hg1 : (List.length : List (Nat → Int) → Nat) = g1
      generalize hL : lft Tryd.prog _ = L
      try dsimp only
      try unfold prG
      try unfold leafG
      try unfold lfC
      generalize ho0 : @prK = zo0, ho1 : @prV = zo1, ho2 : @prL = zo2, ho3 : @ltB = zo3, ho4 : @findI = zo4, ho5 : @findB = zo5, ho6 : @goodL = zo6, ho7 : @prPreR = zo7, ho8 : @lfG = zo8, ho9 : @lK = zo9, ho10 : @lV = zo10, ho11 : @lI = zo11, ho12 : @lP = zo12, ho13 : @lN = zo13, ho14 : @pG = zo14, ho15 : @mkLeaf = zo15, ho16 : @mkL = zo16, ho17 : @mkC = zo17, ho18 : @wayG = zo18, ho19 : @hashesG = zo19, ho20 : @lenL = zo20, ho21 : @rlvPre = zo21, ho22 : @rlaPre = zo22
      generalize hA : Arith.std = A
      cbv
      subst hA hg0 hg1 hL ho0 ho1 ho2 ho3 ho4 ho5 ho6 ho7 ho8 ho9 ho10 ho11 ho12 ho13 ho14 ho15 ho16 ho17 ho18 ho19 ho20 ho21 ho22
      have hrl : rlvPre 46 2 n (prG L) := ⟨hPr, by rw [ePR]; exact hz⟩
      have hla : ∀ i : Int, 0 ≤ i → i < (n : Int) → rlaPre 46 2 n (prG L) 24 32 n (lfG L) i := fun i h0 hi => ⟨hPr, ⟨rfl, rfl, rfl, fun j _ => by rw [ePR]⟩, h0, hi⟩
      have n0 : (0 + 1 ≤ maxLen ∧ (0 + 1) * 64 ≤ 140737488355328) ∧ True := ⟨by unfold maxLen; omega, trivial⟩
      have n1 : (1 + 1 ≤ maxLen ∧ (1 + 1) * 64 ≤ 140737488355328) ∧ True := ⟨by unfold maxLen; omega, trivial⟩
      have hED : (j < L.length → ltB (prK L j) k = false) → findI L k = j := fun h2 => findI_at (by omega) hP h2
      simp only [ePR]
      refine Ife.mk (fun h => ?_) (fun h => ?_)
      · have h : (j : Int) < (@Nat.cast Int instNatCastInt n) := of_decide_eq_true (p := (j : Int) < (n : Int)) h
        have hj2 : j < n := Int.ofNat_lt.mp h
        have q1 : 0 ≤ (j : Int) ∧ (j : Int) < (n : Int) := by omega
        have q2 : (j : Int).toNat < n := by omega
        refine Need.mk q1 fun _ => Need.mk q2 fun _ => ?_
        refine Ife.mk (fun h2 => ?_) (fun h2 => ?_)
        · have h2 : ltB (prK L j) k = true := h2
          refine Need.mk (by show fitStd .i64 ((j : Int) + 1); unfold fitStd; omega) fun _ => ?_
          refine ⟨⟨j + 1, by omega, fun q h4 => by
            by_cases hq : q = j
            · rw [hq]; exact h2
            · exact hP q (by omega)⟩, [0, 1], (by show n - (j + 1) < n - j; omega), ?_⟩
          refine ⟨rfl, by decide, ?_, ?_⟩ <;> repeat' (first | exact trivial | exact rfl | apply And.intro | exact (fun _ _ _ _ => Cell.le_refl _) | (intro i hi; rfl) | (intro i hi; exact absurd hi (Nat.not_lt_zero _)))
        have h2 : ltB (prK L j) k = false := h2
        have en := hED fun _ => h2
        refine Need.mk hrl fun _ => ?_
        refine Ife.mk (fun _ => ?_) (fun h3 => absurd h (of_decide_eq_false (p := (j : Int) < (n : Int)) h3))
        refine Need.mk q1 fun _ => Need.mk q2 fun _ => ?_
        refine Ife.mk (fun h3 => ?_) (fun h3 => ?_)
        · have h3 : prK L j = k := of_decide_eq_true (p := prK L j = k) h3
          have hfb : findB L k = true := by unfold findB; rw [en, decide_eq_true h3, decide_eq_true (by omega)]; rfl
          have em : mkL L k = [mkLeaf L (j : Int).toNat] := by unfold mkL; rw [if_pos hg, if_pos hfb, en]; rfl
          refine Need.mk (hla _ q1.1 q1.2) fun _ => Or.inr ?_
          rw [em, eC]
          have hW := leafG_one (L := L) hL q1.1 q1.2
          have hW2 : ∀ i c : Nat, i < 1 → c < 4 → Cell.le ((lfC L n (j : Int)).getD c (.pl .tt)) (leafG true [mkLeaf L (j : Int).toNat] i c) := fun i c hi hc => by
            obtain rfl : i = 0 := by omega
            exact hW c hc
          refine ⟨8, [0, 9], ⟨⟨_, 4, _, lfC L n (j : Int), [7], _, rfl, rfl, trivial, rfl, lfC_new, rfl, (by repeat' (first | exact trivial | exact rfl | apply And.intro | exact (fun _ _ _ _ => Cell.le_refl _) | (intro i hi; rfl) | (intro i hi; exact absurd hi (Nat.not_lt_zero _)))), (by repeat' (first | exact trivial | exact rfl | exact hW2 | apply And.intro))⟩, rfl, (by show List.Nodup []; exact List.nodup_nil), rfl⟩⟩
        · have h3 : ¬ prK L j = k := of_decide_eq_false (p := prK L j = k) h3
          have hfb : ¬ findB L k = true := fun q => h3 (by have := (findB_eq q).2; rwa [en] at this)
          refine Ife.mk (fun h4 => ?_) (fun h4 => ?_)
          · have h4 : (0 : Int) < (j : Int) := of_decide_eq_true (p := (0 : Int) < (j : Int)) h4
            have r1 : 0 ≤ (j : Int) - 1 := by omega
            have r2 : (j : Int) - 1 < (n : Int) := by omega
            have em : mkL L k = [mkLeaf L ((j : Int) - 1).toNat, mkLeaf L (j : Int).toNat] := by
              unfold mkL
              rw [if_pos hg, if_neg hfb, en, if_pos (by omega), if_pos (by omega), show ((j : Int) - 1).toNat = j - 1 by omega]
              rfl
            refine Need.mk (by show fitStd .i64 ((j : Int) - 1); unfold fitStd; omega) fun _ => Need.mk (hla _ r1 r2) fun _ => Need.mk n0 fun _ => ?_
            refine Ife.mk (fun _ => ?_) (fun h3 => absurd h (of_decide_eq_false (p := (j : Int) < (n : Int)) h3))
            refine Need.mk (hla _ q1.1 q1.2) fun _ => Need.mk n1 fun _ => Or.inl ?_
            rw [em, eC]
            have hW := leafG_p2 (L := L) hL r1 r2 q1.1 q1.2 (g := fun _ _ => .pl .tt)
            refine ⟨[14], [0, 14], ⟨?fz1, rfl, (by repeat' (first | exact trivial | exact rfl | apply And.intro | exact (fun _ _ _ _ => Cell.le_refl _) | (intro i hi; rfl) | (intro i hi; exact absurd hi (Nat.not_lt_zero _)))), (by show List.Nodup []; exact List.nodup_nil), rfl, (by repeat' (first | exact trivial | exact rfl | exact hW | apply And.intro))⟩⟩
            case fz1 =>
              refine ⟨fun i c hi hc => ?_, trivial⟩
              rcases (show i = 0 ∨ i = 1 by omega) with rfl | rfl
              · exact lfC_new (L := L) (n := n) (i := (j : Int) - 1) c hc
              · exact lfC_new (L := L) (n := n) (i := (j : Int)) c hc
          · have h4 : ¬ (0 : Int) < (j : Int) := of_decide_eq_false (p := (0 : Int) < (j : Int)) h4
            have em : mkL L k = [mkLeaf L (j : Int).toNat] := by
              unfold mkL
              rw [if_pos hg, if_neg hfb, en, if_neg (by omega), if_pos (by omega)]
              rfl
            refine Ife.mk (fun _ => ?_) (fun h3 => absurd h (of_decide_eq_false (p := (j : Int) < (n : Int)) h3))
            refine Need.mk (hla _ q1.1 q1.2) fun _ => Need.mk n0 fun _ => Or.inl ?_
            rw [em, eC]
            have hW := leafG_p1 (L := L) hL q1.1 q1.2 (g := fun _ _ => .pl .tt)
            refine ⟨[9], [0, 9], ⟨?fz2, rfl, (by repeat' (first | exact trivial | exact rfl | apply And.intro | exact (fun _ _ _ _ => Cell.le_refl _) | (intro i hi; rfl) | (intro i hi; exact absurd hi (Nat.not_lt_zero _)))), (by show List.Nodup []; exact List.nodup_nil), rfl, (by repeat' (first | exact trivial | exact rfl | exact hW | apply And.intro))⟩⟩
            case fz2 =>
              refine ⟨fun i c hi hc => ?_, trivial⟩
              obtain rfl : i = 0 := by omega
              exact lfC_new (L := L) (n := n) (i := (j : Int)) c hc
      · have h : ¬ (j : Int) < (@Nat.cast Int instNatCastInt n) := of_decide_eq_false (p := (j : Int) < (n : Int)) h
        have en := hED fun h3 => absurd h3 (by omega)
        have hfb : ¬ findB L k = true := fun q => by have := (findB_eq q).1; omega
        refine Need.mk hrl fun _ => ?_
        refine Ife.mk (fun h3 => absurd (of_decide_eq_true (p := (j : Int) < (n : Int)) h3) h) (fun _ => ?_)
        refine Ife.mk (fun h4 => ?_) (fun h4 => ?_)
        · have h4 : (0 : Int) < (j : Int) := of_decide_eq_true (p := (0 : Int) < (j : Int)) h4
          have r1 : 0 ≤ (j : Int) - 1 := by omega
          have r2 : (j : Int) - 1 < (n : Int) := by omega
          have em : mkL L k = [mkLeaf L ((j : Int) - 1).toNat] := by
            unfold mkL
            rw [if_pos hg, if_neg hfb, en, if_pos (by omega), if_neg (by omega), show ((j : Int) - 1).toNat = j - 1 by omega]
            rfl
          refine Need.mk (by show fitStd .i64 ((j : Int) - 1); unfold fitStd; omega) fun _ => Need.mk (hla _ r1 r2) fun _ => Need.mk n0 fun _ => ?_
          refine Ife.mk (fun h3 => absurd (of_decide_eq_true (p := (j : Int) < (n : Int)) h3) h) (fun _ => Or.inl ?_)
          rw [em, eC]
          have hW := leafG_p1 (L := L) hL r1 r2 (g := fun _ _ => .pl .tt)
          refine ⟨[9], [0, 9], ⟨?fz3, rfl, (by repeat' (first | exact trivial | exact rfl | apply And.intro | exact (fun _ _ _ _ => Cell.le_refl _) | (intro i hi; rfl) | (intro i hi; exact absurd hi (Nat.not_lt_zero _)))), (by show List.Nodup []; exact List.nodup_nil), rfl, (by repeat' (first | exact trivial | exact rfl | exact hW | apply And.intro))⟩⟩
          case fz3 =>
            refine ⟨fun i c hi hc => ?_, trivial⟩
            obtain rfl : i = 0 := by omega
            exact lfC_new (L := L) (n := n) (i := (j : Int) - 1) c hc
        · have h4 : ¬ (0 : Int) < (j : Int) := of_decide_eq_false (p := (0 : Int) < (j : Int)) h4
          have em : mkL L k = [] := by
            unfold mkL
            rw [if_pos hg, if_neg hfb, en, if_neg (by omega), if_neg (by omega)]
            rfl
          refine Ife.mk (fun h3 => absurd (of_decide_eq_true (p := (j : Int) < (n : Int)) h3) h) (fun _ => Or.inl ?_)
          rw [em, eC]
          have hZ : ∀ (i j : Nat), i < lenL [] → j < 4 → Cell.le (.pl .tt) (leafG true [] i j) := fun i j hi => absurd hi (Nat.not_lt_zero i)
          exact ⟨[], [0, 5], ⟨trivial, rfl, by repeat' (first | exact trivial | exact rfl | apply And.intro | exact (fun _ _ _ _ => Cell.le_refl _) | (intro i hi; rfl) | (intro i hi; exact absurd hi (Nat.not_lt_zero _))), (by show List.Nodup []; exact List.nodup_nil), rfl, by repeat' (first | exact trivial | exact rfl | exact hZ | apply And.intro)⟩⟩

end Go.Proofs.YthomoliklfmnkaaDoor.Vx
end
