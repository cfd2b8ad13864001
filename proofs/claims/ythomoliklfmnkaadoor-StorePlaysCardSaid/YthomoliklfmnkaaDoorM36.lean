/- What a proof shows, by the walker. -/
import Derived.Test.YthomoliklfmnkaaDoorM35
import Derived.Test.YthomoliklfmnkaaDoorM28
import Derived.Test.YthomoliklfmnkaaDoorM25
import Derived.Test.YthomoliklfmnkaaDoorM24
import Derived.Test.YthomoliklfmnkaaDoorM22
section
namespace Go.Proofs.YthomoliklfmnkaaDoor.Vx
open Sha
open Go.RowKit
set_option linter.unusedVariables false
set_option linter.unusedSimpArgs false
attribute [local cbv_opaque] prK prV prL ltB findI findB szB setL putS dropL getL underL underN preB Lib.compareBytes prPre goodAt goodL insG delG insPre delPre prPreR KsAt leafF leafPre topG topPre0 rootF rootPre sumI hOf HashC kOf u8s lfG rootL sumsPre lK lV lI lP lN pG leafL leafOf leavesPre deep hNm wyL mkLeaf mkL mkC mkFrom mkTo wayG hashesG wayPre0 mkPre lenL


end Go.Proofs.YthomoliklfmnkaaDoor.Vx
end

section
/- What a proof shows: Value, Has, Lacks, by the walker. -/
namespace Go.Proofs.YthomoliklfmnkaaDoor.Vx
open Sha
open Go.RowKit
set_option linter.unusedVariables false
set_option linter.unusedSimpArgs false
attribute [local cbv_opaque] prK prV prL ltB findI findB szB setL putS dropL getL underL underN preB Lib.compareBytes prPre goodAt goodL insG delG insPre delPre prPreR KsAt leafF leafPre topG topPre0 rootF rootPre sumI hOf HashC kOf u8s lfG rootL sumsPre lK lV lI lP lN pG leafL leafOf leavesPre deep hNm wyL mkLeaf mkL mkC mkFrom mkTo wayG hashesG wayPre0 mkPre lenL






end Go.Proofs.YthomoliklfmnkaaDoor.Vx
end

section
/- Acts on a store, by the walker: Few; and the store's Prove. -/
namespace Go.Proofs.YthomoliklfmnkaaDoor.Vx
open Sha
open Go.RowKit
set_option linter.unusedVariables false
set_option linter.unusedSimpArgs false
abbrev AC := Int × List UInt8 × List UInt8
def acK (L : List AC) (i : Nat) : Int := (L.getD i (0, [], [])).1
def acS (L : List AC) (i : Nat) : List UInt8 := (L.getD i (0, [], [])).2.1
def acV (L : List AC) (i : Nat) : List UInt8 := (L.getD i (0, [], [])).2.2
/-- Acts, as cells. -/
def acG (l : List AC) (i : Nat) : List CV := [.int .i64 (acK l i), .str (acS l i), .str (acV l i)]
def acOf : List CV → AC
  | [.int .i64 k, .str a, .str b] => (k, a, b)
  | _ => (0, [], [])
def acL (n : Nat) (get : Nat → List CV) : List AC := (List.range n).map fun i => acOf (get i)
def AcAt (n : Nat) (get : Nat → List CV) : Prop := ∀ i, i < n → ∃ k a b, get i = [.int .i64 k, .str a, .str b]
theorem acL_len {n : Nat} {get : Nat → List CV} : (acL n get).length = n := by simp [acL]
theorem acL_get {n : Nat} {get : Nat → List CV} {i : Nat} (h : i < n) : (acL n get).getD i (0, [], []) = acOf (get i) := by simp [acL, List.getD, List.getElem?_map, List.getElem?_range h]
theorem AcAt.eq {n : Nat} {get : Nat → List CV} (h : AcAt n get) {i : Nat} (hi : i < n) : get i = acG (acL n get) i := by
  obtain ⟨k, a, b, e⟩ := h i hi
  unfold acG acK acS acV
  rw [acL_get hi, e]
  rfl
theorem acAt_acG (n : Nat) (l : List AC) : AcAt n (acG l) := fun i _ => ⟨_, _, _, rfl⟩
theorem acL_acG (l : List AC) : acL l.length (acG l) = l := by
  apply List.ext_getElem?
  intro i
  by_cases hi : i < l.length
  · simp [acL, acG, acOf, acK, acS, acV, List.getElem?_range hi, List.getD, hi]
  · rw [List.getElem?_eq_none (by simp [acL]; omega), List.getElem?_eq_none (by omega)]
def acPre (many : Int) (ty sz n : Nat) (get : Nat → List CV) : Prop := ty = 69 ∧ sz = 3 ∧ AcAt n get ∧ many ≤ 1000000
def fewAt (L : List AC) (i : Nat) : Bool := decide ((acS L i).length ≤ 300) && decide ((acV L i).length ≤ 200)
def fewB (many : Int) (L : List AC) : Bool := decide ((L.length : Int) ≤ many) && (List.range L.length).all (fewAt L)
theorem fewAt_iff {L : List AC} {i : Nat} : fewAt L i = true ↔ (acS L i).length ≤ 300 ∧ (acV L i).length ≤ 200 := by simp [fewAt]
theorem fewB_iff {many : Int} {L : List AC} : fewB many L = true ↔ (L.length : Int) ≤ many ∧ ∀ i, i < L.length → (acS L i).length ≤ 300 ∧ (acV L i).length ≤ 200 := by
  unfold fewB
  simp only [Bool.and_eq_true, decide_eq_true_iff, List.all_eq_true, List.mem_range, fewAt_iff]
structure RunOk (R : List PP) (i : Nat) : Prop where
  s : StS R
  z : AllSz R
  l : R.length ≤ i
theorem drop_sz {L : List PP} {k : List UInt8} (hs : StS L) (h : AllSz L) : AllSz (dropL L k) := fun p hp => h p ((mem_dropL hs p).1 hp).1
attribute [local cbv_opaque] prK prV prL ltB findI findB szB setL putS dropL getL underL underN preB Lib.compareBytes prPre goodAt goodL insG delG insPre delPre prPreR KsAt leafF leafPre topG topPre0 rootF rootPre sumI hOf HashC kOf u8s lfG rootL sumsPre lK lV lI lP lN pG leafL leafOf leavesPre deep hNm wyL mkLeaf mkL mkC mkFrom mkTo wayG hashesG wayPre0 mkPre lenL acK acS acV acL acPre fewB fewAt
def tbAc : Tbl where
  T :=
    (3, ⟨1, false, [.int .i64 (0)], .int .i64, 8⟩) ::
    (4, ⟨1, false, [.ff], .bool, 1⟩) ::
    (9, ⟨1, false, [.str []], .str, 16⟩) ::
    (69, ⟨3, true, [.int .i64 (0), .str [], .str []], .struct [(0, (1, false)), (1, (1, false)), (2, (1, false))], 40⟩) ::
    (66, ⟨1, false, [.val (.slice none 0 0)], .slice 69, 24⟩) ::
    []
  F :=
    []

theorem tbAc_ok : tbAc.Ok Tryd.prog where
  T :=
    TblOk.cons (by kernel_rfl) <|
    TblOk.cons (by kernel_rfl) <|
    TblOk.cons (by kernel_rfl) <|
    TblOk.cons (by kernel_rfl) <|
    TblOk.cons (by kernel_rfl) <|
    TblOk.nil _
  F :=
    FlatsOk.nil _

def sFewA : SpecF
  | [.c (.row 0), .c (.int .i64 many)], [.elems ty sz n get] => some (acPre many ty sz n get, .c (.bool (fewB many (acL n get))), [.dead])
  | _, _ => none

set_option maxRecDepth 100000 in
set_option maxHeartbeats 4000000 in
theorem fewAP : Fn Tryd.prog 46 [] [(69, 3)] sFewA := by
  have hC : CtsOk Tryd.prog [] := CtsOk.nil _
  refine Fn.of (E := tbAc) [] 0 [] tbAc_ok hC (by kernel_rfl) Tryd.func46 rfl rfl rfl (by kernel_rfl) (by kernel_rfl) 1 5 1 ?_ ?_
  · intro args h pre r h' hs
    unfold sFewA at hs
    split at hs
    · cases hs; exact ⟨rfl, rfl, Nat.le_of_ble_eq_true rfl⟩
    · cases hs
  · intro args h pre r h' hs hp
    unfold sFewA at hs
    split at hs
    rotate_left
    · cases hs
    rename_i many ty sz n get
    cases hs
    obtain ⟨rfl, rfl, hst, hmny⟩ := hp
    refine ⟨[.elems 69 3 n (acG (acL n get))], ⟨⟨rfl, rfl, rfl, fun i hi => hst.eq hi⟩, trivial⟩, ?_⟩
    have hL : (acL n get).length = n := acL_len
    generalize acL n get = L at hL ⊢
    generalize hg0 : (List.length : List UInt8 → Nat) = g0
    generalize hL : lft Tryd.prog _ = L
    generalize hA : Arith.std = A
    set_option cbv.maxSteps 2000000 in cbv
    subst hA hg0 hL
    refine Ife.mk (fun h => ?_) (fun h => ?_)
    · have h : many < (n : Int) := of_decide_eq_true (p := many < (n : Int)) h
      rw [show fewB many L = false by unfold fewB; rw [decide_eq_false (by omega)]; rfl]
      exact ⟨[0], ⟨rfl, by repeat' (first | exact trivial | exact rfl | apply And.intro | exact (fun _ _ _ _ => Cell.le_refl _) | (intro i hi; rfl) | (intro i hi; exact absurd hi (Nat.not_lt_zero _))), by decide, rfl, by repeat' (first | exact trivial | exact rfl | apply And.intro | exact (fun _ _ _ _ => Cell.le_refl _) | (intro i hi; rfl) | (intro i hi; exact absurd hi (Nat.not_lt_zero _)))⟩⟩
    have h : ¬ (many < (n : Int)) := of_decide_eq_false (p := many < (n : Int)) h
    replace h := And.intro h trivial
    obtain ⟨hc0, _⟩ := h
    show Runs Tryd.prog 1 (.loop _) _ _
    refine loop_ruleR (N := env (lft Tryd.prog 1) 0 .std tbAc [] []) rfl tbAc_ok hC (fun c st K _ h => h) (by kernel_rfl) [] (X := LIx n (fewAt L))
      (S := fun x => ⟨[.c (.row 0), .c (.int .i64 many), .any, .any, .any, .c (.int .i64 x.i)] ++ List.replicate 26 .any, [.elems 69 3 n (acG L)]⟩) (μ := fun x => n - x.i.toNat) ⟨0, by omega, by omega, fun k hk => absurd hk (by omega)⟩ (by kernel_rfl) [0] ?_ ?_
    · refine ⟨rfl, by decide, ?_, ?_⟩ <;> repeat' (first | exact trivial | exact rfl | apply And.intro | exact (fun _ _ _ _ => Cell.le_refl _) | (intro i hi; rfl) | (intro i hi; exact absurd hi (Nat.not_lt_zero _)))
    rintro ⟨i, hi0, hin, hP⟩
    generalize hg0 : (List.length : List UInt8 → Nat) = g0
    generalize hL : lft Tryd.prog _ = L
    generalize hA : Arith.std = A
    set_option cbv.maxSteps 2000000 in cbv
    subst hA hg0 hL
    replace hi0 : 0 ≤ i := hi0
    replace hin : i ≤ @Nat.cast Int instNatCastInt n := hin
    replace hP : ∀ k, k < i.toNat → fewAt L k = true := hP
    refine Ife.mk (fun hlt => ?_) (fun hlt => ?_)
    · replace hlt : i < @Nat.cast Int instNatCastInt n := of_decide_eq_true (p := i < (n : Int)) hlt
      have hiL : i.toNat < L.length := by omega
      have no : ¬ fewAt L i.toNat = true → fewB many L = false := fun h => by unfold fewB; rw [all_no hiL h, Bool.and_false]
      refine Need.mk (by show 0 ≤ i ∧ i < (n : Int); omega) fun _ => Need.mk (by show i.toNat < n; omega) fun _ => ?_
      refine Ife.mk (fun h => ?_) (fun h => ?_)
      · have h : (300 : Int) < ((acS L i.toNat).length : Int) := of_decide_eq_true (p := (300 : Int) < ((acS L i.toNat).length : Int)) h
        rw [no fun hh => by have hh := fewAt_iff.1 hh; omega]
        exact ⟨[0], ⟨rfl, by repeat' (first | exact trivial | exact rfl | apply And.intro | exact (fun _ _ _ _ => Cell.le_refl _) | (intro i hi; rfl) | (intro i hi; exact absurd hi (Nat.not_lt_zero _))), by decide, rfl, by repeat' (first | exact trivial | exact rfl | apply And.intro | exact (fun _ _ _ _ => Cell.le_refl _) | (intro i hi; rfl) | (intro i hi; exact absurd hi (Nat.not_lt_zero _)))⟩⟩
      have h1 : ¬ (300 : Int) < ((acS L i.toNat).length : Int) := of_decide_eq_false (p := (300 : Int) < ((acS L i.toNat).length : Int)) h
      refine Need.mk (by show 0 ≤ i ∧ i < (n : Int); omega) fun _ => Need.mk (by show i.toNat < n; omega) fun _ => ?_
      refine Ife.mk (fun h => ?_) (fun h => ?_)
      · have h : (200 : Int) < ((acV L i.toNat).length : Int) := of_decide_eq_true (p := (200 : Int) < ((acV L i.toNat).length : Int)) h
        rw [no fun hh => by have hh := fewAt_iff.1 hh; omega]
        exact ⟨[0], ⟨rfl, by repeat' (first | exact trivial | exact rfl | apply And.intro | exact (fun _ _ _ _ => Cell.le_refl _) | (intro i hi; rfl) | (intro i hi; exact absurd hi (Nat.not_lt_zero _))), by decide, rfl, by repeat' (first | exact trivial | exact rfl | apply And.intro | exact (fun _ _ _ _ => Cell.le_refl _) | (intro i hi; rfl) | (intro i hi; exact absurd hi (Nat.not_lt_zero _)))⟩⟩
      have h2 : ¬ (200 : Int) < ((acV L i.toNat).length : Int) := of_decide_eq_false (p := (200 : Int) < ((acV L i.toNat).length : Int)) h
      refine Need.mk (by show fitStd .i64 (i + 1); unfold fitStd; omega) fun _ => ?_
      refine ⟨⟨i + 1, by omega, by omega, lix_next hi0 hP (fewAt_iff.2 (by omega))⟩, [0], (by show n - (i + 1).toNat < n - i.toNat; omega), ?_⟩
      refine ⟨rfl, by decide, ?_, ?_⟩ <;> repeat' (first | exact trivial | exact rfl | apply And.intro | exact (fun _ _ _ _ => Cell.le_refl _) | (intro i hi; rfl) | (intro i hi; exact absurd hi (Nat.not_lt_zero _)))
    · replace hlt : ¬ i < @Nat.cast Int instNatCastInt n := of_decide_eq_false (p := i < (n : Int)) hlt
      rw [show fewB many L = true by unfold fewB; rw [all_yes hP (by omega), decide_eq_true (by omega)]; rfl]
      exact ⟨[0], ⟨rfl, by repeat' (first | exact trivial | exact rfl | apply And.intro | exact (fun _ _ _ _ => Cell.le_refl _) | (intro i hi; rfl) | (intro i hi; exact absurd hi (Nat.not_lt_zero _))), by decide, rfl, by repeat' (first | exact trivial | exact rfl | apply And.intro | exact (fun _ _ _ _ => Cell.le_refl _) | (intro i hi; rfl) | (intro i hi; exact absurd hi (Nat.not_lt_zero _)))⟩⟩

def sProve : SpecF
  | [.c (.ptr 1 0), .c (.str k)], [.glob gg sz0 n0 get0, .cells t [.row 2], .row ty one n get] => some (t = 137 ∧ mkPre gg sz0 n0 get0 ty one n get, .agg [.int .i64 (mkC (prL n get)), .row 3], [.dead, .cells 137 [.row 2], .row 63 2 n (prG (prL n get)), .data true 115 4 (lenL (mkL (prL n get) k)) (leafG true (mkL (prL n get) k))])
  | _, _ => none

set_option maxRecDepth 100000 in
set_option maxHeartbeats 8000000 in
theorem proveP : Fn Tryd.prog 53 [0] [] sProve := by
  have hC : CtsOk Tryd.prog [(22, appFn [0] [(63, 2)] sMake)] := CtsOk.cons (Fn.ct makeP) <| CtsOk.nil _
  refine Fn.ofZ (E := tbMk) [0] 0 [] tbMk_ok hC (by kernel_rfl) Tryd.func53 rfl rfl rfl (by kernel_rfl) (by kernel_rfl) 3 (.data true 115 4 0 fun _ _ => .pl .tt) rfl ?_ ?_
  · intro args h pre r h' hs
    unfold sProve at hs
    split at hs
    · cases hs; exact ⟨rfl, rfl, Nat.le_of_ble_eq_true rfl⟩
    · cases hs
  · intro args h pre r h' hs hp
    unfold sProve at hs
    split at hs
    rotate_left
    · cases hs
    rename_i k gg sz0 n0 get0 t ty one n get
    cases hs
    obtain ⟨rfl, hK, rfl, rfl, hst, hm⟩ := hp
    refine ⟨[.glob 0 1 64 (fun i => [.int .u32 (kOf i)]), .cells 137 [.row 2], .row 63 2 n (prG (prL n get))], ⟨hK.same.1, rfl, ⟨rfl, rfl, rfl, fun i hi => hst.eq hi⟩, trivial⟩, ?_⟩
    clear hK
    have hL : (prL n get).length = n := prL_len
    have ePR : prL n (prG (prL n get)) = prL n get := by
      have := prL_prG (prL n get)
      rwa [hL] at this
    generalize prL n get = L at hL ePR ⊢
    unfold sMake
    generalize hg0 : (List.length : List PP → Nat) = g0
    generalize hA : Arith.std = A
    set_option cbv.maxSteps 4000000 in cbv
    subst hA hg0
    refine Need.mk ⟨ksAt_self, rfl, rfl, prAt_prG _ L, hm⟩ fun _ => ?_
    simp only [ePR]
    exact ⟨[], [0, 1, 2, 5], ⟨trivial, rfl, (by repeat' (first | exact trivial | exact rfl | apply And.intro | exact (fun _ _ _ _ => Cell.le_refl _) | (intro i hi; rfl) | (intro i hi; exact absurd hi (Nat.not_lt_zero _)))), (by show List.Nodup [1, 2]; decide), rfl, by repeat' (first | exact trivial | exact rfl | apply And.intro | exact (fun _ _ _ _ => Cell.le_refl _) | (intro i hi; rfl) | (intro i hi; exact absurd hi (Nat.not_lt_zero _)))⟩⟩

end Go.Proofs.YthomoliklfmnkaaDoor.Vx
end

section
/- StoreProves, by the walker. -/
namespace Go.Proofs.YthomoliklfmnkaaDoor.Vx
open Sha
open Go.RowKit
set_option linter.unusedVariables false
set_option linter.unusedSimpArgs false
def psPre (gg sz0 n0 : Nat) (get0 : Nat → List CV) (ty one n : Nat) (get : Nat → List CV) : Prop := KsAt gg sz0 n0 get0 ∧ ty = 69 ∧ one = 3 ∧ AcAt n get
attribute [local cbv_opaque] prK prV prL ltB findI findB szB setL putS dropL getL underL underN preB Lib.compareBytes prPre goodAt goodL insG delG insPre delPre prPreR KsAt leafF leafPre topG topPre0 rootF rootPre sumI hOf HashC kOf u8s lfG rootL sumsPre lK lV lI lP lN pG leafL leafOf leavesPre deep hNm wyL mkLeaf mkL mkC mkFrom mkTo wayG hashesG wayPre0 mkPre lenL acK acS acV acL acPre fewB fewAt psPre




end Go.Proofs.YthomoliklfmnkaaDoor.Vx
end

section
/- The document's sums of pairs and proofs of keys, by the walker. -/
namespace Go.Proofs.YthomoliklfmnkaaDoor.Vx
open Sha
open Go.RowKit
set_option linter.unusedVariables false
set_option linter.unusedSimpArgs false
def rlvPre (ty one n : Nat) (get : Nat → List CV) : Prop := prPreR ty one n get ∧ AllSz (prL n get)
def rlaPre (ty one n : Nat) (get : Nat → List CV) (ty' one' n' : Nat) (get' : Nat → List CV) (i : Int) : Prop := prPreR ty one n get ∧ (ty' = 24 ∧ one' = 32 ∧ n' = n ∧ ∀ j, j < n' → get' j = lfG (prL n get) j) ∧ 0 ≤ i ∧ i < (n : Int)
attribute [local cbv_opaque] prK prV prL ltB findI findB szB setL putS dropL getL underL underN preB Lib.compareBytes prPre goodAt goodL insG delG insPre delPre prPreR KsAt leafF leafPre topG topPre0 rootF rootPre sumI hOf HashC kOf u8s lfG rootL sumsPre lK lV lI lP lN pG leafL leafOf leavesPre deep hNm wyL mkLeaf mkL mkC mkFrom mkTo wayG hashesG wayPre0 mkPre lenL rleafPre rtopPre0 rwayPre0 prPreR rlvPre rlaPre
def tbRf : Tbl where
  T :=
    (3, ⟨1, false, [.int .i64 (0)], .int .i64, 8⟩) ::
    (4, ⟨1, false, [.ff], .bool, 1⟩) ::
    (9, ⟨1, false, [.str []], .str, 16⟩) ::
    (5, ⟨1, false, [.int .u8 (0)], .int .u8, 1⟩) ::
    (46, ⟨2, true, [.str [], .str []], .struct [(0, (1, false)), (1, (1, false))], 32⟩) ::
    (22, ⟨1, false, [.val (.slice none 0 0)], .slice 46, 24⟩) ::
    (115, ⟨4, true, [.str [], .str [], .int .i64 (0), .val (.slice none 0 0)], .struct [(0, (1, false)), (1, (1, false)), (2, (1, false)), (3, (1, false))], 64⟩) ::
    (25, ⟨1, false, [.val (.slice none 0 0)], .slice 115, 24⟩) ::
    (27, ⟨2, true, [.int .i64 (0), .val (.slice none 0 0)], .struct [(0, (1, false)), (1, (1, false))], 32⟩) ::
    (24, ⟨32, true, [.int .u8 (0), .int .u8 (0), .int .u8 (0), .int .u8 (0), .int .u8 (0), .int .u8 (0), .int .u8 (0), .int .u8 (0), .int .u8 (0), .int .u8 (0), .int .u8 (0), .int .u8 (0), .int .u8 (0), .int .u8 (0), .int .u8 (0), .int .u8 (0), .int .u8 (0), .int .u8 (0), .int .u8 (0), .int .u8 (0), .int .u8 (0), .int .u8 (0), .int .u8 (0), .int .u8 (0), .int .u8 (0), .int .u8 (0), .int .u8 (0), .int .u8 (0), .int .u8 (0), .int .u8 (0), .int .u8 (0), .int .u8 (0)], .array 32 5, 32⟩) ::
    (113, ⟨1, false, [.val (.slice none 0 0)], .slice 24, 24⟩) ::
    []
  F :=
    (24, [0, 0, 0, 0, 0, 0, 0, 0, 0, 0, 0, 0, 0, 0, 0, 0, 0, 0, 0, 0, 0, 0, 0, 0, 0, 0, 0, 0, 0, 0, 0, 0]) ::
    []

theorem tbRf_ok : tbRf.Ok Tryd.prog where
  T :=
    TblOk.cons (by kernel_rfl) <|
    TblOk.cons (by kernel_rfl) <|
    TblOk.cons (by kernel_rfl) <|
    TblOk.cons (by kernel_rfl) <|
    TblOk.cons (by kernel_rfl) <|
    TblOk.cons (by kernel_rfl) <|
    TblOk.cons (by kernel_rfl) <|
    TblOk.cons (by kernel_rfl) <|
    TblOk.cons (by kernel_rfl) <|
    TblOk.cons (by kernel_rfl) <|
    TblOk.cons (by kernel_rfl) <|
    TblOk.nil _
  F :=
    FlatsOk.cons (FlatOk.of (D := .array 32 5) 6 (by decide) (by kernel_rfl) (by kernel_rfl) rfl (by kernel_rfl)) <|
    FlatsOk.nil _

def sRGood : SpecF
  | [.c (.row 0)], [.elems ty one n get] => some (prPreR ty one n get, .c (.bool (goodL (prL n get))), [.dead])
  | _, _ => none

set_option maxRecDepth 100000 in
set_option maxHeartbeats 8000000 in
theorem rgoodP : Fn Tryd.prog 17 [] [(46, 2)] sRGood := by
  have hC : CtsOk Tryd.prog [] := CtsOk.nil _
  refine Fn.of (E := tbRf) [] 0 [(4, [(0, true), (1, true), (2, true), (3, true), (4, true), (5, true), (6, true), (7, true), (8, true), (9, true), (10, true), (11, true), (12, true), (13, true), (14, true), (15, true), (16, true), (17, true), (18, true), (19, true), (20, true), (21, true), (22, true), (23, true), (24, true), (25, true), (26, true), (27, true), (28, true), (29, true), (30, true), (31, true), (32, true), (33, true), (34, true), (35, true), (36, true), (37, true), (38, true), (39, true), (40, true), (41, true), (42, true), (43, true), (44, true), (45, true), (46, true), (47, true), (48, true), (49, true), (50, true), (51, true)])] tbRf_ok hC (by kernel_rfl) Tryd.func17 rfl rfl rfl (by kernel_rfl) (by kernel_rfl) 1 46 2 ?_ ?_
  · intro args h pre r h' hs
    unfold sRGood at hs
    split at hs
    · cases hs; exact ⟨rfl, rfl, Nat.le_of_ble_eq_true rfl⟩
    · cases hs
  · intro args h pre r h' hs hp
    unfold sRGood at hs
    split at hs
    rotate_left
    · cases hs
    rename_i ty one n get
    cases hs
    obtain ⟨rfl, rfl, hst, hm⟩ := hp
    refine ⟨[.elems 46 2 n (prG (prL n get))], ⟨⟨rfl, rfl, rfl, fun i hi => hst.eq hi⟩, trivial⟩, ?_⟩
    have hL : (prL n get).length = n := prL_len
    have ePR : prL n (prG (prL n get)) = prL n get := by
      have := prL_prG (prL n get)
      rwa [hL] at this
    generalize prL n get = L at hL ePR ⊢
    show Runs Tryd.prog 1 (.loop _) _ _
    refine loop_ruleR (N := env (lft Tryd.prog 1) 0 .std tbRf [] [(4, [(0, true), (1, true), (2, true), (3, true), (4, true), (5, true), (6, true), (7, true), (8, true), (9, true), (10, true), (11, true), (12, true), (13, true), (14, true), (15, true), (16, true), (17, true), (18, true), (19, true), (20, true), (21, true), (22, true), (23, true), (24, true), (25, true), (26, true), (27, true), (28, true), (29, true), (30, true), (31, true), (32, true), (33, true), (34, true), (35, true), (36, true), (37, true), (38, true), (39, true), (40, true), (41, true), (42, true), (43, true), (44, true), (45, true), (46, true), (47, true), (48, true), (49, true), (50, true), (51, true)])]) rfl tbRf_ok hC (fun c st K _ h => h) (by kernel_rfl) [] (X := LGo L n)
      (S := fun x => ⟨[.c (.row 0), .any, .any, .c (.int .i64 x.i)] ++ List.replicate 58 .any, [.elems 46 2 n (prG L)]⟩) (μ := fun x => n - x.i.toNat) ⟨0, by omega, by omega, fun k hk => absurd hk (by omega)⟩ (by kernel_rfl) [0] ?_ ?_
    · refine ⟨rfl, by decide, ?_, ?_⟩ <;> repeat' (first | exact trivial | exact rfl | apply And.intro | exact (fun _ _ _ _ => Cell.le_refl _) | (intro i hi; rfl) | (intro i hi; exact absurd hi (Nat.not_lt_zero _)))
    rintro ⟨i, hi0, hin, hP⟩
    generalize hg0 : (List.length : List PP → Nat) = g0
    generalize hg1 : (List.length : List UInt8 → Nat) = g1
    generalize hL : lft Tryd.prog _ = L
    generalize hA : Arith.std = A
    set_option cbv.maxSteps 2000000 in cbv
    subst hA hg0 hg1 hL
    replace hin : i ≤ @Nat.cast Int instNatCastInt n := hin
    refine Ife.mk (fun hlt => ?_) (fun hlt => ?_)
    · replace hlt : i < @Nat.cast Int instNatCastInt n := of_decide_eq_true (p := i < (n : Int)) hlt
      have hNO : goodAt L i.toNat = false → goodL L = false := fun h => goodL_no (by omega) h
      have hYES : goodAt L i.toNat = true → ∀ k, k < (i + 1).toNat → goodAt L k = true := fun h k hk => by
        by_cases hki : k = i.toNat
        · rw [hki]; exact h
        · exact hP k (by omega)
      refine Need.mk (by show 0 ≤ i ∧ i < (n : Int); omega) fun _ => Need.mk (by show i.toNat < n; omega) fun _ => ?_
      refine Ife.mk (fun h => ?_) (fun h => ?_)
      · have h : ((prK L i.toNat).length : Int) < 1 := of_decide_eq_true (p := ((prK L i.toNat).length : Int) < 1) h
        rw [hNO (by
          rw [Bool.eq_false_iff]
          intro q
          have q := szB_iff.1 (goodAt_iff.1 q).1
          omega)]
        exact ⟨[0], ⟨rfl, (by repeat' (first | exact trivial | exact rfl | apply And.intro | exact (fun _ _ _ _ => Cell.le_refl _) | (intro i hi; rfl) | (intro i hi; exact absurd hi (Nat.not_lt_zero _)))), by decide, rfl, by repeat' (first | exact trivial | exact rfl | apply And.intro | exact (fun _ _ _ _ => Cell.le_refl _) | (intro i hi; rfl) | (intro i hi; exact absurd hi (Nat.not_lt_zero _)))⟩⟩
      replace h : ¬ ((prK L i.toNat).length : Int) < 1 := of_decide_eq_false (p := ((prK L i.toNat).length : Int) < 1) h
      have z0 := h
      clear h
      refine Need.mk (by show 0 ≤ i ∧ i < (n : Int); omega) fun _ => Need.mk (by show i.toNat < n; omega) fun _ => ?_
      refine Ife.mk (fun h => ?_) (fun h => ?_)
      · have h : (160 : Int) < ((prK L i.toNat).length : Int) := of_decide_eq_true (p := (160 : Int) < ((prK L i.toNat).length : Int)) h
        rw [hNO (by
          rw [Bool.eq_false_iff]
          intro q
          have q := szB_iff.1 (goodAt_iff.1 q).1
          omega)]
        exact ⟨[0], ⟨rfl, (by repeat' (first | exact trivial | exact rfl | apply And.intro | exact (fun _ _ _ _ => Cell.le_refl _) | (intro i hi; rfl) | (intro i hi; exact absurd hi (Nat.not_lt_zero _)))), by decide, rfl, by repeat' (first | exact trivial | exact rfl | apply And.intro | exact (fun _ _ _ _ => Cell.le_refl _) | (intro i hi; rfl) | (intro i hi; exact absurd hi (Nat.not_lt_zero _)))⟩⟩
      replace h : ¬ (160 : Int) < ((prK L i.toNat).length : Int) := of_decide_eq_false (p := (160 : Int) < ((prK L i.toNat).length : Int)) h
      have z1 := h
      clear h
      refine Need.mk (by show 0 ≤ i ∧ i < (n : Int); omega) fun _ => Need.mk (by show i.toNat < n; omega) fun _ => ?_
      refine Ife.mk (fun h => ?_) (fun h => ?_)
      · have h : ((prV L i.toNat).length : Int) < 1 := of_decide_eq_true (p := ((prV L i.toNat).length : Int) < 1) h
        rw [hNO (by
          rw [Bool.eq_false_iff]
          intro q
          have q := szB_iff.1 (goodAt_iff.1 q).1
          omega)]
        exact ⟨[0], ⟨rfl, (by repeat' (first | exact trivial | exact rfl | apply And.intro | exact (fun _ _ _ _ => Cell.le_refl _) | (intro i hi; rfl) | (intro i hi; exact absurd hi (Nat.not_lt_zero _)))), by decide, rfl, by repeat' (first | exact trivial | exact rfl | apply And.intro | exact (fun _ _ _ _ => Cell.le_refl _) | (intro i hi; rfl) | (intro i hi; exact absurd hi (Nat.not_lt_zero _)))⟩⟩
      replace h : ¬ ((prV L i.toNat).length : Int) < 1 := of_decide_eq_false (p := ((prV L i.toNat).length : Int) < 1) h
      have z2 := h
      clear h
      refine Need.mk (by show 0 ≤ i ∧ i < (n : Int); omega) fun _ => Need.mk (by show i.toNat < n; omega) fun _ => ?_
      refine Ife.mk (fun h => ?_) (fun h => ?_)
      · have h : (64 : Int) < ((prV L i.toNat).length : Int) := of_decide_eq_true (p := (64 : Int) < ((prV L i.toNat).length : Int)) h
        rw [hNO (by
          rw [Bool.eq_false_iff]
          intro q
          have q := szB_iff.1 (goodAt_iff.1 q).1
          omega)]
        exact ⟨[0], ⟨rfl, (by repeat' (first | exact trivial | exact rfl | apply And.intro | exact (fun _ _ _ _ => Cell.le_refl _) | (intro i hi; rfl) | (intro i hi; exact absurd hi (Nat.not_lt_zero _)))), by decide, rfl, by repeat' (first | exact trivial | exact rfl | apply And.intro | exact (fun _ _ _ _ => Cell.le_refl _) | (intro i hi; rfl) | (intro i hi; exact absurd hi (Nat.not_lt_zero _)))⟩⟩
      replace h : ¬ (64 : Int) < ((prV L i.toNat).length : Int) := of_decide_eq_false (p := (64 : Int) < ((prV L i.toNat).length : Int)) h
      have z3 := h
      clear h
      have hz : szB (prK L i.toNat) (prV L i.toNat) = true := szB_iff.2 ⟨⟨by omega, by omega⟩, by omega, by omega⟩
      refine Ife.mk (fun h1 => ?_) (fun h1 => ?_)
      · have h1 : 0 < i := of_decide_eq_true (p := 0 < i) h1
        have e3 : (i - 1).toNat = i.toNat - 1 := by omega
        refine Need.mk (by show fitStd .i64 (i - 1); unfold fitStd; omega) fun _ => Need.mk (by show 0 ≤ i - 1 ∧ i - 1 < (n : Int); omega) fun _ => Need.mk (by show (i - 1).toNat < n; omega) fun _ => Need.mk (by show 0 ≤ i ∧ i < (n : Int); omega) fun _ => Need.mk (by show i.toNat < n; omega) fun _ => ?_
        refine Ife.mk (fun h2 => ?_) (fun h2 => ?_)
        · have h2 : (!ltB (prK L (i - 1).toNat) (prK L i.toNat)) = true := h2
          rw [hNO (by unfold goodAt; rw [hz, decide_eq_false (show ¬ i.toNat = 0 by omega), ← e3, show ltB (prK L (i - 1).toNat) (prK L i.toNat) = false by simpa using h2]; rfl)]
          exact ⟨[0], ⟨rfl, (by repeat' (first | exact trivial | exact rfl | apply And.intro | exact (fun _ _ _ _ => Cell.le_refl _) | (intro i hi; rfl) | (intro i hi; exact absurd hi (Nat.not_lt_zero _)))), by decide, rfl, by repeat' (first | exact trivial | exact rfl | apply And.intro | exact (fun _ _ _ _ => Cell.le_refl _) | (intro i hi; rfl) | (intro i hi; exact absurd hi (Nat.not_lt_zero _)))⟩⟩
        · have h2 : (!ltB (prK L (i - 1).toNat) (prK L i.toNat)) = false := h2
          have hg : goodAt L i.toNat = true := by unfold goodAt; rw [hz, ← e3, show ltB (prK L (i - 1).toNat) (prK L i.toNat) = true by simpa using h2]; simp
          refine Need.mk (by show fitStd .i64 (i + 1); unfold fitStd; omega) fun _ => ?_
          refine ⟨⟨i + 1, by omega, by omega, hYES hg⟩, [0], (by show n - (i + 1).toNat < n - i.toNat; omega), ?_⟩
          refine ⟨rfl, by decide, ?_, ?_⟩ <;> repeat' (first | exact trivial | exact rfl | apply And.intro | exact (fun _ _ _ _ => Cell.le_refl _) | (intro i hi; rfl) | (intro i hi; exact absurd hi (Nat.not_lt_zero _)))
      · have h1 : ¬ 0 < i := of_decide_eq_false (p := 0 < i) h1
        have hg : goodAt L i.toNat = true := by unfold goodAt; rw [hz, decide_eq_true (show i.toNat = 0 by omega)]; simp
        refine Need.mk (by show fitStd .i64 (i + 1); unfold fitStd; omega) fun _ => ?_
        refine ⟨⟨i + 1, by omega, by omega, hYES hg⟩, [0], (by show n - (i + 1).toNat < n - i.toNat; omega), ?_⟩
        refine ⟨rfl, by decide, ?_, ?_⟩ <;> repeat' (first | exact trivial | exact rfl | apply And.intro | exact (fun _ _ _ _ => Cell.le_refl _) | (intro i hi; rfl) | (intro i hi; exact absurd hi (Nat.not_lt_zero _)))
    · replace hlt : ¬ i < @Nat.cast Int instNatCastInt n := of_decide_eq_false (p := i < (n : Int)) hlt
      rw [goodL_yes fun k hk => hP k (by omega)]
      exact ⟨[0], ⟨rfl, (by repeat' (first | exact trivial | exact rfl | apply And.intro | exact (fun _ _ _ _ => Cell.le_refl _) | (intro i hi; rfl) | (intro i hi; exact absurd hi (Nat.not_lt_zero _)))), by decide, rfl, by repeat' (first | exact trivial | exact rfl | apply And.intro | exact (fun _ _ _ _ => Cell.le_refl _) | (intro i hi; rfl) | (intro i hi; exact absurd hi (Nat.not_lt_zero _)))⟩⟩

def sRLvs : SpecF
  | [.c (.row 0)], [.elems ty one n get] => some (rlvPre ty one n get, .c (.row 1), [.dead, .row 24 32 n (lfG (prL n get))])
  | _, _ => none

set_option maxRecDepth 100000 in
set_option maxHeartbeats 8000000 in
theorem rlvsP : Fn Tryd.prog 82 [] [(46, 2)] sRLvs := by
  have hC : CtsOk Tryd.prog [(94, appPure sRLeaf)] := CtsOk.cons (Pure.ct rleafP) <| CtsOk.nil _
  refine Fn.of (E := tbRf) [] 0 [(5, [(2001, false), (0, true), (1, true), (2, true), (3, true), (4, true), (5, true), (6, true), (7, true), (8, true), (9, true), (10, true), (11, false), (12, false), (13, false), (14, true)])] tbRf_ok hC (by kernel_rfl) Tryd.func82 rfl rfl rfl (by kernel_rfl) (by kernel_rfl) 1 24 32 ?_ ?_
  · intro args h pre r h' hs
    unfold sRLvs at hs
    split at hs
    · cases hs; exact ⟨rfl, rfl, Nat.le_of_ble_eq_true rfl⟩
    · cases hs
  · intro args h pre r h' hs hp
    unfold sRLvs at hs
    split at hs
    rotate_left
    · cases hs
    rename_i ty one n get
    cases hs
    obtain ⟨⟨rfl, rfl, hst, hm⟩, hz⟩ := hp
    refine ⟨[.elems 46 2 n (prG (prL n get))], ⟨⟨rfl, rfl, rfl, fun i hi => hst.eq hi⟩, trivial⟩, ?_⟩
    have hL : (prL n get).length = n := prL_len
    have ePR : prL n (prG (prL n get)) = prL n get := by
      have := prL_prG (prL n get)
      rwa [hL] at this
    generalize prL n get = L at hL hz ePR ⊢
    generalize hg0 : (List.length : List PP → Nat) = g0
    generalize hL : lft Tryd.prog _ = L
    generalize hA : Arith.std = A
    set_option cbv.maxSteps 2000000 in cbv
    subst hA hg0 hL
    refine Runs.nilTmp 3 24 32 (lfG L) rfl ?_
    show Runs Tryd.prog 1 (.loop _) _ _
    refine loop_ruleR (N := env (lft Tryd.prog 1) 0 .std tbRf [(94, appPure sRLeaf)] [(5, [(2001, false), (0, true), (1, true), (2, true), (3, true), (4, true), (5, true), (6, true), (7, true), (8, true), (9, true), (10, true), (11, false), (12, false), (13, false), (14, true)])]) rfl tbRf_ok hC (fun c st K _ h => h) (by kernel_rfl) [] (X := LSm n)
      (S := fun x => ⟨[.c (.row 0), .any, .any, .c (.row 1), .c (.int .i64 (x.j : Int))] ++ List.replicate 21 .any, [.elems 46 2 n (prG L), .row 24 32 x.j (lfG L)]⟩) (μ := fun x => n - x.j) ⟨0, Nat.zero_le _⟩ (by kernel_rfl) [0, 1] ?_ ?_
    · refine ⟨rfl, by decide, ?_, ?_⟩ <;> repeat' (first | exact trivial | exact rfl | apply And.intro | exact (fun _ _ _ _ => Cell.le_refl _) | (intro i hi; rfl) | (intro i hi; exact absurd hi (Nat.not_lt_zero _)))
    rintro ⟨j, hjn⟩
    unfold sRLeaf
    generalize hg0 : (List.length : List PP → Nat) = g0
    generalize hL : lft Tryd.prog _ = L
    generalize hA : Arith.std = A
    set_option cbv.maxSteps 4000000 in cbv
    subst hA hg0 hL
    refine Ife.mk (fun h => ?_) (fun h => ?_)
    · have h : (j : Int) < (n : Int) := of_decide_eq_true (p := (j : Int) < (n : Int)) h
      have hj2 : j < n := Int.ofNat_lt.mp h
      have hsz := szB_iff.1 (hz.at (i := j) (by omega))
      refine Need.mk (by show 0 ≤ (j : Int) ∧ (j : Int) < (n : Int); omega) fun _ => Need.mk (by show (j : Int).toNat < n; omega) fun _ => Need.mk (by show 0 ≤ (j : Int) ∧ (j : Int) < (n : Int); omega) fun _ => Need.mk (by show (j : Int).toNat < n; omega) fun _ => ?_
      refine Need.mk ⟨by show (prK L j).length ≤ 1000000000; omega, by show (prV L j).length ≤ 1000000000; omega⟩ fun _ => ?_
      refine Need.mk (by show j + 1 ≤ maxLen ∧ (j + 1) * 32 ≤ 140737488355328; unfold maxLen; omega) fun _ => Need.mk (by show fitStd .i64 ((j : Int) + 1); unfold fitStd; omega) fun _ => ?_
      have hp := lf_push (L := L) (m := j)
      refine ⟨⟨j + 1, by omega⟩, [0, 3], (by show n - (j + 1) < n - j; omega), ?_⟩
      refine ⟨rfl, (by decide), ?_, ?_⟩ <;> repeat' (first | exact trivial | exact hp | exact ej | exact rfl | apply And.intro | exact (fun _ _ _ _ => Cell.le_refl _) | (intro i hi; rfl) | (intro i hi; exact absurd hi (Nat.not_lt_zero _)))
    · have h : ¬ (j : Int) < (n : Int) := of_decide_eq_false (p := (j : Int) < (n : Int)) h
      have ej : j = n := by have : ¬ j < n := fun q => h (Int.ofNat_lt.mpr q)
                            omega
      exact ⟨[0, 1], ⟨rfl, (by repeat' (first | exact trivial | exact hp | exact ej | exact rfl | apply And.intro | exact (fun _ _ _ _ => Cell.le_refl _) | (intro i hi; rfl) | (intro i hi; exact absurd hi (Nat.not_lt_zero _)))), (by show List.Nodup [1]; decide), rfl, by repeat' (first | exact trivial | exact hp | exact ej | exact rfl | apply And.intro | exact (fun _ _ _ _ => Cell.le_refl _) | (intro i hi; rfl) | (intro i hi; exact absurd hi (Nat.not_lt_zero _)))⟩⟩

def sRRtOf : SpecF
  | [.c (.row 0)], [.elems ty one n get] => some (rlvPre ty one n get, .agg (hashC (rootL (prL n get))), [.dead])
  | _, _ => none

set_option maxRecDepth 100000 in
set_option maxHeartbeats 8000000 in
theorem rrtOfP : Fn Tryd.prog 20 [] [(46, 2)] sRRtOf := by
  have hC : CtsOk Tryd.prog [(82, appFn [] [(46, 2)] sRLvs), (81, appFn [] [(24, 32)] sRTop), (80, appPure sRRoot)] := CtsOk.cons (Fn.ct rlvsP) <| CtsOk.cons (Fn.ct rtopP) <| CtsOk.cons (Pure.ct rrootP) <| CtsOk.nil _
  refine Fn.of (E := tbRf) [] 0 [] tbRf_ok hC (by kernel_rfl) Tryd.func20 rfl rfl rfl (by kernel_rfl) (by kernel_rfl) 1 24 32 ?_ ?_
  · intro args h pre r h' hs
    unfold sRRtOf at hs
    split at hs
    · cases hs; exact ⟨rfl, rfl, Nat.le_of_ble_eq_true rfl⟩
    · cases hs
  · intro args h pre r h' hs hp
    unfold sRRtOf at hs
    split at hs
    rotate_left
    · cases hs
    rename_i ty one n get
    cases hs
    obtain ⟨⟨rfl, rfl, hst, hm⟩, hz⟩ := hp
    refine ⟨[.elems 46 2 n (prG (prL n get))], ⟨⟨rfl, rfl, rfl, fun i hi => hst.eq hi⟩, trivial⟩, ?_⟩
    have hL : (prL n get).length = n := prL_len
    have ePR : prL n (prG (prL n get)) = prL n get := by
      have := prL_prG (prL n get)
      rwa [hL] at this
    generalize prL n get = L at hL hz ePR ⊢
    unfold sRLvs sRTop sRRoot
    generalize hg0 : (List.length : List PP → Nat) = g0
    generalize hA : Arith.std = A
    set_option cbv.maxSteps 4000000 in cbv
    subst hA hg0
    refine Need.mk ⟨⟨rfl, rfl, prAt_prG _ L, hm⟩, by rw [ePR]; exact hz⟩ fun _ => ?_
    rw [ePR]
    refine Need.mk ⟨rfl, rfl, lfG_hash L n, by show n ≤ 1073741824; omega⟩ fun _ => ?_
    refine Need.mk (topG_hash (lfG_hash L n) 0 n (by omega)) fun _ => ?_
    have eR : rootL L = rootF (n : Int) (u8s (hashC (topG (lfG L) n))) := by unfold rootL; rw [hL]
    rw [eR]
    exact ⟨[0], ⟨rfl, (by repeat' (first | exact trivial | exact rfl | apply And.intro | exact (fun _ _ _ _ => Cell.le_refl _) | (intro i hi; rfl) | (intro i hi; exact absurd hi (Nat.not_lt_zero _)))), (by decide), rfl, by repeat' (first | exact trivial | exact rfl | apply And.intro | exact (fun _ _ _ _ => Cell.le_refl _) | (intro i hi; rfl) | (intro i hi; exact absurd hi (Nat.not_lt_zero _)))⟩⟩

def sRLAt : SpecF
  | [.c (.row 0), .c (.row 1), .c (.int .i64 i)], [.elems ty one n get, .elems ty' one' n' get'] => some (rlaPre ty one n get ty' one' n' get' i, .agg [.str (prK (prL n get) i.toNat), .str (prV (prL n get) i.toNat), .int .i64 i, .row 2], [.dead, .dead, .row 24 32 (wayG (lfG (prL n get)) n i).length (hashesG (wayG (lfG (prL n get)) n i))])
  | _, _ => none

set_option maxRecDepth 100000 in
set_option maxHeartbeats 8000000 in
theorem rlAtP : Fn Tryd.prog 86 [] [(46, 2), (24, 32)] sRLAt := by
  have hC : CtsOk Tryd.prog [(126, appFn [] [(24, 32)] sRWay)] := CtsOk.cons (Fn.ct rwayP) <| CtsOk.nil _
  refine Fn.of (E := tbRf) [] 0 [(1, [(2002, false), (0, true), (1, true), (2, true), (3, true), (4, true), (5, true), (6, true), (7, true), (8, true), (9, true), (10, true), (11, true), (12, true), (13, false), (14, true), (15, false)])] tbRf_ok hC (by kernel_rfl) Tryd.func86 rfl rfl rfl (by kernel_rfl) (by kernel_rfl) 2 24 32 ?_ ?_
  · intro args h pre r h' hs
    unfold sRLAt at hs
    split at hs
    · cases hs; exact ⟨rfl, rfl, Nat.le_of_ble_eq_true rfl⟩
    · cases hs
  · intro args h pre r h' hs hp
    unfold sRLAt at hs
    split at hs
    rotate_left
    · cases hs
    rename_i i ty one n get ty' one' n' get'
    cases hs
    obtain ⟨⟨rfl, rfl, hst, hm⟩, ⟨rfl, rfl, rfl, hgl⟩, hq⟩ := hp
    refine ⟨[.elems 46 2 n' (prG (prL n' get)), .elems 24 32 n' (lfG (prL n' get))], ⟨⟨rfl, rfl, rfl, fun i hi => hst.eq hi⟩, ⟨rfl, rfl, rfl, fun i hi => hgl i hi⟩, trivial⟩, ?_⟩
    have hL : (prL n' get).length = n' := prL_len
    generalize prL n' get = L at hL hgl ⊢
    unfold sRWay
    generalize hg0 : (List.length : List PP → Nat) = g0
    generalize hg1 : (List.length : List (Nat → Int) → Nat) = g1
    generalize hA : Arith.std = A
    set_option cbv.maxSteps 4000000 in cbv
    subst hA hg0 hg1
    have hq2 : i < (n' : Int) := hq.2
    have hq0 : 0 ≤ i := hq.1
    refine Need.mk hq fun _ => Need.mk (by show i.toNat < n'; omega) fun _ => Need.mk hq fun _ => Need.mk (by show i.toNat < n'; omega) fun _ => ?_
    refine Need.mk ⟨rfl, rfl, lfG_hash L n', by omega⟩ fun _ => ?_
    exact ⟨[0, 1, 4], ⟨rfl, (by repeat' (first | exact trivial | exact rfl | apply And.intro | exact (fun _ _ _ _ => Cell.le_refl _) | (intro i hi; rfl) | (intro i hi; exact absurd hi (Nat.not_lt_zero _)))), (by show List.Nodup [4]; decide), rfl, by repeat' (first | exact trivial | exact rfl | apply And.intro | exact (fun _ _ _ _ => Cell.le_refl _) | (intro i hi; rfl) | (intro i hi; exact absurd hi (Nat.not_lt_zero _)))⟩⟩

end Go.Proofs.YthomoliklfmnkaaDoor.Vx
end
