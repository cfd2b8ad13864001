/- Pairs in order: Compare, BinarySearchFunc, find, by the walker. -/
import Derived.Test.YthomoliklfmnkaaDoorVxFrame
import Derived.Test.YthomoliklfmnkaaDoorVxFlat
import Derived.Test.YthomoliklfmnkaaDoorVxLive
import Derived.Test.YthomoliklfmnkaaDoorM11
import Derived.Test.YthomoliklfmnkaaDoorShelf
import Derived.Test.YthomoliklfmnkaaDoorRows
namespace Go.Proofs.YthomoliklfmnkaaDoor.Vx
open Go.RowKit
set_option linter.unusedVariables false
set_option linter.unusedSimpArgs false
/-- Pairs, as cells. -/
def prGP (zp0 : type_of% @prK) (zp1 : type_of% @prV) (l : List PP) (i : Nat) : List CV := [.str (zp0 l i), .str (zp1 l i)]
@[reducible] def prG := prGP prK prV
def prOf : List CV → PP
  | [.str a, .str b] => (a, b)
  | _ => ([], [])
def prL (n : Nat) (get : Nat → List CV) : List PP := (List.range n).map fun i => prOf (get i)
def PrAt (n : Nat) (get : Nat → List CV) : Prop := ∀ i, i < n → ∃ a b, get i = [.str a, .str b]
theorem prL_len {n : Nat} {get : Nat → List CV} : (prL n get).length = n := by simp [prL]
theorem prL_get {n : Nat} {get : Nat → List CV} {i : Nat} (h : i < n) : (prL n get).getD i ([], []) = prOf (get i) := by simp [prL, List.getD, List.getElem?_map, List.getElem?_range h]
theorem PrAt.eq {n : Nat} {get : Nat → List CV} (h : PrAt n get) {i : Nat} (hi : i < n) : get i = prG (prL n get) i := by
  obtain ⟨a, b, e⟩ := h i hi
  unfold prG prGP prK prV
  rw [prL_get hi, e]
  rfl
theorem PrAt.same {n : Nat} {get : Nat → List CV} {ty : Nat} (h : PrAt n get) : hSame [.elems ty 2 n get] [.elems ty 2 n (prG (prL n get))] := ⟨⟨rfl, rfl, rfl, fun i hi => h.eq hi⟩, trivial⟩
theorem prAt_prG (n : Nat) (l : List PP) : PrAt n (prG l) := fun i _ => ⟨_, _, rfl⟩
theorem prL_prG (l : List PP) : prL l.length (prG l) = l := by
  apply List.ext_getElem?
  intro i
  by_cases hi : i < l.length
  · simp [prL, prG, prGP, prOf, prK, prV, List.getElem?_range hi, List.getD, hi]
  · rw [List.getElem?_eq_none (by simp [prL]; omega), List.getElem?_eq_none (by omega)]
def prPre (ty one n : Nat) (get : Nat → List CV) : Prop := ty = 63 ∧ one = 2 ∧ PrAt n get ∧ n ≤ 1000000
/-- The search, so far. -/
structure LBs (L : List PP) (k : List UInt8) (n : Nat) where
  i : Int
  j : Int
  h0 : 0 ≤ i
  h1 : i ≤ j
  h2 : j ≤ (n : Int)
  h3 : i ≤ (findI L k : Int)
  h4 : (findI L k : Int) ≤ j
def tbSt : Tbl where
  T :=
    (3, ⟨1, false, [.int .i64 (0)], .int .i64, 8⟩) ::
    (4, ⟨1, false, [.ff], .bool, 1⟩) ::
    (9, ⟨1, false, [.str []], .str, 16⟩) ::
    (166, ⟨1, false, [.int .u64 (0)], .int .u64, 8⟩) ::
    (63, ⟨2, true, [.str [], .str []], .struct [(0, (1, false)), (1, (1, false))], 32⟩) ::
    (31, ⟨1, false, [.val (.slice none 0 0)], .slice 63, 24⟩) ::
    (137, ⟨1, true, [.val (.slice none 0 0)], .struct [(0, (1, false))], 24⟩) ::
    (53, ⟨1, false, [.val (.pointer none)], .ptr 137, 8⟩) ::
    []
  F :=
    []

theorem tbSt_ok : tbSt.Ok Tryd.prog where
  T :=
    TblOk.cons (by kernel_rfl) <|
    TblOk.cons (by kernel_rfl) <|
    TblOk.cons (by kernel_rfl) <|
    TblOk.cons (by kernel_rfl) <|
    TblOk.cons (by kernel_rfl) <|
    TblOk.cons (by kernel_rfl) <|
    TblOk.cons (by kernel_rfl) <|
    TblOk.cons (by kernel_rfl) <|
    TblOk.nil _
  F :=
    FlatsOk.nil _

def sCmpS : List SV → Option (Prop × SV)
  | [.c (.str a), .c (.str b)] => some (True, .c (.int .i64 (Lib.compareBytes a b)))
  | _ => none











def sSzd : List SV → Option (Prop × SV)
  | [.c (.str k), .c (.str v)] => some (True, .c (.bool (szB k v)))
  | _ => none

set_option maxRecDepth 100000 in
set_option maxHeartbeats 2000000 in
theorem szdP : Pure Tryd.prog 76 sSzd := by
  have hC : CtsOk Tryd.prog [] := CtsOk.nil _
  refine Pure.of (E := tbSt) (C := []) [] 0 [] tbSt_ok hC (by kernel_rfl) Tryd.func76 rfl rfl rfl (by kernel_rfl) (by kernel_rfl) ?_ ?_
  · intro args pre r h
    unfold sSzd at h
    split at h
    · cases h; rfl
    · cases h
  · intro args pre r h hp
    unfold sSzd at h
    split at h
    rotate_left
    · cases h
    rename_i k v
    cases h
    generalize hg0 : (List.length : List UInt8 → Nat) = g0
    generalize ho0 : @szB = zo0
    generalize hA : Arith.std = A
    cbv
    subst hA hg0 ho0
    have e1 : ∀ k : List UInt8, (!decide (k = [])) = decide (1 ≤ k.length) := fun k => by cases k <;> simp
    unfold szB
    refine Ife.mk (fun h => ?_) (fun h => ?_)
    · have h : (!decide (k = [])) = true := h
      rw [e1] at h
      rw [h]
      refine Ife.mk (fun h2 => ?_) (fun h2 => ?_)
      · have h2 : (k.length : Int) ≤ 160 := of_decide_eq_true (p := (k.length : Int) ≤ 160) h2
        rw [decide_eq_true (show k.length ≤ 160 by omega)]
        refine Ife.mk (fun h3 => ?_) (fun h3 => ?_)
        · have h3 : (!decide (v = [])) = true := h3
          rw [e1] at h3
          rw [h3]
          show decide ((v.length : Int) ≤ 64) = (true && true && (true && decide (v.length ≤ 64)))
          rw [Bool.eq_iff_iff]
          simp
          omega
        · have h3 : (!decide (v = [])) = false := h3
          rw [e1] at h3
          rw [h3]
          rfl
      · have h2 : ¬ (k.length : Int) ≤ 160 := of_decide_eq_false (p := (k.length : Int) ≤ 160) h2
        rw [decide_eq_false (show ¬ k.length ≤ 160 by omega)]
        rfl
    · have h : (!decide (k = [])) = false := h
      rw [e1] at h
      rw [h]
      rfl

end Go.Proofs.YthomoliklfmnkaaDoor.Vx
