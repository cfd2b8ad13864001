/- Proofs as data that hold data: their cells; sizes, steps, by the walker. -/
import Derived.Test.YthomoliklfmnkaaDoorVxFrame
import Derived.Test.YthomoliklfmnkaaDoorVxFlat
import Derived.Test.YthomoliklfmnkaaDoorVxLive
import Derived.Test.YthomoliklfmnkaaDoorRows
import Derived.Test.YthomoliklfmnkaaDoorM7
section
namespace Go.Proofs.YthomoliklfmnkaaDoor.Vx
open Go.RowKit
set_option linter.unusedVariables false
set_option linter.unusedSimpArgs false
/-- A leaf of a proof; the sums beside it by their 32 numbers. -/
structure PLeaf where
  k : List UInt8
  v : List UInt8
  i : Int
  p : List (List Int)
deriving DecidableEq
def PLeaf.none : PLeaf := ⟨[], [], 0, []⟩
structure PLeaf.ok (x : PLeaf) : Prop where
  ks : x.k.length ≤ 1000000000
  vs : x.v.length ≤ 1000000000
  ps : x.p.length ≤ 1000000000
  hs : ∀ h ∈ x.p, h.length = 32 ∧ ∀ b ∈ h, 0 ≤ b ∧ b < 256
def lK (l : List PLeaf) (i : Nat) : List UInt8 := (l.getD i .none).k
def lV (l : List PLeaf) (i : Nat) : List UInt8 := (l.getD i .none).v
def lI (l : List PLeaf) (i : Nat) : Int := (l.getD i .none).i
def lP (l : List PLeaf) (i : Nat) : List (List Int) := (l.getD i .none).p
def lN (l : List PLeaf) (i : Nat) : Nat := (lP l i).length
/-- The cells of a sum. -/
def h32 (f : Nat → Int) : List CV := [.int .u8 (f 0), .int .u8 (f 1), .int .u8 (f 2), .int .u8 (f 3), .int .u8 (f 4), .int .u8 (f 5), .int .u8 (f 6), .int .u8 (f 7), .int .u8 (f 8), .int .u8 (f 9), .int .u8 (f 10), .int .u8 (f 11), .int .u8 (f 12), .int .u8 (f 13), .int .u8 (f 14), .int .u8 (f 15), .int .u8 (f 16), .int .u8 (f 17), .int .u8 (f 18), .int .u8 (f 19), .int .u8 (f 20), .int .u8 (f 21), .int .u8 (f 22), .int .u8 (f 23), .int .u8 (f 24), .int .u8 (f 25), .int .u8 (f 26), .int .u8 (f 27), .int .u8 (f 28), .int .u8 (f 29), .int .u8 (f 30), .int .u8 (f 31)]
def pG (p : List (List Int)) (i : Nat) : List CV := h32 fun j => (p.getD i []).getD j 0
/-- The cells of a leaf. -/
def leafGP (zp0 : type_of% @lI) (zp1 : type_of% @lK) (zp2 : type_of% @lN) (zp3 : type_of% @lP) (zp4 : type_of% @lV) (zp5 : type_of% @pG) (fr : Bool) (l : List PLeaf) (i j : Nat) : Cell := match j with
  | 0 => .pl (.str (zp1 l i))
  | 1 => .pl (.str (zp4 l i))
  | 2 => .pl (.int .i64 (zp0 l i))
  | _ => .es fr 24 32 (zp2 l i) (zp5 (zp3 l i))
@[reducible] def leafG := leafGP lI lK lN lP lV pG
def cStr : Cell → List UInt8
  | .pl (.str s) => s
  | _ => []
def cInt : Cell → Int
  | .pl (.int .i64 n) => n
  | _ => 0
def vInt : CV → Int
  | .int .u8 n => n
  | _ => 0
def cHs : Cell → List (List Int)
  | .es _ _ _ n g => (List.range n).map fun i => (g i).map vInt
  | _ => []
def leafOf (c : Nat → Cell) : PLeaf := ⟨cStr (c 0), cStr (c 1), cInt (c 2), cHs (c 3)⟩
def leafL (n : Nat) (get : Nat → Nat → Cell) : List PLeaf := (List.range n).map fun i => leafOf (get i)
def LeavesAt (n : Nat) (get : Nat → Nat → Cell) : Prop := ∀ i j, i < n → j < 4 → get i j = leafG false (leafL n get) i j
theorem leafL_len {n : Nat} {get : Nat → Nat → Cell} : (leafL n get).length = n := by simp [leafL]
theorem pG_vInt {h : List Int} (hl : h.length = 32) : (h32 fun j => h.getD j 0).map vInt = h := by
  have e : (h32 fun j => h.getD j 0).map vInt = (List.range 32).map fun j => h.getD j 0 := rfl
  rw [e]
  apply List.ext_getElem?
  intro j
  rw [List.getElem?_map]
  by_cases hj : j < 32
  · rw [List.getElem?_range hj, List.getElem?_eq_getElem (by omega)]
    simp [List.getD, hl, hj]
  · rw [List.getElem?_eq_none (by simp; omega), List.getElem?_eq_none (by omega)]; rfl
theorem leafOf_eq {fr : Bool} {l : List PLeaf} {i : Nat} (hi : i < l.length) (hok : ∀ x ∈ l, x.ok) : leafOf (leafG fr l i) = l[i] := by
  have e : l.getD i .none = l[i] := by simp [List.getD, hi]
  have hx := hok l[i] (List.getElem_mem hi)
  have ep : cHs (leafG fr l i 3) = l[i].p := by
    show (List.range (lN l i)).map (fun j => (pG (lP l i) j).map vInt) = _
    unfold lN lP
    rw [e]
    apply List.ext_getElem?
    intro j
    rw [List.getElem?_map]
    by_cases hj : j < l[i].p.length
    · rw [List.getElem?_range hj, List.getElem?_eq_getElem hj, Option.map_some]
      congr 1
      unfold pG
      rw [show l[i].p.getD j [] = l[i].p[j] by simp [List.getD, hj]]
      exact pG_vInt (hx.hs _ (List.getElem_mem hj)).1
    · rw [List.getElem?_eq_none (by simp; omega), List.getElem?_eq_none (by omega)]; rfl
  unfold leafOf
  rw [ep]
  show PLeaf.mk (lK l i) (lV l i) (lI l i) _ = _
  unfold lK lV lI
  rw [e]
theorem leafL_eq {n : Nat} {get : Nat → Nat → Cell} {fr : Bool} {l : List PLeaf} (hn : l.length = n) (hok : ∀ x ∈ l, x.ok) (h : ∀ i j, i < n → j < 4 → get i j = leafG fr l i j) : leafL n get = l := by
  apply List.ext_getElem (by simp [leafL, hn])
  intro i h1 h2
  have : leafOf (get i) = leafOf (leafG fr l i) := by
    unfold leafOf
    rw [h i 0 (by omega) (by omega), h i 1 (by omega) (by omega), h i 2 (by omega) (by omega), h i 3 (by omega) (by omega)]
  simp only [leafL, List.getElem_map, List.getElem_range, this]
  exact leafOf_eq h2 hok
theorem leafG_old {fr : Bool} {l : List PLeaf} {i j : Nat} : (leafG fr l i j).old = leafG false l i j := by
  unfold leafG leafGP
  split <;> rfl
/-- Leaves as a call has them. -/
theorem leaves_old {fr : Bool} {l : List PLeaf} (hok : ∀ x ∈ l, x.ok) : leafL l.length (fun i j => (leafG fr l i j).old) = l := leafL_eq (fr := false) rfl hok fun i j _ _ => leafG_old
theorem leavesAt_old {fr : Bool} {l : List PLeaf} (hok : ∀ x ∈ l, x.ok) : LeavesAt l.length fun i j => (leafG fr l i j).old := fun i j hi hj => by rw [leaves_old hok]; exact leafG_old
def leavesPre (ty sz n : Nat) (get : Nat → Nat → Cell) : Prop := ty = 115 ∧ sz = 4 ∧ LeavesAt n get ∧ (∀ x ∈ leafL n get, x.ok) ∧ n ≤ 1000000
theorem leavesPre_old {fr : Bool} {l : List PLeaf} (hok : ∀ x ∈ l, x.ok) (hn : l.length ≤ 1000000) : leavesPre 115 4 l.length fun i j => (leafG fr l i j).old := ⟨rfl, rfl, leavesAt_old hok, by rw [leaves_old hok]; exact hok, hn⟩
def sizedB (k v : List UInt8) : Bool := decide (1 ≤ k.length) && decide (k.length ≤ 160) && (decide (1 ≤ v.length) && decide (v.length ≤ 64))
def tbP : Tbl where
  T :=
    (3, ⟨1, false, [.int .i64 (0)], .int .i64, 8⟩) ::
    (4, ⟨1, false, [.ff], .bool, 1⟩) ::
    (9, ⟨1, false, [.str []], .str, 16⟩) ::
    (115, ⟨4, true, [.str [], .str [], .int .i64 (0), .val (.slice none 0 0)], .struct [(0, (1, false)), (1, (1, false)), (2, (1, false)), (3, (1, false))], 64⟩) ::
    (25, ⟨1, false, [.val (.slice none 0 0)], .slice 115, 24⟩) ::
    (27, ⟨2, true, [.int .i64 (0), .val (.slice none 0 0)], .struct [(0, (1, false)), (1, (1, false))], 32⟩) ::
    (24, ⟨32, true, [.int .u8 (0), .int .u8 (0), .int .u8 (0), .int .u8 (0), .int .u8 (0), .int .u8 (0), .int .u8 (0), .int .u8 (0), .int .u8 (0), .int .u8 (0), .int .u8 (0), .int .u8 (0), .int .u8 (0), .int .u8 (0), .int .u8 (0), .int .u8 (0), .int .u8 (0), .int .u8 (0), .int .u8 (0), .int .u8 (0), .int .u8 (0), .int .u8 (0), .int .u8 (0), .int .u8 (0), .int .u8 (0), .int .u8 (0), .int .u8 (0), .int .u8 (0), .int .u8 (0), .int .u8 (0), .int .u8 (0), .int .u8 (0)], .array 32 5, 32⟩) ::
    (113, ⟨1, false, [.val (.slice none 0 0)], .slice 24, 24⟩) ::
    (5, ⟨1, false, [.int .u8 (0)], .int .u8, 1⟩) ::
    []
  F :=
    []

theorem tbP_ok : tbP.Ok Tryd.prog where
  T :=
    TblOk.cons (by kernel_rfl) <|
    TblOk.cons (by kernel_rfl) <|
    TblOk.cons (by kernel_rfl) <|
    TblOk.cons (by kernel_rfl) <|
    TblOk.cons (by kernel_rfl) <|
    TblOk.cons (by kernel_rfl) <|
    TblOk.cons (by kernel_rfl) <|
    TblOk.cons (by kernel_rfl) <|
    TblOk.cons (by kernel_rfl) <|
    TblOk.nil _
  F :=
    FlatsOk.nil _

def sSized : List SV → Option (Prop × SV)
  | [.c (.str k), .c (.str v)] => some (True, .c (.bool (sizedB k v)))
  | _ => none

set_option maxRecDepth 100000 in
set_option maxHeartbeats 2000000 in
theorem sizedP : Pure Tryd.prog 76 sSized := by
  have hC : CtsOk Tryd.prog [] := CtsOk.nil _
  refine Pure.of (E := tbP) (C := []) [] 0 [] tbP_ok hC (by kernel_rfl) Tryd.func76 rfl rfl rfl (by kernel_rfl) (by kernel_rfl) ?_ ?_
  · intro args pre r h
    unfold sSized at h
    split at h
    · cases h; rfl
    · cases h
  · intro args pre r h hp
    unfold sSized at h
    split at h
    rotate_left
    · cases h
    rename_i k v
    cases h
    generalize hg0 : (List.length : List UInt8 → Nat) = g0
    generalize ho0 : @sizedB = zo0
    generalize hA : Arith.std = A
    cbv
    subst hA hg0 ho0
    have e1 : ∀ k : List UInt8, (!decide (k = [])) = decide (1 ≤ k.length) := fun k => by cases k <;> simp
    unfold sizedB
    refine Ife.mk (fun h => ?_) (fun h => ?_)
    · have h : (!decide (k = [])) = true := h
      rw [e1] at h
      rw [h]
      refine Ife.mk (fun h2 => ?_) (fun h2 => ?_)
      · have h2 : (k.length : Int) ≤ 160 := of_decide_eq_true (p := (k.length : Int) ≤ 160) h2
        rw [decide_eq_true (show k.length ≤ 160 by omega)]
        refine Ife.mk (fun h3 => ?_) (fun h3 => ?_)
        · have h3 : (!decide (v = [])) = true := h3
          rw [e1] at h3
          rw [h3]
          show decide ((v.length : Int) ≤ 64) = (true && true && (true && decide (v.length ≤ 64)))
          rw [Bool.eq_iff_iff]
          simp
          omega
        · have h3 : (!decide (v = [])) = false := h3
          rw [e1] at h3
          rw [h3]
          rfl
      · have h2 : ¬ (k.length : Int) ≤ 160 := of_decide_eq_false (p := (k.length : Int) ≤ 160) h2
        rw [decide_eq_false (show ¬ k.length ≤ 160 by omega)]
        rfl
    · have h : (!decide (k = [])) = false := h
      rw [e1] at h
      rw [h]
      rfl




end Go.Proofs.YthomoliklfmnkaaDoor.Vx
end

section
/- The table of types that the walker is told. -/
namespace Go.Proofs.YthomoliklfmnkaaDoor.Vx
open Go.RowKit



end Go.Proofs.YthomoliklfmnkaaDoor.Vx
end
