/- Proofs as data that hold data: their cells; sizes, steps, by the walker. -/
import Derived.Test.YtcgoaicifjndpaaVxFrame
import Derived.Test.YtcgoaicifjndpaaVxFlat
import Derived.Test.YtcgoaicifjndpaaVxLive
import Derived.Test.YtcgoaicifjndpaaRows
import Derived.Test.YtcgoaicifjndpaaShelf
import Derived.Lib.ItoaNum
section
namespace Go.Proofs.Ytcgoaicifjndpaa.Vx
open Go.RowKit
set_option linter.unusedVariables false
set_option linter.unusedSimpArgs false
/-- A leaf of a proof; the sums beside it by their 32 numbers. -/
structure PLeaf where
  k : List UInt8
  v : List UInt8
  i : Int
  p : List (List Int)
deriving DecidableEq
def PLeaf.none : PLeaf := ⟨[], [], 0, []⟩
structure PLeaf.ok (x : PLeaf) : Prop where
  ks : x.k.length ≤ 1000000000
  vs : x.v.length ≤ 1000000000
  ps : x.p.length ≤ 1000000000
  hs : ∀ h ∈ x.p, h.length = 32 ∧ ∀ b ∈ h, 0 ≤ b ∧ b < 256
def lK (l : List PLeaf) (i : Nat) : List UInt8 := (l.getD i .none).k
def lV (l : List PLeaf) (i : Nat) : List UInt8 := (l.getD i .none).v
def lI (l : List PLeaf) (i : Nat) : Int := (l.getD i .none).i
def lP (l : List PLeaf) (i : Nat) : List (List Int) := (l.getD i .none).p
def lN (l : List PLeaf) (i : Nat) : Nat := (lP l i).length
/-- The cells of a sum. -/
def h32 (f : Nat → Int) : List CV := [.int .u8 (f 0), .int .u8 (f 1), .int .u8 (f 2), .int .u8 (f 3), .int .u8 (f 4), .int .u8 (f 5), .int .u8 (f 6), .int .u8 (f 7), .int .u8 (f 8), .int .u8 (f 9), .int .u8 (f 10), .int .u8 (f 11), .int .u8 (f 12), .int .u8 (f 13), .int .u8 (f 14), .int .u8 (f 15), .int .u8 (f 16), .int .u8 (f 17), .int .u8 (f 18), .int .u8 (f 19), .int .u8 (f 20), .int .u8 (f 21), .int .u8 (f 22), .int .u8 (f 23), .int .u8 (f 24), .int .u8 (f 25), .int .u8 (f 26), .int .u8 (f 27), .int .u8 (f 28), .int .u8 (f 29), .int .u8 (f 30), .int .u8 (f 31)]
def pG (p : List (List Int)) (i : Nat) : List CV := h32 fun j => (p.getD i []).getD j 0
/-- The cells of a leaf. -/
def leafGP (zp0 : type_of% @lI) (zp1 : type_of% @lK) (zp2 : type_of% @lN) (zp3 : type_of% @lP) (zp4 : type_of% @lV) (zp5 : type_of% @pG) (fr : Bool) (l : List PLeaf) (i j : Nat) : Cell := match j with
  | 0 => .pl (.str (zp1 l i))
  | 1 => .pl (.str (zp4 l i))
  | 2 => .pl (.int .i64 (zp0 l i))
  | _ => .es fr 63 32 (zp2 l i) (zp5 (zp3 l i))
@[reducible] def leafG := leafGP lI lK lN lP lV pG
def cStr : Cell → List UInt8
  | .pl (.str s) => s
  | _ => []
def cInt : Cell → Int
  | .pl (.int .i64 n) => n
  | _ => 0
def vInt : CV → Int
  | .int .u8 n => n
  | _ => 0
def cHs : Cell → List (List Int)
  | .es _ _ _ n g => (List.range n).map fun i => (g i).map vInt
  | _ => []
def leafOf (c : Nat → Cell) : PLeaf := ⟨cStr (c 0), cStr (c 1), cInt (c 2), cHs (c 3)⟩
def leafL (n : Nat) (get : Nat → Nat → Cell) : List PLeaf := (List.range n).map fun i => leafOf (get i)
def LeavesAt (n : Nat) (get : Nat → Nat → Cell) : Prop := ∀ i j, i < n → j < 4 → get i j = leafG false (leafL n get) i j
theorem leafL_len {n : Nat} {get : Nat → Nat → Cell} : (leafL n get).length = n := by simp [leafL]
theorem pG_vInt {h : List Int} (hl : h.length = 32) : (h32 fun j => h.getD j 0).map vInt = h := by
  have e : (h32 fun j => h.getD j 0).map vInt = (List.range 32).map fun j => h.getD j 0 := rfl
  rw [e]
  apply List.ext_getElem?
  intro j
  rw [List.getElem?_map]
  by_cases hj : j < 32
  · rw [List.getElem?_range hj, List.getElem?_eq_getElem (by omega)]
    simp [List.getD, hl, hj]
  · rw [List.getElem?_eq_none (by simp; omega), List.getElem?_eq_none (by omega)]; rfl
theorem leafOf_eq {fr : Bool} {l : List PLeaf} {i : Nat} (hi : i < l.length) (hok : ∀ x ∈ l, x.ok) : leafOf (leafG fr l i) = l[i] := by
  have e : l.getD i .none = l[i] := by simp [List.getD, hi]
  have hx := hok l[i] (List.getElem_mem hi)
  have ep : cHs (leafG fr l i 3) = l[i].p := by
    show (List.range (lN l i)).map (fun j => (pG (lP l i) j).map vInt) = _
    unfold lN lP
    rw [e]
    apply List.ext_getElem?
    intro j
    rw [List.getElem?_map]
    by_cases hj : j < l[i].p.length
    · rw [List.getElem?_range hj, List.getElem?_eq_getElem hj, Option.map_some]
      congr 1
      unfold pG
      rw [show l[i].p.getD j [] = l[i].p[j] by simp [List.getD, hj]]
      exact pG_vInt (hx.hs _ (List.getElem_mem hj)).1
    · rw [List.getElem?_eq_none (by simp; omega), List.getElem?_eq_none (by omega)]; rfl
  unfold leafOf
  rw [ep]
  show PLeaf.mk (lK l i) (lV l i) (lI l i) _ = _
  unfold lK lV lI
  rw [e]
theorem leafL_eq {n : Nat} {get : Nat → Nat → Cell} {fr : Bool} {l : List PLeaf} (hn : l.length = n) (hok : ∀ x ∈ l, x.ok) (h : ∀ i j, i < n → j < 4 → get i j = leafG fr l i j) : leafL n get = l := by
  apply List.ext_getElem (by simp [leafL, hn])
  intro i h1 h2
  have : leafOf (get i) = leafOf (leafG fr l i) := by
    unfold leafOf
    rw [h i 0 (by omega) (by omega), h i 1 (by omega) (by omega), h i 2 (by omega) (by omega), h i 3 (by omega) (by omega)]
  simp only [leafL, List.getElem_map, List.getElem_range, this]
  exact leafOf_eq h2 hok
theorem leafG_old {fr : Bool} {l : List PLeaf} {i j : Nat} : (leafG fr l i j).old = leafG false l i j := by
  unfold leafG leafGP
  split <;> rfl
/-- Leaves as a call has them. -/
theorem leaves_old {fr : Bool} {l : List PLeaf} (hok : ∀ x ∈ l, x.ok) : leafL l.length (fun i j => (leafG fr l i j).old) = l := leafL_eq (fr := false) rfl hok fun i j _ _ => leafG_old
theorem leavesAt_old {fr : Bool} {l : List PLeaf} (hok : ∀ x ∈ l, x.ok) : LeavesAt l.length fun i j => (leafG fr l i j).old := fun i j hi hj => by rw [leaves_old hok]; exact leafG_old
def leavesPre (ty sz n : Nat) (get : Nat → Nat → Cell) : Prop := ty = 140 ∧ sz = 4 ∧ LeavesAt n get ∧ (∀ x ∈ leafL n get, x.ok) ∧ n ≤ 1000000
theorem leavesPre_old {fr : Bool} {l : List PLeaf} (hok : ∀ x ∈ l, x.ok) (hn : l.length ≤ 1000000) : leavesPre 140 4 l.length fun i j => (leafG fr l i j).old := ⟨rfl, rfl, leavesAt_old hok, by rw [leaves_old hok]; exact hok, hn⟩
theorem lN_le {L : List PLeaf} (hok : ∀ x ∈ L, x.ok) {i : Nat} : lN L i ≤ 1000000000 := by
  unfold lN lP
  by_cases hi : i < L.length
  · rw [show L.getD i .none = L[i] by simp [List.getD, hi]]
    exact (hok _ (List.getElem_mem hi)).ps
  · rw [List.getD_eq_getElem?_getD, List.getElem?_eq_none (by omega)]
    simp [PLeaf.none]
def sizedB (k v : List UInt8) : Bool := decide (1 ≤ k.length) && decide (k.length ≤ 160) && (decide (1 ≤ v.length) && decide (v.length ≤ 64))
def tbP : Tbl where
  T :=
    (3, ⟨1, false, [.int .i64 (0)], .int .i64, 8⟩) ::
    (4, ⟨1, false, [.ff], .bool, 1⟩) ::
    (9, ⟨1, false, [.str []], .str, 16⟩) ::
    (140, ⟨4, true, [.str [], .str [], .int .i64 (0), .val (.slice none 0 0)], .struct [(0, (1, false)), (1, (1, false)), (2, (1, false)), (3, (1, false))], 64⟩) ::
    (70, ⟨1, false, [.val (.slice none 0 0)], .slice 140, 24⟩) ::
    (72, ⟨2, true, [.int .i64 (0), .val (.slice none 0 0)], .struct [(0, (1, false)), (1, (1, false))], 32⟩) ::
    (63, ⟨32, true, [.int .u8 (0), .int .u8 (0), .int .u8 (0), .int .u8 (0), .int .u8 (0), .int .u8 (0), .int .u8 (0), .int .u8 (0), .int .u8 (0), .int .u8 (0), .int .u8 (0), .int .u8 (0), .int .u8 (0), .int .u8 (0), .int .u8 (0), .int .u8 (0), .int .u8 (0), .int .u8 (0), .int .u8 (0), .int .u8 (0), .int .u8 (0), .int .u8 (0), .int .u8 (0), .int .u8 (0), .int .u8 (0), .int .u8 (0), .int .u8 (0), .int .u8 (0), .int .u8 (0), .int .u8 (0), .int .u8 (0), .int .u8 (0)], .array 32 5, 32⟩) ::
    (138, ⟨1, false, [.val (.slice none 0 0)], .slice 63, 24⟩) ::
    (5, ⟨1, false, [.int .u8 (0)], .int .u8, 1⟩) ::
    []
  F :=
    []

theorem tbP_ok : tbP.Ok Try.prog where
  T :=
    TblOk.cons (by kernel_rfl) <|
    TblOk.cons (by kernel_rfl) <|
    TblOk.cons (by kernel_rfl) <|
    TblOk.cons (by kernel_rfl) <|
    TblOk.cons (by kernel_rfl) <|
    TblOk.cons (by kernel_rfl) <|
    TblOk.cons (by kernel_rfl) <|
    TblOk.cons (by kernel_rfl) <|
    TblOk.cons (by kernel_rfl) <|
    TblOk.nil _
  F :=
    FlatsOk.nil _

def sSized : List SV → Option (Prop × SV)
  | [.c (.str k), .c (.str v)] => some (True, .c (.bool (sizedB k v)))
  | _ => none

set_option maxRecDepth 100000 in
set_option maxHeartbeats 2000000 in
theorem sizedP : Pure Try.prog 143 sSized := by
  have hC : CtsOk Try.prog [] := CtsOk.nil _
  refine Pure.of (E := tbP) (C := []) [] 0 [] tbP_ok hC (by kernel_rfl) Try.func143 rfl rfl rfl (by kernel_rfl) (by kernel_rfl) ?_ ?_
  · intro args pre r h
    unfold sSized at h
    split at h
    · cases h; rfl
    · cases h
  · intro args pre r h hp
    unfold sSized at h
    split at h
    rotate_left
    · cases h
    rename_i k v
    cases h
    generalize hg0 : (List.length : List UInt8 → Nat) = g0
    generalize ho0 : @sizedB = zo0
    generalize hA : Arith.std = A
    cbv
    subst hA hg0 ho0
    have e1 : ∀ k : List UInt8, (!decide (k = [])) = decide (1 ≤ k.length) := fun k => by cases k <;> simp
    unfold sizedB
    refine Ife.mk (fun h => ?_) (fun h => ?_)
    · have h : (!decide (k = [])) = true := h
      rw [e1] at h
      rw [h]
      refine Ife.mk (fun h2 => ?_) (fun h2 => ?_)
      · have h2 : (k.length : Int) ≤ 160 := of_decide_eq_true (p := (k.length : Int) ≤ 160) h2
        rw [decide_eq_true (show k.length ≤ 160 by omega)]
        refine Ife.mk (fun h3 => ?_) (fun h3 => ?_)
        · have h3 : (!decide (v = [])) = true := h3
          rw [e1] at h3
          rw [h3]
          show decide ((v.length : Int) ≤ 64) = (true && true && (true && decide (v.length ≤ 64)))
          rw [Bool.eq_iff_iff]
          simp
          omega
        · have h3 : (!decide (v = [])) = false := h3
          rw [e1] at h3
          rw [h3]
          rfl
      · have h2 : ¬ (k.length : Int) ≤ 160 := of_decide_eq_false (p := (k.length : Int) ≤ 160) h2
        rw [decide_eq_false (show ¬ k.length ≤ 160 by omega)]
        rfl
    · have h : (!decide (k = [])) = false := h
      rw [e1] at h
      rw [h]
      rfl




end Go.Proofs.Ytcgoaicifjndpaa.Vx
end

section
/- Depths of trees, by the walker. -/
namespace Go.Proofs.Ytcgoaicifjndpaa.Vx
open Go.RowKit
set_option linter.unusedVariables false
set_option linter.unusedSimpArgs false
/-- The greatest power of two below a number. -/
def hf (n : Int) : Int := if n < 2 ∨ 1073741824 < n then 0 else 2 ^ (Lib.bitLen (n - 1).toNat - 1)
theorem hf_zero {n : Int} (h : n < 2 ∨ 1073741824 < n) : hf n = 0 := by unfold hf; rw [if_pos h]
theorem pow_lt30 {k : Nat} (h : (2 : Int) ^ k < 1073741824) : k < 30 := by
  refine Decidable.byContradiction fun hk => ?_
  have h1 : (2 : Nat) ^ 30 ≤ 2 ^ k := Nat.pow_le_pow_right (by decide) (by omega)
  have h2 : ((2 ^ k : Nat) : Int) = (2 : Int) ^ k := by simp
  have h3 : (2 : Nat) ^ 30 = 1073741824 := by decide
  omega
theorem hf_pow {n : Int} (h : 2 ≤ n) (h2 : n ≤ 1073741824) : ∃ k : Nat, k < 30 ∧ Lib.bitLen (n - 1).toNat = k + 1 ∧ hf n = 2 ^ k ∧ (2 : Int) ^ k < n ∧ n ≤ 2 * 2 ^ k := by
  obtain ⟨b1, b2, b3⟩ := Lib.bitLenAux_bounds 64 (n - 1).toNat (by omega) (by omega)
  have e : Lib.bitLen (n - 1).toNat = Lib.bitLenAux 64 (n - 1).toNat := rfl
  obtain ⟨k, hk⟩ : ∃ k, Lib.bitLenAux 64 (n - 1).toNat = k + 1 := ⟨Lib.bitLenAux 64 (n - 1).toNat - 1, by omega⟩
  rw [hk] at b2 b3
  have c1 : ((2 ^ k : Nat) : Int) = (2 : Int) ^ k := by simp
  have c2 : (2 : Nat) ^ (k + 1) = 2 * 2 ^ k := by rw [Nat.pow_succ]; omega
  rw [Nat.add_sub_cancel] at b2
  have h4 : (2 : Int) ^ k < n := by omega
  refine ⟨k, pow_lt30 (by omega), e.trans hk, ?_, h4, by omega⟩
  unfold hf
  rw [if_neg (by omega), e, hk, Nat.add_sub_cancel]
theorem hf_lt {n : Int} (h : 2 ≤ n) (h2 : n ≤ 1073741824) : 1 ≤ hf n ∧ hf n < n ∧ n ≤ 2 * hf n := by
  obtain ⟨k, hk, _, e, h3, h4⟩ := hf_pow h h2
  have : (0 : Int) < 2 ^ k := Int.pow_pos (by decide)
  omega
theorem pow_le_of_lt {j k : Nat} (h : (2 : Int) ^ j < 2 ^ (k + 1)) : j ≤ k := by
  refine Decidable.byContradiction fun hk => ?_
  have h1 : (2 : Nat) ^ (k + 1) ≤ 2 ^ j := Nat.pow_le_pow_right (by decide) (by omega)
  have h2 : ((2 ^ j : Nat) : Int) = (2 : Int) ^ j := by simp
  have h3 : ((2 ^ (k + 1) : Nat) : Int) = (2 : Int) ^ (k + 1) := by simp
  omega
theorem pow_mono {j k : Nat} (h : j ≤ k) : (2 : Int) ^ j ≤ 2 ^ k := by
  have h1 : (2 : Nat) ^ j ≤ 2 ^ k := Nat.pow_le_pow_right (by decide) h
  have h2 : ((2 ^ j : Nat) : Int) = (2 : Int) ^ j := by simp
  have h3 : ((2 ^ k : Nat) : Int) = (2 : Int) ^ k := by simp
  omega
def inN (n i : Int) : Bool := decide (n ≤ 1073741824) && (decide (0 ≤ i) && decide (i < n))
theorem inN_iff {n i : Int} : inN n i = true ↔ n ≤ 1073741824 ∧ 0 ≤ i ∧ i < n := by simp [inN]
/-- How many sums stand beside the way from a leaf up. -/
def deep (n i : Int) : Int :=
  if h : 1 < n ∧ n ≤ 1073741824 ∧ 0 ≤ i ∧ i < n then
    if i < hf n then 1 + deep (hf n) i else 1 + deep (n - hf n) (i - hf n)
  else 0
termination_by n.toNat
decreasing_by
  · have := hf_lt (n := n) (by omega) h.2.1; omega
  · have := hf_lt (n := n) (by omega) h.2.1; omega
theorem deep_out {n i : Int} (h : ¬ (1 < n ∧ n ≤ 1073741824 ∧ 0 ≤ i ∧ i < n)) : deep n i = 0 := by rw [deep, dif_neg h]
theorem deep_lo {n i : Int} (h : 1 < n ∧ n ≤ 1073741824 ∧ 0 ≤ i ∧ i < n) (hi : i < hf n) : deep n i = 1 + deep (hf n) i := by rw [deep, dif_pos h, if_pos hi]
theorem deep_hi {n i : Int} (h : 1 < n ∧ n ≤ 1073741824 ∧ 0 ≤ i ∧ i < n) (hi : ¬ i < hf n) : deep n i = 1 + deep (n - hf n) (i - hf n) := by rw [deep, dif_pos h, if_neg hi]
theorem deep_le (k : Nat) : ∀ n i : Int, n ≤ 2 ^ k → deep n i ≤ k := by
  induction k with
  | zero =>
    intro n i h
    rw [deep_out (by simp at h; omega)]
    omega
  | succ k ih =>
    intro n i h
    by_cases hc : 1 < n ∧ n ≤ 1073741824 ∧ 0 ≤ i ∧ i < n
    · obtain ⟨j, hj, _, e, h3, h4⟩ := hf_pow (n := n) (by omega) hc.2.1
      have hjk : j ≤ k := pow_le_of_lt (by omega)
      have hm := pow_mono hjk
      by_cases hi : i < hf n
      · rw [deep_lo hc hi]
        have := ih (hf n) i (by omega)
        omega
      · rw [deep_hi hc hi]
        have := ih (n - hf n) (i - hf n) (by omega)
        omega
    · rw [deep_out hc]
      omega
theorem deep_nonneg (n i : Int) : 0 ≤ deep n i := by
  have key : ∀ m : Nat, ∀ n i : Int, n.toNat ≤ m → 0 ≤ deep n i := fun m => by
    induction m with
    | zero => intro n i h; rw [deep_out (by omega)]; omega
    | succ m ih =>
      intro n i h
      by_cases hc : 1 < n ∧ n ≤ 1073741824 ∧ 0 ≤ i ∧ i < n
      · have hh := hf_lt (n := n) (by omega) hc.2.1
        by_cases hi : i < hf n
        · rw [deep_lo hc hi]
          have := ih (hf n) i (by omega)
          omega
        · rw [deep_hi hc hi]
          have := ih (n - hf n) (i - hf n) (by omega)
          omega
      · rw [deep_out hc]; omega
  exact key _ n i (Nat.le_refl _)
theorem deep_30 (n i : Int) : deep n i ≤ 30 := by
  by_cases h : n ≤ 1073741824
  · exact deep_le 30 n i (by rw [show (2 : Int) ^ 30 = 1073741824 by decide]; exact h)
  · rw [deep_out (by omega)]; omega
theorem shl_pow (k : Nat) (h : k < 30) : IntKind.wrap .i64 (1 * 2 ^ (min ((k : Int)).toNat 64)) = 2 ^ k := by
  have key : ∀ j : Fin 30, IntKind.wrap .i64 (1 * 2 ^ (min ((j.1 : Int)).toNat 64)) = 2 ^ j.1 := by decide +kernel
  exact key ⟨k, h⟩
def tbT : Tbl where
  T :=
    (3, ⟨1, false, [.int .i64 (0)], .int .i64, 8⟩) ::
    (4, ⟨1, false, [.ff], .bool, 1⟩) ::
    (9, ⟨1, false, [.str []], .str, 16⟩) ::
    (5, ⟨1, false, [.int .u8 (0)], .int .u8, 1⟩) ::
    (175, ⟨1, false, [.int .u64 (0)], .int .u64, 8⟩) ::
    (194, ⟨1, false, [.int .u64 (0)], .int .u64, 8⟩) ::
    (188, ⟨1, false, [.val (.slice none 0 0)], .slice 5, 24⟩) ::
    (50, ⟨1, false, [.int .i64 (0)], .int .i64, 8⟩) ::
    (63, ⟨32, true, [.int .u8 (0), .int .u8 (0), .int .u8 (0), .int .u8 (0), .int .u8 (0), .int .u8 (0), .int .u8 (0), .int .u8 (0), .int .u8 (0), .int .u8 (0), .int .u8 (0), .int .u8 (0), .int .u8 (0), .int .u8 (0), .int .u8 (0), .int .u8 (0), .int .u8 (0), .int .u8 (0), .int .u8 (0), .int .u8 (0), .int .u8 (0), .int .u8 (0), .int .u8 (0), .int .u8 (0), .int .u8 (0), .int .u8 (0), .int .u8 (0), .int .u8 (0), .int .u8 (0), .int .u8 (0), .int .u8 (0), .int .u8 (0)], .array 32 5, 32⟩) ::
    []
  F :=
    (63, [0, 0, 0, 0, 0, 0, 0, 0, 0, 0, 0, 0, 0, 0, 0, 0, 0, 0, 0, 0, 0, 0, 0, 0, 0, 0, 0, 0, 0, 0, 0, 0]) ::
    []
  sym := true

theorem tbT_ok : tbT.Ok Try.prog where
  T :=
    TblOk.cons (by kernel_rfl) <|
    TblOk.cons (by kernel_rfl) <|
    TblOk.cons (by kernel_rfl) <|
    TblOk.cons (by kernel_rfl) <|
    TblOk.cons (by kernel_rfl) <|
    TblOk.cons (by kernel_rfl) <|
    TblOk.cons (by kernel_rfl) <|
    TblOk.cons (by kernel_rfl) <|
    TblOk.cons (by kernel_rfl) <|
    TblOk.nil _
  F :=
    FlatsOk.cons (FlatOk.of (D := .array 32 5) 6 (by decide) (by kernel_rfl) (by kernel_rfl) rfl (by kernel_rfl)) <|
    FlatsOk.nil _

def bLenPre (x : Int) : Prop := 0 ≤ x ∧ x ≤ 18446744073709551615
def sBLen : List SV → Option (Prop × SV)
  | [.c (.int .u64 x)] => some (bLenPre x, .c (.int .i64 (Lib.bitLen x.toNat : Nat)))
  | _ => none

theorem bLenP : Pure Try.prog 138 sBLen := by
  refine ⟨by kernel_rfl, fun args pre r h hp us hs W => ?_⟩
  unfold sBLen at h
  split at h
  rotate_left
  · cases h
  rename_i x
  cases h
  obtain ⟨u0, _, rfl, a0, b0⟩ := hs
  obtain rfl : .int .u64 x = u0 := Option.some.inj a0
  cases b0
  refine Calls.mono (Calls.mono (Try.bits_Len x W hp.1 hp.2) (fun e w' he => (⟨he.1, he.2 ▸ Below.refl _ _⟩ : e = .returned (.int .i64 (Lib.bitLen x.toNat : Nat)) ∧ Below W.heap.size W w'))) fun e W' he => ?_
  obtain ⟨rfl, hb⟩ := he
  exact ⟨_, rfl, rfl, hb⟩

def sHalf : List SV → Option (Prop × SV)
  | [.c (.int .i64 n)] => some (True, .c (.int .i64 (hf n)))
  | _ => none

set_option maxRecDepth 100000 in
set_option maxHeartbeats 2000000 in
theorem halfP : Pure Try.prog 189 sHalf := by
  have hC : CtsOk Try.prog [(138, appPure sBLen)] := CtsOk.cons (Pure.ct bLenP) <| CtsOk.nil _
  refine Pure.of (E := tbT) (C := [(138, appPure sBLen)]) [] 0 [] tbT_ok hC (by kernel_rfl) Try.func189 rfl rfl rfl (by kernel_rfl) (by kernel_rfl) ?_ ?_
  · intro args pre r h
    unfold sHalf at h
    split at h
    · cases h; rfl
    · cases h
  · intro args pre r h hp
    unfold sHalf at h
    split at h
    rotate_left
    · cases h
    rename_i n
    cases h
    unfold sBLen
    generalize hg0 : hf = g0
    generalize hg1 : Lib.bitLen = g1
    generalize hg2 : bLenPre = g2
    generalize hA : Arith.std = A
    cbv
    subst hA hg0 hg1 hg2
    refine Ife.mk (fun h => (hf_zero (Or.inl (of_decide_eq_true (p := n < 2) h))).symm) (fun h => ?_)
    have h1 : ¬ n < 2 := of_decide_eq_false (p := n < 2) h
    refine Ife.mk (fun h => (hf_zero (Or.inr (of_decide_eq_true (p := 1073741824 < n) h))).symm) (fun h => ?_)
    have h2 : ¬ 1073741824 < n := of_decide_eq_false (p := 1073741824 < n) h
    obtain ⟨k, hk, e1, e2, h3, h4⟩ := hf_pow (n := n) (by omega) (by omega)
    have hw : IntKind.wrap .u64 (n - 1) = n - 1 := by rw [IntKind.wrap_u64]; omega
    refine Need.mk (by show fitStd .i64 (n - 1); unfold fitStd; omega) fun _ => ?_
    refine Need.mk (by show 0 ≤ IntKind.wrap .u64 (n - 1) ∧ IntKind.wrap .u64 (n - 1) ≤ 18446744073709551615; rw [hw]; omega) fun _ => ?_
    have e3 : ((Lib.bitLen (IntKind.wrap .u64 (n - 1)).toNat : Nat) : Int) - 1 = (k : Int) := by rw [hw, e1]; omega
    refine Need.mk (by show fitStd .i64 (((Lib.bitLen (IntKind.wrap .u64 (n - 1)).toNat : Nat) : Int) - 1); rw [e3]; unfold fitStd; omega) fun _ => Need.mk (by show 0 ≤ ((Lib.bitLen (IntKind.wrap .u64 (n - 1)).toNat : Nat) : Int) - 1; rw [e3]; omega) fun _ => ?_
    show IntKind.wrap .i64 (1 * 2 ^ (min (((Lib.bitLen (IntKind.wrap .u64 (n - 1)).toNat : Nat) : Int) - 1).toNat 64)) = hf n
    rw [e3, e2]
    exact shl_pow k hk



def sIn : List SV → Option (Prop × SV)
  | [.c (.int .i64 n), .c (.int .i64 i)] => some (True, .c (.bool (inN n i)))
  | _ => none

set_option maxRecDepth 100000 in
set_option maxHeartbeats 2000000 in
theorem inP : Pure Try.prog 188 sIn := by
  have hC : CtsOk Try.prog [] := CtsOk.nil _
  refine Pure.of (E := tbT) (C := []) [] 0 [] tbT_ok hC (by kernel_rfl) Try.func188 rfl rfl rfl (by kernel_rfl) (by kernel_rfl) ?_ ?_
  · intro args pre r h
    unfold sIn at h
    split at h
    · cases h; rfl
    · cases h
  · intro args pre r h hp
    unfold sIn at h
    split at h
    rotate_left
    · cases h
    rename_i n i
    cases h
    generalize hg0 : inN = g0
    generalize hA : Arith.std = A
    cbv
    subst hA hg0
    refine Ife.mk (fun h => ?_) (fun h => ?_)
    · have h : n ≤ 1073741824 := of_decide_eq_true (p := n ≤ 1073741824) h
      refine Ife.mk (fun h2 => ?_) (fun h2 => ?_)
      · have h2 : 0 ≤ i := of_decide_eq_true (p := 0 ≤ i) h2
        show decide (i < n) = inN n i
        unfold inN
        simp [h, h2]
      · have h2 : ¬ 0 ≤ i := of_decide_eq_false (p := 0 ≤ i) h2
        unfold inN
        simp [h2]
    · have h : ¬ n ≤ 1073741824 := of_decide_eq_false (p := n ≤ 1073741824) h
      unfold inN
      simp [h]

structure LDp (n0 i0 : Int) where
  n : Int
  i : Int
  d : Int
  h0 : 0 ≤ d
  h1 : deep n0 i0 = d + deep n i
def sDeep : List SV → Option (Prop × SV)
  | [.c (.int .i64 n), .c (.int .i64 i)] => some (True, .c (.int .i64 (deep n i)))
  | _ => none

set_option maxRecDepth 100000 in
set_option maxHeartbeats 2000000 in
theorem deepP : Pure Try.prog 154 sDeep := by
  have hC : CtsOk Try.prog [(188, appPure sIn), (189, appPure sHalf)] := CtsOk.cons (Pure.ct inP) <| CtsOk.cons (Pure.ct halfP) <| CtsOk.nil _
  refine Pure.of (E := tbT) (C := [(188, appPure sIn), (189, appPure sHalf)]) [] 0 [] tbT_ok hC (by kernel_rfl) Try.func154 rfl rfl rfl (by kernel_rfl) (by kernel_rfl) ?_ ?_
  · intro args pre r h
    unfold sDeep at h
    split at h
    · cases h; rfl
    · cases h
  · intro args pre r h hp
    unfold sDeep at h
    split at h
    rotate_left
    · cases h
    rename_i n i
    cases h
    have hle : deep n i ≤ 30 := deep_30 n i
    unfold sIn sHalf
    generalize hg0 : hf = g0
    generalize hg1 : inN = g1
    generalize hg2 : deep = g2
    generalize hL : lft Try.prog _ = L
    generalize hA : Arith.std = A
    cbv
    subst hA hg0 hg1 hg2 hL
    show Runs Try.prog 0 (.loop _) _ _
    refine loop_ruleR (N := env (lft Try.prog 0) 0 .std tbT [(188, appPure sIn), (189, appPure sHalf)] []) rfl tbT_ok hC (fun c st K _ h => h) (by kernel_rfl) [] (X := LDp n i)
      (S := fun x => ⟨[.c (.int .i64 x.n), .c (.int .i64 x.i), .any, .any, .any, .c (.int .i64 x.d)] ++ List.replicate 23 .any, []⟩) (μ := fun x => x.n.toNat) ⟨n, i, 0, by omega, by omega⟩ (by kernel_rfl) [] ?_ ?_
    · refine ⟨rfl, by decide, ?_, ?_⟩ <;> repeat' (first | exact trivial | exact rfl | apply And.intro)
    rintro ⟨m, j, d, hd0, hd⟩
    unfold sIn sHalf
    generalize hg0 : hf = g0
    generalize hg1 : inN = g1
    generalize hg2 : deep = g2
    generalize hL : lft Try.prog _ = L
    generalize hA : Arith.std = A
    cbv
    subst hA hg0 hg1 hg2 hL
    replace hd : deep n i = d + deep m j := hd
    have hdn := deep_nonneg m j
    refine Need.mk trivial fun _ => ?_
    refine Ife.mk (fun hb => ?_) (fun hb => ?_)
    · obtain ⟨b1, b2, b3⟩ := inN_iff.1 (show inN m j = true from hb)
      refine Ife.mk (fun h1 => ?_) (fun h1 => ?_)
      · replace h1 : 1 < m := of_decide_eq_true (p := (1 : Int) < m) h1
        have hh := hf_lt (n := m) (by omega) b1
        have hin : 1 < m ∧ m ≤ 1073741824 ∧ 0 ≤ j ∧ j < m := ⟨h1, b1, b2, b3⟩
        refine Need.mk (by show fitStd .i64 (d + 1); unfold fitStd; omega) fun _ => Need.mk trivial fun _ => ?_
        refine Ife.mk (fun h2 => ?_) (fun h2 => ?_)
        · replace h2 : j < hf m := of_decide_eq_true (p := j < hf m) h2
          refine ⟨⟨hf m, j, d + 1, by omega, by rw [hd, deep_lo hin h2]; omega⟩, [], (by show (hf m).toNat < m.toNat; omega), ?_⟩
          refine ⟨rfl, by decide, ?_, ?_⟩ <;> repeat' (first | exact trivial | exact rfl | apply And.intro)
        · replace h2 : ¬ j < hf m := of_decide_eq_false (p := j < hf m) h2
          refine Need.mk (by show fitStd .i64 (m - hf m); unfold fitStd; omega) fun _ => Need.mk (by show fitStd .i64 (j - hf m); unfold fitStd; omega) fun _ => ?_
          refine ⟨⟨m - hf m, j - hf m, d + 1, by omega, by rw [hd, deep_hi hin h2]; omega⟩, [], (by show (m - hf m).toNat < m.toNat; omega), ?_⟩
          refine ⟨rfl, by decide, ?_, ?_⟩ <;> repeat' (first | exact trivial | exact rfl | apply And.intro)
      · replace h1 : ¬ 1 < m := of_decide_eq_false (p := (1 : Int) < m) h1
        show d = deep n i
        rw [hd, deep_out (n := m) (by omega)]
        omega
    · have hb : ¬ (m ≤ 1073741824 ∧ 0 ≤ j ∧ j < m) := fun h => by
        rw [inN_iff.2 h] at hb
        cases hb
      show d = deep n i
      rw [hd, deep_out (n := m) (by omega)]
      omega


end Go.Proofs.Ytcgoaicifjndpaa.Vx
end
