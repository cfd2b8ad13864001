/- Trees: halves and depths, by the walker. -/
import Derived.Test.YthomoliklfmnkaaDoorM20
import Derived.Lib.ItoaNum
section
namespace Go.Proofs.YthomoliklfmnkaaDoor.Vx
open Go.RowKit Sha
set_option linter.unusedVariables false
set_option linter.unusedSimpArgs false
def lebMay (n : Int) : Bool := decide (0 ≤ n) && decide (n ≤ 72057594037927935)
theorem eight_byte (n i : Int) (h0 : 0 ≤ n) (h1 : n ≤ 72057594037927935) (hi0 : 0 ≤ i) (hi1 : i < 8) : IntKind.wrap .u8 ((IntKind.wrap .u64 n).fdiv (2 ^ (min (8 * i).toNat 64))) = d8 n (7 - i.toNat) := by
  have hw : IntKind.wrap .u64 n = n := by rw [IntKind.wrap_u64]; omega
  have hc : i = 0 ∨ i = 1 ∨ i = 2 ∨ i = 3 ∨ i = 4 ∨ i = 5 ∨ i = 6 ∨ i = 7 := by omega
  have he : (2 : Int) ^ (min (8 * i).toNat 64) = 256 ^ (7 - (7 - i.toNat)) := by
    rcases hc with rfl | rfl | rfl | rfl | rfl | rfl | rfl | rfl <;> decide
  rw [hw, wrap_u8, he, Int.fdiv_eq_ediv_of_nonneg _ (Int.pow_nonneg (by decide))]
  rfl
/-- The greatest power of two below a number. -/
def hf (n : Int) : Int := if n < 2 ∨ 1073741824 < n then 0 else 2 ^ (Lib.bitLen (n - 1).toNat - 1)
theorem hf_zero {n : Int} (h : n < 2 ∨ 1073741824 < n) : hf n = 0 := by unfold hf; rw [if_pos h]
theorem pow_lt30 {k : Nat} (h : (2 : Int) ^ k < 1073741824) : k < 30 := by
  refine Decidable.byContradiction fun hk => ?_
  have h1 : (2 : Nat) ^ 30 ≤ 2 ^ k := Nat.pow_le_pow_right (by decide) (by omega)
  have h2 : ((2 ^ k : Nat) : Int) = (2 : Int) ^ k := by simp
  have h3 : (2 : Nat) ^ 30 = 1073741824 := by decide
  omega
theorem hf_pow {n : Int} (h : 2 ≤ n) (h2 : n ≤ 1073741824) : ∃ k : Nat, k < 30 ∧ Lib.bitLen (n - 1).toNat = k + 1 ∧ hf n = 2 ^ k ∧ (2 : Int) ^ k < n ∧ n ≤ 2 * 2 ^ k := by
  obtain ⟨b1, b2, b3⟩ := Lib.bitLenAux_bounds 64 (n - 1).toNat (by omega) (by omega)
  have e : Lib.bitLen (n - 1).toNat = Lib.bitLenAux 64 (n - 1).toNat := rfl
  obtain ⟨k, hk⟩ : ∃ k, Lib.bitLenAux 64 (n - 1).toNat = k + 1 := ⟨Lib.bitLenAux 64 (n - 1).toNat - 1, by omega⟩
  rw [hk] at b2 b3
  have c1 : ((2 ^ k : Nat) : Int) = (2 : Int) ^ k := by simp
  have c2 : (2 : Nat) ^ (k + 1) = 2 * 2 ^ k := by rw [Nat.pow_succ]; omega
  rw [Nat.add_sub_cancel] at b2
  have h4 : (2 : Int) ^ k < n := by omega
  refine ⟨k, pow_lt30 (by omega), e.trans hk, ?_, h4, by omega⟩
  unfold hf
  rw [if_neg (by omega), e, hk, Nat.add_sub_cancel]
theorem hf_lt {n : Int} (h : 2 ≤ n) (h2 : n ≤ 1073741824) : 1 ≤ hf n ∧ hf n < n ∧ n ≤ 2 * hf n := by
  obtain ⟨k, hk, _, e, h3, h4⟩ := hf_pow h h2
  have : (0 : Int) < 2 ^ k := Int.pow_pos (by decide)
  omega
theorem pow_le_of_lt {j k : Nat} (h : (2 : Int) ^ j < 2 ^ (k + 1)) : j ≤ k := by
  refine Decidable.byContradiction fun hk => ?_
  have h1 : (2 : Nat) ^ (k + 1) ≤ 2 ^ j := Nat.pow_le_pow_right (by decide) (by omega)
  have h2 : ((2 ^ j : Nat) : Int) = (2 : Int) ^ j := by simp
  have h3 : ((2 ^ (k + 1) : Nat) : Int) = (2 : Int) ^ (k + 1) := by simp
  omega
theorem pow_mono {j k : Nat} (h : j ≤ k) : (2 : Int) ^ j ≤ 2 ^ k := by
  have h1 : (2 : Nat) ^ j ≤ 2 ^ k := Nat.pow_le_pow_right (by decide) h
  have h2 : ((2 ^ j : Nat) : Int) = (2 : Int) ^ j := by simp
  have h3 : ((2 ^ k : Nat) : Int) = (2 : Int) ^ k := by simp
  omega
theorem hf_uniq {n : Int} {k : Nat} (h : 2 ≤ n) (h2 : n ≤ 1073741824) (h3 : (2 : Int) ^ k < n) (h4 : n ≤ 2 * 2 ^ k) : hf n = 2 ^ k := by
  obtain ⟨j, hj, _, e, h5, h6⟩ := hf_pow h h2
  have s1 : (2 : Int) ^ (j + 1) = 2 * 2 ^ j := by rw [Int.pow_succ]; omega
  have s2 : (2 : Int) ^ (k + 1) = 2 * 2 ^ k := by rw [Int.pow_succ]; omega
  have c1 : j ≤ k := pow_le_of_lt (by omega)
  have c2 : k ≤ j := pow_le_of_lt (by omega)
  rw [e, show j = k by omega]
def inN (n i : Int) : Bool := decide (n ≤ 1073741824) && (decide (0 ≤ i) && decide (i < n))
theorem inN_iff {n i : Int} : inN n i = true ↔ n ≤ 1073741824 ∧ 0 ≤ i ∧ i < n := by simp [inN]
/-- How many sums stand beside the way from a leaf up. -/
def deep (n i : Int) : Int :=
  if h : 1 < n ∧ n ≤ 1073741824 ∧ 0 ≤ i ∧ i < n then
    if i < hf n then 1 + deep (hf n) i else 1 + deep (n - hf n) (i - hf n)
  else 0
termination_by n.toNat
decreasing_by
  · have := hf_lt (n := n) (by omega) h.2.1; omega
  · have := hf_lt (n := n) (by omega) h.2.1; omega
theorem deep_out {n i : Int} (h : ¬ (1 < n ∧ n ≤ 1073741824 ∧ 0 ≤ i ∧ i < n)) : deep n i = 0 := by rw [deep, dif_neg h]
theorem deep_lo {n i : Int} (h : 1 < n ∧ n ≤ 1073741824 ∧ 0 ≤ i ∧ i < n) (hi : i < hf n) : deep n i = 1 + deep (hf n) i := by rw [deep, dif_pos h, if_pos hi]
theorem deep_hi {n i : Int} (h : 1 < n ∧ n ≤ 1073741824 ∧ 0 ≤ i ∧ i < n) (hi : ¬ i < hf n) : deep n i = 1 + deep (n - hf n) (i - hf n) := by rw [deep, dif_pos h, if_neg hi]
theorem deep_le (k : Nat) : ∀ n i : Int, n ≤ 2 ^ k → deep n i ≤ k := by
  induction k with
  | zero =>
    intro n i h
    rw [deep_out (by simp at h; omega)]
    omega
  | succ k ih =>
    intro n i h
    by_cases hc : 1 < n ∧ n ≤ 1073741824 ∧ 0 ≤ i ∧ i < n
    · obtain ⟨j, hj, _, e, h3, h4⟩ := hf_pow (n := n) (by omega) hc.2.1
      have hjk : j ≤ k := pow_le_of_lt (by omega)
      have hm := pow_mono hjk
      by_cases hi : i < hf n
      · rw [deep_lo hc hi]
        have := ih (hf n) i (by omega)
        omega
      · rw [deep_hi hc hi]
        have := ih (n - hf n) (i - hf n) (by omega)
        omega
    · rw [deep_out hc]
      omega
theorem deep_nonneg (n i : Int) : 0 ≤ deep n i := by
  have key : ∀ m : Nat, ∀ n i : Int, n.toNat ≤ m → 0 ≤ deep n i := fun m => by
    induction m with
    | zero => intro n i h; rw [deep_out (by omega)]; omega
    | succ m ih =>
      intro n i h
      by_cases hc : 1 < n ∧ n ≤ 1073741824 ∧ 0 ≤ i ∧ i < n
      · have hh := hf_lt (n := n) (by omega) hc.2.1
        by_cases hi : i < hf n
        · rw [deep_lo hc hi]
          have := ih (hf n) i (by omega)
          omega
        · rw [deep_hi hc hi]
          have := ih (n - hf n) (i - hf n) (by omega)
          omega
      · rw [deep_out hc]; omega
  exact key _ n i (Nat.le_refl _)
theorem deep_30 (n i : Int) : deep n i ≤ 30 := by
  by_cases h : n ≤ 1073741824
  · exact deep_le 30 n i (by rw [show (2 : Int) ^ 30 = 1073741824 by decide]; exact h)
  · rw [deep_out (by omega)]; omega
theorem hf_pow2 (k : Nat) (h : k < 30) : hf (2 ^ (k + 1)) = 2 ^ k := by
  have hp : (0 : Int) < 2 ^ k := Int.pow_pos (by decide)
  have hs : (2 : Int) ^ (k + 1) = 2 * 2 ^ k := by rw [Int.pow_succ]; omega
  have hm := pow_mono (show k + 1 ≤ 30 by omega)
  rw [show (2 : Int) ^ 30 = 1073741824 by decide] at hm
  obtain ⟨j, hj, _, e, h3, h4⟩ := hf_pow (n := 2 ^ (k + 1)) (by omega) hm
  have h5 : j ≤ k := pow_le_of_lt h3
  have h6 : k ≤ j := by
    have : (2 : Int) ^ k < 2 ^ (j + 1) ∨ (2 : Int) ^ k = 2 ^ j := by
      rw [Int.pow_succ]
      have := pow_mono h5
      have hp2 : (0 : Int) < 2 ^ j := Int.pow_pos (by decide)
      omega
    rcases this with h | h
    · exact pow_le_of_lt h
    · refine pow_le_of_lt ?_
      rw [h, Int.pow_succ]
      have hp2 : (0 : Int) < 2 ^ j := Int.pow_pos (by decide)
      omega
  rw [e, show j = k by omega]
theorem shl_pow (k : Nat) (h : k < 30) : IntKind.wrap .i64 (1 * 2 ^ (min ((k : Int)).toNat 64)) = 2 ^ k := by
  have key : ∀ j : Fin 30, IntKind.wrap .i64 (1 * 2 ^ (min ((j.1 : Int)).toNat 64)) = 2 ^ j.1 := by decide +kernel
  exact key ⟨k, h⟩
def tbT : Tbl where
  T :=
    (3, ⟨1, false, [.int .i64 (0)], .int .i64, 8⟩) ::
    (4, ⟨1, false, [.ff], .bool, 1⟩) ::
    (9, ⟨1, false, [.str []], .str, 16⟩) ::
    (5, ⟨1, false, [.int .u8 (0)], .int .u8, 1⟩) ::
    (166, ⟨1, false, [.int .u64 (0)], .int .u64, 8⟩) ::
    (171, ⟨1, false, [.int .u64 (0)], .int .u64, 8⟩) ::
    (158, ⟨1, false, [.val (.slice none 0 0)], .slice 5, 24⟩) ::
    (49, ⟨1, false, [.val (.slice none 0 0)], .slice 9, 24⟩) ::
    (189, ⟨8, true, [.int .u8 (0), .int .u8 (0), .int .u8 (0), .int .u8 (0), .int .u8 (0), .int .u8 (0), .int .u8 (0), .int .u8 (0)], .array 8 5, 8⟩) ::
    (55, ⟨1, false, [.int .i64 (0)], .int .i64, 8⟩) ::
    (24, ⟨32, true, [.int .u8 (0), .int .u8 (0), .int .u8 (0), .int .u8 (0), .int .u8 (0), .int .u8 (0), .int .u8 (0), .int .u8 (0), .int .u8 (0), .int .u8 (0), .int .u8 (0), .int .u8 (0), .int .u8 (0), .int .u8 (0), .int .u8 (0), .int .u8 (0), .int .u8 (0), .int .u8 (0), .int .u8 (0), .int .u8 (0), .int .u8 (0), .int .u8 (0), .int .u8 (0), .int .u8 (0), .int .u8 (0), .int .u8 (0), .int .u8 (0), .int .u8 (0), .int .u8 (0), .int .u8 (0), .int .u8 (0), .int .u8 (0)], .array 32 5, 32⟩) ::
    []
  F :=
    (24, [0, 0, 0, 0, 0, 0, 0, 0, 0, 0, 0, 0, 0, 0, 0, 0, 0, 0, 0, 0, 0, 0, 0, 0, 0, 0, 0, 0, 0, 0, 0, 0]) ::
    []
  sym := true

theorem tbT_ok : tbT.Ok Tryd.prog where
  T :=
    TblOk.cons (by kernel_rfl) <|
    TblOk.cons (by kernel_rfl) <|
    TblOk.cons (by kernel_rfl) <|
    TblOk.cons (by kernel_rfl) <|
    TblOk.cons (by kernel_rfl) <|
    TblOk.cons (by kernel_rfl) <|
    TblOk.cons (by kernel_rfl) <|
    TblOk.cons (by kernel_rfl) <|
    TblOk.cons (by kernel_rfl) <|
    TblOk.cons (by kernel_rfl) <|
    TblOk.cons (by kernel_rfl) <|
    TblOk.nil _
  F :=
    FlatsOk.cons (FlatOk.of (D := .array 32 5) 6 (by decide) (by kernel_rfl) (by kernel_rfl) rfl (by kernel_rfl)) <|
    FlatsOk.nil _

def bLenPre (x : Int) : Prop := 0 ≤ x ∧ x ≤ 18446744073709551615
def sBLen : List SV → Option (Prop × SV)
  | [.c (.int .u64 x)] => some (bLenPre x, .c (.int .i64 (Lib.bitLen x.toNat : Nat)))
  | _ => none

theorem bLenP : Pure Tryd.prog 152 sBLen := by
  refine ⟨by kernel_rfl, fun args pre r h hp us hs W => ?_⟩
  unfold sBLen at h
  split at h
  rotate_left
  · cases h
  rename_i x
  cases h
  obtain ⟨u0, _, rfl, a0, b0⟩ := hs
  obtain rfl : .int .u64 x = u0 := Option.some.inj a0
  cases b0
  refine Calls.mono (Calls.mono (Tryd.bits_Len x W hp.1 hp.2) (fun e w' he => (⟨he.1, he.2 ▸ Below.refl _ _⟩ : e = .returned (.int .i64 (Lib.bitLen x.toNat : Nat)) ∧ Below W.heap.size W w'))) fun e W' he => ?_
  obtain ⟨rfl, hb⟩ := he
  exact ⟨_, rfl, rfl, hb⟩

def sHalf : List SV → Option (Prop × SV)
  | [.c (.int .i64 n)] => some (True, .c (.int .i64 (hf n)))
  | _ => none

set_option maxRecDepth 100000 in
set_option maxHeartbeats 2000000 in
theorem halfP : Pure Tryd.prog 121 sHalf := by
  have hC : CtsOk Tryd.prog [(152, appPure sBLen)] := CtsOk.cons (Pure.ct bLenP) <| CtsOk.nil _
  refine Pure.of (E := tbT) (C := [(152, appPure sBLen)]) [] 0 [] tbT_ok hC (by kernel_rfl) Tryd.func121 rfl rfl rfl (by kernel_rfl) (by kernel_rfl) ?_ ?_
  · intro args pre r h
    unfold sHalf at h
    split at h
    · cases h; rfl
    · cases h
  · intro args pre r h hp
    unfold sHalf at h
    split at h
    rotate_left
    · cases h
    rename_i n
    cases h
    unfold sBLen
    generalize hg0 : hf = g0
    generalize hg1 : Lib.bitLen = g1
    generalize hg2 : bLenPre = g2
    generalize hA : Arith.std = A
    cbv
    subst hA hg0 hg1 hg2
    refine Ife.mk (fun h => (hf_zero (Or.inl (of_decide_eq_true (p := n < 2) h))).symm) (fun h => ?_)
    have h1 : ¬ n < 2 := of_decide_eq_false (p := n < 2) h
    refine Ife.mk (fun h => (hf_zero (Or.inr (of_decide_eq_true (p := 1073741824 < n) h))).symm) (fun h => ?_)
    have h2 : ¬ 1073741824 < n := of_decide_eq_false (p := 1073741824 < n) h
    obtain ⟨k, hk, e1, e2, h3, h4⟩ := hf_pow (n := n) (by omega) (by omega)
    have hw : IntKind.wrap .u64 (n - 1) = n - 1 := by rw [IntKind.wrap_u64]; omega
    refine Need.mk (by show fitStd .i64 (n - 1); unfold fitStd; omega) fun _ => ?_
    refine Need.mk (by show 0 ≤ IntKind.wrap .u64 (n - 1) ∧ IntKind.wrap .u64 (n - 1) ≤ 18446744073709551615; rw [hw]; omega) fun _ => ?_
    have e3 : ((Lib.bitLen (IntKind.wrap .u64 (n - 1)).toNat : Nat) : Int) - 1 = (k : Int) := by rw [hw, e1]; omega
    refine Need.mk (by show fitStd .i64 (((Lib.bitLen (IntKind.wrap .u64 (n - 1)).toNat : Nat) : Int) - 1); rw [e3]; unfold fitStd; omega) fun _ => Need.mk (by show 0 ≤ ((Lib.bitLen (IntKind.wrap .u64 (n - 1)).toNat : Nat) : Int) - 1; rw [e3]; omega) fun _ => ?_
    show IntKind.wrap .i64 (1 * 2 ^ (min (((Lib.bitLen (IntKind.wrap .u64 (n - 1)).toNat : Nat) : Int) - 1).toNat 64)) = hf n
    rw [e3, e2]
    exact shl_pow k hk

def sRHalf : List SV → Option (Prop × SV)
  | [.c (.int .i64 n)] => some (True, .c (.int .i64 (hf n)))
  | _ => none

structure LHalf (n : Int) where
  h : Int
  k : Nat
  h0 : h = 2 ^ k
  h1 : h < n
set_option maxRecDepth 100000 in
set_option maxHeartbeats 2000000 in
theorem rhalfP : Pure Tryd.prog 124 sRHalf := by
  have hC : CtsOk Tryd.prog [] := CtsOk.nil _
  refine Pure.of (E := tbT) (C := []) [] 0 [] tbT_ok hC (by kernel_rfl) Tryd.func124 rfl rfl rfl (by kernel_rfl) (by kernel_rfl) ?_ ?_
  · intro args pre r h
    unfold sRHalf at h
    split at h
    · cases h; rfl
    · cases h
  · intro args pre r h hp
    unfold sRHalf at h
    split at h
    rotate_left
    · cases h
    rename_i n
    cases h
    generalize hg0 : hf = g0
    generalize hL : lft Tryd.prog _ = L
    generalize hA : Arith.std = A
    cbv
    subst hA hg0 hL
    refine Ife.mk (fun h => (hf_zero (Or.inl (of_decide_eq_true (p := n < 2) h))).symm) (fun h => ?_)
    have h1 : ¬ n < 2 := of_decide_eq_false (p := n < 2) h
    refine Ife.mk (fun h => (hf_zero (Or.inr (of_decide_eq_true (p := 1073741824 < n) h))).symm) (fun h => ?_)
    have h2 : ¬ 1073741824 < n := of_decide_eq_false (p := 1073741824 < n) h
    show Runs Tryd.prog 0 (.loop _) _ _
    refine loop_ruleR (N := env (lft Tryd.prog 0) 0 .std tbT [] []) rfl tbT_ok hC (fun c st K _ h => h) (by kernel_rfl) [] (X := LHalf n)
      (S := fun x => ⟨[.c (.int .i64 n), .any, .any, .c (.int .i64 x.h)] ++ List.replicate 13 .any, []⟩) (μ := fun x => (n - x.h).toNat) ⟨1, 0, rfl, by omega⟩ (by kernel_rfl) [] ?_ ?_
    · refine ⟨rfl, by decide, ?_, ?_⟩ <;> repeat' (first | exact trivial | exact rfl | apply And.intro)
    rintro ⟨h, k, hh, hlt⟩
    generalize hg0 : hf = g0
    generalize hL : lft Tryd.prog _ = L
    generalize hA : Arith.std = A
    cbv
    subst hA hg0 hL
    have hp0 : (0 : Int) < 2 ^ k := Int.pow_pos (by decide)
    have hs : (2 : Int) ^ (k + 1) = 2 * 2 ^ k := by rw [Int.pow_succ]; omega
    refine Need.mk (by show fitStd .i64 (2 * h); unfold fitStd; omega) fun _ => ?_
    refine Ife.mk (fun hl => ?_) (fun hl => ?_)
    · replace hl : 2 * h < n := of_decide_eq_true (p := 2 * h < n) hl
      refine Need.mk (by show fitStd .i64 (2 * h); unfold fitStd; omega) fun _ => ?_
      refine ⟨⟨2 * h, k + 1, by rw [hs, hh], hl⟩, [], (by show (n - 2 * h).toNat < (n - h).toNat; omega), ?_⟩
      refine ⟨rfl, by decide, ?_, ?_⟩ <;> repeat' (first | exact trivial | exact rfl | apply And.intro)
    · replace hl : ¬ 2 * h < n := of_decide_eq_false (p := 2 * h < n) hl
      show h = hf n
      rw [hh, hf_uniq (k := k) (by omega) (by omega) (by omega) (by omega)]

def sIn : List SV → Option (Prop × SV)
  | [.c (.int .i64 n), .c (.int .i64 i)] => some (True, .c (.bool (inN n i)))
  | _ => none

set_option maxRecDepth 100000 in
set_option maxHeartbeats 2000000 in
theorem inP : Pure Tryd.prog 129 sIn := by
  have hC : CtsOk Tryd.prog [] := CtsOk.nil _
  refine Pure.of (E := tbT) (C := []) [] 0 [] tbT_ok hC (by kernel_rfl) Tryd.func129 rfl rfl rfl (by kernel_rfl) (by kernel_rfl) ?_ ?_
  · intro args pre r h
    unfold sIn at h
    split at h
    · cases h; rfl
    · cases h
  · intro args pre r h hp
    unfold sIn at h
    split at h
    rotate_left
    · cases h
    rename_i n i
    cases h
    generalize hg0 : inN = g0
    generalize hA : Arith.std = A
    cbv
    subst hA hg0
    refine Ife.mk (fun h => ?_) (fun h => ?_)
    · have h : n ≤ 1073741824 := of_decide_eq_true (p := n ≤ 1073741824) h
      refine Ife.mk (fun h2 => ?_) (fun h2 => ?_)
      · have h2 : 0 ≤ i := of_decide_eq_true (p := 0 ≤ i) h2
        show decide (i < n) = inN n i
        unfold inN
        simp [h, h2]
      · have h2 : ¬ 0 ≤ i := of_decide_eq_false (p := 0 ≤ i) h2
        unfold inN
        simp [h2]
    · have h : ¬ n ≤ 1073741824 := of_decide_eq_false (p := n ≤ 1073741824) h
      unfold inN
      simp [h]

structure LDp (n0 i0 : Int) where
  n : Int
  i : Int
  d : Int
  h0 : 0 ≤ d
  h1 : deep n0 i0 = d + deep n i
def sDeep : List SV → Option (Prop × SV)
  | [.c (.int .i64 n), .c (.int .i64 i)] => some (True, .c (.int .i64 (deep n i)))
  | _ => none

set_option maxRecDepth 100000 in
set_option maxHeartbeats 2000000 in
theorem deepP : Pure Tryd.prog 89 sDeep := by
  have hC : CtsOk Tryd.prog [(129, appPure sIn), (121, appPure sHalf)] := CtsOk.cons (Pure.ct inP) <| CtsOk.cons (Pure.ct halfP) <| CtsOk.nil _
  refine Pure.of (E := tbT) (C := [(129, appPure sIn), (121, appPure sHalf)]) [] 0 [] tbT_ok hC (by kernel_rfl) Tryd.func89 rfl rfl rfl (by kernel_rfl) (by kernel_rfl) ?_ ?_
  · intro args pre r h
    unfold sDeep at h
    split at h
    · cases h; rfl
    · cases h
  · intro args pre r h hp
    unfold sDeep at h
    split at h
    rotate_left
    · cases h
    rename_i n i
    cases h
    have hle : deep n i ≤ 30 := deep_30 n i
    unfold sIn sHalf
    generalize hg0 : hf = g0
    generalize hg1 : inN = g1
    generalize hg2 : deep = g2
    generalize hL : lft Tryd.prog _ = L
    generalize hA : Arith.std = A
    cbv
    subst hA hg0 hg1 hg2 hL
    show Runs Tryd.prog 0 (.loop _) _ _
    refine loop_ruleR (N := env (lft Tryd.prog 0) 0 .std tbT [(129, appPure sIn), (121, appPure sHalf)] []) rfl tbT_ok hC (fun c st K _ h => h) (by kernel_rfl) [] (X := LDp n i)
      (S := fun x => ⟨[.c (.int .i64 x.n), .c (.int .i64 x.i), .any, .any, .any, .c (.int .i64 x.d)] ++ List.replicate 23 .any, []⟩) (μ := fun x => x.n.toNat) ⟨n, i, 0, by omega, by omega⟩ (by kernel_rfl) [] ?_ ?_
    · refine ⟨rfl, by decide, ?_, ?_⟩ <;> repeat' (first | exact trivial | exact rfl | apply And.intro)
    rintro ⟨m, j, d, hd0, hd⟩
    unfold sIn sHalf
    generalize hg0 : hf = g0
    generalize hg1 : inN = g1
    generalize hg2 : deep = g2
    generalize hL : lft Tryd.prog _ = L
    generalize hA : Arith.std = A
    cbv
    subst hA hg0 hg1 hg2 hL
    replace hd : deep n i = d + deep m j := hd
    have hdn := deep_nonneg m j
    refine Need.mk trivial fun _ => ?_
    refine Ife.mk (fun hb => ?_) (fun hb => ?_)
    · obtain ⟨b1, b2, b3⟩ := inN_iff.1 (show inN m j = true from hb)
      refine Ife.mk (fun h1 => ?_) (fun h1 => ?_)
      · replace h1 : 1 < m := of_decide_eq_true (p := (1 : Int) < m) h1
        have hh := hf_lt (n := m) (by omega) b1
        have hin : 1 < m ∧ m ≤ 1073741824 ∧ 0 ≤ j ∧ j < m := ⟨h1, b1, b2, b3⟩
        refine Need.mk (by show fitStd .i64 (d + 1); unfold fitStd; omega) fun _ => Need.mk trivial fun _ => ?_
        refine Ife.mk (fun h2 => ?_) (fun h2 => ?_)
        · replace h2 : j < hf m := of_decide_eq_true (p := j < hf m) h2
          refine ⟨⟨hf m, j, d + 1, by omega, by rw [hd, deep_lo hin h2]; omega⟩, [], (by show (hf m).toNat < m.toNat; omega), ?_⟩
          refine ⟨rfl, by decide, ?_, ?_⟩ <;> repeat' (first | exact trivial | exact rfl | apply And.intro)
        · replace h2 : ¬ j < hf m := of_decide_eq_false (p := j < hf m) h2
          refine Need.mk (by show fitStd .i64 (m - hf m); unfold fitStd; omega) fun _ => Need.mk (by show fitStd .i64 (j - hf m); unfold fitStd; omega) fun _ => ?_
          refine ⟨⟨m - hf m, j - hf m, d + 1, by omega, by rw [hd, deep_hi hin h2]; omega⟩, [], (by show (m - hf m).toNat < m.toNat; omega), ?_⟩
          refine ⟨rfl, by decide, ?_, ?_⟩ <;> repeat' (first | exact trivial | exact rfl | apply And.intro)
      · replace h1 : ¬ 1 < m := of_decide_eq_false (p := (1 : Int) < m) h1
        show d = deep n i
        rw [hd, deep_out (n := m) (by omega)]
        omega
    · have hb : ¬ (m ≤ 1073741824 ∧ 0 ≤ j ∧ j < m) := fun h => by
        rw [inN_iff.2 h] at hb
        cases hb
      show d = deep n i
      rw [hd, deep_out (n := m) (by omega)]
      omega

def sLMay : List SV → Option (Prop × SV)
  | [.c (.int .i64 n)] => some (True, .c (.bool (lebMay n)))
  | _ => none

set_option maxRecDepth 100000 in
set_option maxHeartbeats 2000000 in
theorem lMayP : Pure Tryd.prog 151 sLMay := by
  have hC : CtsOk Tryd.prog [] := CtsOk.nil _
  refine Pure.of (E := tbT) (C := []) [] 0 [] tbT_ok hC (by kernel_rfl) Tryd.func151 rfl rfl rfl (by kernel_rfl) (by kernel_rfl) ?_ ?_
  · intro args pre r h
    unfold sLMay at h
    split at h
    · cases h; rfl
    · cases h
  · intro args pre r h hp
    unfold sLMay at h
    split at h
    rotate_left
    · cases h
    rename_i n
    cases h
    generalize hg0 : lebMay = g0
    generalize hA : Arith.std = A
    cbv
    subst hA hg0
    refine Ife.mk (fun h => ?_) (fun h => ?_)
    · have h : 0 ≤ n := of_decide_eq_true (p := 0 ≤ n) h
      show decide (n ≤ 72057594037927935) = lebMay n
      unfold lebMay
      simp [h]
    · have h : ¬ 0 ≤ n := of_decide_eq_false (p := 0 ≤ n) h
      unfold lebMay
      simp [h]

def sEight : List SV → Option (Prop × SV)
  | [.c (.int .i64 n)] => some (eightPre n, .c (.str (be8 n)))
  | _ => none

set_option maxRecDepth 100000 in
set_option maxHeartbeats 2000000 in
theorem leightP : Pure Tryd.prog 119 sEight := by
  have hC : CtsOk Tryd.prog [(151, appPure sLMay)] := CtsOk.cons (Pure.ct lMayP) <| CtsOk.nil _
  refine Pure.of (E := tbT) (C := [(151, appPure sLMay)]) [] 0 [] tbT_ok hC (by kernel_rfl) Tryd.func119 rfl rfl rfl (by kernel_rfl) (by kernel_rfl) ?_ ?_
  · intro args pre r h
    unfold sEight at h
    split at h
    · cases h; rfl
    · cases h
  · intro args pre r h hp
    unfold sEight at h
    split at h
    rotate_left
    · cases h
    rename_i n
    cases h
    obtain ⟨hn0, hn1⟩ := hp
    unfold sLMay
    generalize hg0 : be8 = g0
    generalize hg1 : lebMay = g1
    generalize hg2 : eightPre = g2
    generalize hL : lft Tryd.prog _ = L
    generalize hA : Arith.std = A
    cbv
    subst hA hg0 hg1 hg2 hL
    refine Need.mk trivial fun _ => ?_
    have hm : lebMay n = true := by unfold lebMay; simp [hn0, hn1]
    refine Ife.mk (fun hb => absurd (show (!lebMay n) = true from hb) (by rw [hm]; decide)) (fun _ => ?_)
    show Runs Tryd.prog 0 (.loop _) _ _
    refine loop_ruleR (N := env (lft Tryd.prog 0) 0 .std tbT [(151, appPure sLMay)] []) rfl tbT_ok hC (fun c st K _ h => h) (by kernel_rfl) [] (X := LFill 8 (fun j => d8 n (7 - j)) (fun _ => 0))
      (S := fun x => ⟨[.c (.int .i64 n), .any, .any, .c (.ptr 0 0), .any, .any, .any, .any, .c (.int .i64 x.i)] ++ List.replicate 14 .any, [.cells 189 [.int .u8 (x.g 7), .int .u8 (x.g 6), .int .u8 (x.g 5), .int .u8 (x.g 4), .int .u8 (x.g 3), .int .u8 (x.g 2), .int .u8 (x.g 1), .int .u8 (x.g 0)]]⟩) (μ := fun x => 8 - x.i.toNat) ⟨0, (fun _ => 0), by omega, by omega, fun j hj => absurd hj (by omega), fun j _ _ => rfl⟩ (by kernel_rfl) [0] ?_ ?_
    · refine ⟨rfl, by decide, ?_, ?_⟩ <;> repeat' (first | exact trivial | exact rfl | apply And.intro)
    rintro ⟨i, g, hi0, hin, hlo, hhi⟩
    unfold sLMay
    generalize hg0 : be8 = g0
    generalize hg1 : lebMay = g1
    generalize hg2 : eightPre = g2
    generalize hL : lft Tryd.prog _ = L
    generalize hA : Arith.std = A
    cbv
    subst hA hg0 hg1 hg2 hL
    replace hi0 : 0 ≤ i := hi0
    replace hin : i ≤ ((8 : Nat) : Int) := hin
    replace hlo : ∀ j : Nat, (j : Int) < i → g j = (fun j => d8 n (7 - j)) j := hlo
    replace hhi : ∀ j : Nat, i ≤ (j : Int) → j < 8 → g j = (fun _ => 0) j := hhi
    refine Ife.mk (fun hlt => ?_) (fun hlt => ?_)
    · replace hlt : i < (8 : Int) := of_decide_eq_true (p := i < (8 : Int)) hlt
      repeat refine Need.mk (by first | exact trivial | (simp only [Arith.std, fitStd]; omega) | (simp [Arith.std, fitStd]; omega)) fun _ => ?_
      refine ⟨⟨i + 1, fun j => Arith.std.upd ((7 - i).toNat) (7 - j) ?fv (g j), by omega, by omega, ?h2, ?h3⟩, [0], (by show 8 - (i + 1).toNat < 8 - i.toNat; omega), ?st⟩
      case st => refine ⟨rfl, by decide, ?_, ?_⟩ <;> repeat' (first | exact trivial | exact rfl | apply And.intro)
      case h3 =>
        intro j hj hj2
        show (if (7 - i).toNat = 7 - j then _ else g j) = _
        rw [if_neg (by omega)]
        exact hhi j (by omega) hj2
      case h2 =>
        intro j hj
        show (if (7 - i).toNat = 7 - j then _ else g j) = _
        by_cases hji : (7 - i).toNat = 7 - j
        · rw [if_pos hji]
          obtain rfl : j = i.toNat := by omega
          clear hji hj
          exact eight_byte n i hn0 hn1 hi0 hlt
        · rw [if_neg hji]
          exact hlo j (by omega)
    · replace hlt : ¬ i < (8 : Int) := of_decide_eq_false (p := i < (8 : Int)) hlt
      have hq : ∀ k : Nat, k < 8 → g k = (fun j => d8 n (7 - j)) k := fun k hk => hlo k (by omega)
      show [UInt8.ofNat (g 7).toNat, UInt8.ofNat (g 6).toNat, UInt8.ofNat (g 5).toNat, UInt8.ofNat (g 4).toNat, UInt8.ofNat (g 3).toNat, UInt8.ofNat (g 2).toNat, UInt8.ofNat (g 1).toNat, UInt8.ofNat (g 0).toNat] = be8 n
      rw [hq 0 (by decide), hq 1 (by decide), hq 2 (by decide), hq 3 (by decide), hq 4 (by decide), hq 5 (by decide), hq 6 (by decide), hq 7 (by decide)]
      rfl

end Go.Proofs.YthomoliklfmnkaaDoor.Vx
end

section
/- Trees: roots; the law TreeDeep, by the walker. -/
namespace Go.Proofs.YthomoliklfmnkaaDoor.Vx
open Go.RowKit Sha
set_option linter.unusedVariables false
set_option linter.unusedSimpArgs false
/-- The sum of how many leaves there are, and of what stands above them. -/
def rootF (n : Int) (t : List UInt8) (j : Nat) : Int := if n < 0 ∨ 1073741824 < n then 0 else sumI ([2] ++ be8 n ++ t) j
theorem rootF_out {n : Int} (t : List UInt8) (h : n < 0 ∨ 1073741824 < n) : rootF n t = fun _ => 0 := by funext j; unfold rootF; rw [if_pos h]
theorem rootF_in {n : Int} (t : List UInt8) (h : ¬ (n < 0 ∨ 1073741824 < n)) : rootF n t = sumI ([2] ++ be8 n ++ t) := by funext j; unfold rootF; rw [if_neg h]
def rootPre (gg sz n : Nat) (get : Nat → List CV) (xs : List CV) : Prop := KsAt gg sz n get ∧ HashC xs
def sRoot : SpecF
  | [.c (.int .i64 m), .agg xs], [.glob gg sz n get] => some (rootPre gg sz n get xs, .agg (hashC (rootF m (u8s xs))), [.dead])
  | _, _ => none

set_option maxRecDepth 100000 in
set_option maxHeartbeats 4000000 in
theorem rootP : Fn Tryd.prog 77 [0] [] sRoot := by
  have hC : CtsOk Tryd.prog [(119, appPure sEight), (120, appPure sText), (118, appFn [0] [(9, 1)] sSum)] := CtsOk.cons (Pure.ct leightP) <| CtsOk.cons (Pure.ct textP) <| CtsOk.cons (Fn.ct sumP) <| CtsOk.nil _
  refine Fn.of (E := tbT) [0] 0 [(3, [(2002, false), (0, true), (2, true), (1, false), (3, false), (4, false), (5, false), (6, false)])] tbT_ok hC (by kernel_rfl) Tryd.func77 rfl rfl rfl (by kernel_rfl) (by kernel_rfl) 1 5 1 ?_ ?_
  · intro args h pre r h' hs
    unfold sRoot at hs
    split at hs
    · cases hs; exact ⟨rfl, rfl, Nat.le_of_ble_eq_true rfl⟩
    · cases hs
  · intro args h pre r h' hs hp
    unfold sRoot at hs
    split at hs
    rotate_left
    · cases hs
    rename_i m xs gg sz n get
    cases hs
    obtain ⟨hK, ⟨f, rfl, hf⟩⟩ := hp
    refine ⟨_, hK.same, ?_⟩
    clear hK
    unfold hashC
    unfold sSum sEight sText
    generalize hg0 : sumPre = g0
    generalize hg1 : KsAt = g1
    generalize hg2 : joinG = g2
    generalize hg3 : cutC = g3
    generalize hg4 : sumI = g4
    generalize hg5 : kOf = g5
    generalize hg6 : HashC = g6
    generalize hg7 : u8s = g7
    generalize hg8 : be8 = g8
    generalize hg9 : eightPre = g9
    generalize hg10 : rootF = g10
    generalize hg11 : rootPre = g11
    generalize hg12 : (List.length : List UInt8 → Nat) = g12
    generalize hA : Arith.std = A
    cbv
    subst hA hg0 hg1 hg2 hg3 hg4 hg5 hg6 hg7 hg8 hg9 hg10 hg11 hg12
    refine Ife.mk (fun h => ?_) (fun h => ?_)
    · have h : m < 0 := of_decide_eq_true (p := m < 0) h
      have e := rootF_out (u8s (hashC f)) (Or.inl h : m < 0 ∨ 1073741824 < m)
      show ∃ σ, LeftF _ _ _ σ _ _ (.agg (hashC (rootF m (u8s (hashC f))))) _
      rw [e]
      exact ⟨[0], ⟨rfl, by repeat' (first | exact trivial | exact rfl | apply And.intro), by decide, rfl, by repeat' (first | exact trivial | exact rfl | apply And.intro)⟩⟩
    have h1 : ¬ m < 0 := of_decide_eq_false (p := m < 0) h
    refine Ife.mk (fun h => ?_) (fun h => ?_)
    · have h : 1073741824 < m := of_decide_eq_true (p := 1073741824 < m) h
      have e := rootF_out (u8s (hashC f)) (Or.inr h : m < 0 ∨ 1073741824 < m)
      show ∃ σ, LeftF _ _ _ σ _ _ (.agg (hashC (rootF m (u8s (hashC f))))) _
      rw [e]
      exact ⟨[0], ⟨rfl, by repeat' (first | exact trivial | exact rfl | apply And.intro), by decide, rfl, by repeat' (first | exact trivial | exact rfl | apply And.intro)⟩⟩
    have h2 : ¬ 1073741824 < m := of_decide_eq_false (p := 1073741824 < m) h
    have e := rootF_in (u8s (hashC f)) (show ¬ (m < 0 ∨ 1073741824 < m) by omega)
    have j1 := (strs_cut [[2], be8 m, u8s (hashC f)]).2
    have f1 : [[2], be8 m, u8s (hashC f)].flatten = [2] ++ be8 m ++ u8s (hashC f) := by simp
    have p1 := sumPre_cut [[2], be8 m, u8s (hashC f)] (by rw [f1]; show ([2] ++ be8 m ++ hashB f).length ≤ _; rw [List.length_append, List.length_append, hashB_len]; show 1 + 8 + 32 ≤ _; decide) (by show 3 ≤ 1000; decide)
    refine Need.mk ⟨by omega, by omega⟩ fun _ => Need.mk ⟨f, rfl, hf⟩ fun _ => Need.mk p1 fun _ => ?_
    show ∃ σ, LeftF _ _ _ σ (.agg (hashC (sumI (joinG 3 (cutC 1 ([[2], be8 m, u8s (hashC f)].map CV.str) 0))))) _ (.agg (hashC (rootF m (u8s (hashC f))))) _
    rw [e, show joinG 3 (cutC 1 ([[2], be8 m, u8s (hashC f)].map CV.str) 0) = [2] ++ be8 m ++ u8s (hashC f) from j1.trans f1]
    exact ⟨[0], ⟨rfl, by repeat' (first | exact trivial | exact rfl | apply And.intro), by decide, rfl, by repeat' (first | exact trivial | exact rfl | apply And.intro)⟩⟩



theorem hf1 : hf 1 = 0 := hf_zero (Or.inl (by decide))




end Go.Proofs.YthomoliklfmnkaaDoor.Vx
namespace Go.Proofs.YthomoliklfmnkaaDoor
open Go.RowKit
end Go.Proofs.YthomoliklfmnkaaDoor
end

section
/- Trees: tops, by the walker. -/
namespace Go.Proofs.YthomoliklfmnkaaDoor.Vx
open Go.RowKit Sha
set_option linter.unusedVariables false
set_option linter.unusedSimpArgs false
def tbH : Tbl where
  T :=
    (3, ⟨1, false, [.int .i64 (0)], .int .i64, 8⟩) ::
    (4, ⟨1, false, [.ff], .bool, 1⟩) ::
    (9, ⟨1, false, [.str []], .str, 16⟩) ::
    (5, ⟨1, false, [.int .u8 (0)], .int .u8, 1⟩) ::
    (166, ⟨1, false, [.int .u64 (0)], .int .u64, 8⟩) ::
    (171, ⟨1, false, [.int .u64 (0)], .int .u64, 8⟩) ::
    (158, ⟨1, false, [.val (.slice none 0 0)], .slice 5, 24⟩) ::
    (49, ⟨1, false, [.val (.slice none 0 0)], .slice 9, 24⟩) ::
    (189, ⟨8, true, [.int .u8 (0), .int .u8 (0), .int .u8 (0), .int .u8 (0), .int .u8 (0), .int .u8 (0), .int .u8 (0), .int .u8 (0)], .array 8 5, 8⟩) ::
    (55, ⟨1, false, [.int .i64 (0)], .int .i64, 8⟩) ::
    (24, ⟨32, true, [.int .u8 (0), .int .u8 (0), .int .u8 (0), .int .u8 (0), .int .u8 (0), .int .u8 (0), .int .u8 (0), .int .u8 (0), .int .u8 (0), .int .u8 (0), .int .u8 (0), .int .u8 (0), .int .u8 (0), .int .u8 (0), .int .u8 (0), .int .u8 (0), .int .u8 (0), .int .u8 (0), .int .u8 (0), .int .u8 (0), .int .u8 (0), .int .u8 (0), .int .u8 (0), .int .u8 (0), .int .u8 (0), .int .u8 (0), .int .u8 (0), .int .u8 (0), .int .u8 (0), .int .u8 (0), .int .u8 (0), .int .u8 (0)], .array 32 5, 32⟩) ::
    (113, ⟨1, false, [.val (.slice none 0 0)], .slice 24, 24⟩) ::
    []
  F :=
    (24, [0, 0, 0, 0, 0, 0, 0, 0, 0, 0, 0, 0, 0, 0, 0, 0, 0, 0, 0, 0, 0, 0, 0, 0, 0, 0, 0, 0, 0, 0, 0, 0]) ::
    []
  sym := true

theorem tbH_ok : tbH.Ok Tryd.prog where
  T :=
    TblOk.cons (by kernel_rfl) <|
    TblOk.cons (by kernel_rfl) <|
    TblOk.cons (by kernel_rfl) <|
    TblOk.cons (by kernel_rfl) <|
    TblOk.cons (by kernel_rfl) <|
    TblOk.cons (by kernel_rfl) <|
    TblOk.cons (by kernel_rfl) <|
    TblOk.cons (by kernel_rfl) <|
    TblOk.cons (by kernel_rfl) <|
    TblOk.cons (by kernel_rfl) <|
    TblOk.cons (by kernel_rfl) <|
    TblOk.cons (by kernel_rfl) <|
    TblOk.nil _
  F :=
    FlatsOk.cons (FlatOk.of (D := .array 32 5) 6 (by decide) (by kernel_rfl) (by kernel_rfl) rfl (by kernel_rfl)) <|
    FlatsOk.nil _

/-- The sum of two sums. -/
def nodeF (a b : List UInt8) : Nat → Int := sumI ([1] ++ a ++ b)
def nodePre (gg sz n : Nat) (get : Nat → List CV) (xs ys : List CV) : Prop := KsAt gg sz n get ∧ HashC xs ∧ HashC ys
def sNode : SpecF
  | [.agg xs, .agg ys], [.glob gg sz n get] => some (nodePre gg sz n get xs ys, .agg (hashC (nodeF (u8s xs) (u8s ys))), [.dead])
  | _, _ => none

set_option maxRecDepth 100000 in
set_option maxHeartbeats 4000000 in
theorem nodeP : Fn Tryd.prog 122 [0] [] sNode := by
  have hC : CtsOk Tryd.prog [(120, appPure sText), (118, appFn [0] [(9, 1)] sSum)] := CtsOk.cons (Pure.ct textP) <| CtsOk.cons (Fn.ct sumP) <| CtsOk.nil _
  refine Fn.of (E := tbH) [0] 0 [(1, [(2003, false), (0, true), (2, true), (1, false), (3, false), (4, false), (5, false), (6, false)])] tbH_ok hC (by kernel_rfl) Tryd.func122 rfl rfl rfl (by kernel_rfl) (by kernel_rfl) 1 5 1 ?_ ?_
  · intro args h pre r h' hs
    unfold sNode at hs
    split at hs
    · cases hs; exact ⟨rfl, rfl, Nat.le_of_ble_eq_true rfl⟩
    · cases hs
  · intro args h pre r h' hs hp
    unfold sNode at hs
    split at hs
    rotate_left
    · cases hs
    rename_i xs ys gg sz n get
    cases hs
    obtain ⟨hK, ⟨f, rfl, hf⟩, ⟨g, rfl, hg⟩⟩ := hp
    refine ⟨_, hK.same, ?_⟩
    clear hK
    unfold hashC
    unfold sSum sText
    generalize ho0 : @sumPre = zo0, ho1 : @joinG = zo1, ho2 : @cutC = zo2, ho3 : @sumI = zo3, ho4 : @HashC = zo4, ho5 : @u8s = zo5, ho6 : @nodeF = zo6, ho7 : @nodePre = zo7
    generalize hA : Arith.std = A
    cbv
    subst hA ho0 ho1 ho2 ho3 ho4 ho5 ho6 ho7
    have j1 := (strs_cut [[1], u8s (hashC f), u8s (hashC g)]).2
    have f1 : [[1], u8s (hashC f), u8s (hashC g)].flatten = [1] ++ u8s (hashC f) ++ u8s (hashC g) := by simp
    have p1 := sumPre_cut [[1], u8s (hashC f), u8s (hashC g)] (by rw [f1]; show ([1] ++ hashB f ++ hashB g).length ≤ _; rw [List.length_append, List.length_append, hashB_len, hashB_len]; show 1 + 32 + 32 ≤ _; decide) (by show 3 ≤ 1000; decide)
    refine Need.mk ⟨f, rfl, hf⟩ fun _ => Need.mk ⟨g, rfl, hg⟩ fun _ => Need.mk p1 fun _ => ?_
    show ∃ σ, LeftF _ _ _ σ (.agg (hashC (sumI (joinG 3 (cutC 1 ([[1], u8s (hashC f), u8s (hashC g)].map CV.str) 0))))) _ (.agg (hashC (nodeF (u8s (hashC f)) (u8s (hashC g))))) _
    rw [show joinG 3 (cutC 1 ([[1], u8s (hashC f), u8s (hashC g)].map CV.str) 0) = [1] ++ u8s (hashC f) ++ u8s (hashC g) from j1.trans f1]
    exact ⟨[0], ⟨rfl, by repeat' (first | exact trivial | exact rfl | apply And.intro), by decide, rfl, by repeat' (first | exact trivial | exact rfl | apply And.intro)⟩⟩

/-- The bytes of a sum's cells. -/
def hOf (cs : List CV) (j : Nat) : Int := match cs[j]? with
  | some (.int .u8 v) => v
  | _ => 0
/-- What stands above leaves. -/
def topR (h : Nat → Nat → Int) (lo n : Nat) : Nat → Int :=
  if hn : n < 2 ∨ 1073741824 < n then (if n = 0 then fun _ => 0 else h lo)
  else nodeF (hashB (topR h lo (hf n).toNat)) (hashB (topR h (lo + (hf n).toNat) (n - (hf n).toNat)))
termination_by n
decreasing_by
  · have := hf_lt (n := (n : Int)) (by omega) (by omega); omega
  · have := hf_lt (n := (n : Int)) (by omega) (by omega); omega
theorem topR_shift (h : Nat → Nat → Int) (a : Nat) : ∀ (n lo : Nat), topR (fun i => h (a + i)) lo n = topR h (a + lo) n := by
  intro n
  induction n using Nat.strongRecOn with
  | ind n ih =>
    intro lo
    rw [topR.eq_def (fun i => h (a + i)), topR.eq_def h]
    by_cases hn : n < 2 ∨ 1073741824 < n
    · rw [dif_pos hn, dif_pos hn]
    · rw [dif_neg hn, dif_neg hn]
      have hh := hf_lt (n := (n : Int)) (by omega) (by omega)
      rw [ih (hf n).toNat (by omega) lo, ih (n - (hf n).toNat) (by omega) (lo + (hf n).toNat), Nat.add_assoc]
theorem topR_congr {h h' : Nat → Nat → Int} : ∀ (n lo : Nat), (∀ i, lo ≤ i → i < lo + n → h i = h' i) → topR h lo n = topR h' lo n := by
  intro n
  induction n using Nat.strongRecOn with
  | ind n ih =>
    intro lo hc
    rw [topR.eq_def h, topR.eq_def h']
    by_cases hn : n < 2 ∨ 1073741824 < n
    · rw [dif_pos hn, dif_pos hn]
      by_cases h0 : n = 0
      · rw [if_pos h0, if_pos h0]
      · rw [if_neg h0, if_neg h0, hc lo (Nat.le_refl _) (by omega)]
    · rw [dif_neg hn, dif_neg hn]
      have hh := hf_lt (n := (n : Int)) (by omega) (by omega)
      rw [ih (hf n).toNat (by omega) lo (fun i h1 h2 => hc i h1 (by omega)), ih (n - (hf n).toNat) (by omega) (lo + (hf n).toNat) (fun i h1 h2 => hc i (by omega) (by omega))]
theorem topR_range {h : Nat → Nat → Int} : ∀ (n lo : Nat), (∀ i, lo ≤ i → i < lo + n → ∀ j, 0 ≤ h i j ∧ h i j < 256) → ∀ j, 0 ≤ topR h lo n j ∧ topR h lo n j < 256 := by
  intro n lo hc j
  rw [topR.eq_def h]
  by_cases hn : n < 2 ∨ 1073741824 < n
  · rw [dif_pos hn]
    by_cases h0 : n = 0
    · rw [if_pos h0]; decide
    · rw [if_neg h0]; exact hc lo (Nat.le_refl _) (by omega) j
  · rw [dif_neg hn]
    exact sumI_range _ j
theorem hOf_at (f : Nat → Int) (j : Nat) : hOf (hashC f) j = if j < 32 then f j else 0 := by
  have e : hashC f = (List.range 32).map fun i => CV.int .u8 (f i) := rfl
  unfold hOf
  rw [e, List.getElem?_map]
  by_cases h : j < 32
  · rw [List.getElem?_range h, if_pos h]; rfl
  · rw [List.getElem?_eq_none (by rw [List.length_range]; omega), if_neg h]; rfl
theorem hOf_range {cs : List CV} (h : HashC cs) (j : Nat) : 0 ≤ hOf cs j ∧ hOf cs j < 256 := by
  obtain ⟨f, rfl, hf⟩ := h
  rw [hOf_at]
  split
  · exact hf j
  · decide
theorem hOf_idem {cs : List CV} (h : HashC cs) : hOf (hashC (hOf cs)) = hOf cs := by
  obtain ⟨f, rfl, _⟩ := h
  funext j
  rw [hOf_at, hOf_at]
  split <;> rfl
def topG (get : Nat → List CV) (n : Nat) : Nat → Int := topR (fun i => hOf (get i)) 0 n
def HashesAt (n : Nat) (get : Nat → List CV) : Prop := ∀ i, i < n → HashC (get i)
theorem HashesAt.same {n : Nat} {get : Nat → List CV} {ty : Nat} (h : HashesAt n get) : hSame [.elems ty 32 n get] [.elems ty 32 n (fun i => hashC (hOf (get i)))] := by
  refine ⟨⟨rfl, rfl, rfl, fun i hi => ?_⟩, trivial⟩
  obtain ⟨f, hf, _⟩ := h i hi
  show get i = hashC (hOf (get i))
  rw [hf]
  rfl
theorem topG_cut {gets : Nat → List CV} {m : Nat} (h : HashesAt m gets) (a k : Nat) (hk : a + k ≤ m) : topG (fun i => hashC (hOf (gets (a + i)))) k = topR (fun i => hOf (gets i)) a k := by
  unfold topG
  have := topR_shift (fun i => hOf (gets i)) a k 0
  rw [Nat.add_zero] at this
  rw [← this]
  refine topR_congr k 0 fun i _ hi => ?_
  exact hOf_idem (h (a + i) (by omega))
theorem topG_two {gets : Nat → List CV} {m : Nat} (h2 : 2 ≤ m) (h3 : m ≤ 1073741824) : topG gets m = nodeF (hashB (topR (fun i => hOf (gets i)) 0 (hf m).toNat)) (hashB (topR (fun i => hOf (gets i)) (hf m).toNat (m - (hf m).toNat))) := by
  unfold topG
  rw [topR, dif_neg (by omega), Nat.zero_add]
theorem topG_zero (gets : Nat → List CV) : topG gets 0 = fun _ => 0 := by
  unfold topG
  rw [topR, dif_pos (by omega), if_pos rfl]
theorem topG_one (gets : Nat → List CV) : topG gets 1 = hOf (gets 0) := by
  unfold topG
  rw [topR, dif_pos (by omega), if_neg (by decide)]
theorem topG_hash {gets : Nat → List CV} {m : Nat} (h : HashesAt m gets) (a k : Nat) (hk : a + k ≤ m) : HashC (hashC (topR (fun i => hOf (gets i)) a k)) := ⟨_, rfl, topR_range k a fun i _ hi j => hOf_range (h i (by omega)) j⟩
theorem HashesAt.cut {gets : Nat → List CV} {m : Nat} (h : HashesAt m gets) (a k : Nat) (hk : a + k ≤ m) : HashesAt k (fun i => hashC (hOf (gets (a + i)))) := fun i hi => ⟨_, rfl, hOf_range (h (a + i) (by omega))⟩
def topPre (N : Nat) (gg sz n : Nat) (get : Nat → List CV) (ty one m : Nat) (gets : Nat → List CV) : Prop := KsAt gg sz n get ∧ ty = 24 ∧ one = 32 ∧ HashesAt m gets ∧ m < N ∧ m ≤ 1073741824
def sTopN (N : Nat) : SpecF
  | [.c (.row 1)], [.glob gg sz n get, .elems ty one m gets] => some (topPre N gg sz n get ty one m gets, .agg (hashC (topG gets m)), [.dead, .dead])
  | _, _ => none

set_option maxRecDepth 100000 in
set_option maxHeartbeats 8000000 in
theorem topStep (N : Nat) (ih : Fn Tryd.prog 78 [0] [(24, 32)] (sTopN N)) : Fn Tryd.prog 78 [0] [(24, 32)] (sTopN (N + 1)) := by
  have hC : CtsOk Tryd.prog [(121, appPure sHalf), (78, appFn [0] [(24, 32)] (sTopN N)), (122, appFn [0] [] sNode)] := CtsOk.cons (Pure.ct halfP) <| CtsOk.cons (Fn.ct ih) <| CtsOk.cons (Fn.ct nodeP) <| CtsOk.nil _
  refine Fn.of (E := tbH) [0] 0 [(7, [(2002, false), (0, true), (1, true), (2, true), (4, true), (5, true), (6, true), (3, false), (7, false), (8, false), (9, false)])] tbH_ok hC (by kernel_rfl) Tryd.func78 rfl rfl rfl (by kernel_rfl) (by kernel_rfl) 2 5 1 ?_ ?_
  · intro args h pre r h' hs
    unfold sTopN at hs
    split at hs
    · cases hs; exact ⟨rfl, rfl, Nat.le_of_ble_eq_true rfl⟩
    · cases hs
  · intro args h pre r h' hs hp
    unfold sTopN at hs
    split at hs
    rotate_left
    · cases hs
    rename_i gg sz n get ty one m gets
    cases hs
    obtain ⟨hK, rfl, rfl, hst, hlt, hm⟩ := hp
    refine ⟨[.glob 0 1 64 (fun i => [.int .u32 (kOf i)]), .elems 24 32 m (fun i => hashC (hOf (gets i)))], ⟨hK.same.1, hst.same.1, trivial⟩, ?_⟩
    clear hK
    unfold sTopN sNode sHalf
    generalize ho0 : @cutC = zo0, ho1 : @kOf = zo1, ho2 : @HashC = zo2, ho3 : @u8s = zo3, ho4 : @nodeF = zo4, ho5 : @nodePre = zo5, ho6 : @hf = zo6, ho7 : @hOf = zo7, ho8 : @topG = zo8, ho9 : @topPre = zo9
    generalize hA : Arith.std = A
    cbv
    subst hA ho0 ho1 ho2 ho3 ho4 ho5 ho6 ho7 ho8 ho9
    refine Ife.mk (fun h => ?_) (fun h => ?_)
    · have h : (m : Int) = 0 := of_decide_eq_true (p := (m : Int) = 0) h
      obtain rfl : m = 0 := by omega
      rw [topG_zero]
      exact ⟨[0, 1], ⟨rfl, by repeat' (first | exact trivial | exact rfl | apply And.intro), by decide, rfl, by repeat' (first | exact trivial | exact rfl | apply And.intro)⟩⟩
    have h0 : ¬ (m : Int) = 0 := of_decide_eq_false (p := (m : Int) = 0) h
    refine Ife.mk (fun h => ?_) (fun h => ?_)
    · have h : (m : Int) = 1 := of_decide_eq_true (p := (m : Int) = 1) h
      obtain rfl : m = 1 := by omega
      rw [topG_one]
      refine Need.mk (by show (0 : Int) ≤ 0 ∧ (0 : Int) < ((1 : Nat) : Int); decide) fun _ => Need.mk (by show (0 : Int).toNat < 1; decide) fun _ => ?_
      exact ⟨[0, 1], ⟨rfl, by repeat' (first | exact trivial | exact rfl | apply And.intro), by decide, rfl, by repeat' (first | exact trivial | exact rfl | apply And.intro)⟩⟩
    have h1 : ¬ (m : Int) = 1 := of_decide_eq_false (p := (m : Int) = 1) h
    have hh := hf_lt (n := (m : Int)) (by omega) (by omega)
    have e1 : topG (fun i => hashC (hOf (gets (0 + i)))) (hf (m : Int) - 0).toNat = topR (fun i => hOf (gets i)) 0 (hf (m : Int)).toNat := by
      rw [show (hf (m : Int) - 0).toNat = (hf (m : Int)).toNat by omega]
      exact topG_cut hst 0 _ (by omega)
    have e2 : topG (fun i => hashC (hOf (gets ((hf (m : Int)).toNat + i)))) ((m : Int) - hf (m : Int)).toNat = topR (fun i => hOf (gets i)) (hf (m : Int)).toNat (m - (hf (m : Int)).toNat) := by
      rw [show ((m : Int) - hf (m : Int)).toNat = m - (hf (m : Int)).toNat by omega]
      exact topG_cut hst _ _ (by omega)
    refine Need.mk trivial fun _ => Need.mk (by show (0 : Int) ≤ 0 ∧ 0 ≤ hf (m : Int) ∧ hf (m : Int) ≤ (m : Int); omega) fun _ => Need.mk (by show 0 ≤ hf (m : Int) ∧ hf (m : Int) ≤ (m : Int) ∧ (m : Int) ≤ (m : Int); omega) fun _ => ?_
    refine Need.mk ⟨ksAt_self, rfl, rfl, hst.cut 0 (hf (m : Int) - 0).toNat (by omega), (by show (hf (m : Int) - 0).toNat < N; omega), (by show (hf (m : Int) - 0).toNat ≤ 1073741824; omega)⟩ fun _ => ?_
    refine Need.mk ⟨ksAt_self, rfl, rfl, hst.cut (hf (m : Int)).toNat ((m : Int) - hf (m : Int)).toNat (by omega), (by show ((m : Int) - hf (m : Int)).toNat < N; omega), (by show ((m : Int) - hf (m : Int)).toNat ≤ 1073741824; omega)⟩ fun _ => ?_
    refine Need.mk ⟨ksAt_self, (show HashC (hashC (topG (fun i => hashC (hOf (gets (0 + i)))) (hf (m : Int) - 0).toNat)) from by rw [e1]; exact topG_hash hst 0 _ (by omega)), (show HashC (hashC (topG (fun i => hashC (hOf (gets ((hf (m : Int)).toNat + i)))) ((m : Int) - hf (m : Int)).toNat)) from by rw [e2]; exact topG_hash hst _ _ (by omega))⟩ fun _ => ?_
    show ∃ σ, LeftF _ _ _ σ (.agg (hashC (nodeF (u8s (hashC (topG (fun i => hashC (hOf (gets (0 + i)))) (hf (m : Int) - 0).toNat))) (u8s (hashC (topG (fun i => hashC (hOf (gets ((hf (m : Int)).toNat + i)))) ((m : Int) - hf (m : Int)).toNat)))))) _ (.agg (hashC (topG gets m))) _
    rw [e1, e2, topG_two (by omega) hm, u8s_hash, u8s_hash]
    exact ⟨[0, 1], ⟨rfl, by repeat' (first | exact trivial | exact rfl | apply And.intro), by decide, rfl, by repeat' (first | exact trivial | exact rfl | apply And.intro)⟩⟩

theorem topAll (N : Nat) : Fn Tryd.prog 78 [0] [(24, 32)] (sTopN N) := by
  induction N with
  | zero =>
    refine Fn.plain (by kernel_rfl) (fun args h pre res h' hs => ?_) fun args h pre res h' hs hp ρ W us rel hus => ?_
    · unfold sTopN at hs
      split at hs
      · cases hs; exact ⟨rfl, Nat.le_refl _⟩
      · cases hs
    · unfold sTopN at hs
      split at hs
      · cases hs; exact absurd hp.2.2.2.2.1 (Nat.not_lt_zero _)
      · cases hs
  | succ N ih => exact topStep N ih
def topPre0 (gg sz n : Nat) (get : Nat → List CV) (ty one m : Nat) (gets : Nat → List CV) : Prop := KsAt gg sz n get ∧ ty = 24 ∧ one = 32 ∧ HashesAt m gets ∧ m ≤ 1073741824
def sTop : SpecF
  | [.c (.row 1)], [.glob gg sz n get, .elems ty one m gets] => some (topPre0 gg sz n get ty one m gets, .agg (hashC (topG gets m)), [.dead, .dead])
  | _, _ => none

theorem topP : Fn Tryd.prog 78 [0] [(24, 32)] sTop := by
  refine Fn.plain (by kernel_rfl) (fun args h pre res h' hs => ?_) fun args h pre res h' hs hp ρ W us rel hus => ?_
  · unfold sTop at hs
    split at hs
    · cases hs; exact ⟨rfl, Nat.le_refl _⟩
    · cases hs
  · unfold sTop at hs
    split at hs
    rotate_left
    · cases hs
    rename_i gg sz n get ty one m gets
    cases hs
    obtain ⟨h1, h2, h3, h4, h5⟩ := hp
    exact (topAll (m + 1)).run _ _ _ _ _ rfl ⟨h1, h2, h3, h4, Nat.lt_succ_self m, h5⟩ ρ W us rel hus
end Go.Proofs.YthomoliklfmnkaaDoor.Vx
end

section
/- The law TreeGrows, by the walker. -/
namespace Go.Proofs.YthomoliklfmnkaaDoor.Vx
open Go.RowKit Sha
set_option linter.unusedVariables false
set_option linter.unusedSimpArgs false


end Go.Proofs.YthomoliklfmnkaaDoor.Vx
namespace Go.Proofs.YthomoliklfmnkaaDoor
open Go.ChangeShapes Go.WideShapes Go.ChangeAt Go.RowKit
set_option linter.unusedVariables false
set_option linter.unusedSimpArgs false
section
variable {H : Type} {enc : TypeId × Value → H} {w : World} {base : Nat}
end
end Go.Proofs.YthomoliklfmnkaaDoor
end

section
/- Trees: ways, by the walker. -/
namespace Go.Proofs.YthomoliklfmnkaaDoor.Vx
open Go.RowKit Sha
set_option linter.unusedVariables false
set_option linter.unusedSimpArgs false
/-- The sums beside the way from a leaf up, the lowest first. -/
def wayR (h : Nat → Nat → Int) (lo n : Nat) (i : Int) : List (Nat → Int) :=
  if hc : 1 < n ∧ n ≤ 1073741824 ∧ 0 ≤ i ∧ i < (n : Int) then
    if i < hf n then wayR h lo (hf n).toNat i ++ [topR h (lo + (hf n).toNat) (n - (hf n).toNat)]
    else wayR h (lo + (hf n).toNat) (n - (hf n).toNat) (i - hf n) ++ [topR h lo (hf n).toNat]
  else []
termination_by n
decreasing_by
  · have := hf_lt (n := (n : Int)) (by omega) (by omega); omega
  · have := hf_lt (n := (n : Int)) (by omega) (by omega); omega
theorem wayR_shift (h : Nat → Nat → Int) (a : Nat) : ∀ (n lo : Nat) (i : Int), wayR (fun i => h (a + i)) lo n i = wayR h (a + lo) n i := by
  intro n
  induction n using Nat.strongRecOn with
  | ind n ih =>
    intro lo i
    rw [wayR.eq_def (fun i => h (a + i)), wayR.eq_def h]
    by_cases hc : 1 < n ∧ n ≤ 1073741824 ∧ 0 ≤ i ∧ i < (n : Int)
    · rw [dif_pos hc, dif_pos hc]
      have hh := hf_lt (n := (n : Int)) (by omega) (by omega)
      rw [ih (hf n).toNat (by omega) lo i, ih (n - (hf n).toNat) (by omega) (lo + (hf n).toNat) (i - hf n), topR_shift, topR_shift, Nat.add_assoc]
    · rw [dif_neg hc, dif_neg hc]
theorem wayR_congr {h h' : Nat → Nat → Int} : ∀ (n lo : Nat) (i : Int), (∀ j, lo ≤ j → j < lo + n → h j = h' j) → wayR h lo n i = wayR h' lo n i := by
  intro n
  induction n using Nat.strongRecOn with
  | ind n ih =>
    intro lo i hj
    rw [wayR.eq_def h, wayR.eq_def h']
    by_cases hc : 1 < n ∧ n ≤ 1073741824 ∧ 0 ≤ i ∧ i < (n : Int)
    · rw [dif_pos hc, dif_pos hc]
      have hh := hf_lt (n := (n : Int)) (by omega) (by omega)
      rw [ih (hf n).toNat (by omega) lo i (fun j h1 h2 => hj j h1 (by omega)), ih (n - (hf n).toNat) (by omega) (lo + (hf n).toNat) (i - hf n) (fun j h1 h2 => hj j (by omega) (by omega)), topR_congr (h := h) (h' := h') (n - (hf n).toNat) (lo + (hf n).toNat) (fun j h1 h2 => hj j (by omega) (by omega)), topR_congr (h := h) (h' := h') (hf n).toNat lo (fun j h1 h2 => hj j h1 (by omega))]
    · rw [dif_neg hc, dif_neg hc]
theorem wayR_len (h : Nat → Nat → Int) : ∀ (n lo : Nat) (i : Int), (wayR h lo n i).length ≤ n := by
  intro n
  induction n using Nat.strongRecOn with
  | ind n ih =>
    intro lo i
    rw [wayR.eq_def h]
    by_cases hc : 1 < n ∧ n ≤ 1073741824 ∧ 0 ≤ i ∧ i < (n : Int)
    · rw [dif_pos hc]
      have hh := hf_lt (n := (n : Int)) (by omega) (by omega)
      have a1 := ih (hf n).toNat (by omega) lo i
      have a2 := ih (n - (hf n).toNat) (by omega) (lo + (hf n).toNat) (i - hf n)
      split <;> rw [List.length_append, List.length_singleton] <;> omega
    · rw [dif_neg hc]; exact Nat.zero_le _
def hashesG (l : List (Nat → Int)) (i : Nat) : List CV := hashC (l.getD i fun _ => 0)
def wayG (get : Nat → List CV) (n : Nat) (i : Int) : List (Nat → Int) := wayR (fun i => hOf (get i)) 0 n i
theorem hashesG_push (l : List (Nat → Int)) (f : Nat → Int) (i : Nat) (h : i < l.length + 1) : pushG l.length (hashesG l) (hashC f) i = hashesG (l ++ [f]) i := by
  rcases Nat.lt_or_ge i l.length with hi | hi
  · rw [pushG_lt hi]
    simp [hashesG, List.getD, List.getElem?_append_left hi]
  · obtain rfl : i = l.length := by omega
    rw [pushG_eq]
    simp [hashesG, List.getD]
theorem wayG_cut {gets : Nat → List CV} {m : Nat} (h : HashesAt m gets) (a k : Nat) (i : Int) (hk : a + k ≤ m) : wayG (fun i => hashC (hOf (gets (a + i)))) k i = wayR (fun i => hOf (gets i)) a k i := by
  unfold wayG
  have := wayR_shift (fun i => hOf (gets i)) a k 0 i
  rw [Nat.add_zero] at this
  rw [← this]
  refine wayR_congr k 0 i fun j _ hj => ?_
  exact hOf_idem (h (a + j) (by omega))
theorem wayG_out {gets : Nat → List CV} {m : Nat} {i : Int} (h : ¬ (1 < m ∧ m ≤ 1073741824 ∧ 0 ≤ i ∧ i < (m : Int))) : wayG gets m i = [] := by
  unfold wayG
  rw [wayR, dif_neg h]
theorem wayG_lo {gets : Nat → List CV} {m : Nat} {i : Int} (h : 1 < m ∧ m ≤ 1073741824 ∧ 0 ≤ i ∧ i < (m : Int)) (hi : i < hf m) : wayG gets m i = wayR (fun i => hOf (gets i)) 0 (hf m).toNat i ++ [topR (fun i => hOf (gets i)) (hf m).toNat (m - (hf m).toNat)] := by
  unfold wayG
  rw [wayR, dif_pos h, if_pos hi, Nat.zero_add]
theorem wayG_hi {gets : Nat → List CV} {m : Nat} {i : Int} (h : 1 < m ∧ m ≤ 1073741824 ∧ 0 ≤ i ∧ i < (m : Int)) (hi : ¬ i < hf m) : wayG gets m i = wayR (fun i => hOf (gets i)) (hf m).toNat (m - (hf m).toNat) (i - hf m) ++ [topR (fun i => hOf (gets i)) 0 (hf m).toNat] := by
  unfold wayG
  rw [wayR, dif_pos h, if_neg hi, Nat.zero_add]
def wayPre (N : Nat) (gg sz n : Nat) (get : Nat → List CV) (ty one m : Nat) (gets : Nat → List CV) : Prop := KsAt gg sz n get ∧ ty = 24 ∧ one = 32 ∧ HashesAt m gets ∧ m < N ∧ m ≤ 1000000
def sWayN (N : Nat) : SpecF
  | [.c (.row 1), .c (.int .i64 i)], [.glob gg sz n get, .elems ty one m gets] => some (wayPre N gg sz n get ty one m gets, .c (.row 2), [.dead, .dead, .row 24 32 (wayG gets m i).length (hashesG (wayG gets m i))])
  | _, _ => none

set_option maxRecDepth 100000 in
set_option maxHeartbeats 8000000 in
theorem wayStep (N : Nat) (ih : Fn Tryd.prog 85 [0] [(24, 32)] (sWayN N)) : Fn Tryd.prog 85 [0] [(24, 32)] (sWayN (N + 1)) := by
  have hC : CtsOk Tryd.prog [(121, appPure sHalf), (85, appFn [0] [(24, 32)] (sWayN N)), (78, appFn [0] [(24, 32)] sTop)] := CtsOk.cons (Pure.ct halfP) <| CtsOk.cons (Fn.ct ih) <| CtsOk.cons (Fn.ct topP) <| CtsOk.nil _
  refine Fn.of (E := tbH) [0] 0 [(5, [(2002, false), (2003, false), (2004, false), (2005, false), (0, true), (1, true), (2, true), (3, true), (5, true), (6, true), (7, true), (4, false), (8, false), (9, false), (10, false), (11, true)]), (6, [(2002, false), (2003, false), (2004, false), (2005, false), (0, true), (1, true), (2, true), (3, true), (4, true), (5, true), (7, true), (8, true), (9, true), (6, false), (10, false), (11, false), (12, false), (13, true)])] tbH_ok hC (by kernel_rfl) Tryd.func85 rfl rfl rfl (by kernel_rfl) (by kernel_rfl) 2 24 32 ?_ ?_
  · intro args h pre r h' hs
    unfold sWayN at hs
    split at hs
    · cases hs; exact ⟨rfl, rfl, Nat.le_of_ble_eq_true rfl⟩
    · cases hs
  · intro args h pre r h' hs hp
    unfold sWayN at hs
    split at hs
    rotate_left
    · cases hs
    rename_i i gg sz n get ty one m gets
    cases hs
    obtain ⟨hK, rfl, rfl, hst, hlt, hm⟩ := hp
    refine ⟨[.glob 0 1 64 (fun i => [.int .u32 (kOf i)]), .elems 24 32 m (fun i => hashC (hOf (gets i)))], ⟨hK.same.1, hst.same.1, trivial⟩, ?_⟩
    clear hK
    unfold sWayN sTop sHalf
    generalize hg0 : (List.length : List (Nat → Int) → Nat) = g0
    generalize ho0 : @hf = zo0, ho1 : @hOf = zo1, ho2 : @topG = zo2, ho3 : @topPre0 = zo3, ho4 : @HashesAt = zo4, ho5 : @cutC = zo5, ho6 : @kOf = zo6, ho7 : @nodeF = zo7, ho8 : @wayG = zo8, ho9 : @wayPre = zo9, ho10 : @hashesG = zo10
    generalize hA : Arith.std = A
    cbv
    subst hA hg0 ho0 ho1 ho2 ho3 ho4 ho5 ho6 ho7 ho8 ho9 ho10
    refine Ife.mk (fun h => ?_) (fun h => ?_)
    · have h : i < 0 := of_decide_eq_true (p := i < 0) h
      rw [wayG_out (by omega)]
      exact ⟨[0, 1, 2], ⟨rfl, rfl, (by show List.Nodup [2]; decide), rfl, by repeat' (first | exact trivial | exact rfl | apply And.intro | (intro i hi; rfl) | (intro i hi; exact absurd hi (Nat.not_lt_zero _)))⟩⟩
    have h0 : ¬ i < 0 := of_decide_eq_false (p := i < 0) h
    refine Ife.mk (fun h => ?_) (fun h => ?_)
    · have h : (m : Int) ≤ i := of_decide_eq_true (p := (m : Int) ≤ i) h
      rw [wayG_out (by omega)]
      exact ⟨[0, 1, 2], ⟨rfl, rfl, (by show List.Nodup [2]; decide), rfl, by repeat' (first | exact trivial | exact rfl | apply And.intro | (intro i hi; rfl) | (intro i hi; exact absurd hi (Nat.not_lt_zero _)))⟩⟩
    have h1 : ¬ (m : Int) ≤ i := of_decide_eq_false (p := (m : Int) ≤ i) h
    refine Ife.mk (fun h => ?_) (fun h => ?_)
    · have h : (m : Int) < 2 := of_decide_eq_true (p := (m : Int) < 2) h
      rw [wayG_out (by omega)]
      exact ⟨[0, 1, 2], ⟨rfl, rfl, (by show List.Nodup [2]; decide), rfl, by repeat' (first | exact trivial | exact rfl | apply And.intro | (intro i hi; rfl) | (intro i hi; exact absurd hi (Nat.not_lt_zero _)))⟩⟩
    have h2 : ¬ (m : Int) < 2 := of_decide_eq_false (p := (m : Int) < 2) h
    have hh := hf_lt (n := (m : Int)) (by omega) (by omega)
    have hc : 1 < m ∧ m ≤ 1073741824 ∧ 0 ≤ i ∧ i < (m : Int) := by omega
    have k1 : (hf (m : Int) - 0).toNat = (hf (m : Int)).toNat := by omega
    have k2 : ((m : Int) - hf (m : Int)).toNat = m - (hf (m : Int)).toNat := by omega
    have e1 : topG (fun i => hashC (hOf (gets (0 + i)))) (hf (m : Int) - 0).toNat = topR (fun i => hOf (gets i)) 0 (hf (m : Int)).toNat := by rw [k1]; exact topG_cut hst 0 _ (by omega)
    have e2 : topG (fun i => hashC (hOf (gets ((hf (m : Int)).toNat + i)))) ((m : Int) - hf (m : Int)).toNat = topR (fun i => hOf (gets i)) (hf (m : Int)).toNat (m - (hf (m : Int)).toNat) := by rw [k2]; exact topG_cut hst _ _ (by omega)
    have f1 : wayG (fun i => hashC (hOf (gets (0 + i)))) (hf (m : Int) - 0).toNat i = wayR (fun i => hOf (gets i)) 0 (hf (m : Int)).toNat i := by rw [k1]; exact wayG_cut hst 0 _ i (by omega)
    have f2 : wayG (fun i => hashC (hOf (gets ((hf (m : Int)).toNat + i)))) ((m : Int) - hf (m : Int)).toNat (i - hf (m : Int)) = wayR (fun i => hOf (gets i)) (hf (m : Int)).toNat (m - (hf (m : Int)).toNat) (i - hf (m : Int)) := by rw [k2]; exact wayG_cut hst _ _ _ (by omega)
    have c1 : HashesAt (hf (m : Int) - 0).toNat (fun i => hashC (hOf (gets (0 + i)))) := hst.cut 0 _ (by omega)
    have c2 : HashesAt ((m : Int) - hf (m : Int)).toNat (fun i => hashC (hOf (gets ((hf (m : Int)).toNat + i)))) := hst.cut _ _ (by omega)
    have s1 : (0 : Int) ≤ 0 ∧ 0 ≤ hf (m : Int) ∧ hf (m : Int) ≤ (m : Int) := by omega
    have s2 : 0 ≤ hf (m : Int) ∧ hf (m : Int) ≤ (m : Int) ∧ (m : Int) ≤ (m : Int) := by omega
    have z1 := wayR_len (fun i => hOf (gets i)) (hf (m : Int)).toNat 0 i
    have z2 := wayR_len (fun i => hOf (gets i)) (m - (hf (m : Int)).toNat) (hf (m : Int)).toNat (i - hf (m : Int))
    refine Need.mk trivial fun _ => ?_
    refine Ife.mk (fun h => ?_) (fun h => ?_)
    · have h : i < hf (m : Int) := of_decide_eq_true (p := i < hf (m : Int)) h
      refine Need.mk s1 fun _ => Need.mk s2 fun _ => Need.mk ⟨ksAt_self, rfl, rfl, c1, (by show (hf (m : Int) - 0).toNat < N; omega), (by show (hf (m : Int) - 0).toNat ≤ 1000000; omega)⟩ fun _ => Need.mk ⟨ksAt_self, rfl, rfl, c2, (by show ((m : Int) - hf (m : Int)).toNat ≤ 1073741824; omega)⟩ fun _ => ?_
      refine Need.mk (by show (wayG (fun i => hashC (hOf (gets (0 + i)))) (hf (m : Int) - 0).toNat i).length + 1 ≤ maxLen ∧ ((wayG (fun i => hashC (hOf (gets (0 + i)))) (hf (m : Int) - 0).toNat i).length + 1) * 32 ≤ 140737488355328; rw [f1]; unfold maxLen; omega) fun _ => ?_
      rw [wayG_lo hc h, ← f1, ← e2]
      exact ⟨[0, 1, 6], ⟨rfl, rfl, (by show List.Nodup [6]; decide), rfl, by
        repeat' (first | exact trivial | exact rfl | apply And.intro)
        · refine Eq.trans ?_ List.length_append.symm
          rfl
        · intro j hj
          exact hashesG_push _ _ j (Nat.lt_of_lt_of_eq hj List.length_append)⟩⟩
    · have h : ¬ i < hf (m : Int) := of_decide_eq_false (p := i < hf (m : Int)) h
      refine Need.mk s2 fun _ => Need.mk (by show fitStd .i64 (i - hf (m : Int)); unfold fitStd; omega) fun _ => Need.mk s1 fun _ => Need.mk ⟨ksAt_self, rfl, rfl, c2, (by show ((m : Int) - hf (m : Int)).toNat < N; omega), (by show ((m : Int) - hf (m : Int)).toNat ≤ 1000000; omega)⟩ fun _ => Need.mk ⟨ksAt_self, rfl, rfl, c1, (by show (hf (m : Int) - 0).toNat ≤ 1073741824; omega)⟩ fun _ => ?_
      refine Need.mk (by show (wayG (fun i => hashC (hOf (gets ((hf (m : Int)).toNat + i)))) ((m : Int) - hf (m : Int)).toNat (i - hf (m : Int))).length + 1 ≤ maxLen ∧ ((wayG (fun i => hashC (hOf (gets ((hf (m : Int)).toNat + i)))) ((m : Int) - hf (m : Int)).toNat (i - hf (m : Int))).length + 1) * 32 ≤ 140737488355328; rw [f2]; unfold maxLen; omega) fun _ => ?_
      rw [wayG_hi hc h, ← f2, ← e1]
      exact ⟨[0, 1, 6], ⟨rfl, rfl, (by show List.Nodup [6]; decide), rfl, by
        repeat' (first | exact trivial | exact rfl | apply And.intro)
        · refine Eq.trans ?_ List.length_append.symm
          rfl
        · intro j hj
          exact hashesG_push _ _ j (Nat.lt_of_lt_of_eq hj List.length_append)⟩⟩

theorem wayAll (N : Nat) : Fn Tryd.prog 85 [0] [(24, 32)] (sWayN N) := by
  induction N with
  | zero =>
    refine Fn.plain (by kernel_rfl) (fun args h pre res h' hs => ?_) fun args h pre res h' hs hp ρ W us rel hus => ?_
    · unfold sWayN at hs
      split at hs
      · cases hs; exact ⟨rfl, Nat.le_of_ble_eq_true rfl⟩
      · cases hs
    · unfold sWayN at hs
      split at hs
      · cases hs; exact absurd hp.2.2.2.2.1 (Nat.not_lt_zero _)
      · cases hs
  | succ N ih => exact wayStep N ih
def wayPre0 (gg sz n : Nat) (get : Nat → List CV) (ty one m : Nat) (gets : Nat → List CV) : Prop := KsAt gg sz n get ∧ ty = 24 ∧ one = 32 ∧ HashesAt m gets ∧ m ≤ 1000000
def sWay : SpecF
  | [.c (.row 1), .c (.int .i64 i)], [.glob gg sz n get, .elems ty one m gets] => some (wayPre0 gg sz n get ty one m gets, .c (.row 2), [.dead, .dead, .row 24 32 (wayG gets m i).length (hashesG (wayG gets m i))])
  | _, _ => none

theorem wayP : Fn Tryd.prog 85 [0] [(24, 32)] sWay := by
  refine Fn.plain (by kernel_rfl) (fun args h pre res h' hs => ?_) fun args h pre res h' hs hp ρ W us rel hus => ?_
  · unfold sWay at hs
    split at hs
    · cases hs; exact ⟨rfl, Nat.le_of_ble_eq_true rfl⟩
    · cases hs
  · unfold sWay at hs
    split at hs
    rotate_left
    · cases hs
    rename_i i gg sz n get ty one m gets
    cases hs
    obtain ⟨h1, h2, h3, h4, h5⟩ := hp
    exact (wayAll (m + 1)).run _ _ _ _ _ rfl ⟨h1, h2, h3, h4, Nat.lt_succ_self m, h5⟩ ρ W us rel hus
end Go.Proofs.YthomoliklfmnkaaDoor.Vx
end

section
/- Trees: folds, by the walker. -/
namespace Go.Proofs.YthomoliklfmnkaaDoor.Vx
open Go.RowKit Sha
set_option linter.unusedVariables false
set_option linter.unusedSimpArgs false
/-- The sum above leaves that comes of one of them, and of the sums beside. -/
def foldR (W : Nat → Nat → Int) (leaf : Nat → Int) : Nat → Int → Int → (Nat → Int)
  | 0, _, _ => leaf
  | k + 1, n, i => if i < hf n then nodeF (hashB (foldR W leaf k (hf n) i)) (hashB (W k)) else nodeF (hashB (W k)) (hashB (foldR W leaf k (n - hf n) (i - hf n)))
theorem foldR_congr {W W' : Nat → Nat → Int} (leaf : Nat → Int) : ∀ (k : Nat) (n i : Int), (∀ j, j < k → W j = W' j) → foldR W leaf k n i = foldR W' leaf k n i
  | 0, _, _, _ => rfl
  | k + 1, n, i, h => by
    unfold foldR
    rw [foldR_congr leaf k (hf n) i (fun j hj => h j (by omega)), foldR_congr leaf k (n - hf n) (i - hf n) (fun j hj => h j (by omega)), h k (by omega)]
theorem foldR_range {W : Nat → Nat → Int} {leaf : Nat → Int} (hl : ∀ j, 0 ≤ leaf j ∧ leaf j < 256) : ∀ (k : Nat) (n i : Int) (j : Nat), 0 ≤ foldR W leaf k n i j ∧ foldR W leaf k n i j < 256
  | 0, _, _, j => hl j
  | k + 1, n, i, j => by
    unfold foldR
    split <;> exact sumI_range _ j
theorem hf_in (n : Int) (h0 : 0 ≤ n) (h1 : n ≤ 1073741824) : 0 ≤ hf n ∧ hf n ≤ n := by
  by_cases h : n < 2
  · rw [hf_zero (Or.inl h)]; omega
  · have := hf_lt (n := n) (by omega) h1; omega
def foldG (get : Nat → List CV) (leaf : List CV) (k : Nat) (n i : Int) : Nat → Int := foldR (fun j => hOf (get j)) (hOf leaf) k n i
def foldPre (K : Nat) (gg sz n : Nat) (get : Nat → List CV) (ty one m : Nat) (gets : Nat → List CV) (leaf : List CV) (a i : Int) : Prop := KsAt gg sz n get ∧ ty = 24 ∧ one = 32 ∧ HashesAt m gets ∧ HashC leaf ∧ m < K ∧ m ≤ 1000000 ∧ 0 ≤ a ∧ a ≤ 1073741824 ∧ 0 ≤ i ∧ i ≤ 1073741824
def sFoldN (K : Nat) : SpecF
  | [.c (.int .i64 a), .c (.int .i64 i), .agg leaf, .c (.row 1)], [.glob gg sz n get, .elems ty one m gets] => some (foldPre K gg sz n get ty one m gets leaf a i, .agg (hashC (foldG gets leaf m a i)), [.dead, .dead])
  | _, _ => none

set_option maxRecDepth 100000 in
set_option maxHeartbeats 8000000 in
theorem foldStep (K : Nat) (ih : Fn Tryd.prog 153 [0] [(24, 32)] (sFoldN K)) : Fn Tryd.prog 153 [0] [(24, 32)] (sFoldN (K + 1)) := by
  have hC : CtsOk Tryd.prog [(121, appPure sHalf), (153, appFn [0] [(24, 32)] (sFoldN K)), (122, appFn [0] [] sNode)] := CtsOk.cons (Pure.ct halfP) <| CtsOk.cons (Fn.ct ih) <| CtsOk.cons (Fn.ct nodeP) <| CtsOk.nil _
  refine Fn.of (E := tbH) [0] 0 [(5, [(2003, false), (0, true), (1, true), (2, true), (3, true), (4, true), (5, true), (7, true), (8, true), (9, true), (10, true), (6, false), (11, false), (12, false)]), (6, [(2003, false), (0, true), (1, true), (2, true), (3, true), (4, true), (5, true), (6, true), (7, true), (8, true), (9, true), (10, true), (11, true), (12, true), (13, true), (14, false), (15, false), (16, false)])] tbH_ok hC (by kernel_rfl) Tryd.func153 rfl rfl rfl (by kernel_rfl) (by kernel_rfl) 2 5 1 ?_ ?_
  · intro args h pre r h' hs
    unfold sFoldN at hs
    split at hs
    · cases hs; exact ⟨rfl, rfl, Nat.le_of_ble_eq_true rfl⟩
    · cases hs
  · intro args h pre r h' hs hp
    unfold sFoldN at hs
    split at hs
    rotate_left
    · cases hs
    rename_i a i leaf gg sz n get ty one m gets
    cases hs
    obtain ⟨hK, rfl, rfl, hst, ⟨f, rfl, hf_⟩, hlt, hm, a0, a1, i0, i1⟩ := hp
    refine ⟨[.glob 0 1 64 (fun i => [.int .u32 (kOf i)]), .elems 24 32 m (fun i => hashC (hOf (gets i)))], ⟨hK.same.1, hst.same.1, trivial⟩, ?_⟩
    clear hK
    unfold hashC
    unfold sFoldN sNode sHalf
    generalize ho0 : @hf = zo0, ho1 : @hOf = zo1, ho2 : @HashesAt = zo2, ho3 : @cutC = zo3, ho4 : @kOf = zo4, ho5 : @HashC = zo5, ho6 : @u8s = zo6, ho7 : @nodeF = zo7, ho8 : @nodePre = zo8, ho9 : @foldG = zo9, ho10 : @foldPre = zo10
    generalize hA : Arith.std = A
    cbv
    subst hA ho0 ho1 ho2 ho3 ho4 ho5 ho6 ho7 ho8 ho9 ho10
    refine Ife.mk (fun h => ?_) (fun h => ?_)
    · have h : (m : Int) = 0 := of_decide_eq_true (p := (m : Int) = 0) h
      obtain rfl : m = 0 := by omega
      show ∃ σ, LeftF _ _ _ σ _ _ (.agg (hashC (hOf (hashC f)))) _
      exact ⟨[0, 1], ⟨rfl, by repeat' (first | exact trivial | exact rfl | apply And.intro), by decide, rfl, by repeat' (first | exact trivial | exact rfl | apply And.intro)⟩⟩
    have h0 : ¬ (m : Int) = 0 := of_decide_eq_false (p := (m : Int) = 0) h
    obtain ⟨k, rfl⟩ : ∃ k, m = k + 1 := ⟨m - 1, by omega⟩
    have hh := hf_in a a0 a1
    have kk : (((k + 1 : Nat) : Int) - 1 - 0).toNat = k := by omega
    have kl : (((k + 1 : Nat) : Int) - 1).toNat = k := by omega
    have cg : ∀ n j : Int, foldG (fun j => hashC (hOf (gets (0 + j)))) (hashC f) (((k + 1 : Nat) : Int) - 1 - 0).toNat n j = foldR (fun j => hOf (gets j)) (hOf (hashC f)) k n j := fun n j => by
      rw [kk]
      unfold foldG
      refine foldR_congr _ k n j fun j hj => ?_
      show hOf (hashC (hOf (gets (0 + j)))) = hOf (gets j)
      rw [Nat.zero_add]
      exact hOf_idem (hst j (by omega))
    have c1 : HashesAt (((k + 1 : Nat) : Int) - 1 - 0).toNat (fun j => hashC (hOf (gets (0 + j)))) := hst.cut 0 _ (by omega)
    have hL : HashC (hashC f) := ⟨_, rfl, hf_⟩
    have rg : ∀ n j : Int, HashC (hashC (foldG (fun j => hashC (hOf (gets (0 + j)))) (hashC f) (((k + 1 : Nat) : Int) - 1 - 0).toNat n j)) := fun n j => by
      rw [cg]
      exact ⟨_, rfl, foldR_range (fun j => hOf_range hL j) k n j⟩
    have rk : HashC (hashC (hOf (gets (((k + 1 : Nat) : Int) - 1).toNat))) := ⟨_, rfl, fun j => hOf_range (hst _ (by omega)) j⟩
    have fl : fitStd .i64 (((k + 1 : Nat) : Int) - 1) := by unfold fitStd; omega
    have n1 : (0 : Int) ≤ 0 ∧ (0 : Int) ≤ ((k + 1 : Nat) : Int) - 1 ∧ ((k + 1 : Nat) : Int) - 1 ≤ ((k + 1 : Nat) : Int) := by omega
    have n2 : (0 : Int) ≤ ((k + 1 : Nat) : Int) - 1 ∧ ((k + 1 : Nat) : Int) - 1 < ((k + 1 : Nat) : Int) := by omega
    have n3 : (((k + 1 : Nat) : Int) - 1).toNat < k + 1 := by omega
    refine Need.mk trivial fun _ => Need.mk fl fun _ => ?_
    refine Ife.mk (fun h => ?_) (fun h => ?_)
    · have h : i < hf a := of_decide_eq_true (p := i < hf a) h
      have p1 : foldPre K 0 1 64 (fun i => [.int .u32 (kOf i)]) 24 32 (((k + 1 : Nat) : Int) - 1 - 0).toNat (fun j => hashC (hOf (gets (0 + j)))) (hashC f) (hf a) i := ⟨ksAt_self, rfl, rfl, c1, hL, by omega, by omega, by omega, by omega, i0, i1⟩
      repeat (first | refine Need.mk n1 fun _ => ?_ | refine Need.mk n2 fun _ => ?_ | refine Need.mk n3 fun _ => ?_ | refine Need.mk p1 fun _ => ?_)
      refine Need.mk ⟨ksAt_self, rg (hf a) i, rk⟩ fun _ => ?_
      show ∃ σ, LeftF _ _ _ σ (.agg (hashC (nodeF (u8s (hashC (foldG (fun j => hashC (hOf (gets (0 + j)))) (hashC f) (((k + 1 : Nat) : Int) - 1 - 0).toNat (hf a) i))) (u8s (hashC (hOf (gets (((k + 1 : Nat) : Int) - 1).toNat))))))) _ (.agg (hashC (foldG gets (hashC f) (k + 1) a i))) _
      rw [cg, kl, show foldG gets (hashC f) (k + 1) a i = nodeF (hashB (foldR (fun j => hOf (gets j)) (hOf (hashC f)) k (hf a) i)) (hashB (hOf (gets k))) by unfold foldG; rw [foldR, if_pos h], u8s_hash, u8s_hash]
      exact ⟨[0, 1], ⟨rfl, by repeat' (first | exact trivial | exact rfl | apply And.intro), by decide, rfl, by repeat' (first | exact trivial | exact rfl | apply And.intro)⟩⟩
    · have h : ¬ i < hf a := of_decide_eq_false (p := i < hf a) h
      have p1 : foldPre K 0 1 64 (fun i => [.int .u32 (kOf i)]) 24 32 (((k + 1 : Nat) : Int) - 1 - 0).toNat (fun j => hashC (hOf (gets (0 + j)))) (hashC f) (a - hf a) (i - hf a) := ⟨ksAt_self, rfl, rfl, c1, hL, by omega, by omega, by omega, by omega, by omega, by omega⟩
      have n4 : fitStd .i64 (a - hf a) := by unfold fitStd; omega
      have n5 : fitStd .i64 (i - hf a) := by unfold fitStd; omega
      repeat (first | refine Need.mk n1 fun _ => ?_ | refine Need.mk n2 fun _ => ?_ | refine Need.mk n3 fun _ => ?_ | refine Need.mk n4 fun _ => ?_ | refine Need.mk n5 fun _ => ?_ | refine Need.mk p1 fun _ => ?_)
      refine Need.mk ⟨ksAt_self, rk, rg (a - hf a) (i - hf a)⟩ fun _ => ?_
      show ∃ σ, LeftF _ _ _ σ (.agg (hashC (nodeF (u8s (hashC (hOf (gets (((k + 1 : Nat) : Int) - 1).toNat)))) (u8s (hashC (foldG (fun j => hashC (hOf (gets (0 + j)))) (hashC f) (((k + 1 : Nat) : Int) - 1 - 0).toNat (a - hf a) (i - hf a))))))) _ (.agg (hashC (foldG gets (hashC f) (k + 1) a i))) _
      rw [cg, kl, show foldG gets (hashC f) (k + 1) a i = nodeF (hashB (hOf (gets k))) (hashB (foldR (fun j => hOf (gets j)) (hOf (hashC f)) k (a - hf a) (i - hf a))) by unfold foldG; rw [foldR, if_neg h], u8s_hash, u8s_hash]
      exact ⟨[0, 1], ⟨rfl, by repeat' (first | exact trivial | exact rfl | apply And.intro), by decide, rfl, by repeat' (first | exact trivial | exact rfl | apply And.intro)⟩⟩

theorem foldAll (K : Nat) : Fn Tryd.prog 153 [0] [(24, 32)] (sFoldN K) := by
  induction K with
  | zero =>
    refine Fn.plain (by kernel_rfl) (fun args h pre res h' hs => ?_) fun args h pre res h' hs hp ρ W us rel hus => ?_
    · unfold sFoldN at hs
      split at hs
      · cases hs; exact ⟨rfl, Nat.le_refl _⟩
      · cases hs
    · unfold sFoldN at hs
      split at hs
      · cases hs; exact absurd hp.2.2.2.2.2.1 (Nat.not_lt_zero _)
      · cases hs
  | succ K ih => exact foldStep K ih
def foldPre0 (gg sz n : Nat) (get : Nat → List CV) (ty one m : Nat) (gets : Nat → List CV) (leaf : List CV) (a i : Int) : Prop := KsAt gg sz n get ∧ ty = 24 ∧ one = 32 ∧ HashesAt m gets ∧ HashC leaf ∧ m ≤ 1000000 ∧ 0 ≤ a ∧ a ≤ 1073741824 ∧ 0 ≤ i ∧ i ≤ 1073741824
def sFold0 : SpecF
  | [.c (.int .i64 a), .c (.int .i64 i), .agg leaf, .c (.row 1)], [.glob gg sz n get, .elems ty one m gets] => some (foldPre0 gg sz n get ty one m gets leaf a i, .agg (hashC (foldG gets leaf m a i)), [.dead, .dead])
  | _, _ => none

theorem fold0P : Fn Tryd.prog 153 [0] [(24, 32)] sFold0 := by
  refine Fn.plain (by kernel_rfl) (fun args h pre res h' hs => ?_) fun args h pre res h' hs hp ρ W us rel hus => ?_
  · unfold sFold0 at hs
    split at hs
    · cases hs; exact ⟨rfl, Nat.le_refl _⟩
    · cases hs
  · unfold sFold0 at hs
    split at hs
    rotate_left
    · cases hs
    rename_i a i leaf gg sz n get ty one m gets
    cases hs
    obtain ⟨h1, h2, h3, h4, h5, h6, h7⟩ := hp
    exact (foldAll (m + 1)).run _ _ _ _ _ rfl ⟨h1, h2, h3, h4, h5, Nat.lt_succ_self m, h6, h7⟩ ρ W us rel hus
def fdB (m : Nat) (a i : Int) : Bool := inN a i && decide ((m : Int) = deep a i)
def fdH (gets : Nat → List CV) (leaf : List CV) (m : Nat) (a i : Int) : Nat → Int := if fdB m a i then foldG gets leaf m a i else fun _ => 0
def fdPre (gg sz n : Nat) (get : Nat → List CV) (ty one m : Nat) (gets : Nat → List CV) (leaf : List CV) : Prop := KsAt gg sz n get ∧ ty = 24 ∧ one = 32 ∧ HashesAt m gets ∧ HashC leaf ∧ m ≤ 1000000
def sFold : SpecF
  | [.c (.int .i64 a), .c (.int .i64 i), .agg leaf, .c (.row 1)], [.glob gg sz n get, .elems ty one m gets] => some (fdPre gg sz n get ty one m gets leaf, .tup [(none, hashC (fdH gets leaf m a i)), (some (.bool (fdB m a i)), [])], [.dead, .dead])
  | _, _ => none

set_option maxRecDepth 100000 in
set_option maxHeartbeats 8000000 in
theorem fdP : Fn Tryd.prog 127 [0] [(24, 32)] sFold := by
  have hC : CtsOk Tryd.prog [(129, appPure sIn), (89, appPure sDeep), (153, appFn [0] [(24, 32)] sFold0)] := CtsOk.cons (Pure.ct inP) <| CtsOk.cons (Pure.ct deepP) <| CtsOk.cons (Fn.ct fold0P) <| CtsOk.nil _
  refine Fn.of (E := tbH) [0] 0 [] tbH_ok hC (by kernel_rfl) Tryd.func127 rfl rfl rfl (by kernel_rfl) (by kernel_rfl) 2 5 1 ?_ ?_
  · intro args h pre r h' hs
    unfold sFold at hs
    split at hs
    · cases hs; exact ⟨rfl, rfl, Nat.le_of_ble_eq_true rfl⟩
    · cases hs
  · intro args h pre r h' hs hp
    unfold sFold at hs
    split at hs
    rotate_left
    · cases hs
    rename_i a i leaf gg sz n get ty one m gets
    cases hs
    obtain ⟨hK, rfl, rfl, hst, ⟨f, rfl, hf_⟩, hm⟩ := hp
    refine ⟨[.glob 0 1 64 (fun i => [.int .u32 (kOf i)]), .elems 24 32 m (fun i => hashC (hOf (gets i)))], ⟨hK.same.1, hst.same.1, trivial⟩, ?_⟩
    clear hK
    unfold hashC
    unfold sFold0 sIn sDeep
    generalize ho0 : @hOf = zo0, ho1 : @HashesAt = zo1, ho2 : @cutC = zo2, ho3 : @kOf = zo3, ho4 : @HashC = zo4, ho5 : @foldG = zo5, ho6 : @foldPre0 = zo6, ho7 : @fdB = zo7, ho8 : @fdH = zo8, ho9 : @fdPre = zo9, ho10 : @inN = zo10, ho11 : @deep = zo11
    generalize hA : Arith.std = A
    cbv
    subst hA ho0 ho1 ho2 ho3 ho4 ho5 ho6 ho7 ho8 ho9 ho10 ho11
    have hL : HashC (hashC f) := ⟨_, rfl, hf_⟩
    refine Need.mk trivial fun _ => ?_
    refine Ife.mk (fun h => ?_) (fun h => ?_)
    · have h : inN a i = false := by
        have h6 : (!inN a i) = true := h
        simpa using h6
      have e : fdB m a i = false := by unfold fdB; rw [h]; rfl
      have e2 : fdH gets (hashC f) m a i = fun _ => 0 := by unfold fdH; rw [e]; rfl
      show ∃ σ, LeftF _ _ _ σ _ _ (.tup [(none, hashC (fdH gets (hashC f) m a i)), (some (.bool (fdB m a i)), [])]) _
      rw [e, e2]
      exact ⟨[0, 1], ⟨rfl, by repeat' (first | exact trivial | exact rfl | apply And.intro), by decide, rfl, by repeat' (first | exact trivial | exact rfl | apply And.intro)⟩⟩
    have h1 : inN a i = true := by
      have h6 : (!inN a i) = false := h
      simpa using h6
    obtain ⟨b1, b2, b3⟩ := inN_iff.1 h1
    refine Need.mk trivial fun _ => ?_
    refine Ife.mk (fun h => ?_) (fun h => ?_)
    · have h : ¬ (m : Int) = deep a i := by
        have h6 : (!decide ((m : Int) = deep a i)) = true := h
        simpa using h6
      have e : fdB m a i = false := by unfold fdB; rw [h1]; simp [h]
      have e2 : fdH gets (hashC f) m a i = fun _ => 0 := by unfold fdH; rw [e]; rfl
      show ∃ σ, LeftF _ _ _ σ _ _ (.tup [(none, hashC (fdH gets (hashC f) m a i)), (some (.bool (fdB m a i)), [])]) _
      rw [e, e2]
      exact ⟨[0, 1], ⟨rfl, by repeat' (first | exact trivial | exact rfl | apply And.intro), by decide, rfl, by repeat' (first | exact trivial | exact rfl | apply And.intro)⟩⟩
    have h : (m : Int) = deep a i := by
      have h6 : (!decide ((m : Int) = deep a i)) = false := h
      simpa using h6
    have e : fdB m a i = true := by unfold fdB; rw [h1]; simp [h]
    have c1 : HashesAt m (fun i => hashC (hOf (gets i))) := fun j hj => ⟨_, rfl, hOf_range (hst j hj)⟩
    have e3 : foldG (fun i => hashC (hOf (gets i))) (hashC f) m a i = fdH gets (hashC f) m a i := by
      unfold fdH foldG
      rw [e, if_pos rfl]
      exact foldR_congr _ m a i fun j hj => hOf_idem (hst j hj)
    refine Need.mk ⟨ksAt_self, rfl, rfl, c1, hL, hm, by omega, by omega, by omega, by omega⟩ fun _ => ?_
    show ∃ σ, LeftF _ _ _ σ (.tup [(none, hashC (foldG (fun i => hashC (hOf (gets i))) (hashC f) m a i)), (some .tt, [])]) _ (.tup [(none, hashC (fdH gets (hashC f) m a i)), (some (.bool (fdB m a i)), [])]) _
    rw [e3, e]
    exact ⟨[0, 1], ⟨rfl, by repeat' (first | exact trivial | exact rfl | apply And.intro), by decide, rfl, by repeat' (first | exact trivial | exact rfl | apply And.intro)⟩⟩

end Go.Proofs.YthomoliklfmnkaaDoor.Vx
end
