/- Trees: halves and depths, by the walker. -/
import Derived.Test.YtophhppklaofaaaDoorM19
import Derived.Lib.ItoaNum
section
namespace Go.Proofs.YtophhppklaofaaaDoor.Vx
open Go.RowKit Sha
set_option linter.unusedVariables false
set_option linter.unusedSimpArgs false
def lebMay (n : Int) : Bool := decide (0 ≤ n) && decide (n ≤ 72057594037927935)
theorem eight_byte (n i : Int) (h0 : 0 ≤ n) (h1 : n ≤ 72057594037927935) (hi0 : 0 ≤ i) (hi1 : i < 8) : IntKind.wrap .u8 ((IntKind.wrap .u64 n).fdiv (2 ^ (min (8 * i).toNat 64))) = d8 n (7 - i.toNat) := by
  have hw : IntKind.wrap .u64 n = n := by rw [IntKind.wrap_u64]; omega
  have hc : i = 0 ∨ i = 1 ∨ i = 2 ∨ i = 3 ∨ i = 4 ∨ i = 5 ∨ i = 6 ∨ i = 7 := by omega
  have he : (2 : Int) ^ (min (8 * i).toNat 64) = 256 ^ (7 - (7 - i.toNat)) := by
    rcases hc with rfl | rfl | rfl | rfl | rfl | rfl | rfl | rfl <;> decide
  rw [hw, wrap_u8, he, Int.fdiv_eq_ediv_of_nonneg _ (Int.pow_nonneg (by decide))]
  rfl
/-- The greatest power of two below a number. -/
def hf (n : Int) : Int := if n < 2 ∨ 1073741824 < n then 0 else 2 ^ (Lib.bitLen (n - 1).toNat - 1)
theorem hf_zero {n : Int} (h : n < 2 ∨ 1073741824 < n) : hf n = 0 := by unfold hf; rw [if_pos h]
theorem pow_lt30 {k : Nat} (h : (2 : Int) ^ k < 1073741824) : k < 30 := by
  refine Decidable.byContradiction fun hk => ?_
  have h1 : (2 : Nat) ^ 30 ≤ 2 ^ k := Nat.pow_le_pow_right (by decide) (by omega)
  have h2 : ((2 ^ k : Nat) : Int) = (2 : Int) ^ k := by simp
  have h3 : (2 : Nat) ^ 30 = 1073741824 := by decide
  omega
theorem hf_pow {n : Int} (h : 2 ≤ n) (h2 : n ≤ 1073741824) : ∃ k : Nat, k < 30 ∧ Lib.bitLen (n - 1).toNat = k + 1 ∧ hf n = 2 ^ k ∧ (2 : Int) ^ k < n ∧ n ≤ 2 * 2 ^ k := by
  obtain ⟨b1, b2, b3⟩ := Lib.bitLenAux_bounds 64 (n - 1).toNat (by omega) (by omega)
  have e : Lib.bitLen (n - 1).toNat = Lib.bitLenAux 64 (n - 1).toNat := rfl
  obtain ⟨k, hk⟩ : ∃ k, Lib.bitLenAux 64 (n - 1).toNat = k + 1 := ⟨Lib.bitLenAux 64 (n - 1).toNat - 1, by omega⟩
  rw [hk] at b2 b3
  have c1 : ((2 ^ k : Nat) : Int) = (2 : Int) ^ k := by simp
  have c2 : (2 : Nat) ^ (k + 1) = 2 * 2 ^ k := by rw [Nat.pow_succ]; omega
  rw [Nat.add_sub_cancel] at b2
  have h4 : (2 : Int) ^ k < n := by omega
  refine ⟨k, pow_lt30 (by omega), e.trans hk, ?_, h4, by omega⟩
  unfold hf
  rw [if_neg (by omega), e, hk, Nat.add_sub_cancel]
theorem hf_lt {n : Int} (h : 2 ≤ n) (h2 : n ≤ 1073741824) : 1 ≤ hf n ∧ hf n < n ∧ n ≤ 2 * hf n := by
  obtain ⟨k, hk, _, e, h3, h4⟩ := hf_pow h h2
  have : (0 : Int) < 2 ^ k := Int.pow_pos (by decide)
  omega
theorem pow_le_of_lt {j k : Nat} (h : (2 : Int) ^ j < 2 ^ (k + 1)) : j ≤ k := by
  refine Decidable.byContradiction fun hk => ?_
  have h1 : (2 : Nat) ^ (k + 1) ≤ 2 ^ j := Nat.pow_le_pow_right (by decide) (by omega)
  have h2 : ((2 ^ j : Nat) : Int) = (2 : Int) ^ j := by simp
  have h3 : ((2 ^ (k + 1) : Nat) : Int) = (2 : Int) ^ (k + 1) := by simp
  omega
theorem pow_mono {j k : Nat} (h : j ≤ k) : (2 : Int) ^ j ≤ 2 ^ k := by
  have h1 : (2 : Nat) ^ j ≤ 2 ^ k := Nat.pow_le_pow_right (by decide) h
  have h2 : ((2 ^ j : Nat) : Int) = (2 : Int) ^ j := by simp
  have h3 : ((2 ^ k : Nat) : Int) = (2 : Int) ^ k := by simp
  omega
theorem hf_uniq {n : Int} {k : Nat} (h : 2 ≤ n) (h2 : n ≤ 1073741824) (h3 : (2 : Int) ^ k < n) (h4 : n ≤ 2 * 2 ^ k) : hf n = 2 ^ k := by
  obtain ⟨j, hj, _, e, h5, h6⟩ := hf_pow h h2
  have s1 : (2 : Int) ^ (j + 1) = 2 * 2 ^ j := by rw [Int.pow_succ]; omega
  have s2 : (2 : Int) ^ (k + 1) = 2 * 2 ^ k := by rw [Int.pow_succ]; omega
  have c1 : j ≤ k := pow_le_of_lt (by omega)
  have c2 : k ≤ j := pow_le_of_lt (by omega)
  rw [e, show j = k by omega]
def inN (n i : Int) : Bool := decide (n ≤ 1073741824) && (decide (0 ≤ i) && decide (i < n))
theorem inN_iff {n i : Int} : inN n i = true ↔ n ≤ 1073741824 ∧ 0 ≤ i ∧ i < n := by simp [inN]
/-- How many sums stand beside the way from a leaf up. -/
def deep (n i : Int) : Int :=
  if h : 1 < n ∧ n ≤ 1073741824 ∧ 0 ≤ i ∧ i < n then
    if i < hf n then 1 + deep (hf n) i else 1 + deep (n - hf n) (i - hf n)
  else 0
termination_by n.toNat
decreasing_by
  · have := hf_lt (n := n) (by omega) h.2.1; omega
  · have := hf_lt (n := n) (by omega) h.2.1; omega
theorem deep_out {n i : Int} (h : ¬ (1 < n ∧ n ≤ 1073741824 ∧ 0 ≤ i ∧ i < n)) : deep n i = 0 := by rw [deep, dif_neg h]
theorem deep_lo {n i : Int} (h : 1 < n ∧ n ≤ 1073741824 ∧ 0 ≤ i ∧ i < n) (hi : i < hf n) : deep n i = 1 + deep (hf n) i := by rw [deep, dif_pos h, if_pos hi]
theorem deep_hi {n i : Int} (h : 1 < n ∧ n ≤ 1073741824 ∧ 0 ≤ i ∧ i < n) (hi : ¬ i < hf n) : deep n i = 1 + deep (n - hf n) (i - hf n) := by rw [deep, dif_pos h, if_neg hi]
theorem deep_le (k : Nat) : ∀ n i : Int, n ≤ 2 ^ k → deep n i ≤ k := by
  induction k with
  | zero =>
    intro n i h
    rw [deep_out (by simp at h; omega)]
    omega
  | succ k ih =>
    intro n i h
    by_cases hc : 1 < n ∧ n ≤ 1073741824 ∧ 0 ≤ i ∧ i < n
    · obtain ⟨j, hj, _, e, h3, h4⟩ := hf_pow (n := n) (by omega) hc.2.1
      have hjk : j ≤ k := pow_le_of_lt (by omega)
      have hm := pow_mono hjk
      by_cases hi : i < hf n
      · rw [deep_lo hc hi]
        have := ih (hf n) i (by omega)
        omega
      · rw [deep_hi hc hi]
        have := ih (n - hf n) (i - hf n) (by omega)
        omega
    · rw [deep_out hc]
      omega
theorem deep_nonneg (n i : Int) : 0 ≤ deep n i := by
  have key : ∀ m : Nat, ∀ n i : Int, n.toNat ≤ m → 0 ≤ deep n i := fun m => by
    induction m with
    | zero => intro n i h; rw [deep_out (by omega)]; omega
    | succ m ih =>
      intro n i h
      by_cases hc : 1 < n ∧ n ≤ 1073741824 ∧ 0 ≤ i ∧ i < n
      · have hh := hf_lt (n := n) (by omega) hc.2.1
        by_cases hi : i < hf n
        · rw [deep_lo hc hi]
          have := ih (hf n) i (by omega)
          omega
        · rw [deep_hi hc hi]
          have := ih (n - hf n) (i - hf n) (by omega)
          omega
      · rw [deep_out hc]; omega
  exact key _ n i (Nat.le_refl _)
theorem deep_30 (n i : Int) : deep n i ≤ 30 := by
  by_cases h : n ≤ 1073741824
  · exact deep_le 30 n i (by rw [show (2 : Int) ^ 30 = 1073741824 by decide]; exact h)
  · rw [deep_out (by omega)]; omega
theorem hf_pow2 (k : Nat) (h : k < 30) : hf (2 ^ (k + 1)) = 2 ^ k := by
  have hp : (0 : Int) < 2 ^ k := Int.pow_pos (by decide)
  have hs : (2 : Int) ^ (k + 1) = 2 * 2 ^ k := by rw [Int.pow_succ]; omega
  have hm := pow_mono (show k + 1 ≤ 30 by omega)
  rw [show (2 : Int) ^ 30 = 1073741824 by decide] at hm
  obtain ⟨j, hj, _, e, h3, h4⟩ := hf_pow (n := 2 ^ (k + 1)) (by omega) hm
  have h5 : j ≤ k := pow_le_of_lt h3
  have h6 : k ≤ j := by
    have : (2 : Int) ^ k < 2 ^ (j + 1) ∨ (2 : Int) ^ k = 2 ^ j := by
      rw [Int.pow_succ]
      have := pow_mono h5
      have hp2 : (0 : Int) < 2 ^ j := Int.pow_pos (by decide)
      omega
    rcases this with h | h
    · exact pow_le_of_lt h
    · refine pow_le_of_lt ?_
      rw [h, Int.pow_succ]
      have hp2 : (0 : Int) < 2 ^ j := Int.pow_pos (by decide)
      omega
  rw [e, show j = k by omega]
theorem deep_first (k : Nat) (h : k ≤ 30) : deep (2 ^ k) 0 = k := by
  induction k with
  | zero => rw [deep_out (by decide)]; rfl
  | succ k ih =>
    have hp : (0 : Int) < 2 ^ k := Int.pow_pos (by decide)
    have hs : (2 : Int) ^ (k + 1) = 2 * 2 ^ k := by rw [Int.pow_succ]; omega
    have hm := pow_mono h
    rw [show (2 : Int) ^ 30 = 1073741824 by decide] at hm
    have e := hf_pow2 k (by omega)
    rw [deep_lo ⟨by omega, hm, by omega, by omega⟩ (by omega), e, ih (by omega)]
    omega
theorem shl_pow (k : Nat) (h : k < 30) : IntKind.wrap .i64 (1 * 2 ^ (min ((k : Int)).toNat 64)) = 2 ^ k := by
  have key : ∀ j : Fin 30, IntKind.wrap .i64 (1 * 2 ^ (min ((j.1 : Int)).toNat 64)) = 2 ^ j.1 := by decide +kernel
  exact key ⟨k, h⟩
def tbT : Tbl where
  T :=
    (3, ⟨1, false, [.int .i64 (0)], .int .i64, 8⟩) ::
    (4, ⟨1, false, [.ff], .bool, 1⟩) ::
    (9, ⟨1, false, [.str []], .str, 16⟩) ::
    (5, ⟨1, false, [.int .u8 (0)], .int .u8, 1⟩) ::
    (93, ⟨1, false, [.int .u64 (0)], .int .u64, 8⟩) ::
    (89, ⟨1, false, [.int .u64 (0)], .int .u64, 8⟩) ::
    (44, ⟨1, false, [.val (.slice none 0 0)], .slice 5, 24⟩) ::
    (27, ⟨1, false, [.val (.slice none 0 0)], .slice 9, 24⟩) ::
    (129, ⟨8, true, [.int .u8 (0), .int .u8 (0), .int .u8 (0), .int .u8 (0), .int .u8 (0), .int .u8 (0), .int .u8 (0), .int .u8 (0)], .array 8 5, 8⟩) ::
    (36, ⟨1, false, [.int .i64 (0)], .int .i64, 8⟩) ::
    (24, ⟨32, true, [.int .u8 (0), .int .u8 (0), .int .u8 (0), .int .u8 (0), .int .u8 (0), .int .u8 (0), .int .u8 (0), .int .u8 (0), .int .u8 (0), .int .u8 (0), .int .u8 (0), .int .u8 (0), .int .u8 (0), .int .u8 (0), .int .u8 (0), .int .u8 (0), .int .u8 (0), .int .u8 (0), .int .u8 (0), .int .u8 (0), .int .u8 (0), .int .u8 (0), .int .u8 (0), .int .u8 (0), .int .u8 (0), .int .u8 (0), .int .u8 (0), .int .u8 (0), .int .u8 (0), .int .u8 (0), .int .u8 (0), .int .u8 (0)], .array 32 5, 32⟩) ::
    []
  F :=
    (24, [0, 0, 0, 0, 0, 0, 0, 0, 0, 0, 0, 0, 0, 0, 0, 0, 0, 0, 0, 0, 0, 0, 0, 0, 0, 0, 0, 0, 0, 0, 0, 0]) ::
    []
  sym := true

theorem tbT_ok : tbT.Ok Tryd.prog where
  T :=
    TblOk.cons (by kernel_rfl) <|
    TblOk.cons (by kernel_rfl) <|
    TblOk.cons (by kernel_rfl) <|
    TblOk.cons (by kernel_rfl) <|
    TblOk.cons (by kernel_rfl) <|
    TblOk.cons (by kernel_rfl) <|
    TblOk.cons (by kernel_rfl) <|
    TblOk.cons (by kernel_rfl) <|
    TblOk.cons (by kernel_rfl) <|
    TblOk.cons (by kernel_rfl) <|
    TblOk.cons (by kernel_rfl) <|
    TblOk.nil _
  F :=
    FlatsOk.cons (FlatOk.of (D := .array 32 5) 6 (by decide) (by kernel_rfl) (by kernel_rfl) rfl (by kernel_rfl)) <|
    FlatsOk.nil _

def bLenPre (x : Int) : Prop := 0 ≤ x ∧ x ≤ 18446744073709551615
def sBLen : List SV → Option (Prop × SV)
  | [.c (.int .u64 x)] => some (bLenPre x, .c (.int .i64 (Lib.bitLen x.toNat : Nat)))
  | _ => none

theorem bLenP : Pure Tryd.prog 98 sBLen := by
  refine ⟨by kernel_rfl, fun args pre r h hp us hs W => ?_⟩
  unfold sBLen at h
  split at h
  rotate_left
  · cases h
  rename_i x
  cases h
  obtain ⟨u0, _, rfl, a0, b0⟩ := hs
  obtain rfl : .int .u64 x = u0 := Option.some.inj a0
  cases b0
  refine Calls.mono (Calls.mono (Tryd.bits_Len x W hp.1 hp.2) (fun e w' he => (⟨he.1, he.2 ▸ Below.refl _ _⟩ : e = .returned (.int .i64 (Lib.bitLen x.toNat : Nat)) ∧ Below W.heap.size W w'))) fun e W' he => ?_
  obtain ⟨rfl, hb⟩ := he
  exact ⟨_, rfl, rfl, hb⟩

def sHalf : List SV → Option (Prop × SV)
  | [.c (.int .i64 n)] => some (True, .c (.int .i64 (hf n)))
  | _ => none

set_option maxRecDepth 100000 in
set_option maxHeartbeats 2000000 in
theorem halfP : Pure Tryd.prog 53 sHalf := by
  have hC : CtsOk Tryd.prog [(98, appPure sBLen)] := CtsOk.cons (Pure.ct bLenP) <| CtsOk.nil _
  refine Pure.of (E := tbT) (C := [(98, appPure sBLen)]) [] 0 [] tbT_ok hC (by kernel_rfl) Tryd.func53 rfl rfl rfl (by kernel_rfl) (by kernel_rfl) ?_ ?_
  · intro args pre r h
    unfold sHalf at h
    split at h
    · cases h; rfl
    · cases h
  · intro args pre r h hp
    unfold sHalf at h
    split at h
    rotate_left
    · cases h
    rename_i n
    cases h
    unfold sBLen
    generalize hg0 : hf = g0
    generalize hg1 : Lib.bitLen = g1
    generalize hg2 : bLenPre = g2
    generalize hA : Arith.std = A
    cbv
    subst hA hg0 hg1 hg2
    refine Ife.mk (fun h => (hf_zero (Or.inl (of_decide_eq_true (p := n < 2) h))).symm) (fun h => ?_)
    have h1 : ¬ n < 2 := of_decide_eq_false (p := n < 2) h
    refine Ife.mk (fun h => (hf_zero (Or.inr (of_decide_eq_true (p := 1073741824 < n) h))).symm) (fun h => ?_)
    have h2 : ¬ 1073741824 < n := of_decide_eq_false (p := 1073741824 < n) h
    obtain ⟨k, hk, e1, e2, h3, h4⟩ := hf_pow (n := n) (by omega) (by omega)
    have hw : IntKind.wrap .u64 (n - 1) = n - 1 := by rw [IntKind.wrap_u64]; omega
    refine Need.mk (by show fitStd .i64 (n - 1); unfold fitStd; omega) fun _ => ?_
    refine Need.mk (by show 0 ≤ IntKind.wrap .u64 (n - 1) ∧ IntKind.wrap .u64 (n - 1) ≤ 18446744073709551615; rw [hw]; omega) fun _ => ?_
    have e3 : ((Lib.bitLen (IntKind.wrap .u64 (n - 1)).toNat : Nat) : Int) - 1 = (k : Int) := by rw [hw, e1]; omega
    refine Need.mk (by show fitStd .i64 (((Lib.bitLen (IntKind.wrap .u64 (n - 1)).toNat : Nat) : Int) - 1); rw [e3]; unfold fitStd; omega) fun _ => Need.mk (by show 0 ≤ ((Lib.bitLen (IntKind.wrap .u64 (n - 1)).toNat : Nat) : Int) - 1; rw [e3]; omega) fun _ => ?_
    show IntKind.wrap .i64 (1 * 2 ^ (min (((Lib.bitLen (IntKind.wrap .u64 (n - 1)).toNat : Nat) : Int) - 1).toNat 64)) = hf n
    rw [e3, e2]
    exact shl_pow k hk

def sRHalf : List SV → Option (Prop × SV)
  | [.c (.int .i64 n)] => some (True, .c (.int .i64 (hf n)))
  | _ => none

structure LHalf (n : Int) where
  h : Int
  k : Nat
  h0 : h = 2 ^ k
  h1 : h < n
set_option maxRecDepth 100000 in
set_option maxHeartbeats 2000000 in
theorem rhalfP : Pure Tryd.prog 66 sRHalf := by
  have hC : CtsOk Tryd.prog [] := CtsOk.nil _
  refine Pure.of (E := tbT) (C := []) [] 0 [] tbT_ok hC (by kernel_rfl) Tryd.func66 rfl rfl rfl (by kernel_rfl) (by kernel_rfl) ?_ ?_
  · intro args pre r h
    unfold sRHalf at h
    split at h
    · cases h; rfl
    · cases h
  · intro args pre r h hp
    unfold sRHalf at h
    split at h
    rotate_left
    · cases h
    rename_i n
    cases h
    generalize hg0 : hf = g0
    generalize hL : lft Tryd.prog _ = L
    generalize hA : Arith.std = A
    cbv
    subst hA hg0 hL
    refine Ife.mk (fun h => (hf_zero (Or.inl (of_decide_eq_true (p := n < 2) h))).symm) (fun h => ?_)
    have h1 : ¬ n < 2 := of_decide_eq_false (p := n < 2) h
    refine Ife.mk (fun h => (hf_zero (Or.inr (of_decide_eq_true (p := 1073741824 < n) h))).symm) (fun h => ?_)
    have h2 : ¬ 1073741824 < n := of_decide_eq_false (p := 1073741824 < n) h
    show Runs Tryd.prog 0 (.loop _) _ _
    refine loop_ruleR (N := env (lft Tryd.prog 0) 0 .std tbT [] []) rfl tbT_ok hC (fun c st K _ h => h) (by kernel_rfl) [] (X := LHalf n)
      (S := fun x => ⟨[.c (.int .i64 n), .any, .any, .c (.int .i64 x.h)] ++ List.replicate 13 .any, []⟩) (μ := fun x => (n - x.h).toNat) ⟨1, 0, rfl, by omega⟩ (by kernel_rfl) [] ?_ ?_
    · refine ⟨rfl, by decide, ?_, ?_⟩ <;> repeat' (first | exact trivial | exact rfl | apply And.intro)
    rintro ⟨h, k, hh, hlt⟩
    generalize hg0 : hf = g0
    generalize hL : lft Tryd.prog _ = L
    generalize hA : Arith.std = A
    cbv
    subst hA hg0 hL
    have hp0 : (0 : Int) < 2 ^ k := Int.pow_pos (by decide)
    have hs : (2 : Int) ^ (k + 1) = 2 * 2 ^ k := by rw [Int.pow_succ]; omega
    refine Need.mk (by show fitStd .i64 (2 * h); unfold fitStd; omega) fun _ => ?_
    refine Ife.mk (fun hl => ?_) (fun hl => ?_)
    · replace hl : 2 * h < n := of_decide_eq_true (p := 2 * h < n) hl
      refine Need.mk (by show fitStd .i64 (2 * h); unfold fitStd; omega) fun _ => ?_
      refine ⟨⟨2 * h, k + 1, by rw [hs, hh], hl⟩, [], (by show (n - 2 * h).toNat < (n - h).toNat; omega), ?_⟩
      refine ⟨rfl, by decide, ?_, ?_⟩ <;> repeat' (first | exact trivial | exact rfl | apply And.intro)
    · replace hl : ¬ 2 * h < n := of_decide_eq_false (p := 2 * h < n) hl
      show h = hf n
      rw [hh, hf_uniq (k := k) (by omega) (by omega) (by omega) (by omega)]

def sIn : List SV → Option (Prop × SV)
  | [.c (.int .i64 n), .c (.int .i64 i)] => some (True, .c (.bool (inN n i)))
  | _ => none

set_option maxRecDepth 100000 in
set_option maxHeartbeats 2000000 in
theorem inP : Pure Tryd.prog 99 sIn := by
  have hC : CtsOk Tryd.prog [] := CtsOk.nil _
  refine Pure.of (E := tbT) (C := []) [] 0 [] tbT_ok hC (by kernel_rfl) Tryd.func99 rfl rfl rfl (by kernel_rfl) (by kernel_rfl) ?_ ?_
  · intro args pre r h
    unfold sIn at h
    split at h
    · cases h; rfl
    · cases h
  · intro args pre r h hp
    unfold sIn at h
    split at h
    rotate_left
    · cases h
    rename_i n i
    cases h
    generalize hg0 : inN = g0
    generalize hA : Arith.std = A
    cbv
    subst hA hg0
    refine Ife.mk (fun h => ?_) (fun h => ?_)
    · have h : n ≤ 1073741824 := of_decide_eq_true (p := n ≤ 1073741824) h
      refine Ife.mk (fun h2 => ?_) (fun h2 => ?_)
      · have h2 : 0 ≤ i := of_decide_eq_true (p := 0 ≤ i) h2
        show decide (i < n) = inN n i
        unfold inN
        simp [h, h2]
      · have h2 : ¬ 0 ≤ i := of_decide_eq_false (p := 0 ≤ i) h2
        unfold inN
        simp [h2]
    · have h : ¬ n ≤ 1073741824 := of_decide_eq_false (p := n ≤ 1073741824) h
      unfold inN
      simp [h]

structure LDp (n0 i0 : Int) where
  n : Int
  i : Int
  d : Int
  h0 : 0 ≤ d
  h1 : deep n0 i0 = d + deep n i
def sDeep : List SV → Option (Prop × SV)
  | [.c (.int .i64 n), .c (.int .i64 i)] => some (True, .c (.int .i64 (deep n i)))
  | _ => none

set_option maxRecDepth 100000 in
set_option maxHeartbeats 2000000 in
theorem deepP : Pure Tryd.prog 54 sDeep := by
  have hC : CtsOk Tryd.prog [(99, appPure sIn), (53, appPure sHalf)] := CtsOk.cons (Pure.ct inP) <| CtsOk.cons (Pure.ct halfP) <| CtsOk.nil _
  refine Pure.of (E := tbT) (C := [(99, appPure sIn), (53, appPure sHalf)]) [] 0 [] tbT_ok hC (by kernel_rfl) Tryd.func54 rfl rfl rfl (by kernel_rfl) (by kernel_rfl) ?_ ?_
  · intro args pre r h
    unfold sDeep at h
    split at h
    · cases h; rfl
    · cases h
  · intro args pre r h hp
    unfold sDeep at h
    split at h
    rotate_left
    · cases h
    rename_i n i
    cases h
    have hle : deep n i ≤ 30 := deep_30 n i
    unfold sIn sHalf
    generalize hg0 : hf = g0
    generalize hg1 : inN = g1
    generalize hg2 : deep = g2
    generalize hL : lft Tryd.prog _ = L
    generalize hA : Arith.std = A
    cbv
    subst hA hg0 hg1 hg2 hL
    show Runs Tryd.prog 0 (.loop _) _ _
    refine loop_ruleR (N := env (lft Tryd.prog 0) 0 .std tbT [(99, appPure sIn), (53, appPure sHalf)] []) rfl tbT_ok hC (fun c st K _ h => h) (by kernel_rfl) [] (X := LDp n i)
      (S := fun x => ⟨[.c (.int .i64 x.n), .c (.int .i64 x.i), .any, .any, .any, .c (.int .i64 x.d)] ++ List.replicate 23 .any, []⟩) (μ := fun x => x.n.toNat) ⟨n, i, 0, by omega, by omega⟩ (by kernel_rfl) [] ?_ ?_
    · refine ⟨rfl, by decide, ?_, ?_⟩ <;> repeat' (first | exact trivial | exact rfl | apply And.intro)
    rintro ⟨m, j, d, hd0, hd⟩
    unfold sIn sHalf
    generalize hg0 : hf = g0
    generalize hg1 : inN = g1
    generalize hg2 : deep = g2
    generalize hL : lft Tryd.prog _ = L
    generalize hA : Arith.std = A
    cbv
    subst hA hg0 hg1 hg2 hL
    replace hd : deep n i = d + deep m j := hd
    have hdn := deep_nonneg m j
    refine Need.mk trivial fun _ => ?_
    refine Ife.mk (fun hb => ?_) (fun hb => ?_)
    · obtain ⟨b1, b2, b3⟩ := inN_iff.1 (show inN m j = true from hb)
      refine Ife.mk (fun h1 => ?_) (fun h1 => ?_)
      · replace h1 : 1 < m := of_decide_eq_true (p := (1 : Int) < m) h1
        have hh := hf_lt (n := m) (by omega) b1
        have hin : 1 < m ∧ m ≤ 1073741824 ∧ 0 ≤ j ∧ j < m := ⟨h1, b1, b2, b3⟩
        refine Need.mk (by show fitStd .i64 (d + 1); unfold fitStd; omega) fun _ => Need.mk trivial fun _ => ?_
        refine Ife.mk (fun h2 => ?_) (fun h2 => ?_)
        · replace h2 : j < hf m := of_decide_eq_true (p := j < hf m) h2
          refine ⟨⟨hf m, j, d + 1, by omega, by rw [hd, deep_lo hin h2]; omega⟩, [], (by show (hf m).toNat < m.toNat; omega), ?_⟩
          refine ⟨rfl, by decide, ?_, ?_⟩ <;> repeat' (first | exact trivial | exact rfl | apply And.intro)
        · replace h2 : ¬ j < hf m := of_decide_eq_false (p := j < hf m) h2
          refine Need.mk (by show fitStd .i64 (m - hf m); unfold fitStd; omega) fun _ => Need.mk (by show fitStd .i64 (j - hf m); unfold fitStd; omega) fun _ => ?_
          refine ⟨⟨m - hf m, j - hf m, d + 1, by omega, by rw [hd, deep_hi hin h2]; omega⟩, [], (by show (m - hf m).toNat < m.toNat; omega), ?_⟩
          refine ⟨rfl, by decide, ?_, ?_⟩ <;> repeat' (first | exact trivial | exact rfl | apply And.intro)
      · replace h1 : ¬ 1 < m := of_decide_eq_false (p := (1 : Int) < m) h1
        show d = deep n i
        rw [hd, deep_out (n := m) (by omega)]
        omega
    · have hb : ¬ (m ≤ 1073741824 ∧ 0 ≤ j ∧ j < m) := fun h => by
        rw [inN_iff.2 h] at hb
        cases hb
      show d = deep n i
      rw [hd, deep_out (n := m) (by omega)]
      omega

def sLMay : List SV → Option (Prop × SV)
  | [.c (.int .i64 n)] => some (True, .c (.bool (lebMay n)))
  | _ => none

set_option maxRecDepth 100000 in
set_option maxHeartbeats 2000000 in
theorem lMayP : Pure Tryd.prog 113 sLMay := by
  have hC : CtsOk Tryd.prog [] := CtsOk.nil _
  refine Pure.of (E := tbT) (C := []) [] 0 [] tbT_ok hC (by kernel_rfl) Tryd.func113 rfl rfl rfl (by kernel_rfl) (by kernel_rfl) ?_ ?_
  · intro args pre r h
    unfold sLMay at h
    split at h
    · cases h; rfl
    · cases h
  · intro args pre r h hp
    unfold sLMay at h
    split at h
    rotate_left
    · cases h
    rename_i n
    cases h
    generalize hg0 : lebMay = g0
    generalize hA : Arith.std = A
    cbv
    subst hA hg0
    refine Ife.mk (fun h => ?_) (fun h => ?_)
    · have h : 0 ≤ n := of_decide_eq_true (p := 0 ≤ n) h
      show decide (n ≤ 72057594037927935) = lebMay n
      unfold lebMay
      simp [h]
    · have h : ¬ 0 ≤ n := of_decide_eq_false (p := 0 ≤ n) h
      unfold lebMay
      simp [h]

def sEight : List SV → Option (Prop × SV)
  | [.c (.int .i64 n)] => some (eightPre n, .c (.str (be8 n)))
  | _ => none

set_option maxRecDepth 100000 in
set_option maxHeartbeats 2000000 in
theorem leightP : Pure Tryd.prog 84 sEight := by
  have hC : CtsOk Tryd.prog [(113, appPure sLMay)] := CtsOk.cons (Pure.ct lMayP) <| CtsOk.nil _
  refine Pure.of (E := tbT) (C := [(113, appPure sLMay)]) [] 0 [] tbT_ok hC (by kernel_rfl) Tryd.func84 rfl rfl rfl (by kernel_rfl) (by kernel_rfl) ?_ ?_
  · intro args pre r h
    unfold sEight at h
    split at h
    · cases h; rfl
    · cases h
  · intro args pre r h hp
    unfold sEight at h
    split at h
    rotate_left
    · cases h
    rename_i n
    cases h
    obtain ⟨hn0, hn1⟩ := hp
    unfold sLMay
    generalize hg0 : be8 = g0
    generalize hg1 : lebMay = g1
    generalize hg2 : eightPre = g2
    generalize hL : lft Tryd.prog _ = L
    generalize hA : Arith.std = A
    cbv
    subst hA hg0 hg1 hg2 hL
    refine Need.mk trivial fun _ => ?_
    have hm : lebMay n = true := by unfold lebMay; simp [hn0, hn1]
    refine Ife.mk (fun hb => absurd (show (!lebMay n) = true from hb) (by rw [hm]; decide)) (fun _ => ?_)
    show Runs Tryd.prog 0 (.loop _) _ _
    refine loop_ruleR (N := env (lft Tryd.prog 0) 0 .std tbT [(113, appPure sLMay)] []) rfl tbT_ok hC (fun c st K _ h => h) (by kernel_rfl) [] (X := LFill 8 (fun j => d8 n (7 - j)) (fun _ => 0))
      (S := fun x => ⟨[.c (.int .i64 n), .any, .any, .c (.ptr 0 0), .any, .any, .any, .any, .c (.int .i64 x.i)] ++ List.replicate 14 .any, [.cells 129 [.int .u8 (x.g 7), .int .u8 (x.g 6), .int .u8 (x.g 5), .int .u8 (x.g 4), .int .u8 (x.g 3), .int .u8 (x.g 2), .int .u8 (x.g 1), .int .u8 (x.g 0)]]⟩) (μ := fun x => 8 - x.i.toNat) ⟨0, (fun _ => 0), by omega, by omega, fun j hj => absurd hj (by omega), fun j _ _ => rfl⟩ (by kernel_rfl) [0] ?_ ?_
    · refine ⟨rfl, by decide, ?_, ?_⟩ <;> repeat' (first | exact trivial | exact rfl | apply And.intro)
    rintro ⟨i, g, hi0, hin, hlo, hhi⟩
    unfold sLMay
    generalize hg0 : be8 = g0
    generalize hg1 : lebMay = g1
    generalize hg2 : eightPre = g2
    generalize hL : lft Tryd.prog _ = L
    generalize hA : Arith.std = A
    cbv
    subst hA hg0 hg1 hg2 hL
    replace hi0 : 0 ≤ i := hi0
    replace hin : i ≤ ((8 : Nat) : Int) := hin
    replace hlo : ∀ j : Nat, (j : Int) < i → g j = (fun j => d8 n (7 - j)) j := hlo
    replace hhi : ∀ j : Nat, i ≤ (j : Int) → j < 8 → g j = (fun _ => 0) j := hhi
    refine Ife.mk (fun hlt => ?_) (fun hlt => ?_)
    · replace hlt : i < (8 : Int) := of_decide_eq_true (p := i < (8 : Int)) hlt
      repeat refine Need.mk (by first | exact trivial | (simp only [Arith.std, fitStd]; omega) | (simp [Arith.std, fitStd]; omega)) fun _ => ?_
      refine ⟨⟨i + 1, fun j => Arith.std.upd ((7 - i).toNat) (7 - j) ?fv (g j), by omega, by omega, ?h2, ?h3⟩, [0], (by show 8 - (i + 1).toNat < 8 - i.toNat; omega), ?st⟩
      case st => refine ⟨rfl, by decide, ?_, ?_⟩ <;> repeat' (first | exact trivial | exact rfl | apply And.intro)
      case h3 =>
        intro j hj hj2
        show (if (7 - i).toNat = 7 - j then _ else g j) = _
        rw [if_neg (by omega)]
        exact hhi j (by omega) hj2
      case h2 =>
        intro j hj
        show (if (7 - i).toNat = 7 - j then _ else g j) = _
        by_cases hji : (7 - i).toNat = 7 - j
        · rw [if_pos hji]
          obtain rfl : j = i.toNat := by omega
          clear hji hj
          exact eight_byte n i hn0 hn1 hi0 hlt
        · rw [if_neg hji]
          exact hlo j (by omega)
    · replace hlt : ¬ i < (8 : Int) := of_decide_eq_false (p := i < (8 : Int)) hlt
      have hq : ∀ k : Nat, k < 8 → g k = (fun j => d8 n (7 - j)) k := fun k hk => hlo k (by omega)
      show [UInt8.ofNat (g 7).toNat, UInt8.ofNat (g 6).toNat, UInt8.ofNat (g 5).toNat, UInt8.ofNat (g 4).toNat, UInt8.ofNat (g 3).toNat, UInt8.ofNat (g 2).toNat, UInt8.ofNat (g 1).toNat, UInt8.ofNat (g 0).toNat] = be8 n
      rw [hq 0 (by decide), hq 1 (by decide), hq 2 (by decide), hq 3 (by decide), hq 4 (by decide), hq 5 (by decide), hq 6 (by decide), hq 7 (by decide)]
      rfl

end Go.Proofs.YtophhppklaofaaaDoor.Vx
end

section
/- Trees: roots; the law TreeDeep, by the walker. -/
namespace Go.Proofs.YtophhppklaofaaaDoor.Vx
open Go.RowKit Sha
set_option linter.unusedVariables false
set_option linter.unusedSimpArgs false
/-- The sum of how many leaves there are, and of what stands above them. -/
def rootF (n : Int) (t : List UInt8) (j : Nat) : Int := if n < 0 ∨ 1073741824 < n then 0 else sumI ([2] ++ be8 n ++ t) j
theorem rootF_out {n : Int} (t : List UInt8) (h : n < 0 ∨ 1073741824 < n) : rootF n t = fun _ => 0 := by funext j; unfold rootF; rw [if_pos h]
theorem rootF_in {n : Int} (t : List UInt8) (h : ¬ (n < 0 ∨ 1073741824 < n)) : rootF n t = sumI ([2] ++ be8 n ++ t) := by funext j; unfold rootF; rw [if_neg h]
def rootPre (gg sz n : Nat) (get : Nat → List CV) (xs : List CV) : Prop := KsAt gg sz n get ∧ HashC xs
def sRoot : SpecF
  | [.c (.int .i64 m), .agg xs], [.glob gg sz n get] => some (rootPre gg sz n get xs, .agg (hashC (rootF m (u8s xs))), [.dead])
  | _, _ => none

set_option maxRecDepth 100000 in
set_option maxHeartbeats 4000000 in
theorem rootP : Fn Tryd.prog 64 [0] [] sRoot := by
  have hC : CtsOk Tryd.prog [(84, appPure sEight), (21, appPure sText), (17, appFn [0] [(9, 1)] sSum)] := CtsOk.cons (Pure.ct leightP) <| CtsOk.cons (Pure.ct textP) <| CtsOk.cons (Fn.ct sumP) <| CtsOk.nil _
  refine Fn.of (E := tbT) [0] 0 [(3, [(2002, false), (0, true), (2, true), (1, false), (3, false), (4, false), (5, false), (6, false)])] tbT_ok hC (by kernel_rfl) Tryd.func64 rfl rfl rfl (by kernel_rfl) (by kernel_rfl) 1 5 1 ?_ ?_
  · intro args h pre r h' hs
    unfold sRoot at hs
    split at hs
    · cases hs; exact ⟨rfl, rfl, Nat.le_of_ble_eq_true rfl⟩
    · cases hs
  · intro args h pre r h' hs hp
    unfold sRoot at hs
    split at hs
    rotate_left
    · cases hs
    rename_i m xs gg sz n get
    cases hs
    obtain ⟨hK, ⟨f, rfl, hf⟩⟩ := hp
    refine ⟨_, hK.same, ?_⟩
    clear hK
    unfold hashC
    unfold sSum sEight sText
    generalize hg0 : sumPre = g0
    generalize hg1 : KsAt = g1
    generalize hg2 : joinG = g2
    generalize hg3 : cutC = g3
    generalize hg4 : sumI = g4
    generalize hg5 : kOf = g5
    generalize hg6 : HashC = g6
    generalize hg7 : u8s = g7
    generalize hg8 : be8 = g8
    generalize hg9 : eightPre = g9
    generalize hg10 : rootF = g10
    generalize hg11 : rootPre = g11
    generalize hg12 : (List.length : List UInt8 → Nat) = g12
    generalize hA : Arith.std = A
    cbv
    subst hA hg0 hg1 hg2 hg3 hg4 hg5 hg6 hg7 hg8 hg9 hg10 hg11 hg12
    refine Ife.mk (fun h => ?_) (fun h => ?_)
    · have h : m < 0 := of_decide_eq_true (p := m < 0) h
      have e := rootF_out (u8s (hashC f)) (Or.inl h : m < 0 ∨ 1073741824 < m)
      show ∃ σ, LeftF _ _ _ σ _ _ (.agg (hashC (rootF m (u8s (hashC f))))) _
      rw [e]
      exact ⟨[0], ⟨rfl, by repeat' (first | exact trivial | exact rfl | apply And.intro), by decide, rfl, by repeat' (first | exact trivial | exact rfl | apply And.intro)⟩⟩
    have h1 : ¬ m < 0 := of_decide_eq_false (p := m < 0) h
    refine Ife.mk (fun h => ?_) (fun h => ?_)
    · have h : 1073741824 < m := of_decide_eq_true (p := 1073741824 < m) h
      have e := rootF_out (u8s (hashC f)) (Or.inr h : m < 0 ∨ 1073741824 < m)
      show ∃ σ, LeftF _ _ _ σ _ _ (.agg (hashC (rootF m (u8s (hashC f))))) _
      rw [e]
      exact ⟨[0], ⟨rfl, by repeat' (first | exact trivial | exact rfl | apply And.intro), by decide, rfl, by repeat' (first | exact trivial | exact rfl | apply And.intro)⟩⟩
    have h2 : ¬ 1073741824 < m := of_decide_eq_false (p := 1073741824 < m) h
    have e := rootF_in (u8s (hashC f)) (show ¬ (m < 0 ∨ 1073741824 < m) by omega)
    have j1 := (strs_cut [[2], be8 m, u8s (hashC f)]).2
    have f1 : [[2], be8 m, u8s (hashC f)].flatten = [2] ++ be8 m ++ u8s (hashC f) := by simp
    have p1 := sumPre_cut [[2], be8 m, u8s (hashC f)] (by rw [f1]; show ([2] ++ be8 m ++ hashB f).length ≤ _; rw [List.length_append, List.length_append, hashB_len]; show 1 + 8 + 32 ≤ _; decide) (by show 3 ≤ 1000; decide)
    refine Need.mk ⟨by omega, by omega⟩ fun _ => Need.mk ⟨f, rfl, hf⟩ fun _ => Need.mk p1 fun _ => ?_
    show ∃ σ, LeftF _ _ _ σ (.agg (hashC (sumI (joinG 3 (cutC 1 ([[2], be8 m, u8s (hashC f)].map CV.str) 0))))) _ (.agg (hashC (rootF m (u8s (hashC f))))) _
    rw [e, show joinG 3 (cutC 1 ([[2], be8 m, u8s (hashC f)].map CV.str) 0) = [2] ++ be8 m ++ u8s (hashC f) from j1.trans f1]
    exact ⟨[0], ⟨rfl, by repeat' (first | exact trivial | exact rfl | apply And.intro), by decide, rfl, by repeat' (first | exact trivial | exact rfl | apply And.intro)⟩⟩

def sRRoot : List SV → Option (Prop × SV)
  | [.c (.int .i64 m), .agg xs] => some (HashC xs, .agg (hashC (rootF m (u8s xs))))
  | _ => none

set_option maxRecDepth 100000 in
set_option maxHeartbeats 4000000 in
theorem rrootP : Pure Tryd.prog 65 sRRoot := by
  have hC : CtsOk Tryd.prog [(43, appPure sREight), (19, appPure sRSum), (22, appPure sText)] := CtsOk.cons (Pure.ct eightP) <| CtsOk.cons (Pure.ct rsumP) <| CtsOk.cons (Pure.ct rtextP) <| CtsOk.nil _
  refine Pure.of (E := tbT) (C := [(43, appPure sREight), (19, appPure sRSum), (22, appPure sText)]) [] 0 [(3, [(2001, false), (0, true), (3, true), (1, false), (2, true), (4, false), (5, true), (6, false), (7, false)])] tbT_ok hC (by kernel_rfl) Tryd.func65 rfl rfl rfl (by kernel_rfl) (by kernel_rfl) ?_ ?_
  · intro args pre r h
    unfold sRRoot at h
    split at h
    · cases h; rfl
    · cases h
  · intro args pre r h hp
    unfold sRRoot at h
    split at h
    rotate_left
    · cases h
    rename_i m xs
    cases h
    obtain ⟨f, rfl, hf⟩ := hp
    unfold hashC
    unfold sREight sRSum sText
    generalize hg0 : rsumPre = g0
    generalize hg1 : sumI = g1
    generalize hg2 : HashC = g2
    generalize hg3 : u8s = g3
    generalize hg4 : be8 = g4
    generalize hg5 : eightPre = g5
    generalize hg6 : rootF = g6
    generalize hg7 : (List.length : List UInt8 → Nat) = g7
    generalize hA : Arith.std = A
    cbv
    subst hA hg0 hg1 hg2 hg3 hg4 hg5 hg6 hg7
    refine Ife.mk (fun h => ?_) (fun h => ?_)
    · have h : m < 0 := of_decide_eq_true (p := m < 0) h
      have e := rootF_out (u8s (hashC f)) (Or.inl h : m < 0 ∨ 1073741824 < m)
      have e2 : ∀ j, 0 = rootF m (u8s (hashC f)) j := fun j => by rw [e]
      repeat' (first | exact trivial | exact e2 _ | apply And.intro)
    have h1 : ¬ m < 0 := of_decide_eq_false (p := m < 0) h
    refine Ife.mk (fun h => ?_) (fun h => ?_)
    · have h : 1073741824 < m := of_decide_eq_true (p := 1073741824 < m) h
      have e := rootF_out (u8s (hashC f)) (Or.inr h : m < 0 ∨ 1073741824 < m)
      have e2 : ∀ j, 0 = rootF m (u8s (hashC f)) j := fun j => by rw [e]
      repeat' (first | exact trivial | exact e2 _ | apply And.intro)
    have h2 : ¬ 1073741824 < m := of_decide_eq_false (p := 1073741824 < m) h
    have e := rootF_in (u8s (hashC f)) (show ¬ (m < 0 ∨ 1073741824 < m) by omega)
    have e2 : ∀ j, sumI ([2] ++ be8 m ++ u8s (hashC f)) j = rootF m (u8s (hashC f)) j := fun j => by rw [e]
    have l8 : (be8 m).length = 8 := rfl
    have l3 : (u8s (hashC f)).length = 32 := rfl
    refine Need.mk ⟨by omega, by omega⟩ fun _ => Need.mk (by show (1 : Int) + 8 ≤ 9223372036854775807; decide) fun _ => Need.mk ⟨f, rfl, hf⟩ fun _ => Need.mk (by show (9 : Int) + 32 ≤ 9223372036854775807; decide) fun _ => Need.mk (by show ([2] ++ be8 m ++ u8s (hashC f)).length ≤ 140737488350000; rw [List.length_append, List.length_append, l8, l3]; show 1 + 8 + 32 ≤ _; decide) fun _ => ?_
    repeat' (first | exact trivial | exact e2 _ | apply And.intro)

theorem hf5 : hf 5 = 4 := hf_uniq (k := 2) (by decide) (by decide) (by decide) (by decide)
theorem hf4 : hf 4 = 2 := hf_uniq (k := 1) (by decide) (by decide) (by decide) (by decide)
theorem hf1 : hf 1 = 0 := hf_zero (Or.inl (by decide))
theorem deep54 : deep 5 4 = 1 := by
  rw [deep_hi (by decide) (by rw [hf5]; decide), hf5, deep_out (by decide)]
  rfl
theorem deep50 : deep 5 0 = 3 := by
  rw [deep_lo (by decide) (by rw [hf5]; decide), hf5, show (4 : Int) = 2 ^ 2 by decide, deep_first 2 (by decide)]
  rfl
def sFirst6 : SpecF
  | [], [.glob gg sz n get] => some (KsAt gg sz n get, .c .tt, [.dead])
  | _, _ => none

set_option maxRecDepth 100000 in
set_option maxHeartbeats 4000000 in
theorem first6P : Fn Tryd.prog 52 [0] [] sFirst6 := by
  have hC : CtsOk Tryd.prog [(53, appPure sHalf), (54, appPure sDeep), (64, appFn [0] [] sRoot), (65, appPure sRRoot)] := CtsOk.cons (Pure.ct halfP) <| CtsOk.cons (Pure.ct deepP) <| CtsOk.cons (Fn.ct rootP) <| CtsOk.cons (Pure.ct rrootP) <| CtsOk.nil _
  refine Fn.of (E := tbT) [0] 0 [] tbT_ok hC (by kernel_rfl) Tryd.func52 rfl rfl rfl (by kernel_rfl) (by kernel_rfl) 1 5 1 ?_ ?_
  · intro args h pre r h' hs
    unfold sFirst6 at hs
    split at hs
    · cases hs; exact ⟨rfl, rfl, Nat.le_of_ble_eq_true rfl⟩
    · cases hs
  · intro args h pre r h' hs hp
    unfold sFirst6 at hs
    split at hs
    rotate_left
    · cases hs
    rename_i gg sz n get
    cases hs
    refine ⟨_, hp.same, ?_⟩
    clear hp
    unfold sHalf sDeep sRoot sRRoot
    generalize hg0 : hf = g0
    generalize hg1 : deep = g1
    generalize hg2 : rootF = g2
    generalize hg3 : rootPre = g3
    generalize hg4 : HashC = g4
    generalize hg5 : u8s = g5
    generalize hg6 : KsAt = g6
    generalize hg7 : kOf = g7
    generalize hA : Arith.std = A
    cbv
    subst hA hg0 hg1 hg2 hg3 hg4 hg5 hg6 hg7
    have tt : ∀ {a b : Int}, a = b → decide (a = b) = true := fun h => decide_eq_true h
    refine Need.mk trivial fun _ => ?_
    refine Ife.mk (fun _ => ?_) (fun hb => absurd ((tt hf5).symm.trans hb) (by decide))
    refine Need.mk trivial fun _ => ?_
    refine Ife.mk (fun _ => ?_) (fun hb => absurd ((tt hf4).symm.trans hb) (by decide))
    refine Need.mk trivial fun _ => ?_
    refine Ife.mk (fun _ => ?_) (fun hb => absurd ((tt hf1).symm.trans hb) (by decide))
    refine Need.mk trivial fun _ => ?_
    refine Ife.mk (fun _ => ?_) (fun hb => absurd ((tt deep54).symm.trans hb) (by decide))
    refine Need.mk trivial fun _ => ?_
    refine Ife.mk (fun _ => ?_) (fun hb => absurd ((tt deep50).symm.trans hb) (by decide))
    have hz : HashC (hashC fun _ => 0) := ⟨_, rfl, fun _ => ⟨by decide, by decide⟩⟩
    refine Need.mk ⟨ksAt_self, hz⟩ fun _ => Need.mk hz fun _ => ?_
    exact ⟨[0], ⟨rfl, (show eqH (rootF 0 (u8s (hashC fun _ => 0))) (rootF 0 (u8s (hashC fun _ => 0))) = true from eqH_self _), by decide, rfl, by repeat' (first | exact trivial | exact rfl | apply And.intro)⟩⟩



end Go.Proofs.YtophhppklaofaaaDoor.Vx
namespace Go.Proofs.YtophhppklaofaaaDoor
open Go.RowKit
end Go.Proofs.YtophhppklaofaaaDoor
end

section
/- Trees: tops, by the walker. -/
namespace Go.Proofs.YtophhppklaofaaaDoor.Vx
open Go.RowKit Sha
set_option linter.unusedVariables false
set_option linter.unusedSimpArgs false
def tbH : Tbl where
  T :=
    (3, ⟨1, false, [.int .i64 (0)], .int .i64, 8⟩) ::
    (4, ⟨1, false, [.ff], .bool, 1⟩) ::
    (9, ⟨1, false, [.str []], .str, 16⟩) ::
    (5, ⟨1, false, [.int .u8 (0)], .int .u8, 1⟩) ::
    (93, ⟨1, false, [.int .u64 (0)], .int .u64, 8⟩) ::
    (89, ⟨1, false, [.int .u64 (0)], .int .u64, 8⟩) ::
    (44, ⟨1, false, [.val (.slice none 0 0)], .slice 5, 24⟩) ::
    (27, ⟨1, false, [.val (.slice none 0 0)], .slice 9, 24⟩) ::
    (129, ⟨8, true, [.int .u8 (0), .int .u8 (0), .int .u8 (0), .int .u8 (0), .int .u8 (0), .int .u8 (0), .int .u8 (0), .int .u8 (0)], .array 8 5, 8⟩) ::
    (36, ⟨1, false, [.int .i64 (0)], .int .i64, 8⟩) ::
    (24, ⟨32, true, [.int .u8 (0), .int .u8 (0), .int .u8 (0), .int .u8 (0), .int .u8 (0), .int .u8 (0), .int .u8 (0), .int .u8 (0), .int .u8 (0), .int .u8 (0), .int .u8 (0), .int .u8 (0), .int .u8 (0), .int .u8 (0), .int .u8 (0), .int .u8 (0), .int .u8 (0), .int .u8 (0), .int .u8 (0), .int .u8 (0), .int .u8 (0), .int .u8 (0), .int .u8 (0), .int .u8 (0), .int .u8 (0), .int .u8 (0), .int .u8 (0), .int .u8 (0), .int .u8 (0), .int .u8 (0), .int .u8 (0), .int .u8 (0)], .array 32 5, 32⟩) ::
    (71, ⟨1, false, [.val (.slice none 0 0)], .slice 24, 24⟩) ::
    []
  F :=
    (24, [0, 0, 0, 0, 0, 0, 0, 0, 0, 0, 0, 0, 0, 0, 0, 0, 0, 0, 0, 0, 0, 0, 0, 0, 0, 0, 0, 0, 0, 0, 0, 0]) ::
    []
  sym := true

theorem tbH_ok : tbH.Ok Tryd.prog where
  T :=
    TblOk.cons (by kernel_rfl) <|
    TblOk.cons (by kernel_rfl) <|
    TblOk.cons (by kernel_rfl) <|
    TblOk.cons (by kernel_rfl) <|
    TblOk.cons (by kernel_rfl) <|
    TblOk.cons (by kernel_rfl) <|
    TblOk.cons (by kernel_rfl) <|
    TblOk.cons (by kernel_rfl) <|
    TblOk.cons (by kernel_rfl) <|
    TblOk.cons (by kernel_rfl) <|
    TblOk.cons (by kernel_rfl) <|
    TblOk.cons (by kernel_rfl) <|
    TblOk.nil _
  F :=
    FlatsOk.cons (FlatOk.of (D := .array 32 5) 6 (by decide) (by kernel_rfl) (by kernel_rfl) rfl (by kernel_rfl)) <|
    FlatsOk.nil _

/-- The sum of two sums. -/
def nodeF (a b : List UInt8) : Nat → Int := sumI ([1] ++ a ++ b)
def nodePre (gg sz n : Nat) (get : Nat → List CV) (xs ys : List CV) : Prop := KsAt gg sz n get ∧ HashC xs ∧ HashC ys
def sNode : SpecF
  | [.agg xs, .agg ys], [.glob gg sz n get] => some (nodePre gg sz n get xs ys, .agg (hashC (nodeF (u8s xs) (u8s ys))), [.dead])
  | _, _ => none

set_option maxRecDepth 100000 in
set_option maxHeartbeats 4000000 in
theorem nodeP : Fn Tryd.prog 56 [0] [] sNode := by
  have hC : CtsOk Tryd.prog [(21, appPure sText), (17, appFn [0] [(9, 1)] sSum)] := CtsOk.cons (Pure.ct textP) <| CtsOk.cons (Fn.ct sumP) <| CtsOk.nil _
  refine Fn.of (E := tbH) [0] 0 [(1, [(2003, false), (0, true), (2, true), (1, false), (3, false), (4, false), (5, false), (6, false)])] tbH_ok hC (by kernel_rfl) Tryd.func56 rfl rfl rfl (by kernel_rfl) (by kernel_rfl) 1 5 1 ?_ ?_
  · intro args h pre r h' hs
    unfold sNode at hs
    split at hs
    · cases hs; exact ⟨rfl, rfl, Nat.le_of_ble_eq_true rfl⟩
    · cases hs
  · intro args h pre r h' hs hp
    unfold sNode at hs
    split at hs
    rotate_left
    · cases hs
    rename_i xs ys gg sz n get
    cases hs
    obtain ⟨hK, ⟨f, rfl, hf⟩, ⟨g, rfl, hg⟩⟩ := hp
    refine ⟨_, hK.same, ?_⟩
    clear hK
    unfold hashC
    unfold sSum sText
    generalize ho0 : @sumPre = zo0, ho1 : @joinG = zo1, ho2 : @cutC = zo2, ho3 : @sumI = zo3, ho4 : @HashC = zo4, ho5 : @u8s = zo5, ho6 : @nodeF = zo6, ho7 : @nodePre = zo7
    generalize hA : Arith.std = A
    cbv
    subst hA ho0 ho1 ho2 ho3 ho4 ho5 ho6 ho7
    have j1 := (strs_cut [[1], u8s (hashC f), u8s (hashC g)]).2
    have f1 : [[1], u8s (hashC f), u8s (hashC g)].flatten = [1] ++ u8s (hashC f) ++ u8s (hashC g) := by simp
    have p1 := sumPre_cut [[1], u8s (hashC f), u8s (hashC g)] (by rw [f1]; show ([1] ++ hashB f ++ hashB g).length ≤ _; rw [List.length_append, List.length_append, hashB_len, hashB_len]; show 1 + 32 + 32 ≤ _; decide) (by show 3 ≤ 1000; decide)
    refine Need.mk ⟨f, rfl, hf⟩ fun _ => Need.mk ⟨g, rfl, hg⟩ fun _ => Need.mk p1 fun _ => ?_
    show ∃ σ, LeftF _ _ _ σ (.agg (hashC (sumI (joinG 3 (cutC 1 ([[1], u8s (hashC f), u8s (hashC g)].map CV.str) 0))))) _ (.agg (hashC (nodeF (u8s (hashC f)) (u8s (hashC g))))) _
    rw [show joinG 3 (cutC 1 ([[1], u8s (hashC f), u8s (hashC g)].map CV.str) 0) = [1] ++ u8s (hashC f) ++ u8s (hashC g) from j1.trans f1]
    exact ⟨[0], ⟨rfl, by repeat' (first | exact trivial | exact rfl | apply And.intro), by decide, rfl, by repeat' (first | exact trivial | exact rfl | apply And.intro)⟩⟩

/-- The bytes of a sum's cells. -/
def hOf (cs : List CV) (j : Nat) : Int := match cs[j]? with
  | some (.int .u8 v) => v
  | _ => 0
/-- What stands above leaves. -/
def topR (h : Nat → Nat → Int) (lo n : Nat) : Nat → Int :=
  if hn : n < 2 ∨ 1073741824 < n then (if n = 0 then fun _ => 0 else h lo)
  else nodeF (hashB (topR h lo (hf n).toNat)) (hashB (topR h (lo + (hf n).toNat) (n - (hf n).toNat)))
termination_by n
decreasing_by
  · have := hf_lt (n := (n : Int)) (by omega) (by omega); omega
  · have := hf_lt (n := (n : Int)) (by omega) (by omega); omega
theorem topR_shift (h : Nat → Nat → Int) (a : Nat) : ∀ (n lo : Nat), topR (fun i => h (a + i)) lo n = topR h (a + lo) n := by
  intro n
  induction n using Nat.strongRecOn with
  | ind n ih =>
    intro lo
    rw [topR.eq_def (fun i => h (a + i)), topR.eq_def h]
    by_cases hn : n < 2 ∨ 1073741824 < n
    · rw [dif_pos hn, dif_pos hn]
    · rw [dif_neg hn, dif_neg hn]
      have hh := hf_lt (n := (n : Int)) (by omega) (by omega)
      rw [ih (hf n).toNat (by omega) lo, ih (n - (hf n).toNat) (by omega) (lo + (hf n).toNat), Nat.add_assoc]
theorem topR_congr {h h' : Nat → Nat → Int} : ∀ (n lo : Nat), (∀ i, lo ≤ i → i < lo + n → h i = h' i) → topR h lo n = topR h' lo n := by
  intro n
  induction n using Nat.strongRecOn with
  | ind n ih =>
    intro lo hc
    rw [topR.eq_def h, topR.eq_def h']
    by_cases hn : n < 2 ∨ 1073741824 < n
    · rw [dif_pos hn, dif_pos hn]
      by_cases h0 : n = 0
      · rw [if_pos h0, if_pos h0]
      · rw [if_neg h0, if_neg h0, hc lo (Nat.le_refl _) (by omega)]
    · rw [dif_neg hn, dif_neg hn]
      have hh := hf_lt (n := (n : Int)) (by omega) (by omega)
      rw [ih (hf n).toNat (by omega) lo (fun i h1 h2 => hc i h1 (by omega)), ih (n - (hf n).toNat) (by omega) (lo + (hf n).toNat) (fun i h1 h2 => hc i (by omega) (by omega))]
theorem topR_range {h : Nat → Nat → Int} : ∀ (n lo : Nat), (∀ i, lo ≤ i → i < lo + n → ∀ j, 0 ≤ h i j ∧ h i j < 256) → ∀ j, 0 ≤ topR h lo n j ∧ topR h lo n j < 256 := by
  intro n lo hc j
  rw [topR.eq_def h]
  by_cases hn : n < 2 ∨ 1073741824 < n
  · rw [dif_pos hn]
    by_cases h0 : n = 0
    · rw [if_pos h0]; decide
    · rw [if_neg h0]; exact hc lo (Nat.le_refl _) (by omega) j
  · rw [dif_neg hn]
    exact sumI_range _ j
theorem hOf_at (f : Nat → Int) (j : Nat) : hOf (hashC f) j = if j < 32 then f j else 0 := by
  have e : hashC f = (List.range 32).map fun i => CV.int .u8 (f i) := rfl
  unfold hOf
  rw [e, List.getElem?_map]
  by_cases h : j < 32
  · rw [List.getElem?_range h, if_pos h]; rfl
  · rw [List.getElem?_eq_none (by rw [List.length_range]; omega), if_neg h]; rfl
theorem hOf_range {cs : List CV} (h : HashC cs) (j : Nat) : 0 ≤ hOf cs j ∧ hOf cs j < 256 := by
  obtain ⟨f, rfl, hf⟩ := h
  rw [hOf_at]
  split
  · exact hf j
  · decide
theorem hOf_idem {cs : List CV} (h : HashC cs) : hOf (hashC (hOf cs)) = hOf cs := by
  obtain ⟨f, rfl, _⟩ := h
  funext j
  rw [hOf_at, hOf_at]
  split <;> rfl
def topG (get : Nat → List CV) (n : Nat) : Nat → Int := topR (fun i => hOf (get i)) 0 n
def HashesAt (n : Nat) (get : Nat → List CV) : Prop := ∀ i, i < n → HashC (get i)
theorem HashesAt.same {n : Nat} {get : Nat → List CV} {ty : Nat} (h : HashesAt n get) : hSame [.elems ty 32 n get] [.elems ty 32 n (fun i => hashC (hOf (get i)))] := by
  refine ⟨⟨rfl, rfl, rfl, fun i hi => ?_⟩, trivial⟩
  obtain ⟨f, hf, _⟩ := h i hi
  show get i = hashC (hOf (get i))
  rw [hf]
  rfl
theorem topG_cut {gets : Nat → List CV} {m : Nat} (h : HashesAt m gets) (a k : Nat) (hk : a + k ≤ m) : topG (fun i => hashC (hOf (gets (a + i)))) k = topR (fun i => hOf (gets i)) a k := by
  unfold topG
  have := topR_shift (fun i => hOf (gets i)) a k 0
  rw [Nat.add_zero] at this
  rw [← this]
  refine topR_congr k 0 fun i _ hi => ?_
  exact hOf_idem (h (a + i) (by omega))
theorem topG_two {gets : Nat → List CV} {m : Nat} (h2 : 2 ≤ m) (h3 : m ≤ 1073741824) : topG gets m = nodeF (hashB (topR (fun i => hOf (gets i)) 0 (hf m).toNat)) (hashB (topR (fun i => hOf (gets i)) (hf m).toNat (m - (hf m).toNat))) := by
  unfold topG
  rw [topR, dif_neg (by omega), Nat.zero_add]
theorem topG_zero (gets : Nat → List CV) : topG gets 0 = fun _ => 0 := by
  unfold topG
  rw [topR, dif_pos (by omega), if_pos rfl]
theorem topG_one (gets : Nat → List CV) : topG gets 1 = hOf (gets 0) := by
  unfold topG
  rw [topR, dif_pos (by omega), if_neg (by decide)]
theorem topG_hash {gets : Nat → List CV} {m : Nat} (h : HashesAt m gets) (a k : Nat) (hk : a + k ≤ m) : HashC (hashC (topR (fun i => hOf (gets i)) a k)) := ⟨_, rfl, topR_range k a fun i _ hi j => hOf_range (h i (by omega)) j⟩
theorem HashesAt.cut {gets : Nat → List CV} {m : Nat} (h : HashesAt m gets) (a k : Nat) (hk : a + k ≤ m) : HashesAt k (fun i => hashC (hOf (gets (a + i)))) := fun i hi => ⟨_, rfl, hOf_range (h (a + i) (by omega))⟩
def topPre (N : Nat) (gg sz n : Nat) (get : Nat → List CV) (ty one m : Nat) (gets : Nat → List CV) : Prop := KsAt gg sz n get ∧ ty = 24 ∧ one = 32 ∧ HashesAt m gets ∧ m < N ∧ m ≤ 1073741824
def sTopN (N : Nat) : SpecF
  | [.c (.row 1)], [.glob gg sz n get, .elems ty one m gets] => some (topPre N gg sz n get ty one m gets, .agg (hashC (topG gets m)), [.dead, .dead])
  | _, _ => none

set_option maxRecDepth 100000 in
set_option maxHeartbeats 8000000 in
theorem topStep (N : Nat) (ih : Fn Tryd.prog 55 [0] [(24, 32)] (sTopN N)) : Fn Tryd.prog 55 [0] [(24, 32)] (sTopN (N + 1)) := by
  have hC : CtsOk Tryd.prog [(53, appPure sHalf), (55, appFn [0] [(24, 32)] (sTopN N)), (56, appFn [0] [] sNode)] := CtsOk.cons (Pure.ct halfP) <| CtsOk.cons (Fn.ct ih) <| CtsOk.cons (Fn.ct nodeP) <| CtsOk.nil _
  refine Fn.of (E := tbH) [0] 0 [(7, [(2002, false), (0, true), (1, true), (2, true), (4, true), (5, true), (6, true), (3, false), (7, false), (8, false), (9, false)])] tbH_ok hC (by kernel_rfl) Tryd.func55 rfl rfl rfl (by kernel_rfl) (by kernel_rfl) 2 5 1 ?_ ?_
  · intro args h pre r h' hs
    unfold sTopN at hs
    split at hs
    · cases hs; exact ⟨rfl, rfl, Nat.le_of_ble_eq_true rfl⟩
    · cases hs
  · intro args h pre r h' hs hp
    unfold sTopN at hs
    split at hs
    rotate_left
    · cases hs
    rename_i gg sz n get ty one m gets
    cases hs
    obtain ⟨hK, rfl, rfl, hst, hlt, hm⟩ := hp
    refine ⟨[.glob 0 1 64 (fun i => [.int .u32 (kOf i)]), .elems 24 32 m (fun i => hashC (hOf (gets i)))], ⟨hK.same.1, hst.same.1, trivial⟩, ?_⟩
    clear hK
    unfold sTopN sNode sHalf
    generalize ho0 : @cutC = zo0, ho1 : @kOf = zo1, ho2 : @HashC = zo2, ho3 : @u8s = zo3, ho4 : @nodeF = zo4, ho5 : @nodePre = zo5, ho6 : @hf = zo6, ho7 : @hOf = zo7, ho8 : @topG = zo8, ho9 : @topPre = zo9
    generalize hA : Arith.std = A
    cbv
    subst hA ho0 ho1 ho2 ho3 ho4 ho5 ho6 ho7 ho8 ho9
    refine Ife.mk (fun h => ?_) (fun h => ?_)
    · have h : (m : Int) = 0 := of_decide_eq_true (p := (m : Int) = 0) h
      obtain rfl : m = 0 := by omega
      rw [topG_zero]
      exact ⟨[0, 1], ⟨rfl, by repeat' (first | exact trivial | exact rfl | apply And.intro), by decide, rfl, by repeat' (first | exact trivial | exact rfl | apply And.intro)⟩⟩
    have h0 : ¬ (m : Int) = 0 := of_decide_eq_false (p := (m : Int) = 0) h
    refine Ife.mk (fun h => ?_) (fun h => ?_)
    · have h : (m : Int) = 1 := of_decide_eq_true (p := (m : Int) = 1) h
      obtain rfl : m = 1 := by omega
      rw [topG_one]
      refine Need.mk (by show (0 : Int) ≤ 0 ∧ (0 : Int) < ((1 : Nat) : Int); decide) fun _ => Need.mk (by show (0 : Int).toNat < 1; decide) fun _ => ?_
      exact ⟨[0, 1], ⟨rfl, by repeat' (first | exact trivial | exact rfl | apply And.intro), by decide, rfl, by repeat' (first | exact trivial | exact rfl | apply And.intro)⟩⟩
    have h1 : ¬ (m : Int) = 1 := of_decide_eq_false (p := (m : Int) = 1) h
    have hh := hf_lt (n := (m : Int)) (by omega) (by omega)
    have e1 : topG (fun i => hashC (hOf (gets (0 + i)))) (hf (m : Int) - 0).toNat = topR (fun i => hOf (gets i)) 0 (hf (m : Int)).toNat := by
      rw [show (hf (m : Int) - 0).toNat = (hf (m : Int)).toNat by omega]
      exact topG_cut hst 0 _ (by omega)
    have e2 : topG (fun i => hashC (hOf (gets ((hf (m : Int)).toNat + i)))) ((m : Int) - hf (m : Int)).toNat = topR (fun i => hOf (gets i)) (hf (m : Int)).toNat (m - (hf (m : Int)).toNat) := by
      rw [show ((m : Int) - hf (m : Int)).toNat = m - (hf (m : Int)).toNat by omega]
      exact topG_cut hst _ _ (by omega)
    refine Need.mk trivial fun _ => Need.mk (by show (0 : Int) ≤ 0 ∧ 0 ≤ hf (m : Int) ∧ hf (m : Int) ≤ (m : Int); omega) fun _ => Need.mk (by show 0 ≤ hf (m : Int) ∧ hf (m : Int) ≤ (m : Int) ∧ (m : Int) ≤ (m : Int); omega) fun _ => ?_
    refine Need.mk ⟨ksAt_self, rfl, rfl, hst.cut 0 (hf (m : Int) - 0).toNat (by omega), (by show (hf (m : Int) - 0).toNat < N; omega), (by show (hf (m : Int) - 0).toNat ≤ 1073741824; omega)⟩ fun _ => ?_
    refine Need.mk ⟨ksAt_self, rfl, rfl, hst.cut (hf (m : Int)).toNat ((m : Int) - hf (m : Int)).toNat (by omega), (by show ((m : Int) - hf (m : Int)).toNat < N; omega), (by show ((m : Int) - hf (m : Int)).toNat ≤ 1073741824; omega)⟩ fun _ => ?_
    refine Need.mk ⟨ksAt_self, (show HashC (hashC (topG (fun i => hashC (hOf (gets (0 + i)))) (hf (m : Int) - 0).toNat)) from by rw [e1]; exact topG_hash hst 0 _ (by omega)), (show HashC (hashC (topG (fun i => hashC (hOf (gets ((hf (m : Int)).toNat + i)))) ((m : Int) - hf (m : Int)).toNat)) from by rw [e2]; exact topG_hash hst _ _ (by omega))⟩ fun _ => ?_
    show ∃ σ, LeftF _ _ _ σ (.agg (hashC (nodeF (u8s (hashC (topG (fun i => hashC (hOf (gets (0 + i)))) (hf (m : Int) - 0).toNat))) (u8s (hashC (topG (fun i => hashC (hOf (gets ((hf (m : Int)).toNat + i)))) ((m : Int) - hf (m : Int)).toNat)))))) _ (.agg (hashC (topG gets m))) _
    rw [e1, e2, topG_two (by omega) hm, u8s_hash, u8s_hash]
    exact ⟨[0, 1], ⟨rfl, by repeat' (first | exact trivial | exact rfl | apply And.intro), by decide, rfl, by repeat' (first | exact trivial | exact rfl | apply And.intro)⟩⟩

theorem topAll (N : Nat) : Fn Tryd.prog 55 [0] [(24, 32)] (sTopN N) := by
  induction N with
  | zero =>
    refine Fn.plain (by kernel_rfl) (fun args h pre res h' hs => ?_) fun args h pre res h' hs hp ρ W us rel hus => ?_
    · unfold sTopN at hs
      split at hs
      · cases hs; exact ⟨rfl, Nat.le_refl _⟩
      · cases hs
    · unfold sTopN at hs
      split at hs
      · cases hs; exact absurd hp.2.2.2.2.1 (Nat.not_lt_zero _)
      · cases hs
  | succ N ih => exact topStep N ih
def topPre0 (gg sz n : Nat) (get : Nat → List CV) (ty one m : Nat) (gets : Nat → List CV) : Prop := KsAt gg sz n get ∧ ty = 24 ∧ one = 32 ∧ HashesAt m gets ∧ m ≤ 1073741824
def sTop : SpecF
  | [.c (.row 1)], [.glob gg sz n get, .elems ty one m gets] => some (topPre0 gg sz n get ty one m gets, .agg (hashC (topG gets m)), [.dead, .dead])
  | _, _ => none

theorem topP : Fn Tryd.prog 55 [0] [(24, 32)] sTop := by
  refine Fn.plain (by kernel_rfl) (fun args h pre res h' hs => ?_) fun args h pre res h' hs hp ρ W us rel hus => ?_
  · unfold sTop at hs
    split at hs
    · cases hs; exact ⟨rfl, Nat.le_refl _⟩
    · cases hs
  · unfold sTop at hs
    split at hs
    rotate_left
    · cases hs
    rename_i gg sz n get ty one m gets
    cases hs
    obtain ⟨h1, h2, h3, h4, h5⟩ := hp
    exact (topAll (m + 1)).run _ _ _ _ _ rfl ⟨h1, h2, h3, h4, Nat.lt_succ_self m, h5⟩ ρ W us rel hus
end Go.Proofs.YtophhppklaofaaaDoor.Vx
end

section
/- The law TreeGrows, by the walker. -/
namespace Go.Proofs.YtophhppklaofaaaDoor.Vx
open Go.RowKit Sha
set_option linter.unusedVariables false
set_option linter.unusedSimpArgs false


end Go.Proofs.YtophhppklaofaaaDoor.Vx
namespace Go.Proofs.YtophhppklaofaaaDoor
open Go.ChangeShapes Go.WideShapes Go.ChangeAt Go.RowKit
set_option linter.unusedVariables false
set_option linter.unusedSimpArgs false
section
variable {H : Type} {enc : TypeId × Value → H} {w : World} {base : Nat}
set_option maxRecDepth 100000 in
theorem open_Hashes {v : Value} {d : DataW H} {p : List MemPlace} (hv : Value.okWide Tryd.prog w .any base 71 v) (h : DataW.Trod enc Tryd.prog w 0 (fun _ => true) true 71 v d p) :
    ∃ (a : Option Addr) (cap : Nat) (fs : List (Nat → Int)), v = .slice a fs.length cap ∧ SlIn w a 32 cap (fs.map hashV) ∧ ∀ f ∈ fs, ∀ i, 0 ≤ f i ∧ f i < 256 := by
  obtain ⟨a, cap, xs, rfl, hs, hx⟩ := open_slice (sz := 32) (P := fun l => ∃ f : Nat → Int, l = hashV f ∧ ∀ i, 0 ≤ f i ∧ f i < 256) (by decide) Tryd.underlying71 cellsG_Hash (fun fuel l x hl => trod_Hash hl) hv h
  obtain ⟨g, hg⟩ : ∃ g : Nat → Nat → Int, ∀ i (hi : i < xs.length), xs[i] = hashV (g i) ∧ ∀ j, 0 ≤ g i j ∧ g i j < 256 := by
    refine ⟨fun i => if h : i < xs.length then Classical.choose (hx xs[i] (List.getElem_mem h)).2 else fun _ => 0, fun i hi => ?_⟩
    dsimp only
    rw [dif_pos hi]
    exact Classical.choose_spec (hx xs[i] (List.getElem_mem hi)).2
  have e : xs = ((List.range xs.length).map g).map hashV := by
    apply List.ext_getElem
    · simp
    · intro i h1 h2
      rw [(hg i h1).1]
      simp
  refine ⟨a, cap, (List.range xs.length).map g, by simp, ?_, fun f hf => ?_⟩
  · rw [← e]
    exact hs
  · obtain ⟨i, hi, rfl⟩ := List.mem_map.1 hf
    exact (hg i (List.mem_range.1 hi)).2
end
theorem hashes_good {w : World} {a : Option Addr} {cap : Nat} {fs : List (Nat → Int)} (hs : SlIn w a 32 cap (fs.map hashV)) : ∃ p : Vx.Pl, p.v = .slice a fs.length cap ∧ Vx.Good w 32 (fs.length, fun i => Vx.hashC (fs.getD i fun _ => 0)) p := by
  obtain ⟨p, hp, g⟩ := hs.good (get := fun i => Vx.hashC (fs.getD i fun _ => 0)) (fun i hi => by
    have hi' : i < fs.length := by simpa using hi
    rw [List.getElem_map, List.getD_eq_getElem?_getD, List.getElem?_eq_getElem hi']
    exact hashC_is _ _)
  simp only [List.length_map] at hp g
  exact ⟨p, hp, g⟩
theorem hashes_at {fs : List (Nat → Int)} (h : ∀ f ∈ fs, ∀ i, 0 ≤ f i ∧ f i < 256) : Vx.HashesAt fs.length (fun i => Vx.hashC (fs.getD i fun _ => 0)) := fun i hi => ⟨_, rfl, by
  rw [List.getD_eq_getElem?_getD, List.getElem?_eq_getElem hi]
  exact h _ (List.getElem_mem hi)⟩
end Go.Proofs.YtophhppklaofaaaDoor
end

section
/- Trees: ways, by the walker. -/
namespace Go.Proofs.YtophhppklaofaaaDoor.Vx
open Go.RowKit Sha
set_option linter.unusedVariables false
set_option linter.unusedSimpArgs false
/-- The sums beside the way from a leaf up, the lowest first. -/
def wayR (h : Nat → Nat → Int) (lo n : Nat) (i : Int) : List (Nat → Int) :=
  if hc : 1 < n ∧ n ≤ 1073741824 ∧ 0 ≤ i ∧ i < (n : Int) then
    if i < hf n then wayR h lo (hf n).toNat i ++ [topR h (lo + (hf n).toNat) (n - (hf n).toNat)]
    else wayR h (lo + (hf n).toNat) (n - (hf n).toNat) (i - hf n) ++ [topR h lo (hf n).toNat]
  else []
termination_by n
decreasing_by
  · have := hf_lt (n := (n : Int)) (by omega) (by omega); omega
  · have := hf_lt (n := (n : Int)) (by omega) (by omega); omega
theorem wayR_shift (h : Nat → Nat → Int) (a : Nat) : ∀ (n lo : Nat) (i : Int), wayR (fun i => h (a + i)) lo n i = wayR h (a + lo) n i := by
  intro n
  induction n using Nat.strongRecOn with
  | ind n ih =>
    intro lo i
    rw [wayR.eq_def (fun i => h (a + i)), wayR.eq_def h]
    by_cases hc : 1 < n ∧ n ≤ 1073741824 ∧ 0 ≤ i ∧ i < (n : Int)
    · rw [dif_pos hc, dif_pos hc]
      have hh := hf_lt (n := (n : Int)) (by omega) (by omega)
      rw [ih (hf n).toNat (by omega) lo i, ih (n - (hf n).toNat) (by omega) (lo + (hf n).toNat) (i - hf n), topR_shift, topR_shift, Nat.add_assoc]
    · rw [dif_neg hc, dif_neg hc]
theorem wayR_congr {h h' : Nat → Nat → Int} : ∀ (n lo : Nat) (i : Int), (∀ j, lo ≤ j → j < lo + n → h j = h' j) → wayR h lo n i = wayR h' lo n i := by
  intro n
  induction n using Nat.strongRecOn with
  | ind n ih =>
    intro lo i hj
    rw [wayR.eq_def h, wayR.eq_def h']
    by_cases hc : 1 < n ∧ n ≤ 1073741824 ∧ 0 ≤ i ∧ i < (n : Int)
    · rw [dif_pos hc, dif_pos hc]
      have hh := hf_lt (n := (n : Int)) (by omega) (by omega)
      rw [ih (hf n).toNat (by omega) lo i (fun j h1 h2 => hj j h1 (by omega)), ih (n - (hf n).toNat) (by omega) (lo + (hf n).toNat) (i - hf n) (fun j h1 h2 => hj j (by omega) (by omega)), topR_congr (h := h) (h' := h') (n - (hf n).toNat) (lo + (hf n).toNat) (fun j h1 h2 => hj j (by omega) (by omega)), topR_congr (h := h) (h' := h') (hf n).toNat lo (fun j h1 h2 => hj j h1 (by omega))]
    · rw [dif_neg hc, dif_neg hc]
theorem wayR_len (h : Nat → Nat → Int) : ∀ (n lo : Nat) (i : Int), (wayR h lo n i).length ≤ n := by
  intro n
  induction n using Nat.strongRecOn with
  | ind n ih =>
    intro lo i
    rw [wayR.eq_def h]
    by_cases hc : 1 < n ∧ n ≤ 1073741824 ∧ 0 ≤ i ∧ i < (n : Int)
    · rw [dif_pos hc]
      have hh := hf_lt (n := (n : Int)) (by omega) (by omega)
      have a1 := ih (hf n).toNat (by omega) lo i
      have a2 := ih (n - (hf n).toNat) (by omega) (lo + (hf n).toNat) (i - hf n)
      split <;> rw [List.length_append, List.length_singleton] <;> omega
    · rw [dif_neg hc]; exact Nat.zero_le _
def hashesG (l : List (Nat → Int)) (i : Nat) : List CV := hashC (l.getD i fun _ => 0)
def wayG (get : Nat → List CV) (n : Nat) (i : Int) : List (Nat → Int) := wayR (fun i => hOf (get i)) 0 n i
theorem hashesG_push (l : List (Nat → Int)) (f : Nat → Int) (i : Nat) (h : i < l.length + 1) : pushG l.length (hashesG l) (hashC f) i = hashesG (l ++ [f]) i := by
  rcases Nat.lt_or_ge i l.length with hi | hi
  · rw [pushG_lt hi]
    simp [hashesG, List.getD, List.getElem?_append_left hi]
  · obtain rfl : i = l.length := by omega
    rw [pushG_eq]
    simp [hashesG, List.getD]
theorem wayG_cut {gets : Nat → List CV} {m : Nat} (h : HashesAt m gets) (a k : Nat) (i : Int) (hk : a + k ≤ m) : wayG (fun i => hashC (hOf (gets (a + i)))) k i = wayR (fun i => hOf (gets i)) a k i := by
  unfold wayG
  have := wayR_shift (fun i => hOf (gets i)) a k 0 i
  rw [Nat.add_zero] at this
  rw [← this]
  refine wayR_congr k 0 i fun j _ hj => ?_
  exact hOf_idem (h (a + j) (by omega))
theorem wayG_out {gets : Nat → List CV} {m : Nat} {i : Int} (h : ¬ (1 < m ∧ m ≤ 1073741824 ∧ 0 ≤ i ∧ i < (m : Int))) : wayG gets m i = [] := by
  unfold wayG
  rw [wayR, dif_neg h]
theorem wayG_lo {gets : Nat → List CV} {m : Nat} {i : Int} (h : 1 < m ∧ m ≤ 1073741824 ∧ 0 ≤ i ∧ i < (m : Int)) (hi : i < hf m) : wayG gets m i = wayR (fun i => hOf (gets i)) 0 (hf m).toNat i ++ [topR (fun i => hOf (gets i)) (hf m).toNat (m - (hf m).toNat)] := by
  unfold wayG
  rw [wayR, dif_pos h, if_pos hi, Nat.zero_add]
theorem wayG_hi {gets : Nat → List CV} {m : Nat} {i : Int} (h : 1 < m ∧ m ≤ 1073741824 ∧ 0 ≤ i ∧ i < (m : Int)) (hi : ¬ i < hf m) : wayG gets m i = wayR (fun i => hOf (gets i)) (hf m).toNat (m - (hf m).toNat) (i - hf m) ++ [topR (fun i => hOf (gets i)) 0 (hf m).toNat] := by
  unfold wayG
  rw [wayR, dif_pos h, if_neg hi, Nat.zero_add]
def wayPre (N : Nat) (gg sz n : Nat) (get : Nat → List CV) (ty one m : Nat) (gets : Nat → List CV) : Prop := KsAt gg sz n get ∧ ty = 24 ∧ one = 32 ∧ HashesAt m gets ∧ m < N ∧ m ≤ 1000000
def sWayN (N : Nat) : SpecF
  | [.c (.row 1), .c (.int .i64 i)], [.glob gg sz n get, .elems ty one m gets] => some (wayPre N gg sz n get ty one m gets, .c (.row 2), [.dead, .dead, .row 24 32 (wayG gets m i).length (hashesG (wayG gets m i))])
  | _, _ => none

set_option maxRecDepth 100000 in
set_option maxHeartbeats 8000000 in
theorem wayStep (N : Nat) (ih : Fn Tryd.prog 57 [0] [(24, 32)] (sWayN N)) : Fn Tryd.prog 57 [0] [(24, 32)] (sWayN (N + 1)) := by
  have hC : CtsOk Tryd.prog [(53, appPure sHalf), (57, appFn [0] [(24, 32)] (sWayN N)), (55, appFn [0] [(24, 32)] sTop)] := CtsOk.cons (Pure.ct halfP) <| CtsOk.cons (Fn.ct ih) <| CtsOk.cons (Fn.ct topP) <| CtsOk.nil _
  refine Fn.of (E := tbH) [0] 0 [(5, [(2002, false), (2003, false), (2004, false), (2005, false), (0, true), (1, true), (2, true), (3, true), (5, true), (6, true), (7, true), (4, false), (8, false), (9, false), (10, false), (11, true)]), (6, [(2002, false), (2003, false), (2004, false), (2005, false), (0, true), (1, true), (2, true), (3, true), (4, true), (5, true), (7, true), (8, true), (9, true), (6, false), (10, false), (11, false), (12, false), (13, true)])] tbH_ok hC (by kernel_rfl) Tryd.func57 rfl rfl rfl (by kernel_rfl) (by kernel_rfl) 2 24 32 ?_ ?_
  · intro args h pre r h' hs
    unfold sWayN at hs
    split at hs
    · cases hs; exact ⟨rfl, rfl, Nat.le_of_ble_eq_true rfl⟩
    · cases hs
  · intro args h pre r h' hs hp
    unfold sWayN at hs
    split at hs
    rotate_left
    · cases hs
    rename_i i gg sz n get ty one m gets
    cases hs
    obtain ⟨hK, rfl, rfl, hst, hlt, hm⟩ := hp
    refine ⟨[.glob 0 1 64 (fun i => [.int .u32 (kOf i)]), .elems 24 32 m (fun i => hashC (hOf (gets i)))], ⟨hK.same.1, hst.same.1, trivial⟩, ?_⟩
    clear hK
    unfold sWayN sTop sHalf
    generalize hg0 : (List.length : List (Nat → Int) → Nat) = g0
    generalize ho0 : @hf = zo0, ho1 : @hOf = zo1, ho2 : @topG = zo2, ho3 : @topPre0 = zo3, ho4 : @HashesAt = zo4, ho5 : @cutC = zo5, ho6 : @kOf = zo6, ho7 : @nodeF = zo7, ho8 : @wayG = zo8, ho9 : @wayPre = zo9, ho10 : @hashesG = zo10
    generalize hA : Arith.std = A
    cbv
    subst hA hg0 ho0 ho1 ho2 ho3 ho4 ho5 ho6 ho7 ho8 ho9 ho10
    refine Ife.mk (fun h => ?_) (fun h => ?_)
    · have h : i < 0 := of_decide_eq_true (p := i < 0) h
      rw [wayG_out (by omega)]
      exact ⟨[0, 1, 2], ⟨rfl, rfl, (by show List.Nodup [2]; decide), rfl, by repeat' (first | exact trivial | exact rfl | apply And.intro | (intro i hi; rfl) | (intro i hi; exact absurd hi (Nat.not_lt_zero _)))⟩⟩
    have h0 : ¬ i < 0 := of_decide_eq_false (p := i < 0) h
    refine Ife.mk (fun h => ?_) (fun h => ?_)
    · have h : (m : Int) ≤ i := of_decide_eq_true (p := (m : Int) ≤ i) h
      rw [wayG_out (by omega)]
      exact ⟨[0, 1, 2], ⟨rfl, rfl, (by show List.Nodup [2]; decide), rfl, by repeat' (first | exact trivial | exact rfl | apply And.intro | (intro i hi; rfl) | (intro i hi; exact absurd hi (Nat.not_lt_zero _)))⟩⟩
    have h1 : ¬ (m : Int) ≤ i := of_decide_eq_false (p := (m : Int) ≤ i) h
    refine Ife.mk (fun h => ?_) (fun h => ?_)
    · have h : (m : Int) < 2 := of_decide_eq_true (p := (m : Int) < 2) h
      rw [wayG_out (by omega)]
      exact ⟨[0, 1, 2], ⟨rfl, rfl, (by show List.Nodup [2]; decide), rfl, by repeat' (first | exact trivial | exact rfl | apply And.intro | (intro i hi; rfl) | (intro i hi; exact absurd hi (Nat.not_lt_zero _)))⟩⟩
    have h2 : ¬ (m : Int) < 2 := of_decide_eq_false (p := (m : Int) < 2) h
    have hh := hf_lt (n := (m : Int)) (by omega) (by omega)
    have hc : 1 < m ∧ m ≤ 1073741824 ∧ 0 ≤ i ∧ i < (m : Int) := by omega
    have k1 : (hf (m : Int) - 0).toNat = (hf (m : Int)).toNat := by omega
    have k2 : ((m : Int) - hf (m : Int)).toNat = m - (hf (m : Int)).toNat := by omega
    have e1 : topG (fun i => hashC (hOf (gets (0 + i)))) (hf (m : Int) - 0).toNat = topR (fun i => hOf (gets i)) 0 (hf (m : Int)).toNat := by rw [k1]; exact topG_cut hst 0 _ (by omega)
    have e2 : topG (fun i => hashC (hOf (gets ((hf (m : Int)).toNat + i)))) ((m : Int) - hf (m : Int)).toNat = topR (fun i => hOf (gets i)) (hf (m : Int)).toNat (m - (hf (m : Int)).toNat) := by rw [k2]; exact topG_cut hst _ _ (by omega)
    have f1 : wayG (fun i => hashC (hOf (gets (0 + i)))) (hf (m : Int) - 0).toNat i = wayR (fun i => hOf (gets i)) 0 (hf (m : Int)).toNat i := by rw [k1]; exact wayG_cut hst 0 _ i (by omega)
    have f2 : wayG (fun i => hashC (hOf (gets ((hf (m : Int)).toNat + i)))) ((m : Int) - hf (m : Int)).toNat (i - hf (m : Int)) = wayR (fun i => hOf (gets i)) (hf (m : Int)).toNat (m - (hf (m : Int)).toNat) (i - hf (m : Int)) := by rw [k2]; exact wayG_cut hst _ _ _ (by omega)
    have c1 : HashesAt (hf (m : Int) - 0).toNat (fun i => hashC (hOf (gets (0 + i)))) := hst.cut 0 _ (by omega)
    have c2 : HashesAt ((m : Int) - hf (m : Int)).toNat (fun i => hashC (hOf (gets ((hf (m : Int)).toNat + i)))) := hst.cut _ _ (by omega)
    have s1 : (0 : Int) ≤ 0 ∧ 0 ≤ hf (m : Int) ∧ hf (m : Int) ≤ (m : Int) := by omega
    have s2 : 0 ≤ hf (m : Int) ∧ hf (m : Int) ≤ (m : Int) ∧ (m : Int) ≤ (m : Int) := by omega
    have z1 := wayR_len (fun i => hOf (gets i)) (hf (m : Int)).toNat 0 i
    have z2 := wayR_len (fun i => hOf (gets i)) (m - (hf (m : Int)).toNat) (hf (m : Int)).toNat (i - hf (m : Int))
    refine Need.mk trivial fun _ => ?_
    refine Ife.mk (fun h => ?_) (fun h => ?_)
    · have h : i < hf (m : Int) := of_decide_eq_true (p := i < hf (m : Int)) h
      refine Need.mk s1 fun _ => Need.mk s2 fun _ => Need.mk ⟨ksAt_self, rfl, rfl, c1, (by show (hf (m : Int) - 0).toNat < N; omega), (by show (hf (m : Int) - 0).toNat ≤ 1000000; omega)⟩ fun _ => Need.mk ⟨ksAt_self, rfl, rfl, c2, (by show ((m : Int) - hf (m : Int)).toNat ≤ 1073741824; omega)⟩ fun _ => ?_
      refine Need.mk (by show (wayG (fun i => hashC (hOf (gets (0 + i)))) (hf (m : Int) - 0).toNat i).length + 1 ≤ maxLen ∧ ((wayG (fun i => hashC (hOf (gets (0 + i)))) (hf (m : Int) - 0).toNat i).length + 1) * 32 ≤ 140737488355328; rw [f1]; unfold maxLen; omega) fun _ => ?_
      rw [wayG_lo hc h, ← f1, ← e2]
      exact ⟨[0, 1, 6], ⟨rfl, rfl, (by show List.Nodup [6]; decide), rfl, by
        repeat' (first | exact trivial | exact rfl | apply And.intro)
        · refine Eq.trans ?_ List.length_append.symm
          rfl
        · intro j hj
          exact hashesG_push _ _ j (Nat.lt_of_lt_of_eq hj List.length_append)⟩⟩
    · have h : ¬ i < hf (m : Int) := of_decide_eq_false (p := i < hf (m : Int)) h
      refine Need.mk s2 fun _ => Need.mk (by show fitStd .i64 (i - hf (m : Int)); unfold fitStd; omega) fun _ => Need.mk s1 fun _ => Need.mk ⟨ksAt_self, rfl, rfl, c2, (by show ((m : Int) - hf (m : Int)).toNat < N; omega), (by show ((m : Int) - hf (m : Int)).toNat ≤ 1000000; omega)⟩ fun _ => Need.mk ⟨ksAt_self, rfl, rfl, c1, (by show (hf (m : Int) - 0).toNat ≤ 1073741824; omega)⟩ fun _ => ?_
      refine Need.mk (by show (wayG (fun i => hashC (hOf (gets ((hf (m : Int)).toNat + i)))) ((m : Int) - hf (m : Int)).toNat (i - hf (m : Int))).length + 1 ≤ maxLen ∧ ((wayG (fun i => hashC (hOf (gets ((hf (m : Int)).toNat + i)))) ((m : Int) - hf (m : Int)).toNat (i - hf (m : Int))).length + 1) * 32 ≤ 140737488355328; rw [f2]; unfold maxLen; omega) fun _ => ?_
      rw [wayG_hi hc h, ← f2, ← e1]
      exact ⟨[0, 1, 6], ⟨rfl, rfl, (by show List.Nodup [6]; decide), rfl, by
        repeat' (first | exact trivial | exact rfl | apply And.intro)
        · refine Eq.trans ?_ List.length_append.symm
          rfl
        · intro j hj
          exact hashesG_push _ _ j (Nat.lt_of_lt_of_eq hj List.length_append)⟩⟩

theorem wayAll (N : Nat) : Fn Tryd.prog 57 [0] [(24, 32)] (sWayN N) := by
  induction N with
  | zero =>
    refine Fn.plain (by kernel_rfl) (fun args h pre res h' hs => ?_) fun args h pre res h' hs hp ρ W us rel hus => ?_
    · unfold sWayN at hs
      split at hs
      · cases hs; exact ⟨rfl, Nat.le_of_ble_eq_true rfl⟩
      · cases hs
    · unfold sWayN at hs
      split at hs
      · cases hs; exact absurd hp.2.2.2.2.1 (Nat.not_lt_zero _)
      · cases hs
  | succ N ih => exact wayStep N ih
def wayPre0 (gg sz n : Nat) (get : Nat → List CV) (ty one m : Nat) (gets : Nat → List CV) : Prop := KsAt gg sz n get ∧ ty = 24 ∧ one = 32 ∧ HashesAt m gets ∧ m ≤ 1000000
def sWay : SpecF
  | [.c (.row 1), .c (.int .i64 i)], [.glob gg sz n get, .elems ty one m gets] => some (wayPre0 gg sz n get ty one m gets, .c (.row 2), [.dead, .dead, .row 24 32 (wayG gets m i).length (hashesG (wayG gets m i))])
  | _, _ => none

theorem wayP : Fn Tryd.prog 57 [0] [(24, 32)] sWay := by
  refine Fn.plain (by kernel_rfl) (fun args h pre res h' hs => ?_) fun args h pre res h' hs hp ρ W us rel hus => ?_
  · unfold sWay at hs
    split at hs
    · cases hs; exact ⟨rfl, Nat.le_of_ble_eq_true rfl⟩
    · cases hs
  · unfold sWay at hs
    split at hs
    rotate_left
    · cases hs
    rename_i i gg sz n get ty one m gets
    cases hs
    obtain ⟨h1, h2, h3, h4, h5⟩ := hp
    exact (wayAll (m + 1)).run _ _ _ _ _ rfl ⟨h1, h2, h3, h4, Nat.lt_succ_self m, h5⟩ ρ W us rel hus
end Go.Proofs.YtophhppklaofaaaDoor.Vx
end
