/- Trees: halves and depths, by the walker. -/
import Derived.Test.YtophhppklaofaaaDoorM19
import Derived.Lib.ItoaNum
section
namespace Go.Proofs.YtophhppklaofaaaDoor.Vx
open Go.RowKit Sha
set_option linter.unusedVariables false
set_option linter.unusedSimpArgs false
def lebMay (n : Int) : Bool := decide (0 ≤ n) && decide (n ≤ 72057594037927935)
theorem eight_byte (n i : Int) (h0 : 0 ≤ n) (h1 : n ≤ 72057594037927935) (hi0 : 0 ≤ i) (hi1 : i < 8) : IntKind.wrap .u8 ((IntKind.wrap .u64 n).fdiv (2 ^ (min (8 * i).toNat 64))) = d8 n (7 - i.toNat) := by
  have hw : IntKind.wrap .u64 n = n := by rw [IntKind.wrap_u64]; omega
  have hc : i = 0 ∨ i = 1 ∨ i = 2 ∨ i = 3 ∨ i = 4 ∨ i = 5 ∨ i = 6 ∨ i = 7 := by omega
  have he : (2 : Int) ^ (min (8 * i).toNat 64) = 256 ^ (7 - (7 - i.toNat)) := by
    rcases hc with rfl | rfl | rfl | rfl | rfl | rfl | rfl | rfl <;> decide
  rw [hw, wrap_u8, he, Int.fdiv_eq_ediv_of_nonneg _ (Int.pow_nonneg (by decide))]
  rfl
/-- The greatest power of two below a number. -/
def hf (n : Int) : Int := if n < 2 ∨ 1073741824 < n then 0 else 2 ^ (Lib.bitLen (n - 1).toNat - 1)
theorem hf_zero {n : Int} (h : n < 2 ∨ 1073741824 < n) : hf n = 0 := by unfold hf; rw [if_pos h]
theorem pow_lt30 {k : Nat} (h : (2 : Int) ^ k < 1073741824) : k < 30 := by
  refine Decidable.byContradiction fun hk => ?_
  have h1 : (2 : Nat) ^ 30 ≤ 2 ^ k := Nat.pow_le_pow_right (by decide) (by omega)
  have h2 : ((2 ^ k : Nat) : Int) = (2 : Int) ^ k := by simp
  have h3 : (2 : Nat) ^ 30 = 1073741824 := by decide
  omega
theorem hf_pow {n : Int} (h : 2 ≤ n) (h2 : n ≤ 1073741824) : ∃ k : Nat, k < 30 ∧ Lib.bitLen (n - 1).toNat = k + 1 ∧ hf n = 2 ^ k ∧ (2 : Int) ^ k < n ∧ n ≤ 2 * 2 ^ k := by
  obtain ⟨b1, b2, b3⟩ := Lib.bitLenAux_bounds 64 (n - 1).toNat (by omega) (by omega)
  have e : Lib.bitLen (n - 1).toNat = Lib.bitLenAux 64 (n - 1).toNat := rfl
  obtain ⟨k, hk⟩ : ∃ k, Lib.bitLenAux 64 (n - 1).toNat = k + 1 := ⟨Lib.bitLenAux 64 (n - 1).toNat - 1, by omega⟩
  rw [hk] at b2 b3
  have c1 : ((2 ^ k : Nat) : Int) = (2 : Int) ^ k := by simp
  have c2 : (2 : Nat) ^ (k + 1) = 2 * 2 ^ k := by rw [Nat.pow_succ]; omega
  rw [Nat.add_sub_cancel] at b2
  have h4 : (2 : Int) ^ k < n := by omega
  refine ⟨k, pow_lt30 (by omega), e.trans hk, ?_, h4, by omega⟩
  unfold hf
  rw [if_neg (by omega), e, hk, Nat.add_sub_cancel]
theorem hf_lt {n : Int} (h : 2 ≤ n) (h2 : n ≤ 1073741824) : 1 ≤ hf n ∧ hf n < n ∧ n ≤ 2 * hf n := by
  obtain ⟨k, hk, _, e, h3, h4⟩ := hf_pow h h2
  have : (0 : Int) < 2 ^ k := Int.pow_pos (by decide)
  omega
def inN (n i : Int) : Bool := decide (n ≤ 1073741824) && (decide (0 ≤ i) && decide (i < n))
/-- How many sums stand beside the way from a leaf up. -/
def deep (n i : Int) : Int :=
  if h : 1 < n ∧ n ≤ 1073741824 ∧ 0 ≤ i ∧ i < n then
    if i < hf n then 1 + deep (hf n) i else 1 + deep (n - hf n) (i - hf n)
  else 0
termination_by n.toNat
decreasing_by
  · have := hf_lt (n := n) (by omega) h.2.1; omega
  · have := hf_lt (n := n) (by omega) h.2.1; omega
theorem deep_out {n i : Int} (h : ¬ (1 < n ∧ n ≤ 1073741824 ∧ 0 ≤ i ∧ i < n)) : deep n i = 0 := by rw [deep, dif_neg h]
theorem deep_lo {n i : Int} (h : 1 < n ∧ n ≤ 1073741824 ∧ 0 ≤ i ∧ i < n) (hi : i < hf n) : deep n i = 1 + deep (hf n) i := by rw [deep, dif_pos h, if_pos hi]
theorem deep_hi {n i : Int} (h : 1 < n ∧ n ≤ 1073741824 ∧ 0 ≤ i ∧ i < n) (hi : ¬ i < hf n) : deep n i = 1 + deep (n - hf n) (i - hf n) := by rw [deep, dif_pos h, if_neg hi]
theorem deep_nonneg (n i : Int) : 0 ≤ deep n i := by
  have key : ∀ m : Nat, ∀ n i : Int, n.toNat ≤ m → 0 ≤ deep n i := fun m => by
    induction m with
    | zero => intro n i h; rw [deep_out (by omega)]; omega
    | succ m ih =>
      intro n i h
      by_cases hc : 1 < n ∧ n ≤ 1073741824 ∧ 0 ≤ i ∧ i < n
      · have hh := hf_lt (n := n) (by omega) hc.2.1
        by_cases hi : i < hf n
        · rw [deep_lo hc hi]
          have := ih (hf n) i (by omega)
          omega
        · rw [deep_hi hc hi]
          have := ih (n - hf n) (i - hf n) (by omega)
          omega
      · rw [deep_out hc]; omega
  exact key _ n i (Nat.le_refl _)
def tbT : Tbl where
  T :=
    (3, ⟨1, false, [.int .i64 (0)], .int .i64, 8⟩) ::
    (4, ⟨1, false, [.ff], .bool, 1⟩) ::
    (9, ⟨1, false, [.str []], .str, 16⟩) ::
    (5, ⟨1, false, [.int .u8 (0)], .int .u8, 1⟩) ::
    (93, ⟨1, false, [.int .u64 (0)], .int .u64, 8⟩) ::
    (89, ⟨1, false, [.int .u64 (0)], .int .u64, 8⟩) ::
    (44, ⟨1, false, [.val (.slice none 0 0)], .slice 5, 24⟩) ::
    (27, ⟨1, false, [.val (.slice none 0 0)], .slice 9, 24⟩) ::
    (129, ⟨8, true, [.int .u8 (0), .int .u8 (0), .int .u8 (0), .int .u8 (0), .int .u8 (0), .int .u8 (0), .int .u8 (0), .int .u8 (0)], .array 8 5, 8⟩) ::
    (36, ⟨1, false, [.int .i64 (0)], .int .i64, 8⟩) ::
    (24, ⟨32, true, [.int .u8 (0), .int .u8 (0), .int .u8 (0), .int .u8 (0), .int .u8 (0), .int .u8 (0), .int .u8 (0), .int .u8 (0), .int .u8 (0), .int .u8 (0), .int .u8 (0), .int .u8 (0), .int .u8 (0), .int .u8 (0), .int .u8 (0), .int .u8 (0), .int .u8 (0), .int .u8 (0), .int .u8 (0), .int .u8 (0), .int .u8 (0), .int .u8 (0), .int .u8 (0), .int .u8 (0), .int .u8 (0), .int .u8 (0), .int .u8 (0), .int .u8 (0), .int .u8 (0), .int .u8 (0), .int .u8 (0), .int .u8 (0)], .array 32 5, 32⟩) ::
    []
  F :=
    (24, [0, 0, 0, 0, 0, 0, 0, 0, 0, 0, 0, 0, 0, 0, 0, 0, 0, 0, 0, 0, 0, 0, 0, 0, 0, 0, 0, 0, 0, 0, 0, 0]) ::
    []
  sym := true

theorem tbT_ok : tbT.Ok Tryd.prog where
  T :=
    TblOk.cons (by kernel_rfl) <|
    TblOk.cons (by kernel_rfl) <|
    TblOk.cons (by kernel_rfl) <|
    TblOk.cons (by kernel_rfl) <|
    TblOk.cons (by kernel_rfl) <|
    TblOk.cons (by kernel_rfl) <|
    TblOk.cons (by kernel_rfl) <|
    TblOk.cons (by kernel_rfl) <|
    TblOk.cons (by kernel_rfl) <|
    TblOk.cons (by kernel_rfl) <|
    TblOk.cons (by kernel_rfl) <|
    TblOk.nil _
  F :=
    FlatsOk.cons (FlatOk.of (D := .array 32 5) 6 (by decide) (by kernel_rfl) (by kernel_rfl) rfl (by kernel_rfl)) <|
    FlatsOk.nil _

def bLenPre (x : Int) : Prop := 0 ≤ x ∧ x ≤ 18446744073709551615
def sBLen : List SV → Option (Prop × SV)
  | [.c (.int .u64 x)] => some (bLenPre x, .c (.int .i64 (Lib.bitLen x.toNat : Nat)))
  | _ => none


def sHalf : List SV → Option (Prop × SV)
  | [.c (.int .i64 n)] => some (True, .c (.int .i64 (hf n)))
  | _ => none








def sLMay : List SV → Option (Prop × SV)
  | [.c (.int .i64 n)] => some (True, .c (.bool (lebMay n)))
  | _ => none

set_option maxRecDepth 100000 in
set_option maxHeartbeats 2000000 in
theorem lMayP : Pure Tryd.prog 113 sLMay := by
  have hC : CtsOk Tryd.prog [] := CtsOk.nil _
  refine Pure.of (E := tbT) (C := []) [] 0 [] tbT_ok hC (by kernel_rfl) Tryd.func113 rfl rfl rfl (by kernel_rfl) (by kernel_rfl) ?_ ?_
  · intro args pre r h
    unfold sLMay at h
    split at h
    · cases h; rfl
    · cases h
  · intro args pre r h hp
    unfold sLMay at h
    split at h
    rotate_left
    · cases h
    rename_i n
    cases h
    generalize hg0 : lebMay = g0
    generalize hA : Arith.std = A
    cbv
    subst hA hg0
    refine Ife.mk (fun h => ?_) (fun h => ?_)
    · have h : 0 ≤ n := of_decide_eq_true (p := 0 ≤ n) h
      show decide (n ≤ 72057594037927935) = lebMay n
      unfold lebMay
      simp [h]
    · have h : ¬ 0 ≤ n := of_decide_eq_false (p := 0 ≤ n) h
      unfold lebMay
      simp [h]

def sEight : List SV → Option (Prop × SV)
  | [.c (.int .i64 n)] => some (eightPre n, .c (.str (be8 n)))
  | _ => none

set_option maxRecDepth 100000 in
set_option maxHeartbeats 2000000 in
theorem leightP : Pure Tryd.prog 84 sEight := by
  have hC : CtsOk Tryd.prog [(113, appPure sLMay)] := CtsOk.cons (Pure.ct lMayP) <| CtsOk.nil _
  refine Pure.of (E := tbT) (C := [(113, appPure sLMay)]) [] 0 [] tbT_ok hC (by kernel_rfl) Tryd.func84 rfl rfl rfl (by kernel_rfl) (by kernel_rfl) ?_ ?_
  · intro args pre r h
    unfold sEight at h
    split at h
    · cases h; rfl
    · cases h
  · intro args pre r h hp
    unfold sEight at h
    split at h
    rotate_left
    · cases h
    rename_i n
    cases h
    obtain ⟨hn0, hn1⟩ := hp
    unfold sLMay
    generalize hg0 : be8 = g0
    generalize hg1 : lebMay = g1
    generalize hg2 : eightPre = g2
    generalize hL : lft Tryd.prog _ = L
    generalize hA : Arith.std = A
    cbv
    subst hA hg0 hg1 hg2 hL
    refine Need.mk trivial fun _ => ?_
    have hm : lebMay n = true := by unfold lebMay; simp [hn0, hn1]
    refine Ife.mk (fun hb => absurd (show (!lebMay n) = true from hb) (by rw [hm]; decide)) (fun _ => ?_)
    show Runs Tryd.prog 0 (.loop _) _ _
    refine loop_ruleR (N := env (lft Tryd.prog 0) 0 .std tbT [(113, appPure sLMay)] []) rfl tbT_ok hC (fun c st K _ h => h) (by kernel_rfl) [] (X := LFill 8 (fun j => d8 n (7 - j)) (fun _ => 0))
      (S := fun x => ⟨[.c (.int .i64 n), .any, .any, .c (.ptr 0 0), .any, .any, .any, .any, .c (.int .i64 x.i)] ++ List.replicate 14 .any, [.cells 129 [.int .u8 (x.g 7), .int .u8 (x.g 6), .int .u8 (x.g 5), .int .u8 (x.g 4), .int .u8 (x.g 3), .int .u8 (x.g 2), .int .u8 (x.g 1), .int .u8 (x.g 0)]]⟩) (μ := fun x => 8 - x.i.toNat) ⟨0, (fun _ => 0), by omega, by omega, fun j hj => absurd hj (by omega), fun j _ _ => rfl⟩ (by kernel_rfl) [0] ?_ ?_
    · refine ⟨rfl, by decide, ?_, ?_⟩ <;> repeat' (first | exact trivial | exact rfl | apply And.intro)
    rintro ⟨i, g, hi0, hin, hlo, hhi⟩
    unfold sLMay
    generalize hg0 : be8 = g0
    generalize hg1 : lebMay = g1
    generalize hg2 : eightPre = g2
    generalize hL : lft Tryd.prog _ = L
    generalize hA : Arith.std = A
    cbv
    subst hA hg0 hg1 hg2 hL
    replace hi0 : 0 ≤ i := hi0
    replace hin : i ≤ ((8 : Nat) : Int) := hin
    replace hlo : ∀ j : Nat, (j : Int) < i → g j = (fun j => d8 n (7 - j)) j := hlo
    replace hhi : ∀ j : Nat, i ≤ (j : Int) → j < 8 → g j = (fun _ => 0) j := hhi
    refine Ife.mk (fun hlt => ?_) (fun hlt => ?_)
    · replace hlt : i < (8 : Int) := of_decide_eq_true (p := i < (8 : Int)) hlt
      repeat refine Need.mk (by first | exact trivial | (simp only [Arith.std, fitStd]; omega) | (simp [Arith.std, fitStd]; omega)) fun _ => ?_
      refine ⟨⟨i + 1, fun j => Arith.std.upd ((7 - i).toNat) (7 - j) ?fv (g j), by omega, by omega, ?h2, ?h3⟩, [0], (by show 8 - (i + 1).toNat < 8 - i.toNat; omega), ?st⟩
      case st => refine ⟨rfl, by decide, ?_, ?_⟩ <;> repeat' (first | exact trivial | exact rfl | apply And.intro)
      case h3 =>
        intro j hj hj2
        show (if (7 - i).toNat = 7 - j then _ else g j) = _
        rw [if_neg (by omega)]
        exact hhi j (by omega) hj2
      case h2 =>
        intro j hj
        show (if (7 - i).toNat = 7 - j then _ else g j) = _
        by_cases hji : (7 - i).toNat = 7 - j
        · rw [if_pos hji]
          obtain rfl : j = i.toNat := by omega
          clear hji hj
          exact eight_byte n i hn0 hn1 hi0 hlt
        · rw [if_neg hji]
          exact hlo j (by omega)
    · replace hlt : ¬ i < (8 : Int) := of_decide_eq_false (p := i < (8 : Int)) hlt
      have hq : ∀ k : Nat, k < 8 → g k = (fun j => d8 n (7 - j)) k := fun k hk => hlo k (by omega)
      show [UInt8.ofNat (g 7).toNat, UInt8.ofNat (g 6).toNat, UInt8.ofNat (g 5).toNat, UInt8.ofNat (g 4).toNat, UInt8.ofNat (g 3).toNat, UInt8.ofNat (g 2).toNat, UInt8.ofNat (g 1).toNat, UInt8.ofNat (g 0).toNat] = be8 n
      rw [hq 0 (by decide), hq 1 (by decide), hq 2 (by decide), hq 3 (by decide), hq 4 (by decide), hq 5 (by decide), hq 6 (by decide), hq 7 (by decide)]
      rfl

end Go.Proofs.YtophhppklaofaaaDoor.Vx
end

section
/- Trees: roots; the law TreeDeep, by the walker. -/
namespace Go.Proofs.YtophhppklaofaaaDoor.Vx
open Go.RowKit Sha
set_option linter.unusedVariables false
set_option linter.unusedSimpArgs false




theorem hf1 : hf 1 = 0 := hf_zero (Or.inl (by decide))




end Go.Proofs.YtophhppklaofaaaDoor.Vx
namespace Go.Proofs.YtophhppklaofaaaDoor
open Go.RowKit
end Go.Proofs.YtophhppklaofaaaDoor
end

section
/- Trees: tops, by the walker. -/
namespace Go.Proofs.YtophhppklaofaaaDoor.Vx
open Go.RowKit Sha
set_option linter.unusedVariables false
set_option linter.unusedSimpArgs false







end Go.Proofs.YtophhppklaofaaaDoor.Vx
end

section
/- The law TreeGrows, by the walker. -/
namespace Go.Proofs.YtophhppklaofaaaDoor.Vx
open Go.RowKit Sha
set_option linter.unusedVariables false
set_option linter.unusedSimpArgs false


end Go.Proofs.YtophhppklaofaaaDoor.Vx
namespace Go.Proofs.YtophhppklaofaaaDoor
open Go.ChangeShapes Go.WideShapes Go.ChangeAt Go.RowKit
set_option linter.unusedVariables false
set_option linter.unusedSimpArgs false
section
variable {H : Type} {enc : TypeId × Value → H} {w : World} {base : Nat}
end
end Go.Proofs.YtophhppklaofaaaDoor
end
