/- Chapter 7: what the examples fix; light pairs; the document's pairs as the program's: by the walker. -/
import Derived.Test.YthomoliklfmnkaaDoorM36
import Derived.Test.YthomoliklfmnkaaDoorM25
import Derived.Test.YthomoliklfmnkaaDoorM24
import Derived.Test.YthomoliklfmnkaaDoorM22
section
namespace Go.Proofs.YthomoliklfmnkaaDoor.Vx
open Sha
open Go.RowKit
set_option linter.unusedVariables false
set_option linter.unusedSimpArgs false
/-- The example's pairs. -/
def pr0 : List PP := [([98], [49]), ([100], [50])]
theorem pr0_good : goodL pr0 = true := by decide
theorem pr0_i : findI pr0 [99] = 1 := by decide
theorem pr0_b : findB pr0 [99] = false := by decide
theorem pr0_mk : mkL pr0 [99] = [mkLeaf pr0 0, mkLeaf pr0 1] := by
  unfold mkL
  rw [if_pos pr0_good, pr0_i, if_neg (by rw [pr0_b]; simp), if_pos (by decide), if_pos (by decide)]
  rfl
theorem pr0_c : mkC pr0 = 2 := by unfold mkC; rw [if_pos pr0_good]; rfl
theorem pr0_way : (wyL pr0 1).length = 1 := by
  have h := wyL_deep (L := pr0) (i := 1) (by decide)
  have h2 : deep (pr0.length : Int) ((1 : Nat) : Int) = 1 := by
    show deep 2 1 = 1
    have e : hf 2 = 1 := hf_pow2 0 (by decide)
    rw [deep_hi (by omega) (by rw [e]; omega), e, deep_out (by omega)]
    rfl
  rw [h2] at h
  omega
def tbPf : Tbl where
  T :=
    (3, ⟨1, false, [.int .i64 (0)], .int .i64, 8⟩) ::
    (4, ⟨1, false, [.ff], .bool, 1⟩) ::
    (9, ⟨1, false, [.str []], .str, 16⟩) ::
    (5, ⟨1, false, [.int .u8 (0)], .int .u8, 1⟩) ::
    (46, ⟨2, true, [.str [], .str []], .struct [(0, (1, false)), (1, (1, false))], 32⟩) ::
    (22, ⟨1, false, [.val (.slice none 0 0)], .slice 46, 24⟩) ::
    (63, ⟨2, true, [.str [], .str []], .struct [(0, (1, false)), (1, (1, false))], 32⟩) ::
    (31, ⟨1, false, [.val (.slice none 0 0)], .slice 63, 24⟩) ::
    (115, ⟨4, true, [.str [], .str [], .int .i64 (0), .val (.slice none 0 0)], .struct [(0, (1, false)), (1, (1, false)), (2, (1, false)), (3, (1, false))], 64⟩) ::
    (25, ⟨1, false, [.val (.slice none 0 0)], .slice 115, 24⟩) ::
    (27, ⟨2, true, [.int .i64 (0), .val (.slice none 0 0)], .struct [(0, (1, false)), (1, (1, false))], 32⟩) ::
    (24, ⟨32, true, [.int .u8 (0), .int .u8 (0), .int .u8 (0), .int .u8 (0), .int .u8 (0), .int .u8 (0), .int .u8 (0), .int .u8 (0), .int .u8 (0), .int .u8 (0), .int .u8 (0), .int .u8 (0), .int .u8 (0), .int .u8 (0), .int .u8 (0), .int .u8 (0), .int .u8 (0), .int .u8 (0), .int .u8 (0), .int .u8 (0), .int .u8 (0), .int .u8 (0), .int .u8 (0), .int .u8 (0), .int .u8 (0), .int .u8 (0), .int .u8 (0), .int .u8 (0), .int .u8 (0), .int .u8 (0), .int .u8 (0), .int .u8 (0)], .array 32 5, 32⟩) ::
    (113, ⟨1, false, [.val (.slice none 0 0)], .slice 24, 24⟩) ::
    []
  F :=
    (24, [0, 0, 0, 0, 0, 0, 0, 0, 0, 0, 0, 0, 0, 0, 0, 0, 0, 0, 0, 0, 0, 0, 0, 0, 0, 0, 0, 0, 0, 0, 0, 0]) ::
    []

theorem tbPf_ok : tbPf.Ok Tryd.prog where
  T :=
    TblOk.cons (by kernel_rfl) <|
    TblOk.cons (by kernel_rfl) <|
    TblOk.cons (by kernel_rfl) <|
    TblOk.cons (by kernel_rfl) <|
    TblOk.cons (by kernel_rfl) <|
    TblOk.cons (by kernel_rfl) <|
    TblOk.cons (by kernel_rfl) <|
    TblOk.cons (by kernel_rfl) <|
    TblOk.cons (by kernel_rfl) <|
    TblOk.cons (by kernel_rfl) <|
    TblOk.cons (by kernel_rfl) <|
    TblOk.cons (by kernel_rfl) <|
    TblOk.cons (by kernel_rfl) <|
    TblOk.nil _
  F :=
    FlatsOk.cons (FlatOk.of (D := .array 32 5) 6 (by decide) (by kernel_rfl) (by kernel_rfl) rfl (by kernel_rfl)) <|
    FlatsOk.nil _

def sFirst7 : SpecF
  | [], [.glob gg sz0 n0 get0] => some (KsAt gg sz0 n0 get0, .c .tt, [.dead])
  | _, _ => none

set_option maxRecDepth 100000 in
set_option maxHeartbeats 4000000 in
theorem first7P : Fn Tryd.prog 13 [0] [] sFirst7 := by
  have hC : CtsOk Tryd.prog [(22, appFn [0] [(63, 2)] sMake)] := CtsOk.cons (Fn.ct makeP) <| CtsOk.nil _
  refine Fn.of (E := tbPf) [0] 0 [] tbPf_ok hC (by kernel_rfl) Tryd.func13 rfl rfl rfl (by kernel_rfl) (by kernel_rfl) 1 5 1 ?_ ?_
  · intro args h pre r h' hs
    unfold sFirst7 at hs
    split at hs
    · cases hs; exact ⟨rfl, rfl, Nat.le_of_ble_eq_true rfl⟩
    · cases hs
  · intro args h pre r h' hs hp
    unfold sFirst7 at hs
    split at hs
    rotate_left
    · cases hs
    rename_i gg sz0 n0 get0
    cases hs
    have hK := hp
    refine ⟨[.glob 0 1 64 (fun i => [.int .u32 (kOf i)])], ⟨hK.same.1, trivial⟩, ?_⟩
    clear hK
    unfold sMake
    try unfold leafG
    generalize ho0 : @prL = zo0, ho1 : @KsAt = zo1, ho2 : @kOf = zo2, ho3 : @lK = zo3, ho4 : @lV = zo4, ho5 : @lI = zo5, ho6 : @lP = zo6, ho7 : @lN = zo7, ho8 : @pG = zo8, ho9 : @mkLeaf = zo9, ho10 : @mkL = zo10, ho11 : @mkC = zo11, ho12 : @mkPre = zo12, ho13 : @lenL = zo13, ho14 : @pr0 = zo14
    generalize hA : Arith.std = A
    cbv
    subst hA ho0 ho1 ho2 ho3 ho4 ho5 ho6 ho7 ho8 ho9 ho10 ho11 ho12 ho13 ho14
    have eP : prL 2 (cutC 2 [.str [98], .str [49], .str [100], .str [50]] 0) = pr0 := rfl
    refine Need.mk ⟨ksAt_self, rfl, rfl, fun i hi => ?pr, by decide⟩ fun _ => ?_
    case pr =>
      rcases (show i = 0 ∨ i = 1 by omega) with rfl | rfl
      · exact ⟨_, _, rfl⟩
      · exact ⟨_, _, rfl⟩
    simp only [eP, pr0_c, pr0_mk]
    have e2 : lenL [mkLeaf pr0 0, mkLeaf pr0 1] = 2 := rfl
    have e3 : lK [mkLeaf pr0 0, mkLeaf pr0 1] 0 = [98] := rfl
    have e4 : lI [mkLeaf pr0 0, mkLeaf pr0 1] 1 = 1 := rfl
    have e5 : lN [mkLeaf pr0 0, mkLeaf pr0 1] 1 = 1 := pr0_way
    simp only [e2, Arith.std, Int.ofNat_eq_natCast, Int.toNat_natCast]
    refine Ife.mk (fun _ => ?_) (fun h => absurd h (by simp))
    refine Ife.mk (fun _ => ?_) (fun h => absurd h (by simp))
    refine Need.mk (by show (0 : Int) ≤ 0 ∧ (0 : Int) < 2; omega) fun _ => Need.mk (by show (0 : Int).toNat < 2; decide) fun _ => ?_
    refine Ife.mk (fun _ => ?_) (fun h => absurd h (by show ¬ decide (lK [mkLeaf pr0 0, mkLeaf pr0 1] 0 = [98]) = false; rw [e3]; simp))
    refine Need.mk (by show (0 : Int) ≤ 1 ∧ (1 : Int) < 2; omega) fun _ => Need.mk (by show (1 : Int).toNat < 2; decide) fun _ => ?_
    refine Ife.mk (fun _ => ?_) (fun h => absurd h (by show ¬ decide (lI [mkLeaf pr0 0, mkLeaf pr0 1] 1 = 1) = false; rw [e4]; simp))
    refine Need.mk (by show (0 : Int) ≤ 1 ∧ (1 : Int) < 2; omega) fun _ => Need.mk (by show (1 : Int).toNat < 2; decide) fun _ => ?_
    have hT : decide ((lN [mkLeaf pr0 0, mkLeaf pr0 1] 1 : Int) = 1) = true := by rw [e5]; rfl
    exact ⟨[0], ⟨rfl, (by repeat' (first | exact trivial | exact hT | exact rfl | apply And.intro)), (by decide), rfl, by repeat' (first | exact trivial | exact rfl | apply And.intro | exact (fun _ _ _ _ => Cell.le_refl _) | (intro i hi; rfl) | (intro i hi; exact absurd hi (Nat.not_lt_zero _)))⟩⟩





end Go.Proofs.YthomoliklfmnkaaDoor.Vx
end

section
/- Acts on a store, by the walker: Few; and the store's Prove. -/
namespace Go.Proofs.YthomoliklfmnkaaDoor.Vx
open Sha
open Go.RowKit
set_option linter.unusedVariables false
set_option linter.unusedSimpArgs false






end Go.Proofs.YthomoliklfmnkaaDoor.Vx
end

section
/- StoreProves, by the walker. -/
namespace Go.Proofs.YthomoliklfmnkaaDoor.Vx
open Sha
open Go.RowKit
set_option linter.unusedVariables false
set_option linter.unusedSimpArgs false




end Go.Proofs.YthomoliklfmnkaaDoor.Vx
end

section
/- The document's sums of pairs and proofs of keys, by the walker. -/
namespace Go.Proofs.YthomoliklfmnkaaDoor.Vx
open Sha
open Go.RowKit
set_option linter.unusedVariables false
set_option linter.unusedSimpArgs false










end Go.Proofs.YthomoliklfmnkaaDoor.Vx
end
