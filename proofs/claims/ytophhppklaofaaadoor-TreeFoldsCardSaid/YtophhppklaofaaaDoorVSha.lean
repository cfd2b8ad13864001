/- The parts of a sum, by the walker. -/
import Derived.Test.YtophhppklaofaaaDoorVxFrame
import Derived.Test.YtophhppklaofaaaDoorVxRen
import Derived.Test.YtophhppklaofaaaDoorVxFlat
import Derived.Test.YtophhppklaofaaaDoorSha
import Derived.Test.YtophhppklaofaaaDoorBase
import Derived.Lib.Hide
namespace Go.Proofs.YtophhppklaofaaaDoor.Vx
open Go.RowKit Sha
set_option linter.unusedVariables false
set_option linter.unusedSimpArgs false
def tbC : Tbl where
  T :=
    (3, ⟨1, false, [.int .i64 (0)], .int .i64, 8⟩) ::
    (4, ⟨1, false, [.ff], .bool, 1⟩) ::
    (9, ⟨1, false, [.str []], .str, 16⟩) ::
    (5, ⟨1, false, [.int .u8 (0)], .int .u8, 1⟩) ::
    (93, ⟨1, false, [.int .u64 (0)], .int .u64, 8⟩) ::
    (85, ⟨1, false, [.int .u32 (0)], .int .u32, 4⟩) ::
    (89, ⟨1, false, [.int .u64 (0)], .int .u64, 8⟩) ::
    (44, ⟨1, false, [.val (.slice none 0 0)], .slice 5, 24⟩) ::
    (27, ⟨1, false, [.val (.slice none 0 0)], .slice 9, 24⟩) ::
    (129, ⟨8, true, [.int .u8 (0), .int .u8 (0), .int .u8 (0), .int .u8 (0), .int .u8 (0), .int .u8 (0), .int .u8 (0), .int .u8 (0)], .array 8 5, 8⟩) ::
    (86, ⟨8, true, [.int .u32 (0), .int .u32 (0), .int .u32 (0), .int .u32 (0), .int .u32 (0), .int .u32 (0), .int .u32 (0), .int .u32 (0)], .array 8 85, 32⟩) ::
    (90, ⟨64, true, [.int .u32 (0), .int .u32 (0), .int .u32 (0), .int .u32 (0), .int .u32 (0), .int .u32 (0), .int .u32 (0), .int .u32 (0), .int .u32 (0), .int .u32 (0), .int .u32 (0), .int .u32 (0), .int .u32 (0), .int .u32 (0), .int .u32 (0), .int .u32 (0), .int .u32 (0), .int .u32 (0), .int .u32 (0), .int .u32 (0), .int .u32 (0), .int .u32 (0), .int .u32 (0), .int .u32 (0), .int .u32 (0), .int .u32 (0), .int .u32 (0), .int .u32 (0), .int .u32 (0), .int .u32 (0), .int .u32 (0), .int .u32 (0), .int .u32 (0), .int .u32 (0), .int .u32 (0), .int .u32 (0), .int .u32 (0), .int .u32 (0), .int .u32 (0), .int .u32 (0), .int .u32 (0), .int .u32 (0), .int .u32 (0), .int .u32 (0), .int .u32 (0), .int .u32 (0), .int .u32 (0), .int .u32 (0), .int .u32 (0), .int .u32 (0), .int .u32 (0), .int .u32 (0), .int .u32 (0), .int .u32 (0), .int .u32 (0), .int .u32 (0), .int .u32 (0), .int .u32 (0), .int .u32 (0), .int .u32 (0), .int .u32 (0), .int .u32 (0), .int .u32 (0), .int .u32 (0)], .array 64 85, 256⟩) ::
    (36, ⟨1, false, [.int .i64 (0)], .int .i64, 8⟩) ::
    (24, ⟨32, true, [.int .u8 (0), .int .u8 (0), .int .u8 (0), .int .u8 (0), .int .u8 (0), .int .u8 (0), .int .u8 (0), .int .u8 (0), .int .u8 (0), .int .u8 (0), .int .u8 (0), .int .u8 (0), .int .u8 (0), .int .u8 (0), .int .u8 (0), .int .u8 (0), .int .u8 (0), .int .u8 (0), .int .u8 (0), .int .u8 (0), .int .u8 (0), .int .u8 (0), .int .u8 (0), .int .u8 (0), .int .u8 (0), .int .u8 (0), .int .u8 (0), .int .u8 (0), .int .u8 (0), .int .u8 (0), .int .u8 (0), .int .u8 (0)], .array 32 5, 32⟩) ::
    []
  F :=
    (24, [0, 0, 0, 0, 0, 0, 0, 0, 0, 0, 0, 0, 0, 0, 0, 0, 0, 0, 0, 0, 0, 0, 0, 0, 0, 0, 0, 0, 0, 0, 0, 0]) ::
    []

theorem tbC_ok : tbC.Ok Tryd.prog where
  T :=
    TblOk.cons (by kernel_rfl) <|
    TblOk.cons (by kernel_rfl) <|
    TblOk.cons (by kernel_rfl) <|
    TblOk.cons (by kernel_rfl) <|
    TblOk.cons (by kernel_rfl) <|
    TblOk.cons (by kernel_rfl) <|
    TblOk.cons (by kernel_rfl) <|
    TblOk.cons (by kernel_rfl) <|
    TblOk.cons (by kernel_rfl) <|
    TblOk.cons (by kernel_rfl) <|
    TblOk.cons (by kernel_rfl) <|
    TblOk.cons (by kernel_rfl) <|
    TblOk.cons (by kernel_rfl) <|
    TblOk.cons (by kernel_rfl) <|
    TblOk.nil _
  F :=
    FlatsOk.cons (FlatOk.of (D := .array 32 5) 6 (by decide) (by kernel_rfl) (by kernel_rfl) rfl (by kernel_rfl)) <|
    FlatsOk.nil _

def tbY : Tbl where
  T :=
    (3, ⟨1, false, [.int .i64 (0)], .int .i64, 8⟩) ::
    (4, ⟨1, false, [.ff], .bool, 1⟩) ::
    (9, ⟨1, false, [.str []], .str, 16⟩) ::
    (5, ⟨1, false, [.int .u8 (0)], .int .u8, 1⟩) ::
    (93, ⟨1, false, [.int .u64 (0)], .int .u64, 8⟩) ::
    (85, ⟨1, false, [.int .u32 (0)], .int .u32, 4⟩) ::
    (89, ⟨1, false, [.int .u64 (0)], .int .u64, 8⟩) ::
    (44, ⟨1, false, [.val (.slice none 0 0)], .slice 5, 24⟩) ::
    (27, ⟨1, false, [.val (.slice none 0 0)], .slice 9, 24⟩) ::
    (129, ⟨8, true, [.int .u8 (0), .int .u8 (0), .int .u8 (0), .int .u8 (0), .int .u8 (0), .int .u8 (0), .int .u8 (0), .int .u8 (0)], .array 8 5, 8⟩) ::
    (86, ⟨8, true, [.int .u32 (0), .int .u32 (0), .int .u32 (0), .int .u32 (0), .int .u32 (0), .int .u32 (0), .int .u32 (0), .int .u32 (0)], .array 8 85, 32⟩) ::
    (90, ⟨64, true, [.int .u32 (0), .int .u32 (0), .int .u32 (0), .int .u32 (0), .int .u32 (0), .int .u32 (0), .int .u32 (0), .int .u32 (0), .int .u32 (0), .int .u32 (0), .int .u32 (0), .int .u32 (0), .int .u32 (0), .int .u32 (0), .int .u32 (0), .int .u32 (0), .int .u32 (0), .int .u32 (0), .int .u32 (0), .int .u32 (0), .int .u32 (0), .int .u32 (0), .int .u32 (0), .int .u32 (0), .int .u32 (0), .int .u32 (0), .int .u32 (0), .int .u32 (0), .int .u32 (0), .int .u32 (0), .int .u32 (0), .int .u32 (0), .int .u32 (0), .int .u32 (0), .int .u32 (0), .int .u32 (0), .int .u32 (0), .int .u32 (0), .int .u32 (0), .int .u32 (0), .int .u32 (0), .int .u32 (0), .int .u32 (0), .int .u32 (0), .int .u32 (0), .int .u32 (0), .int .u32 (0), .int .u32 (0), .int .u32 (0), .int .u32 (0), .int .u32 (0), .int .u32 (0), .int .u32 (0), .int .u32 (0), .int .u32 (0), .int .u32 (0), .int .u32 (0), .int .u32 (0), .int .u32 (0), .int .u32 (0), .int .u32 (0), .int .u32 (0), .int .u32 (0), .int .u32 (0)], .array 64 85, 256⟩) ::
    (36, ⟨1, false, [.int .i64 (0)], .int .i64, 8⟩) ::
    (24, ⟨32, true, [.int .u8 (0), .int .u8 (0), .int .u8 (0), .int .u8 (0), .int .u8 (0), .int .u8 (0), .int .u8 (0), .int .u8 (0), .int .u8 (0), .int .u8 (0), .int .u8 (0), .int .u8 (0), .int .u8 (0), .int .u8 (0), .int .u8 (0), .int .u8 (0), .int .u8 (0), .int .u8 (0), .int .u8 (0), .int .u8 (0), .int .u8 (0), .int .u8 (0), .int .u8 (0), .int .u8 (0), .int .u8 (0), .int .u8 (0), .int .u8 (0), .int .u8 (0), .int .u8 (0), .int .u8 (0), .int .u8 (0), .int .u8 (0)], .array 32 5, 32⟩) ::
    []
  F :=
    (24, [0, 0, 0, 0, 0, 0, 0, 0, 0, 0, 0, 0, 0, 0, 0, 0, 0, 0, 0, 0, 0, 0, 0, 0, 0, 0, 0, 0, 0, 0, 0, 0]) ::
    []
  sym := true

theorem tbY_ok : tbY.Ok Tryd.prog where
  T :=
    TblOk.cons (by kernel_rfl) <|
    TblOk.cons (by kernel_rfl) <|
    TblOk.cons (by kernel_rfl) <|
    TblOk.cons (by kernel_rfl) <|
    TblOk.cons (by kernel_rfl) <|
    TblOk.cons (by kernel_rfl) <|
    TblOk.cons (by kernel_rfl) <|
    TblOk.cons (by kernel_rfl) <|
    TblOk.cons (by kernel_rfl) <|
    TblOk.cons (by kernel_rfl) <|
    TblOk.cons (by kernel_rfl) <|
    TblOk.cons (by kernel_rfl) <|
    TblOk.cons (by kernel_rfl) <|
    TblOk.cons (by kernel_rfl) <|
    TblOk.nil _
  F :=
    FlatsOk.cons (FlatOk.of (D := .array 32 5) 6 (by decide) (by kernel_rfl) (by kernel_rfl) rfl (by kernel_rfl)) <|
    FlatsOk.nil _

theorem orW_comm (a b : Int) : orW a b = orW b a := by
  unfold orW bitsStd
  dsimp only
  rw [BitVec.or_comm]
theorem rot_and (k : Int) (h0 : -32 < k) (h1 : k < 0) : bitsStd .and .u64 (IntKind.wrap .u64 k) 31 = 32 + k := by
  have key : ∀ j : Fin 31, bitsStd .and .u64 (IntKind.wrap .u64 (-((j.1 : Int) + 1))) 31 = 31 - (j.1 : Int) := by decide +kernel
  have := key ⟨(-k - 1).toNat, by omega⟩
  simp only at this
  rw [show (-((((-k - 1).toNat : Nat) : Int) + 1)) = k by omega] at this
  rw [this]
  omega
theorem rotL_rot (x k : Int) (h0 : -32 < k) (h1 : k < 0) : orW (shlW x (bitsStd .and .u64 (IntKind.wrap .u64 k) 31)) (shrW x (IntKind.wrap .u64 (32 - bitsStd .and .u64 (IntKind.wrap .u64 k) 31))) = rot x (-k) := by
  rw [rot_and k h0 h1]
  have e : IntKind.wrap .u64 (32 - (32 + k)) = -k := by show (32 - (32 + k)) % 18446744073709551616 = -k; omega
  rw [e, orW_comm]
  unfold rot
  rw [show 32 - -k = 32 + k by omega]
def sRotL : List SV → Option (Prop × SV)
  | [.c (.int .u32 x), .c (.int .i64 k)] => some ((-32 < k ∧ k < 0), .c (.int .u32 (rot x (-k))))
  | _ => none

set_option maxRecDepth 100000 in
set_option maxHeartbeats 400000 in
theorem rotLP : Pure Tryd.prog 133 sRotL := by
  refine Pure.of (E := tbC) (C := []) [] 0 [] tbC_ok (CtsOk.nil _) (by kernel_rfl) Tryd.func133 rfl rfl rfl (by kernel_rfl) (by kernel_rfl) ?_ ?_
  · intro args pre r h
    unfold sRotL at h
    split at h
    · cases h; first | rfl | exact ⟨rfl, rfl⟩
    · cases h
  · intro args pre r h hp
    unfold sRotL at h
    split at h
    rotate_left
    · cases h
    rename_i x k
    cases h
    generalize hg0 : rot = g0
    generalize hA : Arith.std = A
    cbv
    subst hA hg0
    obtain ⟨h0, h1⟩ := hp
    have e := rot_and k h0 h1
    refine Need.mk (by show (0 : Int) ≤ bitsStd .and .u64 (IntKind.wrap .u64 k) 31; omega) fun _ => Need.mk (by show (0 : Int) ≤ IntKind.wrap .u64 (32 - bitsStd .and .u64 (IntKind.wrap .u64 k) 31); rw [e]; show (0 : Int) ≤ (32 - (32 + k)) % 18446744073709551616; omega) fun _ => ?_
    exact rotL_rot x k h0 h1

def sTurn : List SV → Option (Prop × SV)
  | [.c (.int .u32 w), .c (.int .i64 a), .c (.int .i64 b), .c (.int .i64 c)] => some ((0 < a ∧ a < 32 ∧ 0 < b ∧ b < 32 ∧ 0 < c ∧ c < 32), .c (.int .u32 (turn3 w a b c)))
  | _ => none

def sSlide : List SV → Option (Prop × SV)
  | [.c (.int .u32 w), .c (.int .i64 a), .c (.int .i64 b), .c (.int .i64 c)] => some ((0 < a ∧ a < 32 ∧ 0 < b ∧ b < 32 ∧ 0 < c ∧ c < 32), .c (.int .u32 (slide3 w a b c)))
  | _ => none

set_option maxRecDepth 100000 in
set_option maxHeartbeats 400000 in
theorem turnP : Pure Tryd.prog 108 sTurn := by
  refine Pure.of (E := tbC) (C := [(133, appPure sRotL)]) [] 0 [] tbC_ok (CtsOk.cons (Pure.ct rotLP) <| CtsOk.nil _) (by kernel_rfl) Tryd.func108 rfl rfl rfl (by kernel_rfl) (by kernel_rfl) ?_ ?_
  · intro args pre r h
    unfold sTurn at h
    split at h
    · cases h; first | rfl | exact ⟨rfl, rfl⟩
    · cases h
  · intro args pre r h hp
    unfold sTurn at h
    split at h
    rotate_left
    · cases h
    rename_i w a b c
    cases h
    unfold sRotL
    generalize hg0 : rot = g0
    generalize hg1 : turn3 = g1
    generalize hA : Arith.std = A
    cbv
    subst hA hg0 hg1
    obtain ⟨h1, h2, h3, h4, h5, h6⟩ := hp
    refine Need.mk (by show fitStd .i64 (0 - a); unfold fitStd; omega) fun _ => Need.mk (by show -32 < 0 - a ∧ 0 - a < 0; omega) fun _ => Need.mk (by show fitStd .i64 (0 - b); unfold fitStd; omega) fun _ => Need.mk (by show -32 < 0 - b ∧ 0 - b < 0; omega) fun _ => Need.mk (by show fitStd .i64 (0 - c); unfold fitStd; omega) fun _ => Need.mk (by show -32 < 0 - c ∧ 0 - c < 0; omega) fun _ =>  ?_
    have e : ∀ x : Int, -(0 - x) = x := fun x => by omega
    show xorW (xorW (rot w (-(0 - a))) (rot w (-(0 - b)))) (rot w (-(0 - c))) = _
    simp only [e]
    rfl

set_option maxRecDepth 100000 in
set_option maxHeartbeats 400000 in
theorem slideP : Pure Tryd.prog 132 sSlide := by
  refine Pure.of (E := tbC) (C := [(133, appPure sRotL)]) [] 0 [(1, [(0, true), (1, true), (2, true), (4, true), (5, true), (6, true), (9, true), (10, true), (11, true), (3, false), (7, false), (8, true), (12, true), (13, true)])] tbC_ok (CtsOk.cons (Pure.ct rotLP) <| CtsOk.nil _) (by kernel_rfl) Tryd.func132 rfl rfl rfl (by kernel_rfl) (by kernel_rfl) ?_ ?_
  · intro args pre r h
    unfold sSlide at h
    split at h
    · cases h; first | rfl | exact ⟨rfl, rfl⟩
    · cases h
  · intro args pre r h hp
    unfold sSlide at h
    split at h
    rotate_left
    · cases h
    rename_i w a b c
    cases h
    unfold sRotL
    generalize hg0 : rot = g0
    generalize hg1 : slide3 = g1
    generalize hA : Arith.std = A
    cbv
    subst hA hg0 hg1
    obtain ⟨h1, h2, h3, h4, h5, h6⟩ := hp
    refine Need.mk (by show fitStd .i64 (0 - a); unfold fitStd; omega) fun _ => Need.mk (by show fitStd .i64 (0 - b); unfold fitStd; omega) fun _ => Need.mk (by show (0 : Int) ≤ c; omega) fun _ => Need.mk (by show -32 < 0 - a ∧ 0 - a < 0; omega) fun _ => Need.mk (by show -32 < 0 - b ∧ 0 - b < 0; omega) fun _ =>  ?_
    have e : ∀ x : Int, -(0 - x) = x := fun x => by omega
    show xorW (xorW (rot w (-(0 - a))) (rot w (-(0 - b)))) (shrW w c) = _
    simp only [e]
    rfl

end Go.Proofs.YtophhppklaofaaaDoor.Vx
