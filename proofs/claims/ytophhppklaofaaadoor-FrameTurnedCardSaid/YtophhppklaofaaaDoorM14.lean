/- The parts of a sum, by the walker. -/
import Derived.Test.YtophhppklaofaaaDoorVxFrame
import Derived.Test.YtophhppklaofaaaDoorM8
import Derived.Test.YtophhppklaofaaaDoorVxFlat
import Derived.Test.YtophhppklaofaaaDoorSha
import Derived.Test.YtophhppklaofaaaDoorBase
import Derived.Lib.Hide
section
namespace Go.Proofs.YtophhppklaofaaaDoor.Vx
open Go.RowKit Sha
set_option linter.unusedVariables false
set_option linter.unusedSimpArgs false
def tbC : Tbl where
  T :=
    (3, ⟨1, false, [.int .i64 (0)], .int .i64, 8⟩) ::
    (4, ⟨1, false, [.ff], .bool, 1⟩) ::
    (9, ⟨1, false, [.str []], .str, 16⟩) ::
    (5, ⟨1, false, [.int .u8 (0)], .int .u8, 1⟩) ::
    (93, ⟨1, false, [.int .u64 (0)], .int .u64, 8⟩) ::
    (85, ⟨1, false, [.int .u32 (0)], .int .u32, 4⟩) ::
    (89, ⟨1, false, [.int .u64 (0)], .int .u64, 8⟩) ::
    (44, ⟨1, false, [.val (.slice none 0 0)], .slice 5, 24⟩) ::
    (27, ⟨1, false, [.val (.slice none 0 0)], .slice 9, 24⟩) ::
    (129, ⟨8, true, [.int .u8 (0), .int .u8 (0), .int .u8 (0), .int .u8 (0), .int .u8 (0), .int .u8 (0), .int .u8 (0), .int .u8 (0)], .array 8 5, 8⟩) ::
    (86, ⟨8, true, [.int .u32 (0), .int .u32 (0), .int .u32 (0), .int .u32 (0), .int .u32 (0), .int .u32 (0), .int .u32 (0), .int .u32 (0)], .array 8 85, 32⟩) ::
    (90, ⟨64, true, [.int .u32 (0), .int .u32 (0), .int .u32 (0), .int .u32 (0), .int .u32 (0), .int .u32 (0), .int .u32 (0), .int .u32 (0), .int .u32 (0), .int .u32 (0), .int .u32 (0), .int .u32 (0), .int .u32 (0), .int .u32 (0), .int .u32 (0), .int .u32 (0), .int .u32 (0), .int .u32 (0), .int .u32 (0), .int .u32 (0), .int .u32 (0), .int .u32 (0), .int .u32 (0), .int .u32 (0), .int .u32 (0), .int .u32 (0), .int .u32 (0), .int .u32 (0), .int .u32 (0), .int .u32 (0), .int .u32 (0), .int .u32 (0), .int .u32 (0), .int .u32 (0), .int .u32 (0), .int .u32 (0), .int .u32 (0), .int .u32 (0), .int .u32 (0), .int .u32 (0), .int .u32 (0), .int .u32 (0), .int .u32 (0), .int .u32 (0), .int .u32 (0), .int .u32 (0), .int .u32 (0), .int .u32 (0), .int .u32 (0), .int .u32 (0), .int .u32 (0), .int .u32 (0), .int .u32 (0), .int .u32 (0), .int .u32 (0), .int .u32 (0), .int .u32 (0), .int .u32 (0), .int .u32 (0), .int .u32 (0), .int .u32 (0), .int .u32 (0), .int .u32 (0), .int .u32 (0)], .array 64 85, 256⟩) ::
    (36, ⟨1, false, [.int .i64 (0)], .int .i64, 8⟩) ::
    (24, ⟨32, true, [.int .u8 (0), .int .u8 (0), .int .u8 (0), .int .u8 (0), .int .u8 (0), .int .u8 (0), .int .u8 (0), .int .u8 (0), .int .u8 (0), .int .u8 (0), .int .u8 (0), .int .u8 (0), .int .u8 (0), .int .u8 (0), .int .u8 (0), .int .u8 (0), .int .u8 (0), .int .u8 (0), .int .u8 (0), .int .u8 (0), .int .u8 (0), .int .u8 (0), .int .u8 (0), .int .u8 (0), .int .u8 (0), .int .u8 (0), .int .u8 (0), .int .u8 (0), .int .u8 (0), .int .u8 (0), .int .u8 (0), .int .u8 (0)], .array 32 5, 32⟩) ::
    []
  F :=
    (24, [0, 0, 0, 0, 0, 0, 0, 0, 0, 0, 0, 0, 0, 0, 0, 0, 0, 0, 0, 0, 0, 0, 0, 0, 0, 0, 0, 0, 0, 0, 0, 0]) ::
    []

theorem tbC_ok : tbC.Ok Tryd.prog where
  T :=
    TblOk.cons (by kernel_rfl) <|
    TblOk.cons (by kernel_rfl) <|
    TblOk.cons (by kernel_rfl) <|
    TblOk.cons (by kernel_rfl) <|
    TblOk.cons (by kernel_rfl) <|
    TblOk.cons (by kernel_rfl) <|
    TblOk.cons (by kernel_rfl) <|
    TblOk.cons (by kernel_rfl) <|
    TblOk.cons (by kernel_rfl) <|
    TblOk.cons (by kernel_rfl) <|
    TblOk.cons (by kernel_rfl) <|
    TblOk.cons (by kernel_rfl) <|
    TblOk.cons (by kernel_rfl) <|
    TblOk.cons (by kernel_rfl) <|
    TblOk.nil _
  F :=
    FlatsOk.cons (FlatOk.of (D := .array 32 5) 6 (by decide) (by kernel_rfl) (by kernel_rfl) rfl (by kernel_rfl)) <|
    FlatsOk.nil _

def tbY : Tbl where
  T :=
    (3, ⟨1, false, [.int .i64 (0)], .int .i64, 8⟩) ::
    (4, ⟨1, false, [.ff], .bool, 1⟩) ::
    (9, ⟨1, false, [.str []], .str, 16⟩) ::
    (5, ⟨1, false, [.int .u8 (0)], .int .u8, 1⟩) ::
    (93, ⟨1, false, [.int .u64 (0)], .int .u64, 8⟩) ::
    (85, ⟨1, false, [.int .u32 (0)], .int .u32, 4⟩) ::
    (89, ⟨1, false, [.int .u64 (0)], .int .u64, 8⟩) ::
    (44, ⟨1, false, [.val (.slice none 0 0)], .slice 5, 24⟩) ::
    (27, ⟨1, false, [.val (.slice none 0 0)], .slice 9, 24⟩) ::
    (129, ⟨8, true, [.int .u8 (0), .int .u8 (0), .int .u8 (0), .int .u8 (0), .int .u8 (0), .int .u8 (0), .int .u8 (0), .int .u8 (0)], .array 8 5, 8⟩) ::
    (86, ⟨8, true, [.int .u32 (0), .int .u32 (0), .int .u32 (0), .int .u32 (0), .int .u32 (0), .int .u32 (0), .int .u32 (0), .int .u32 (0)], .array 8 85, 32⟩) ::
    (90, ⟨64, true, [.int .u32 (0), .int .u32 (0), .int .u32 (0), .int .u32 (0), .int .u32 (0), .int .u32 (0), .int .u32 (0), .int .u32 (0), .int .u32 (0), .int .u32 (0), .int .u32 (0), .int .u32 (0), .int .u32 (0), .int .u32 (0), .int .u32 (0), .int .u32 (0), .int .u32 (0), .int .u32 (0), .int .u32 (0), .int .u32 (0), .int .u32 (0), .int .u32 (0), .int .u32 (0), .int .u32 (0), .int .u32 (0), .int .u32 (0), .int .u32 (0), .int .u32 (0), .int .u32 (0), .int .u32 (0), .int .u32 (0), .int .u32 (0), .int .u32 (0), .int .u32 (0), .int .u32 (0), .int .u32 (0), .int .u32 (0), .int .u32 (0), .int .u32 (0), .int .u32 (0), .int .u32 (0), .int .u32 (0), .int .u32 (0), .int .u32 (0), .int .u32 (0), .int .u32 (0), .int .u32 (0), .int .u32 (0), .int .u32 (0), .int .u32 (0), .int .u32 (0), .int .u32 (0), .int .u32 (0), .int .u32 (0), .int .u32 (0), .int .u32 (0), .int .u32 (0), .int .u32 (0), .int .u32 (0), .int .u32 (0), .int .u32 (0), .int .u32 (0), .int .u32 (0), .int .u32 (0)], .array 64 85, 256⟩) ::
    (36, ⟨1, false, [.int .i64 (0)], .int .i64, 8⟩) ::
    (24, ⟨32, true, [.int .u8 (0), .int .u8 (0), .int .u8 (0), .int .u8 (0), .int .u8 (0), .int .u8 (0), .int .u8 (0), .int .u8 (0), .int .u8 (0), .int .u8 (0), .int .u8 (0), .int .u8 (0), .int .u8 (0), .int .u8 (0), .int .u8 (0), .int .u8 (0), .int .u8 (0), .int .u8 (0), .int .u8 (0), .int .u8 (0), .int .u8 (0), .int .u8 (0), .int .u8 (0), .int .u8 (0), .int .u8 (0), .int .u8 (0), .int .u8 (0), .int .u8 (0), .int .u8 (0), .int .u8 (0), .int .u8 (0), .int .u8 (0)], .array 32 5, 32⟩) ::
    []
  F :=
    (24, [0, 0, 0, 0, 0, 0, 0, 0, 0, 0, 0, 0, 0, 0, 0, 0, 0, 0, 0, 0, 0, 0, 0, 0, 0, 0, 0, 0, 0, 0, 0, 0]) ::
    []
  sym := true

theorem tbY_ok : tbY.Ok Tryd.prog where
  T :=
    TblOk.cons (by kernel_rfl) <|
    TblOk.cons (by kernel_rfl) <|
    TblOk.cons (by kernel_rfl) <|
    TblOk.cons (by kernel_rfl) <|
    TblOk.cons (by kernel_rfl) <|
    TblOk.cons (by kernel_rfl) <|
    TblOk.cons (by kernel_rfl) <|
    TblOk.cons (by kernel_rfl) <|
    TblOk.cons (by kernel_rfl) <|
    TblOk.cons (by kernel_rfl) <|
    TblOk.cons (by kernel_rfl) <|
    TblOk.cons (by kernel_rfl) <|
    TblOk.cons (by kernel_rfl) <|
    TblOk.cons (by kernel_rfl) <|
    TblOk.nil _
  F :=
    FlatsOk.cons (FlatOk.of (D := .array 32 5) 6 (by decide) (by kernel_rfl) (by kernel_rfl) rfl (by kernel_rfl)) <|
    FlatsOk.nil _

theorem orW_comm (a b : Int) : orW a b = orW b a := by
  unfold orW bitsStd
  dsimp only
  rw [BitVec.or_comm]
theorem rot_and (k : Int) (h0 : -32 < k) (h1 : k < 0) : bitsStd .and .u64 (IntKind.wrap .u64 k) 31 = 32 + k := by
  have key : ∀ j : Fin 31, bitsStd .and .u64 (IntKind.wrap .u64 (-((j.1 : Int) + 1))) 31 = 31 - (j.1 : Int) := by decide +kernel
  have := key ⟨(-k - 1).toNat, by omega⟩
  simp only at this
  rw [show (-((((-k - 1).toNat : Nat) : Int) + 1)) = k by omega] at this
  rw [this]
  omega
theorem rotL_rot (x k : Int) (h0 : -32 < k) (h1 : k < 0) : orW (shlW x (bitsStd .and .u64 (IntKind.wrap .u64 k) 31)) (shrW x (IntKind.wrap .u64 (32 - bitsStd .and .u64 (IntKind.wrap .u64 k) 31))) = rot x (-k) := by
  rw [rot_and k h0 h1]
  have e : IntKind.wrap .u64 (32 - (32 + k)) = -k := by show (32 - (32 + k)) % 18446744073709551616 = -k; omega
  rw [e, orW_comm]
  unfold rot
  rw [show 32 - -k = 32 + k by omega]
def sRotL : List SV → Option (Prop × SV)
  | [.c (.int .u32 x), .c (.int .i64 k)] => some ((-32 < k ∧ k < 0), .c (.int .u32 (rot x (-k))))
  | _ => none

set_option maxRecDepth 100000 in
set_option maxHeartbeats 400000 in
theorem rotLP : Pure Tryd.prog 133 sRotL := by
  refine Pure.of (E := tbC) (C := []) [] 0 [] tbC_ok (CtsOk.nil _) (by kernel_rfl) Tryd.func133 rfl rfl rfl (by kernel_rfl) (by kernel_rfl) ?_ ?_
  · intro args pre r h
    unfold sRotL at h
    split at h
    · cases h; first | rfl | exact ⟨rfl, rfl⟩
    · cases h
  · intro args pre r h hp
    unfold sRotL at h
    split at h
    rotate_left
    · cases h
    rename_i x k
    cases h
    generalize hg0 : rot = g0
    generalize hA : Arith.std = A
    cbv
    subst hA hg0
    obtain ⟨h0, h1⟩ := hp
    have e := rot_and k h0 h1
    refine Need.mk (by show (0 : Int) ≤ bitsStd .and .u64 (IntKind.wrap .u64 k) 31; omega) fun _ => Need.mk (by show (0 : Int) ≤ IntKind.wrap .u64 (32 - bitsStd .and .u64 (IntKind.wrap .u64 k) 31); rw [e]; show (0 : Int) ≤ (32 - (32 + k)) % 18446744073709551616; omega) fun _ => ?_
    exact rotL_rot x k h0 h1

def sTurn : List SV → Option (Prop × SV)
  | [.c (.int .u32 w), .c (.int .i64 a), .c (.int .i64 b), .c (.int .i64 c)] => some ((0 < a ∧ a < 32 ∧ 0 < b ∧ b < 32 ∧ 0 < c ∧ c < 32), .c (.int .u32 (turn3 w a b c)))
  | _ => none

def sSlide : List SV → Option (Prop × SV)
  | [.c (.int .u32 w), .c (.int .i64 a), .c (.int .i64 b), .c (.int .i64 c)] => some ((0 < a ∧ a < 32 ∧ 0 < b ∧ b < 32 ∧ 0 < c ∧ c < 32), .c (.int .u32 (slide3 w a b c)))
  | _ => none

set_option maxRecDepth 100000 in
set_option maxHeartbeats 400000 in
theorem turnP : Pure Tryd.prog 108 sTurn := by
  refine Pure.of (E := tbC) (C := [(133, appPure sRotL)]) [] 0 [] tbC_ok (CtsOk.cons (Pure.ct rotLP) <| CtsOk.nil _) (by kernel_rfl) Tryd.func108 rfl rfl rfl (by kernel_rfl) (by kernel_rfl) ?_ ?_
  · intro args pre r h
    unfold sTurn at h
    split at h
    · cases h; first | rfl | exact ⟨rfl, rfl⟩
    · cases h
  · intro args pre r h hp
    unfold sTurn at h
    split at h
    rotate_left
    · cases h
    rename_i w a b c
    cases h
    unfold sRotL
    generalize hg0 : rot = g0
    generalize hg1 : turn3 = g1
    generalize hA : Arith.std = A
    cbv
    subst hA hg0 hg1
    obtain ⟨h1, h2, h3, h4, h5, h6⟩ := hp
    refine Need.mk (by show fitStd .i64 (0 - a); unfold fitStd; omega) fun _ => Need.mk (by show -32 < 0 - a ∧ 0 - a < 0; omega) fun _ => Need.mk (by show fitStd .i64 (0 - b); unfold fitStd; omega) fun _ => Need.mk (by show -32 < 0 - b ∧ 0 - b < 0; omega) fun _ => Need.mk (by show fitStd .i64 (0 - c); unfold fitStd; omega) fun _ => Need.mk (by show -32 < 0 - c ∧ 0 - c < 0; omega) fun _ =>  ?_
    have e : ∀ x : Int, -(0 - x) = x := fun x => by omega
    show xorW (xorW (rot w (-(0 - a))) (rot w (-(0 - b)))) (rot w (-(0 - c))) = _
    simp only [e]
    rfl

set_option maxRecDepth 100000 in
set_option maxHeartbeats 400000 in
theorem slideP : Pure Tryd.prog 132 sSlide := by
  refine Pure.of (E := tbC) (C := [(133, appPure sRotL)]) [] 0 [(1, [(0, true), (1, true), (2, true), (4, true), (5, true), (6, true), (9, true), (10, true), (11, true), (3, false), (7, false), (8, true), (12, true), (13, true)])] tbC_ok (CtsOk.cons (Pure.ct rotLP) <| CtsOk.nil _) (by kernel_rfl) Tryd.func132 rfl rfl rfl (by kernel_rfl) (by kernel_rfl) ?_ ?_
  · intro args pre r h
    unfold sSlide at h
    split at h
    · cases h; first | rfl | exact ⟨rfl, rfl⟩
    · cases h
  · intro args pre r h hp
    unfold sSlide at h
    split at h
    rotate_left
    · cases h
    rename_i w a b c
    cases h
    unfold sRotL
    generalize hg0 : rot = g0
    generalize hg1 : slide3 = g1
    generalize hA : Arith.std = A
    cbv
    subst hA hg0 hg1
    obtain ⟨h1, h2, h3, h4, h5, h6⟩ := hp
    refine Need.mk (by show fitStd .i64 (0 - a); unfold fitStd; omega) fun _ => Need.mk (by show fitStd .i64 (0 - b); unfold fitStd; omega) fun _ => Need.mk (by show (0 : Int) ≤ c; omega) fun _ => Need.mk (by show -32 < 0 - a ∧ 0 - a < 0; omega) fun _ => Need.mk (by show -32 < 0 - b ∧ 0 - b < 0; omega) fun _ =>  ?_
    have e : ∀ x : Int, -(0 - x) = x := fun x => by omega
    show xorW (xorW (rot w (-(0 - a))) (rot w (-(0 - b)))) (shrW w c) = _
    simp only [e]
    rfl

end Go.Proofs.YtophhppklaofaaaDoor.Vx
end

section
/- The words of a chunk, and how a chunk is mixed in, by the walker. -/
namespace Go.Proofs.YtophhppklaofaaaDoor.Vx
open Go.RowKit Sha
set_option linter.unusedVariables false
set_option linter.unusedSimpArgs false
theorem sel_range (g : Nat → Int) (m n : Nat) (h : n < m) : Arith.std.sel n ((List.range m).map g) = g n := by
  show ((List.range m).map g).getD n 0 = g n
  rw [List.getD_eq_getElem?_getD, List.getElem?_map, List.getElem?_range h]
  rfl
theorem sel8 (g : Nat → Int) (n : Nat) (h : n < 8) : Arith.std.sel n [g 0, g 1, g 2, g 3, g 4, g 5, g 6, g 7] = g n := sel_range g 8 n h
theorem word_int (l : List UInt8) (i : Int) (h : 0 ≤ i) :
    orW (orW (orW (shlW (IntKind.wrap .u32 ((l.getD (4 * i).toNat 0).toNat : Int)) 24) (shlW (IntKind.wrap .u32 ((l.getD (4 * i + 1).toNat 0).toNat : Int)) 16)) (shlW (IntKind.wrap .u32 ((l.getD (4 * i + 2).toNat 0).toNat : Int)) 8)) (IntKind.wrap .u32 ((l.getD (4 * i + 3).toNat 0).toNat : Int)) = wordAt l i.toNat := by
  unfold wordAt byW
  rw [show (4 * i).toNat = 4 * i.toNat by omega, show (4 * i + 1).toNat = 4 * i.toNat + 1 by omega, show (4 * i + 2).toNat = 4 * i.toNat + 2 by omega, show (4 * i + 3).toNat = 4 * i.toNat + 3 by omega]
/-- The words of a chunk, so far. -/
structure LSp (l : List UInt8) where
  i : Int
  g : Nat → Int
  h0 : 0 ≤ i
  h1 : i ≤ 64
  h2 : ∀ j : Nat, (j : Int) < i → g j = schW l j
def sSpread : List SV → Option (Prop × SV)
  | [.c (.str l)] => some (l.length = 64, .agg [.int .u32 (schW l 0), .int .u32 (schW l 1), .int .u32 (schW l 2), .int .u32 (schW l 3), .int .u32 (schW l 4), .int .u32 (schW l 5), .int .u32 (schW l 6), .int .u32 (schW l 7), .int .u32 (schW l 8), .int .u32 (schW l 9), .int .u32 (schW l 10), .int .u32 (schW l 11), .int .u32 (schW l 12), .int .u32 (schW l 13), .int .u32 (schW l 14), .int .u32 (schW l 15), .int .u32 (schW l 16), .int .u32 (schW l 17), .int .u32 (schW l 18), .int .u32 (schW l 19), .int .u32 (schW l 20), .int .u32 (schW l 21), .int .u32 (schW l 22), .int .u32 (schW l 23), .int .u32 (schW l 24), .int .u32 (schW l 25), .int .u32 (schW l 26), .int .u32 (schW l 27), .int .u32 (schW l 28), .int .u32 (schW l 29), .int .u32 (schW l 30), .int .u32 (schW l 31), .int .u32 (schW l 32), .int .u32 (schW l 33), .int .u32 (schW l 34), .int .u32 (schW l 35), .int .u32 (schW l 36), .int .u32 (schW l 37), .int .u32 (schW l 38), .int .u32 (schW l 39), .int .u32 (schW l 40), .int .u32 (schW l 41), .int .u32 (schW l 42), .int .u32 (schW l 43), .int .u32 (schW l 44), .int .u32 (schW l 45), .int .u32 (schW l 46), .int .u32 (schW l 47), .int .u32 (schW l 48), .int .u32 (schW l 49), .int .u32 (schW l 50), .int .u32 (schW l 51), .int .u32 (schW l 52), .int .u32 (schW l 53), .int .u32 (schW l 54), .int .u32 (schW l 55), .int .u32 (schW l 56), .int .u32 (schW l 57), .int .u32 (schW l 58), .int .u32 (schW l 59), .int .u32 (schW l 60), .int .u32 (schW l 61), .int .u32 (schW l 62), .int .u32 (schW l 63)])
  | _ => none

set_option maxRecDepth 100000 in
set_option maxHeartbeats 2000000 in
theorem spreadP : Pure Tryd.prog 107 sSpread := by
  have hC : CtsOk Tryd.prog [(132, appPure sSlide)] := CtsOk.cons (Pure.ct slideP) <| CtsOk.nil _
  refine Pure.of (E := tbY) (C := [(132, appPure sSlide)]) [] 0 [(6, [(0, true), (1, true), (2, true), (3, true), (4, true), (5, true), (6, true), (7, true), (8, true), (9, true), (10, true), (11, true), (12, true), (13, true), (14, true), (15, true), (16, true), (17, true), (18, true), (19, true), (20, true), (21, true), (22, true), (23, true), (24, true), (25, true), (26, true), (27, true), (28, true), (29, true), (30, true), (1031, false), (31, false)]), (7, [(0, true), (1, true), (2, true), (3, true), (4, true), (5, true), (6, true), (7, true), (8, true), (11, true), (12, true), (13, true), (14, true), (16, true), (17, true), (18, true), (19, true), (9, false), (10, true), (15, true), (20, false), (21, true), (22, true), (1023, false), (23, false)])] tbY_ok hC (by kernel_rfl) Tryd.func107 rfl rfl rfl (by kernel_rfl) (by kernel_rfl) ?_ ?_
  · intro args pre r h
    unfold sSpread at h
    split at h
    · cases h; rfl
    · cases h
  · intro args pre r h hp
    unfold sSpread at h
    split at h
    rotate_left
    · cases h
    rename_i l
    cases h
    have hlen : l.length = 64 := hp
    generalize hg0 : schW = g0
    generalize hg1 : slide3 = g1
    generalize hg2 : (List.length : List UInt8 → Nat) = g2
    generalize hL : lft Tryd.prog _ = L
    generalize hA : Arith.std = A
    cbv
    subst hA hg0 hg1 hg2 hL
    show Runs Tryd.prog 0 (.loop _) _ _
    refine loop_ruleR (N := env (lft Tryd.prog 0) 0 .std tbY [(132, appPure sSlide)] [(6, [(0, true), (1, true), (2, true), (3, true), (4, true), (5, true), (6, true), (7, true), (8, true), (9, true), (10, true), (11, true), (12, true), (13, true), (14, true), (15, true), (16, true), (17, true), (18, true), (19, true), (20, true), (21, true), (22, true), (23, true), (24, true), (25, true), (26, true), (27, true), (28, true), (29, true), (30, true), (1031, false), (31, false)]), (7, [(0, true), (1, true), (2, true), (3, true), (4, true), (5, true), (6, true), (7, true), (8, true), (11, true), (12, true), (13, true), (14, true), (16, true), (17, true), (18, true), (19, true), (9, false), (10, true), (15, true), (20, false), (21, true), (22, true), (1023, false), (23, false)])]) rfl tbY_ok hC (fun c st K _ h => h) (by kernel_rfl) [] (X := LSp l)
      (S := fun x => ⟨[.c (.str l), .any, .c (.ptr 0 0), .c (.ptr 1 0), .any, .c (.int .i64 x.i)] ++ List.replicate 60 .any, [.cells 90 [.int .u32 0, .int .u32 0, .int .u32 0, .int .u32 0, .int .u32 0, .int .u32 0, .int .u32 0, .int .u32 0, .int .u32 0, .int .u32 0, .int .u32 0, .int .u32 0, .int .u32 0, .int .u32 0, .int .u32 0, .int .u32 0, .int .u32 0, .int .u32 0, .int .u32 0, .int .u32 0, .int .u32 0, .int .u32 0, .int .u32 0, .int .u32 0, .int .u32 0, .int .u32 0, .int .u32 0, .int .u32 0, .int .u32 0, .int .u32 0, .int .u32 0, .int .u32 0, .int .u32 0, .int .u32 0, .int .u32 0, .int .u32 0, .int .u32 0, .int .u32 0, .int .u32 0, .int .u32 0, .int .u32 0, .int .u32 0, .int .u32 0, .int .u32 0, .int .u32 0, .int .u32 0, .int .u32 0, .int .u32 0, .int .u32 0, .int .u32 0, .int .u32 0, .int .u32 0, .int .u32 0, .int .u32 0, .int .u32 0, .int .u32 0, .int .u32 0, .int .u32 0, .int .u32 0, .int .u32 0, .int .u32 0, .int .u32 0, .int .u32 0, .int .u32 0], .cells 90 [.int .u32 (x.g 0), .int .u32 (x.g 1), .int .u32 (x.g 2), .int .u32 (x.g 3), .int .u32 (x.g 4), .int .u32 (x.g 5), .int .u32 (x.g 6), .int .u32 (x.g 7), .int .u32 (x.g 8), .int .u32 (x.g 9), .int .u32 (x.g 10), .int .u32 (x.g 11), .int .u32 (x.g 12), .int .u32 (x.g 13), .int .u32 (x.g 14), .int .u32 (x.g 15), .int .u32 (x.g 16), .int .u32 (x.g 17), .int .u32 (x.g 18), .int .u32 (x.g 19), .int .u32 (x.g 20), .int .u32 (x.g 21), .int .u32 (x.g 22), .int .u32 (x.g 23), .int .u32 (x.g 24), .int .u32 (x.g 25), .int .u32 (x.g 26), .int .u32 (x.g 27), .int .u32 (x.g 28), .int .u32 (x.g 29), .int .u32 (x.g 30), .int .u32 (x.g 31), .int .u32 (x.g 32), .int .u32 (x.g 33), .int .u32 (x.g 34), .int .u32 (x.g 35), .int .u32 (x.g 36), .int .u32 (x.g 37), .int .u32 (x.g 38), .int .u32 (x.g 39), .int .u32 (x.g 40), .int .u32 (x.g 41), .int .u32 (x.g 42), .int .u32 (x.g 43), .int .u32 (x.g 44), .int .u32 (x.g 45), .int .u32 (x.g 46), .int .u32 (x.g 47), .int .u32 (x.g 48), .int .u32 (x.g 49), .int .u32 (x.g 50), .int .u32 (x.g 51), .int .u32 (x.g 52), .int .u32 (x.g 53), .int .u32 (x.g 54), .int .u32 (x.g 55), .int .u32 (x.g 56), .int .u32 (x.g 57), .int .u32 (x.g 58), .int .u32 (x.g 59), .int .u32 (x.g 60), .int .u32 (x.g 61), .int .u32 (x.g 62), .int .u32 (x.g 63)]]⟩) (μ := fun x => 64 - x.i.toNat) ⟨0, fun _ => 0, by omega, by omega, fun j hj => by omega⟩ (by kernel_rfl) [0, 1] ?_ ?_
    · refine ⟨rfl, by decide, ?_, ?_⟩ <;> repeat' (first | exact trivial | exact rfl | apply And.intro)
    rintro ⟨i, g, hi0, hin, hall⟩
    unfold sSlide
    generalize hg0 : schW = g0
    generalize hg1 : slide3 = g1
    generalize hg2 : (List.length : List UInt8 → Nat) = g2
    generalize hL : lft Tryd.prog _ = L
    generalize hA : Arith.std = A
    cbv
    subst hA hg0 hg1 hg2 hL
    replace hi0 : 0 ≤ i := hi0
    replace hin : i ≤ 64 := hin
    replace hall : ∀ j : Nat, (j : Int) < i → g j = schW l j := hall
    replace hlen : l.length = 64 := hlen
    refine Ife.mk (fun h => ?_) (fun h => ?_)
    · have hlt : i < 64 := of_decide_eq_true (p := i < 64) h
      refine Ife.mk (fun h => ?_) (fun h => ?_)
      · have hl16 : i < 16 := of_decide_eq_true (p := i < 16) h
        repeat refine Need.mk (by first | exact trivial | (simp only [Arith.std, fitStd]; omega) | (simp [Arith.std, fitStd]; omega)) fun _ => ?_
        refine ⟨⟨i + 1, fun j => Arith.std.upd i.toNat j ?v1 (g j), by omega, by omega, ?h2⟩, [0, 1], (by show 64 - (i + 1).toNat < 64 - i.toNat; omega), ?st⟩
        case st => refine ⟨rfl, by decide, ?_, ?_⟩ <;> repeat' (first | exact trivial | exact rfl | apply And.intro)
        case h2 =>
          intro j hj
          show (if i.toNat = j then _ else g j) = _
          by_cases hji : i.toNat = j
          · rw [if_pos hji, ← hji, schW_lo l (by omega), ← word_int l i hi0]
            rfl
          · rw [if_neg hji]
            exact hall j (by omega)
      · have hl16 : ¬ i < 16 := of_decide_eq_false (p := i < 16) h
        repeat refine Need.mk (by first | exact trivial | (simp only [Arith.std, fitStd]; omega) | (simp [Arith.std, fitStd]; omega)) fun _ => ?_
        refine ⟨⟨i + 1, fun j => Arith.std.upd i.toNat j ?v2 (g j), by omega, by omega, ?h2⟩, [0, 1], (by show 64 - (i + 1).toNat < 64 - i.toNat; omega), ?st⟩
        case st => refine ⟨rfl, by decide, ?_, ?_⟩ <;> repeat' (first | exact trivial | exact rfl | apply And.intro)
        case h2 =>
          intro j hj
          show (if i.toNat = j then _ else g j) = _
          by_cases hji : i.toNat = j
          · rw [if_pos hji, ← hji, schW_hi l (by omega) (by omega)]
            show addW (addW (addW (Arith.std.sel (i - 16).toNat ((List.range 64).map g)) (slide3 (Arith.std.sel (i - 15).toNat ((List.range 64).map g)) 7 18 3)) (Arith.std.sel (i - 7).toNat ((List.range 64).map g))) (slide3 (Arith.std.sel (i - 2).toNat ((List.range 64).map g)) 17 19 10) = _
            rw [sel_range g 64 _ (by omega), sel_range g 64 _ (by omega), sel_range g 64 _ (by omega), sel_range g 64 _ (by omega), hall _ (by omega), hall _ (by omega), hall _ (by omega), hall _ (by omega)]
            rw [show (i - 16).toNat = i.toNat - 16 by omega, show (i - 15).toNat = i.toNat - 15 by omega, show (i - 7).toNat = i.toNat - 7 by omega, show (i - 2).toNat = i.toNat - 2 by omega]
          · rw [if_neg hji]
            exact hall j (by omega)
    · have hnlt : ¬ i < 64 := of_decide_eq_false (p := i < 64) h
      have hq : ∀ k : Nat, k < 64 → g k = schW l k := fun k hk => hall k (by omega)
      exact ⟨hq 0 (by decide), hq 1 (by decide), hq 2 (by decide), hq 3 (by decide), hq 4 (by decide), hq 5 (by decide), hq 6 (by decide), hq 7 (by decide), hq 8 (by decide), hq 9 (by decide), hq 10 (by decide), hq 11 (by decide), hq 12 (by decide), hq 13 (by decide), hq 14 (by decide), hq 15 (by decide), hq 16 (by decide), hq 17 (by decide), hq 18 (by decide), hq 19 (by decide), hq 20 (by decide), hq 21 (by decide), hq 22 (by decide), hq 23 (by decide), hq 24 (by decide), hq 25 (by decide), hq 26 (by decide), hq 27 (by decide), hq 28 (by decide), hq 29 (by decide), hq 30 (by decide), hq 31 (by decide), hq 32 (by decide), hq 33 (by decide), hq 34 (by decide), hq 35 (by decide), hq 36 (by decide), hq 37 (by decide), hq 38 (by decide), hq 39 (by decide), hq 40 (by decide), hq 41 (by decide), hq 42 (by decide), hq 43 (by decide), hq 44 (by decide), hq 45 (by decide), hq 46 (by decide), hq 47 (by decide), hq 48 (by decide), hq 49 (by decide), hq 50 (by decide), hq 51 (by decide), hq 52 (by decide), hq 53 (by decide), hq 54 (by decide), hq 55 (by decide), hq 56 (by decide), hq 57 (by decide), hq 58 (by decide), hq 59 (by decide), hq 60 (by decide), hq 61 (by decide), hq 62 (by decide), hq 63 (by decide), trivial⟩

end Go.Proofs.YtophhppklaofaaaDoor.Vx
end

section
/- How a chunk is mixed in, by the walker. -/
namespace Go.Proofs.YtophhppklaofaaaDoor.Vx
open Go.RowKit Sha
set_option linter.unusedVariables false
set_option linter.unusedSimpArgs false
/-- A loop that fills an array, so far. -/
structure LFill (N : Nat) (F I : Nat → Int) where
  i : Int
  g : Nat → Int
  h0 : 0 ≤ i
  h1 : i ≤ (N : Int)
  h2 : ∀ j : Nat, (j : Int) < i → g j = F j
  h3 : ∀ j : Nat, i ≤ (j : Int) → j < N → g j = I j
/-- The rounds, so far. -/
structure LM (l : List UInt8) (s0 : S8) where
  i : Int
  s : S8
  h0 : 0 ≤ i
  h1 : i ≤ 64
  h2 : s = rounds l s0 i.toNat
/-- The words that are added, as the program holds them. -/
def KsAt (gg sz n : Nat) (get : Nat → List CV) : Prop := gg = 0 ∧ sz = 1 ∧ n = 64 ∧ (∀ i, i < 64 → get i = [.int .u32 (kOf i)])
theorem KsAt.same {gg sz n : Nat} {get : Nat → List CV} (h : KsAt gg sz n get) : hSame [.glob gg sz n get] [.glob 0 1 64 (fun i => [.int .u32 (kOf i)])] := by
  obtain ⟨rfl, rfl, rfl, h⟩ := h
  exact ⟨⟨rfl, rfl, rfl, h⟩, trivial⟩
def sMix : SpecF
  | [.agg [.int .u32 ha, .int .u32 hb, .int .u32 hc', .int .u32 hd, .int .u32 he, .int .u32 hf, .int .u32 hg, .int .u32 hh], .c (.str l)], [.glob gg sz n get] => some ((KsAt gg sz n get ∧ l.length = 64), .agg [.int .u32 (mixS ⟨ha, hb, hc', hd, he, hf, hg, hh⟩ l).a, .int .u32 (mixS ⟨ha, hb, hc', hd, he, hf, hg, hh⟩ l).b, .int .u32 (mixS ⟨ha, hb, hc', hd, he, hf, hg, hh⟩ l).c, .int .u32 (mixS ⟨ha, hb, hc', hd, he, hf, hg, hh⟩ l).d, .int .u32 (mixS ⟨ha, hb, hc', hd, he, hf, hg, hh⟩ l).e, .int .u32 (mixS ⟨ha, hb, hc', hd, he, hf, hg, hh⟩ l).f, .int .u32 (mixS ⟨ha, hb, hc', hd, he, hf, hg, hh⟩ l).g, .int .u32 (mixS ⟨ha, hb, hc', hd, he, hf, hg, hh⟩ l).h], [.dead])
  | _, _ => none

set_option maxRecDepth 100000 in
set_option maxHeartbeats 2000000 in
theorem mixP : Fn Tryd.prog 74 [0] [] sMix := by
  have hC : CtsOk Tryd.prog [(107, appPure sSpread), (108, appPure sTurn)] := CtsOk.cons (Pure.ct spreadP) <| CtsOk.cons (Pure.ct turnP) <| CtsOk.nil _
  refine Fn.of (E := tbC) [] 0 [(5, [(0, true), (1, true), (2, true), (3, true), (6, true), (7, true), (8, true), (9, true), (10, true), (11, true), (12, true), (13, true), (14, true), (15, true), (16, true), (17, true), (19, true), (20, true), (21, true), (23, true), (4, false), (5, true), (18, true), (22, true), (24, true), (25, true)]), (6, [(0, true), (1, true), (3, true), (4, true), (5, true), (6, true), (7, true), (8, true), (9, true), (10, true), (11, true), (12, true), (13, true), (14, true), (15, true), (16, true), (17, true), (18, true), (19, true), (2, false), (20, true), (21, true)]), (12, [(0, true), (1, true), (2, true), (3, true), (4, true), (5, true), (6, true), (7, true), (1008, false), (8, false)])] tbC_ok hC (by kernel_rfl) Tryd.func74 rfl rfl rfl (by kernel_rfl) (by kernel_rfl) 1 5 1 ?_ ?_
  · intro args h pre r h' hs
    unfold sMix at hs
    split at hs
    · cases hs; exact ⟨rfl, rfl, Nat.le_of_ble_eq_true rfl⟩
    · cases hs
  · intro args h pre r h' hs hp
    unfold sMix at hs
    split at hs
    rotate_left
    · cases hs
    rename_i ha hb hc' hd he hf hg hh l gg sz n get
    cases hs
    obtain ⟨hK, hl⟩ := hp
    refine ⟨_, hK.same, ?_⟩
    clear hK
    unfold sSpread sTurn
    generalize hg0 : schW = g0
    generalize hg1 : turn3 = g1
    generalize hg2 : kOf = g2
    generalize hg3 : (List.length : List UInt8 → Nat) = g3
    generalize hg4 : mixS = g4
    generalize hg5 : KsAt = g5
    generalize hL : lft Tryd.prog _ = L
    generalize hA : Arith.std = A
    cbv
    subst hA hg0 hg1 hg2 hg3 hg4 hg5 hL
    refine Need.mk hl fun _ => ?_
    show Runs Tryd.prog 1 (.loop _) _ _
    refine loop_ruleR (N := env (lft Tryd.prog 1) 0 .std tbC [(107, appPure sSpread), (108, appPure sTurn)] [(5, [(0, true), (1, true), (2, true), (3, true), (6, true), (7, true), (8, true), (9, true), (10, true), (11, true), (12, true), (13, true), (14, true), (15, true), (16, true), (17, true), (19, true), (20, true), (21, true), (23, true), (4, false), (5, true), (18, true), (22, true), (24, true), (25, true)]), (6, [(0, true), (1, true), (3, true), (4, true), (5, true), (6, true), (7, true), (8, true), (9, true), (10, true), (11, true), (12, true), (13, true), (14, true), (15, true), (16, true), (17, true), (18, true), (19, true), (2, false), (20, true), (21, true)]), (12, [(0, true), (1, true), (2, true), (3, true), (4, true), (5, true), (6, true), (7, true), (1008, false), (8, false)])]) rfl tbC_ok hC (fun c st K _ h => h) (by kernel_rfl) [] (X := LM l ⟨ha, hb, hc', hd, he, hf, hg, hh⟩)
      (S := fun x => ⟨[.any, .any, .c (.ptr 1 0), .any, .c (.ptr 2 0), .c (.ptr 3 0), .any, .any, .any, .any, .any, .any, .any, .agg [.int .u32 (schW l 0), .int .u32 (schW l 1), .int .u32 (schW l 2), .int .u32 (schW l 3), .int .u32 (schW l 4), .int .u32 (schW l 5), .int .u32 (schW l 6), .int .u32 (schW l 7), .int .u32 (schW l 8), .int .u32 (schW l 9), .int .u32 (schW l 10), .int .u32 (schW l 11), .int .u32 (schW l 12), .int .u32 (schW l 13), .int .u32 (schW l 14), .int .u32 (schW l 15), .int .u32 (schW l 16), .int .u32 (schW l 17), .int .u32 (schW l 18), .int .u32 (schW l 19), .int .u32 (schW l 20), .int .u32 (schW l 21), .int .u32 (schW l 22), .int .u32 (schW l 23), .int .u32 (schW l 24), .int .u32 (schW l 25), .int .u32 (schW l 26), .int .u32 (schW l 27), .int .u32 (schW l 28), .int .u32 (schW l 29), .int .u32 (schW l 30), .int .u32 (schW l 31), .int .u32 (schW l 32), .int .u32 (schW l 33), .int .u32 (schW l 34), .int .u32 (schW l 35), .int .u32 (schW l 36), .int .u32 (schW l 37), .int .u32 (schW l 38), .int .u32 (schW l 39), .int .u32 (schW l 40), .int .u32 (schW l 41), .int .u32 (schW l 42), .int .u32 (schW l 43), .int .u32 (schW l 44), .int .u32 (schW l 45), .int .u32 (schW l 46), .int .u32 (schW l 47), .int .u32 (schW l 48), .int .u32 (schW l 49), .int .u32 (schW l 50), .int .u32 (schW l 51), .int .u32 (schW l 52), .int .u32 (schW l 53), .int .u32 (schW l 54), .int .u32 (schW l 55), .int .u32 (schW l 56), .int .u32 (schW l 57), .int .u32 (schW l 58), .int .u32 (schW l 59), .int .u32 (schW l 60), .int .u32 (schW l 61), .int .u32 (schW l 62), .int .u32 (schW l 63)], .c (.int .i64 x.i)] ++ List.replicate 83 .any, [.glob 0 1 64 (fun i => [.int .u32 (kOf i)]), .cells 86 [.int .u32 ha, .int .u32 hb, .int .u32 hc', .int .u32 hd, .int .u32 he, .int .u32 hf, .int .u32 hg, .int .u32 hh], .cells 86 [.int .u32 0, .int .u32 0, .int .u32 0, .int .u32 0, .int .u32 0, .int .u32 0, .int .u32 0, .int .u32 0], .cells 86 [.int .u32 x.s.a, .int .u32 x.s.b, .int .u32 x.s.c, .int .u32 x.s.d, .int .u32 x.s.e, .int .u32 x.s.f, .int .u32 x.s.g, .int .u32 x.s.h]]⟩) (μ := fun x => 64 - x.i.toNat) ⟨0, ⟨ha, hb, hc', hd, he, hf, hg, hh⟩, by omega, by omega, rfl⟩ (by kernel_rfl) [0, 1, 2, 3] ?_ ?_
    · refine ⟨rfl, by decide, ?_, ?_⟩ <;> repeat' (first | exact trivial | exact rfl | apply And.intro)
    rintro ⟨i, ⟨a, b, c, d, e, f, g, h⟩, hi0, hin, hs⟩
    unfold sSpread sTurn
    generalize hg0 : schW = g0
    generalize hg1 : turn3 = g1
    generalize hg2 : kOf = g2
    generalize hg3 : (List.length : List UInt8 → Nat) = g3
    generalize hg4 : mixS = g4
    generalize hg5 : KsAt = g5
    generalize hL : lft Tryd.prog _ = L
    generalize hA : Arith.std = A
    cbv
    subst hA hg0 hg1 hg2 hg3 hg4 hg5 hL
    replace hi0 : 0 ≤ i := hi0
    replace hin : i ≤ 64 := hin
    refine Ife.mk (fun hlt => ?_) (fun hlt => ?_)
    · replace hlt : i < 64 := of_decide_eq_true (p := i < 64) hlt
      repeat refine Need.mk (by first | exact trivial | (simp only [Arith.std, fitStd]; omega) | (simp [Arith.std, fitStd]; omega)) fun _ => ?_
      refine ⟨⟨i + 1, rnd ⟨a, b, c, d, e, f, g, h⟩ (kOf i.toNat) (Arith.std.sel i.toNat ((List.range 64).map (schW l))), by omega, by omega, ?h2⟩, [0, 1, 2, 3], (by show 64 - (i + 1).toNat < 64 - i.toNat; omega), ?st⟩
      case st => refine ⟨rfl, by decide, ?_, ?_⟩ <;> repeat' (first | exact trivial | exact rfl | apply And.intro)
      case h2 =>
        rw [sel_range (schW l) 64 _ (by omega), show (i + 1).toNat = i.toNat + 1 by omega, hs]
        rfl
    · replace hlt : ¬ i < 64 := of_decide_eq_false (p := i < 64) hlt
      rw [show i.toNat = 64 by omega] at hs
      generalize hR : rounds l ⟨ha, hb, hc', hd, he, hf, hg, hh⟩ 64 = R at hs
      subst hs
      show Runs Tryd.prog 1 (.loop _) _ _
      refine loop_ruleR (N := env (lft Tryd.prog 1) 0 .std tbY [(107, appPure sSpread), (108, appPure sTurn)] [(5, [(0, true), (1, true), (2, true), (3, true), (6, true), (7, true), (8, true), (9, true), (10, true), (11, true), (12, true), (13, true), (14, true), (15, true), (16, true), (17, true), (19, true), (20, true), (21, true), (23, true), (4, false), (5, true), (18, true), (22, true), (24, true), (25, true)]), (6, [(0, true), (1, true), (3, true), (4, true), (5, true), (6, true), (7, true), (8, true), (9, true), (10, true), (11, true), (12, true), (13, true), (14, true), (15, true), (16, true), (17, true), (18, true), (19, true), (2, false), (20, true), (21, true)]), (12, [(0, true), (1, true), (2, true), (3, true), (4, true), (5, true), (6, true), (7, true), (1008, false), (8, false)])]) rfl tbY_ok hC (fun c st K _ h => h) (by kernel_rfl) [] (X := LFill 8 (fun j => addW (S8.at ⟨ha, hb, hc', hd, he, hf, hg, hh⟩ j) (S8.at ⟨a, b, c, d, e, f, g, h⟩ j)) (fun j => S8.at ⟨ha, hb, hc', hd, he, hf, hg, hh⟩ j))
        (S := fun x => ⟨[.any, .any, .c (.ptr 1 0), .any, .c (.ptr 2 0), .c (.ptr 3 0), .any, .any, .any, .any, .any, .any, .any, .any, .any, .any, .any, .any, .any, .any, .any, .any, .any, .any, .any, .any, .any, .any, .any, .any, .any, .any, .any, .any, .any, .any, .any, .any, .any, .any, .any, .any, .any, .any, .any, .any, .any, .any, .any, .any, .any, .any, .any, .any, .any, .any, .any, .any, .any, .any, .any, .any, .any, .any, .any, .any, .any, .any, .any, .any, .any, .any, .any, .any, .any, .any, .any, .any, .any, .any, .any, .any, .any, .any, .any, .c (.int .i64 x.i)] ++ List.replicate 12 .any, [.glob 0 1 64 (fun i => [.int .u32 (kOf i)]), .cells 86 [.int .u32 (x.g 0), .int .u32 (x.g 1), .int .u32 (x.g 2), .int .u32 (x.g 3), .int .u32 (x.g 4), .int .u32 (x.g 5), .int .u32 (x.g 6), .int .u32 (x.g 7)], .cells 86 [.int .u32 0, .int .u32 0, .int .u32 0, .int .u32 0, .int .u32 0, .int .u32 0, .int .u32 0, .int .u32 0], .cells 86 [.int .u32 a, .int .u32 b, .int .u32 c, .int .u32 d, .int .u32 e, .int .u32 f, .int .u32 g, .int .u32 h]]⟩) (μ := fun x => 8 - x.i.toNat) ⟨0, (fun j => S8.at ⟨ha, hb, hc', hd, he, hf, hg, hh⟩ j), by omega, by omega, fun j hj => absurd hj (by omega), fun j _ _ => rfl⟩ (by kernel_rfl) [0, 1, 2, 3] ?_ ?_
      · refine ⟨rfl, by decide, ?_, ?_⟩ <;> repeat' (first | exact trivial | exact rfl | apply And.intro)
      rintro ⟨i2, g2, hi02, hin2, hlo2, hhi2⟩
      unfold sSpread sTurn
      generalize hg0 : schW = g0
      generalize hg1 : turn3 = g1
      generalize hg2 : kOf = g2
      generalize hg3 : (List.length : List UInt8 → Nat) = g3
      generalize hg4 : mixS = g4
      generalize hg5 : KsAt = g5
      generalize hL : lft Tryd.prog _ = L
      generalize hA : Arith.std = A
      cbv
      subst hA hg0 hg1 hg2 hg3 hg4 hg5 hL
      replace hi02 : 0 ≤ i2 := hi02
      replace hin2 : i2 ≤ ((8 : Nat) : Int) := hin2
      replace hlo2 : ∀ j : Nat, (j : Int) < i2 → g2 j = (fun j => addW (S8.at ⟨ha, hb, hc', hd, he, hf, hg, hh⟩ j) (S8.at ⟨a, b, c, d, e, f, g, h⟩ j)) j := hlo2
      replace hhi2 : ∀ j : Nat, i2 ≤ (j : Int) → j < 8 → g2 j = (fun j => S8.at ⟨ha, hb, hc', hd, he, hf, hg, hh⟩ j) j := hhi2
      refine Ife.mk (fun hlt2 => ?_) (fun hlt2 => ?_)
      · replace hlt2 : i2 < (8 : Int) := of_decide_eq_true (p := i2 < (8 : Int)) hlt2
        repeat refine Need.mk (by first | exact trivial | (simp only [Arith.std, fitStd]; omega) | (simp [Arith.std, fitStd]; omega)) fun _ => ?_
        refine ⟨⟨i2 + 1, fun j => Arith.std.upd (i2.toNat) (j) ?v2 (g2 j), by omega, by omega, ?h2, ?h3⟩, [0, 1, 2, 3], (by show 8 - (i2 + 1).toNat < 8 - i2.toNat; omega), ?st⟩
        case st => refine ⟨rfl, by decide, ?_, ?_⟩ <;> repeat' (first | exact trivial | exact rfl | apply And.intro)
        case h3 =>
          intro j hj hj2
          show (if i2.toNat = j then _ else g2 j) = _
          rw [if_neg (by omega)]
          exact hhi2 j (by omega) hj2
        case h2 =>
          intro j hj
          show (if i2.toNat = j then _ else g2 j) = _
          by_cases hji : i2.toNat = j
          · rw [if_pos hji]
            obtain rfl : j = i2.toNat := by omega
            clear hji hj
            show addW (Arith.std.sel i2.toNat [g2 0, g2 1, g2 2, g2 3, g2 4, g2 5, g2 6, g2 7]) (Arith.std.sel i2.toNat [a, b, c, d, e, f, g, h]) = _
            rw [sel8 g2 _ (by omega), hhi2 _ (by omega) (by omega)]
            rfl
          · rw [if_neg hji]
            exact hlo2 j (by omega)
      · replace hlt2 : ¬ i2 < (8 : Int) := of_decide_eq_false (p := i2 < (8 : Int)) hlt2
        have hq2 : ∀ k : Nat, k < 8 → g2 k = (fun j => addW (S8.at ⟨ha, hb, hc', hd, he, hf, hg, hh⟩ j) (S8.at ⟨a, b, c, d, e, f, g, h⟩ j)) k := fun k hk => hlo2 k (by omega)
        have hm : mixS ⟨ha, hb, hc', hd, he, hf, hg, hh⟩ l = ⟨addW ha a, addW hb b, addW hc' c, addW hd d, addW he e, addW hf f, addW hg g, addW hh h⟩ := by
          unfold mixS
          rw [hR]
        rw [hm]
        rw [hq2 0 (by decide), hq2 1 (by decide), hq2 2 (by decide), hq2 3 (by decide), hq2 4 (by decide), hq2 5 (by decide), hq2 6 (by decide), hq2 7 (by decide)]
        exact ⟨[0], ⟨rfl, by repeat' (first | exact trivial | exact rfl | apply And.intro), by decide, rfl, by repeat' (first | exact trivial | exact rfl | apply And.intro)⟩⟩
    

end Go.Proofs.YtophhppklaofaaaDoor.Vx
end

section
/- The sum of texts, by the walker: its length, its begin, its bytes. -/
namespace Go.Proofs.YtophhppklaofaaaDoor.Vx
open Go.RowKit Sha
set_option linter.unusedVariables false
set_option linter.unusedSimpArgs false
def lenPre (n : Int) : Prop := 0 ≤ n ∧ n ≤ 9223372036854775807
def sLen8 : List SV → Option (Prop × SV)
  | [.c (.int .i64 n)] => some (lenPre n, .c (.str (len8 n.toNat)))
  | _ => none

set_option maxRecDepth 100000 in
set_option maxHeartbeats 2000000 in
theorem lengthP : Pure Tryd.prog 72 sLen8 := by
  have hC : CtsOk Tryd.prog [] := CtsOk.nil _
  refine Pure.of (E := tbY) (C := []) [] 0 [] tbY_ok hC (by kernel_rfl) Tryd.func72 rfl rfl rfl (by kernel_rfl) (by kernel_rfl) ?_ ?_
  · intro args pre r h
    unfold sLen8 at h
    split at h
    · cases h; rfl
    · cases h
  · intro args pre r h hp
    unfold sLen8 at h
    split at h
    rotate_left
    · cases h
    rename_i n
    cases h
    obtain ⟨hn0, hn1⟩ := hp
    generalize hg0 : len8 = g0
    generalize hg1 : (List.length : List UInt8 → Nat) = g1
    generalize hL : lft Tryd.prog _ = L
    generalize hA : Arith.std = A
    cbv
    subst hA hg0 hg1 hL
    show Runs Tryd.prog 0 (.loop _) _ _
    refine loop_ruleR (N := env (lft Tryd.prog 0) 0 .std tbY [] []) rfl tbY_ok hC (fun c st K _ h => h) (by kernel_rfl) [] (X := LFill 8 (fun j => lenB n.toNat (7 - j)) (fun _ => 0))
      (S := fun x => ⟨[.c (.int .i64 n), .any, .any, .c (.ptr 0 0), .any, .c (.int .i64 x.i)] ++ List.replicate 15 .any, [.cells 129 [.int .u8 (x.g 7), .int .u8 (x.g 6), .int .u8 (x.g 5), .int .u8 (x.g 4), .int .u8 (x.g 3), .int .u8 (x.g 2), .int .u8 (x.g 1), .int .u8 (x.g 0)]]⟩) (μ := fun x => 8 - x.i.toNat) ⟨0, (fun _ => 0), by omega, by omega, fun j hj => absurd hj (by omega), fun j _ _ => rfl⟩ (by kernel_rfl) [0] ?_ ?_
    · refine ⟨rfl, by decide, ?_, ?_⟩ <;> repeat' (first | exact trivial | exact rfl | apply And.intro)
    rintro ⟨i, g, hi0, hin, hlo, hhi⟩
    generalize hg0 : len8 = g0
    generalize hg1 : (List.length : List UInt8 → Nat) = g1
    generalize hL : lft Tryd.prog _ = L
    generalize hA : Arith.std = A
    cbv
    subst hA hg0 hg1 hL
    replace hi0 : 0 ≤ i := hi0
    replace hin : i ≤ ((8 : Nat) : Int) := hin
    replace hlo : ∀ j : Nat, (j : Int) < i → g j = (fun j => lenB n.toNat (7 - j)) j := hlo
    replace hhi : ∀ j : Nat, i ≤ (j : Int) → j < 8 → g j = (fun _ => 0) j := hhi
    refine Ife.mk (fun hlt => ?_) (fun hlt => ?_)
    · replace hlt : i < (8 : Int) := of_decide_eq_true (p := i < (8 : Int)) hlt
      repeat refine Need.mk (by first | exact trivial | (simp only [Arith.std, fitStd]; omega) | (simp [Arith.std, fitStd]; omega)) fun _ => ?_
      refine ⟨⟨i + 1, fun j => Arith.std.upd ((7 - i).toNat) (7 - j) ?fv (g j), by omega, by omega, ?h2, ?h3⟩, [0], (by show 8 - (i + 1).toNat < 8 - i.toNat; omega), ?st⟩
      case st => refine ⟨rfl, by decide, ?_, ?_⟩ <;> repeat' (first | exact trivial | exact rfl | apply And.intro)
      case h3 =>
        intro j hj hj2
        show (if (7 - i).toNat = 7 - j then _ else g j) = _
        rw [if_neg (by omega)]
        exact hhi j (by omega) hj2
      case h2 =>
        intro j hj
        show (if (7 - i).toNat = 7 - j then _ else g j) = _
        by_cases hji : (7 - i).toNat = 7 - j
        · rw [if_pos hji]
          obtain rfl : j = i.toNat := by omega
          clear hji hj
          show _ = lenB n.toNat (7 - i.toNat)
          unfold lenB
          rw [show (8 * (7 - (7 - i.toNat))) = (8 * i).toNat by omega]
          show IntKind.wrap .u8 ((IntKind.wrap .u64 (IntKind.wrap .u64 n * 2 ^ (min (3 : Int).toNat 64))).fdiv (2 ^ (min (8 * i).toNat 64))) = IntKind.wrap .u8 ((IntKind.wrap .u64 (IntKind.wrap .u64 ((n.toNat : Nat) : Int) * 8)).fdiv (2 ^ (8 * i).toNat))
          rw [show ((n.toNat : Nat) : Int) = n by omega, show min (8 * i).toNat 64 = (8 * i).toNat by omega]
          rfl
        · rw [if_neg hji]
          exact hlo j (by omega)
    · replace hlt : ¬ i < (8 : Int) := of_decide_eq_false (p := i < (8 : Int)) hlt
      have hq : ∀ k : Nat, k < 8 → g k = (fun j => lenB n.toNat (7 - j)) k := fun k hk => hlo k (by omega)
      have e : [Arith.std.byte (g 7), Arith.std.byte (g 6), Arith.std.byte (g 5), Arith.std.byte (g 4), Arith.std.byte (g 3), Arith.std.byte (g 2), Arith.std.byte (g 1), Arith.std.byte (g 0)] = len8 n.toNat := by
        rw [hq 0 (by decide), hq 1 (by decide), hq 2 (by decide), hq 3 (by decide), hq 4 (by decide), hq 5 (by decide), hq 6 (by decide), hq 7 (by decide)]
        rfl
      exact e

def sBegin : List SV → Option (Prop × SV)
  | [] => some (True, .agg [.int .u32 iv.a, .int .u32 iv.b, .int .u32 iv.c, .int .u32 iv.d, .int .u32 iv.e, .int .u32 iv.f, .int .u32 iv.g, .int .u32 iv.h])
  | _ => none

set_option maxRecDepth 100000 in
set_option maxHeartbeats 400000 in
theorem beginP : Pure Tryd.prog 73 sBegin := by
  refine Pure.of (E := tbC) (C := []) [] 0 [] tbC_ok (CtsOk.nil _) (by kernel_rfl) Tryd.func73 rfl rfl rfl (by kernel_rfl) (by kernel_rfl) ?_ ?_
  · intro args pre r h
    unfold sBegin at h
    split at h
    · cases h; first | rfl | exact ⟨rfl, rfl⟩
    · cases h
  · intro args pre r h hp
    unfold sBegin at h
    split at h
    rotate_left
    · cases h
    cases h
    generalize hA : Arith.std = A
    cbv

end Go.Proofs.YtophhppklaofaaaDoor.Vx
end
