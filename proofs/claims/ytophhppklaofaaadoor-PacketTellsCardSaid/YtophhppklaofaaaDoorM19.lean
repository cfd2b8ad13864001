/- Sums that come in, opened. -/
import Derived.Test.YtophhppklaofaaaDoorM18
import Derived.Test.YtophhppklaofaaaDoorM16
import Derived.Test.YtophhppklaofaaaDoorVShaWalk
section
namespace Go.Proofs.YtophhppklaofaaaDoor
open Go.ChangeShapes Go.WideShapes Go.ChangeAt Go.RowKit
set_option linter.unusedVariables false
set_option linter.unusedSimpArgs false
section
variable {H : Type} {enc : TypeId × Value → H} {w : World} {base : Nat}
end
end Go.Proofs.YtophhppklaofaaaDoor
end

section
/- The laws ShaTells, ShaLess. -/
namespace Go.Proofs.YtophhppklaofaaaDoor
open Go.RowKit Sha
set_option linter.unusedVariables false
set_option linter.unusedSimpArgs false
namespace Vx


/-! ### The order -/


end Vx
end Go.Proofs.YtophhppklaofaaaDoor
end

section
/- A slice that comes in is put beside what is held already. -/
namespace Go.Proofs.YtophhppklaofaaaDoor.Vx
open Go.RowKit
set_option linter.unusedVariables false
set_option linter.unusedSimpArgs false
end Go.Proofs.YtophhppklaofaaaDoor.Vx
end

section
/- The laws ShaTells, ShaLess, from a world in which the sums' words stand. -/
namespace Go.Proofs.YtophhppklaofaaaDoor
open Go.RowKit
set_option linter.unusedVariables false
set_option linter.unusedSimpArgs false
end Go.Proofs.YtophhppklaofaaaDoor
end

section
/- The law ShaHex, by the walker. -/
namespace Go.Proofs.YtophhppklaofaaaDoor
open Go.RowKit Sha
set_option linter.unusedVariables false
set_option linter.unusedSimpArgs false
namespace Vx


end Vx
end Go.Proofs.YtophhppklaofaaaDoor
end

section
/- Records: their heads, by the walker. -/
namespace Go.Proofs.YtophhppklaofaaaDoor.Vx
open Go.RowKit Sha
set_option linter.unusedVariables false
set_option linter.unusedSimpArgs false
def tbF0 : Tbl where
  T :=
    (3, ⟨1, false, [.int .i64 (0)], .int .i64, 8⟩) ::
    (4, ⟨1, false, [.ff], .bool, 1⟩) ::
    (9, ⟨1, false, [.str []], .str, 16⟩) ::
    (5, ⟨1, false, [.int .u8 (0)], .int .u8, 1⟩) ::
    (89, ⟨1, false, [.int .u64 (0)], .int .u64, 8⟩) ::
    (44, ⟨1, false, [.val (.slice none 0 0)], .slice 5, 24⟩) ::
    (27, ⟨1, false, [.val (.slice none 0 0)], .slice 9, 24⟩) ::
    (97, ⟨4, true, [.int .u8 (0), .int .u8 (0), .int .u8 (0), .int .u8 (0)], .array 4 5, 4⟩) ::
    (36, ⟨1, false, [.int .i64 (0)], .int .i64, 8⟩) ::
    (24, ⟨32, true, [.int .u8 (0), .int .u8 (0), .int .u8 (0), .int .u8 (0), .int .u8 (0), .int .u8 (0), .int .u8 (0), .int .u8 (0), .int .u8 (0), .int .u8 (0), .int .u8 (0), .int .u8 (0), .int .u8 (0), .int .u8 (0), .int .u8 (0), .int .u8 (0), .int .u8 (0), .int .u8 (0), .int .u8 (0), .int .u8 (0), .int .u8 (0), .int .u8 (0), .int .u8 (0), .int .u8 (0), .int .u8 (0), .int .u8 (0), .int .u8 (0), .int .u8 (0), .int .u8 (0), .int .u8 (0), .int .u8 (0), .int .u8 (0)], .array 32 5, 32⟩) ::
    []
  F :=
    (24, [0, 0, 0, 0, 0, 0, 0, 0, 0, 0, 0, 0, 0, 0, 0, 0, 0, 0, 0, 0, 0, 0, 0, 0, 0, 0, 0, 0, 0, 0, 0, 0]) ::
    []
  sym := true

theorem tbF0_ok : tbF0.Ok Tryd.prog where
  T :=
    TblOk.cons (by kernel_rfl) <|
    TblOk.cons (by kernel_rfl) <|
    TblOk.cons (by kernel_rfl) <|
    TblOk.cons (by kernel_rfl) <|
    TblOk.cons (by kernel_rfl) <|
    TblOk.cons (by kernel_rfl) <|
    TblOk.cons (by kernel_rfl) <|
    TblOk.cons (by kernel_rfl) <|
    TblOk.cons (by kernel_rfl) <|
    TblOk.cons (by kernel_rfl) <|
    TblOk.nil _
  F :=
    FlatsOk.cons (FlatOk.of (D := .array 32 5) 6 (by decide) (by kernel_rfl) (by kernel_rfl) rfl (by kernel_rfl)) <|
    FlatsOk.nil _

/-- A digit of a number, by 256, the greatest first. -/
def d8 (n : Int) (j : Nat) : Int := n / 256 ^ (7 - j) % 256
def eightPre (n : Int) : Prop := 0 ≤ n ∧ n ≤ 72057594037927935
def be8 (n : Int) : List UInt8 := [UInt8.ofNat (d8 n 0).toNat, UInt8.ofNat (d8 n 1).toNat, UInt8.ofNat (d8 n 2).toNat, UInt8.ofNat (d8 n 3).toNat, UInt8.ofNat (d8 n 4).toNat, UInt8.ofNat (d8 n 5).toNat, UInt8.ofNat (d8 n 6).toNat, UInt8.ofNat (d8 n 7).toNat]
theorem wrap_u8 (x : Int) : IntKind.wrap .u8 x = x % 256 := by unfold IntKind.wrap; simp [IntKind.signed, IntKind.bits]
theorem d8_step (n : Int) (i : Int) (h0 : 0 ≤ i) (h1 : i < 8) : n / 256 ^ (7 - i).toNat % 256 = d8 n i.toNat := by
  unfold d8
  rw [show (7 - i).toNat = 7 - i.toNat by omega]
theorem dv_succ (n : Int) (k : Nat) : n / 256 ^ k / 256 = n / 256 ^ (k + 1) := by
  rw [Int.ediv_ediv_of_nonneg (Int.pow_nonneg (by decide)), Int.pow_succ]
structure L8 (m : Int) where
  i : Int
  n : Int
  g : Nat → Int
  h0 : -1 ≤ i
  h1 : i ≤ 7
  h2 : n = m / 256 ^ (7 - i).toNat
  h3 : ∀ j : Nat, i < (j : Int) → j < 8 → g j = d8 m j
def sREight : List SV → Option (Prop × SV)
  | [.c (.int .i64 n)] => some (eightPre n, .c (.str (be8 n)))
  | _ => none

set_option maxRecDepth 100000 in
set_option maxHeartbeats 2000000 in
theorem eightP : Pure Tryd.prog 43 sREight := by
  have hC : CtsOk Tryd.prog [] := CtsOk.nil _
  refine Pure.of (E := tbF0) (C := []) [] 0 [] tbF0_ok hC (by kernel_rfl) Tryd.func43 rfl rfl rfl (by kernel_rfl) (by kernel_rfl) ?_ ?_
  · intro args pre r h
    unfold sREight at h
    split at h
    · cases h; rfl
    · cases h
  · intro args pre r h hp
    unfold sREight at h
    split at h
    rotate_left
    · cases h
    rename_i n
    cases h
    obtain ⟨hn0, hn1⟩ := hp
    generalize hg0 : be8 = g0
    generalize hg1 : (List.length : List UInt8 → Nat) = g1
    generalize hL : lft Tryd.prog _ = L
    generalize hA : Arith.std = A
    cbv
    subst hA hg0 hg1 hL
    refine Ife.mk (fun h => absurd (of_decide_eq_true (p := n < 0) h) (by omega)) (fun _ => ?_)
    refine Ife.mk (fun h => absurd (of_decide_eq_true (p := 72057594037927935 < n) h) (by omega)) (fun _ => ?_)
    show Runs Tryd.prog 0 (.loop _) _ _
    refine loop_ruleR (N := env (lft Tryd.prog 0) 0 .std tbF0 [] []) rfl tbF0_ok hC (fun c st K _ h => h) (by kernel_rfl) [] (X := L8 n)
      (S := fun x => ⟨[.c (.int .i64 x.n), .any, .any, .c (.sl 0 0 8 8), .c (.int .i64 x.i)] ++ List.replicate 21 .any, [.cells 5 [.int .u8 (x.g 0), .int .u8 (x.g 1), .int .u8 (x.g 2), .int .u8 (x.g 3), .int .u8 (x.g 4), .int .u8 (x.g 5), .int .u8 (x.g 6), .int .u8 (x.g 7)]]⟩) (μ := fun x => (x.i + 1).toNat) ⟨7, n, fun _ => 0, by omega, by omega, (by show n = n / 256 ^ (0 : Nat); simp), fun j hj hj2 => absurd hj (by omega)⟩ (by kernel_rfl) [0] ?_ ?_
    · refine ⟨rfl, by decide, ?_, ?_⟩ <;> repeat' (first | exact trivial | exact rfl | apply And.intro)
    rintro ⟨i, m, g, hi0, hi1, hm, hg⟩
    generalize hg0 : be8 = g0
    generalize hg1 : (List.length : List UInt8 → Nat) = g1
    generalize hL : lft Tryd.prog _ = L
    generalize hA : Arith.std = A
    cbv
    subst hA hg0 hg1 hL
    replace hi0 : -1 ≤ i := hi0
    replace hi1 : i ≤ 7 := hi1
    replace hg : ∀ j : Nat, i < @Nat.cast Int instNatCastInt j → j < 8 → g j = d8 n j := hg
    have hm0 : 0 ≤ m := by rw [hm]; exact Int.ediv_nonneg hn0 (Int.pow_nonneg (by decide))
    have hm1 : m ≤ n := by rw [hm]; exact Int.ediv_le_self _ hn0
    refine Ife.mk (fun hlt => ?_) (fun hlt => ?_)
    · replace hlt : 0 ≤ i := of_decide_eq_true (p := (0 : Int) ≤ i) hlt
      have qm : m.tdiv 256 = m / 256 := Int.tdiv_eq_ediv_of_nonneg hm0
      have rm : m.tmod 256 = m % 256 := Int.tmod_eq_emod_of_nonneg hm0
      have hw : IntKind.wrap .i64 (m.tdiv 256) = m / 256 := by rw [fitStd_wrap (by unfold fitStd; omega), qm]
      have hb : IntKind.wrap .u8 (m.tmod 256) = m % 256 := by rw [wrap_u8, rm]; omega
      repeat refine Need.mk (by first | exact trivial | (simp only [Arith.std, fitStd]; omega) | (simp [Arith.std, fitStd]; omega)) fun _ => ?_
      refine ⟨⟨i - 1, IntKind.wrap .i64 (m.tdiv 256), fun j => Arith.std.upd i.toNat j (IntKind.wrap .u8 (m.tmod 256)) (g j), by omega, by omega, ?h2, ?h3⟩, [0], (by show (i - 1 + 1).toNat < (i + 1).toNat; omega), ?st⟩
      case st => refine ⟨rfl, by decide, ?_, ?_⟩ <;> repeat' (first | exact trivial | exact rfl | apply And.intro)
      case h2 =>
        rw [hw, hm, dv_succ, show (7 - (i - 1)).toNat = (7 - i).toNat + 1 by omega]
      case h3 =>
        intro j hj hj2
        replace hj : i - 1 < @Nat.cast Int instNatCastInt j := hj
        show (if i.toNat = j then IntKind.wrap .u8 (m.tmod 256) else g j) = _
        by_cases hji : i.toNat = j
        · rw [if_pos hji, hb, hm, ← hji]
          exact d8_step n i hlt (by omega)
        · rw [if_neg hji]
          exact hg j (by omega) hj2
    · replace hlt : ¬ (0 : Int) ≤ i := of_decide_eq_false (p := (0 : Int) ≤ i) hlt
      have hq : ∀ j : Nat, j < 8 → g j = d8 n j := fun j hj => hg j (by omega) hj
      show [UInt8.ofNat (g 0).toNat, UInt8.ofNat (g 1).toNat, UInt8.ofNat (g 2).toNat, UInt8.ofNat (g 3).toNat, UInt8.ofNat (g 4).toNat, UInt8.ofNat (g 5).toNat, UInt8.ofNat (g 6).toNat, UInt8.ofNat (g 7).toNat] = be8 n
      rw [hq 0 (by decide), hq 1 (by decide), hq 2 (by decide), hq 3 (by decide), hq 4 (by decide), hq 5 (by decide), hq 6 (by decide), hq 7 (by decide)]
      rfl







end Go.Proofs.YtophhppklaofaaaDoor.Vx
end
