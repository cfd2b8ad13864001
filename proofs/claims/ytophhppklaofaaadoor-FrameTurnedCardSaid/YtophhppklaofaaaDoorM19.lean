/- Sums that come in, opened. -/
import Derived.Test.YtophhppklaofaaaDoorOpenSl
import Derived.Test.YtophhppklaofaaaDoorM16
import Derived.Test.YtophhppklaofaaaDoorVShaWalk
section
namespace Go.Proofs.YtophhppklaofaaaDoor
open Go.ChangeShapes Go.WideShapes Go.ChangeAt Go.RowKit
set_option linter.unusedVariables false
set_option linter.unusedSimpArgs false
section
variable {H : Type} {enc : TypeId × Value → H} {w : World} {base : Nat}
end
end Go.Proofs.YtophhppklaofaaaDoor
end

section
/- The laws ShaTells, ShaLess. -/
namespace Go.Proofs.YtophhppklaofaaaDoor
open Go.RowKit Sha
set_option linter.unusedVariables false
set_option linter.unusedSimpArgs false
namespace Vx


/-! ### The order -/


end Vx
end Go.Proofs.YtophhppklaofaaaDoor
end

section
/- A slice that comes in is put beside what is held already. -/
namespace Go.Proofs.YtophhppklaofaaaDoor.Vx
open Go.RowKit
set_option linter.unusedVariables false
set_option linter.unusedSimpArgs false
end Go.Proofs.YtophhppklaofaaaDoor.Vx
end

section
/- The laws ShaTells, ShaLess, from a world in which the sums' words stand. -/
namespace Go.Proofs.YtophhppklaofaaaDoor
open Go.RowKit
set_option linter.unusedVariables false
set_option linter.unusedSimpArgs false
end Go.Proofs.YtophhppklaofaaaDoor
end

section
/- The law ShaHex, by the walker. -/
namespace Go.Proofs.YtophhppklaofaaaDoor
open Go.RowKit Sha
set_option linter.unusedVariables false
set_option linter.unusedSimpArgs false
namespace Vx


end Vx
end Go.Proofs.YtophhppklaofaaaDoor
end

section
/- Records: their heads, by the walker. -/
namespace Go.Proofs.YtophhppklaofaaaDoor.Vx
open Go.RowKit Sha
set_option linter.unusedVariables false
set_option linter.unusedSimpArgs false
def tbF0 : Tbl where
  T :=
    (3, ⟨1, false, [.int .i64 (0)], .int .i64, 8⟩) ::
    (4, ⟨1, false, [.ff], .bool, 1⟩) ::
    (9, ⟨1, false, [.str []], .str, 16⟩) ::
    (5, ⟨1, false, [.int .u8 (0)], .int .u8, 1⟩) ::
    (89, ⟨1, false, [.int .u64 (0)], .int .u64, 8⟩) ::
    (44, ⟨1, false, [.val (.slice none 0 0)], .slice 5, 24⟩) ::
    (27, ⟨1, false, [.val (.slice none 0 0)], .slice 9, 24⟩) ::
    (97, ⟨4, true, [.int .u8 (0), .int .u8 (0), .int .u8 (0), .int .u8 (0)], .array 4 5, 4⟩) ::
    (36, ⟨1, false, [.int .i64 (0)], .int .i64, 8⟩) ::
    (24, ⟨32, true, [.int .u8 (0), .int .u8 (0), .int .u8 (0), .int .u8 (0), .int .u8 (0), .int .u8 (0), .int .u8 (0), .int .u8 (0), .int .u8 (0), .int .u8 (0), .int .u8 (0), .int .u8 (0), .int .u8 (0), .int .u8 (0), .int .u8 (0), .int .u8 (0), .int .u8 (0), .int .u8 (0), .int .u8 (0), .int .u8 (0), .int .u8 (0), .int .u8 (0), .int .u8 (0), .int .u8 (0), .int .u8 (0), .int .u8 (0), .int .u8 (0), .int .u8 (0), .int .u8 (0), .int .u8 (0), .int .u8 (0), .int .u8 (0)], .array 32 5, 32⟩) ::
    []
  F :=
    (24, [0, 0, 0, 0, 0, 0, 0, 0, 0, 0, 0, 0, 0, 0, 0, 0, 0, 0, 0, 0, 0, 0, 0, 0, 0, 0, 0, 0, 0, 0, 0, 0]) ::
    []
  sym := true

theorem tbF0_ok : tbF0.Ok Tryd.prog where
  T :=
    TblOk.cons (by kernel_rfl) <|
    TblOk.cons (by kernel_rfl) <|
    TblOk.cons (by kernel_rfl) <|
    TblOk.cons (by kernel_rfl) <|
    TblOk.cons (by kernel_rfl) <|
    TblOk.cons (by kernel_rfl) <|
    TblOk.cons (by kernel_rfl) <|
    TblOk.cons (by kernel_rfl) <|
    TblOk.cons (by kernel_rfl) <|
    TblOk.cons (by kernel_rfl) <|
    TblOk.nil _
  F :=
    FlatsOk.cons (FlatOk.of (D := .array 32 5) 6 (by decide) (by kernel_rfl) (by kernel_rfl) rfl (by kernel_rfl)) <|
    FlatsOk.nil _

/-- A digit of a number, by 256, the greatest first. -/
def d8 (n : Int) (j : Nat) : Int := n / 256 ^ (7 - j) % 256
def eightPre (n : Int) : Prop := 0 ≤ n ∧ n ≤ 72057594037927935
def sum4Pre (gg sz n : Nat) (get : Nat → List CV) (s : List UInt8) : Prop := KsAt gg sz n get ∧ s.length ≤ 140737488350000
def beNPre (s : List UInt8) : Prop := s.length ≤ 4
def be8 (n : Int) : List UInt8 := [UInt8.ofNat (d8 n 0).toNat, UInt8.ofNat (d8 n 1).toNat, UInt8.ofNat (d8 n 2).toNat, UInt8.ofNat (d8 n 3).toNat, UInt8.ofNat (d8 n 4).toNat, UInt8.ofNat (d8 n 5).toNat, UInt8.ofNat (d8 n 6).toNat, UInt8.ofNat (d8 n 7).toNat]
def be4 (n : Int) : List UInt8 := [UInt8.ofNat (d8 n 4).toNat, UInt8.ofNat (d8 n 5).toNat, UInt8.ofNat (d8 n 6).toNat, UInt8.ofNat (d8 n 7).toNat]
/-- The sum's first four bytes. -/
def sum4 (l : List UInt8) : List UInt8 := (hashB (sumI l)).take 4
/-- The number that bytes spell. -/
def beN (l : List UInt8) : Int := l.foldl (fun n b => n * 256 + (b.toNat : Int)) 0
theorem d8_range (n : Int) (j : Nat) : 0 ≤ d8 n j ∧ d8 n j < 256 := by unfold d8; omega
theorem sum4_len (l : List UInt8) : (sum4 l).length = 4 := by unfold sum4; rw [List.length_take, hashB_len]; rfl
theorem wrap_u8 (x : Int) : IntKind.wrap .u8 x = x % 256 := by unfold IntKind.wrap; simp [IntKind.signed, IntKind.bits]
theorem beN_snoc (l : List UInt8) (b : UInt8) : beN (l ++ [b]) = beN l * 256 + (b.toNat : Int) := by
  unfold beN
  rw [List.foldl_append]
  rfl
theorem beN_take (l : List UInt8) (k : Nat) (h : k < l.length) : beN (l.take (k + 1)) = beN (l.take k) * 256 + ((l.getD k 0).toNat : Int) := by
  rw [List.take_add_one, List.getElem?_eq_getElem h, List.getD_eq_getElem?_getD, List.getElem?_eq_getElem h]
  exact beN_snoc _ _
theorem beN_range (l : List UInt8) : 0 ≤ beN l ∧ beN l < 256 ^ l.length := by
  have key : ∀ n : Nat, ∀ l : List UInt8, l.length = n → 0 ≤ beN l ∧ beN l < 256 ^ l.length := fun n => by
    induction n with
    | zero => intro l h; rw [List.eq_nil_of_length_eq_zero h]; decide
    | succ n ih =>
      intro l h
      have h1 := beN_take l n (by omega)
      rw [List.take_of_length_le (by omega)] at h1
      have h2 := ih (l.take n) (by rw [List.length_take]; omega)
      have h3 := (l.getD n 0).toNat_lt
      rw [show (l.take n).length = n by rw [List.length_take]; omega] at h2
      rw [h, h1, Int.pow_succ]
      omega
  exact key _ l rfl
theorem or_byte (n b : Int) (hn : 0 ≤ n) (hn2 : n < 4294967296) (hb : 0 ≤ b) (hb2 : b < 256) : bitsStd .or .i64 (IntKind.wrap .i64 (n * 2 ^ (min (8 : Int).toNat 64))) (IntKind.wrap .i64 b) = n * 256 + b := by
  have e1 : IntKind.wrap .i64 (n * 2 ^ (min (8 : Int).toNat 64)) = ((n.toNat * 256 : Nat) : Int) := by
    rw [show (2 : Int) ^ (min (8 : Int).toNat 64) = 256 from rfl, fitStd_wrap (by unfold fitStd; omega)]
    omega
  have e2 : IntKind.wrap .i64 b = ((b.toNat : Nat) : Int) := by rw [fitStd_wrap (by unfold fitStd; omega)]; omega
  rw [e1, e2]
  show IntKind.wrap .i64 (((BitVec.ofInt 64 ((n.toNat * 256 : Nat) : Int)) ||| (BitVec.ofInt 64 ((b.toNat : Nat) : Int))).toNat : Int) = _
  rw [BitVec.ofInt_natCast, BitVec.ofInt_natCast, BitVec.toNat_or, BitVec.toNat_ofNat, BitVec.toNat_ofNat, Nat.mod_eq_of_lt (by omega), Nat.mod_eq_of_lt (by omega)]
  have := Nat.shiftLeft_add_eq_or_of_lt (show b.toNat < 2 ^ 8 by omega) n.toNat
  rw [Nat.shiftLeft_eq] at this
  rw [show n.toNat * 256 ||| b.toNat = n.toNat * 256 + b.toNat from this.symm, fitStd_wrap (by unfold fitStd; omega)]
  omega
def sREight : List SV → Option (Prop × SV)
  | [.c (.int .i64 n)] => some (eightPre n, .c (.str (be8 n)))
  | _ => none


def sBeN : List SV → Option (Prop × SV)
  | [.c (.str s)] => some (beNPre s, .c (.int .i64 (beN s)))
  | _ => none

structure LBe (s : List UInt8) where
  i : Int
  n : Int
  h0 : 0 ≤ i
  h1 : i ≤ (s.length : Int)
  h2 : n = beN (s.take i.toNat)
set_option maxRecDepth 100000 in
set_option maxHeartbeats 2000000 in
theorem beNP : Pure Tryd.prog 82 sBeN := by
  have hC : CtsOk Tryd.prog [] := CtsOk.nil _
  refine Pure.of (E := tbF0) (C := []) [] 0 [] tbF0_ok hC (by kernel_rfl) Tryd.func82 rfl rfl rfl (by kernel_rfl) (by kernel_rfl) ?_ ?_
  · intro args pre r h
    unfold sBeN at h
    split at h
    · cases h; rfl
    · cases h
  · intro args pre r h hp
    unfold sBeN at h
    split at h
    rotate_left
    · cases h
    rename_i s
    cases h
    have hs : s.length ≤ 4 := hp
    generalize hg0 : beN = g0
    generalize hg1 : (List.length : List UInt8 → Nat) = g1
    generalize hL : lft Tryd.prog _ = L
    generalize hA : Arith.std = A
    cbv
    subst hA hg0 hg1 hL
    show Runs Tryd.prog 0 (.loop _) _ _
    refine loop_ruleR (N := env (lft Tryd.prog 0) 0 .std tbF0 [] []) rfl tbF0_ok hC (fun c st K _ h => h) (by kernel_rfl) [] (X := LBe s)
      (S := fun x => ⟨[.c (.str s), .any, .any, .c (.int .i64 x.n), .any, .any, .c (.int .i64 (s.length : Int)), .c (.int .i64 x.i)] ++ List.replicate 11 .any, []⟩) (μ := fun x => s.length - x.i.toNat) ⟨0, 0, by omega, by omega, rfl⟩ (by kernel_rfl) [] ?_ ?_
    · refine ⟨rfl, by decide, ?_, ?_⟩ <;> repeat' (first | exact trivial | exact rfl | apply And.intro)
    rintro ⟨i, n, hi0, hin, hn⟩
    generalize hg0 : beN = g0
    generalize hg1 : (List.length : List UInt8 → Nat) = g1
    generalize hL : lft Tryd.prog _ = L
    generalize hA : Arith.std = A
    cbv
    subst hA hg0 hg1 hL
    replace hi0 : 0 ≤ i := hi0
    replace hin : i ≤ @Nat.cast Int instNatCastInt s.length := hin
    refine Ife.mk (fun hlt => ?_) (fun hlt => ?_)
    · replace hlt : i < @Nat.cast Int instNatCastInt s.length := of_decide_eq_true (p := i < (s.length : Int)) hlt
      have hr := beN_range (s.take i.toNat)
      have h256 : (256 : Int) ^ (s.take i.toNat).length ≤ 16777216 := by
        rw [List.length_take, Nat.min_eq_left (by omega)]
        have : i.toNat = 0 ∨ i.toNat = 1 ∨ i.toNat = 2 ∨ i.toNat = 3 := by omega
        rcases this with h | h | h | h <;> rw [h] <;> decide
      rw [← hn] at hr
      have hb := (s.getD i.toNat 0).toNat_lt
      repeat refine Need.mk (by first | exact trivial | (simp only [Arith.std, fitStd]; omega) | (simp [Arith.std, fitStd]; omega)) fun _ => ?_
      refine ⟨⟨i + 1, ?nv, by omega, by omega, ?h2⟩, [], (by show s.length - (i + 1).toNat < s.length - i.toNat; omega), ?st⟩
      case st => refine ⟨rfl, by decide, ?_, ?_⟩ <;> repeat' (first | exact trivial | exact rfl | apply And.intro)
      case h2 =>
        rw [show (i + 1).toNat = i.toNat + 1 by omega, beN_take s i.toNat (by omega), ← hn]
        exact or_byte n ((s.getD i.toNat 0).toNat : Int) hr.1 (by omega) (by omega) (by omega)
    · replace hlt : ¬ i < @Nat.cast Int instNatCastInt s.length := of_decide_eq_false (p := i < (s.length : Int)) hlt
      show n = beN s
      rw [hn, List.take_of_length_le (by omega)]

def sSum4 : SpecF
  | [.c (.str s)], [.glob gg sz n get] => some (sum4Pre gg sz n get s, .c (.str (sum4 s)), [.dead])
  | _, _ => none

set_option maxRecDepth 100000 in
set_option maxHeartbeats 2000000 in
theorem sum4P : Fn Tryd.prog 80 [0] [] sSum4 := by
  have hC : CtsOk Tryd.prog [(17, appFn [0] [(9, 1)] sSum), (21, appPure sText)] := CtsOk.cons (Fn.ct sumP) <| CtsOk.cons (Pure.ct textP) <| CtsOk.nil _
  refine Fn.of (E := tbF0) [0] 0 [] tbF0_ok hC (by kernel_rfl) Tryd.func80 rfl rfl rfl (by kernel_rfl) (by kernel_rfl) 1 5 1 ?_ ?_
  · intro args h pre r h' hs
    unfold sSum4 at hs
    split at hs
    · cases hs; exact ⟨rfl, rfl, Nat.le_of_ble_eq_true rfl⟩
    · cases hs
  · intro args h pre r h' hs hp
    unfold sSum4 at hs
    split at hs
    rotate_left
    · cases hs
    rename_i s gg sz n get
    cases hs
    obtain ⟨hK, hs⟩ := hp
    refine ⟨_, hK.same, ?_⟩
    clear hK
    unfold sSum sText
    generalize hg0 : sumPre = g0
    generalize hg1 : KsAt = g1
    generalize hg2 : joinG = g2
    generalize hg3 : cutC = g3
    generalize hg4 : sumI = g4
    generalize hg5 : kOf = g5
    generalize hg6 : HashC = g6
    generalize hg7 : u8s = g7
    generalize hg8 : sum4 = g8
    generalize hg9 : (List.length : List UInt8 → Nat) = g9
    generalize hA : Arith.std = A
    cbv
    subst hA hg0 hg1 hg2 hg3 hg4 hg5 hg6 hg7 hg8 hg9
    have j1 := (strs_cut [s]).2
    have f1 : [s].flatten = s := by simp
    have p1 := sumPre_cut [s] (by rw [f1]; omega) (by simp)
    refine Need.mk p1 fun _ => Need.mk (hashC_sum _) fun _ => ?_
    refine Need.mk (by show (0 : Int) ≤ 0 ∧ (0 : Int) ≤ 4 ∧ (4 : Int) ≤ ((hashB _).length : Int); rw [hashB_len]; decide) fun _ => ?_
    exact ⟨[0], ⟨rfl, (show (List.take 4 (hashB (sumI (joinG 1 (cutC 1 [CV.str s] 0))))).drop 0 = sum4 s from by rw [show joinG 1 (cutC 1 [CV.str s] 0) = s from j1.trans f1]; rfl), by decide, rfl, by repeat' (first | exact trivial | exact rfl | apply And.intro)⟩⟩



end Go.Proofs.YtophhppklaofaaaDoor.Vx
end
