/- The sum of texts, by the walker: its length, its begin, its bytes. -/
import Derived.Test.YtophhppklaofaaaDoorVSha3
namespace Go.Proofs.YtophhppklaofaaaDoor.Vx
open Go.RowKit Sha
set_option linter.unusedVariables false
set_option linter.unusedSimpArgs false
def lenPre (n : Int) : Prop := 0 ≤ n ∧ n ≤ 9223372036854775807
def sLen8 : List SV → Option (Prop × SV)
  | [.c (.int .i64 n)] => some (lenPre n, .c (.str (len8 n.toNat)))
  | _ => none

set_option maxRecDepth 100000 in
set_option maxHeartbeats 2000000 in
theorem lengthP : Pure Tryd.prog 72 sLen8 := by
  have hC : CtsOk Tryd.prog [] := CtsOk.nil _
  refine Pure.of (E := tbY) (C := []) [] 0 [] tbY_ok hC (by kernel_rfl) Tryd.func72 rfl rfl rfl (by kernel_rfl) (by kernel_rfl) ?_ ?_
  · intro args pre r h
    unfold sLen8 at h
    split at h
    · cases h; rfl
    · cases h
  · intro args pre r h hp
    unfold sLen8 at h
    split at h
    rotate_left
    · cases h
    rename_i n
    cases h
    obtain ⟨hn0, hn1⟩ := hp
    generalize hg0 : len8 = g0
    generalize hg1 : (List.length : List UInt8 → Nat) = g1
    generalize hL : lft Tryd.prog _ = L
    generalize hA : Arith.std = A
    cbv
    subst hA hg0 hg1 hL
    show Runs Tryd.prog 0 (.loop _) _ _
    refine loop_ruleR (N := env (lft Tryd.prog 0) 0 .std tbY [] []) rfl tbY_ok hC (fun c st K _ h => h) (by kernel_rfl) [] (X := LFill 8 (fun j => lenB n.toNat (7 - j)) (fun _ => 0))
      (S := fun x => ⟨[.c (.int .i64 n), .any, .any, .c (.ptr 0 0), .any, .c (.int .i64 x.i)] ++ List.replicate 15 .any, [.cells 129 [.int .u8 (x.g 7), .int .u8 (x.g 6), .int .u8 (x.g 5), .int .u8 (x.g 4), .int .u8 (x.g 3), .int .u8 (x.g 2), .int .u8 (x.g 1), .int .u8 (x.g 0)]]⟩) (μ := fun x => 8 - x.i.toNat) ⟨0, (fun _ => 0), by omega, by omega, fun j hj => absurd hj (by omega), fun j _ _ => rfl⟩ (by kernel_rfl) [0] ?_ ?_
    · refine ⟨rfl, by decide, ?_, ?_⟩ <;> repeat' (first | exact trivial | exact rfl | apply And.intro)
    rintro ⟨i, g, hi0, hin, hlo, hhi⟩
    generalize hg0 : len8 = g0
    generalize hg1 : (List.length : List UInt8 → Nat) = g1
    generalize hL : lft Tryd.prog _ = L
    generalize hA : Arith.std = A
    cbv
    subst hA hg0 hg1 hL
    replace hi0 : 0 ≤ i := hi0
    replace hin : i ≤ ((8 : Nat) : Int) := hin
    replace hlo : ∀ j : Nat, (j : Int) < i → g j = (fun j => lenB n.toNat (7 - j)) j := hlo
    replace hhi : ∀ j : Nat, i ≤ (j : Int) → j < 8 → g j = (fun _ => 0) j := hhi
    refine Ife.mk (fun hlt => ?_) (fun hlt => ?_)
    · replace hlt : i < (8 : Int) := of_decide_eq_true (p := i < (8 : Int)) hlt
      repeat refine Need.mk (by first | exact trivial | (simp only [Arith.std, fitStd]; omega) | (simp [Arith.std, fitStd]; omega)) fun _ => ?_
      refine ⟨⟨i + 1, fun j => Arith.std.upd ((7 - i).toNat) (7 - j) ?fv (g j), by omega, by omega, ?h2, ?h3⟩, [0], (by show 8 - (i + 1).toNat < 8 - i.toNat; omega), ?st⟩
      case st => refine ⟨rfl, by decide, ?_, ?_⟩ <;> repeat' (first | exact trivial | exact rfl | apply And.intro)
      case h3 =>
        intro j hj hj2
        show (if (7 - i).toNat = 7 - j then _ else g j) = _
        rw [if_neg (by omega)]
        exact hhi j (by omega) hj2
      case h2 =>
        intro j hj
        show (if (7 - i).toNat = 7 - j then _ else g j) = _
        by_cases hji : (7 - i).toNat = 7 - j
        · rw [if_pos hji]
          obtain rfl : j = i.toNat := by omega
          clear hji hj
          show _ = lenB n.toNat (7 - i.toNat)
          unfold lenB
          rw [show (8 * (7 - (7 - i.toNat))) = (8 * i).toNat by omega]
          show IntKind.wrap .u8 ((IntKind.wrap .u64 (IntKind.wrap .u64 n * 2 ^ (min (3 : Int).toNat 64))).fdiv (2 ^ (min (8 * i).toNat 64))) = IntKind.wrap .u8 ((IntKind.wrap .u64 (IntKind.wrap .u64 ((n.toNat : Nat) : Int) * 8)).fdiv (2 ^ (8 * i).toNat))
          rw [show ((n.toNat : Nat) : Int) = n by omega, show min (8 * i).toNat 64 = (8 * i).toNat by omega]
          rfl
        · rw [if_neg hji]
          exact hlo j (by omega)
    · replace hlt : ¬ i < (8 : Int) := of_decide_eq_false (p := i < (8 : Int)) hlt
      have hq : ∀ k : Nat, k < 8 → g k = (fun j => lenB n.toNat (7 - j)) k := fun k hk => hlo k (by omega)
      have e : [Arith.std.byte (g 7), Arith.std.byte (g 6), Arith.std.byte (g 5), Arith.std.byte (g 4), Arith.std.byte (g 3), Arith.std.byte (g 2), Arith.std.byte (g 1), Arith.std.byte (g 0)] = len8 n.toNat := by
        rw [hq 0 (by decide), hq 1 (by decide), hq 2 (by decide), hq 3 (by decide), hq 4 (by decide), hq 5 (by decide), hq 6 (by decide), hq 7 (by decide)]
        rfl
      exact e

def sBegin : List SV → Option (Prop × SV)
  | [] => some (True, .agg [.int .u32 iv.a, .int .u32 iv.b, .int .u32 iv.c, .int .u32 iv.d, .int .u32 iv.e, .int .u32 iv.f, .int .u32 iv.g, .int .u32 iv.h])
  | _ => none

set_option maxRecDepth 100000 in
set_option maxHeartbeats 400000 in
theorem beginP : Pure Tryd.prog 73 sBegin := by
  refine Pure.of (E := tbC) (C := []) [] 0 [] tbC_ok (CtsOk.nil _) (by kernel_rfl) Tryd.func73 rfl rfl rfl (by kernel_rfl) (by kernel_rfl) ?_ ?_
  · intro args pre r h
    unfold sBegin at h
    split at h
    · cases h; first | rfl | exact ⟨rfl, rfl⟩
    · cases h
  · intro args pre r h hp
    unfold sBegin at h
    split at h
    rotate_left
    · cases h
    cases h
    generalize hA : Arith.std = A
    cbv

end Go.Proofs.YtophhppklaofaaaDoor.Vx
