/- Records, by the walker: Put, Next, Open. -/
import Derived.Test.YtophhppklaofaaaDoorVFrame
namespace Go.Proofs.YtophhppklaofaaaDoor.Vx
open Go.RowKit Sha
set_option linter.unusedVariables false
set_option linter.unusedSimpArgs false
def putF (s : List UInt8) : List UInt8 := if 2147483647 < s.length then [] else be4 s.length ++ sum4 s ++ s
def putE (s : List UInt8) : Int := if 2147483647 < s.length then 4 else 0
def putPre (gg sz n : Nat) (get : Nat → List CV) (s : List UInt8) : Prop := KsAt gg sz n get ∧ s.length ≤ 140737488350000
theorem put_byte (n i : Int) (h0 : 0 ≤ n) (h1 : n ≤ 2147483647) (hi0 : 0 ≤ i) (hi1 : i < 4) : IntKind.wrap .u8 ((IntKind.wrap .u64 n).fdiv (2 ^ (min (8 * (3 - i)).toNat 64))) = d8 n (4 + i.toNat) := by
  have hw : IntKind.wrap .u64 n = n := by rw [IntKind.wrap_u64]; omega
  have hc : i = 0 ∨ i = 1 ∨ i = 2 ∨ i = 3 := by omega
  have he : (2 : Int) ^ (min (8 * (3 - i)).toNat 64) = 256 ^ (7 - (4 + i.toNat)) := by
    rcases hc with rfl | rfl | rfl | rfl <;> decide
  rw [hw, wrap_u8, he, Int.fdiv_eq_ediv_of_nonneg _ (Int.pow_nonneg (by decide))]
  rfl
def sPut : SpecF
  | [.c (.str s)], [.glob gg sz n get] => some (putPre gg sz n get s, .tup [(some (.str (putF s)), []), (some (.int .i64 (putE s)), [])], [.dead])
  | _, _ => none

set_option maxRecDepth 100000 in
set_option maxHeartbeats 2000000 in
theorem putP : Fn Tryd.prog 30 [0] [] sPut := by
  have hC : CtsOk Tryd.prog [(80, appFn [0] [] sSum4)] := CtsOk.cons (Fn.ct sum4P) <| CtsOk.nil _
  refine Fn.of (E := tbF0) [0] 0 [(9, [(0, true), (1, true), (2, true), (5, true), (3, false), (4, true), (6, true), (7, true), (8, true)])] tbF0_ok hC (by kernel_rfl) Tryd.func30 rfl rfl rfl (by kernel_rfl) (by kernel_rfl) 1 5 1 ?_ ?_
  · intro args h pre r h' hs
    unfold sPut at hs
    split at hs
    · cases hs; exact ⟨rfl, rfl, Nat.le_of_ble_eq_true rfl⟩
    · cases hs
  · intro args h pre r h' hs hp
    unfold sPut at hs
    split at hs
    rotate_left
    · cases hs
    rename_i s gg sz n get
    cases hs
    obtain ⟨hK, hs⟩ := hp
    refine ⟨_, hK.same, ?_⟩
    clear hK
    unfold sSum4
    generalize hg0 : sum4Pre = g0
    generalize hg1 : sum4 = g1
    generalize hg2 : putF = g2
    generalize hg3 : putE = g3
    generalize hg4 : KsAt = g4
    generalize hg5 : kOf = g5
    generalize hg6 : (List.length : List UInt8 → Nat) = g6
    generalize hL : lft Tryd.prog _ = L
    generalize hA : Arith.std = A
    cbv
    subst hA hg0 hg1 hg2 hg3 hg4 hg5 hg6 hL
    refine Ife.mk (fun h => ?_) (fun h => ?_)
    · have h : 2147483647 < s.length := by have := of_decide_eq_true (p := (2147483647 : Int) < (s.length : Int)) h; omega
      have e1 : putF s = [] := by unfold putF; rw [if_pos h]
      have e2 : putE s = 4 := by unfold putE; rw [if_pos h]
      exact ⟨[0], ⟨rfl, ⟨e1.symm, ⟨rfl, e2.symm⟩, trivial⟩, by decide, rfl, by repeat' (first | exact trivial | exact rfl | apply And.intro)⟩⟩
    have hl : s.length ≤ 2147483647 := by have := of_decide_eq_false (p := (2147483647 : Int) < (s.length : Int)) h; omega
    obtain ⟨m, hm⟩ : ∃ m : Int, m = (s.length : Int) := ⟨_, rfl⟩
    show Runs Tryd.prog 1 (.loop _) _ _
    refine loop_ruleR (N := env (lft Tryd.prog 1) 0 .std tbF0 [(80, appFn [0] [] sSum4)] [(9, [(0, true), (1, true), (2, true), (5, true), (3, false), (4, true), (6, true), (7, true), (8, true)])]) rfl tbF0_ok hC (fun c st K _ h => h) (by kernel_rfl) [0] (X := LFill 4 (fun j => d8 m (4 + j)) (fun _ => 0))
      (S := fun x => ⟨[.c (.str s), .any, .any, .any, .c (.ptr 1 0), .any, .any, .any, .any, .c (.int .i64 x.i)] ++ List.replicate 20 .any, [.glob 0 1 64 (fun i => [.int .u32 (kOf i)]), .cells 97 [.int .u8 (x.g 0), .int .u8 (x.g 1), .int .u8 (x.g 2), .int .u8 (x.g 3)]]⟩) (μ := fun x => 4 - x.i.toNat) ⟨0, (fun _ => 0), by omega, by omega, fun j hj => absurd hj (by omega), fun j _ _ => rfl⟩ (by kernel_rfl) [0, 1] ?_ ?_
    · refine ⟨rfl, by decide, ?_, ?_⟩ <;> repeat' (first | exact trivial | exact rfl | apply And.intro)
    rintro ⟨i, g, hi0, hin, hlo, hhi⟩
    unfold sSum4
    generalize hg0 : sum4Pre = g0
    generalize hg1 : sum4 = g1
    generalize hg2 : putF = g2
    generalize hg3 : putE = g3
    generalize hg4 : KsAt = g4
    generalize hg5 : kOf = g5
    generalize hg6 : (List.length : List UInt8 → Nat) = g6
    generalize hL : lft Tryd.prog _ = L
    generalize hA : Arith.std = A
    cbv
    subst hA hg0 hg1 hg2 hg3 hg4 hg5 hg6 hL
    replace hi0 : 0 ≤ i := hi0
    replace hin : i ≤ ((4 : Nat) : Int) := hin
    replace hlo : ∀ j : Nat, (j : Int) < i → g j = (fun j => d8 m (4 + j)) j := hlo
    replace hhi : ∀ j : Nat, i ≤ (j : Int) → j < 4 → g j = (fun _ => 0) j := hhi
    refine Ife.mk (fun hlt => ?_) (fun hlt => ?_)
    · replace hlt : i < (4 : Int) := of_decide_eq_true (p := i < (4 : Int)) hlt
      repeat refine Need.mk (by first | exact trivial | (simp only [Arith.std, fitStd]; omega) | (simp [Arith.std, fitStd]; omega)) fun _ => ?_
      refine ⟨⟨i + 1, fun j => Arith.std.upd (i.toNat) (j) ?fv (g j), by omega, by omega, ?h2, ?h3⟩, [0, 1], (by show 4 - (i + 1).toNat < 4 - i.toNat; omega), ?st⟩
      case st => refine ⟨rfl, by decide, ?_, ?_⟩ <;> repeat' (first | exact trivial | exact rfl | apply And.intro)
      case h3 =>
        intro j hj hj2
        show (if i.toNat = j then _ else g j) = _
        rw [if_neg (by omega)]
        exact hhi j (by omega) hj2
      case h2 =>
        intro j hj
        show (if i.toNat = j then _ else g j) = _
        by_cases hji : i.toNat = j
        · rw [if_pos hji]
          obtain rfl : j = i.toNat := by omega
          clear hji hj
          rw [hm]
          exact put_byte (s.length : Int) i (by omega) (by omega) hi0 hlt
        · rw [if_neg hji]
          exact hlo j (by omega)
    · replace hlt : ¬ i < (4 : Int) := of_decide_eq_false (p := i < (4 : Int)) hlt
      have hq : ∀ k : Nat, k < 4 → g k = (fun j => d8 m (4 + j)) k := fun k hk => hlo k (by omega)
      have e : [UInt8.ofNat (g 0).toNat, UInt8.ofNat (g 1).toNat, UInt8.ofNat (g 2).toNat, UInt8.ofNat (g 3).toNat] ++ sum4 s ++ s = putF s := by
        unfold putF
        rw [if_neg (by omega), hq 0 (by decide), hq 1 (by decide), hq 2 (by decide), hq 3 (by decide), hm]
        rfl
      have e2 : putE s = 0 := by unfold putE; rw [if_neg (by omega)]
      have l4 := sum4_len s
      refine Need.mk ⟨ksAt_self, hs⟩ fun _ => ?_
      refine Need.mk (by show ((4 : Nat) : Int) + ((sum4 s).length : Int) ≤ 9223372036854775807; omega) fun _ => ?_
      refine Need.mk (by show ((([UInt8.ofNat (g 0).toNat, UInt8.ofNat (g 1).toNat, UInt8.ofNat (g 2).toNat, UInt8.ofNat (g 3).toNat] ++ sum4 s : List UInt8).length : Nat) : Int) + (s.length : Int) ≤ 9223372036854775807; rw [List.length_append]; simp only [List.length_cons, List.length_nil]; omega) fun _ => ?_
      exact ⟨[0], ⟨rfl, ⟨e, ⟨rfl, e2.symm⟩, trivial⟩, by decide, rfl, by repeat' (first | exact trivial | exact rfl | apply And.intro)⟩⟩

def sRFrame : List SV → Option (Prop × SV)
  | [.c (.str s)] => some (rsumPre s, .tup [(some (.str (putF s)), []), (some (.int .i64 (putE s)), [])])
  | _ => none

set_option maxRecDepth 100000 in
set_option maxHeartbeats 2000000 in
theorem rframeP : Pure Tryd.prog 34 sRFrame := by
  have hC : CtsOk Tryd.prog [(43, appPure sREight), (81, appPure sRSum4)] := CtsOk.cons (Pure.ct eightP) <| CtsOk.cons (Pure.ct rsum4P) <| CtsOk.nil _
  refine Pure.of (E := tbF0) (C := [(43, appPure sREight), (81, appPure sRSum4)]) [] 0 [(3, [(0, true), (1, true), (4, true), (7, true), (2, false), (3, true), (5, false), (6, true), (8, true), (9, true), (10, true)])] tbF0_ok hC (by kernel_rfl) Tryd.func34 rfl rfl rfl (by kernel_rfl) (by kernel_rfl) ?_ ?_
  · intro args pre r h
    unfold sRFrame at h
    split at h
    · cases h; rfl
    · cases h
  · intro args pre r h hp
    unfold sRFrame at h
    split at h
    rotate_left
    · cases h
    rename_i s
    cases h
    have hs : s.length ≤ 140737488350000 := hp
    unfold sREight sRSum4
    generalize hg0 : rsumPre = g0
    generalize hg1 : eightPre = g1
    generalize hg2 : be8 = g2
    generalize hg3 : sum4 = g3
    generalize hg4 : putF = g4
    generalize hg5 : putE = g5
    generalize hg6 : (List.length : List UInt8 → Nat) = g6
    generalize hA : Arith.std = A
    cbv
    subst hA hg0 hg1 hg2 hg3 hg4 hg5 hg6
    refine Ife.mk (fun h => ?_) (fun h => ?_)
    · have h : 2147483647 < s.length := by have := of_decide_eq_true (p := (2147483647 : Int) < (s.length : Int)) h; omega
      have e1 : putF s = [] := by unfold putF; rw [if_pos h]
      have e2 : putE s = 4 := by unfold putE; rw [if_pos h]
      exact ⟨e1.symm, e2.symm, trivial⟩
    have hl : s.length ≤ 2147483647 := by have := of_decide_eq_false (p := (2147483647 : Int) < (s.length : Int)) h; omega
    have l4 := sum4_len s
    have e8 : ((be8 (s.length : Int)).take (8 : Int).toNat).drop (4 : Int).toNat = be4 (s.length : Int) := rfl
    have e1 : be4 (s.length : Int) ++ sum4 s ++ s = putF s := by unfold putF; rw [if_neg (by omega)]
    have e2 : putE s = 0 := by unfold putE; rw [if_neg (by omega)]
    have l5 : (be4 (s.length : Int)).length = 4 := rfl
    refine Need.mk ⟨by show (0 : Int) ≤ (s.length : Int); omega, by show (s.length : Int) ≤ 72057594037927935; omega⟩ fun _ => ?_
    refine Need.mk (by show (0 : Int) ≤ 4 ∧ (4 : Int) ≤ 8 ∧ (8 : Int) ≤ 8; decide) fun _ => Need.mk hp fun _ => ?_
    refine Need.mk (by show ((be4 (s.length : Int)).length : Int) + ((sum4 s).length : Int) ≤ 9223372036854775807; omega) fun _ => ?_
    refine Need.mk (by show ((be4 (s.length : Int) ++ sum4 s).length : Int) + (s.length : Int) ≤ 9223372036854775807; rw [List.length_append]; omega) fun _ => ?_
    exact ⟨e1, e2.symm, trivial⟩

def sCloneL : List SV → Option (Prop × SV)
  | [.c (.str l)] => some (l.length ≤ 281474976710656, .c (.str l))
  | _ => none

def sClone : List SV → Option (Prop × SV)
  | [.c (.str l)] => some (l.length ≤ 281474976710656, .c (.str l))
  | _ => none

theorem cloneLP : Pure Tryd.prog 112 sCloneL := by
  refine ⟨by kernel_rfl, fun args pre r h hp us hs W => ?_⟩
  unfold sCloneL at h
  split at h
  rotate_left
  · cases h
  rename_i l
  cases h
  obtain ⟨u0, _, rfl, a0, b0⟩ := hs
  obtain rfl : .string ⟨(l).toArray⟩ = u0 := Option.some.inj a0
  cases b0
  refine Calls.mono (Tryd.stringslite_Clone ⟨l.toArray⟩ W (by exact hp)) fun e W' he => ?_
  obtain ⟨rfl, hb⟩ := he
  exact ⟨_, rfl, rfl, hb⟩

set_option maxRecDepth 100000 in
set_option maxHeartbeats 2000000 in
theorem cloneP : Pure Tryd.prog 83 sClone := by
  have hC : CtsOk Tryd.prog [(112, appPure sCloneL)] := CtsOk.cons (Pure.ct cloneLP) <| CtsOk.nil _
  refine Pure.of (E := tbF0) (C := [(112, appPure sCloneL)]) [] 0 [] tbF0_ok hC (by kernel_rfl) Tryd.func83 rfl rfl rfl (by kernel_rfl) (by kernel_rfl) ?_ ?_
  · intro args pre r h
    unfold sClone at h
    split at h
    · cases h; rfl
    · cases h
  · intro args pre r h hp
    unfold sClone at h
    split at h
    rotate_left
    · cases h
    rename_i l
    cases h
    have hl : l.length ≤ 281474976710656 := hp
    unfold sCloneL
    generalize hg0 : (List.length : List UInt8 → Nat) = g0
    generalize hA : Arith.std = A
    cbv
    subst hA hg0
    exact Need.mk hl fun _ => trivial

end Go.Proofs.YtophhppklaofaaaDoor.Vx
