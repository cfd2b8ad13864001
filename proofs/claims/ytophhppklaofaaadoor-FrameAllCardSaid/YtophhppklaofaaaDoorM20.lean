/- Records, by the walker: Put, Next, Open. -/
import Derived.Test.YtophhppklaofaaaDoorM19
section
namespace Go.Proofs.YtophhppklaofaaaDoor.Vx
open Go.RowKit Sha
set_option linter.unusedVariables false
set_option linter.unusedSimpArgs false
def putF (s : List UInt8) : List UInt8 := if 2147483647 < s.length then [] else be4 s.length ++ sum4 s ++ s
def putE (s : List UInt8) : Int := if 2147483647 < s.length then 4 else 0
def putPre (gg sz n : Nat) (get : Nat → List CV) (s : List UInt8) : Prop := KsAt gg sz n get ∧ s.length ≤ 140737488350000
theorem put_byte (n i : Int) (h0 : 0 ≤ n) (h1 : n ≤ 2147483647) (hi0 : 0 ≤ i) (hi1 : i < 4) : IntKind.wrap .u8 ((IntKind.wrap .u64 n).fdiv (2 ^ (min (8 * (3 - i)).toNat 64))) = d8 n (4 + i.toNat) := by
  have hw : IntKind.wrap .u64 n = n := by rw [IntKind.wrap_u64]; omega
  have hc : i = 0 ∨ i = 1 ∨ i = 2 ∨ i = 3 := by omega
  have he : (2 : Int) ^ (min (8 * (3 - i)).toNat 64) = 256 ^ (7 - (4 + i.toNat)) := by
    rcases hc with rfl | rfl | rfl | rfl <;> decide
  rw [hw, wrap_u8, he, Int.fdiv_eq_ediv_of_nonneg _ (Int.pow_nonneg (by decide))]
  rfl
def sPut : SpecF
  | [.c (.str s)], [.glob gg sz n get] => some (putPre gg sz n get s, .tup [(some (.str (putF s)), []), (some (.int .i64 (putE s)), [])], [.dead])
  | _, _ => none

set_option maxRecDepth 100000 in
set_option maxHeartbeats 2000000 in
theorem putP : Fn Tryd.prog 30 [0] [] sPut := by
  have hC : CtsOk Tryd.prog [(80, appFn [0] [] sSum4)] := CtsOk.cons (Fn.ct sum4P) <| CtsOk.nil _
  refine Fn.of (E := tbF0) [0] 0 [(9, [(0, true), (1, true), (2, true), (5, true), (3, false), (4, true), (6, true), (7, true), (8, true)])] tbF0_ok hC (by kernel_rfl) Tryd.func30 rfl rfl rfl (by kernel_rfl) (by kernel_rfl) 1 5 1 ?_ ?_
  · intro args h pre r h' hs
    unfold sPut at hs
    split at hs
    · cases hs; exact ⟨rfl, rfl, Nat.le_of_ble_eq_true rfl⟩
    · cases hs
  · intro args h pre r h' hs hp
    unfold sPut at hs
    split at hs
    rotate_left
    · cases hs
    rename_i s gg sz n get
    cases hs
    obtain ⟨hK, hs⟩ := hp
    refine ⟨_, hK.same, ?_⟩
    clear hK
    unfold sSum4
    generalize hg0 : sum4Pre = g0
    generalize hg1 : sum4 = g1
    generalize hg2 : putF = g2
    generalize hg3 : putE = g3
    generalize hg4 : KsAt = g4
    generalize hg5 : kOf = g5
    generalize hg6 : (List.length : List UInt8 → Nat) = g6
    generalize hL : lft Tryd.prog _ = L
    generalize hA : Arith.std = A
    cbv
    subst hA hg0 hg1 hg2 hg3 hg4 hg5 hg6 hL
    refine Ife.mk (fun h => ?_) (fun h => ?_)
    · have h : 2147483647 < s.length := by have := of_decide_eq_true (p := (2147483647 : Int) < (s.length : Int)) h; omega
      have e1 : putF s = [] := by unfold putF; rw [if_pos h]
      have e2 : putE s = 4 := by unfold putE; rw [if_pos h]
      exact ⟨[0], ⟨rfl, ⟨e1.symm, ⟨rfl, e2.symm⟩, trivial⟩, by decide, rfl, by repeat' (first | exact trivial | exact rfl | apply And.intro)⟩⟩
    have hl : s.length ≤ 2147483647 := by have := of_decide_eq_false (p := (2147483647 : Int) < (s.length : Int)) h; omega
    obtain ⟨m, hm⟩ : ∃ m : Int, m = (s.length : Int) := ⟨_, rfl⟩
    show Runs Tryd.prog 1 (.loop _) _ _
    refine loop_ruleR (N := env (lft Tryd.prog 1) 0 .std tbF0 [(80, appFn [0] [] sSum4)] [(9, [(0, true), (1, true), (2, true), (5, true), (3, false), (4, true), (6, true), (7, true), (8, true)])]) rfl tbF0_ok hC (fun c st K _ h => h) (by kernel_rfl) [0] (X := LFill 4 (fun j => d8 m (4 + j)) (fun _ => 0))
      (S := fun x => ⟨[.c (.str s), .any, .any, .any, .c (.ptr 1 0), .any, .any, .any, .any, .c (.int .i64 x.i)] ++ List.replicate 20 .any, [.glob 0 1 64 (fun i => [.int .u32 (kOf i)]), .cells 97 [.int .u8 (x.g 0), .int .u8 (x.g 1), .int .u8 (x.g 2), .int .u8 (x.g 3)]]⟩) (μ := fun x => 4 - x.i.toNat) ⟨0, (fun _ => 0), by omega, by omega, fun j hj => absurd hj (by omega), fun j _ _ => rfl⟩ (by kernel_rfl) [0, 1] ?_ ?_
    · refine ⟨rfl, by decide, ?_, ?_⟩ <;> repeat' (first | exact trivial | exact rfl | apply And.intro)
    rintro ⟨i, g, hi0, hin, hlo, hhi⟩
    unfold sSum4
    generalize hg0 : sum4Pre = g0
    generalize hg1 : sum4 = g1
    generalize hg2 : putF = g2
    generalize hg3 : putE = g3
    generalize hg4 : KsAt = g4
    generalize hg5 : kOf = g5
    generalize hg6 : (List.length : List UInt8 → Nat) = g6
    generalize hL : lft Tryd.prog _ = L
    generalize hA : Arith.std = A
    cbv
    subst hA hg0 hg1 hg2 hg3 hg4 hg5 hg6 hL
    replace hi0 : 0 ≤ i := hi0
    replace hin : i ≤ ((4 : Nat) : Int) := hin
    replace hlo : ∀ j : Nat, (j : Int) < i → g j = (fun j => d8 m (4 + j)) j := hlo
    replace hhi : ∀ j : Nat, i ≤ (j : Int) → j < 4 → g j = (fun _ => 0) j := hhi
    refine Ife.mk (fun hlt => ?_) (fun hlt => ?_)
    · replace hlt : i < (4 : Int) := of_decide_eq_true (p := i < (4 : Int)) hlt
      repeat refine Need.mk (by first | exact trivial | (simp only [Arith.std, fitStd]; omega) | (simp [Arith.std, fitStd]; omega)) fun _ => ?_
      refine ⟨⟨i + 1, fun j => Arith.std.upd (i.toNat) (j) ?fv (g j), by omega, by omega, ?h2, ?h3⟩, [0, 1], (by show 4 - (i + 1).toNat < 4 - i.toNat; omega), ?st⟩
      case st => refine ⟨rfl, by decide, ?_, ?_⟩ <;> repeat' (first | exact trivial | exact rfl | apply And.intro)
      case h3 =>
        intro j hj hj2
        show (if i.toNat = j then _ else g j) = _
        rw [if_neg (by omega)]
        exact hhi j (by omega) hj2
      case h2 =>
        intro j hj
        show (if i.toNat = j then _ else g j) = _
        by_cases hji : i.toNat = j
        · rw [if_pos hji]
          obtain rfl : j = i.toNat := by omega
          clear hji hj
          rw [hm]
          exact put_byte (s.length : Int) i (by omega) (by omega) hi0 hlt
        · rw [if_neg hji]
          exact hlo j (by omega)
    · replace hlt : ¬ i < (4 : Int) := of_decide_eq_false (p := i < (4 : Int)) hlt
      have hq : ∀ k : Nat, k < 4 → g k = (fun j => d8 m (4 + j)) k := fun k hk => hlo k (by omega)
      have e : [UInt8.ofNat (g 0).toNat, UInt8.ofNat (g 1).toNat, UInt8.ofNat (g 2).toNat, UInt8.ofNat (g 3).toNat] ++ sum4 s ++ s = putF s := by
        unfold putF
        rw [if_neg (by omega), hq 0 (by decide), hq 1 (by decide), hq 2 (by decide), hq 3 (by decide), hm]
        rfl
      have e2 : putE s = 0 := by unfold putE; rw [if_neg (by omega)]
      have l4 := sum4_len s
      refine Need.mk ⟨ksAt_self, hs⟩ fun _ => ?_
      refine Need.mk (by show ((4 : Nat) : Int) + ((sum4 s).length : Int) ≤ 9223372036854775807; omega) fun _ => ?_
      refine Need.mk (by show ((([UInt8.ofNat (g 0).toNat, UInt8.ofNat (g 1).toNat, UInt8.ofNat (g 2).toNat, UInt8.ofNat (g 3).toNat] ++ sum4 s : List UInt8).length : Nat) : Int) + (s.length : Int) ≤ 9223372036854775807; rw [List.length_append]; simp only [List.length_cons, List.length_nil]; omega) fun _ => ?_
      exact ⟨[0], ⟨rfl, ⟨e, ⟨rfl, e2.symm⟩, trivial⟩, by decide, rfl, by repeat' (first | exact trivial | exact rfl | apply And.intro)⟩⟩

def sRFrame : List SV → Option (Prop × SV)
  | [.c (.str s)] => some (rsumPre s, .tup [(some (.str (putF s)), []), (some (.int .i64 (putE s)), [])])
  | _ => none


def sCloneL : List SV → Option (Prop × SV)
  | [.c (.str l)] => some (l.length ≤ 281474976710656, .c (.str l))
  | _ => none

def sClone : List SV → Option (Prop × SV)
  | [.c (.str l)] => some (l.length ≤ 281474976710656, .c (.str l))
  | _ => none

theorem cloneLP : Pure Tryd.prog 112 sCloneL := by
  refine ⟨by kernel_rfl, fun args pre r h hp us hs W => ?_⟩
  unfold sCloneL at h
  split at h
  rotate_left
  · cases h
  rename_i l
  cases h
  obtain ⟨u0, _, rfl, a0, b0⟩ := hs
  obtain rfl : .string ⟨(l).toArray⟩ = u0 := Option.some.inj a0
  cases b0
  refine Calls.mono (Tryd.stringslite_Clone ⟨l.toArray⟩ W (by exact hp)) fun e W' he => ?_
  obtain ⟨rfl, hb⟩ := he
  exact ⟨_, rfl, rfl, hb⟩

set_option maxRecDepth 100000 in
set_option maxHeartbeats 2000000 in
theorem cloneP : Pure Tryd.prog 83 sClone := by
  have hC : CtsOk Tryd.prog [(112, appPure sCloneL)] := CtsOk.cons (Pure.ct cloneLP) <| CtsOk.nil _
  refine Pure.of (E := tbF0) (C := [(112, appPure sCloneL)]) [] 0 [] tbF0_ok hC (by kernel_rfl) Tryd.func83 rfl rfl rfl (by kernel_rfl) (by kernel_rfl) ?_ ?_
  · intro args pre r h
    unfold sClone at h
    split at h
    · cases h; rfl
    · cases h
  · intro args pre r h hp
    unfold sClone at h
    split at h
    rotate_left
    · cases h
    rename_i l
    cases h
    have hl : l.length ≤ 281474976710656 := hp
    unfold sCloneL
    generalize hg0 : (List.length : List UInt8 → Nat) = g0
    generalize hA : Arith.std = A
    cbv
    subst hA hg0
    exact Need.mk hl fun _ => trivial

end Go.Proofs.YtophhppklaofaaaDoor.Vx
end

section
/- Records read, by the walker: Next, Open. -/
namespace Go.Proofs.YtophhppklaofaaaDoor.Vx
open Go.RowKit Sha
set_option linter.unusedVariables false
set_option linter.unusedSimpArgs false
/-- The number in a record's head. -/
def nxL (s : List UInt8) (a : Int) : Int := beN ((s.drop a.toNat).take 4)
def nxBody (s : List UInt8) (a : Int) : List UInt8 := ((s.drop a.toNat).drop 8).take (nxL s a).toNat
def nextF (s : List UInt8) (a : Int) : List UInt8 × Int × Int :=
  if a < 0 ∨ (s.length : Int) < a then ([], 0, 1) else
  if (s.length : Int) - a < 8 then ([], 0, 2) else
  if 2147483647 < nxL s a then ([], 0, 4) else
  if (s.length : Int) - a - 8 < nxL s a then ([], 0, 2) else
  if sum4 (nxBody s a) = ((s.drop a.toNat).take 8).drop 4 then (nxBody s a, a + 8 + nxL s a, 0) else ([], 0, 5)
theorem nxL_range (s : List UInt8) (a : Int) : 0 ≤ nxL s a ∧ nxL s a < 4294967296 := by
  have h := beN_range ((s.drop a.toNat).take 4)
  have h2 : (256 : Int) ^ ((s.drop a.toNat).take 4).length ≤ 4294967296 := by
    have hl : ((s.drop a.toNat).take 4).length ≤ 4 := by rw [List.length_take]; omega
    generalize ((s.drop a.toNat).take 4).length = k at hl
    have : k = 0 ∨ k = 1 ∨ k = 2 ∨ k = 3 ∨ k = 4 := by omega
    rcases this with h | h | h | h | h <;> rw [h] <;> decide
  unfold nxL
  omega
theorem next_range {s : List UInt8} {a : Int} (h : a < 0 ∨ (s.length : Int) < a) : nextF s a = ([], 0, 1) := by unfold nextF; rw [if_pos h]
theorem next_short {s : List UInt8} {a : Int} (h : ¬ (a < 0 ∨ (s.length : Int) < a)) (h1 : (s.length : Int) - a < 8) : nextF s a = ([], 0, 2) := by unfold nextF; rw [if_neg h, if_pos h1]
theorem next_long {s : List UInt8} {a : Int} (h : ¬ (a < 0 ∨ (s.length : Int) < a)) (h1 : ¬ (s.length : Int) - a < 8) (h2 : 2147483647 < nxL s a) : nextF s a = ([], 0, 4) := by unfold nextF; rw [if_neg h, if_neg h1, if_pos h2]
theorem next_cut {s : List UInt8} {a : Int} (h : ¬ (a < 0 ∨ (s.length : Int) < a)) (h1 : ¬ (s.length : Int) - a < 8) (h2 : ¬ 2147483647 < nxL s a) (h3 : (s.length : Int) - a - 8 < nxL s a) : nextF s a = ([], 0, 2) := by unfold nextF; rw [if_neg h, if_neg h1, if_neg h2, if_pos h3]
theorem next_sum {s : List UInt8} {a : Int} (h : ¬ (a < 0 ∨ (s.length : Int) < a)) (h1 : ¬ (s.length : Int) - a < 8) (h2 : ¬ 2147483647 < nxL s a) (h3 : ¬ (s.length : Int) - a - 8 < nxL s a) (h4 : ¬ sum4 (nxBody s a) = ((s.drop a.toNat).take 8).drop 4) : nextF s a = ([], 0, 5) := by unfold nextF; rw [if_neg h, if_neg h1, if_neg h2, if_neg h3, if_neg h4]
theorem next_ok {s : List UInt8} {a : Int} (h : ¬ (a < 0 ∨ (s.length : Int) < a)) (h1 : ¬ (s.length : Int) - a < 8) (h2 : ¬ 2147483647 < nxL s a) (h3 : ¬ (s.length : Int) - a - 8 < nxL s a) (h4 : sum4 (nxBody s a) = ((s.drop a.toNat).take 8).drop 4) : nextF s a = (nxBody s a, a + 8 + nxL s a, 0) := by unfold nextF; rw [if_neg h, if_neg h1, if_neg h2, if_neg h3, if_pos h4]
def nextPre (gg sz n : Nat) (get : Nat → List CV) (s : List UInt8) : Prop := KsAt gg sz n get ∧ s.length ≤ 140737488350000
def sNext : SpecF
  | [.c (.str s), .c (.int .i64 a)], [.glob gg sz n get] => some (nextPre gg sz n get s, .tup [(some (.str (nextF s a).1), []), (some (.int .i64 (nextF s a).2.1), []), (some (.int .i64 (nextF s a).2.2), [])], [.dead])
  | _, _ => none

set_option maxRecDepth 100000 in
set_option maxHeartbeats 2000000 in
theorem nextP : Fn Tryd.prog 35 [0] [] sNext := by
  have hC : CtsOk Tryd.prog [(82, appPure sBeN), (80, appFn [0] [] sSum4), (83, appPure sClone)] := CtsOk.cons (Pure.ct beNP) <| CtsOk.cons (Fn.ct sum4P) <| CtsOk.cons (Pure.ct cloneP) <| CtsOk.nil _
  refine Fn.of (E := tbF0) [0] 0 [(12, [(0, true), (2, true), (3, true), (1, false), (4, true)])] tbF0_ok hC (by kernel_rfl) Tryd.func35 rfl rfl rfl (by kernel_rfl) (by kernel_rfl) 1 5 1 ?_ ?_
  · intro args h pre r h' hs
    unfold sNext at hs
    split at hs
    · cases hs; exact ⟨rfl, rfl, Nat.le_of_ble_eq_true rfl⟩
    · cases hs
  · intro args h pre r h' hs hp
    unfold sNext at hs
    split at hs
    rotate_left
    · cases hs
    rename_i s a gg sz n get
    cases hs
    obtain ⟨hK, hs⟩ := hp
    refine ⟨_, hK.same, ?_⟩
    clear hK
    unfold sSum4 sBeN sClone
    generalize hg0 : sum4Pre = g0
    generalize hg1 : beNPre = g1
    generalize hg2 : sum4 = g2
    generalize hg3 : beN = g3
    generalize hg4 : nextF = g4
    generalize hg5 : KsAt = g5
    generalize hg6 : kOf = g6
    generalize hg7 : (List.length : List UInt8 → Nat) = g7
    generalize hA : Arith.std = A
    cbv
    subst hA hg0 hg1 hg2 hg3 hg4 hg5 hg6 hg7
    refine Ife.mk (fun h => ?_) (fun h => ?_)
    · have h : a < 0 := of_decide_eq_true (p := a < 0) h
      rw [(next_range (s := s) (Or.inl h))]
      exact ⟨[0], ⟨rfl, ⟨rfl, ⟨rfl, rfl⟩, ⟨rfl, rfl⟩, trivial⟩, by decide, rfl, by repeat' (first | exact trivial | exact rfl | apply And.intro)⟩⟩
    have h0 : ¬ a < 0 := of_decide_eq_false (p := a < 0) h
    refine Ife.mk (fun h => ?_) (fun h => ?_)
    · have h : (s.length : Int) < a := of_decide_eq_true (p := (s.length : Int) < a) h
      rw [(next_range (s := s) (Or.inr h))]
      exact ⟨[0], ⟨rfl, ⟨rfl, ⟨rfl, rfl⟩, ⟨rfl, rfl⟩, trivial⟩, by decide, rfl, by repeat' (first | exact trivial | exact rfl | apply And.intro)⟩⟩
    have h1 : ¬ (s.length : Int) < a := of_decide_eq_false (p := (s.length : Int) < a) h
    have hr : ¬ (a < 0 ∨ (s.length : Int) < a) := by omega
    have eT : Arith.std.sub_ s a (Arith.std.len s) = s.drop a.toNat := by
      show (s.take (s.length : Int).toNat).drop a.toNat = _
      rw [List.take_of_length_le (by omega)]
    have lT : ((Arith.std.sub_ s a (Arith.std.len s)).length : Int) = (s.length : Int) - a := by rw [eT, List.length_drop]; omega
    have eN : beN (Arith.std.sub_ (Arith.std.sub_ s a (Arith.std.len s)) 0 4) = nxL s a := by
      unfold nxL
      rw [eT]
      rfl
    refine Need.mk (by show 0 ≤ a ∧ a ≤ (s.length : Int) ∧ (s.length : Int) ≤ (s.length : Int); omega) fun _ => ?_
    refine Ife.mk (fun h => ?_) (fun h => ?_)
    · have h : ((Arith.std.sub_ s a (Arith.std.len s)).length : Int) < 8 := of_decide_eq_true (p := ((Arith.std.sub_ s a (Arith.std.len s)).length : Int) < 8) h
      rw [(next_short (s := s) hr (by omega))]
      exact ⟨[0], ⟨rfl, ⟨rfl, ⟨rfl, rfl⟩, ⟨rfl, rfl⟩, trivial⟩, by decide, rfl, by repeat' (first | exact trivial | exact rfl | apply And.intro)⟩⟩
    have h2 : ¬ (s.length : Int) - a < 8 := by have := of_decide_eq_false (p := ((Arith.std.sub_ s a (Arith.std.len s)).length : Int) < 8) h; omega
    have hnr := nxL_range s a
    have hl4 : ((Arith.std.sub_ s a (Arith.std.len s)).take (4 : Int).toNat).length ≤ 4 := by rw [List.length_take]; have : (4 : Int).toNat = 4 := rfl; omega
    refine Need.mk (by show (0 : Int) ≤ 0 ∧ (0 : Int) ≤ 4 ∧ (4 : Int) ≤ ((Arith.std.sub_ s a (Arith.std.len s)).length : Int); omega) fun _ => Need.mk (by show (((Arith.std.sub_ s a (Arith.std.len s)).take (4 : Int).toNat).drop (0 : Int).toNat).length ≤ 4; rw [List.length_drop]; omega) fun _ => ?_
    refine Ife.mk (fun h => ?_) (fun h => ?_)
    · have h : (2147483647 : Int) < beN (Arith.std.sub_ (Arith.std.sub_ s a (Arith.std.len s)) 0 4) := of_decide_eq_true (p := (2147483647 : Int) < beN (Arith.std.sub_ (Arith.std.sub_ s a (Arith.std.len s)) 0 4)) h
      rw [eN] at h
      rw [(next_long (s := s) hr h2 h)]
      exact ⟨[0], ⟨rfl, ⟨rfl, ⟨rfl, rfl⟩, ⟨rfl, rfl⟩, trivial⟩, by decide, rfl, by repeat' (first | exact trivial | exact rfl | apply And.intro)⟩⟩
    have h3 : ¬ (2147483647 : Int) < beN (Arith.std.sub_ (Arith.std.sub_ s a (Arith.std.len s)) 0 4) := of_decide_eq_false (p := (2147483647 : Int) < beN (Arith.std.sub_ (Arith.std.sub_ s a (Arith.std.len s)) 0 4)) h
    rw [eN] at h3
    refine Need.mk (by show fitStd .i64 (((Arith.std.sub_ s a (Arith.std.len s)).length : Int) - 8); unfold fitStd; omega) fun _ => ?_
    refine Ife.mk (fun h => ?_) (fun h => ?_)
    · have h : ((Arith.std.sub_ s a (Arith.std.len s)).length : Int) - 8 < beN (Arith.std.sub_ (Arith.std.sub_ s a (Arith.std.len s)) 0 4) := of_decide_eq_true (p := ((Arith.std.sub_ s a (Arith.std.len s)).length : Int) - 8 < beN (Arith.std.sub_ (Arith.std.sub_ s a (Arith.std.len s)) 0 4)) h
      rw [eN] at h
      rw [(next_cut (s := s) hr h2 h3 (by omega))]
      exact ⟨[0], ⟨rfl, ⟨rfl, ⟨rfl, rfl⟩, ⟨rfl, rfl⟩, trivial⟩, by decide, rfl, by repeat' (first | exact trivial | exact rfl | apply And.intro)⟩⟩
    have h4 : ¬ ((Arith.std.sub_ s a (Arith.std.len s)).length : Int) - 8 < beN (Arith.std.sub_ (Arith.std.sub_ s a (Arith.std.len s)) 0 4) := of_decide_eq_false (p := ((Arith.std.sub_ s a (Arith.std.len s)).length : Int) - 8 < beN (Arith.std.sub_ (Arith.std.sub_ s a (Arith.std.len s)) 0 4)) h
    rw [eN] at h4
    have h4 : ¬ (s.length : Int) - a - 8 < nxL s a := by omega
    have eB : Arith.std.sub_ (Arith.std.sub_ s a (Arith.std.len s)) 8 (8 + beN (Arith.std.sub_ (Arith.std.sub_ s a (Arith.std.len s)) 0 4)) = nxBody s a := by
      rw [eN]
      show ((Arith.std.sub_ s a (Arith.std.len s)).take (8 + nxL s a).toNat).drop (8 : Int).toNat = _
      rw [eT]
      unfold nxBody
      rw [show (8 + nxL s a).toNat = 8 + (nxL s a).toNat by omega, show (8 : Int).toNat = 8 from rfl, List.drop_take, Nat.add_sub_cancel_left]
    have eC : Arith.std.sub_ (Arith.std.sub_ s a (Arith.std.len s)) 4 8 = ((s.drop a.toNat).take 8).drop 4 := by
      show ((Arith.std.sub_ s a (Arith.std.len s)).take (8 : Int).toNat).drop (4 : Int).toNat = _
      rw [eT]
      rfl
    have lB : (nxBody s a).length ≤ s.length := by unfold nxBody; rw [List.length_take, List.length_drop, List.length_drop]; omega
    refine Need.mk (by show fitStd .i64 (8 + beN (Arith.std.sub_ (Arith.std.sub_ s a (Arith.std.len s)) 0 4)); rw [eN]; unfold fitStd; omega) fun _ => ?_
    refine Need.mk (by show (0 : Int) ≤ 8 ∧ (8 : Int) ≤ 8 + beN (Arith.std.sub_ (Arith.std.sub_ s a (Arith.std.len s)) 0 4) ∧ 8 + beN (Arith.std.sub_ (Arith.std.sub_ s a (Arith.std.len s)) 0 4) ≤ ((Arith.std.sub_ s a (Arith.std.len s)).length : Int); rw [eN]; omega) fun _ => ?_
    refine Need.mk (by show (0 : Int) ≤ 4 ∧ (4 : Int) ≤ 8 ∧ (8 : Int) ≤ ((Arith.std.sub_ s a (Arith.std.len s)).length : Int); omega) fun _ => ?_
    refine Need.mk ⟨ksAt_self, (by show (Arith.std.sub_ (Arith.std.sub_ s a (Arith.std.len s)) 8 (8 + beN (Arith.std.sub_ (Arith.std.sub_ s a (Arith.std.len s)) 0 4))).length ≤ 140737488350000; rw [eB]; omega)⟩ fun _ => ?_
    refine Ife.mk (fun h => ?_) (fun h => ?_)
    · have h : ¬ sum4 (Arith.std.sub_ (Arith.std.sub_ s a (Arith.std.len s)) 8 (8 + beN (Arith.std.sub_ (Arith.std.sub_ s a (Arith.std.len s)) 0 4))) = Arith.std.sub_ (Arith.std.sub_ s a (Arith.std.len s)) 4 8 := by
        have h6 : (!decide (sum4 (Arith.std.sub_ (Arith.std.sub_ s a (Arith.std.len s)) 8 (8 + beN (Arith.std.sub_ (Arith.std.sub_ s a (Arith.std.len s)) 0 4))) = Arith.std.sub_ (Arith.std.sub_ s a (Arith.std.len s)) 4 8)) = true := h
        simpa using h6
      rw [eB, eC] at h
      rw [(next_sum (s := s) hr h2 h3 h4 h)]
      exact ⟨[0], ⟨rfl, ⟨rfl, ⟨rfl, rfl⟩, ⟨rfl, rfl⟩, trivial⟩, by decide, rfl, by repeat' (first | exact trivial | exact rfl | apply And.intro)⟩⟩
    have h5 : sum4 (Arith.std.sub_ (Arith.std.sub_ s a (Arith.std.len s)) 8 (8 + beN (Arith.std.sub_ (Arith.std.sub_ s a (Arith.std.len s)) 0 4))) = Arith.std.sub_ (Arith.std.sub_ s a (Arith.std.len s)) 4 8 := by
      have h6 : (!decide (sum4 (Arith.std.sub_ (Arith.std.sub_ s a (Arith.std.len s)) 8 (8 + beN (Arith.std.sub_ (Arith.std.sub_ s a (Arith.std.len s)) 0 4))) = Arith.std.sub_ (Arith.std.sub_ s a (Arith.std.len s)) 4 8)) = false := h
      simpa using h6
    rw [eB, eC] at h5
    refine Need.mk (by show (Arith.std.sub_ (Arith.std.sub_ s a (Arith.std.len s)) 8 (8 + beN (Arith.std.sub_ (Arith.std.sub_ s a (Arith.std.len s)) 0 4))).length ≤ 281474976710656; rw [eB]; omega) fun _ => ?_
    refine Need.mk (by show fitStd .i64 (a + 8); unfold fitStd; omega) fun _ => Need.mk (by show fitStd .i64 (a + 8 + beN (Arith.std.sub_ (Arith.std.sub_ s a (Arith.std.len s)) 0 4)); rw [eN]; unfold fitStd; omega) fun _ => ?_
    rw [next_ok hr h2 h3 h4 h5]
    exact ⟨[0], ⟨rfl, ⟨eB, ⟨rfl, (by show a + 8 + beN (Arith.std.sub_ (Arith.std.sub_ s a (Arith.std.len s)) 0 4) = a + 8 + nxL s a; rw [eN])⟩, ⟨rfl, rfl⟩, trivial⟩, by decide, rfl, by repeat' (first | exact trivial | exact rfl | apply And.intro)⟩⟩



end Go.Proofs.YtophhppklaofaaaDoor.Vx
end

section
/- Records, one behind the other, by the walker: Open, All; lists of texts. -/
namespace Go.Proofs.YtophhppklaofaaaDoor.Vx
open Go.RowKit Sha
set_option linter.unusedVariables false
set_option linter.unusedSimpArgs false
def openF (s : List UInt8) : List UInt8 × Int :=
  if (nextF s 0).2.2 ≠ 0 then ([], (nextF s 0).2.2) else if (nextF s 0).2.1 < (s.length : Int) then ([], 3) else ((nextF s 0).1, 0)
/-- The records from a place on, with a bound on their number. -/
def allR : Nat → List UInt8 → Int → List (List UInt8) × Int × Int
  | 0, _, a => ([], a, 0)
  | f + 1, s, a => if a < (s.length : Int) then (if (nextF s a).2.2 = 0 then ((nextF s a).1 :: (allR f s (nextF s a).2.1).1, (allR f s (nextF s a).2.1).2) else ([], a, (nextF s a).2.2)) else ([], a, 0)
def allF (s : List UInt8) : List (List UInt8) × Int × Int := allR s.length s 0
/-- Texts, as cells. -/
def strsG (l : List (List UInt8)) (i : Nat) : List CV := [.str (l.getD i [])]
theorem strsG_push (l : List (List UInt8)) (x : List UInt8) (i : Nat) (h : i < l.length + 1) : pushG l.length (strsG l) [.str x] i = strsG (l ++ [x]) i := by
  unfold pushG strsG
  by_cases hi : i < l.length
  · rw [show Nat.blt i l.length = true by simpa [Nat.blt_eq] using hi]
    simp [List.getD, List.getElem?_append_left hi]
  · rw [show Nat.blt i l.length = false by rw [Bool.eq_false_iff]; intro h2; exact hi (by simpa [Nat.blt_eq] using h2)]
    obtain rfl : i = l.length := by omega
    simp [List.getD]
theorem next_adv {s : List UInt8} {a : Int} (h : (nextF s a).2.2 = 0) : 0 ≤ a ∧ a + 8 ≤ (nextF s a).2.1 ∧ (nextF s a).2.1 ≤ (s.length : Int) := by
  have hr := nxL_range s a
  unfold nextF at h ⊢
  split
  · rename_i h1; rw [if_pos h1] at h; cases h
  · rename_i h1
    rw [if_neg h1] at h
    split
    · rename_i h2; rw [if_pos h2] at h; cases h
    · rename_i h2
      rw [if_neg h2] at h
      split
      · rename_i h3; rw [if_pos h3] at h; cases h
      · rename_i h3
        rw [if_neg h3] at h
        split
        · rename_i h4; rw [if_pos h4] at h; cases h
        · rename_i h4
          rw [if_neg h4] at h
          split
          · show 0 ≤ a ∧ a + 8 ≤ a + 8 + nxL s a ∧ a + 8 + nxL s a ≤ (s.length : Int)
            omega
          · rename_i h5; rw [if_neg h5] at h; cases h
structure LAll (s : List UInt8) where
  a : Int
  l : List (List UInt8)
  f : Nat
  h0 : 0 ≤ a
  h1 : a ≤ (s.length : Int)
  h2 : (s.length : Int) - a ≤ (f : Int)
  h3 : (l.length : Int) ≤ a
  h4 : allF s = (l ++ (allR f s a).1, (allR f s a).2)
def allPreK (gg sz n : Nat) (get : Nat → List CV) (s : List UInt8) : Prop := KsAt gg sz n get ∧ s.length ≤ 1000000
def sOpen : SpecF
  | [.c (.str s)], [.glob gg sz n get] => some (nextPre gg sz n get s, .tup [(some (.str (openF s).1), []), (some (.int .i64 (openF s).2), [])], [.dead])
  | _, _ => none




def sAll : SpecF
  | [.c (.str s)], [.glob gg sz n get] => some (allPreK gg sz n get s, .tup [(some (.row 1), []), (some (.int .i64 (allF s).2.1), []), (some (.int .i64 (allF s).2.2), [])], [.dead, .row 9 1 (allF s).1.length (strsG (allF s).1)])
  | _, _ => none


set_option maxRecDepth 100000 in
set_option maxHeartbeats 2000000 in
theorem allP : Fn Tryd.prog 32 [0] [] sAll := by
  have hC : CtsOk Tryd.prog [(35, appFn [0] [] sNext)] := CtsOk.cons (Fn.ct nextP) <| CtsOk.nil _
  refine Fn.of (E := tbF0) [0] 0 [] tbF0_ok hC (by kernel_rfl) Tryd.func32 rfl rfl rfl (by kernel_rfl) (by kernel_rfl) 1 5 1 ?_ ?_
  · intro args h pre r h' hs
    unfold sAll at hs
    split at hs
    · cases hs; exact ⟨rfl, rfl, Nat.le_of_ble_eq_true rfl⟩
    · cases hs
  · intro args h pre r h' hs hp
    unfold sAll at hs
    split at hs
    rotate_left
    · cases hs
    rename_i s gg sz n get
    cases hs
    obtain ⟨hK, hs⟩ := hp
    refine ⟨_, hK.same, ?_⟩
    clear hK
    unfold sNext
    generalize hg0 : nextPre = g0
    generalize hg1 : rsumPre = g1
    generalize hg2 : nextF = g2
    generalize hg3 : allF = g3
    generalize hg4 : strsG = g4
    generalize hg5 : (pushG) = g5
    generalize hg6 : KsAt = g6
    generalize hg7 : kOf = g7
    generalize hg8 : (List.length : List UInt8 → Nat) = g8
    generalize hg9 : (List.length : List (List UInt8) → Nat) = g9
    generalize hL : lft Tryd.prog _ = L
    generalize hA : Arith.std = A
    cbv
    subst hA hg0 hg1 hg2 hg3 hg4 hg5 hg6 hg7 hg8 hg9 hL
    refine Runs.nilTmp 5 9 1 (strsG []) rfl ?_
    show Runs Tryd.prog 1 (.loop _) _ _
    refine loop_ruleR (N := env (lft Tryd.prog 1) 0 .std tbF0 [(35, appFn [0] [] sNext)] []) rfl tbF0_ok hC (fun c st K _ h => h) (by kernel_rfl) [0] (X := LAll s)
      (S := fun x => ⟨[.c (.str s), .any, .any, .any, .any, .c (.row 1), .c (.int .i64 x.a)] ++ List.replicate 26 .any, [.glob 0 1 64 (fun i => [.int .u32 (kOf i)]), .row 9 1 x.l.length (strsG x.l)]⟩) (μ := fun x => (s.length - x.a).toNat) ⟨0, [], s.length, by omega, by omega, by omega, (by show (0 : Int) ≤ 0; omega), rfl⟩ (by kernel_rfl) [0, 1] ?_ ?_
    · refine ⟨rfl, by decide, ?_, ?_⟩ <;> repeat' (first | exact trivial | exact rfl | apply And.intro | (intro i hi; rfl))
    rintro ⟨a, l, f, ha0, ha1, hf, hl, he⟩
    unfold sNext
    generalize hg0 : nextPre = g0
    generalize hg1 : rsumPre = g1
    generalize hg2 : nextF = g2
    generalize hg3 : allF = g3
    generalize hg4 : strsG = g4
    generalize hg5 : (pushG) = g5
    generalize hg6 : KsAt = g6
    generalize hg7 : kOf = g7
    generalize hg8 : (List.length : List UInt8 → Nat) = g8
    generalize hg9 : (List.length : List (List UInt8) → Nat) = g9
    generalize hL : lft Tryd.prog _ = L
    generalize hA : Arith.std = A
    cbv
    subst hA hg0 hg1 hg2 hg3 hg4 hg5 hg6 hg7 hg8 hg9 hL
    replace hs : s.length ≤ 1000000 := hs
    replace ha0 : 0 ≤ a := ha0
    replace ha1 : a ≤ @Nat.cast Int instNatCastInt s.length := ha1
    replace hf : @Nat.cast Int instNatCastInt s.length - a ≤ @Nat.cast Int instNatCastInt f := hf
    replace hl : @Nat.cast Int instNatCastInt l.length ≤ a := hl
    refine Ife.mk (fun hlt => ?_) (fun hlt => ?_)
    · replace hlt : a < @Nat.cast Int instNatCastInt s.length := of_decide_eq_true (p := a < (s.length : Int)) hlt
      obtain ⟨k, rfl⟩ : ∃ k, f = k + 1 := ⟨f - 1, by omega⟩
      refine Need.mk (⟨ksAt_self, by omega⟩) fun _ => ?_
      refine Ife.mk (fun h => ?_) (fun h => ?_)
      · have h : (nextF s a).2.2 ≠ 0 := by
          have h6 : (!decide ((nextF s a).2.2 = 0)) = true := h
          simpa using h6
        have e : allR (k + 1) s a = ([], a, (nextF s a).2.2) := by unfold allR; rw [if_pos hlt, if_neg h]
        have he : allF s = (l, a, (nextF s a).2.2) := by rw [he, e, List.append_nil]
        rw [he]
        exact ⟨[0, 1], ⟨rfl, ⟨rfl, ⟨rfl, rfl⟩, ⟨rfl, rfl⟩, trivial⟩, (by show List.Nodup [1]; decide), rfl, by repeat' (first | exact trivial | exact rfl | apply And.intro | (intro i hi; rfl))⟩⟩
      have h : (nextF s a).2.2 = 0 := by
        have h6 : (!decide ((nextF s a).2.2 = 0)) = false := h
        simpa using h6
      have hadv := next_adv h
      have e : allR (k + 1) s a = ((nextF s a).1 :: (allR k s (nextF s a).2.1).1, (allR k s (nextF s a).2.1).2) := by
        conv => lhs; unfold allR
        rw [if_pos hlt, if_pos h]
      refine Need.mk (by show l.length + 1 ≤ maxLen ∧ (l.length + 1) * 16 ≤ 140737488355328; unfold maxLen; omega) fun _ => ?_
      refine ⟨⟨(nextF s a).2.1, l ++ [(nextF s a).1], k, by omega, by omega, by omega, (by rw [List.length_append]; show ((l.length + 1 : Nat) : Int) ≤ _; omega), (by rw [he, e]; simp)⟩, [0, 3], (by show (@Nat.cast Int instNatCastInt s.length - (nextF s a).2.1).toNat < (@Nat.cast Int instNatCastInt s.length - a).toNat; omega), ?_⟩
      refine ⟨rfl, by decide, ?_, ?_⟩
      · repeat' (first | exact trivial | exact rfl | apply And.intro)
      · repeat' (first | exact trivial | exact rfl | apply And.intro)
        · simp
        · intro i hi
          exact strsG_push l _ i (by simpa using hi)
    · replace hlt : ¬ a < @Nat.cast Int instNatCastInt s.length := of_decide_eq_false (p := a < (s.length : Int)) hlt
      have e : allR f s a = ([], a, 0) := by
        cases f with
        | zero => rfl
        | succ f => unfold allR; rw [if_neg hlt]
      have he : allF s = (l, a, 0) := by rw [he, e, List.append_nil]
      rw [he]
      exact ⟨[0, 1], ⟨rfl, ⟨rfl, ⟨rfl, rfl⟩, ⟨rfl, rfl⟩, trivial⟩, (by show List.Nodup [1]; decide), rfl, by repeat' (first | exact trivial | exact rfl | apply And.intro | (intro i hi; rfl))⟩⟩


end Go.Proofs.YtophhppklaofaaaDoor.Vx
end

section
/- Lists of texts compared; the law FrameTells, by the walker. -/
namespace Go.Proofs.YtophhppklaofaaaDoor.Vx
open Go.RowKit Sha
set_option linter.unusedVariables false
set_option linter.unusedSimpArgs false
def textsEq (n : Nat) (get : Nat → List CV) (m : Nat) (get' : Nat → List CV) : Bool := decide (n = m) && (List.range n).all fun i => decide (strOf (get i) = strOf (get' i))
def textsPre (ty one n : Nat) (get : Nat → List CV) (ty' one' m : Nat) (get' : Nat → List CV) : Prop := ty = 9 ∧ one = 1 ∧ StrsAt n get ∧ n ≤ 140737488355328 ∧ ty' = 9 ∧ one' = 1 ∧ StrsAt m get' ∧ m ≤ 140737488355328
structure LTx (n : Nat) (get get' : Nat → List CV) where
  i : Int
  h0 : 0 ≤ i
  h1 : i ≤ (n : Int)
  h2 : ∀ k, k < i.toNat → strOf (get k) = strOf (get' k)
theorem strsG_at (l : List (List UInt8)) : StrsAt l.length (strsG l) := fun i hi => ⟨_, rfl⟩
theorem textsEq_false {n m : Nat} {get get' : Nat → List CV} (h : ¬ n = m) : textsEq n get m get' = false := by simp [textsEq, h]
theorem textsEq_at {n m : Nat} {get get' : Nat → List CV} {i : Nat} (hi : i < n) (h : ¬ strOf (get i) = strOf (get' i)) : textsEq n get m get' = false := by
  rw [Bool.eq_false_iff]
  intro h2
  simp only [textsEq, Bool.and_eq_true, List.all_eq_true, List.mem_range, decide_eq_true_iff] at h2
  exact h (h2.2 i hi)
theorem textsEq_all {n : Nat} {get get' : Nat → List CV} (h : ∀ i, i < n → strOf (get i) = strOf (get' i)) : textsEq n get n get' = true := by
  simp only [textsEq, Bool.and_eq_true, List.all_eq_true, List.mem_range, decide_eq_true_iff]
  exact ⟨trivial, h⟩
def sTexts : SpecF
  | [.c (.row 0), .c (.row 1)], [.elems ty one n get, .elems ty' one' m get'] => some (textsPre ty one n get ty' one' m get', .c (.bool (textsEq n get m get')), [.dead, .dead])
  | _, _ => none

set_option maxRecDepth 100000 in
set_option maxHeartbeats 2000000 in
theorem textsP : Fn Tryd.prog 33 [] [(9, 1), (9, 1)] sTexts := by
  have hC : CtsOk Tryd.prog [] := CtsOk.nil _
  refine Fn.of (E := tbF0) [] 0 [(6, [(0, true), (1, true), (2, true), (3, true), (4, true), (5, true), (6, true), (7, true), (8, true)])] tbF0_ok hC (by kernel_rfl) Tryd.func33 rfl rfl rfl (by kernel_rfl) (by kernel_rfl) 2 5 1 ?_ ?_
  · intro args h pre r h' hs
    unfold sTexts at hs
    split at hs
    · cases hs; exact ⟨rfl, rfl, Nat.le_of_ble_eq_true rfl⟩
    · cases hs
  · intro args h pre r h' hs hp
    unfold sTexts at hs
    split at hs
    rotate_left
    · cases hs
    rename_i ty one n get ty' one' m get'
    cases hs
    obtain ⟨rfl, rfl, hst, hn, rfl, rfl, hst', hm⟩ := hp
    refine ⟨[.elems 9 1 n (fun i => [.str (strOf (get i))]), .elems 9 1 m (fun i => [.str (strOf (get' i))])], ⟨hst.same.1, hst'.same.1, trivial⟩, ?_⟩
    clear hst hst'
    generalize hg0 : strOf = g0
    generalize hg1 : textsEq = g1
    generalize hL : lft Tryd.prog _ = L
    generalize hA : Arith.std = A
    cbv
    subst hA hg0 hg1 hL
    have nm : n = m ∨ ¬ n = m := by omega
    refine Ife.mk (fun h => ?_) (fun h => ?_)
    · have h : ¬ n = m := by
        have h6 : (!decide ((n : Int) = (m : Int))) = true := h
        have h7 : ¬ (n : Int) = (m : Int) := by simpa using h6
        omega
      rw [textsEq_false h]
      exact ⟨[0, 1], ⟨rfl, rfl, by decide, rfl, by repeat' (first | exact trivial | exact rfl | apply And.intro)⟩⟩
    have h : n = m := by
      have h6 : (!decide ((n : Int) = (m : Int))) = false := h
      have h7 : (n : Int) = (m : Int) := by simpa using h6
      omega
    subst h
    clear nm
    show Runs Tryd.prog 2 (.loop _) _ _
    refine loop_ruleR (N := env (lft Tryd.prog 2) 0 .std tbF0 [] [(6, [(0, true), (1, true), (2, true), (3, true), (4, true), (5, true), (6, true), (7, true), (8, true)])]) rfl tbF0_ok hC (fun c st K _ h => h) (by kernel_rfl) [] (X := LTx n get get')
      (S := fun x => ⟨[.c (.row 0), .c (.row 1), .any, .any, .any, .c (.int .i64 x.i)] ++ List.replicate 20 .any, [.elems 9 1 n (fun i => [.str (strOf (get i))]), .elems 9 1 n (fun i => [.str (strOf (get' i))])]⟩) (μ := fun x => n - x.i.toNat) ⟨0, by omega, by omega, fun k hk => absurd hk (by show ¬ k < (0 : Int).toNat; omega)⟩ (by kernel_rfl) [0, 1] ?_ ?_
    · refine ⟨rfl, by decide, ?_, ?_⟩ <;> repeat' (first | exact trivial | exact rfl | apply And.intro)
    rintro ⟨i, hi0, hin, hall⟩
    generalize hg0 : strOf = g0
    generalize hg1 : textsEq = g1
    generalize hL : lft Tryd.prog _ = L
    generalize hA : Arith.std = A
    cbv
    subst hA hg0 hg1 hL
    replace hi0 : 0 ≤ i := hi0
    replace hin : i ≤ @Nat.cast Int instNatCastInt n := hin
    refine Ife.mk (fun hlt => ?_) (fun hlt => ?_)
    · replace hlt : i < @Nat.cast Int instNatCastInt n := of_decide_eq_true (p := i < (n : Int)) hlt
      repeat refine Need.mk (by first | exact trivial | (simp only [Arith.std, fitStd]; omega) | (simp [Arith.std, fitStd]; omega)) fun _ => ?_
      refine Ife.mk (fun h => ?_) (fun h => ?_)
      · have h : ¬ strOf (get i.toNat) = strOf (get' i.toNat) := by
          have h6 : (!decide (strOf (get i.toNat) = strOf (get' i.toNat))) = true := h
          simpa using h6
        rw [textsEq_at (m := n) (show i.toNat < n by omega) h]
        exact ⟨[0, 1], ⟨rfl, rfl, by decide, rfl, by repeat' (first | exact trivial | exact rfl | apply And.intro)⟩⟩
      have h : strOf (get i.toNat) = strOf (get' i.toNat) := by
        have h6 : (!decide (strOf (get i.toNat) = strOf (get' i.toNat))) = false := h
        simpa using h6
      repeat refine Need.mk (by first | exact trivial | (simp only [Arith.std, fitStd]; omega) | (simp [Arith.std, fitStd]; omega)) fun _ => ?_
      refine ⟨⟨i + 1, by omega, by omega, ?h2⟩, [0, 1], (by show n - (i + 1).toNat < n - i.toNat; omega), ?st⟩
      case st => refine ⟨rfl, by decide, ?_, ?_⟩ <;> repeat' (first | exact trivial | exact rfl | apply And.intro)
      case h2 =>
        intro k hk
        by_cases hk2 : k = i.toNat
        · rw [hk2]; exact h
        · exact hall k (by omega)
    · replace hlt : ¬ i < @Nat.cast Int instNatCastInt n := of_decide_eq_false (p := i < (n : Int)) hlt
      rw [textsEq_all (n := n) (get := get) (get' := get') fun k hk => hall k (by show k < i.toNat; omega)]
      exact ⟨[0, 1], ⟨rfl, rfl, by decide, rfl, by repeat' (first | exact trivial | exact rfl | apply And.intro)⟩⟩

theorem put_nil : putF [] = [0, 0, 0, 0, 227, 176, 196, 66] ∧ putE [] = 0 := by decide +kernel
def sFirst11 : SpecF
  | [], [.glob gg sz n get] => some (KsAt gg sz n get, .c .tt, [.dead])
  | _, _ => none

set_option maxRecDepth 100000 in
set_option maxHeartbeats 2000000 in
theorem first11P : Fn Tryd.prog 29 [0] [] sFirst11 := by
  have hC : CtsOk Tryd.prog [(30, appFn [0] [] sPut)] := CtsOk.cons (Fn.ct putP) <| CtsOk.nil _
  refine Fn.of (E := tbF0) [0] 0 [] tbF0_ok hC (by kernel_rfl) Tryd.func29 rfl rfl rfl (by kernel_rfl) (by kernel_rfl) 1 5 1 ?_ ?_
  · intro args h pre r h' hs
    unfold sFirst11 at hs
    split at hs
    · cases hs; exact ⟨rfl, rfl, Nat.le_of_ble_eq_true rfl⟩
    · cases hs
  · intro args h pre r h' hs hp
    unfold sFirst11 at hs
    split at hs
    rotate_left
    · cases hs
    rename_i gg sz n get
    cases hs
    refine ⟨_, hp.same, ?_⟩
    clear hp
    unfold sPut
    generalize hg0 : putPre = g0
    generalize hg1 : putF = g1
    generalize hg2 : putE = g2
    generalize hg3 : KsAt = g3
    generalize hg4 : kOf = g4
    generalize hA : Arith.std = A
    cbv
    subst hA hg0 hg1 hg2 hg3 hg4
    refine Need.mk ⟨ksAt_self, by decide⟩ fun _ => ?_
    refine Ife.mk (fun _ => ?_) (fun hb => absurd ((show decide (putF [] = [0, 0, 0, 0, 227, 176, 196, 66]) = true from decide_eq_true put_nil.1).symm.trans hb) (by decide))
    exact ⟨[0], ⟨rfl, (show decide (putE [] = 0) = true from decide_eq_true put_nil.2), by decide, rfl, by repeat' (first | exact trivial | exact rfl | apply And.intro)⟩⟩



end Go.Proofs.YtophhppklaofaaaDoor.Vx
namespace Go.Proofs.YtophhppklaofaaaDoor
open Go.RowKit
end Go.Proofs.YtophhppklaofaaaDoor
end

section
/- Records: what is read of what was written, cut, turned, or laid one behind the other: plain laws. -/
namespace Go.Proofs.YtophhppklaofaaaDoor.Vx
open Go.RowKit Sha
set_option linter.unusedVariables false
set_option linter.unusedSimpArgs false
theorem beN_four (p q r t : UInt8) : beN [p, q, r, t] = (((p.toNat : Int) * 256 + (q.toNat : Int)) * 256 + (r.toNat : Int)) * 256 + (t.toNat : Int) := by
  show (((0 * 256 + (p.toNat : Int)) * 256 + (q.toNat : Int)) * 256 + (r.toNat : Int)) * 256 + (t.toNat : Int) = _
  omega
theorem d8_nat (n : Int) (j : Nat) : (((UInt8.ofNat (d8 n j).toNat).toNat : Nat) : Int) = d8 n j := by
  have := d8_range n j
  rw [UInt8.toNat_ofNat_of_lt' (by show _ < 256; omega)]
  omega
theorem beN_be4 (n : Int) (h0 : 0 ≤ n) (h1 : n ≤ 2147483647) : beN (be4 n) = n := by
  unfold be4
  rw [beN_four, d8_nat, d8_nat, d8_nat, d8_nat]
  unfold d8
  rw [show (256 : Int) ^ (7 - 4) = 16777216 by decide, show (256 : Int) ^ (7 - 5) = 65536 by decide, show (256 : Int) ^ (7 - 6) = 256 by decide, show (256 : Int) ^ (7 - 7) = 1 by decide]
  omega
theorem next_head (pre : List UInt8) (p q r t x y z w : UInt8) (B : List UInt8) : nextF (pre ++ p :: q :: r :: t :: x :: y :: z :: w :: B) (pre.length : Int) =
    if 2147483647 < beN [p, q, r, t] then ([], 0, 4) else if (B.length : Int) < beN [p, q, r, t] then ([], 0, 2) else
    if sum4 (B.take (beN [p, q, r, t]).toNat) = [x, y, z, w] then (B.take (beN [p, q, r, t]).toNat, (pre.length : Int) + 8 + beN [p, q, r, t], 0) else ([], 0, 5) := by
  have hd : (pre ++ p :: q :: r :: t :: x :: y :: z :: w :: B).drop ((pre.length : Int)).toNat = p :: q :: r :: t :: x :: y :: z :: w :: B := by
    rw [show ((pre.length : Int)).toNat = pre.length by omega, List.drop_left]
  have hl : ((pre ++ p :: q :: r :: t :: x :: y :: z :: w :: B).length : Int) = (pre.length : Int) + 8 + (B.length : Int) := by
    simp only [List.length_append, List.length_cons]; omega
  have hn : nxL (pre ++ p :: q :: r :: t :: x :: y :: z :: w :: B) (pre.length : Int) = beN [p, q, r, t] := by unfold nxL; rw [hd]; rfl
  have hb : nxBody (pre ++ p :: q :: r :: t :: x :: y :: z :: w :: B) (pre.length : Int) = B.take (beN [p, q, r, t]).toNat := by unfold nxBody; rw [hn, hd]; rfl
  unfold nextF
  rw [hb, hn, hl, hd, if_neg (by omega), if_neg (by omega)]
  by_cases h1 : 2147483647 < beN [p, q, r, t]
  · rw [if_pos h1, if_pos h1]
  · rw [if_neg h1, if_neg h1]
    by_cases h2 : (B.length : Int) < beN [p, q, r, t]
    · rw [if_pos h2, if_pos (by omega)]
    · rw [if_neg h2, if_neg (by omega)]
      rfl
/-- A record's head, byte by byte. -/
theorem put_head (b : List UInt8) (h : b.length ≤ 2147483647) : ∃ p q r t x y z w : UInt8, putF b = p :: q :: r :: t :: x :: y :: z :: w :: b ∧ beN [p, q, r, t] = (b.length : Int) ∧ sum4 b = [x, y, z, w] := by
  have hl := sum4_len b
  obtain ⟨x, y, z, w, hs⟩ : ∃ x y z w : UInt8, sum4 b = [x, y, z, w] := by
    generalize sum4 b = l at hl
    match l, hl with
    | [x, y, z, w], _ => exact ⟨x, y, z, w, rfl⟩
  refine ⟨_, _, _, _, x, y, z, w, ?_, beN_be4 (b.length : Int) (by omega) (by omega), hs⟩
  unfold putF
  rw [if_neg (by omega), hs]
  rfl
theorem next_put (pre b rest : List UInt8) (h : b.length ≤ 2147483647) : nextF (pre ++ (putF b ++ rest)) (pre.length : Int) = (b, (pre.length : Int) + 8 + (b.length : Int), 0) := by
  obtain ⟨p, q, r, t, x, y, z, w, e, hn, hs⟩ := put_head b h
  rw [e]
  show nextF (pre ++ p :: q :: r :: t :: x :: y :: z :: w :: (b ++ rest)) _ = _
  rw [next_head, hn, if_neg (by omega), if_neg (by rw [List.length_append]; omega), show ((b.length : Int)).toNat = b.length by omega, List.take_left, if_pos hs]
theorem put_len (b : List UInt8) (h : b.length ≤ 2147483647) : (putF b).length = 8 + b.length ∧ putE b = 0 := by
  obtain ⟨p, q, r, t, x, y, z, w, e, _, _⟩ := put_head b h
  refine ⟨by rw [e]; simp only [List.length_cons]; omega, ?_⟩
  unfold putE
  rw [if_neg (by omega)]
theorem all_puts (tail : List UInt8) (ht : tail.length ≤ 7) : ∀ (ls : List (List UInt8)) (pre : List UInt8) (f : Nat), (∀ b ∈ ls, b.length ≤ 2147483647) → (ls.flatMap putF).length + tail.length ≤ f →
    allR f (pre ++ (ls.flatMap putF ++ tail)) (pre.length : Int) = (ls, (pre.length : Int) + ((ls.flatMap putF).length : Int), if tail = [] then 0 else 2)
  | [], pre, f, _, hf => by
    have hl : ((pre ++ (([] : List (List UInt8)).flatMap putF ++ tail)).length : Int) = (pre.length : Int) + (tail.length : Int) := by simp
    by_cases h0 : tail = []
    · subst h0
      rw [if_pos rfl]
      cases f with
      | zero => simp [allR]
      | succ f =>
        unfold allR
        rw [if_neg (by rw [hl]; simp)]
        simp
    · have hp : 0 < tail.length := List.length_pos_iff.2 h0
      rw [if_neg h0]
      obtain ⟨k, rfl⟩ : ∃ k, f = k + 1 := ⟨f - 1, by simp at hf; omega⟩
      have e := next_short (s := pre ++ (([] : List (List UInt8)).flatMap putF ++ tail)) (a := (pre.length : Int)) (by omega) (by omega)
      unfold allR
      rw [if_pos (by omega), e, if_neg (by decide)]
      simp
  | b :: ls, pre, f, hb, hf => by
    have h0 := hb b (List.mem_cons_self)
    have l0 := (put_len b h0).1
    have hfl : ((b :: ls).flatMap putF) = putF b ++ ls.flatMap putF := by simp
    rw [hfl] at hf ⊢
    rw [List.length_append] at hf
    obtain ⟨k, rfl⟩ : ∃ k, f = k + 1 := ⟨f - 1, by omega⟩
    have e := next_put pre b (ls.flatMap putF ++ tail) h0
    have ih := all_puts tail ht ls (pre ++ putF b) k (fun x hx => hb x (List.mem_cons_of_mem _ hx)) (by omega)
    rw [List.append_assoc] at ih ⊢
    have hp : (((pre ++ putF b).length : Nat) : Int) = (pre.length : Int) + 8 + (b.length : Int) := by rw [List.length_append, l0]; omega
    rw [hp] at ih
    unfold allR
    rw [if_pos (by rw [List.length_append, List.length_append, l0]; omega), e, if_pos rfl, ih]
    simp only [Prod.mk.injEq, true_and, and_true]
    rw [List.length_append, l0]
    omega
end Go.Proofs.YtophhppklaofaaaDoor.Vx
end
