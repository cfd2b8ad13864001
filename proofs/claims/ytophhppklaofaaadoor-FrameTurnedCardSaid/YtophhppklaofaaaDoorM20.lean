/- Records, by the walker: Put, Next, Open. -/
import Derived.Test.YtophhppklaofaaaDoorM19
section
namespace Go.Proofs.YtophhppklaofaaaDoor.Vx
open Go.RowKit Sha
set_option linter.unusedVariables false
set_option linter.unusedSimpArgs false
def putF (s : List UInt8) : List UInt8 := if 2147483647 < s.length then [] else be4 s.length ++ sum4 s ++ s
def putE (s : List UInt8) : Int := if 2147483647 < s.length then 4 else 0
def putPre (gg sz n : Nat) (get : Nat → List CV) (s : List UInt8) : Prop := KsAt gg sz n get ∧ s.length ≤ 140737488350000
theorem put_byte (n i : Int) (h0 : 0 ≤ n) (h1 : n ≤ 2147483647) (hi0 : 0 ≤ i) (hi1 : i < 4) : IntKind.wrap .u8 ((IntKind.wrap .u64 n).fdiv (2 ^ (min (8 * (3 - i)).toNat 64))) = d8 n (4 + i.toNat) := by
  have hw : IntKind.wrap .u64 n = n := by rw [IntKind.wrap_u64]; omega
  have hc : i = 0 ∨ i = 1 ∨ i = 2 ∨ i = 3 := by omega
  have he : (2 : Int) ^ (min (8 * (3 - i)).toNat 64) = 256 ^ (7 - (4 + i.toNat)) := by
    rcases hc with rfl | rfl | rfl | rfl <;> decide
  rw [hw, wrap_u8, he, Int.fdiv_eq_ediv_of_nonneg _ (Int.pow_nonneg (by decide))]
  rfl
def sPut : SpecF
  | [.c (.str s)], [.glob gg sz n get] => some (putPre gg sz n get s, .tup [(some (.str (putF s)), []), (some (.int .i64 (putE s)), [])], [.dead])
  | _, _ => none

set_option maxRecDepth 100000 in
set_option maxHeartbeats 2000000 in
theorem putP : Fn Tryd.prog 30 [0] [] sPut := by
  have hC : CtsOk Tryd.prog [(80, appFn [0] [] sSum4)] := CtsOk.cons (Fn.ct sum4P) <| CtsOk.nil _
  refine Fn.of (E := tbF0) [0] 0 [(9, [(0, true), (1, true), (2, true), (5, true), (3, false), (4, true), (6, true), (7, true), (8, true)])] tbF0_ok hC (by kernel_rfl) Tryd.func30 rfl rfl rfl (by kernel_rfl) (by kernel_rfl) 1 5 1 ?_ ?_
  · intro args h pre r h' hs
    unfold sPut at hs
    split at hs
    · cases hs; exact ⟨rfl, rfl, Nat.le_of_ble_eq_true rfl⟩
    · cases hs
  · intro args h pre r h' hs hp
    unfold sPut at hs
    split at hs
    rotate_left
    · cases hs
    rename_i s gg sz n get
    cases hs
    obtain ⟨hK, hs⟩ := hp
    refine ⟨_, hK.same, ?_⟩
    clear hK
    unfold sSum4
    generalize hg0 : sum4Pre = g0
    generalize hg1 : sum4 = g1
    generalize hg2 : putF = g2
    generalize hg3 : putE = g3
    generalize hg4 : KsAt = g4
    generalize hg5 : kOf = g5
    generalize hg6 : (List.length : List UInt8 → Nat) = g6
    generalize hL : lft Tryd.prog _ = L
    generalize hA : Arith.std = A
    cbv
    subst hA hg0 hg1 hg2 hg3 hg4 hg5 hg6 hL
    refine Ife.mk (fun h => ?_) (fun h => ?_)
    · have h : 2147483647 < s.length := by have := of_decide_eq_true (p := (2147483647 : Int) < (s.length : Int)) h; omega
      have e1 : putF s = [] := by unfold putF; rw [if_pos h]
      have e2 : putE s = 4 := by unfold putE; rw [if_pos h]
      exact ⟨[0], ⟨rfl, ⟨e1.symm, ⟨rfl, e2.symm⟩, trivial⟩, by decide, rfl, by repeat' (first | exact trivial | exact rfl | apply And.intro)⟩⟩
    have hl : s.length ≤ 2147483647 := by have := of_decide_eq_false (p := (2147483647 : Int) < (s.length : Int)) h; omega
    obtain ⟨m, hm⟩ : ∃ m : Int, m = (s.length : Int) := ⟨_, rfl⟩
    show Runs Tryd.prog 1 (.loop _) _ _
    refine loop_ruleR (N := env (lft Tryd.prog 1) 0 .std tbF0 [(80, appFn [0] [] sSum4)] [(9, [(0, true), (1, true), (2, true), (5, true), (3, false), (4, true), (6, true), (7, true), (8, true)])]) rfl tbF0_ok hC (fun c st K _ h => h) (by kernel_rfl) [0] (X := LFill 4 (fun j => d8 m (4 + j)) (fun _ => 0))
      (S := fun x => ⟨[.c (.str s), .any, .any, .any, .c (.ptr 1 0), .any, .any, .any, .any, .c (.int .i64 x.i)] ++ List.replicate 20 .any, [.glob 0 1 64 (fun i => [.int .u32 (kOf i)]), .cells 97 [.int .u8 (x.g 0), .int .u8 (x.g 1), .int .u8 (x.g 2), .int .u8 (x.g 3)]]⟩) (μ := fun x => 4 - x.i.toNat) ⟨0, (fun _ => 0), by omega, by omega, fun j hj => absurd hj (by omega), fun j _ _ => rfl⟩ (by kernel_rfl) [0, 1] ?_ ?_
    · refine ⟨rfl, by decide, ?_, ?_⟩ <;> repeat' (first | exact trivial | exact rfl | apply And.intro)
    rintro ⟨i, g, hi0, hin, hlo, hhi⟩
    unfold sSum4
    generalize hg0 : sum4Pre = g0
    generalize hg1 : sum4 = g1
    generalize hg2 : putF = g2
    generalize hg3 : putE = g3
    generalize hg4 : KsAt = g4
    generalize hg5 : kOf = g5
    generalize hg6 : (List.length : List UInt8 → Nat) = g6
    generalize hL : lft Tryd.prog _ = L
    generalize hA : Arith.std = A
    cbv
    subst hA hg0 hg1 hg2 hg3 hg4 hg5 hg6 hL
    replace hi0 : 0 ≤ i := hi0
    replace hin : i ≤ ((4 : Nat) : Int) := hin
    replace hlo : ∀ j : Nat, (j : Int) < i → g j = (fun j => d8 m (4 + j)) j := hlo
    replace hhi : ∀ j : Nat, i ≤ (j : Int) → j < 4 → g j = (fun _ => 0) j := hhi
    refine Ife.mk (fun hlt => ?_) (fun hlt => ?_)
    · replace hlt : i < (4 : Int) := of_decide_eq_true (p := i < (4 : Int)) hlt
      repeat refine Need.mk (by first | exact trivial | (simp only [Arith.std, fitStd]; omega) | (simp [Arith.std, fitStd]; omega)) fun _ => ?_
      refine ⟨⟨i + 1, fun j => Arith.std.upd (i.toNat) (j) ?fv (g j), by omega, by omega, ?h2, ?h3⟩, [0, 1], (by show 4 - (i + 1).toNat < 4 - i.toNat; omega), ?st⟩
      case st => refine ⟨rfl, by decide, ?_, ?_⟩ <;> repeat' (first | exact trivial | exact rfl | apply And.intro)
      case h3 =>
        intro j hj hj2
        show (if i.toNat = j then _ else g j) = _
        rw [if_neg (by omega)]
        exact hhi j (by omega) hj2
      case h2 =>
        intro j hj
        show (if i.toNat = j then _ else g j) = _
        by_cases hji : i.toNat = j
        · rw [if_pos hji]
          obtain rfl : j = i.toNat := by omega
          clear hji hj
          rw [hm]
          exact put_byte (s.length : Int) i (by omega) (by omega) hi0 hlt
        · rw [if_neg hji]
          exact hlo j (by omega)
    · replace hlt : ¬ i < (4 : Int) := of_decide_eq_false (p := i < (4 : Int)) hlt
      have hq : ∀ k : Nat, k < 4 → g k = (fun j => d8 m (4 + j)) k := fun k hk => hlo k (by omega)
      have e : [UInt8.ofNat (g 0).toNat, UInt8.ofNat (g 1).toNat, UInt8.ofNat (g 2).toNat, UInt8.ofNat (g 3).toNat] ++ sum4 s ++ s = putF s := by
        unfold putF
        rw [if_neg (by omega), hq 0 (by decide), hq 1 (by decide), hq 2 (by decide), hq 3 (by decide), hm]
        rfl
      have e2 : putE s = 0 := by unfold putE; rw [if_neg (by omega)]
      have l4 := sum4_len s
      refine Need.mk ⟨ksAt_self, hs⟩ fun _ => ?_
      refine Need.mk (by show ((4 : Nat) : Int) + ((sum4 s).length : Int) ≤ 9223372036854775807; omega) fun _ => ?_
      refine Need.mk (by show ((([UInt8.ofNat (g 0).toNat, UInt8.ofNat (g 1).toNat, UInt8.ofNat (g 2).toNat, UInt8.ofNat (g 3).toNat] ++ sum4 s : List UInt8).length : Nat) : Int) + (s.length : Int) ≤ 9223372036854775807; rw [List.length_append]; simp only [List.length_cons, List.length_nil]; omega) fun _ => ?_
      exact ⟨[0], ⟨rfl, ⟨e, ⟨rfl, e2.symm⟩, trivial⟩, by decide, rfl, by repeat' (first | exact trivial | exact rfl | apply And.intro)⟩⟩

def sRFrame : List SV → Option (Prop × SV)
  | [.c (.str s)] => some (rsumPre s, .tup [(some (.str (putF s)), []), (some (.int .i64 (putE s)), [])])
  | _ => none


def sCloneL : List SV → Option (Prop × SV)
  | [.c (.str l)] => some (l.length ≤ 281474976710656, .c (.str l))
  | _ => none

def sClone : List SV → Option (Prop × SV)
  | [.c (.str l)] => some (l.length ≤ 281474976710656, .c (.str l))
  | _ => none

theorem cloneLP : Pure Tryd.prog 112 sCloneL := by
  refine ⟨by kernel_rfl, fun args pre r h hp us hs W => ?_⟩
  unfold sCloneL at h
  split at h
  rotate_left
  · cases h
  rename_i l
  cases h
  obtain ⟨u0, _, rfl, a0, b0⟩ := hs
  obtain rfl : .string ⟨(l).toArray⟩ = u0 := Option.some.inj a0
  cases b0
  refine Calls.mono (Tryd.stringslite_Clone ⟨l.toArray⟩ W (by exact hp)) fun e W' he => ?_
  obtain ⟨rfl, hb⟩ := he
  exact ⟨_, rfl, rfl, hb⟩

set_option maxRecDepth 100000 in
set_option maxHeartbeats 2000000 in
theorem cloneP : Pure Tryd.prog 83 sClone := by
  have hC : CtsOk Tryd.prog [(112, appPure sCloneL)] := CtsOk.cons (Pure.ct cloneLP) <| CtsOk.nil _
  refine Pure.of (E := tbF0) (C := [(112, appPure sCloneL)]) [] 0 [] tbF0_ok hC (by kernel_rfl) Tryd.func83 rfl rfl rfl (by kernel_rfl) (by kernel_rfl) ?_ ?_
  · intro args pre r h
    unfold sClone at h
    split at h
    · cases h; rfl
    · cases h
  · intro args pre r h hp
    unfold sClone at h
    split at h
    rotate_left
    · cases h
    rename_i l
    cases h
    have hl : l.length ≤ 281474976710656 := hp
    unfold sCloneL
    generalize hg0 : (List.length : List UInt8 → Nat) = g0
    generalize hA : Arith.std = A
    cbv
    subst hA hg0
    exact Need.mk hl fun _ => trivial

end Go.Proofs.YtophhppklaofaaaDoor.Vx
end

section
/- Records read, by the walker: Next, Open. -/
namespace Go.Proofs.YtophhppklaofaaaDoor.Vx
open Go.RowKit Sha
set_option linter.unusedVariables false
set_option linter.unusedSimpArgs false
/-- The number in a record's head. -/
def nxL (s : List UInt8) (a : Int) : Int := beN ((s.drop a.toNat).take 4)
def nxBody (s : List UInt8) (a : Int) : List UInt8 := ((s.drop a.toNat).drop 8).take (nxL s a).toNat
def nextF (s : List UInt8) (a : Int) : List UInt8 × Int × Int :=
  if a < 0 ∨ (s.length : Int) < a then ([], 0, 1) else
  if (s.length : Int) - a < 8 then ([], 0, 2) else
  if 2147483647 < nxL s a then ([], 0, 4) else
  if (s.length : Int) - a - 8 < nxL s a then ([], 0, 2) else
  if sum4 (nxBody s a) = ((s.drop a.toNat).take 8).drop 4 then (nxBody s a, a + 8 + nxL s a, 0) else ([], 0, 5)
theorem nxL_range (s : List UInt8) (a : Int) : 0 ≤ nxL s a ∧ nxL s a < 4294967296 := by
  have h := beN_range ((s.drop a.toNat).take 4)
  have h2 : (256 : Int) ^ ((s.drop a.toNat).take 4).length ≤ 4294967296 := by
    have hl : ((s.drop a.toNat).take 4).length ≤ 4 := by rw [List.length_take]; omega
    generalize ((s.drop a.toNat).take 4).length = k at hl
    have : k = 0 ∨ k = 1 ∨ k = 2 ∨ k = 3 ∨ k = 4 := by omega
    rcases this with h | h | h | h | h <;> rw [h] <;> decide
  unfold nxL
  omega
theorem next_range {s : List UInt8} {a : Int} (h : a < 0 ∨ (s.length : Int) < a) : nextF s a = ([], 0, 1) := by unfold nextF; rw [if_pos h]
theorem next_short {s : List UInt8} {a : Int} (h : ¬ (a < 0 ∨ (s.length : Int) < a)) (h1 : (s.length : Int) - a < 8) : nextF s a = ([], 0, 2) := by unfold nextF; rw [if_neg h, if_pos h1]
theorem next_long {s : List UInt8} {a : Int} (h : ¬ (a < 0 ∨ (s.length : Int) < a)) (h1 : ¬ (s.length : Int) - a < 8) (h2 : 2147483647 < nxL s a) : nextF s a = ([], 0, 4) := by unfold nextF; rw [if_neg h, if_neg h1, if_pos h2]
theorem next_cut {s : List UInt8} {a : Int} (h : ¬ (a < 0 ∨ (s.length : Int) < a)) (h1 : ¬ (s.length : Int) - a < 8) (h2 : ¬ 2147483647 < nxL s a) (h3 : (s.length : Int) - a - 8 < nxL s a) : nextF s a = ([], 0, 2) := by unfold nextF; rw [if_neg h, if_neg h1, if_neg h2, if_pos h3]
theorem next_sum {s : List UInt8} {a : Int} (h : ¬ (a < 0 ∨ (s.length : Int) < a)) (h1 : ¬ (s.length : Int) - a < 8) (h2 : ¬ 2147483647 < nxL s a) (h3 : ¬ (s.length : Int) - a - 8 < nxL s a) (h4 : ¬ sum4 (nxBody s a) = ((s.drop a.toNat).take 8).drop 4) : nextF s a = ([], 0, 5) := by unfold nextF; rw [if_neg h, if_neg h1, if_neg h2, if_neg h3, if_neg h4]
theorem next_ok {s : List UInt8} {a : Int} (h : ¬ (a < 0 ∨ (s.length : Int) < a)) (h1 : ¬ (s.length : Int) - a < 8) (h2 : ¬ 2147483647 < nxL s a) (h3 : ¬ (s.length : Int) - a - 8 < nxL s a) (h4 : sum4 (nxBody s a) = ((s.drop a.toNat).take 8).drop 4) : nextF s a = (nxBody s a, a + 8 + nxL s a, 0) := by unfold nextF; rw [if_neg h, if_neg h1, if_neg h2, if_neg h3, if_pos h4]
def nextPre (gg sz n : Nat) (get : Nat → List CV) (s : List UInt8) : Prop := KsAt gg sz n get ∧ s.length ≤ 140737488350000
def sNext : SpecF
  | [.c (.str s), .c (.int .i64 a)], [.glob gg sz n get] => some (nextPre gg sz n get s, .tup [(some (.str (nextF s a).1), []), (some (.int .i64 (nextF s a).2.1), []), (some (.int .i64 (nextF s a).2.2), [])], [.dead])
  | _, _ => none

set_option maxRecDepth 100000 in
set_option maxHeartbeats 2000000 in
theorem nextP : Fn Tryd.prog 35 [0] [] sNext := by
  have hC : CtsOk Tryd.prog [(82, appPure sBeN), (80, appFn [0] [] sSum4), (83, appPure sClone)] := CtsOk.cons (Pure.ct beNP) <| CtsOk.cons (Fn.ct sum4P) <| CtsOk.cons (Pure.ct cloneP) <| CtsOk.nil _
  refine Fn.of (E := tbF0) [0] 0 [(12, [(0, true), (2, true), (3, true), (1, false), (4, true)])] tbF0_ok hC (by kernel_rfl) Tryd.func35 rfl rfl rfl (by kernel_rfl) (by kernel_rfl) 1 5 1 ?_ ?_
  · intro args h pre r h' hs
    unfold sNext at hs
    split at hs
    · cases hs; exact ⟨rfl, rfl, Nat.le_of_ble_eq_true rfl⟩
    · cases hs
  · intro args h pre r h' hs hp
    unfold sNext at hs
    split at hs
    rotate_left
    · cases hs
    rename_i s a gg sz n get
    cases hs
    obtain ⟨hK, hs⟩ := hp
    refine ⟨_, hK.same, ?_⟩
    clear hK
    unfold sSum4 sBeN sClone
    generalize hg0 : sum4Pre = g0
    generalize hg1 : beNPre = g1
    generalize hg2 : sum4 = g2
    generalize hg3 : beN = g3
    generalize hg4 : nextF = g4
    generalize hg5 : KsAt = g5
    generalize hg6 : kOf = g6
    generalize hg7 : (List.length : List UInt8 → Nat) = g7
    generalize hA : Arith.std = A
    cbv
    subst hA hg0 hg1 hg2 hg3 hg4 hg5 hg6 hg7
    refine Ife.mk (fun h => ?_) (fun h => ?_)
    · have h : a < 0 := of_decide_eq_true (p := a < 0) h
      rw [(next_range (s := s) (Or.inl h))]
      exact ⟨[0], ⟨rfl, ⟨rfl, ⟨rfl, rfl⟩, ⟨rfl, rfl⟩, trivial⟩, by decide, rfl, by repeat' (first | exact trivial | exact rfl | apply And.intro)⟩⟩
    have h0 : ¬ a < 0 := of_decide_eq_false (p := a < 0) h
    refine Ife.mk (fun h => ?_) (fun h => ?_)
    · have h : (s.length : Int) < a := of_decide_eq_true (p := (s.length : Int) < a) h
      rw [(next_range (s := s) (Or.inr h))]
      exact ⟨[0], ⟨rfl, ⟨rfl, ⟨rfl, rfl⟩, ⟨rfl, rfl⟩, trivial⟩, by decide, rfl, by repeat' (first | exact trivial | exact rfl | apply And.intro)⟩⟩
    have h1 : ¬ (s.length : Int) < a := of_decide_eq_false (p := (s.length : Int) < a) h
    have hr : ¬ (a < 0 ∨ (s.length : Int) < a) := by omega
    have eT : Arith.std.sub_ s a (Arith.std.len s) = s.drop a.toNat := by
      show (s.take (s.length : Int).toNat).drop a.toNat = _
      rw [List.take_of_length_le (by omega)]
    have lT : ((Arith.std.sub_ s a (Arith.std.len s)).length : Int) = (s.length : Int) - a := by rw [eT, List.length_drop]; omega
    have eN : beN (Arith.std.sub_ (Arith.std.sub_ s a (Arith.std.len s)) 0 4) = nxL s a := by
      unfold nxL
      rw [eT]
      rfl
    refine Need.mk (by show 0 ≤ a ∧ a ≤ (s.length : Int) ∧ (s.length : Int) ≤ (s.length : Int); omega) fun _ => ?_
    refine Ife.mk (fun h => ?_) (fun h => ?_)
    · have h : ((Arith.std.sub_ s a (Arith.std.len s)).length : Int) < 8 := of_decide_eq_true (p := ((Arith.std.sub_ s a (Arith.std.len s)).length : Int) < 8) h
      rw [(next_short (s := s) hr (by omega))]
      exact ⟨[0], ⟨rfl, ⟨rfl, ⟨rfl, rfl⟩, ⟨rfl, rfl⟩, trivial⟩, by decide, rfl, by repeat' (first | exact trivial | exact rfl | apply And.intro)⟩⟩
    have h2 : ¬ (s.length : Int) - a < 8 := by have := of_decide_eq_false (p := ((Arith.std.sub_ s a (Arith.std.len s)).length : Int) < 8) h; omega
    have hnr := nxL_range s a
    have hl4 : ((Arith.std.sub_ s a (Arith.std.len s)).take (4 : Int).toNat).length ≤ 4 := by rw [List.length_take]; have : (4 : Int).toNat = 4 := rfl; omega
    refine Need.mk (by show (0 : Int) ≤ 0 ∧ (0 : Int) ≤ 4 ∧ (4 : Int) ≤ ((Arith.std.sub_ s a (Arith.std.len s)).length : Int); omega) fun _ => Need.mk (by show (((Arith.std.sub_ s a (Arith.std.len s)).take (4 : Int).toNat).drop (0 : Int).toNat).length ≤ 4; rw [List.length_drop]; omega) fun _ => ?_
    refine Ife.mk (fun h => ?_) (fun h => ?_)
    · have h : (2147483647 : Int) < beN (Arith.std.sub_ (Arith.std.sub_ s a (Arith.std.len s)) 0 4) := of_decide_eq_true (p := (2147483647 : Int) < beN (Arith.std.sub_ (Arith.std.sub_ s a (Arith.std.len s)) 0 4)) h
      rw [eN] at h
      rw [(next_long (s := s) hr h2 h)]
      exact ⟨[0], ⟨rfl, ⟨rfl, ⟨rfl, rfl⟩, ⟨rfl, rfl⟩, trivial⟩, by decide, rfl, by repeat' (first | exact trivial | exact rfl | apply And.intro)⟩⟩
    have h3 : ¬ (2147483647 : Int) < beN (Arith.std.sub_ (Arith.std.sub_ s a (Arith.std.len s)) 0 4) := of_decide_eq_false (p := (2147483647 : Int) < beN (Arith.std.sub_ (Arith.std.sub_ s a (Arith.std.len s)) 0 4)) h
    rw [eN] at h3
    refine Need.mk (by show fitStd .i64 (((Arith.std.sub_ s a (Arith.std.len s)).length : Int) - 8); unfold fitStd; omega) fun _ => ?_
    refine Ife.mk (fun h => ?_) (fun h => ?_)
    · have h : ((Arith.std.sub_ s a (Arith.std.len s)).length : Int) - 8 < beN (Arith.std.sub_ (Arith.std.sub_ s a (Arith.std.len s)) 0 4) := of_decide_eq_true (p := ((Arith.std.sub_ s a (Arith.std.len s)).length : Int) - 8 < beN (Arith.std.sub_ (Arith.std.sub_ s a (Arith.std.len s)) 0 4)) h
      rw [eN] at h
      rw [(next_cut (s := s) hr h2 h3 (by omega))]
      exact ⟨[0], ⟨rfl, ⟨rfl, ⟨rfl, rfl⟩, ⟨rfl, rfl⟩, trivial⟩, by decide, rfl, by repeat' (first | exact trivial | exact rfl | apply And.intro)⟩⟩
    have h4 : ¬ ((Arith.std.sub_ s a (Arith.std.len s)).length : Int) - 8 < beN (Arith.std.sub_ (Arith.std.sub_ s a (Arith.std.len s)) 0 4) := of_decide_eq_false (p := ((Arith.std.sub_ s a (Arith.std.len s)).length : Int) - 8 < beN (Arith.std.sub_ (Arith.std.sub_ s a (Arith.std.len s)) 0 4)) h
    rw [eN] at h4
    have h4 : ¬ (s.length : Int) - a - 8 < nxL s a := by omega
    have eB : Arith.std.sub_ (Arith.std.sub_ s a (Arith.std.len s)) 8 (8 + beN (Arith.std.sub_ (Arith.std.sub_ s a (Arith.std.len s)) 0 4)) = nxBody s a := by
      rw [eN]
      show ((Arith.std.sub_ s a (Arith.std.len s)).take (8 + nxL s a).toNat).drop (8 : Int).toNat = _
      rw [eT]
      unfold nxBody
      rw [show (8 + nxL s a).toNat = 8 + (nxL s a).toNat by omega, show (8 : Int).toNat = 8 from rfl, List.drop_take, Nat.add_sub_cancel_left]
    have eC : Arith.std.sub_ (Arith.std.sub_ s a (Arith.std.len s)) 4 8 = ((s.drop a.toNat).take 8).drop 4 := by
      show ((Arith.std.sub_ s a (Arith.std.len s)).take (8 : Int).toNat).drop (4 : Int).toNat = _
      rw [eT]
      rfl
    have lB : (nxBody s a).length ≤ s.length := by unfold nxBody; rw [List.length_take, List.length_drop, List.length_drop]; omega
    refine Need.mk (by show fitStd .i64 (8 + beN (Arith.std.sub_ (Arith.std.sub_ s a (Arith.std.len s)) 0 4)); rw [eN]; unfold fitStd; omega) fun _ => ?_
    refine Need.mk (by show (0 : Int) ≤ 8 ∧ (8 : Int) ≤ 8 + beN (Arith.std.sub_ (Arith.std.sub_ s a (Arith.std.len s)) 0 4) ∧ 8 + beN (Arith.std.sub_ (Arith.std.sub_ s a (Arith.std.len s)) 0 4) ≤ ((Arith.std.sub_ s a (Arith.std.len s)).length : Int); rw [eN]; omega) fun _ => ?_
    refine Need.mk (by show (0 : Int) ≤ 4 ∧ (4 : Int) ≤ 8 ∧ (8 : Int) ≤ ((Arith.std.sub_ s a (Arith.std.len s)).length : Int); omega) fun _ => ?_
    refine Need.mk ⟨ksAt_self, (by show (Arith.std.sub_ (Arith.std.sub_ s a (Arith.std.len s)) 8 (8 + beN (Arith.std.sub_ (Arith.std.sub_ s a (Arith.std.len s)) 0 4))).length ≤ 140737488350000; rw [eB]; omega)⟩ fun _ => ?_
    refine Ife.mk (fun h => ?_) (fun h => ?_)
    · have h : ¬ sum4 (Arith.std.sub_ (Arith.std.sub_ s a (Arith.std.len s)) 8 (8 + beN (Arith.std.sub_ (Arith.std.sub_ s a (Arith.std.len s)) 0 4))) = Arith.std.sub_ (Arith.std.sub_ s a (Arith.std.len s)) 4 8 := by
        have h6 : (!decide (sum4 (Arith.std.sub_ (Arith.std.sub_ s a (Arith.std.len s)) 8 (8 + beN (Arith.std.sub_ (Arith.std.sub_ s a (Arith.std.len s)) 0 4))) = Arith.std.sub_ (Arith.std.sub_ s a (Arith.std.len s)) 4 8)) = true := h
        simpa using h6
      rw [eB, eC] at h
      rw [(next_sum (s := s) hr h2 h3 h4 h)]
      exact ⟨[0], ⟨rfl, ⟨rfl, ⟨rfl, rfl⟩, ⟨rfl, rfl⟩, trivial⟩, by decide, rfl, by repeat' (first | exact trivial | exact rfl | apply And.intro)⟩⟩
    have h5 : sum4 (Arith.std.sub_ (Arith.std.sub_ s a (Arith.std.len s)) 8 (8 + beN (Arith.std.sub_ (Arith.std.sub_ s a (Arith.std.len s)) 0 4))) = Arith.std.sub_ (Arith.std.sub_ s a (Arith.std.len s)) 4 8 := by
      have h6 : (!decide (sum4 (Arith.std.sub_ (Arith.std.sub_ s a (Arith.std.len s)) 8 (8 + beN (Arith.std.sub_ (Arith.std.sub_ s a (Arith.std.len s)) 0 4))) = Arith.std.sub_ (Arith.std.sub_ s a (Arith.std.len s)) 4 8)) = false := h
      simpa using h6
    rw [eB, eC] at h5
    refine Need.mk (by show (Arith.std.sub_ (Arith.std.sub_ s a (Arith.std.len s)) 8 (8 + beN (Arith.std.sub_ (Arith.std.sub_ s a (Arith.std.len s)) 0 4))).length ≤ 281474976710656; rw [eB]; omega) fun _ => ?_
    refine Need.mk (by show fitStd .i64 (a + 8); unfold fitStd; omega) fun _ => Need.mk (by show fitStd .i64 (a + 8 + beN (Arith.std.sub_ (Arith.std.sub_ s a (Arith.std.len s)) 0 4)); rw [eN]; unfold fitStd; omega) fun _ => ?_
    rw [next_ok hr h2 h3 h4 h5]
    exact ⟨[0], ⟨rfl, ⟨eB, ⟨rfl, (by show a + 8 + beN (Arith.std.sub_ (Arith.std.sub_ s a (Arith.std.len s)) 0 4) = a + 8 + nxL s a; rw [eN])⟩, ⟨rfl, rfl⟩, trivial⟩, by decide, rfl, by repeat' (first | exact trivial | exact rfl | apply And.intro)⟩⟩



end Go.Proofs.YtophhppklaofaaaDoor.Vx
end

section
/- Records, one behind the other, by the walker: Open, All; lists of texts. -/
namespace Go.Proofs.YtophhppklaofaaaDoor.Vx
open Go.RowKit Sha
set_option linter.unusedVariables false
set_option linter.unusedSimpArgs false
def openF (s : List UInt8) : List UInt8 × Int :=
  if (nextF s 0).2.2 ≠ 0 then ([], (nextF s 0).2.2) else if (nextF s 0).2.1 < (s.length : Int) then ([], 3) else ((nextF s 0).1, 0)
def sOpen : SpecF
  | [.c (.str s)], [.glob gg sz n get] => some (nextPre gg sz n get s, .tup [(some (.str (openF s).1), []), (some (.int .i64 (openF s).2), [])], [.dead])
  | _, _ => none

set_option maxRecDepth 100000 in
set_option maxHeartbeats 2000000 in
theorem openP : Fn Tryd.prog 31 [0] [] sOpen := by
  have hC : CtsOk Tryd.prog [(35, appFn [0] [] sNext)] := CtsOk.cons (Fn.ct nextP) <| CtsOk.nil _
  refine Fn.of (E := tbF0) [0] 0 [] tbF0_ok hC (by kernel_rfl) Tryd.func31 rfl rfl rfl (by kernel_rfl) (by kernel_rfl) 1 5 1 ?_ ?_
  · intro args h pre r h' hs
    unfold sOpen at hs
    split at hs
    · cases hs; exact ⟨rfl, rfl, Nat.le_of_ble_eq_true rfl⟩
    · cases hs
  · intro args h pre r h' hs hp
    unfold sOpen at hs
    split at hs
    rotate_left
    · cases hs
    rename_i s gg sz n get
    cases hs
    obtain ⟨hK, hs⟩ := hp
    refine ⟨_, hK.same, ?_⟩
    clear hK
    unfold sNext
    generalize hg0 : nextPre = g0
    generalize hg1 : nextF = g1
    generalize hg2 : openF = g2
    generalize hg3 : KsAt = g3
    generalize hg4 : kOf = g4
    generalize hg5 : (List.length : List UInt8 → Nat) = g5
    generalize hA : Arith.std = A
    cbv
    subst hA hg0 hg1 hg2 hg3 hg4 hg5
    refine Need.mk ⟨ksAt_self, hs⟩ fun _ => ?_
    refine Ife.mk (fun h => ?_) (fun h => ?_)
    · have h : (nextF s 0).2.2 ≠ 0 := by
        have h6 : (!decide ((nextF s 0).2.2 = 0)) = true := h
        simpa using h6
      rw [show openF s = ([], (nextF s 0).2.2) by unfold openF; rw [if_pos h]]
      exact ⟨[0], ⟨rfl, ⟨rfl, ⟨rfl, rfl⟩, trivial⟩, by decide, rfl, by repeat' (first | exact trivial | exact rfl | apply And.intro)⟩⟩
    have h0 : ¬ (nextF s 0).2.2 ≠ 0 := by
      have h6 : (!decide ((nextF s 0).2.2 = 0)) = false := h
      simpa using h6
    refine Ife.mk (fun h => ?_) (fun h => ?_)
    · have h : (nextF s 0).2.1 < (s.length : Int) := of_decide_eq_true (p := (nextF s 0).2.1 < (s.length : Int)) h
      rw [show openF s = ([], 3) by unfold openF; rw [if_neg h0, if_pos h]]
      exact ⟨[0], ⟨rfl, ⟨rfl, ⟨rfl, rfl⟩, trivial⟩, by decide, rfl, by repeat' (first | exact trivial | exact rfl | apply And.intro)⟩⟩
    have h : ¬ (nextF s 0).2.1 < (s.length : Int) := of_decide_eq_false (p := (nextF s 0).2.1 < (s.length : Int)) h
    rw [show openF s = ((nextF s 0).1, 0) by unfold openF; rw [if_neg h0, if_neg h]]
    exact ⟨[0], ⟨rfl, ⟨rfl, ⟨rfl, rfl⟩, trivial⟩, by decide, rfl, by repeat' (first | exact trivial | exact rfl | apply And.intro)⟩⟩







end Go.Proofs.YtophhppklaofaaaDoor.Vx
end

section
/- Lists of texts compared; the law FrameTells, by the walker. -/
namespace Go.Proofs.YtophhppklaofaaaDoor.Vx
open Go.RowKit Sha
set_option linter.unusedVariables false
set_option linter.unusedSimpArgs false
def textsEq (n : Nat) (get : Nat → List CV) (m : Nat) (get' : Nat → List CV) : Bool := decide (n = m) && (List.range n).all fun i => decide (strOf (get i) = strOf (get' i))
def textsPre (ty one n : Nat) (get : Nat → List CV) (ty' one' m : Nat) (get' : Nat → List CV) : Prop := ty = 9 ∧ one = 1 ∧ StrsAt n get ∧ n ≤ 140737488355328 ∧ ty' = 9 ∧ one' = 1 ∧ StrsAt m get' ∧ m ≤ 140737488355328
def sTexts : SpecF
  | [.c (.row 0), .c (.row 1)], [.elems ty one n get, .elems ty' one' m get'] => some (textsPre ty one n get ty' one' m get', .c (.bool (textsEq n get m get')), [.dead, .dead])
  | _, _ => none


theorem put_nil : putF [] = [0, 0, 0, 0, 227, 176, 196, 66] ∧ putE [] = 0 := by decide +kernel
def sFirst11 : SpecF
  | [], [.glob gg sz n get] => some (KsAt gg sz n get, .c .tt, [.dead])
  | _, _ => none

set_option maxRecDepth 100000 in
set_option maxHeartbeats 2000000 in
theorem first11P : Fn Tryd.prog 29 [0] [] sFirst11 := by
  have hC : CtsOk Tryd.prog [(30, appFn [0] [] sPut)] := CtsOk.cons (Fn.ct putP) <| CtsOk.nil _
  refine Fn.of (E := tbF0) [0] 0 [] tbF0_ok hC (by kernel_rfl) Tryd.func29 rfl rfl rfl (by kernel_rfl) (by kernel_rfl) 1 5 1 ?_ ?_
  · intro args h pre r h' hs
    unfold sFirst11 at hs
    split at hs
    · cases hs; exact ⟨rfl, rfl, Nat.le_of_ble_eq_true rfl⟩
    · cases hs
  · intro args h pre r h' hs hp
    unfold sFirst11 at hs
    split at hs
    rotate_left
    · cases hs
    rename_i gg sz n get
    cases hs
    refine ⟨_, hp.same, ?_⟩
    clear hp
    unfold sPut
    generalize hg0 : putPre = g0
    generalize hg1 : putF = g1
    generalize hg2 : putE = g2
    generalize hg3 : KsAt = g3
    generalize hg4 : kOf = g4
    generalize hA : Arith.std = A
    cbv
    subst hA hg0 hg1 hg2 hg3 hg4
    refine Need.mk ⟨ksAt_self, by decide⟩ fun _ => ?_
    refine Ife.mk (fun _ => ?_) (fun hb => absurd ((show decide (putF [] = [0, 0, 0, 0, 227, 176, 196, 66]) = true from decide_eq_true put_nil.1).symm.trans hb) (by decide))
    exact ⟨[0], ⟨rfl, (show decide (putE [] = 0) = true from decide_eq_true put_nil.2), by decide, rfl, by repeat' (first | exact trivial | exact rfl | apply And.intro)⟩⟩



end Go.Proofs.YtophhppklaofaaaDoor.Vx
namespace Go.Proofs.YtophhppklaofaaaDoor
open Go.RowKit
end Go.Proofs.YtophhppklaofaaaDoor
end

section
/- Records: what is read of what was written, cut, turned, or laid one behind the other: plain laws. -/
namespace Go.Proofs.YtophhppklaofaaaDoor.Vx
open Go.RowKit Sha
set_option linter.unusedVariables false
set_option linter.unusedSimpArgs false
theorem beN_four (p q r t : UInt8) : beN [p, q, r, t] = (((p.toNat : Int) * 256 + (q.toNat : Int)) * 256 + (r.toNat : Int)) * 256 + (t.toNat : Int) := by
  show (((0 * 256 + (p.toNat : Int)) * 256 + (q.toNat : Int)) * 256 + (r.toNat : Int)) * 256 + (t.toNat : Int) = _
  omega
theorem d8_nat (n : Int) (j : Nat) : (((UInt8.ofNat (d8 n j).toNat).toNat : Nat) : Int) = d8 n j := by
  have := d8_range n j
  rw [UInt8.toNat_ofNat_of_lt' (by show _ < 256; omega)]
  omega
theorem beN_be4 (n : Int) (h0 : 0 ≤ n) (h1 : n ≤ 2147483647) : beN (be4 n) = n := by
  unfold be4
  rw [beN_four, d8_nat, d8_nat, d8_nat, d8_nat]
  unfold d8
  rw [show (256 : Int) ^ (7 - 4) = 16777216 by decide, show (256 : Int) ^ (7 - 5) = 65536 by decide, show (256 : Int) ^ (7 - 6) = 256 by decide, show (256 : Int) ^ (7 - 7) = 1 by decide]
  omega
theorem next_head (pre : List UInt8) (p q r t x y z w : UInt8) (B : List UInt8) : nextF (pre ++ p :: q :: r :: t :: x :: y :: z :: w :: B) (pre.length : Int) =
    if 2147483647 < beN [p, q, r, t] then ([], 0, 4) else if (B.length : Int) < beN [p, q, r, t] then ([], 0, 2) else
    if sum4 (B.take (beN [p, q, r, t]).toNat) = [x, y, z, w] then (B.take (beN [p, q, r, t]).toNat, (pre.length : Int) + 8 + beN [p, q, r, t], 0) else ([], 0, 5) := by
  have hd : (pre ++ p :: q :: r :: t :: x :: y :: z :: w :: B).drop ((pre.length : Int)).toNat = p :: q :: r :: t :: x :: y :: z :: w :: B := by
    rw [show ((pre.length : Int)).toNat = pre.length by omega, List.drop_left]
  have hl : ((pre ++ p :: q :: r :: t :: x :: y :: z :: w :: B).length : Int) = (pre.length : Int) + 8 + (B.length : Int) := by
    simp only [List.length_append, List.length_cons]; omega
  have hn : nxL (pre ++ p :: q :: r :: t :: x :: y :: z :: w :: B) (pre.length : Int) = beN [p, q, r, t] := by unfold nxL; rw [hd]; rfl
  have hb : nxBody (pre ++ p :: q :: r :: t :: x :: y :: z :: w :: B) (pre.length : Int) = B.take (beN [p, q, r, t]).toNat := by unfold nxBody; rw [hn, hd]; rfl
  unfold nextF
  rw [hb, hn, hl, hd, if_neg (by omega), if_neg (by omega)]
  by_cases h1 : 2147483647 < beN [p, q, r, t]
  · rw [if_pos h1, if_pos h1]
  · rw [if_neg h1, if_neg h1]
    by_cases h2 : (B.length : Int) < beN [p, q, r, t]
    · rw [if_pos h2, if_pos (by omega)]
    · rw [if_neg h2, if_neg (by omega)]
      rfl
/-- A record's head, byte by byte. -/
theorem put_head (b : List UInt8) (h : b.length ≤ 2147483647) : ∃ p q r t x y z w : UInt8, putF b = p :: q :: r :: t :: x :: y :: z :: w :: b ∧ beN [p, q, r, t] = (b.length : Int) ∧ sum4 b = [x, y, z, w] := by
  have hl := sum4_len b
  obtain ⟨x, y, z, w, hs⟩ : ∃ x y z w : UInt8, sum4 b = [x, y, z, w] := by
    generalize sum4 b = l at hl
    match l, hl with
    | [x, y, z, w], _ => exact ⟨x, y, z, w, rfl⟩
  refine ⟨_, _, _, _, x, y, z, w, ?_, beN_be4 (b.length : Int) (by omega) (by omega), hs⟩
  unfold putF
  rw [if_neg (by omega), hs]
  rfl
theorem next_put (pre b rest : List UInt8) (h : b.length ≤ 2147483647) : nextF (pre ++ (putF b ++ rest)) (pre.length : Int) = (b, (pre.length : Int) + 8 + (b.length : Int), 0) := by
  obtain ⟨p, q, r, t, x, y, z, w, e, hn, hs⟩ := put_head b h
  rw [e]
  show nextF (pre ++ p :: q :: r :: t :: x :: y :: z :: w :: (b ++ rest)) _ = _
  rw [next_head, hn, if_neg (by omega), if_neg (by rw [List.length_append]; omega), show ((b.length : Int)).toNat = b.length by omega, List.take_left, if_pos hs]
theorem next0_put (b rest : List UInt8) (h : b.length ≤ 2147483647) : nextF (putF b ++ rest) 0 = (b, 8 + (b.length : Int), 0) := by
  have := next_put [] b rest h
  simpa using this
theorem put_len (b : List UInt8) (h : b.length ≤ 2147483647) : (putF b).length = 8 + b.length ∧ putE b = 0 := by
  obtain ⟨p, q, r, t, x, y, z, w, e, _, _⟩ := put_head b h
  refine ⟨by rw [e]; simp only [List.length_cons]; omega, ?_⟩
  unfold putE
  rw [if_neg (by omega)]
theorem open_put (b : List UInt8) (h : b.length ≤ 2147483647) : openF (putF b) = (b, 0) := by
  have e := next0_put b [] h
  have l := (put_len b h).1
  rw [List.append_nil] at e
  unfold openF
  rw [e, if_neg (fun h => h rfl), if_neg (by rw [l]; show ¬ (8 + (b.length : Int) < _); omega)]
theorem open_more (b m : List UInt8) (h : b.length ≤ 2147483647) (hm : m ≠ []) : openF (putF b ++ m) = ([], 3) := by
  have e := next0_put b m h
  have l := (put_len b h).1
  have hm2 : 0 < m.length := List.length_pos_iff.2 hm
  unfold openF
  rw [e, if_neg (fun h => h rfl), if_pos (by rw [List.length_append, l]; show 8 + (b.length : Int) < _; omega)]
theorem open_of_next {s : List UInt8} {e : Int} (h : nextF s 0 = ([], 0, e)) (he : e ≠ 0) : openF s = ([], e) := by
  unfold openF
  rw [h, if_pos he]
theorem open_cut (b : List UInt8) (c : Nat) (h : b.length ≤ 2147483647) (hc : c < 8 + b.length) : openF ((putF b).take c) = ([], 2) := by
  refine open_of_next ?_ (by decide)
  obtain ⟨p, q, r, t, x, y, z, w, e, hn, hs⟩ := put_head b h
  have l := (put_len b h).1
  by_cases h8 : c < 8
  · exact next_short (by rw [List.length_take]; omega) (by rw [List.length_take]; omega)
  · obtain ⟨d, rfl⟩ : ∃ d, c = d + 8 := ⟨c - 8, by omega⟩
    rw [e]
    show nextF ([] ++ p :: q :: r :: t :: x :: y :: z :: w :: b.take d) (([] : List UInt8).length : Int) = _
    rw [next_head, hn, if_neg (by omega), if_pos (by rw [List.length_take]; omega)]
theorem take4_ne {p q r t p' q' r' t' : UInt8} (h : ¬ (p = p' ∧ q = q' ∧ r = r' ∧ t = t')) : beN [p, q, r, t] ≠ beN [p', q', r', t'] := by
  rw [beN_four, beN_four]
  intro e
  refine h ⟨?_, ?_, ?_, ?_⟩ <;> apply UInt8.toNat_inj.1 <;>
  · have h1 := p.toNat_lt; have h2 := q.toNat_lt; have h3 := r.toNat_lt; have h4 := t.toNat_lt
    have g1 := p'.toNat_lt; have g2 := q'.toNat_lt; have g3 := r'.toNat_lt; have g4 := t'.toNat_lt
    omega
/-- Another head: refused. -/
theorem open_size (b : List UInt8) (p q r t x y z w : UInt8) (h : b.length ≤ 2147483647) (hn : beN [p, q, r, t] ≠ (b.length : Int)) : (openF (p :: q :: r :: t :: x :: y :: z :: w :: b)).2 ≠ 0 := by
  have e : nextF (p :: q :: r :: t :: x :: y :: z :: w :: b) 0 = _ := next_head [] p q r t x y z w b
  have hr := (beN_range [p, q, r, t]).1
  unfold openF
  rw [e]
  by_cases h1 : 2147483647 < beN [p, q, r, t]
  · rw [if_pos h1]; simp
  · rw [if_neg h1]
    by_cases h2 : (b.length : Int) < beN [p, q, r, t]
    · rw [if_pos h2]; simp
    · rw [if_neg h2]
      by_cases h3 : sum4 (b.take (beN [p, q, r, t]).toNat) = [x, y, z, w]
      · rw [if_pos h3, if_neg (fun h => h rfl), if_pos (by show (((([] : List UInt8).length : Nat) : Int) + 8 + beN [p, q, r, t] : Int) < _; simp only [List.length_cons, List.length_nil]; omega)]
        decide
      · rw [if_neg h3]; simp
theorem open_sum (b : List UInt8) (p q r t x y z w : UInt8) (h : b.length ≤ 2147483647) (hn : beN [p, q, r, t] = (b.length : Int)) (hs : sum4 b ≠ [x, y, z, w]) : openF (p :: q :: r :: t :: x :: y :: z :: w :: b) = ([], 5) := by
  have e : nextF (p :: q :: r :: t :: x :: y :: z :: w :: b) 0 = _ := next_head [] p q r t x y z w b
  refine open_of_next ?_ (by decide)
  rw [e, hn, if_neg (by omega), if_neg (by omega), show ((b.length : Int)).toNat = b.length by omega, List.take_length, if_neg hs]
/-- A byte of the head turned. -/
theorem open_turned (b : List UInt8) (a : Nat) (v : UInt8) (h : b.length ≤ 2147483647) (ha : a < 8) (hv : v ≠ (putF b).getD a 0) : (openF ((putF b).set a v)).2 ≠ 0 ∧ (4 ≤ a → (openF ((putF b).set a v)).2 = 5) := by
  obtain ⟨p, q, r, t, x, y, z, w, e, hn, hs⟩ := put_head b h
  rw [e] at hv ⊢
  have lo : ∀ p' q' r' t' : UInt8, ¬ (p' = p ∧ q' = q ∧ r' = r ∧ t' = t) → (openF (p' :: q' :: r' :: t' :: x :: y :: z :: w :: b)).2 ≠ 0 := fun p' q' r' t' h1 => open_size b p' q' r' t' x y z w h (by rw [← hn]; exact take4_ne h1)
  have hi : ∀ x' y' z' w' : UInt8, ¬ (x = x' ∧ y = y' ∧ z = z' ∧ w = w') → (openF (p :: q :: r :: t :: x' :: y' :: z' :: w' :: b)).2 = 5 := fun x' y' z' w' h1 => by
    rw [open_sum b p q r t x' y' z' w' h hn (by rw [hs]; intro h2; simp only [List.cons.injEq, and_true] at h2; exact h1 h2)]
  have hc : a = 0 ∨ a = 1 ∨ a = 2 ∨ a = 3 ∨ a = 4 ∨ a = 5 ∨ a = 6 ∨ a = 7 := by omega
  rcases hc with rfl | rfl | rfl | rfl | rfl | rfl | rfl | rfl
  · exact ⟨lo v q r t (fun h => hv h.1), fun h => absurd h (by decide)⟩
  · exact ⟨lo p v r t (fun h => hv h.2.1), fun h => absurd h (by decide)⟩
  · exact ⟨lo p q v t (fun h => hv h.2.2.1), fun h => absurd h (by decide)⟩
  · exact ⟨lo p q r v (fun h => hv h.2.2.2), fun h => absurd h (by decide)⟩
  · have k := hi v y z w (fun h => hv h.1.symm)
    exact ⟨fun h0 => absurd (k.symm.trans h0) (by decide), fun _ => k⟩
  · have k := hi x v z w (fun h => hv h.2.1.symm)
    exact ⟨fun h0 => absurd (k.symm.trans h0) (by decide), fun _ => k⟩
  · have k := hi x y v w (fun h => hv h.2.2.1.symm)
    exact ⟨fun h0 => absurd (k.symm.trans h0) (by decide), fun _ => k⟩
  · have k := hi x y z v (fun h => hv h.2.2.2.symm)
    exact ⟨fun h0 => absurd (k.symm.trans h0) (by decide), fun _ => k⟩
end Go.Proofs.YtophhppklaofaaaDoor.Vx
end
