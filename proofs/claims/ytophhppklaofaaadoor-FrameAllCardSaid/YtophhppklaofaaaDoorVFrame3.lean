/- Records read, by the walker: Next, Open. -/
import Derived.Test.YtophhppklaofaaaDoorVFrame2
namespace Go.Proofs.YtophhppklaofaaaDoor.Vx
open Go.RowKit Sha
set_option linter.unusedVariables false
set_option linter.unusedSimpArgs false
/-- The number in a record's head. -/
def nxL (s : List UInt8) (a : Int) : Int := beN ((s.drop a.toNat).take 4)
def nxBody (s : List UInt8) (a : Int) : List UInt8 := ((s.drop a.toNat).drop 8).take (nxL s a).toNat
def nextF (s : List UInt8) (a : Int) : List UInt8 × Int × Int :=
  if a < 0 ∨ (s.length : Int) < a then ([], 0, 1) else
  if (s.length : Int) - a < 8 then ([], 0, 2) else
  if 2147483647 < nxL s a then ([], 0, 4) else
  if (s.length : Int) - a - 8 < nxL s a then ([], 0, 2) else
  if sum4 (nxBody s a) = ((s.drop a.toNat).take 8).drop 4 then (nxBody s a, a + 8 + nxL s a, 0) else ([], 0, 5)
theorem nxL_range (s : List UInt8) (a : Int) : 0 ≤ nxL s a ∧ nxL s a < 4294967296 := by
  have h := beN_range ((s.drop a.toNat).take 4)
  have h2 : (256 : Int) ^ ((s.drop a.toNat).take 4).length ≤ 4294967296 := by
    have hl : ((s.drop a.toNat).take 4).length ≤ 4 := by rw [List.length_take]; omega
    generalize ((s.drop a.toNat).take 4).length = k at hl
    have : k = 0 ∨ k = 1 ∨ k = 2 ∨ k = 3 ∨ k = 4 := by omega
    rcases this with h | h | h | h | h <;> rw [h] <;> decide
  unfold nxL
  omega
theorem next_range {s : List UInt8} {a : Int} (h : a < 0 ∨ (s.length : Int) < a) : nextF s a = ([], 0, 1) := by unfold nextF; rw [if_pos h]
theorem next_short {s : List UInt8} {a : Int} (h : ¬ (a < 0 ∨ (s.length : Int) < a)) (h1 : (s.length : Int) - a < 8) : nextF s a = ([], 0, 2) := by unfold nextF; rw [if_neg h, if_pos h1]
theorem next_long {s : List UInt8} {a : Int} (h : ¬ (a < 0 ∨ (s.length : Int) < a)) (h1 : ¬ (s.length : Int) - a < 8) (h2 : 2147483647 < nxL s a) : nextF s a = ([], 0, 4) := by unfold nextF; rw [if_neg h, if_neg h1, if_pos h2]
theorem next_cut {s : List UInt8} {a : Int} (h : ¬ (a < 0 ∨ (s.length : Int) < a)) (h1 : ¬ (s.length : Int) - a < 8) (h2 : ¬ 2147483647 < nxL s a) (h3 : (s.length : Int) - a - 8 < nxL s a) : nextF s a = ([], 0, 2) := by unfold nextF; rw [if_neg h, if_neg h1, if_neg h2, if_pos h3]
theorem next_sum {s : List UInt8} {a : Int} (h : ¬ (a < 0 ∨ (s.length : Int) < a)) (h1 : ¬ (s.length : Int) - a < 8) (h2 : ¬ 2147483647 < nxL s a) (h3 : ¬ (s.length : Int) - a - 8 < nxL s a) (h4 : ¬ sum4 (nxBody s a) = ((s.drop a.toNat).take 8).drop 4) : nextF s a = ([], 0, 5) := by unfold nextF; rw [if_neg h, if_neg h1, if_neg h2, if_neg h3, if_neg h4]
theorem next_ok {s : List UInt8} {a : Int} (h : ¬ (a < 0 ∨ (s.length : Int) < a)) (h1 : ¬ (s.length : Int) - a < 8) (h2 : ¬ 2147483647 < nxL s a) (h3 : ¬ (s.length : Int) - a - 8 < nxL s a) (h4 : sum4 (nxBody s a) = ((s.drop a.toNat).take 8).drop 4) : nextF s a = (nxBody s a, a + 8 + nxL s a, 0) := by unfold nextF; rw [if_neg h, if_neg h1, if_neg h2, if_neg h3, if_pos h4]
def nextPre (gg sz n : Nat) (get : Nat → List CV) (s : List UInt8) : Prop := KsAt gg sz n get ∧ s.length ≤ 140737488350000
def sNext : SpecF
  | [.c (.str s), .c (.int .i64 a)], [.glob gg sz n get] => some (nextPre gg sz n get s, .tup [(some (.str (nextF s a).1), []), (some (.int .i64 (nextF s a).2.1), []), (some (.int .i64 (nextF s a).2.2), [])], [.dead])
  | _, _ => none

set_option maxRecDepth 100000 in
set_option maxHeartbeats 2000000 in
theorem nextP : Fn Tryd.prog 35 [0] [] sNext := by
  have hC : CtsOk Tryd.prog [(82, appPure sBeN), (80, appFn [0] [] sSum4), (83, appPure sClone)] := CtsOk.cons (Pure.ct beNP) <| CtsOk.cons (Fn.ct sum4P) <| CtsOk.cons (Pure.ct cloneP) <| CtsOk.nil _
  refine Fn.of (E := tbF0) [0] 0 [(12, [(0, true), (2, true), (3, true), (1, false), (4, true)])] tbF0_ok hC (by kernel_rfl) Tryd.func35 rfl rfl rfl (by kernel_rfl) (by kernel_rfl) 1 5 1 ?_ ?_
  · intro args h pre r h' hs
    unfold sNext at hs
    split at hs
    · cases hs; exact ⟨rfl, rfl, Nat.le_of_ble_eq_true rfl⟩
    · cases hs
  · intro args h pre r h' hs hp
    unfold sNext at hs
    split at hs
    rotate_left
    · cases hs
    rename_i s a gg sz n get
    cases hs
    obtain ⟨hK, hs⟩ := hp
    refine ⟨_, hK.same, ?_⟩
    clear hK
    unfold sSum4 sBeN sClone
    generalize hg0 : sum4Pre = g0
    generalize hg1 : beNPre = g1
    generalize hg2 : sum4 = g2
    generalize hg3 : beN = g3
    generalize hg4 : nextF = g4
    generalize hg5 : KsAt = g5
    generalize hg6 : kOf = g6
    generalize hg7 : (List.length : List UInt8 → Nat) = g7
    generalize hA : Arith.std = A
    cbv
    subst hA hg0 hg1 hg2 hg3 hg4 hg5 hg6 hg7
    refine Ife.mk (fun h => ?_) (fun h => ?_)
    · have h : a < 0 := of_decide_eq_true (p := a < 0) h
      rw [(next_range (s := s) (Or.inl h))]
      exact ⟨[0], ⟨rfl, ⟨rfl, ⟨rfl, rfl⟩, ⟨rfl, rfl⟩, trivial⟩, by decide, rfl, by repeat' (first | exact trivial | exact rfl | apply And.intro)⟩⟩
    have h0 : ¬ a < 0 := of_decide_eq_false (p := a < 0) h
    refine Ife.mk (fun h => ?_) (fun h => ?_)
    · have h : (s.length : Int) < a := of_decide_eq_true (p := (s.length : Int) < a) h
      rw [(next_range (s := s) (Or.inr h))]
      exact ⟨[0], ⟨rfl, ⟨rfl, ⟨rfl, rfl⟩, ⟨rfl, rfl⟩, trivial⟩, by decide, rfl, by repeat' (first | exact trivial | exact rfl | apply And.intro)⟩⟩
    have h1 : ¬ (s.length : Int) < a := of_decide_eq_false (p := (s.length : Int) < a) h
    have hr : ¬ (a < 0 ∨ (s.length : Int) < a) := by omega
    have eT : Arith.std.sub_ s a (Arith.std.len s) = s.drop a.toNat := by
      show (s.take (s.length : Int).toNat).drop a.toNat = _
      rw [List.take_of_length_le (by omega)]
    have lT : ((Arith.std.sub_ s a (Arith.std.len s)).length : Int) = (s.length : Int) - a := by rw [eT, List.length_drop]; omega
    have eN : beN (Arith.std.sub_ (Arith.std.sub_ s a (Arith.std.len s)) 0 4) = nxL s a := by
      unfold nxL
      rw [eT]
      rfl
    refine Need.mk (by show 0 ≤ a ∧ a ≤ (s.length : Int) ∧ (s.length : Int) ≤ (s.length : Int); omega) fun _ => ?_
    refine Ife.mk (fun h => ?_) (fun h => ?_)
    · have h : ((Arith.std.sub_ s a (Arith.std.len s)).length : Int) < 8 := of_decide_eq_true (p := ((Arith.std.sub_ s a (Arith.std.len s)).length : Int) < 8) h
      rw [(next_short (s := s) hr (by omega))]
      exact ⟨[0], ⟨rfl, ⟨rfl, ⟨rfl, rfl⟩, ⟨rfl, rfl⟩, trivial⟩, by decide, rfl, by repeat' (first | exact trivial | exact rfl | apply And.intro)⟩⟩
    have h2 : ¬ (s.length : Int) - a < 8 := by have := of_decide_eq_false (p := ((Arith.std.sub_ s a (Arith.std.len s)).length : Int) < 8) h; omega
    have hnr := nxL_range s a
    have hl4 : ((Arith.std.sub_ s a (Arith.std.len s)).take (4 : Int).toNat).length ≤ 4 := by rw [List.length_take]; have : (4 : Int).toNat = 4 := rfl; omega
    refine Need.mk (by show (0 : Int) ≤ 0 ∧ (0 : Int) ≤ 4 ∧ (4 : Int) ≤ ((Arith.std.sub_ s a (Arith.std.len s)).length : Int); omega) fun _ => Need.mk (by show (((Arith.std.sub_ s a (Arith.std.len s)).take (4 : Int).toNat).drop (0 : Int).toNat).length ≤ 4; rw [List.length_drop]; omega) fun _ => ?_
    refine Ife.mk (fun h => ?_) (fun h => ?_)
    · have h : (2147483647 : Int) < beN (Arith.std.sub_ (Arith.std.sub_ s a (Arith.std.len s)) 0 4) := of_decide_eq_true (p := (2147483647 : Int) < beN (Arith.std.sub_ (Arith.std.sub_ s a (Arith.std.len s)) 0 4)) h
      rw [eN] at h
      rw [(next_long (s := s) hr h2 h)]
      exact ⟨[0], ⟨rfl, ⟨rfl, ⟨rfl, rfl⟩, ⟨rfl, rfl⟩, trivial⟩, by decide, rfl, by repeat' (first | exact trivial | exact rfl | apply And.intro)⟩⟩
    have h3 : ¬ (2147483647 : Int) < beN (Arith.std.sub_ (Arith.std.sub_ s a (Arith.std.len s)) 0 4) := of_decide_eq_false (p := (2147483647 : Int) < beN (Arith.std.sub_ (Arith.std.sub_ s a (Arith.std.len s)) 0 4)) h
    rw [eN] at h3
    refine Need.mk (by show fitStd .i64 (((Arith.std.sub_ s a (Arith.std.len s)).length : Int) - 8); unfold fitStd; omega) fun _ => ?_
    refine Ife.mk (fun h => ?_) (fun h => ?_)
    · have h : ((Arith.std.sub_ s a (Arith.std.len s)).length : Int) - 8 < beN (Arith.std.sub_ (Arith.std.sub_ s a (Arith.std.len s)) 0 4) := of_decide_eq_true (p := ((Arith.std.sub_ s a (Arith.std.len s)).length : Int) - 8 < beN (Arith.std.sub_ (Arith.std.sub_ s a (Arith.std.len s)) 0 4)) h
      rw [eN] at h
      rw [(next_cut (s := s) hr h2 h3 (by omega))]
      exact ⟨[0], ⟨rfl, ⟨rfl, ⟨rfl, rfl⟩, ⟨rfl, rfl⟩, trivial⟩, by decide, rfl, by repeat' (first | exact trivial | exact rfl | apply And.intro)⟩⟩
    have h4 : ¬ ((Arith.std.sub_ s a (Arith.std.len s)).length : Int) - 8 < beN (Arith.std.sub_ (Arith.std.sub_ s a (Arith.std.len s)) 0 4) := of_decide_eq_false (p := ((Arith.std.sub_ s a (Arith.std.len s)).length : Int) - 8 < beN (Arith.std.sub_ (Arith.std.sub_ s a (Arith.std.len s)) 0 4)) h
    rw [eN] at h4
    have h4 : ¬ (s.length : Int) - a - 8 < nxL s a := by omega
    have eB : Arith.std.sub_ (Arith.std.sub_ s a (Arith.std.len s)) 8 (8 + beN (Arith.std.sub_ (Arith.std.sub_ s a (Arith.std.len s)) 0 4)) = nxBody s a := by
      rw [eN]
      show ((Arith.std.sub_ s a (Arith.std.len s)).take (8 + nxL s a).toNat).drop (8 : Int).toNat = _
      rw [eT]
      unfold nxBody
      rw [show (8 + nxL s a).toNat = 8 + (nxL s a).toNat by omega, show (8 : Int).toNat = 8 from rfl, List.drop_take, Nat.add_sub_cancel_left]
    have eC : Arith.std.sub_ (Arith.std.sub_ s a (Arith.std.len s)) 4 8 = ((s.drop a.toNat).take 8).drop 4 := by
      show ((Arith.std.sub_ s a (Arith.std.len s)).take (8 : Int).toNat).drop (4 : Int).toNat = _
      rw [eT]
      rfl
    have lB : (nxBody s a).length ≤ s.length := by unfold nxBody; rw [List.length_take, List.length_drop, List.length_drop]; omega
    refine Need.mk (by show fitStd .i64 (8 + beN (Arith.std.sub_ (Arith.std.sub_ s a (Arith.std.len s)) 0 4)); rw [eN]; unfold fitStd; omega) fun _ => ?_
    refine Need.mk (by show (0 : Int) ≤ 8 ∧ (8 : Int) ≤ 8 + beN (Arith.std.sub_ (Arith.std.sub_ s a (Arith.std.len s)) 0 4) ∧ 8 + beN (Arith.std.sub_ (Arith.std.sub_ s a (Arith.std.len s)) 0 4) ≤ ((Arith.std.sub_ s a (Arith.std.len s)).length : Int); rw [eN]; omega) fun _ => ?_
    refine Need.mk (by show (0 : Int) ≤ 4 ∧ (4 : Int) ≤ 8 ∧ (8 : Int) ≤ ((Arith.std.sub_ s a (Arith.std.len s)).length : Int); omega) fun _ => ?_
    refine Need.mk ⟨ksAt_self, (by show (Arith.std.sub_ (Arith.std.sub_ s a (Arith.std.len s)) 8 (8 + beN (Arith.std.sub_ (Arith.std.sub_ s a (Arith.std.len s)) 0 4))).length ≤ 140737488350000; rw [eB]; omega)⟩ fun _ => ?_
    refine Ife.mk (fun h => ?_) (fun h => ?_)
    · have h : ¬ sum4 (Arith.std.sub_ (Arith.std.sub_ s a (Arith.std.len s)) 8 (8 + beN (Arith.std.sub_ (Arith.std.sub_ s a (Arith.std.len s)) 0 4))) = Arith.std.sub_ (Arith.std.sub_ s a (Arith.std.len s)) 4 8 := by
        have h6 : (!decide (sum4 (Arith.std.sub_ (Arith.std.sub_ s a (Arith.std.len s)) 8 (8 + beN (Arith.std.sub_ (Arith.std.sub_ s a (Arith.std.len s)) 0 4))) = Arith.std.sub_ (Arith.std.sub_ s a (Arith.std.len s)) 4 8)) = true := h
        simpa using h6
      rw [eB, eC] at h
      rw [(next_sum (s := s) hr h2 h3 h4 h)]
      exact ⟨[0], ⟨rfl, ⟨rfl, ⟨rfl, rfl⟩, ⟨rfl, rfl⟩, trivial⟩, by decide, rfl, by repeat' (first | exact trivial | exact rfl | apply And.intro)⟩⟩
    have h5 : sum4 (Arith.std.sub_ (Arith.std.sub_ s a (Arith.std.len s)) 8 (8 + beN (Arith.std.sub_ (Arith.std.sub_ s a (Arith.std.len s)) 0 4))) = Arith.std.sub_ (Arith.std.sub_ s a (Arith.std.len s)) 4 8 := by
      have h6 : (!decide (sum4 (Arith.std.sub_ (Arith.std.sub_ s a (Arith.std.len s)) 8 (8 + beN (Arith.std.sub_ (Arith.std.sub_ s a (Arith.std.len s)) 0 4))) = Arith.std.sub_ (Arith.std.sub_ s a (Arith.std.len s)) 4 8)) = false := h
      simpa using h6
    rw [eB, eC] at h5
    refine Need.mk (by show (Arith.std.sub_ (Arith.std.sub_ s a (Arith.std.len s)) 8 (8 + beN (Arith.std.sub_ (Arith.std.sub_ s a (Arith.std.len s)) 0 4))).length ≤ 281474976710656; rw [eB]; omega) fun _ => ?_
    refine Need.mk (by show fitStd .i64 (a + 8); unfold fitStd; omega) fun _ => Need.mk (by show fitStd .i64 (a + 8 + beN (Arith.std.sub_ (Arith.std.sub_ s a (Arith.std.len s)) 0 4)); rw [eN]; unfold fitStd; omega) fun _ => ?_
    rw [next_ok hr h2 h3 h4 h5]
    exact ⟨[0], ⟨rfl, ⟨eB, ⟨rfl, (by show a + 8 + beN (Arith.std.sub_ (Arith.std.sub_ s a (Arith.std.len s)) 0 4) = a + 8 + nxL s a; rw [eN])⟩, ⟨rfl, rfl⟩, trivial⟩, by decide, rfl, by repeat' (first | exact trivial | exact rfl | apply And.intro)⟩⟩

def sRNext : List SV → Option (Prop × SV)
  | [.c (.str s), .c (.int .i64 a)] => some (rsumPre s, .tup [(some (.str (nextF s a).1), []), (some (.int .i64 (nextF s a).2.1), []), (some (.int .i64 (nextF s a).2.2), [])])
  | _ => none

structure LNx (s : List UInt8) (a : Int) where
  i : Int
  n : Int
  h0 : 0 ≤ i
  h1 : i ≤ 4
  h2 : n = beN ((s.drop a.toNat).take i.toNat)
set_option maxRecDepth 100000 in
set_option maxHeartbeats 2000000 in
theorem rnextP : Pure Tryd.prog 36 sRNext := by
  have hC : CtsOk Tryd.prog [(81, appPure sRSum4)] := CtsOk.cons (Pure.ct rsum4P) <| CtsOk.nil _
  refine Pure.of (E := tbF0) (C := [(81, appPure sRSum4)]) [] 0 [(15, [(0, true), (2, true), (3, true), (4, true), (5, true), (6, true), (7, true), (1, false), (8, true)])] tbF0_ok hC (by kernel_rfl) Tryd.func36 rfl rfl rfl (by kernel_rfl) (by kernel_rfl) ?_ ?_
  · intro args pre r h
    unfold sRNext at h
    split at h
    · cases h; rfl
    · cases h
  · intro args pre r h hp
    unfold sRNext at h
    split at h
    rotate_left
    · cases h
    rename_i s a
    cases h
    have hs : s.length ≤ 140737488350000 := hp
    unfold sRSum4
    generalize hg0 : rsumPre = g0
    generalize hg1 : sum4 = g1
    generalize hg2 : nextF = g2
    generalize hg3 : (List.length : List UInt8 → Nat) = g3
    generalize hL : lft Tryd.prog _ = L
    generalize hA : Arith.std = A
    cbv
    subst hA hg0 hg1 hg2 hg3 hL
    refine Ife.mk (fun h => ?_) (fun h => ?_)
    · have h : a < 0 := of_decide_eq_true (p := a < 0) h
      rw [(next_range (s := s) (Or.inl h))]
      exact ⟨rfl, rfl, rfl, trivial⟩
    have h0 : ¬ a < 0 := of_decide_eq_false (p := a < 0) h
    refine Ife.mk (fun h => ?_) (fun h => ?_)
    · have h : (s.length : Int) < a := of_decide_eq_true (p := (s.length : Int) < a) h
      rw [(next_range (s := s) (Or.inr h))]
      exact ⟨rfl, rfl, rfl, trivial⟩
    have h1 : ¬ (s.length : Int) < a := of_decide_eq_false (p := (s.length : Int) < a) h
    have hr : ¬ (a < 0 ∨ (s.length : Int) < a) := by omega
    refine Need.mk (by show fitStd .i64 ((s.length : Int) - a); unfold fitStd; omega) fun _ => ?_
    refine Ife.mk (fun h => ?_) (fun h => ?_)
    · have h : (s.length : Int) - a < 8 := of_decide_eq_true (p := (s.length : Int) - a < 8) h
      rw [(next_short (s := s) hr h)]
      exact ⟨rfl, rfl, rfl, trivial⟩
    have h2 : ¬ (s.length : Int) - a < 8 := of_decide_eq_false (p := (s.length : Int) - a < 8) h
    show Runs Tryd.prog 0 (.loop _) _ _
    refine loop_ruleR (N := env (lft Tryd.prog 0) 0 .std tbF0 [(81, appPure sRSum4)] [(15, [(0, true), (2, true), (3, true), (4, true), (5, true), (6, true), (7, true), (1, false), (8, true)])]) rfl tbF0_ok hC (fun c st K _ h => h) (by kernel_rfl) [] (X := LNx s a)
      (S := fun x => ⟨[.c (.str s), .c (.int .i64 a), .any, .any, .any, .any, .any, .c (.int .i64 x.n), .c (.int .i64 x.i)] ++ List.replicate 58 .any, []⟩) (μ := fun x => 4 - x.i.toNat) ⟨0, 0, by omega, by omega, rfl⟩ (by kernel_rfl) [] ?_ ?_
    · refine ⟨rfl, by decide, ?_, ?_⟩ <;> repeat' (first | exact trivial | exact rfl | apply And.intro)
    rintro ⟨i, n, hi0, hi4, hn⟩
    unfold sRSum4
    generalize hg0 : rsumPre = g0
    generalize hg1 : sum4 = g1
    generalize hg2 : nextF = g2
    generalize hg3 : (List.length : List UInt8 → Nat) = g3
    generalize hL : lft Tryd.prog _ = L
    generalize hA : Arith.std = A
    cbv
    subst hA hg0 hg1 hg2 hg3 hL
    replace hi0 : 0 ≤ i := hi0
    replace hi4 : i ≤ 4 := hi4
    replace hn : n = beN ((s.drop a.toNat).take i.toNat) := hn
    replace hs : s.length ≤ 140737488350000 := hs
    replace h1 : ¬ @Nat.cast Int instNatCastInt s.length < a := h1
    replace h2 : ¬ @Nat.cast Int instNatCastInt s.length - a < 8 := h2
    replace hr : ¬ (a < 0 ∨ @Nat.cast Int instNatCastInt s.length < a) := hr
    refine Ife.mk (fun hlt => ?_) (fun hlt => ?_)
    · replace hlt : i < 4 := of_decide_eq_true (p := i < 4) hlt
      have hrg := beN_range ((s.drop a.toNat).take i.toNat)
      have h256 : (256 : Int) ^ ((s.drop a.toNat).take i.toNat).length ≤ 16777216 := by
        rw [List.length_take, List.length_drop, Nat.min_eq_left (by omega)]
        have : i.toNat = 0 ∨ i.toNat = 1 ∨ i.toNat = 2 ∨ i.toNat = 3 := by omega
        rcases this with h | h | h | h <;> rw [h] <;> decide
      rw [← hn] at hrg
      have hb := (s.getD (a + i).toNat 0).toNat_lt
      have hw : IntKind.wrap .i64 (((s.getD (a + i).toNat 0).toNat : Nat) : Int) = (((s.getD (a + i).toNat 0).toNat : Nat) : Int) := fitStd_wrap (by unfold fitStd; omega)
      refine Need.mk (by show fitStd .i64 (n * 256); unfold fitStd; omega) fun _ => Need.mk (by show fitStd .i64 (a + i); unfold fitStd; omega) fun _ => Need.mk (by show 0 ≤ a + i ∧ a + i < (s.length : Int); omega) fun _ => ?_
      refine Need.mk (by show fitStd .i64 (n * 256 + IntKind.wrap .i64 (((s.getD (a + i).toNat 0).toNat : Nat) : Int)); rw [hw]; unfold fitStd; omega) fun _ => Need.mk (by show fitStd .i64 (i + 1); unfold fitStd; omega) fun _ => ?_
      refine ⟨⟨i + 1, ?nv, by omega, by omega, ?h2⟩, [], (by show 4 - (i + 1).toNat < 4 - i.toNat; omega), ?st⟩
      case st => refine ⟨rfl, by decide, ?_, ?_⟩ <;> repeat' (first | exact trivial | exact rfl | apply And.intro)
      case h2 =>
        rw [show (i + 1).toNat = i.toNat + 1 by omega, beN_take _ i.toNat (by rw [List.length_drop]; omega), ← hn]
        show n * 256 + IntKind.wrap .i64 (((s.getD (a + i).toNat 0).toNat : Nat) : Int) = _
        rw [hw, show (s.drop a.toNat).getD i.toNat 0 = s.getD (a + i).toNat 0 by
          rw [List.getD_eq_getElem?_getD, List.getD_eq_getElem?_getD, List.getElem?_drop, show a.toNat + i.toNat = (a + i).toNat by omega]]
    · replace hlt : ¬ i < 4 := of_decide_eq_false (p := i < 4) hlt
      obtain rfl : n = nxL s a := by rw [hn, show i.toNat = 4 by omega]; rfl
      have hnr := nxL_range s a
      refine Ife.mk (fun h => ?_) (fun h => ?_)
      · have h : (2147483647 : Int) < nxL s a := of_decide_eq_true (p := (2147483647 : Int) < nxL s a) h
        rw [(next_long (s := s) hr h2 h)]
        exact ⟨rfl, rfl, rfl, trivial⟩
      have h3 : ¬ (2147483647 : Int) < nxL s a := of_decide_eq_false (p := (2147483647 : Int) < nxL s a) h
      refine Need.mk (by show fitStd .i64 ((s.length : Int) - a); unfold fitStd; omega) fun _ => Need.mk (by show fitStd .i64 ((s.length : Int) - a - 8); unfold fitStd; omega) fun _ => ?_
      refine Ife.mk (fun h => ?_) (fun h => ?_)
      · have h : (s.length : Int) - a - 8 < nxL s a := of_decide_eq_true (p := (s.length : Int) - a - 8 < nxL s a) h
        rw [(next_cut (s := s) hr h2 h3 h)]
        exact ⟨rfl, rfl, rfl, trivial⟩
      have h4 : ¬ (s.length : Int) - a - 8 < nxL s a := of_decide_eq_false (p := (s.length : Int) - a - 8 < nxL s a) h
      have eB : Arith.std.sub_ s (a + 8) (a + 8 + nxL s a) = nxBody s a := by
        show (s.take (a + 8 + nxL s a).toNat).drop (a + 8).toNat = _
        unfold nxBody
        rw [show (a + 8 + nxL s a).toNat = (a.toNat + 8) + (nxL s a).toNat by omega, show (a + 8).toNat = a.toNat + 8 by omega, List.drop_take, Nat.add_sub_cancel_left, List.drop_drop]
      have eC : Arith.std.sub_ s (a + 4) (a + 8) = ((s.drop a.toNat).take 8).drop 4 := by
        show (s.take (a + 8).toNat).drop (a + 4).toNat = _
        rw [show (a + 8).toNat = a.toNat + 8 by omega, show (a + 4).toNat = a.toNat + 4 by omega, List.drop_take, List.drop_take, List.drop_drop, show a.toNat + 8 - (a.toNat + 4) = 8 - 4 by omega]
      have lB : (nxBody s a).length ≤ s.length := by unfold nxBody; rw [List.length_take, List.length_drop, List.length_drop]; omega
      have f8 : fitStd .i64 (a + 8) := by unfold fitStd; omega
      have f9 : fitStd .i64 (a + 8 + nxL s a) := by unfold fitStd; omega
      refine Need.mk f8 fun _ => Need.mk f8 fun _ => Need.mk f9 fun _ => Need.mk (by show 0 ≤ a + 8 ∧ a + 8 ≤ a + 8 + nxL s a ∧ a + 8 + nxL s a ≤ (s.length : Int); omega) fun _ => ?_
      refine Need.mk (by show fitStd .i64 (a + 4); unfold fitStd; omega) fun _ => Need.mk f8 fun _ => Need.mk (by show 0 ≤ a + 4 ∧ a + 4 ≤ a + 8 ∧ a + 8 ≤ (s.length : Int); omega) fun _ => ?_
      refine Need.mk (by show (Arith.std.sub_ s (a + 8) (a + 8 + nxL s a)).length ≤ 140737488350000; rw [eB]; omega) fun _ => ?_
      refine Ife.mk (fun h => ?_) (fun h => ?_)
      · have h : ¬ sum4 (Arith.std.sub_ s (a + 8) (a + 8 + nxL s a)) = Arith.std.sub_ s (a + 4) (a + 8) := by
          have h6 : (!decide (sum4 (Arith.std.sub_ s (a + 8) (a + 8 + nxL s a)) = Arith.std.sub_ s (a + 4) (a + 8))) = true := h
          simpa using h6
        rw [eB, eC] at h
        rw [(next_sum (s := s) hr h2 h3 h4 h)]
        exact ⟨rfl, rfl, rfl, trivial⟩
      have h5 : sum4 (Arith.std.sub_ s (a + 8) (a + 8 + nxL s a)) = Arith.std.sub_ s (a + 4) (a + 8) := by
        have h6 : (!decide (sum4 (Arith.std.sub_ s (a + 8) (a + 8 + nxL s a)) = Arith.std.sub_ s (a + 4) (a + 8))) = false := h
        simpa using h6
      rw [eB, eC] at h5
      refine Need.mk f8 fun _ => Need.mk f9 fun _ => ?_
      rw [next_ok hr h2 h3 h4 h5]
      exact ⟨eB, rfl, rfl, trivial⟩

end Go.Proofs.YtophhppklaofaaaDoor.Vx
