/- Records, one behind the other, by the walker: Open, All; lists of texts. -/
import Derived.Test.YtophhppklaofaaaDoorVFrame3
namespace Go.Proofs.YtophhppklaofaaaDoor.Vx
open Go.RowKit Sha
set_option linter.unusedVariables false
set_option linter.unusedSimpArgs false
def openF (s : List UInt8) : List UInt8 × Int :=
  if (nextF s 0).2.2 ≠ 0 then ([], (nextF s 0).2.2) else if (nextF s 0).2.1 < (s.length : Int) then ([], 3) else ((nextF s 0).1, 0)
/-- The records from a place on, with a bound on their number. -/
def allR : Nat → List UInt8 → Int → List (List UInt8) × Int × Int
  | 0, _, a => ([], a, 0)
  | f + 1, s, a => if a < (s.length : Int) then (if (nextF s a).2.2 = 0 then ((nextF s a).1 :: (allR f s (nextF s a).2.1).1, (allR f s (nextF s a).2.1).2) else ([], a, (nextF s a).2.2)) else ([], a, 0)
def allF (s : List UInt8) : List (List UInt8) × Int × Int := allR s.length s 0
/-- Texts, as cells. -/
def strsG (l : List (List UInt8)) (i : Nat) : List CV := [.str (l.getD i [])]
theorem strsG_push (l : List (List UInt8)) (x : List UInt8) (i : Nat) (h : i < l.length + 1) : pushG l.length (strsG l) [.str x] i = strsG (l ++ [x]) i := by
  unfold pushG strsG
  by_cases hi : i < l.length
  · rw [show Nat.blt i l.length = true by simpa [Nat.blt_eq] using hi]
    simp [List.getD, List.getElem?_append_left hi]
  · rw [show Nat.blt i l.length = false by rw [Bool.eq_false_iff]; intro h2; exact hi (by simpa [Nat.blt_eq] using h2)]
    obtain rfl : i = l.length := by omega
    simp [List.getD]
theorem next_err {s : List UInt8} {a : Int} (h : (nextF s a).2.2 ≠ 0) : (nextF s a).1 = [] ∧ (nextF s a).2.1 = 0 := by
  unfold nextF at h ⊢
  split
  · exact ⟨rfl, rfl⟩
  · split
    · exact ⟨rfl, rfl⟩
    · split
      · exact ⟨rfl, rfl⟩
      · split
        · exact ⟨rfl, rfl⟩
        · split
          · rename_i h1 h2 h3 h4 h5
            rw [if_neg h1, if_neg h2, if_neg h3, if_neg h4, if_pos h5] at h
            exact absurd rfl h
          · exact ⟨rfl, rfl⟩
theorem next_adv {s : List UInt8} {a : Int} (h : (nextF s a).2.2 = 0) : 0 ≤ a ∧ a + 8 ≤ (nextF s a).2.1 ∧ (nextF s a).2.1 ≤ (s.length : Int) := by
  have hr := nxL_range s a
  unfold nextF at h ⊢
  split
  · rename_i h1; rw [if_pos h1] at h; cases h
  · rename_i h1
    rw [if_neg h1] at h
    split
    · rename_i h2; rw [if_pos h2] at h; cases h
    · rename_i h2
      rw [if_neg h2] at h
      split
      · rename_i h3; rw [if_pos h3] at h; cases h
      · rename_i h3
        rw [if_neg h3] at h
        split
        · rename_i h4; rw [if_pos h4] at h; cases h
        · rename_i h4
          rw [if_neg h4] at h
          split
          · show 0 ≤ a ∧ a + 8 ≤ a + 8 + nxL s a ∧ a + 8 + nxL s a ≤ (s.length : Int)
            omega
          · rename_i h5; rw [if_neg h5] at h; cases h
structure LAll (s : List UInt8) where
  a : Int
  l : List (List UInt8)
  f : Nat
  h0 : 0 ≤ a
  h1 : a ≤ (s.length : Int)
  h2 : (s.length : Int) - a ≤ (f : Int)
  h3 : (l.length : Int) ≤ a
  h4 : allF s = (l ++ (allR f s a).1, (allR f s a).2)
def allPre (s : List UInt8) : Prop := s.length ≤ 1000000
def allPreK (gg sz n : Nat) (get : Nat → List CV) (s : List UInt8) : Prop := KsAt gg sz n get ∧ s.length ≤ 1000000
def sOpen : SpecF
  | [.c (.str s)], [.glob gg sz n get] => some (nextPre gg sz n get s, .tup [(some (.str (openF s).1), []), (some (.int .i64 (openF s).2), [])], [.dead])
  | _, _ => none

set_option maxRecDepth 100000 in
set_option maxHeartbeats 2000000 in
theorem openP : Fn Tryd.prog 31 [0] [] sOpen := by
  have hC : CtsOk Tryd.prog [(35, appFn [0] [] sNext)] := CtsOk.cons (Fn.ct nextP) <| CtsOk.nil _
  refine Fn.of (E := tbF0) [0] 0 [] tbF0_ok hC (by kernel_rfl) Tryd.func31 rfl rfl rfl (by kernel_rfl) (by kernel_rfl) 1 5 1 ?_ ?_
  · intro args h pre r h' hs
    unfold sOpen at hs
    split at hs
    · cases hs; exact ⟨rfl, rfl, Nat.le_of_ble_eq_true rfl⟩
    · cases hs
  · intro args h pre r h' hs hp
    unfold sOpen at hs
    split at hs
    rotate_left
    · cases hs
    rename_i s gg sz n get
    cases hs
    obtain ⟨hK, hs⟩ := hp
    refine ⟨_, hK.same, ?_⟩
    clear hK
    unfold sNext
    generalize hg0 : nextPre = g0
    generalize hg1 : nextF = g1
    generalize hg2 : openF = g2
    generalize hg3 : KsAt = g3
    generalize hg4 : kOf = g4
    generalize hg5 : (List.length : List UInt8 → Nat) = g5
    generalize hA : Arith.std = A
    cbv
    subst hA hg0 hg1 hg2 hg3 hg4 hg5
    refine Need.mk ⟨ksAt_self, hs⟩ fun _ => ?_
    refine Ife.mk (fun h => ?_) (fun h => ?_)
    · have h : (nextF s 0).2.2 ≠ 0 := by
        have h6 : (!decide ((nextF s 0).2.2 = 0)) = true := h
        simpa using h6
      rw [show openF s = ([], (nextF s 0).2.2) by unfold openF; rw [if_pos h]]
      exact ⟨[0], ⟨rfl, ⟨rfl, ⟨rfl, rfl⟩, trivial⟩, by decide, rfl, by repeat' (first | exact trivial | exact rfl | apply And.intro)⟩⟩
    have h0 : ¬ (nextF s 0).2.2 ≠ 0 := by
      have h6 : (!decide ((nextF s 0).2.2 = 0)) = false := h
      simpa using h6
    refine Ife.mk (fun h => ?_) (fun h => ?_)
    · have h : (nextF s 0).2.1 < (s.length : Int) := of_decide_eq_true (p := (nextF s 0).2.1 < (s.length : Int)) h
      rw [show openF s = ([], 3) by unfold openF; rw [if_neg h0, if_pos h]]
      exact ⟨[0], ⟨rfl, ⟨rfl, ⟨rfl, rfl⟩, trivial⟩, by decide, rfl, by repeat' (first | exact trivial | exact rfl | apply And.intro)⟩⟩
    have h : ¬ (nextF s 0).2.1 < (s.length : Int) := of_decide_eq_false (p := (nextF s 0).2.1 < (s.length : Int)) h
    rw [show openF s = ((nextF s 0).1, 0) by unfold openF; rw [if_neg h0, if_neg h]]
    exact ⟨[0], ⟨rfl, ⟨rfl, ⟨rfl, rfl⟩, trivial⟩, by decide, rfl, by repeat' (first | exact trivial | exact rfl | apply And.intro)⟩⟩

def sROpen : List SV → Option (Prop × SV)
  | [.c (.str s)] => some (rsumPre s, .tup [(some (.str (openF s).1), []), (some (.int .i64 (openF s).2), [])])
  | _ => none

set_option maxRecDepth 100000 in
set_option maxHeartbeats 2000000 in
theorem ropenP : Pure Tryd.prog 37 sROpen := by
  have hC : CtsOk Tryd.prog [(36, appPure sRNext)] := CtsOk.cons (Pure.ct rnextP) <| CtsOk.nil _
  refine Pure.of (E := tbF0) (C := [(36, appPure sRNext)]) [] 0 [] tbF0_ok hC (by kernel_rfl) Tryd.func37 rfl rfl rfl (by kernel_rfl) (by kernel_rfl) ?_ ?_
  · intro args pre r h
    unfold sROpen at h
    split at h
    · cases h; rfl
    · cases h
  · intro args pre r h hp
    unfold sROpen at h
    split at h
    rotate_left
    · cases h
    rename_i s
    cases h
    have hs : s.length ≤ 140737488350000 := hp
    unfold sRNext
    generalize hg0 : rsumPre = g0
    generalize hg1 : nextF = g1
    generalize hg2 : openF = g2
    generalize hg3 : (List.length : List UInt8 → Nat) = g3
    generalize hA : Arith.std = A
    cbv
    subst hA hg0 hg1 hg2 hg3
    refine Need.mk hp fun _ => ?_
    have hz : (nextF s 0).2.2 = 0 ∨ (nextF s 0).2.2 ≠ 0 := by omega
    rcases hz with h0 | h0
    · refine Ife.mk (fun _ => ?_) (fun hb => absurd ((show decide ((nextF s 0).2.2 = 0) = true from decide_eq_true h0).symm.trans hb) (by decide))
      refine Ife.mk (fun h => ?_) (fun h => ?_)
      · have h : (nextF s 0).2.1 < (s.length : Int) := of_decide_eq_true (p := (nextF s 0).2.1 < (s.length : Int)) h
        rw [show openF s = ([], 3) by unfold openF; rw [if_neg (by omega), if_pos h]]
        exact Ife.mk (fun _ => ⟨rfl, rfl, trivial⟩) (fun hb => absurd (show (!decide ((3 : Int) = 0)) = false from hb) (by decide))
      · have h : ¬ (nextF s 0).2.1 < (s.length : Int) := of_decide_eq_false (p := (nextF s 0).2.1 < (s.length : Int)) h
        refine Ife.mk (fun hb => absurd (show (!decide ((nextF s 0).2.2 = 0)) = true from hb) (by rw [decide_eq_true h0]; decide)) (fun _ => ?_)
        rw [show openF s = ((nextF s 0).1, 0) by unfold openF; rw [if_neg (by omega), if_neg h]]
        exact ⟨rfl, rfl, trivial⟩
    · refine Ife.mk (fun hb => absurd (of_decide_eq_true (p := (nextF s 0).2.2 = 0) hb) h0) (fun _ => ?_)
      refine Ife.mk (fun _ => ?_) (fun hb => absurd (show (!decide ((nextF s 0).2.2 = 0)) = false from hb) (by rw [decide_eq_false h0]; decide))
      rw [show openF s = ([], (nextF s 0).2.2) by unfold openF; rw [if_pos h0]]
      exact ⟨rfl, rfl, trivial⟩

def sAll : SpecF
  | [.c (.str s)], [.glob gg sz n get] => some (allPreK gg sz n get s, .tup [(some (.row 1), []), (some (.int .i64 (allF s).2.1), []), (some (.int .i64 (allF s).2.2), [])], [.dead, .row 9 1 (allF s).1.length (strsG (allF s).1)])
  | _, _ => none

def sRAll : SpecF
  | [.c (.str s)], [] => some (allPre s, .tup [(some (.row 0), []), (some (.int .i64 (allF s).2.1), []), (some (.int .i64 (allF s).2.2), [])], [.row 9 1 (allF s).1.length (strsG (allF s).1)])
  | _, _ => none

set_option maxRecDepth 100000 in
set_option maxHeartbeats 2000000 in
theorem allP : Fn Tryd.prog 32 [0] [] sAll := by
  have hC : CtsOk Tryd.prog [(35, appFn [0] [] sNext)] := CtsOk.cons (Fn.ct nextP) <| CtsOk.nil _
  refine Fn.of (E := tbF0) [0] 0 [] tbF0_ok hC (by kernel_rfl) Tryd.func32 rfl rfl rfl (by kernel_rfl) (by kernel_rfl) 1 5 1 ?_ ?_
  · intro args h pre r h' hs
    unfold sAll at hs
    split at hs
    · cases hs; exact ⟨rfl, rfl, Nat.le_of_ble_eq_true rfl⟩
    · cases hs
  · intro args h pre r h' hs hp
    unfold sAll at hs
    split at hs
    rotate_left
    · cases hs
    rename_i s gg sz n get
    cases hs
    obtain ⟨hK, hs⟩ := hp
    refine ⟨_, hK.same, ?_⟩
    clear hK
    unfold sNext
    generalize hg0 : nextPre = g0
    generalize hg1 : rsumPre = g1
    generalize hg2 : nextF = g2
    generalize hg3 : allF = g3
    generalize hg4 : strsG = g4
    generalize hg5 : (pushG) = g5
    generalize hg6 : KsAt = g6
    generalize hg7 : kOf = g7
    generalize hg8 : (List.length : List UInt8 → Nat) = g8
    generalize hg9 : (List.length : List (List UInt8) → Nat) = g9
    generalize hL : lft Tryd.prog _ = L
    generalize hA : Arith.std = A
    cbv
    subst hA hg0 hg1 hg2 hg3 hg4 hg5 hg6 hg7 hg8 hg9 hL
    refine Runs.nilTmp 5 9 1 (strsG []) rfl ?_
    show Runs Tryd.prog 1 (.loop _) _ _
    refine loop_ruleR (N := env (lft Tryd.prog 1) 0 .std tbF0 [(35, appFn [0] [] sNext)] []) rfl tbF0_ok hC (fun c st K _ h => h) (by kernel_rfl) [0] (X := LAll s)
      (S := fun x => ⟨[.c (.str s), .any, .any, .any, .any, .c (.row 1), .c (.int .i64 x.a)] ++ List.replicate 26 .any, [.glob 0 1 64 (fun i => [.int .u32 (kOf i)]), .row 9 1 x.l.length (strsG x.l)]⟩) (μ := fun x => (s.length - x.a).toNat) ⟨0, [], s.length, by omega, by omega, by omega, (by show (0 : Int) ≤ 0; omega), rfl⟩ (by kernel_rfl) [0, 1] ?_ ?_
    · refine ⟨rfl, by decide, ?_, ?_⟩ <;> repeat' (first | exact trivial | exact rfl | apply And.intro | (intro i hi; rfl))
    rintro ⟨a, l, f, ha0, ha1, hf, hl, he⟩
    unfold sNext
    generalize hg0 : nextPre = g0
    generalize hg1 : rsumPre = g1
    generalize hg2 : nextF = g2
    generalize hg3 : allF = g3
    generalize hg4 : strsG = g4
    generalize hg5 : (pushG) = g5
    generalize hg6 : KsAt = g6
    generalize hg7 : kOf = g7
    generalize hg8 : (List.length : List UInt8 → Nat) = g8
    generalize hg9 : (List.length : List (List UInt8) → Nat) = g9
    generalize hL : lft Tryd.prog _ = L
    generalize hA : Arith.std = A
    cbv
    subst hA hg0 hg1 hg2 hg3 hg4 hg5 hg6 hg7 hg8 hg9 hL
    replace hs : s.length ≤ 1000000 := hs
    replace ha0 : 0 ≤ a := ha0
    replace ha1 : a ≤ @Nat.cast Int instNatCastInt s.length := ha1
    replace hf : @Nat.cast Int instNatCastInt s.length - a ≤ @Nat.cast Int instNatCastInt f := hf
    replace hl : @Nat.cast Int instNatCastInt l.length ≤ a := hl
    refine Ife.mk (fun hlt => ?_) (fun hlt => ?_)
    · replace hlt : a < @Nat.cast Int instNatCastInt s.length := of_decide_eq_true (p := a < (s.length : Int)) hlt
      obtain ⟨k, rfl⟩ : ∃ k, f = k + 1 := ⟨f - 1, by omega⟩
      refine Need.mk (⟨ksAt_self, by omega⟩) fun _ => ?_
      refine Ife.mk (fun h => ?_) (fun h => ?_)
      · have h : (nextF s a).2.2 ≠ 0 := by
          have h6 : (!decide ((nextF s a).2.2 = 0)) = true := h
          simpa using h6
        have e : allR (k + 1) s a = ([], a, (nextF s a).2.2) := by unfold allR; rw [if_pos hlt, if_neg h]
        have he : allF s = (l, a, (nextF s a).2.2) := by rw [he, e, List.append_nil]
        rw [he]
        exact ⟨[0, 1], ⟨rfl, ⟨rfl, ⟨rfl, rfl⟩, ⟨rfl, rfl⟩, trivial⟩, (by show List.Nodup [1]; decide), rfl, by repeat' (first | exact trivial | exact rfl | apply And.intro | (intro i hi; rfl))⟩⟩
      have h : (nextF s a).2.2 = 0 := by
        have h6 : (!decide ((nextF s a).2.2 = 0)) = false := h
        simpa using h6
      have hadv := next_adv h
      have e : allR (k + 1) s a = ((nextF s a).1 :: (allR k s (nextF s a).2.1).1, (allR k s (nextF s a).2.1).2) := by
        conv => lhs; unfold allR
        rw [if_pos hlt, if_pos h]
      refine Need.mk (by show l.length + 1 ≤ maxLen ∧ (l.length + 1) * 16 ≤ 140737488355328; unfold maxLen; omega) fun _ => ?_
      refine ⟨⟨(nextF s a).2.1, l ++ [(nextF s a).1], k, by omega, by omega, by omega, (by rw [List.length_append]; show ((l.length + 1 : Nat) : Int) ≤ _; omega), (by rw [he, e]; simp)⟩, [0, 3], (by show (@Nat.cast Int instNatCastInt s.length - (nextF s a).2.1).toNat < (@Nat.cast Int instNatCastInt s.length - a).toNat; omega), ?_⟩
      refine ⟨rfl, by decide, ?_, ?_⟩
      · repeat' (first | exact trivial | exact rfl | apply And.intro)
      · repeat' (first | exact trivial | exact rfl | apply And.intro)
        · simp
        · intro i hi
          exact strsG_push l _ i (by simpa using hi)
    · replace hlt : ¬ a < @Nat.cast Int instNatCastInt s.length := of_decide_eq_false (p := a < (s.length : Int)) hlt
      have e : allR f s a = ([], a, 0) := by
        cases f with
        | zero => rfl
        | succ f => unfold allR; rw [if_neg hlt]
      have he : allF s = (l, a, 0) := by rw [he, e, List.append_nil]
      rw [he]
      exact ⟨[0, 1], ⟨rfl, ⟨rfl, ⟨rfl, rfl⟩, ⟨rfl, rfl⟩, trivial⟩, (by show List.Nodup [1]; decide), rfl, by repeat' (first | exact trivial | exact rfl | apply And.intro | (intro i hi; rfl))⟩⟩

set_option maxRecDepth 100000 in
set_option maxHeartbeats 2000000 in
theorem rallP : Fn Tryd.prog 38 [] [] sRAll := by
  have hC : CtsOk Tryd.prog [(36, appPure sRNext)] := CtsOk.cons (Pure.ct rnextP) <| CtsOk.nil _
  refine Fn.of (E := tbF0) [] 0 [] tbF0_ok hC (by kernel_rfl) Tryd.func38 rfl rfl rfl (by kernel_rfl) (by kernel_rfl) 0 5 1 ?_ ?_
  · intro args h pre r h' hs
    unfold sRAll at hs
    split at hs
    · cases hs; exact ⟨rfl, rfl, Nat.le_of_ble_eq_true rfl⟩
    · cases hs
  · intro args h pre r h' hs hp
    unfold sRAll at hs
    split at hs
    rotate_left
    · cases hs
    rename_i s
    cases hs
    have hs : s.length ≤ 1000000 := hp
    refine ⟨[], trivial, ?_⟩
    unfold sRNext
    generalize hg0 : nextPre = g0
    generalize hg1 : rsumPre = g1
    generalize hg2 : nextF = g2
    generalize hg3 : allF = g3
    generalize hg4 : strsG = g4
    generalize hg5 : (pushG) = g5
    generalize hg6 : KsAt = g6
    generalize hg7 : kOf = g7
    generalize hg8 : (List.length : List UInt8 → Nat) = g8
    generalize hg9 : (List.length : List (List UInt8) → Nat) = g9
    generalize hL : lft Tryd.prog _ = L
    generalize hA : Arith.std = A
    cbv
    subst hA hg0 hg1 hg2 hg3 hg4 hg5 hg6 hg7 hg8 hg9 hL
    refine Runs.nilTmp 5 9 1 (strsG []) rfl ?_
    show Runs Tryd.prog 0 (.loop _) _ _
    refine loop_ruleR (N := env (lft Tryd.prog 0) 0 .std tbF0 [(36, appPure sRNext)] []) rfl tbF0_ok hC (fun c st K _ h => h) (by kernel_rfl) [] (X := LAll s)
      (S := fun x => ⟨[.c (.str s), .any, .any, .any, .any, .c (.row 0), .c (.int .i64 x.a)] ++ List.replicate 26 .any, [.row 9 1 x.l.length (strsG x.l)]⟩) (μ := fun x => (s.length - x.a).toNat) ⟨0, [], s.length, by omega, by omega, by omega, (by show (0 : Int) ≤ 0; omega), rfl⟩ (by kernel_rfl) [0] ?_ ?_
    · refine ⟨rfl, by decide, ?_, ?_⟩ <;> repeat' (first | exact trivial | exact rfl | apply And.intro | (intro i hi; rfl))
    rintro ⟨a, l, f, ha0, ha1, hf, hl, he⟩
    unfold sRNext
    generalize hg0 : nextPre = g0
    generalize hg1 : rsumPre = g1
    generalize hg2 : nextF = g2
    generalize hg3 : allF = g3
    generalize hg4 : strsG = g4
    generalize hg5 : (pushG) = g5
    generalize hg6 : KsAt = g6
    generalize hg7 : kOf = g7
    generalize hg8 : (List.length : List UInt8 → Nat) = g8
    generalize hg9 : (List.length : List (List UInt8) → Nat) = g9
    generalize hL : lft Tryd.prog _ = L
    generalize hA : Arith.std = A
    cbv
    subst hA hg0 hg1 hg2 hg3 hg4 hg5 hg6 hg7 hg8 hg9 hL
    replace hs : s.length ≤ 1000000 := hs
    replace ha0 : 0 ≤ a := ha0
    replace ha1 : a ≤ @Nat.cast Int instNatCastInt s.length := ha1
    replace hf : @Nat.cast Int instNatCastInt s.length - a ≤ @Nat.cast Int instNatCastInt f := hf
    replace hl : @Nat.cast Int instNatCastInt l.length ≤ a := hl
    refine Ife.mk (fun hlt => ?_) (fun hlt => ?_)
    · replace hlt : a < @Nat.cast Int instNatCastInt s.length := of_decide_eq_true (p := a < (s.length : Int)) hlt
      obtain ⟨k, rfl⟩ : ∃ k, f = k + 1 := ⟨f - 1, by omega⟩
      refine Need.mk ((by show s.length ≤ 140737488350000; omega)) fun _ => ?_
      refine Ife.mk (fun h => ?_) (fun h => ?_)
      · have h : (nextF s a).2.2 ≠ 0 := by
          have h6 : (!decide ((nextF s a).2.2 = 0)) = true := h
          simpa using h6
        have e : allR (k + 1) s a = ([], a, (nextF s a).2.2) := by unfold allR; rw [if_pos hlt, if_neg h]
        have he : allF s = (l, a, (nextF s a).2.2) := by rw [he, e, List.append_nil]
        rw [he]
        exact ⟨[0], ⟨rfl, ⟨rfl, ⟨rfl, rfl⟩, ⟨rfl, rfl⟩, trivial⟩, (by show List.Nodup [0]; decide), rfl, by repeat' (first | exact trivial | exact rfl | apply And.intro | (intro i hi; rfl))⟩⟩
      have h : (nextF s a).2.2 = 0 := by
        have h6 : (!decide ((nextF s a).2.2 = 0)) = false := h
        simpa using h6
      have hadv := next_adv h
      have e : allR (k + 1) s a = ((nextF s a).1 :: (allR k s (nextF s a).2.1).1, (allR k s (nextF s a).2.1).2) := by
        conv => lhs; unfold allR
        rw [if_pos hlt, if_pos h]
      refine Need.mk (by show l.length + 1 ≤ maxLen ∧ (l.length + 1) * 16 ≤ 140737488355328; unfold maxLen; omega) fun _ => ?_
      refine ⟨⟨(nextF s a).2.1, l ++ [(nextF s a).1], k, by omega, by omega, by omega, (by rw [List.length_append]; show ((l.length + 1 : Nat) : Int) ≤ _; omega), (by rw [he, e]; simp)⟩, [2], (by show (@Nat.cast Int instNatCastInt s.length - (nextF s a).2.1).toNat < (@Nat.cast Int instNatCastInt s.length - a).toNat; omega), ?_⟩
      refine ⟨rfl, by decide, ?_, ?_⟩
      · repeat' (first | exact trivial | exact rfl | apply And.intro)
      · repeat' (first | exact trivial | exact rfl | apply And.intro)
        · simp
        · intro i hi
          exact strsG_push l _ i (by simpa using hi)
    · replace hlt : ¬ a < @Nat.cast Int instNatCastInt s.length := of_decide_eq_false (p := a < (s.length : Int)) hlt
      have e : allR f s a = ([], a, 0) := by
        cases f with
        | zero => rfl
        | succ f => unfold allR; rw [if_neg hlt]
      have he : allF s = (l, a, 0) := by rw [he, e, List.append_nil]
      rw [he]
      exact ⟨[0], ⟨rfl, ⟨rfl, ⟨rfl, rfl⟩, ⟨rfl, rfl⟩, trivial⟩, (by show List.Nodup [0]; decide), rfl, by repeat' (first | exact trivial | exact rfl | apply And.intro | (intro i hi; rfl))⟩⟩

end Go.Proofs.YtophhppklaofaaaDoor.Vx
