/- Lists of sums compared. -/
import Derived.Test.YtophhppklaofaaaDoorVTree6
namespace Go.Proofs.YtophhppklaofaaaDoor.Vx
open Go.RowKit Sha
set_option linter.unusedVariables false
set_option linter.unusedSimpArgs false
def hashesEq (n : Nat) (get : Nat → List CV) (m : Nat) (get' : Nat → List CV) : Bool := decide (n = m) && (List.range n).all fun i => eqH (hOf (get i)) (hOf (get' i))
def hashesPre (ty one n : Nat) (get : Nat → List CV) (ty' one' m : Nat) (get' : Nat → List CV) : Prop := ty = 24 ∧ one = 32 ∧ HashesAt n get ∧ n ≤ 140737488355328 ∧ ty' = 24 ∧ one' = 32 ∧ HashesAt m get' ∧ m ≤ 140737488355328
structure LHx (n : Nat) (get get' : Nat → List CV) where
  i : Int
  h0 : 0 ≤ i
  h1 : i ≤ (n : Int)
  h2 : ∀ k, k < i.toNat → eqH (hOf (get k)) (hOf (get' k)) = true
theorem hashesEq_false {n m : Nat} {get get' : Nat → List CV} (h : ¬ n = m) : hashesEq n get m get' = false := by simp [hashesEq, h]
theorem hashesEq_at {n m : Nat} {get get' : Nat → List CV} {i : Nat} (hi : i < n) (h : eqH (hOf (get i)) (hOf (get' i)) = false) : hashesEq n get m get' = false := by
  rw [Bool.eq_false_iff]
  intro h2
  simp only [hashesEq, Bool.and_eq_true, List.all_eq_true, List.mem_range, decide_eq_true_iff] at h2
  rw [h2.2 i hi] at h
  cases h
theorem hashesEq_all {n : Nat} {get get' : Nat → List CV} (h : ∀ i, i < n → eqH (hOf (get i)) (hOf (get' i)) = true) : hashesEq n get n get' = true := by
  simp only [hashesEq, Bool.and_eq_true, List.all_eq_true, List.mem_range, decide_eq_true_iff]
  exact ⟨trivial, h⟩
attribute [local cbv_opaque] hf hOf HashesAt hashesEq hashesPre
def sHashes : SpecF
  | [.c (.row 0), .c (.row 1)], [.elems ty one n get, .elems ty' one' m get'] => some (hashesPre ty one n get ty' one' m get', .c (.bool (hashesEq n get m get')), [.dead, .dead])
  | _, _ => none

set_option maxRecDepth 100000 in
set_option maxHeartbeats 2000000 in
theorem hashesP : Fn Tryd.prog 59 [] [(24, 32), (24, 32)] sHashes := by
  have hC : CtsOk Tryd.prog [] := CtsOk.nil _
  refine Fn.of (E := tbH) [] 0 [(6, [(0, true), (1, true), (2, true), (3, true), (4, true), (5, true), (6, true), (7, true), (8, true)])] tbH_ok hC (by kernel_rfl) Tryd.func59 rfl rfl rfl (by kernel_rfl) (by kernel_rfl) 2 5 1 ?_ ?_
  · intro args h pre r h' hs
    unfold sHashes at hs
    split at hs
    · cases hs; exact ⟨rfl, rfl, Nat.le_of_ble_eq_true rfl⟩
    · cases hs
  · intro args h pre r h' hs hp
    unfold sHashes at hs
    split at hs
    rotate_left
    · cases hs
    rename_i ty one n get ty' one' m get'
    cases hs
    obtain ⟨rfl, rfl, hst, hn, rfl, rfl, hst', hm⟩ := hp
    refine ⟨[.elems 24 32 n (fun i => hashC (hOf (get i))), .elems 24 32 m (fun i => hashC (hOf (get' i)))], ⟨hst.same.1, hst'.same.1, trivial⟩, ?_⟩
    generalize hL : lft Tryd.prog _ = L
    generalize hA : Arith.std = A
    cbv
    subst hA hL
    refine Ife.mk (fun h => ?_) (fun h => ?_)
    · have h : ¬ n = m := by
        have h6 : (!decide ((n : Int) = (m : Int))) = true := h
        have h7 : ¬ (n : Int) = (m : Int) := by simpa using h6
        omega
      rw [hashesEq_false h]
      exact ⟨[0, 1], ⟨rfl, rfl, by decide, rfl, by repeat' (first | exact trivial | exact rfl | apply And.intro)⟩⟩
    have h : n = m := by
      have h6 : (!decide ((n : Int) = (m : Int))) = false := h
      have h7 : (n : Int) = (m : Int) := by simpa using h6
      omega
    subst h
    show Runs Tryd.prog 2 (.loop _) _ _
    refine loop_ruleR (N := env (lft Tryd.prog 2) 0 .std tbH [] [(6, [(0, true), (1, true), (2, true), (3, true), (4, true), (5, true), (6, true), (7, true), (8, true)])]) rfl tbH_ok hC (fun c st K _ h => h) (by kernel_rfl) [] (X := LHx n get get')
      (S := fun x => ⟨[.c (.row 0), .c (.row 1), .any, .any, .any, .c (.int .i64 x.i)] ++ List.replicate 20 .any, [.elems 24 32 n (fun i => hashC (hOf (get i))), .elems 24 32 n (fun i => hashC (hOf (get' i)))]⟩) (μ := fun x => n - x.i.toNat) ⟨0, by omega, by omega, fun k hk => absurd hk (by show ¬ k < (0 : Int).toNat; omega)⟩ (by kernel_rfl) [0, 1] ?_ ?_
    · refine ⟨rfl, by decide, ?_, ?_⟩ <;> repeat' (first | exact trivial | exact rfl | apply And.intro)
    rintro ⟨i, hi0, hin, hall⟩
    generalize hL : lft Tryd.prog _ = L
    generalize hA : Arith.std = A
    cbv
    subst hA hL
    replace hi0 : 0 ≤ i := hi0
    replace hin : i ≤ @Nat.cast Int instNatCastInt n := hin
    refine Ife.mk (fun hlt => ?_) (fun hlt => ?_)
    · replace hlt : i < @Nat.cast Int instNatCastInt n := of_decide_eq_true (p := i < (n : Int)) hlt
      repeat refine Need.mk (by first | exact trivial | (simp only [Arith.std, fitStd]; omega) | (simp [Arith.std, fitStd]; omega)) fun _ => ?_
      refine Ife.mk (fun h => ?_) (fun h => ?_)
      · have h : eqH (hOf (get i.toNat)) (hOf (get' i.toNat)) = false := by
          have h6 : (!eqH (hOf (get i.toNat)) (hOf (get' i.toNat))) = true := h
          simpa using h6
        rw [hashesEq_at (m := n) (show i.toNat < n by omega) h]
        exact ⟨[0, 1], ⟨rfl, rfl, by decide, rfl, by repeat' (first | exact trivial | exact rfl | apply And.intro)⟩⟩
      have h : eqH (hOf (get i.toNat)) (hOf (get' i.toNat)) = true := by
        have h6 : (!eqH (hOf (get i.toNat)) (hOf (get' i.toNat))) = false := h
        simpa using h6
      repeat refine Need.mk (by first | exact trivial | (simp only [Arith.std, fitStd]; omega) | (simp [Arith.std, fitStd]; omega)) fun _ => ?_
      refine ⟨⟨i + 1, by omega, by omega, ?h2⟩, [0, 1], (by show n - (i + 1).toNat < n - i.toNat; omega), ?st⟩
      case st => refine ⟨rfl, by decide, ?_, ?_⟩ <;> repeat' (first | exact trivial | exact rfl | apply And.intro)
      case h2 =>
        intro k hk
        by_cases hk2 : k = i.toNat
        · rw [hk2]; exact h
        · exact hall k (by omega)
    · replace hlt : ¬ i < @Nat.cast Int instNatCastInt n := of_decide_eq_false (p := i < (n : Int)) hlt
      rw [hashesEq_all (n := n) (get := get) (get' := get') fun k hk => hall k (by show k < i.toNat; omega)]
      exact ⟨[0, 1], ⟨rfl, rfl, by decide, rfl, by repeat' (first | exact trivial | exact rfl | apply And.intro)⟩⟩

end Go.Proofs.YtophhppklaofaaaDoor.Vx
