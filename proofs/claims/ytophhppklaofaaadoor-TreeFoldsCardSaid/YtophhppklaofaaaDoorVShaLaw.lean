/- The laws of the sums, by the walker: ShaCuts, ShaTells, ShaLess. -/
import Derived.Test.YtophhppklaofaaaDoorVHex2
namespace Go.Proofs.YtophhppklaofaaaDoor.Vx
open Go.RowKit Sha
set_option linter.unusedVariables false
set_option linter.unusedSimpArgs false
/-- The texts of a slice that is written out. -/
theorem strs_cut (ls : List (List UInt8)) : StrsAt ls.length (cutC 1 (ls.map CV.str) 0) ∧ joinG ls.length (cutC 1 (ls.map CV.str) 0) = ls.flatten := by
  have e : ∀ i, (hi : i < ls.length) → cutC 1 (ls.map CV.str) 0 i = [.str ls[i]] := fun i hi => by
    unfold cutC
    rw [Nat.mul_one, Nat.zero_add, List.drop_eq_getElem_cons (by simpa using hi)]
    simp
  refine ⟨fun i hi => ⟨_, e i hi⟩, ?_⟩
  unfold joinG
  rw [List.flatMap]
  congr 1
  apply List.ext_getElem
  · simp
  · intro i h1 h2
    simp only [List.getElem_map, List.getElem_range]
    rw [e i h2]
    rfl
theorem sumPre_cut (ls : List (List UInt8)) (h : ls.flatten.length ≤ 140737488350000) (hn : ls.length ≤ 1000) : sumPre 0 1 64 (fun i => [.int .u32 (kOf i)]) 9 1 ls.length (cutC 1 (ls.map CV.str) 0) := by
  obtain ⟨h1, h2⟩ := strs_cut ls
  exact ⟨ksAt_self, rfl, rfl, h1, by omega, by rw [h2]; exact h⟩
theorem sumPre_nil : sumPre 0 1 64 (fun i => [.int .u32 (kOf i)]) 9 1 0 (fun _ => []) := ⟨ksAt_self, rfl, rfl, fun i hi => absurd hi (by omega), by omega, by show 0 ≤ _; omega⟩
theorem KsAt.left {gg sz n : Nat} {get : Nat → List CV} (h : KsAt gg sz n get) : hSame [.glob gg sz n get] [.glob 0 1 64 (fun i => [.int .u32 (kOf i)])] := h.same
structure LJ (n : Nat) (get : Nat → List CV) where
  i : Int
  l : List UInt8
  h0 : 0 ≤ i
  h1 : i ≤ (n : Int)
  h2 : l = joinG i.toNat get
def joinedPre (ty one n : Nat) (get : Nat → List CV) : Prop := ty = 9 ∧ one = 1 ∧ StrsAt n get ∧ n ≤ 140737488355328 ∧ (joinG n get).length ≤ 140737488350000
theorem joinG_mono {n : Nat} {get : Nat → List CV} : ∀ k, k ≤ n → (joinG k get).length ≤ (joinG n get).length := fun k hk => by
  obtain ⟨d, rfl⟩ := Nat.exists_eq_add_of_le hk
  clear hk
  induction d with
  | zero => exact Nat.le_refl _
  | succ d ih =>
    rw [← Nat.add_assoc, joinG_succ, List.length_append]
    omega
theorem StrsAt.same {n : Nat} {get : Nat → List CV} {ty : Nat} (h : StrsAt n get) : hSame [.elems ty 1 n get] [.elems ty 1 n (fun i => [.str (strOf (get i))])] := by
  refine ⟨⟨rfl, rfl, rfl, fun i hi => ?_⟩, trivial⟩
  obtain ⟨l, hl⟩ := h i hi
  show get i = [.str (strOf (get i))]
  rw [hl]
  rfl
noncomputable def lightT (n : Nat) (get : Nat → List CV) (many long : Int) : Bool := decide ((n : Int) ≤ many) && ((List.range n).all fun i => decide (((strOf (get i)).length : Int) ≤ long)) && decide (((joinG n get).length : Int) ≤ long)
theorem lightT_iff {n : Nat} {get : Nat → List CV} {many long : Int} : lightT n get many long = true ↔ (n : Int) ≤ many ∧ (∀ i, i < n → ((strOf (get i)).length : Int) ≤ long) ∧ ((joinG n get).length : Int) ≤ long := by
  unfold lightT
  simp [and_assoc]
def lightPre (ty one n : Nat) (get : Nat → List CV) (many long : Int) : Prop := ty = 9 ∧ one = 1 ∧ StrsAt n get ∧ n ≤ 9223372036854775807 ∧ 0 ≤ many ∧ many ≤ 100 ∧ 0 ≤ long ∧ long ≤ 10000
structure LLt (n : Nat) (get : Nat → List CV) (long : Int) where
  i : Int
  s : Int
  h0 : 0 ≤ i
  h1 : i ≤ (n : Int)
  h2 : s = ((joinG i.toNat get).length : Int)
  h3 : ∀ j, j < i.toNat → ((strOf (get j)).length : Int) ≤ long
def sJoined : SpecF
  | [.c (.row 0)], [.elems ty one n get] => some (joinedPre ty one n get, .c (.str (joinG n get)), [.dead])
  | _, _ => none

set_option maxRecDepth 100000 in
set_option maxHeartbeats 2000000 in
theorem joinedP : Fn Tryd.prog 20 [] [(9, 1)] sJoined := by
  have hC : CtsOk Tryd.prog [] := CtsOk.nil _
  refine Fn.of (E := tbC) [] 0 [] tbC_ok hC (by kernel_rfl) Tryd.func20 rfl rfl rfl (by kernel_rfl) (by kernel_rfl) 1 5 1 ?_ ?_
  · intro args h pre r h' hs
    unfold sJoined at hs
    split at hs
    · cases hs; exact ⟨rfl, rfl, Nat.le_of_ble_eq_true rfl⟩
    · cases hs
  · intro args h pre r h' hs hp
    unfold sJoined at hs
    split at hs
    rotate_left
    · cases hs
    rename_i ty one n get
    cases hs
    obtain ⟨rfl, rfl, hst, hn, hlen⟩ := hp
    refine ⟨_, hst.same, ?_⟩
    clear hst
    generalize hg0 : joinG = g0
    generalize hg1 : strOf = g1
    generalize hg2 : (List.length : List UInt8 → Nat) = g2
    generalize hL : lft Tryd.prog _ = L
    generalize hA : Arith.std = A
    cbv
    subst hA hg0 hg1 hg2 hL
    show Runs Tryd.prog 1 (.loop _) _ _
    refine loop_ruleR (N := env (lft Tryd.prog 1) 0 .std tbC [] []) rfl tbC_ok hC (fun c st K _ h => h) (by kernel_rfl) [] (X := LJ n get)
      (S := fun x => ⟨[.c (.row 0), .any, .any, .c (.str x.l), .c (.int .i64 x.i)] ++ List.replicate 13 .any, [.elems 9 1 n (fun i => [.str (strOf (get i))])]⟩) (μ := fun x => n - x.i.toNat) ⟨0, [], by omega, by omega, rfl⟩ (by kernel_rfl) [0] ?_ ?_
    · refine ⟨rfl, by decide, ?_, ?_⟩ <;> repeat' (first | exact trivial | exact rfl | apply And.intro)
    rintro ⟨i, l, hi0, hin, hl⟩
    generalize hg0 : joinG = g0
    generalize hg1 : strOf = g1
    generalize hg2 : (List.length : List UInt8 → Nat) = g2
    generalize hL : lft Tryd.prog _ = L
    generalize hA : Arith.std = A
    cbv
    subst hA hg0 hg1 hg2 hL
    replace hi0 : 0 ≤ i := hi0
    replace hin : i ≤ @Nat.cast Int instNatCastInt n := hin
    replace hl : l = joinG i.toNat get := hl
    have hm := joinG_mono (get := get) i.toNat (n := n) (by omega)
    refine Ife.mk (fun hlt => ?_) (fun hlt => ?_)
    · replace hlt : i < @Nat.cast Int instNatCastInt n := of_decide_eq_true (p := i < (n : Int)) hlt
      have hm2 := joinG_mono (get := get) (i.toNat + 1) (n := n) (by omega)
      rw [joinG_succ, List.length_append] at hm2
      rw [← hl] at hm2
      refine Need.mk (by first | exact trivial | (simp only [Arith.std, fitStd]; omega) | (simp [Arith.std, fitStd]; omega)) fun _ => ?_
      refine Need.mk (by first | exact trivial | (simp only [Arith.std, fitStd]; omega) | (simp [Arith.std, fitStd]; omega)) fun _ => ?_
      refine Need.mk (by show ((l.length : Nat) : Int) + ((strOf (get i.toNat)).length : Int) ≤ 9223372036854775807; omega) fun _ => ?_
      refine Need.mk (by first | exact trivial | (simp only [Arith.std, fitStd]; omega) | (simp [Arith.std, fitStd]; omega)) fun _ => ?_
      refine ⟨⟨i + 1, l ++ strOf (get i.toNat), by omega, by omega, ?h2⟩, [0], (by show n - (i + 1).toNat < n - i.toNat; omega), ?st⟩
      case st => refine ⟨rfl, by decide, ?_, ?_⟩ <;> repeat' (first | exact trivial | exact rfl | apply And.intro)
      case h2 => rw [show (i + 1).toNat = i.toNat + 1 by omega, joinG_succ, ← hl]
    · replace hlt : ¬ i < @Nat.cast Int instNatCastInt n := of_decide_eq_false (p := i < (n : Int)) hlt
      obtain rfl : l = joinG n get := by rw [hl]; congr 1; omega
      exact ⟨[0], ⟨rfl, by repeat' (first | exact trivial | exact rfl | apply And.intro), by decide, rfl, by repeat' (first | exact trivial | exact rfl | apply And.intro)⟩⟩

noncomputable def sLightT : SpecF
  | [.c (.row 0), .c (.int .i64 many), .c (.int .i64 long)], [.elems ty one n get] => some (lightPre ty one n get many long, .c (.bool (lightT n get many long)), [.dead])
  | _, _ => none

set_option maxRecDepth 100000 in
set_option maxHeartbeats 2000000 in
theorem lightTP : Fn Tryd.prog 18 [] [(9, 1)] sLightT := by
  have hC : CtsOk Tryd.prog [] := CtsOk.nil _
  refine Fn.of (E := tbC) [] 0 [] tbC_ok hC (by kernel_rfl) Tryd.func18 rfl rfl rfl (by kernel_rfl) (by kernel_rfl) 1 5 1 ?_ ?_
  · intro args h pre r h' hs
    unfold sLightT at hs
    split at hs
    · cases hs; exact ⟨rfl, rfl, Nat.le_of_ble_eq_true rfl⟩
    · cases hs
  · intro args h pre r h' hs hp
    unfold sLightT at hs
    split at hs
    rotate_left
    · cases hs
    rename_i many long ty one n get
    cases hs
    obtain ⟨rfl, rfl, hst, hn, hm0, hm1, hg0, hg1⟩ := hp
    refine ⟨_, hst.same, ?_⟩
    clear hst
    generalize hg0 : joinG = g0
    generalize hg1 : strOf = g1
    generalize hg2 : (List.length : List UInt8 → Nat) = g2
    generalize hg3 : lightT = g3
    generalize hL : lft Tryd.prog _ = L
    generalize hA : Arith.std = A
    cbv
    subst hA hg0 hg1 hg2 hg3 hL
    refine Ife.mk (fun h => ?_) (fun h => ?_)
    · have h : many < (n : Int) := of_decide_eq_true (p := many < (n : Int)) h
      have e : lightT n get many long = false := Bool.eq_false_iff.2 fun h2 => by have := (lightT_iff.1 h2).1; omega
      rw [e]
      exact ⟨[0], ⟨rfl, by repeat' (first | exact trivial | exact rfl | apply And.intro), by decide, rfl, by repeat' (first | exact trivial | exact rfl | apply And.intro)⟩⟩
    have hmany : (n : Int) ≤ many := by have := of_decide_eq_false (p := many < (n : Int)) h; omega
    show Runs Tryd.prog 1 (.loop _) _ _
    refine loop_ruleR (N := env (lft Tryd.prog 1) 0 .std tbC [] []) rfl tbC_ok hC (fun c st K _ h => h) (by kernel_rfl) [] (X := LLt n get long)
      (S := fun x => ⟨[.c (.row 0), .any, .c (.int .i64 long), .any, .any, .any, .any, .c (.int .i64 x.s), .c (.int .i64 x.i)] ++ List.replicate 27 .any, [.elems 9 1 n (fun i => [.str (strOf (get i))])]⟩) (μ := fun x => n - x.i.toNat) ⟨0, 0, by omega, by omega, rfl, fun j hj => absurd hj (by omega)⟩ (by kernel_rfl) [0] ?_ ?_
    · refine ⟨rfl, by decide, ?_, ?_⟩ <;> repeat' (first | exact trivial | exact rfl | apply And.intro)
    rintro ⟨i, s, hi0, hin, hs, hall⟩
    generalize hg0 : joinG = g0
    generalize hg1 : strOf = g1
    generalize hg2 : (List.length : List UInt8 → Nat) = g2
    generalize hg3 : lightT = g3
    generalize hL : lft Tryd.prog _ = L
    generalize hA : Arith.std = A
    cbv
    subst hA hg0 hg1 hg2 hg3 hL
    replace hi0 : 0 ≤ i := hi0
    replace hin : i ≤ @Nat.cast Int instNatCastInt n := hin
    replace hs : s = @Nat.cast Int instNatCastInt (joinG i.toNat get).length := hs
    have hb : (joinG i.toNat get).length ≤ i.toNat * 10000 := by
      have : ∀ k, k ≤ i.toNat → (joinG k get).length ≤ k * 10000 := fun k => by
        induction k with
        | zero => intro _; show 0 ≤ _; omega
        | succ k ih =>
          intro hk
          have h1 := ih (by omega)
          have h2 : ((strOf (get k)).length : Int) ≤ long := hall k (by show k < i.toNat; omega)
          rw [joinG_succ, List.length_append, Nat.succ_mul]
          omega
      exact this _ (Nat.le_refl _)
    refine Ife.mk (fun hlt => ?_) (fun hlt => ?_)
    · replace hlt : i < @Nat.cast Int instNatCastInt n := of_decide_eq_true (p := i < (n : Int)) hlt
      refine Need.mk (by first | exact trivial | (simp only [Arith.std, fitStd]; omega) | (simp [Arith.std, fitStd]; omega)) fun _ => ?_
      refine Need.mk (by first | exact trivial | (simp only [Arith.std, fitStd]; omega) | (simp [Arith.std, fitStd]; omega)) fun _ => ?_
      refine Ife.mk (fun h => ?_) (fun h => ?_)
      · have h : long < ((strOf (get i.toNat)).length : Int) := of_decide_eq_true (p := long < ((strOf (get i.toNat)).length : Int)) h
        have e : lightT n get many long = false := Bool.eq_false_iff.2 fun h2 => by have := (lightT_iff.1 h2).2.1 i.toNat (by omega); omega
        rw [e]
        exact ⟨[0], ⟨rfl, by repeat' (first | exact trivial | exact rfl | apply And.intro), by decide, rfl, by repeat' (first | exact trivial | exact rfl | apply And.intro)⟩⟩
      have h : ((strOf (get i.toNat)).length : Int) ≤ long := by have := of_decide_eq_false (p := long < ((strOf (get i.toNat)).length : Int)) h; omega
      refine Need.mk (by first | exact trivial | (simp only [Arith.std, fitStd]; omega) | (simp [Arith.std, fitStd]; omega)) fun _ => ?_
      refine Need.mk (by first | exact trivial | (simp only [Arith.std, fitStd]; omega) | (simp [Arith.std, fitStd]; omega)) fun _ => ?_
      refine Need.mk (by show fitStd .i64 (s + ((strOf (get i.toNat)).length : Int)); unfold fitStd; omega) fun _ => ?_
      refine Need.mk (by first | exact trivial | (simp only [Arith.std, fitStd]; omega) | (simp [Arith.std, fitStd]; omega)) fun _ => ?_
      refine ⟨⟨i + 1, s + ((strOf (get i.toNat)).length : Int), by omega, by omega, ?h2, ?h3⟩, [0], (by show n - (i + 1).toNat < n - i.toNat; omega), ?st⟩
      case st => refine ⟨rfl, by decide, ?_, ?_⟩ <;> repeat' (first | exact trivial | exact rfl | apply And.intro)
      case h2 =>
        rw [show (i + 1).toNat = i.toNat + 1 by omega, joinG_succ, List.length_append, hs]
        rfl
      case h3 =>
        intro j hj
        by_cases hji : j = i.toNat
        · subst hji; exact h
        · exact hall j (by show j < i.toNat; omega)
    · replace hlt : ¬ i < @Nat.cast Int instNatCastInt n := of_decide_eq_false (p := i < (n : Int)) hlt
      have hi : i.toNat = n := by omega
      rw [hi] at hs
      have e : lightT n get many long = decide (s ≤ long) := by
        rw [Bool.eq_iff_iff, lightT_iff, decide_eq_true_iff, hs]
        exact ⟨fun h => h.2.2, fun h => ⟨hmany, fun i hi2 => hall i (by show i < _; omega), h⟩⟩
      rw [e]
      exact ⟨[0], ⟨rfl, by repeat' (first | exact trivial | exact rfl | apply And.intro), by decide, rfl, by repeat' (first | exact trivial | exact rfl | apply And.intro)⟩⟩

def sFirst2 : SpecF
  | [], [.glob gg sz n get] => some (KsAt gg sz n get, .c .tt, [.dead])
  | _, _ => none

set_option maxRecDepth 100000 in
set_option maxHeartbeats 2000000 in
theorem firstP : Fn Tryd.prog 16 [0] [] sFirst2 := by
  have hC : CtsOk Tryd.prog [(17, appFn [0] [(9, 1)] sSum), (23, appPure sHex)] := CtsOk.cons (Fn.ct sumP) <| CtsOk.cons (Pure.ct hexP) <| CtsOk.nil _
  refine Fn.of (E := tbC) [] 0 [] tbC_ok hC (by kernel_rfl) Tryd.func16 rfl rfl rfl (by kernel_rfl) (by kernel_rfl) 1 5 1 ?_ ?_
  · intro args h pre r h' hs
    unfold sFirst2 at hs
    split at hs
    · cases hs; exact ⟨rfl, rfl, Nat.le_of_ble_eq_true rfl⟩
    · cases hs
  · intro args h pre r h' hs hp
    unfold sFirst2 at hs
    split at hs
    rotate_left
    · cases hs
    rename_i gg sz n get
    cases hs
    refine ⟨_, KsAt.left hp, ?_⟩
    unfold sSum sHex
    generalize hg0 : sumPre = g0
    generalize hg1 : joinG = g1
    generalize hg2 : cutC = g2
    generalize hg3 : sumI = g3
    generalize hg4 : HashC = g4
    generalize hg5 : hexL = g5
    generalize hg6 : u8s = g6
    generalize hg7 : kOf = g7
    generalize hA : Arith.std = A
    cbv
    subst hA hg0 hg1 hg2 hg3 hg4 hg5 hg6 hg7
    have e := (strs_cut [[97], [98, 99]]).2
    refine Need.mk (sumPre_cut [[97], [98, 99]] (by decide) (by decide)) fun _ => ?_
    replace e : joinG 2 (cutC 1 [CV.str [97], CV.str [98, 99]] 0) = [97, 98, 99] := e
    rw [e]
    refine Need.mk (hashC_sum _) fun _ => ?_
    refine ⟨[0], ⟨rfl, ?_, by decide, rfl, by repeat' (first | exact trivial | exact rfl | apply And.intro)⟩⟩
    show decide (hexL (hashB (sumI [97, 98, 99])) = [98, 97, 55, 56, 49, 54, 98, 102, 56, 102, 48, 49, 99, 102, 101, 97, 52, 49, 52, 49, 52, 48, 100, 101, 53, 100, 97, 101, 50, 50, 50, 51, 98, 48, 48, 51, 54, 49, 97, 51, 57, 54, 49, 55, 55, 97, 57, 99, 98, 52, 49, 48, 102, 102, 54, 49, 102, 50, 48, 48, 49, 53, 97, 100]) = true
    decide +kernel

end Go.Proofs.YtophhppklaofaaaDoor.Vx
