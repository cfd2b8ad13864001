/- Sums as texts, in digits, and in order, by the walker. -/
import Derived.Test.YtophhppklaofaaaDoorM15
import Derived.Test.YtophhppklaofaaaDoorShelf
section
namespace Go.Proofs.YtophhppklaofaaaDoor.Vx
open Go.RowKit Sha
set_option linter.unusedVariables false
set_option linter.unusedSimpArgs false

/-- A sum's bytes, as cells. -/
def hashC (f : Nat → Int) : List CV := [.int .u8 (f 0), .int .u8 (f 1), .int .u8 (f 2), .int .u8 (f 3), .int .u8 (f 4), .int .u8 (f 5), .int .u8 (f 6), .int .u8 (f 7), .int .u8 (f 8), .int .u8 (f 9), .int .u8 (f 10), .int .u8 (f 11), .int .u8 (f 12), .int .u8 (f 13), .int .u8 (f 14), .int .u8 (f 15), .int .u8 (f 16), .int .u8 (f 17), .int .u8 (f 18), .int .u8 (f 19), .int .u8 (f 20), .int .u8 (f 21), .int .u8 (f 22), .int .u8 (f 23), .int .u8 (f 24), .int .u8 (f 25), .int .u8 (f 26), .int .u8 (f 27), .int .u8 (f 28), .int .u8 (f 29), .int .u8 (f 30), .int .u8 (f 31)]
def HashC (xs : List CV) : Prop := ∃ f : Nat → Int, xs = hashC f ∧ ∀ i, 0 ≤ f i ∧ f i < 256
/-- Cells as bytes. -/
def u8s (xs : List CV) : List UInt8 := xs.map fun c => byteOf [c]
def hashB (f : Nat → Int) : List UInt8 := (List.range 32).map fun i => UInt8.ofNat (f i).toNat
theorem hashB_len (f : Nat → Int) : (hashB f).length = 32 := by simp [hashB]
theorem hashC_sum (l : List UInt8) : HashC (hashC (sumI l)) := ⟨sumI l, rfl, sumI_range l⟩
def digs : List UInt8 := [48, 49, 50, 51, 52, 53, 54, 55, 56, 57, 97, 98, 99, 100, 101, 102]
def sText : List SV → Option (Prop × SV)
  | [.agg xs] => some (HashC xs, .c (.str (u8s xs)))
  | _ => none

set_option maxRecDepth 100000 in
set_option maxHeartbeats 2000000 in
theorem textP : Pure Tryd.prog 21 sText := by
  have hC : CtsOk Tryd.prog [] := CtsOk.nil _
  refine Pure.of (E := tbC) (C := []) [] 0 [] tbC_ok hC (by kernel_rfl) Tryd.func21 rfl rfl rfl (by kernel_rfl) (by kernel_rfl) ?_ ?_
  · intro args pre r h
    unfold sText at h
    split at h
    · cases h; rfl
    · cases h
  · intro args pre r h hp
    unfold sText at h
    split at h
    rotate_left
    · cases h
    rename_i xs
    cases h
    obtain ⟨f, rfl, hf⟩ := hp
    unfold hashC
    generalize hg0 : u8s = g0
    generalize hA : Arith.std = A
    cbv
    subst hA hg0
    rfl




end Go.Proofs.YtophhppklaofaaaDoor.Vx
end

section
/- Texts in digits; sums in order, by the walker. -/
namespace Go.Proofs.YtophhppklaofaaaDoor.Vx
open Go.RowKit Sha
set_option linter.unusedVariables false
set_option linter.unusedSimpArgs false









end Go.Proofs.YtophhppklaofaaaDoor.Vx
end

section
/- Digits read back, by the walker. -/
namespace Go.Proofs.YtophhppklaofaaaDoor.Vx
open Go.RowKit Sha
set_option linter.unusedVariables false
set_option linter.unusedSimpArgs false
/-- Where a byte stands in a text. -/
def ixB (l : List UInt8) (c : Int) : Int := Lib.indexByte l c.toNat.toUInt8
/-- The value of the digit at a place. -/
def hv (s : List UInt8) (k : Nat) : Int := ixB digs ((s.getD k 0).toNat : Int)





end Go.Proofs.YtophhppklaofaaaDoor.Vx
end

section
/- The laws of the sums, by the walker: ShaCuts, ShaTells, ShaLess. -/
namespace Go.Proofs.YtophhppklaofaaaDoor.Vx
open Go.RowKit Sha
set_option linter.unusedVariables false
set_option linter.unusedSimpArgs false
/-- The texts of a slice that is written out. -/
theorem strs_cut (ls : List (List UInt8)) : StrsAt ls.length (cutC 1 (ls.map CV.str) 0) ∧ joinG ls.length (cutC 1 (ls.map CV.str) 0) = ls.flatten := by
  have e : ∀ i, (hi : i < ls.length) → cutC 1 (ls.map CV.str) 0 i = [.str ls[i]] := fun i hi => by
    unfold cutC
    rw [Nat.mul_one, Nat.zero_add, List.drop_eq_getElem_cons (by simpa using hi)]
    simp
  refine ⟨fun i hi => ⟨_, e i hi⟩, ?_⟩
  unfold joinG
  rw [List.flatMap]
  congr 1
  apply List.ext_getElem
  · simp
  · intro i h1 h2
    simp only [List.getElem_map, List.getElem_range]
    rw [e i h2]
    rfl
theorem sumPre_cut (ls : List (List UInt8)) (h : ls.flatten.length ≤ 140737488350000) (hn : ls.length ≤ 1000) : sumPre 0 1 64 (fun i => [.int .u32 (kOf i)]) 9 1 ls.length (cutC 1 (ls.map CV.str) 0) := by
  obtain ⟨h1, h2⟩ := strs_cut ls
  exact ⟨ksAt_self, rfl, rfl, h1, by omega, by rw [h2]; exact h⟩
def joinedPre (ty one n : Nat) (get : Nat → List CV) : Prop := ty = 9 ∧ one = 1 ∧ StrsAt n get ∧ n ≤ 140737488355328 ∧ (joinG n get).length ≤ 140737488350000
theorem StrsAt.same {n : Nat} {get : Nat → List CV} {ty : Nat} (h : StrsAt n get) : hSame [.elems ty 1 n get] [.elems ty 1 n (fun i => [.str (strOf (get i))])] := by
  refine ⟨⟨rfl, rfl, rfl, fun i hi => ?_⟩, trivial⟩
  obtain ⟨l, hl⟩ := h i hi
  show get i = [.str (strOf (get i))]
  rw [hl]
  rfl
noncomputable def lightT (n : Nat) (get : Nat → List CV) (many long : Int) : Bool := decide ((n : Int) ≤ many) && ((List.range n).all fun i => decide (((strOf (get i)).length : Int) ≤ long)) && decide (((joinG n get).length : Int) ≤ long)
theorem lightT_iff {n : Nat} {get : Nat → List CV} {many long : Int} : lightT n get many long = true ↔ (n : Int) ≤ many ∧ (∀ i, i < n → ((strOf (get i)).length : Int) ≤ long) ∧ ((joinG n get).length : Int) ≤ long := by
  unfold lightT
  simp [and_assoc]
def lightPre (ty one n : Nat) (get : Nat → List CV) (many long : Int) : Prop := ty = 9 ∧ one = 1 ∧ StrsAt n get ∧ n ≤ 9223372036854775807 ∧ 0 ≤ many ∧ many ≤ 100 ∧ 0 ≤ long ∧ long ≤ 10000
structure LLt (n : Nat) (get : Nat → List CV) (long : Int) where
  i : Int
  s : Int
  h0 : 0 ≤ i
  h1 : i ≤ (n : Int)
  h2 : s = ((joinG i.toNat get).length : Int)
  h3 : ∀ j, j < i.toNat → ((strOf (get j)).length : Int) ≤ long
def sJoined : SpecF
  | [.c (.row 0)], [.elems ty one n get] => some (joinedPre ty one n get, .c (.str (joinG n get)), [.dead])
  | _, _ => none


noncomputable def sLightT : SpecF
  | [.c (.row 0), .c (.int .i64 many), .c (.int .i64 long)], [.elems ty one n get] => some (lightPre ty one n get many long, .c (.bool (lightT n get many long)), [.dead])
  | _, _ => none

set_option maxRecDepth 100000 in
set_option maxHeartbeats 2000000 in
theorem lightTP : Fn Tryd.prog 18 [] [(9, 1)] sLightT := by
  have hC : CtsOk Tryd.prog [] := CtsOk.nil _
  refine Fn.of (E := tbC) [] 0 [] tbC_ok hC (by kernel_rfl) Tryd.func18 rfl rfl rfl (by kernel_rfl) (by kernel_rfl) 1 5 1 ?_ ?_
  · intro args h pre r h' hs
    unfold sLightT at hs
    split at hs
    · cases hs; exact ⟨rfl, rfl, Nat.le_of_ble_eq_true rfl⟩
    · cases hs
  · intro args h pre r h' hs hp
    unfold sLightT at hs
    split at hs
    rotate_left
    · cases hs
    rename_i many long ty one n get
    cases hs
    obtain ⟨rfl, rfl, hst, hn, hm0, hm1, hg0, hg1⟩ := hp
    refine ⟨_, hst.same, ?_⟩
    clear hst
    generalize hg0 : joinG = g0
    generalize hg1 : strOf = g1
    generalize hg2 : (List.length : List UInt8 → Nat) = g2
    generalize hg3 : lightT = g3
    generalize hL : lft Tryd.prog _ = L
    generalize hA : Arith.std = A
    cbv
    subst hA hg0 hg1 hg2 hg3 hL
    refine Ife.mk (fun h => ?_) (fun h => ?_)
    · have h : many < (n : Int) := of_decide_eq_true (p := many < (n : Int)) h
      have e : lightT n get many long = false := Bool.eq_false_iff.2 fun h2 => by have := (lightT_iff.1 h2).1; omega
      rw [e]
      exact ⟨[0], ⟨rfl, by repeat' (first | exact trivial | exact rfl | apply And.intro), by decide, rfl, by repeat' (first | exact trivial | exact rfl | apply And.intro)⟩⟩
    have hmany : (n : Int) ≤ many := by have := of_decide_eq_false (p := many < (n : Int)) h; omega
    show Runs Tryd.prog 1 (.loop _) _ _
    refine loop_ruleR (N := env (lft Tryd.prog 1) 0 .std tbC [] []) rfl tbC_ok hC (fun c st K _ h => h) (by kernel_rfl) [] (X := LLt n get long)
      (S := fun x => ⟨[.c (.row 0), .any, .c (.int .i64 long), .any, .any, .any, .any, .c (.int .i64 x.s), .c (.int .i64 x.i)] ++ List.replicate 27 .any, [.elems 9 1 n (fun i => [.str (strOf (get i))])]⟩) (μ := fun x => n - x.i.toNat) ⟨0, 0, by omega, by omega, rfl, fun j hj => absurd hj (by omega)⟩ (by kernel_rfl) [0] ?_ ?_
    · refine ⟨rfl, by decide, ?_, ?_⟩ <;> repeat' (first | exact trivial | exact rfl | apply And.intro)
    rintro ⟨i, s, hi0, hin, hs, hall⟩
    generalize hg0 : joinG = g0
    generalize hg1 : strOf = g1
    generalize hg2 : (List.length : List UInt8 → Nat) = g2
    generalize hg3 : lightT = g3
    generalize hL : lft Tryd.prog _ = L
    generalize hA : Arith.std = A
    cbv
    subst hA hg0 hg1 hg2 hg3 hL
    replace hi0 : 0 ≤ i := hi0
    replace hin : i ≤ @Nat.cast Int instNatCastInt n := hin
    replace hs : s = @Nat.cast Int instNatCastInt (joinG i.toNat get).length := hs
    have hb : (joinG i.toNat get).length ≤ i.toNat * 10000 := by
      have : ∀ k, k ≤ i.toNat → (joinG k get).length ≤ k * 10000 := fun k => by
        induction k with
        | zero => intro _; show 0 ≤ _; omega
        | succ k ih =>
          intro hk
          have h1 := ih (by omega)
          have h2 : ((strOf (get k)).length : Int) ≤ long := hall k (by show k < i.toNat; omega)
          rw [joinG_succ, List.length_append, Nat.succ_mul]
          omega
      exact this _ (Nat.le_refl _)
    refine Ife.mk (fun hlt => ?_) (fun hlt => ?_)
    · replace hlt : i < @Nat.cast Int instNatCastInt n := of_decide_eq_true (p := i < (n : Int)) hlt
      refine Need.mk (by first | exact trivial | (simp only [Arith.std, fitStd]; omega) | (simp [Arith.std, fitStd]; omega)) fun _ => ?_
      refine Need.mk (by first | exact trivial | (simp only [Arith.std, fitStd]; omega) | (simp [Arith.std, fitStd]; omega)) fun _ => ?_
      refine Ife.mk (fun h => ?_) (fun h => ?_)
      · have h : long < ((strOf (get i.toNat)).length : Int) := of_decide_eq_true (p := long < ((strOf (get i.toNat)).length : Int)) h
        have e : lightT n get many long = false := Bool.eq_false_iff.2 fun h2 => by have := (lightT_iff.1 h2).2.1 i.toNat (by omega); omega
        rw [e]
        exact ⟨[0], ⟨rfl, by repeat' (first | exact trivial | exact rfl | apply And.intro), by decide, rfl, by repeat' (first | exact trivial | exact rfl | apply And.intro)⟩⟩
      have h : ((strOf (get i.toNat)).length : Int) ≤ long := by have := of_decide_eq_false (p := long < ((strOf (get i.toNat)).length : Int)) h; omega
      refine Need.mk (by first | exact trivial | (simp only [Arith.std, fitStd]; omega) | (simp [Arith.std, fitStd]; omega)) fun _ => ?_
      refine Need.mk (by first | exact trivial | (simp only [Arith.std, fitStd]; omega) | (simp [Arith.std, fitStd]; omega)) fun _ => ?_
      refine Need.mk (by show fitStd .i64 (s + ((strOf (get i.toNat)).length : Int)); unfold fitStd; omega) fun _ => ?_
      refine Need.mk (by first | exact trivial | (simp only [Arith.std, fitStd]; omega) | (simp [Arith.std, fitStd]; omega)) fun _ => ?_
      refine ⟨⟨i + 1, s + ((strOf (get i.toNat)).length : Int), by omega, by omega, ?h2, ?h3⟩, [0], (by show n - (i + 1).toNat < n - i.toNat; omega), ?st⟩
      case st => refine ⟨rfl, by decide, ?_, ?_⟩ <;> repeat' (first | exact trivial | exact rfl | apply And.intro)
      case h2 =>
        rw [show (i + 1).toNat = i.toNat + 1 by omega, joinG_succ, List.length_append, hs]
        rfl
      case h3 =>
        intro j hj
        by_cases hji : j = i.toNat
        · subst hji; exact h
        · exact hall j (by show j < i.toNat; omega)
    · replace hlt : ¬ i < @Nat.cast Int instNatCastInt n := of_decide_eq_false (p := i < (n : Int)) hlt
      have hi : i.toNat = n := by omega
      rw [hi] at hs
      have e : lightT n get many long = decide (s ≤ long) := by
        rw [Bool.eq_iff_iff, lightT_iff, decide_eq_true_iff, hs]
        exact ⟨fun h => h.2.2, fun h => ⟨hmany, fun i hi2 => hall i (by show i < _; omega), h⟩⟩
      rw [e]
      exact ⟨[0], ⟨rfl, by repeat' (first | exact trivial | exact rfl | apply And.intro), by decide, rfl, by repeat' (first | exact trivial | exact rfl | apply And.intro)⟩⟩



end Go.Proofs.YtophhppklaofaaaDoor.Vx
end

section
/- The laws ShaCuts, ShaTells, ShaLess. -/
namespace Go.Proofs.YtophhppklaofaaaDoor.Vx
open Go.RowKit Sha
set_option linter.unusedVariables false
set_option linter.unusedSimpArgs false


end Go.Proofs.YtophhppklaofaaaDoor.Vx
end
