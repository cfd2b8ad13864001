/- The document's comparison of proofs, by the walker. -/
import Derived.Test.YthomoliklfmnkaaM15
import Derived.Test.YthomoliklfmnkaaM12
import Derived.Test.YthomoliklfmnkaaVxFrame
import Derived.Test.YthomoliklfmnkaaVxFlat
import Derived.Test.YthomoliklfmnkaaVxLive
import Derived.Test.YthomoliklfmnkaaRows
section
namespace Go.Proofs.Ythomoliklfmnkaa.Vx
open Go.RowKit
set_option linter.unusedVariables false
set_option linter.unusedSimpArgs false
/-- A byte of a sum. -/
def hQ (p : List (List Int)) (i j : Nat) : Int := (p.getD i []).getD j 0

end Go.Proofs.Ythomoliklfmnkaa.Vx
end

section
/- Ranges of numbers: Good, Count, by the walker. -/
namespace Go.Proofs.Ythomoliklfmnkaa.Vx
open Go.RowKit Span
set_option linter.unusedVariables false
set_option linter.unusedSimpArgs false
def rgOf : List CV → Rg
  | [.int .i64 a, .int .i64 b] => (a, b)
  | _ => (0, 0)
/-- Numbers, as cells. -/
def iA (l : List Int) (i : Nat) : Int := l.getD i 0
def inGP (zp0 : type_of% @iA) (l : List Int) (i : Nat) : List CV := [.int .i64 (zp0 l i)]
@[reducible] def inG := inGP iA
def iOf : List CV → Int
  | [.int .i64 a] => a
  | _ => 0
def iL (n : Nat) (get : Nat → List CV) : List Int := (List.range n).map fun i => iOf (get i)
def InAt (n : Nat) (get : Nat → List CV) : Prop := ∀ i, i < n → ∃ a, get i = [.int .i64 a]
theorem iL_len {n : Nat} {get : Nat → List CV} : (iL n get).length = n := by simp [iL]
theorem InAt.eq {n : Nat} {get : Nat → List CV} (h : InAt n get) {i : Nat} (hi : i < n) : get i = inG (iL n get) i := by
  obtain ⟨a, e⟩ := h i hi
  unfold inG inGP iA
  rw [show (iL n get).getD i 0 = iOf (get i) by simp [iL, List.getD, List.getElem?_map, List.getElem?_range hi], e]
  rfl
theorem InAt.same {n : Nat} {get : Nat → List CV} {ty : Nat} (h : InAt n get) : hSame [.elems ty 1 n get] [.elems ty 1 n (inG (iL n get))] := ⟨⟨rfl, rfl, rfl, fun i hi => h.eq hi⟩, trivial⟩
theorem inAt_inG (n : Nat) (l : List Int) : InAt n (inG l) := fun i _ => ⟨_, rfl⟩
theorem iL_inG (l : List Int) : iL l.length (inG l) = l := by
  apply List.ext_getElem?
  intro i
  by_cases hi : i < l.length
  · simp [iL, inG, inGP, iOf, iA, List.getElem?_range hi, List.getD, hi]
  · rw [List.getElem?_eq_none (by simp [iL]; omega), List.getElem?_eq_none (by omega)]
theorem inG_push (l : List Int) (a : Int) (i : Nat) (h : i < l.length + 1) : pushG l.length (inG l) [.int .i64 a] i = inG (l ++ [a]) i := by
  unfold pushG inG inGP iA
  by_cases hi : i < l.length
  · rw [show Nat.blt i l.length = true by simpa [Nat.blt_eq] using hi]
    simp [List.getD, List.getElem?_append_left hi]
  · rw [show Nat.blt i l.length = false by rw [Bool.eq_false_iff]; intro h2; exact hi (by simpa [Nat.blt_eq] using h2)]
    obtain rfl : i = l.length := by omega
    simp [List.getD]
def inPre (ty one n : Nat) (get : Nat → List CV) : Prop := ty = 3 ∧ one = 1 ∧ InAt n get ∧ n ≤ 1000000






end Go.Proofs.Ythomoliklfmnkaa.Vx
end

section
/- Lists of numbers compared (ligkeep.Ints), by the walker. -/
namespace Go.Proofs.Ythomoliklfmnkaa.Vx
open Go.RowKit Span
set_option linter.unusedVariables false
set_option linter.unusedSimpArgs false
def tbH : Tbl where
  T :=
    (3, ⟨1, false, [.int .i64 (0)], .int .i64, 8⟩) ::
    (4, ⟨1, false, [.ff], .bool, 1⟩) ::
    (39, ⟨1, false, [.val (.slice none 0 0)], .slice 3, 24⟩) ::
    (9, ⟨1, false, [.str []], .str, 16⟩) ::
    []
  F :=
    []

theorem tbH_ok : tbH.Ok Try.prog where
  T :=
    TblOk.cons (by kernel_rfl) <|
    TblOk.cons (by kernel_rfl) <|
    TblOk.cons (by kernel_rfl) <|
    TblOk.cons (by kernel_rfl) <|
    TblOk.nil _
  F :=
    FlatsOk.nil _

structure LEi (L K : List Int) (n : Nat) where
  i : Int
  h0 : 0 ≤ i
  h1 : i ≤ (n : Int)
  h2 : ∀ k, k < i.toNat → iA L k = iA K k
theorem in_ext {L K : List Int} (hl : L.length = K.length) (h : ∀ k, k < L.length → iA L k = iA K k) : L = K := by
  apply List.ext_getElem hl
  intro i h1 h2
  have := h i h1
  unfold iA at this
  simpa [List.getD, h1, h2] using this
def sEqI : SpecF
  | [.c (.row 0), .c (.row 1)], [.elems ty one n get, .elems ty' one' n' get'] => some (inPre ty one n get ∧ inPre ty' one' n' get', .c (.bool (decide (iL n get = iL n' get'))), [.dead, .dead])
  | _, _ => none

set_option maxRecDepth 100000 in
set_option maxHeartbeats 4000000 in
theorem eqIP : Fn Try.prog 19 [] [(3, 1), (3, 1)] sEqI := by
  have hC : CtsOk Try.prog [] := CtsOk.nil _
  refine Fn.of (E := tbH) [] 0 [(6, [(0, true), (1, true), (2, true), (3, true), (4, true), (5, true), (6, true), (7, true), (8, true)])] tbH_ok hC (by kernel_rfl) Try.func19 rfl rfl rfl (by kernel_rfl) (by kernel_rfl) 2 5 1 ?_ ?_
  · intro args h pre r h' hs
    unfold sEqI at hs
    split at hs
    · cases hs; exact ⟨rfl, rfl, Nat.le_of_ble_eq_true rfl⟩
    · cases hs
  · intro args h pre r h' hs hp
    unfold sEqI at hs
    split at hs
    rotate_left
    · cases hs
    rename_i ty one n get ty' one' n' get'
    cases hs
    obtain ⟨⟨rfl, rfl, hst, hm⟩, ⟨rfl, rfl, hst', hm'⟩⟩ := hp
    refine ⟨[.elems 3 1 n (inG (iL n get)), .elems 3 1 n' (inG (iL n' get'))], ⟨hst.same.1, hst'.same.1, trivial⟩, ?_⟩
    have hL : (iL n get).length = n := iL_len
    have hK : (iL n' get').length = n' := iL_len
    generalize iL n get = L at hL ⊢
    generalize iL n' get' = K at hK ⊢
    generalize hL : lft Try.prog _ = L
    try unfold inG
    generalize ho0 : @iL = zo0, ho1 : @iA = zo1, ho2 : @inPre = zo2
    generalize hA : Arith.std = A
    cbv
    subst hA hL ho0 ho1 ho2
    refine Ife.mk (fun h => ?_) (fun h => ?_)
    · have h : ¬ ((n : Int) = (n' : Int)) := by simpa using (show (!decide ((n : Int) = (n' : Int))) = true from h)
      rw [show decide (L = K) = false from decide_eq_false fun e => h (by rw [← hL, ← hK, e])]
      exact ⟨[0, 1], ⟨rfl, rfl, by decide, rfl, by repeat' (first | exact trivial | exact rfl | apply And.intro)⟩⟩
    have h : ((n : Int) = (n' : Int)) := by simpa using (show (!decide ((n : Int) = (n' : Int))) = false from h)
    have hnn : n = n' := by omega
    subst hnn
    clear h
    show Runs Try.prog 2 (.loop _) _ _
    refine loop_ruleR (N := env (lft Try.prog 2) 0 .std tbH [] [(6, [(0, true), (1, true), (2, true), (3, true), (4, true), (5, true), (6, true), (7, true), (8, true)])]) rfl tbH_ok hC (fun c st K _ h => h) (by kernel_rfl) [] (X := LEi L K n)
      (S := fun x => ⟨[.c (.row 0), .c (.row 1), .any, .any, .any, .c (.int .i64 x.i)] ++ List.replicate 20 .any, [.elems 3 1 n (inG L), .elems 3 1 n (inG K)]⟩) (μ := fun x => n - x.i.toNat) ⟨0, by omega, by omega, fun k hk => absurd hk (by show ¬ k < (0 : Int).toNat; omega)⟩ (by kernel_rfl) [0, 1] ?_ ?_
    · refine ⟨rfl, by decide, ?_, ?_⟩ <;> repeat' (first | exact trivial | exact rfl | apply And.intro)
    rintro ⟨i, hi0, hin, hall⟩
    generalize hL : lft Try.prog _ = L
    try dsimp only
    try unfold inG
    generalize ho0 : @iL = zo0, ho1 : @iA = zo1, ho2 : @inPre = zo2
    generalize hA : Arith.std = A
    cbv
    subst hA hL ho0 ho1 ho2
    replace hall : ∀ k, k < i.toNat → iA L k = iA K k := hall
    replace hi0 : 0 ≤ i := hi0
    replace hin : i ≤ @Nat.cast Int instNatCastInt n := hin
    refine Ife.mk (fun hlt => ?_) (fun hlt => ?_)
    · replace hlt : i < @Nat.cast Int instNatCastInt n := of_decide_eq_true (p := i < (n : Int)) hlt
      repeat refine Need.mk (by first | exact trivial | (simp only [Arith.std, fitStd]; omega) | (simp [Arith.std, fitStd]; omega)) fun _ => ?_
      refine Ife.mk (fun h => ?_) (fun h => ?_)
      · have h : ¬ iA L i.toNat = iA K i.toNat := by simpa using (show (!decide (iA L i.toNat = iA K i.toNat)) = true from h)
        rw [show decide (L = K) = false from decide_eq_false fun e => h (by rw [e])]
        exact ⟨[0, 1], ⟨rfl, rfl, by decide, rfl, by repeat' (first | exact trivial | exact rfl | apply And.intro)⟩⟩
      have h1 : iA L i.toNat = iA K i.toNat := by simpa using (show (!decide (iA L i.toNat = iA K i.toNat)) = false from h)
      repeat refine Need.mk (by first | exact trivial | (simp only [Arith.std, fitStd]; omega) | (simp [Arith.std, fitStd]; omega)) fun _ => ?_
      refine ⟨⟨i + 1, by omega, by omega, ?h2⟩, [0, 1], (by show n - (i + 1).toNat < n - i.toNat; omega), ?st⟩
      case st => refine ⟨rfl, by decide, ?_, ?_⟩ <;> repeat' (first | exact trivial | exact rfl | apply And.intro)
      case h2 =>
        intro k hk
        by_cases hk2 : k = i.toNat
        · rw [hk2]; exact h1
        · exact hall k (by omega)
    · replace hlt : ¬ i < @Nat.cast Int instNatCastInt n := of_decide_eq_false (p := i < (n : Int)) hlt
      rw [show decide (L = K) = true from decide_eq_true (in_ext (by omega) fun k hk => hall k (by omega))]
      exact ⟨[0, 1], ⟨rfl, rfl, by decide, rfl, by repeat' (first | exact trivial | exact rfl | apply And.intro)⟩⟩

end Go.Proofs.Ythomoliklfmnkaa.Vx
end
