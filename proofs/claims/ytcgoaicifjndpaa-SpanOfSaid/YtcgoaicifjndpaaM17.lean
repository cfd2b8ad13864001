/- Slices of integers and of ranges that come in. -/
import Derived.Test.YtcgoaicifjndpaaM16
import Derived.Test.YtcgoaicifjndpaaM12
import Derived.Test.YtcgoaicifjndpaaM13
import Derived.Test.YtcgoaicifjndpaaVSpan10
section
namespace Go.Proofs.Ytcgoaicifjndpaa
open Go.ChangeShapes Go.WideShapes Go.ChangeAt Go.RowKit
set_option linter.unusedVariables false
set_option linter.unusedSimpArgs false
section
variable {H : Type} {enc : TypeId × Value → H} {w : World} {base : Nat}
theorem cellsG_int : Try.prog.cellsOf 3 = 1 := by kernel_rfl
set_option maxRecDepth 100000 in
theorem open_Inz {v : Value} {d : DataW H} {p : List MemPlace} (hv : Value.okWide Try.prog w .any base 22 v) (h : DataW.Trod enc Try.prog w 0 (fun _ => true) true 22 v d p) :
    ∃ (a : Option Addr) (cap : Nat) (ls : List Int), v = .slice a ls.length cap ∧ SlIn w a 1 cap (ls.map fun n => [.int .i64 n]) := by
  obtain ⟨a, cap, xs, rfl, hs, hx⟩ := open_slice (sz := 1) (P := fun l => ∃ n : Int, l = [.int .i64 n]) (by decide) Try.underlying22 cellsG_int (fun fuel l x hl => by
    obtain ⟨n, e, _, hn⟩ := DataW.trod_int Try.underlying3 hl
    exact ⟨by rw [e]; rfl, n, e⟩) hv h
  obtain ⟨f, hf⟩ : ∃ f : Nat → Int, ∀ i (hi : i < xs.length), xs[i] = [.int .i64 (f i)] := by
    have key : ∀ i, ∃ n : Int, ∀ hi : i < xs.length, xs[i] = [.int .i64 n] := fun i => by
      by_cases hi : i < xs.length
      · obtain ⟨n, e⟩ := (hx _ (List.getElem_mem hi)).2
        exact ⟨n, fun _ => e⟩
      · exact ⟨0, fun h => absurd h hi⟩
    exact ⟨fun i => (key i).choose, fun i hi => (key i).choose_spec hi⟩
  have e : xs = ((List.range xs.length).map f).map fun n => [.int .i64 n] := by
    apply List.ext_getElem (by simp)
    intro i h1 h2
    simp [hf i h1]
  refine ⟨a, cap, (List.range xs.length).map f, by simp, ?_⟩
  rw [← e]
  exact hs
theorem inz_good {w : World} {a : Option Addr} {cap : Nat} {ls : List Int} (hs : SlIn w a 1 cap (ls.map fun n => [.int .i64 n])) : ∃ p : Vx.Pl, p.v = .slice a ls.length cap ∧ Vx.Good w 1 (ls.length, Vx.inG ls) p := by
  obtain ⟨p, hp, g⟩ := hs.good (get := Vx.inG ls) (fun i hi => by
    have hi' : i < ls.length := by simpa using hi
    rw [List.getElem_map]
    show [some (Value.int .i64 (Vx.iA ls i))] = [some (Value.int .i64 ls[i])]
    simp [Vx.iA, List.getD, hi'])
  simp only [List.length_map] at hp g
  exact ⟨p, hp, g⟩
end
end Go.Proofs.Ytcgoaicifjndpaa
end

section
/- The law SpanAll, by the walker. -/
namespace Go.Proofs.Ytcgoaicifjndpaa.Vx
open Go.RowKit Span
set_option linter.unusedVariables false
set_option linter.unusedSimpArgs false
theorem srt_perm (l : List Int) : (srt l).Perm l := List.mergeSort_perm l _
theorem srt_up (l : List Int) : (srt l).Pairwise (· ≤ ·) := by
  have h := List.pairwise_mergeSort (le := fun x y : Int => decide (x ≤ y)) (fun a b c h1 h2 => by simp at *; omega) (fun a b => by simp; omega) l
  simpa [srt] using h
theorem first_of : ofL (srt (iL 4 (cutC 1 [.int .i64 3, .int .i64 1, .int .i64 2, .int .i64 7] 0))) = [(1, 3), (7, 7)] := by
  rw [show iL 4 (cutC 1 [.int .i64 3, .int .i64 1, .int .i64 2, .int .i64 7] 0) = [3, 1, 2, 7] from rfl, show srt [3, 1, 2, 7] = [1, 2, 3, 7] by simp [srt, List.mergeSort]]
  decide
theorem first_in : InAt 4 (cutC 1 [.int .i64 3, .int .i64 1, .int .i64 2, .int .i64 7] 0) := fun i hi => by
  rcases (show i = 0 ∨ i = 1 ∨ i = 2 ∨ i = 3 by omega) with rfl | rfl | rfl | rfl <;> exact ⟨_, rfl⟩
theorem first_lacks : lacksL (rgL 2 (rgG [(1, 3), (7, 7)])) 1 9 = [(4, 6), (8, 9)] := by
  rw [show rgL 2 (rgG [(1, 3), (7, 7)]) = [(1, 3), (7, 7)] from rgL_rgG [(1, 3), (7, 7)]]
  decide
theorem len_le_runs {l : List Rg} (h : ∀ r ∈ l, r.1 ≤ r.2) : l.length ≤ (runs l).length := by
  induction l with
  | nil => simp
  | cons r l ih =>
    have h1 := runR_len (h r (by simp))
    have h2 := ih fun x hx => h x (by simp [hx])
    have h3 := h r (by simp)
    simp only [runs, List.flatMap_cons, List.length_append, List.length_cons] at h2 ⊢
    omega
theorem iA_mem {R : List Int} {i : Nat} (h : i < R.length) : iA R i ∈ R := by
  unfold iA
  rw [List.getD_eq_getElem?_getD, List.getElem?_eq_getElem h]
  exact List.getElem_mem h
attribute [local cbv_opaque] rA rB rgL rgOf good okAt mayN ofL Span.step runs count lacksL iL srt iA countG lkGo lkEnd runR rgPre inPre sortPre imin imax
def sFirst23 : SpecF
  | [], [] => some (True, .c .tt, [])
  | _, _ => none

set_option maxRecDepth 100000 in
set_option maxHeartbeats 8000000 in
theorem first23P : Fn Try.prog 17 [] [] sFirst23 := by
  have hC : CtsOk Try.prog [(19, appFn [] [(3, 1)] sOf), (30, appFn [] [(111, 2)] sLacks)] := CtsOk.cons (Fn.ct ofP) <| CtsOk.cons (Fn.ct lacksP) <| CtsOk.nil _
  refine Fn.of (E := tbG) [] 0 [] tbG_ok hC (by kernel_rfl) Try.func17 rfl rfl rfl (by kernel_rfl) (by kernel_rfl) 0 5 1 ?_ ?_
  · intro args h pre r h' hs
    unfold sFirst23 at hs
    split at hs
    · cases hs; exact ⟨rfl, rfl, Nat.le_of_ble_eq_true rfl⟩
    · cases hs
  · intro args h pre r h' hs hp
    unfold sFirst23 at hs
    split at hs
    rotate_left
    · cases hs
    cases hs
    refine ⟨[], trivial, ?_⟩
    unfold sOf sLacks
    generalize hg0 : (List.length : List Rg → Nat) = g0
    generalize hA : Arith.std = A
    set_option cbv.maxSteps 2000000 in cbv
    subst hA hg0
    refine Need.mk ⟨rfl, rfl, first_in, by omega⟩ fun _ => ?_
    rw [first_of]
    refine Need.mk ⟨rfl, rfl, rgAt_rgG _ _, (by show 2 ≤ 1000000; omega)⟩ fun _ => ?_
    rw [show ([(1, 3), (7, 7)] : List Rg).length = 2 from rfl, first_lacks]
    refine Ife.mk (fun _ => ?_) (fun hb => absurd (show decide ((2 : Int) = 2) = false from hb) (by decide))
    refine Need.mk (by show (0 : Int) ≤ 0 ∧ (0 : Int) < 2; omega) fun _ => Need.mk (by show 0 < 2; omega) fun _ => ?_
    refine Ife.mk (fun _ => ?_) (fun hb => absurd (show (decide ((1 : Int) = 1) && (decide ((3 : Int) = 3) && true)) = false from hb) (by decide))
    refine Ife.mk (fun _ => ?_) (fun hb => absurd (show decide ((2 : Int) = 2) = false from hb) (by decide))
    refine Need.mk (by show (0 : Int) ≤ 1 ∧ (1 : Int) < 2; omega) fun _ => Need.mk (by show 1 < 2; omega) fun _ => ?_
    have q : (decide ((8 : Int) = 8) && (decide ((9 : Int) = 9) && true)) = true := by decide
    exact ⟨[], ⟨rfl, q, by decide, rfl, by repeat' (first | exact trivial | exact rfl | apply And.intro)⟩⟩


end Go.Proofs.Ytcgoaicifjndpaa.Vx
end

section
/- The law SpanTells, by the walker. -/
namespace Go.Proofs.Ytcgoaicifjndpaa.Vx
open Go.RowKit Span
set_option linter.unusedVariables false
set_option linter.unusedSimpArgs false
theorem IfeS.yes {b : Bool} {p q : Prop} (h : b = true) (x : p) : Ife b p q := Ife.mk (fun _ => x) fun g => by rw [h] at g; cases g
attribute [local cbv_opaque] rA rB rgL rgOf good okAt mayN ofL Span.step runs count lacksL iL srt iA countG lkGo lkEnd runR rgPre inPre sortPre imin imax hasL rgPreD goodPreD lacksL addL addG cutN
end Go.Proofs.Ytcgoaicifjndpaa.Vx
namespace Go.Proofs.Ytcgoaicifjndpaa
open Go.RowKit
set_option linter.unusedVariables false
end Go.Proofs.Ytcgoaicifjndpaa
end
