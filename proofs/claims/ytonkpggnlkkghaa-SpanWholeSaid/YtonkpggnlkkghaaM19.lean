/- Slices of integers and of ranges that come in. -/
import Derived.Test.YtonkpggnlkkghaaM18
import Derived.Test.YtonkpggnlkkghaaM15
import Derived.Test.YtonkpggnlkkghaaVSpan3
section
namespace Go.Proofs.Ytonkpggnlkkghaa
open Go.ChangeShapes Go.WideShapes Go.ChangeAt Go.RowKit
set_option linter.unusedVariables false
set_option linter.unusedSimpArgs false
section
variable {H : Type} {enc : TypeId × Value → H} {w : World} {base : Nat}
theorem cellsG_int : Try.prog.cellsOf 3 = 1 := by kernel_rfl
theorem cellsG_rg : Try.prog.cellsOf 62 = 2 := by kernel_rfl
set_option maxRecDepth 100000 in
theorem open_Inz {v : Value} {d : DataW H} {p : List MemPlace} (hv : Value.okWide Try.prog w .any base 22 v) (h : DataW.Trod enc Try.prog w 0 (fun _ => true) true 22 v d p) :
    ∃ (a : Option Addr) (cap : Nat) (ls : List Int), v = .slice a ls.length cap ∧ SlIn w a 1 cap (ls.map fun n => [.int .i64 n]) := by
  obtain ⟨a, cap, xs, rfl, hs, hx⟩ := open_slice (sz := 1) (P := fun l => ∃ n : Int, l = [.int .i64 n]) (by decide) Try.underlying22 cellsG_int (fun fuel l x hl => by
    obtain ⟨n, e, _, hn⟩ := DataW.trod_int Try.underlying3 hl
    exact ⟨by rw [e]; rfl, n, e⟩) hv h
  obtain ⟨f, hf⟩ : ∃ f : Nat → Int, ∀ i (hi : i < xs.length), xs[i] = [.int .i64 (f i)] := by
    have key : ∀ i, ∃ n : Int, ∀ hi : i < xs.length, xs[i] = [.int .i64 n] := fun i => by
      by_cases hi : i < xs.length
      · obtain ⟨n, e⟩ := (hx _ (List.getElem_mem hi)).2
        exact ⟨n, fun _ => e⟩
      · exact ⟨0, fun h => absurd h hi⟩
    exact ⟨fun i => (key i).choose, fun i hi => (key i).choose_spec hi⟩
  have e : xs = ((List.range xs.length).map f).map fun n => [.int .i64 n] := by
    apply List.ext_getElem (by simp)
    intro i h1 h2
    simp [hf i h1]
  refine ⟨a, cap, (List.range xs.length).map f, by simp, ?_⟩
  rw [← e]
  exact hs
theorem inz_good {w : World} {a : Option Addr} {cap : Nat} {ls : List Int} (hs : SlIn w a 1 cap (ls.map fun n => [.int .i64 n])) : ∃ p : Vx.Pl, p.v = .slice a ls.length cap ∧ Vx.Good w 1 (ls.length, Vx.inG ls) p := by
  obtain ⟨p, hp, g⟩ := hs.good (get := Vx.inG ls) (fun i hi => by
    have hi' : i < ls.length := by simpa using hi
    rw [List.getElem_map]
    show [some (Value.int .i64 (Vx.iA ls i))] = [some (Value.int .i64 ls[i])]
    simp [Vx.iA, List.getD, hi'])
  simp only [List.length_map] at hp g
  exact ⟨p, hp, g⟩
set_option maxRecDepth 100000 in
theorem open_Rgs {v : Value} {d : DataW H} {p : List MemPlace} (hv : Value.okWide Try.prog w .any base 24 v) (h : DataW.Trod enc Try.prog w 0 (fun _ => true) true 24 v d p) :
    ∃ (a : Option Addr) (cap : Nat) (ls : List (Int × Int)), v = .slice a ls.length cap ∧ SlIn w a 2 cap (ls.map fun r => [.int .i64 r.1, .int .i64 r.2]) := by
  obtain ⟨a, cap, xs, rfl, hs, hx⟩ := open_slice (sz := 2) (P := fun l => ∃ r : Int × Int, l = [.int .i64 r.1, .int .i64 r.2]) (by decide) Try.underlying24 cellsG_rg (fun fuel l x hl => by
    obtain ⟨y0, y1, m, _, hlen, h0, h1⟩ := trod_struct2 Try.underlying62 hl
    rw [cellsG_rg] at hlen
    match l, hlen with
    | [c0, c1], _ =>
      simp only [cellsG_int] at h0 h1
      obtain ⟨n, e0, _, hn⟩ := DataW.trod_int Try.underlying3 h0
      obtain ⟨m, e1, _, hm⟩ := DataW.trod_int Try.underlying3 h1
      simp at e0 e1
      exact ⟨rfl, (n, m), by rw [e0, e1]⟩) hv h
  obtain ⟨f, hf⟩ : ∃ f : Nat → Int × Int, ∀ i (hi : i < xs.length), xs[i] = [.int .i64 (f i).1, .int .i64 (f i).2] := by
    have key : ∀ i, ∃ n : Int × Int, ∀ hi : i < xs.length, xs[i] = [.int .i64 n.1, .int .i64 n.2] := fun i => by
      by_cases hi : i < xs.length
      · obtain ⟨n, e⟩ := (hx _ (List.getElem_mem hi)).2
        exact ⟨n, fun _ => e⟩
      · exact ⟨(0, 0), fun h => absurd h hi⟩
    exact ⟨fun i => (key i).choose, fun i hi => (key i).choose_spec hi⟩
  have e : xs = ((List.range xs.length).map f).map fun r => [.int .i64 r.1, .int .i64 r.2] := by
    apply List.ext_getElem (by simp)
    intro i h1 h2
    simp [hf i h1]
  refine ⟨a, cap, (List.range xs.length).map f, by simp, ?_⟩
  rw [← e]
  exact hs
theorem rgs_good {w : World} {a : Option Addr} {cap : Nat} {ls : List (Int × Int)} (hs : SlIn w a 2 cap (ls.map fun r => [.int .i64 r.1, .int .i64 r.2])) : ∃ p : Vx.Pl, p.v = .slice a ls.length cap ∧ Vx.Good w 2 (ls.length, Vx.rgG ls) p := by
  obtain ⟨p, hp, g⟩ := hs.good (get := Vx.rgG ls) (fun i hi => by
    have hi' : i < ls.length := by simpa using hi
    rw [List.getElem_map]
    show [some (Value.int .i64 (Vx.rA ls i)), some (Value.int .i64 (Vx.rB ls i))] = [some (Value.int .i64 ls[i].1), some (Value.int .i64 ls[i].2)]
    simp [Vx.rA, Vx.rB, List.getD, hi'])
  simp only [List.length_map] at hp g
  exact ⟨p, hp, g⟩
end
end Go.Proofs.Ytonkpggnlkkghaa
end

section
/- The law SpanAll, by the walker. -/
namespace Go.Proofs.Ytonkpggnlkkghaa.Vx
open Go.RowKit Span
set_option linter.unusedVariables false
set_option linter.unusedSimpArgs false
theorem srt_perm (l : List Int) : (srt l).Perm l := List.mergeSort_perm l _
theorem srt_up (l : List Int) : (srt l).Pairwise (· ≤ ·) := by
  have h := List.pairwise_mergeSort (le := fun x y : Int => decide (x ≤ y)) (fun a b c h1 h2 => by simp at *; omega) (fun a b => by simp; omega) l
  simpa [srt] using h
theorem first_of : ofL (srt (iL 4 (cutC 1 [.int .i64 3, .int .i64 1, .int .i64 2, .int .i64 7] 0))) = [(1, 3), (7, 7)] := by
  rw [show iL 4 (cutC 1 [.int .i64 3, .int .i64 1, .int .i64 2, .int .i64 7] 0) = [3, 1, 2, 7] from rfl, show srt [3, 1, 2, 7] = [1, 2, 3, 7] by simp [srt, List.mergeSort]]
  decide
theorem first_in : InAt 4 (cutC 1 [.int .i64 3, .int .i64 1, .int .i64 2, .int .i64 7] 0) := fun i hi => by
  rcases (show i = 0 ∨ i = 1 ∨ i = 2 ∨ i = 3 by omega) with rfl | rfl | rfl | rfl <;> exact ⟨_, rfl⟩
theorem first_lacks : lacksL (rgL 2 (rgG [(1, 3), (7, 7)])) 1 9 = [(4, 6), (8, 9)] := by
  rw [show rgL 2 (rgG [(1, 3), (7, 7)]) = [(1, 3), (7, 7)] from rgL_rgG [(1, 3), (7, 7)]]
  decide
theorem len_le_runs {l : List Rg} (h : ∀ r ∈ l, r.1 ≤ r.2) : l.length ≤ (runs l).length := by
  induction l with
  | nil => simp
  | cons r l ih =>
    have h1 := runR_len (h r (by simp))
    have h2 := ih fun x hx => h x (by simp [hx])
    have h3 := h r (by simp)
    simp only [runs, List.flatMap_cons, List.length_append, List.length_cons] at h2 ⊢
    omega
structure LCnt (m : Nat) where
  i : Int
  h0 : 0 ≤ i
  h1 : i ≤ (m : Int)
def isIn (Z : List Int) (k : Nat) (v : Int) : Bool := (Z.take k).any fun z => decide (z = v)
def isIn2 (Z : List Int) (k : Nat) (v : Int) : Bool := (Z.take k).any fun z => decide (v = z)
theorem isIn_succ {Z : List Int} {k : Nat} (h : k < Z.length) (v : Int) : isIn Z (k + 1) v = (isIn Z k v || decide (iA Z k = v)) := by
  have e : Z[k] = iA Z k := by simp [iA, List.getD, h]
  unfold isIn
  rw [take_succ' Z h, List.any_append, ← e]
  simp only [List.any_cons, List.any_nil, Bool.or_false]
theorem isIn2_succ {Z : List Int} {k : Nat} (h : k < Z.length) (v : Int) : isIn2 Z (k + 1) v = (isIn2 Z k v || decide (v = iA Z k)) := by
  have e : Z[k] = iA Z k := by simp [iA, List.getD, h]
  unfold isIn2
  rw [take_succ' Z h, List.any_append, ← e]
  simp only [List.any_cons, List.any_nil, Bool.or_false]
theorem isIn_all {Z : List Int} {v : Int} : isIn Z Z.length v = decide (v ∈ Z) := by
  unfold isIn
  rw [List.take_length, Bool.eq_iff_iff]
  simp
theorem isIn2_all {Z : List Int} {v : Int} : isIn2 Z Z.length v = decide (v ∈ Z) := by
  unfold isIn2
  rw [List.take_length, Bool.eq_iff_iff]
  simp
theorem iA_mem {R : List Int} {i : Nat} (h : i < R.length) : iA R i ∈ R := by
  unfold iA
  rw [List.getD_eq_getElem?_getD, List.getElem?_eq_getElem h]
  exact List.getElem_mem h
theorem iA_up {R : List Int} (h : R.Pairwise (· < ·)) {i j : Nat} (hij : i < j) (hj : j < R.length) : iA R i < iA R j := by
  unfold iA
  rw [List.getD_eq_getElem?_getD, List.getD_eq_getElem?_getD, List.getElem?_eq_getElem hj, List.getElem?_eq_getElem (by omega)]
  exact List.pairwise_iff_getElem.1 h i j _ _ hij
structure LIs (Z : List Int) (v : Int) (m : Nat) where
  k : Int
  b : Bool
  h0 : 0 ≤ k
  h1 : k ≤ (m : Int)
  h2 : b = isIn Z k.toNat v
structure LIs2 (Z : List Int) (v : Int) (m : Nat) where
  k : Int
  b : Bool
  h0 : 0 ≤ k
  h1 : k ≤ (m : Int)
  h2 : b = isIn2 Z k.toNat v
def sFirst23 : SpecF
  | [], [] => some (True, .c .tt, [])
  | _, _ => none

set_option maxRecDepth 100000 in
set_option maxHeartbeats 8000000 in
theorem first23P : Fn Try.prog 8 [] [] sFirst23 := by
  have hC : CtsOk Try.prog [(9, appFn [] [(3, 1)] sOf), (13, appFn [] [(62, 2)] sLacks)] := CtsOk.cons (Fn.ct ofP) <| CtsOk.cons (Fn.ct lacksP) <| CtsOk.nil _
  refine Fn.of (E := tbG) [] 0 [] tbG_ok hC (by kernel_rfl) Try.func8 rfl rfl rfl (by kernel_rfl) (by kernel_rfl) 0 5 1 ?_ ?_
  · intro args h pre r h' hs
    unfold sFirst23 at hs
    split at hs
    · cases hs; exact ⟨rfl, rfl, Nat.le_of_ble_eq_true rfl⟩
    · cases hs
  · intro args h pre r h' hs hp
    unfold sFirst23 at hs
    split at hs
    rotate_left
    · cases hs
    cases hs
    refine ⟨[], trivial, ?_⟩
    unfold sOf sLacks
    generalize hg0 : (List.length : List Rg → Nat) = g0
    try unfold rgG
    generalize ho0 : @rA = zo0, ho1 : @rB = zo1, ho2 : @rgL = zo2, ho3 : @ofL = zo3, ho4 : @lacksL = zo4, ho5 : @iL = zo5, ho6 : @srt = zo6, ho7 : @rgPre = zo7, ho8 : @inPre = zo8
    generalize hA : Arith.std = A
    cbv
    subst hA hg0 ho0 ho1 ho2 ho3 ho4 ho5 ho6 ho7 ho8
    refine Need.mk ⟨rfl, rfl, first_in, by omega⟩ fun _ => ?_
    rw [first_of]
    refine Need.mk ⟨rfl, rfl, rgAt_rgG _ _, (by show 2 ≤ 1000000; omega)⟩ fun _ => ?_
    rw [show ([(1, 3), (7, 7)] : List Rg).length = 2 from rfl, first_lacks]
    refine Ife.mk (fun _ => ?_) (fun hb => absurd (show decide ((2 : Int) = 2) = false from hb) (by decide))
    refine Need.mk (by show (0 : Int) ≤ 0 ∧ (0 : Int) < 2; omega) fun _ => Need.mk (by show 0 < 2; omega) fun _ => ?_
    refine Ife.mk (fun _ => ?_) (fun hb => absurd (show (decide ((1 : Int) = 1) && (decide ((3 : Int) = 3) && true)) = false from hb) (by decide))
    refine Ife.mk (fun _ => ?_) (fun hb => absurd (show decide ((2 : Int) = 2) = false from hb) (by decide))
    refine Need.mk (by show (0 : Int) ≤ 1 ∧ (1 : Int) < 2; omega) fun _ => Need.mk (by show 1 < 2; omega) fun _ => ?_
    have q : (decide ((8 : Int) = 8) && (decide ((9 : Int) = 9) && true)) = true := by decide
    exact ⟨[], ⟨rfl, q, by decide, rfl, by repeat' (first | exact trivial | exact rfl | apply And.intro)⟩⟩

def inPre2 (ty one n : Nat) (get : Nat → List CV) : Prop := ty = 3 ∧ one = 1 ∧ InAt n get
def sSpanAll : SpecF
  | [.c (.row 0)], [.elems ty one n get] => some (inPre2 ty one n get, .c .tt, [.dead])
  | _, _ => none

set_option maxRecDepth 100000 in
set_option maxHeartbeats 16000000 in
theorem spanAllP : Fn Try.prog 3 [] [(3, 1)] sSpanAll := by
  have hC : CtsOk Try.prog [(8, appFn [] [] sFirst23), (9, appFn [] [(3, 1)] sOf), (10, appFn [] [(62, 2)] sAll), (11, appFn [] [(62, 2)] sCount)] := CtsOk.cons (Fn.ct first23P) <| CtsOk.cons (Fn.ct ofP) <| CtsOk.cons (Fn.ct allP) <| CtsOk.cons (Fn.ct countP) <| CtsOk.nil _
  refine Fn.of (E := tbG) [] 0 [(16, [(0, true), (1, true), (2, true), (3, true), (4, true), (5, true), (6, true), (7, true), (8, true), (9, true), (10, true), (11, true), (12, true)]), (17, [(0, true), (1, true), (2, true), (3, true), (4, true), (5, true), (6, true), (7, true), (8, true), (9, true), (10, true), (11, true), (12, true), (13, true), (14, true), (15, true), (16, true), (17, true), (18, true), (19, true), (20, true), (21, true), (22, true), (23, true), (24, true), (25, true), (26, true), (27, true), (28, true), (29, true), (30, true), (31, true)]), (26, [(0, true), (1, true), (2, true), (3, true), (4, true), (5, true), (6, true), (7, true), (8, true), (9, true), (10, true), (11, true), (12, true)])] tbG_ok hC (by kernel_rfl) Try.func3 rfl rfl rfl (by kernel_rfl) (by kernel_rfl) 1 5 1 ?_ ?_
  · intro args h pre r h' hs
    unfold sSpanAll at hs
    split at hs
    · cases hs; exact ⟨rfl, rfl, Nat.le_of_ble_eq_true rfl⟩
    · cases hs
  · intro args h pre r h' hs hp
    unfold sSpanAll at hs
    split at hs
    rotate_left
    · cases hs
    rename_i ty one n get
    cases hs
    obtain ⟨rfl, rfl, hst⟩ := hp
    refine ⟨[.elems 3 1 n (inG (iL n get))], hst.same, ?_⟩
    have hZ : (iL n get).length = n := iL_len
    generalize iL n get = Z at hZ ⊢
    have eZ : iL n (inG Z) = Z := by rw [← hZ]; exact iL_inG Z
    unfold sFirst23 sOf sAll sCount
    generalize hg0 : (List.length : List Rg → Nat) = g0
    generalize hg1 : (List.length : List Int → Nat) = g1
    generalize hL : lft Try.prog _ = L
    try unfold rgG
    try unfold inG
    generalize ho0 : @isIn = zo0, ho1 : @isIn2 = zo1, ho2 : @rA = zo2, ho3 : @rB = zo3, ho4 : @rgL = zo4, ho5 : @good = zo5, ho6 : @mayN = zo6, ho7 : @ofL = zo7, ho8 : @runs = zo8, ho9 : @iL = zo9, ho10 : @srt = zo10, ho11 : @iA = zo11, ho12 : @countG = zo12, ho13 : @allG = zo13, ho14 : @rgPre = zo14, ho15 : @inPre = zo15, ho16 : @allPre = zo16, ho17 : @inPre2 = zo17
    generalize hA : Arith.std = A
    cbv
    subst hA hg0 hg1 hL ho0 ho1 ho2 ho3 ho4 ho5 ho6 ho7 ho8 ho9 ho10 ho11 ho12 ho13 ho14 ho15 ho16 ho17
    refine Need.mk trivial fun _ => ?_
    refine Ife.mk (fun _ => Need.mk trivial fun _ => by exact ⟨[0], ⟨rfl, by repeat' (first | exact trivial | exact rfl | apply And.intro), by decide, rfl, by repeat' (first | exact trivial | exact rfl | apply And.intro)⟩⟩) (fun h1 => ?_)
    have h1 : ¬ (100 : Int) < @Nat.cast Int instNatCastInt n := of_decide_eq_false (p := (100 : Int) < (n : Int)) h1
    rw [eZ]
    have hinv : Inv (ofL (srt Z)) (srt Z) := ofL_inv (srt_up Z)
    have hmem : ∀ v, v ∈ runs (ofL (srt Z)) ↔ v ∈ Z ∧ mayN v = true := fun v => by rw [hinv.mem v, (srt_perm Z).mem_iff]
    have hlen : (runs (ofL (srt Z))).length ≤ n := by have := hinv.len; rw [srt_len] at this; omega
    have hup := hinv.up
    have hok := hinv.ok
    have hg : good (ofL (srt Z)) = true := hinv.good
    clear hinv
    generalize ofL (srt Z) = X at hmem hlen hup hok hg ⊢
    have hXl : X.length ≤ n := Nat.le_trans (len_le_runs fun r hr => (hok r hr).2.1) hlen
    have pX : rgPre 62 2 X.length (rgG X) := ⟨rfl, rfl, rgAt_rgG _ _, by omega⟩
    refine Need.mk ⟨rfl, rfl, inAt_inG n Z, by omega⟩ fun _ => Need.mk ⟨pX, by omega⟩ fun _ => Need.mk pX fun _ => ?_
    have eX : rgL X.length (rgG X) = X := rgL_rgG X
    rw [eX]
    have eA : allG X 200 = runs X := by unfold allG; rw [if_pos hg]; exact List.take_of_length_le (by show (runs X).length ≤ 200; omega)
    have eC : countG X = ((runs X).length : Int) := by unfold countG; rw [if_pos hg]; exact count_len fun r hr => (hok r hr).2.1
    have eA1 : (allG X 1).length = min (runs X).length 1 := by unfold allG; rw [if_pos hg, List.length_take]; exact Nat.min_comm _ _
    have eA2 : (allG X (-1)).length = 0 := by unfold allG; rw [if_pos hg]; rfl
    rw [eA, eC]
    refine Ife.mk (fun h => absurd (show (!decide (((runs X).length : Int) = (runs X).length)) = true from h) (by simp)) (fun _ => ?_)
    clear eA eC hok
    generalize runs X = R at hmem hlen hup eA1 eA2 ⊢
    obtain ⟨nX, hnX⟩ : ∃ m, X.length = m := ⟨_, rfl⟩
    obtain ⟨nR, hnR⟩ : ∃ m, R.length = m := ⟨_, rfl⟩
    rw [hnX, hnR]
    rw [hnX] at eX pX
    show Runs Try.prog 1 (.loop _) _ _
    refine loop_ruleR (N := env (lft Try.prog 1) 0 .std tbG [(8, appFn [] [] sFirst23), (9, appFn [] [(3, 1)] sOf), (10, appFn [] [(62, 2)] sAll), (11, appFn [] [(62, 2)] sCount)] [(16, [(0, true), (1, true), (2, true), (3, true), (4, true), (5, true), (6, true), (7, true), (8, true), (9, true), (10, true), (11, true), (12, true)]), (17, [(0, true), (1, true), (2, true), (3, true), (4, true), (5, true), (6, true), (7, true), (8, true), (9, true), (10, true), (11, true), (12, true), (13, true), (14, true), (15, true), (16, true), (17, true), (18, true), (19, true), (20, true), (21, true), (22, true), (23, true), (24, true), (25, true), (26, true), (27, true), (28, true), (29, true), (30, true), (31, true)]), (26, [(0, true), (1, true), (2, true), (3, true), (4, true), (5, true), (6, true), (7, true), (8, true), (9, true), (10, true), (11, true), (12, true)])]) rfl tbG_ok hC (fun c st K _ h => h) (by kernel_rfl) [] (X := LCnt nR)
      (S := fun x => ⟨[.c (.row 0), .any, .any, .c (.row 2), .c (.row 4), .c (.int .i64 x.i)] ++ List.replicate 127 .any, [.elems 3 1 n (inG Z), .dead, .row 62 2 nX (rgG X), .dead, .row 3 1 nR (inG R), .dead]⟩) (μ := fun x => nR - x.i.toNat) ⟨0, by omega, by omega⟩ (by kernel_rfl) [0, 1, 2, 3, 4, 5] ?_ ?_
    · refine ⟨rfl, by decide, ?_, ?_⟩ <;> repeat' (first | exact trivial | exact rfl | apply And.intro | (intro i hi; rfl) | (intro i hi; exact absurd hi (Nat.not_lt_zero _)))
    rintro ⟨i, hi0, hin⟩
    generalize hL : lft Try.prog _ = L
    try dsimp only
    try unfold rgG
    try unfold inG
    generalize ho0 : @isIn = zo0, ho1 : @isIn2 = zo1, ho2 : @rA = zo2, ho3 : @rB = zo3, ho4 : @rgL = zo4, ho5 : @good = zo5, ho6 : @mayN = zo6, ho7 : @ofL = zo7, ho8 : @runs = zo8, ho9 : @iL = zo9, ho10 : @srt = zo10, ho11 : @iA = zo11, ho12 : @countG = zo12, ho13 : @allG = zo13, ho14 : @rgPre = zo14, ho15 : @inPre = zo15, ho16 : @allPre = zo16, ho17 : @inPre2 = zo17
    generalize hA : Arith.std = A
    cbv
    subst hA hL ho0 ho1 ho2 ho3 ho4 ho5 ho6 ho7 ho8 ho9 ho10 ho11 ho12 ho13 ho14 ho15 ho16 ho17
    replace hi0 : 0 ≤ i := hi0
    replace hin : i ≤ @Nat.cast Int instNatCastInt nR := hin
    replace h1 : ¬ (100 : Int) < @Nat.cast Int instNatCastInt n := h1
    refine Ife.mk (fun hlt => ?_) (fun hlt => ?_)
    · replace hlt : i < @Nat.cast Int instNatCastInt nR := of_decide_eq_true (p := i < (nR : Int)) hlt
      show Runs Try.prog 1 (.loop _) _ _
      refine loop_ruleR (N := env (lft Try.prog 1) 0 .std tbG [(8, appFn [] [] sFirst23), (9, appFn [] [(3, 1)] sOf), (10, appFn [] [(62, 2)] sAll), (11, appFn [] [(62, 2)] sCount)] [(16, [(0, true), (1, true), (2, true), (3, true), (4, true), (5, true), (6, true), (7, true), (8, true), (9, true), (10, true), (11, true), (12, true)]), (17, [(0, true), (1, true), (2, true), (3, true), (4, true), (5, true), (6, true), (7, true), (8, true), (9, true), (10, true), (11, true), (12, true), (13, true), (14, true), (15, true), (16, true), (17, true), (18, true), (19, true), (20, true), (21, true), (22, true), (23, true), (24, true), (25, true), (26, true), (27, true), (28, true), (29, true), (30, true), (31, true)]), (26, [(0, true), (1, true), (2, true), (3, true), (4, true), (5, true), (6, true), (7, true), (8, true), (9, true), (10, true), (11, true), (12, true)])]) rfl tbG_ok hC (fun c st K _ h => h) (by kernel_rfl) [] (X := LIs Z (iA R i.toNat) n)
        (S := fun x => ⟨[.c (.row 0), .any, .any, .c (.row 2), .c (.row 4), .c (.int .i64 i), .c (.bool x.b), .c (.int .i64 x.k)] ++ List.replicate 125 .any, [.elems 3 1 n (inG Z), .dead, .row 62 2 nX (rgG X), .dead, .row 3 1 nR (inG R), .dead]⟩) (μ := fun x => n - x.k.toNat) ⟨0, false, by omega, by omega, by simp [isIn]⟩ (by kernel_rfl) [0, 1, 2, 3, 4, 5] ?_ ?_
      · refine ⟨rfl, by decide, ?_, ?_⟩ <;> repeat' (first | exact trivial | exact rfl | apply And.intro | (intro i hi; rfl) | (intro i hi; exact absurd hi (Nat.not_lt_zero _)))
      rintro ⟨k, b, hk0, hk1, hb⟩
      generalize hL : lft Try.prog _ = L
      try dsimp only
      try unfold rgG
      try unfold inG
      generalize ho0 : @isIn = zo0, ho1 : @isIn2 = zo1, ho2 : @rA = zo2, ho3 : @rB = zo3, ho4 : @rgL = zo4, ho5 : @good = zo5, ho6 : @mayN = zo6, ho7 : @ofL = zo7, ho8 : @runs = zo8, ho9 : @iL = zo9, ho10 : @srt = zo10, ho11 : @iA = zo11, ho12 : @countG = zo12, ho13 : @allG = zo13, ho14 : @rgPre = zo14, ho15 : @inPre = zo15, ho16 : @allPre = zo16, ho17 : @inPre2 = zo17
      generalize hA : Arith.std = A
      cbv
      subst hA hL ho0 ho1 ho2 ho3 ho4 ho5 ho6 ho7 ho8 ho9 ho10 ho11 ho12 ho13 ho14 ho15 ho16 ho17
      replace hi0 : 0 ≤ i := hi0
      replace hlt : i < @Nat.cast Int instNatCastInt nR := hlt
      replace hk0 : 0 ≤ k := hk0
      replace hk1 : k ≤ @Nat.cast Int instNatCastInt n := hk1
      replace h1 : ¬ (100 : Int) < @Nat.cast Int instNatCastInt n := h1
      replace hb : b = isIn Z k.toNat (iA R i.toNat) := hb
      refine Ife.mk (fun hk2 => ?_) (fun hk2 => ?_)
      · replace hk2 : k < @Nat.cast Int instNatCastInt n := of_decide_eq_true (p := k < (n : Int)) hk2
        have es := isIn_succ (Z := Z) (k := k.toNat) (by omega) (iA R i.toNat)
        rw [show k.toNat + 1 = (k + 1).toNat by omega] at es
        refine Ife.mk (fun hbt => ?_) (fun hbf => ?_)
        · subst hbt
          refine Need.mk (by show fitStd .i64 (k + 1); unfold fitStd; omega) fun _ => ?_
          refine ⟨⟨k + 1, true, by omega, by omega, (by rw [es, ← hb]; rfl)⟩, [0, 1, 2, 3, 4, 5], (by show n - (k + 1).toNat < n - k.toNat; omega), ?_⟩
          refine ⟨rfl, by decide, ?_, ?_⟩ <;> repeat' (first | exact trivial | exact rfl | apply And.intro | (intro i hi; rfl) | (intro i hi; exact absurd hi (Nat.not_lt_zero _)))
        · subst hbf
          refine Need.mk (by show 0 ≤ k ∧ k < (n : Int); omega) fun _ => Need.mk (by show k.toNat < n; omega) fun _ => Need.mk (by show 0 ≤ i ∧ i < (nR : Int); omega) fun _ => Need.mk (by show i.toNat < nR; omega) fun _ => ?_
          refine Need.mk (by show fitStd .i64 (k + 1); unfold fitStd; omega) fun _ => ?_
          refine ⟨⟨k + 1, decide (iA Z k.toNat = iA R i.toNat), by omega, by omega, (by rw [es, ← hb]; rfl)⟩, [0, 1, 2, 3, 4, 5], (by show n - (k + 1).toNat < n - k.toNat; omega), ?_⟩
          refine ⟨rfl, by decide, ?_, ?_⟩ <;> repeat' (first | exact trivial | exact rfl | apply And.intro | (intro i hi; rfl) | (intro i hi; exact absurd hi (Nat.not_lt_zero _)))
      · replace hk2 : ¬ k < @Nat.cast Int instNatCastInt n := of_decide_eq_false (p := k < (n : Int)) hk2
        have hmR : iA R i.toNat ∈ R := iA_mem (by omega)
        obtain ⟨hmZ, hmay⟩ := (hmem _).1 hmR
        have hb1 := mayN_iff.1 hmay
        have hbt : b = true := by
          rw [hb, show k.toNat = Z.length by omega, isIn_all]
          exact decide_eq_true hmZ
        subst hbt
        refine Ife.mk (fun h => absurd h (by decide)) (fun _ => ?_)
        refine Need.mk (by show 0 ≤ i ∧ i < (nR : Int); omega) fun _ => Need.mk (by show i.toNat < nR; omega) fun _ => ?_
        refine Ife.mk (fun h => absurd (of_decide_eq_true (p := iA R i.toNat < 0) h) (by omega)) (fun _ => ?_)
        refine Need.mk (by show 0 ≤ i ∧ i < (nR : Int); omega) fun _ => Need.mk (by show i.toNat < nR; omega) fun _ => ?_
        refine Ife.mk (fun h => absurd (of_decide_eq_true (p := 72057594037927935 < iA R i.toNat) h) (by omega)) (fun _ => ?_)
        refine Ife.mk (fun h => ?_) (fun h => ?_)
        · have h : 0 < i := of_decide_eq_true (p := 0 < i) h
          have hu := iA_up hup (i := (i - 1).toNat) (j := i.toNat) (by omega) (by omega)
          refine Need.mk (by show fitStd .i64 (i - 1); unfold fitStd; omega) fun _ => Need.mk (by show 0 ≤ i - 1 ∧ i - 1 < (nR : Int); omega) fun _ => Need.mk (by show (i - 1).toNat < nR; omega) fun _ => Need.mk (by show 0 ≤ i ∧ i < (nR : Int); omega) fun _ => Need.mk (by show i.toNat < nR; omega) fun _ => ?_
          refine Ife.mk (fun h => absurd (of_decide_eq_true (p := iA R i.toNat ≤ iA R (i - 1).toNat) h) (by omega)) (fun _ => ?_)
          refine Need.mk (by show fitStd .i64 (i + 1); unfold fitStd; omega) fun _ => ?_
          refine ⟨⟨i + 1, by omega, by omega⟩, [0, 1, 2, 3, 4, 5], (by show nR - (i + 1).toNat < nR - i.toNat; omega), ?_⟩
          refine ⟨rfl, by decide, ?_, ?_⟩ <;> repeat' (first | exact trivial | exact rfl | apply And.intro | (intro i hi; rfl) | (intro i hi; exact absurd hi (Nat.not_lt_zero _)))
        · have h : ¬ 0 < i := of_decide_eq_false (p := 0 < i) h
          refine Need.mk (by show fitStd .i64 (i + 1); unfold fitStd; omega) fun _ => ?_
          refine ⟨⟨i + 1, by omega, by omega⟩, [0, 1, 2, 3, 4, 5], (by show nR - (i + 1).toNat < nR - i.toNat; omega), ?_⟩
          refine ⟨rfl, by decide, ?_, ?_⟩ <;> repeat' (first | exact trivial | exact rfl | apply And.intro | (intro i hi; rfl) | (intro i hi; exact absurd hi (Nat.not_lt_zero _)))
    · clear hlt hin hi0
      show Runs Try.prog 1 (.loop _) _ _
      refine loop_ruleR (N := env (lft Try.prog 1) 0 .std tbG [(8, appFn [] [] sFirst23), (9, appFn [] [(3, 1)] sOf), (10, appFn [] [(62, 2)] sAll), (11, appFn [] [(62, 2)] sCount)] [(16, [(0, true), (1, true), (2, true), (3, true), (4, true), (5, true), (6, true), (7, true), (8, true), (9, true), (10, true), (11, true), (12, true)]), (17, [(0, true), (1, true), (2, true), (3, true), (4, true), (5, true), (6, true), (7, true), (8, true), (9, true), (10, true), (11, true), (12, true), (13, true), (14, true), (15, true), (16, true), (17, true), (18, true), (19, true), (20, true), (21, true), (22, true), (23, true), (24, true), (25, true), (26, true), (27, true), (28, true), (29, true), (30, true), (31, true)]), (26, [(0, true), (1, true), (2, true), (3, true), (4, true), (5, true), (6, true), (7, true), (8, true), (9, true), (10, true), (11, true), (12, true)])]) rfl tbG_ok hC (fun c st K _ h => h) (by kernel_rfl) [] (X := LCnt n)
        (S := fun x => ⟨[.c (.row 0), .any, .any, .c (.row 2), .c (.row 4), .any, .any, .any, .c (.int .i64 x.i)] ++ List.replicate 124 .any, [.elems 3 1 n (inG Z), .dead, .row 62 2 nX (rgG X), .dead, .row 3 1 nR (inG R), .dead]⟩) (μ := fun x => n - x.i.toNat) ⟨0, by omega, by omega⟩ (by kernel_rfl) [0, 1, 2, 3, 4, 5] ?_ ?_
      · refine ⟨rfl, by decide, ?_, ?_⟩ <;> repeat' (first | exact trivial | exact rfl | apply And.intro | (intro i hi; rfl) | (intro i hi; exact absurd hi (Nat.not_lt_zero _)))
      rintro ⟨i, hi0, hin⟩
      generalize hg0 : (List.length : List Int → Nat) = g0
      generalize hL : lft Try.prog _ = L
      try dsimp only
      try unfold rgG
      try unfold inG
      generalize ho0 : @isIn = zo0, ho1 : @isIn2 = zo1, ho2 : @rA = zo2, ho3 : @rB = zo3, ho4 : @rgL = zo4, ho5 : @good = zo5, ho6 : @mayN = zo6, ho7 : @ofL = zo7, ho8 : @runs = zo8, ho9 : @iL = zo9, ho10 : @srt = zo10, ho11 : @iA = zo11, ho12 : @countG = zo12, ho13 : @allG = zo13, ho14 : @rgPre = zo14, ho15 : @inPre = zo15, ho16 : @allPre = zo16, ho17 : @inPre2 = zo17
      generalize hA : Arith.std = A
      cbv
      subst hA hg0 hL ho0 ho1 ho2 ho3 ho4 ho5 ho6 ho7 ho8 ho9 ho10 ho11 ho12 ho13 ho14 ho15 ho16 ho17
      replace hi0 : 0 ≤ i := hi0
      replace hin : i ≤ @Nat.cast Int instNatCastInt n := hin
      refine Ife.mk (fun hlt => ?_) (fun hlt => ?_)
      · replace hlt : i < @Nat.cast Int instNatCastInt n := of_decide_eq_true (p := i < (n : Int)) hlt
        show Runs Try.prog 1 (.loop _) _ _
        refine loop_ruleR (N := env (lft Try.prog 1) 0 .std tbG [(8, appFn [] [] sFirst23), (9, appFn [] [(3, 1)] sOf), (10, appFn [] [(62, 2)] sAll), (11, appFn [] [(62, 2)] sCount)] [(16, [(0, true), (1, true), (2, true), (3, true), (4, true), (5, true), (6, true), (7, true), (8, true), (9, true), (10, true), (11, true), (12, true)]), (17, [(0, true), (1, true), (2, true), (3, true), (4, true), (5, true), (6, true), (7, true), (8, true), (9, true), (10, true), (11, true), (12, true), (13, true), (14, true), (15, true), (16, true), (17, true), (18, true), (19, true), (20, true), (21, true), (22, true), (23, true), (24, true), (25, true), (26, true), (27, true), (28, true), (29, true), (30, true), (31, true)]), (26, [(0, true), (1, true), (2, true), (3, true), (4, true), (5, true), (6, true), (7, true), (8, true), (9, true), (10, true), (11, true), (12, true)])]) rfl tbG_ok hC (fun c st K _ h => h) (by kernel_rfl) [] (X := LIs2 R (iA Z i.toNat) nR)
          (S := fun x => ⟨[.c (.row 0), .any, .any, .c (.row 2), .c (.row 4), .any, .any, .any, .c (.int .i64 i), .c (.bool x.b), .c (.int .i64 x.k)] ++ List.replicate 122 .any, [.elems 3 1 n (inG Z), .dead, .row 62 2 nX (rgG X), .dead, .row 3 1 nR (inG R), .dead]⟩) (μ := fun x => nR - x.k.toNat) ⟨0, false, by omega, by omega, by simp [isIn2]⟩ (by kernel_rfl) [0, 1, 2, 3, 4, 5] ?_ ?_
        · refine ⟨rfl, by decide, ?_, ?_⟩ <;> repeat' (first | exact trivial | exact rfl | apply And.intro | (intro i hi; rfl) | (intro i hi; exact absurd hi (Nat.not_lt_zero _)))
        rintro ⟨k, b, hk0, hk1, hb⟩
        generalize hL : lft Try.prog _ = L
        try dsimp only
        try unfold rgG
        try unfold inG
        generalize ho0 : @isIn = zo0, ho1 : @isIn2 = zo1, ho2 : @rA = zo2, ho3 : @rB = zo3, ho4 : @rgL = zo4, ho5 : @good = zo5, ho6 : @mayN = zo6, ho7 : @ofL = zo7, ho8 : @runs = zo8, ho9 : @iL = zo9, ho10 : @srt = zo10, ho11 : @iA = zo11, ho12 : @countG = zo12, ho13 : @allG = zo13, ho14 : @rgPre = zo14, ho15 : @inPre = zo15, ho16 : @allPre = zo16, ho17 : @inPre2 = zo17
        generalize hA : Arith.std = A
        cbv
        subst hA hL ho0 ho1 ho2 ho3 ho4 ho5 ho6 ho7 ho8 ho9 ho10 ho11 ho12 ho13 ho14 ho15 ho16 ho17
        replace hi0 : 0 ≤ i := hi0
        replace hlt : i < @Nat.cast Int instNatCastInt n := hlt
        replace h1 : ¬ (100 : Int) < @Nat.cast Int instNatCastInt n := h1
        replace hk0 : 0 ≤ k := hk0
        replace hk1 : k ≤ @Nat.cast Int instNatCastInt nR := hk1
        replace hb : b = isIn2 R k.toNat (iA Z i.toNat) := hb
        refine Ife.mk (fun hk2 => ?_) (fun hk2 => ?_)
        · replace hk2 : k < @Nat.cast Int instNatCastInt nR := of_decide_eq_true (p := k < (nR : Int)) hk2
          have es := isIn2_succ (Z := R) (k := k.toNat) (by omega) (iA Z i.toNat)
          rw [show k.toNat + 1 = (k + 1).toNat by omega] at es
          refine Ife.mk (fun hbt => ?_) (fun hbf => ?_)
          · subst hbt
            refine Need.mk (by show fitStd .i64 (k + 1); unfold fitStd; omega) fun _ => ?_
            refine ⟨⟨k + 1, true, by omega, by omega, (by rw [es, ← hb]; rfl)⟩, [0, 1, 2, 3, 4, 5], (by show nR - (k + 1).toNat < nR - k.toNat; omega), ?_⟩
            refine ⟨rfl, by decide, ?_, ?_⟩ <;> repeat' (first | exact trivial | exact rfl | apply And.intro | (intro i hi; rfl) | (intro i hi; exact absurd hi (Nat.not_lt_zero _)))
          · subst hbf
            refine Need.mk (by show 0 ≤ i ∧ i < (n : Int); omega) fun _ => Need.mk (by show i.toNat < n; omega) fun _ => Need.mk (by show 0 ≤ k ∧ k < (nR : Int); omega) fun _ => Need.mk (by show k.toNat < nR; omega) fun _ => ?_
            refine Need.mk (by show fitStd .i64 (k + 1); unfold fitStd; omega) fun _ => ?_
            refine ⟨⟨k + 1, decide (iA Z i.toNat = iA R k.toNat), by omega, by omega, (by rw [es, ← hb]; rfl)⟩, [0, 1, 2, 3, 4, 5], (by show nR - (k + 1).toNat < nR - k.toNat; omega), ?_⟩
            refine ⟨rfl, by decide, ?_, ?_⟩ <;> repeat' (first | exact trivial | exact rfl | apply And.intro | (intro i hi; rfl) | (intro i hi; exact absurd hi (Nat.not_lt_zero _)))
        · replace hk2 : ¬ k < @Nat.cast Int instNatCastInt nR := of_decide_eq_false (p := k < (nR : Int)) hk2
          have hmZ : iA Z i.toNat ∈ Z := iA_mem (by omega)
          have hbt : b = mayN (iA Z i.toNat) := by
            rw [hb, show k.toNat = R.length by omega, isIn2_all, Bool.eq_iff_iff, decide_eq_true_iff, hmem]
            exact ⟨fun h => h.2, fun h => ⟨hmZ, h⟩⟩
          refine Need.mk (by show 0 ≤ i ∧ i < (n : Int); omega) fun _ => Need.mk (by show i.toNat < n; omega) fun _ => ?_
          refine Ife.mk (fun h => ?_) (fun h => ?_)
          · have h : 0 ≤ iA Z i.toNat := of_decide_eq_true (p := 0 ≤ iA Z i.toNat) h
            refine Need.mk (by show 0 ≤ i ∧ i < (n : Int); omega) fun _ => Need.mk (by show i.toNat < n; omega) fun _ => ?_
            have e : b = decide (iA Z i.toNat ≤ 72057594037927935) := by rw [hbt]; unfold mayN; rw [decide_eq_true h]; rfl
            refine Ife.mk (fun hb2 => absurd (show (!(b == decide (iA Z i.toNat ≤ 72057594037927935))) = true from hb2) (by rw [e]; simp)) (fun _ => ?_)
            refine Need.mk (by show fitStd .i64 (i + 1); unfold fitStd; omega) fun _ => ?_
            refine ⟨⟨i + 1, by omega, by omega⟩, [0, 1, 2, 3, 4, 5], (by show n - (i + 1).toNat < n - i.toNat; omega), ?_⟩
            refine ⟨rfl, by decide, ?_, ?_⟩ <;> repeat' (first | exact trivial | exact rfl | apply And.intro | (intro i hi; rfl) | (intro i hi; exact absurd hi (Nat.not_lt_zero _)))
          · have h : ¬ 0 ≤ iA Z i.toNat := of_decide_eq_false (p := 0 ≤ iA Z i.toNat) h
            have e : b = false := by rw [hbt]; unfold mayN; rw [decide_eq_false h]; rfl
            refine Ife.mk (fun hb2 => absurd (show (!(!b)) = true from hb2) (by rw [e]; decide)) (fun _ => ?_)
            refine Need.mk (by show fitStd .i64 (i + 1); unfold fitStd; omega) fun _ => ?_
            refine ⟨⟨i + 1, by omega, by omega⟩, [0, 1, 2, 3, 4, 5], (by show n - (i + 1).toNat < n - i.toNat; omega), ?_⟩
            refine ⟨rfl, by decide, ?_, ?_⟩ <;> repeat' (first | exact trivial | exact rfl | apply And.intro | (intro i hi; rfl) | (intro i hi; exact absurd hi (Nat.not_lt_zero _)))
      · refine Need.mk ⟨pX, by omega⟩ fun _ => ?_
        rw [eX]
        have c : decide (((allG X 1).length : Int) = min (nR : Int) 1) = true := decide_eq_true (by rw [eA1, hnR]; omega)
        refine Ife.mk (fun _ => ?_) (fun hb => absurd (c.symm.trans hb) (by decide))
        refine Need.mk ⟨pX, by omega⟩ fun _ => ?_
        have q : decide (((allG X (-1)).length : Int) = 0) = true := decide_eq_true (by rw [eA2]; rfl)
        exact ⟨[0], ⟨rfl, q, by decide, rfl, by repeat' (first | exact trivial | exact rfl | apply And.intro)⟩⟩

end Go.Proofs.Ytonkpggnlkkghaa.Vx
namespace Go.Proofs.Ytonkpggnlkkghaa
open Go.RowKit
set_option linter.unusedVariables false
theorem spanAllWalk (w : World) (a : Option Addr) (cap : Nat) (ls : List Int) (hs : SlIn w a 1 cap (ls.map fun n => [.int .i64 n])) :
    Calls Try.prog 3 #[.slice a ls.length cap] w fun e w' => e = .returned (.bool true) ∧ Below w.heap.size w w' := by
  obtain ⟨p, hp, g⟩ := inz_good hs
  rw [← hp]
  refine Calls.mono (Vx.spanAllP.run [.c (.row 0)] [.elems 3 1 ls.length (Vx.inG ls)] _ _ _ rfl ⟨rfl, rfl, Vx.inAt_inG _ _⟩ [p] w _ (Vx.Rel.addV (Vx.Rel.refl w) 3 g) ⟨_, _, rfl, (by obtain ⟨a', cap', e, _⟩ := g.sl; simp [Vx.SV.is, Vx.CV.den, e, Vx.one] : Vx.SV.is [p] (.c (.row 0)) p.v), rfl⟩) fun e W' he => ?_
  obtain ⟨u, ρ', rfl, hu, hr⟩ := he
  obtain rfl : .bool true = u := Option.some.inj hu
  exact ⟨rfl, Vx.Rel.toBelow hr⟩
end Go.Proofs.Ytonkpggnlkkghaa
end
