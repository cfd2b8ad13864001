/- Slices of integers and of ranges that come in. -/
import Derived.Test.YtcgoaicifjndpaaM21
import Derived.Test.YtcgoaicifjndpaaM16
import Derived.Test.YtcgoaicifjndpaaM17
import Derived.Test.YtcgoaicifjndpaaM19
section
namespace Go.Proofs.Ytcgoaicifjndpaa
open Go.ChangeShapes Go.WideShapes Go.ChangeAt Go.RowKit
set_option linter.unusedVariables false
set_option linter.unusedSimpArgs false
section
variable {H : Type} {enc : TypeId × Value → H} {w : World} {base : Nat}
theorem cellsG_int : Try.prog.cellsOf 3 = 1 := by kernel_rfl
theorem cellsG_rg : Try.prog.cellsOf 111 = 2 := by kernel_rfl
set_option maxRecDepth 100000 in
theorem open_Inz {v : Value} {d : DataW H} {p : List MemPlace} (hv : Value.okWide Try.prog w .any base 22 v) (h : DataW.Trod enc Try.prog w 0 (fun _ => true) true 22 v d p) :
    ∃ (a : Option Addr) (cap : Nat) (ls : List Int), v = .slice a ls.length cap ∧ SlIn w a 1 cap (ls.map fun n => [.int .i64 n]) := by
  obtain ⟨a, cap, xs, rfl, hs, hx⟩ := open_slice (sz := 1) (P := fun l => ∃ n : Int, l = [.int .i64 n]) (by decide) Try.underlying22 cellsG_int (fun fuel l x hl => by
    obtain ⟨n, e, _, hn⟩ := DataW.trod_int Try.underlying3 hl
    exact ⟨by rw [e]; rfl, n, e⟩) hv h
  obtain ⟨f, hf⟩ : ∃ f : Nat → Int, ∀ i (hi : i < xs.length), xs[i] = [.int .i64 (f i)] := by
    have key : ∀ i, ∃ n : Int, ∀ hi : i < xs.length, xs[i] = [.int .i64 n] := fun i => by
      by_cases hi : i < xs.length
      · obtain ⟨n, e⟩ := (hx _ (List.getElem_mem hi)).2
        exact ⟨n, fun _ => e⟩
      · exact ⟨0, fun h => absurd h hi⟩
    exact ⟨fun i => (key i).choose, fun i hi => (key i).choose_spec hi⟩
  have e : xs = ((List.range xs.length).map f).map fun n => [.int .i64 n] := by
    apply List.ext_getElem (by simp)
    intro i h1 h2
    simp [hf i h1]
  refine ⟨a, cap, (List.range xs.length).map f, by simp, ?_⟩
  rw [← e]
  exact hs
theorem inz_good {w : World} {a : Option Addr} {cap : Nat} {ls : List Int} (hs : SlIn w a 1 cap (ls.map fun n => [.int .i64 n])) : ∃ p : Vx.Pl, p.v = .slice a ls.length cap ∧ Vx.Good w 1 (ls.length, Vx.inG ls) p := by
  obtain ⟨p, hp, g⟩ := hs.good (get := Vx.inG ls) (fun i hi => by
    have hi' : i < ls.length := by simpa using hi
    rw [List.getElem_map]
    show [some (Value.int .i64 (Vx.iA ls i))] = [some (Value.int .i64 ls[i])]
    simp [Vx.iA, List.getD, hi'])
  simp only [List.length_map] at hp g
  exact ⟨p, hp, g⟩
set_option maxRecDepth 100000 in
theorem open_Rgs {v : Value} {d : DataW H} {p : List MemPlace} (hv : Value.okWide Try.prog w .any base 25 v) (h : DataW.Trod enc Try.prog w 0 (fun _ => true) true 25 v d p) :
    ∃ (a : Option Addr) (cap : Nat) (ls : List (Int × Int)), v = .slice a ls.length cap ∧ SlIn w a 2 cap (ls.map fun r => [.int .i64 r.1, .int .i64 r.2]) := by
  obtain ⟨a, cap, xs, rfl, hs, hx⟩ := open_slice (sz := 2) (P := fun l => ∃ r : Int × Int, l = [.int .i64 r.1, .int .i64 r.2]) (by decide) Try.underlying25 cellsG_rg (fun fuel l x hl => by
    obtain ⟨y0, y1, m, _, hlen, h0, h1⟩ := trod_struct2 Try.underlying111 hl
    rw [cellsG_rg] at hlen
    match l, hlen with
    | [c0, c1], _ =>
      simp only [cellsG_int] at h0 h1
      obtain ⟨n, e0, _, hn⟩ := DataW.trod_int Try.underlying3 h0
      obtain ⟨m, e1, _, hm⟩ := DataW.trod_int Try.underlying3 h1
      simp at e0 e1
      exact ⟨rfl, (n, m), by rw [e0, e1]⟩) hv h
  obtain ⟨f, hf⟩ : ∃ f : Nat → Int × Int, ∀ i (hi : i < xs.length), xs[i] = [.int .i64 (f i).1, .int .i64 (f i).2] := by
    have key : ∀ i, ∃ n : Int × Int, ∀ hi : i < xs.length, xs[i] = [.int .i64 n.1, .int .i64 n.2] := fun i => by
      by_cases hi : i < xs.length
      · obtain ⟨n, e⟩ := (hx _ (List.getElem_mem hi)).2
        exact ⟨n, fun _ => e⟩
      · exact ⟨(0, 0), fun h => absurd h hi⟩
    exact ⟨fun i => (key i).choose, fun i hi => (key i).choose_spec hi⟩
  have e : xs = ((List.range xs.length).map f).map fun r => [.int .i64 r.1, .int .i64 r.2] := by
    apply List.ext_getElem (by simp)
    intro i h1 h2
    simp [hf i h1]
  refine ⟨a, cap, (List.range xs.length).map f, by simp, ?_⟩
  rw [← e]
  exact hs
theorem rgs_good {w : World} {a : Option Addr} {cap : Nat} {ls : List (Int × Int)} (hs : SlIn w a 2 cap (ls.map fun r => [.int .i64 r.1, .int .i64 r.2])) : ∃ p : Vx.Pl, p.v = .slice a ls.length cap ∧ Vx.Good w 2 (ls.length, Vx.rgG ls) p := by
  obtain ⟨p, hp, g⟩ := hs.good (get := Vx.rgG ls) (fun i hi => by
    have hi' : i < ls.length := by simpa using hi
    rw [List.getElem_map]
    show [some (Value.int .i64 (Vx.rA ls i)), some (Value.int .i64 (Vx.rB ls i))] = [some (Value.int .i64 ls[i].1), some (Value.int .i64 ls[i].2)]
    simp [Vx.rA, Vx.rB, List.getD, hi'])
  simp only [List.length_map] at hp g
  exact ⟨p, hp, g⟩
end
end Go.Proofs.Ytcgoaicifjndpaa
end

section
/- The law SpanAll, by the walker. -/
namespace Go.Proofs.Ytcgoaicifjndpaa.Vx
open Go.RowKit Span
set_option linter.unusedVariables false
set_option linter.unusedSimpArgs false
theorem srt_perm (l : List Int) : (srt l).Perm l := List.mergeSort_perm l _
theorem srt_up (l : List Int) : (srt l).Pairwise (· ≤ ·) := by
  have h := List.pairwise_mergeSort (le := fun x y : Int => decide (x ≤ y)) (fun a b c h1 h2 => by simp at *; omega) (fun a b => by simp; omega) l
  simpa [srt] using h
theorem first_of : ofL (srt (iL 4 (cutC 1 [.int .i64 3, .int .i64 1, .int .i64 2, .int .i64 7] 0))) = [(1, 3), (7, 7)] := by
  rw [show iL 4 (cutC 1 [.int .i64 3, .int .i64 1, .int .i64 2, .int .i64 7] 0) = [3, 1, 2, 7] from rfl, show srt [3, 1, 2, 7] = [1, 2, 3, 7] by simp [srt, List.mergeSort]]
  decide
theorem first_in : InAt 4 (cutC 1 [.int .i64 3, .int .i64 1, .int .i64 2, .int .i64 7] 0) := fun i hi => by
  rcases (show i = 0 ∨ i = 1 ∨ i = 2 ∨ i = 3 by omega) with rfl | rfl | rfl | rfl <;> exact ⟨_, rfl⟩
theorem first_lacks : lacksL (rgL 2 (rgG [(1, 3), (7, 7)])) 1 9 = [(4, 6), (8, 9)] := by
  rw [show rgL 2 (rgG [(1, 3), (7, 7)]) = [(1, 3), (7, 7)] from rgL_rgG [(1, 3), (7, 7)]]
  decide
theorem len_le_runs {l : List Rg} (h : ∀ r ∈ l, r.1 ≤ r.2) : l.length ≤ (runs l).length := by
  induction l with
  | nil => simp
  | cons r l ih =>
    have h1 := runR_len (h r (by simp))
    have h2 := ih fun x hx => h x (by simp [hx])
    have h3 := h r (by simp)
    simp only [runs, List.flatMap_cons, List.length_append, List.length_cons] at h2 ⊢
    omega
theorem iA_mem {R : List Int} {i : Nat} (h : i < R.length) : iA R i ∈ R := by
  unfold iA
  rw [List.getD_eq_getElem?_getD, List.getElem?_eq_getElem h]
  exact List.getElem_mem h
def sFirst23 : SpecF
  | [], [] => some (True, .c .tt, [])
  | _, _ => none

set_option maxRecDepth 100000 in
set_option maxHeartbeats 8000000 in
theorem first23P : Fn Try.prog 17 [] [] sFirst23 := by
  have hC : CtsOk Try.prog [(19, appFn [] [(3, 1)] sOf), (30, appFn [] [(111, 2)] sLacks)] := CtsOk.cons (Fn.ct ofP) <| CtsOk.cons (Fn.ct lacksP) <| CtsOk.nil _
  refine Fn.of (E := tbG) [] 0 [] tbG_ok hC (by kernel_rfl) Try.func17 rfl rfl rfl (by kernel_rfl) (by kernel_rfl) 0 5 1 ?_ ?_
  · intro args h pre r h' hs
    unfold sFirst23 at hs
    split at hs
    · cases hs; exact ⟨rfl, rfl, Nat.le_of_ble_eq_true rfl⟩
    · cases hs
  · intro args h pre r h' hs hp
    unfold sFirst23 at hs
    split at hs
    rotate_left
    · cases hs
    cases hs
    refine ⟨[], trivial, ?_⟩
    unfold sOf sLacks
    generalize hg0 : (List.length : List Rg → Nat) = g0
    try unfold rgG
    generalize ho0 : @rA = zo0, ho1 : @rB = zo1, ho2 : @rgL = zo2, ho3 : @ofL = zo3, ho4 : @lacksL = zo4, ho5 : @iL = zo5, ho6 : @srt = zo6, ho7 : @rgPre = zo7, ho8 : @inPre = zo8
    generalize hA : Arith.std = A
    cbv
    subst hA hg0 ho0 ho1 ho2 ho3 ho4 ho5 ho6 ho7 ho8
    refine Need.mk ⟨rfl, rfl, first_in, by omega⟩ fun _ => ?_
    rw [first_of]
    refine Need.mk ⟨rfl, rfl, rgAt_rgG _ _, (by show 2 ≤ 1000000; omega)⟩ fun _ => ?_
    rw [show ([(1, 3), (7, 7)] : List Rg).length = 2 from rfl, first_lacks]
    refine Ife.mk (fun _ => ?_) (fun hb => absurd (show decide ((2 : Int) = 2) = false from hb) (by decide))
    refine Need.mk (by show (0 : Int) ≤ 0 ∧ (0 : Int) < 2; omega) fun _ => Need.mk (by show 0 < 2; omega) fun _ => ?_
    refine Ife.mk (fun _ => ?_) (fun hb => absurd (show (decide ((1 : Int) = 1) && (decide ((3 : Int) = 3) && true)) = false from hb) (by decide))
    refine Ife.mk (fun _ => ?_) (fun hb => absurd (show decide ((2 : Int) = 2) = false from hb) (by decide))
    refine Need.mk (by show (0 : Int) ≤ 1 ∧ (1 : Int) < 2; omega) fun _ => Need.mk (by show 1 < 2; omega) fun _ => ?_
    have q : (decide ((8 : Int) = 8) && (decide ((9 : Int) = 9) && true)) = true := by decide
    exact ⟨[], ⟨rfl, q, by decide, rfl, by repeat' (first | exact trivial | exact rfl | apply And.intro)⟩⟩



end Go.Proofs.Ytcgoaicifjndpaa.Vx
namespace Go.Proofs.Ytcgoaicifjndpaa
open Go.RowKit
set_option linter.unusedVariables false
end Go.Proofs.Ytcgoaicifjndpaa
end

section
/- The law SpanTells, by the walker. -/
namespace Go.Proofs.Ytcgoaicifjndpaa.Vx
open Go.RowKit Span
set_option linter.unusedVariables false
set_option linter.unusedSimpArgs false
def rgPre3 (ty one n : Nat) (get : Nat → List CV) : Prop := ty = 111 ∧ one = 2 ∧ RgAt n get
theorem lkGo_short (l : List Rg) (a b : Int) : (lkGo l a b).1.length ≤ l.length := by
  induction l generalizing a with
  | nil => exact Nat.le_refl _
  | cons r l ih =>
    show ((if a < r.1 ∧ a ≤ b then [(a, min (r.1 - 1) b)] else []) ++ (lkGo l (max a (r.2 + 1)) b).1).length ≤ _
    have := ih (max a (r.2 + 1))
    split <;> simp <;> omega
theorem lacks_len {L : List Rg} {a b : Int} : (lacksL L a b).length ≤ L.length + 1 := by
  unfold lacksL
  split
  · have := lkGo_short L (max a 0) (min b 72057594037927935)
    rw [List.length_append]
    have e : (lkEnd (lkGo L (max a 0) (min b 72057594037927935)).2 (min b 72057594037927935)).length ≤ 1 := by
      unfold lkEnd
      split <;> simp
    omega
  · simp
theorem IfeS.yes {b : Bool} {p q : Prop} (h : b = true) (x : p) : Ife b p q := Ife.mk (fun _ => x) fun g => by rw [h] at g; cases g
def sSpanTells : SpecF
  | [.c (.row 0), .c (.int .i64 x), .c (.int .i64 a), .c (.int .i64 b), .c (.int .i64 m)], [.elems ty one n get] => some (rgPre3 ty one n get, .c .tt, [.dead])
  | _, _ => none

set_option maxRecDepth 100000 in
set_option maxHeartbeats 32000000 in
theorem spanTellsP : Fn Try.prog 4 [] [(111, 2)] sSpanTells := by
  have hC : CtsOk Try.prog [(17, appFn [] [] sFirst23), (26, appFn [] [(111, 2)] sDoc), (28, appFn [] [(114, 2)] sGoodD), (21, appFn [] [(111, 2)] sGood), (25, appFn [] [(111, 2)] sHas), (29, appFn [] [(114, 2)] sHasD), (24, appFn [] [(111, 2)] sAdd), (30, appFn [] [(111, 2)] sLacks), (27, appFn [] [(111, 2)] sCount), (31, appFn [] [(111, 2)] sAll), (32, appFn [] [(114, 2)] sAddD), (22, appFn [] [(111, 2), (114, 2)] sEqR), (33, appFn [] [(114, 2)] sLacksD), (34, appFn [] [(114, 2)] sCountD), (36, appFn [] [(114, 2)] sAllD), (35, appFn [] [(3, 1), (3, 1)] sEqI)] := CtsOk.cons (Fn.ct first23P) <| CtsOk.cons (Fn.ct docP) <| CtsOk.cons (Fn.ct goodDP) <| CtsOk.cons (Fn.ct goodP) <| CtsOk.cons (Fn.ct hasP) <| CtsOk.cons (Fn.ct hasDP) <| CtsOk.cons (Fn.ct addP) <| CtsOk.cons (Fn.ct lacksP) <| CtsOk.cons (Fn.ct countP) <| CtsOk.cons (Fn.ct allP) <| CtsOk.cons (Fn.ct addDP) <| CtsOk.cons (Fn.ct eqRP) <| CtsOk.cons (Fn.ct lacksDP) <| CtsOk.cons (Fn.ct countDP) <| CtsOk.cons (Fn.ct allDP) <| CtsOk.cons (Fn.ct eqIP) <| CtsOk.nil _
  refine Fn.of (E := tbH) [] 0 [] tbH_ok hC (by kernel_rfl) Try.func4 rfl rfl rfl (by kernel_rfl) (by kernel_rfl) 1 5 1 ?_ ?_
  · intro args h pre r h' hs
    unfold sSpanTells at hs
    split at hs
    · cases hs; exact ⟨rfl, rfl, Nat.le_of_ble_eq_true rfl⟩
    · cases hs
  · intro args h pre r h' hs hp
    unfold sSpanTells at hs
    split at hs
    rotate_left
    · cases hs
    rename_i x a b m ty one n get
    cases hs
    obtain ⟨rfl, rfl, hst⟩ := hp
    refine ⟨[.elems 111 2 n (rgG (rgL n get))], hst.same, ?_⟩
    have hL : (rgL n get).length = n := rgL_len
    generalize rgL n get = L at hL ⊢
    have eL : rgL n (rgG L) = L := by rw [← hL]; exact rgL_rgG L
    unfold sFirst23 sDoc
    generalize hg0 : (List.length : List Rg → Nat) = g0
    generalize hg1 : (List.length : List Int → Nat) = g1
    generalize hL : lft Try.prog _ = L
    try unfold rgG
    try unfold inG
    generalize ho0 : @rA = zo0, ho1 : @rB = zo1, ho2 : @rgL = zo2, ho3 : @good = zo3, ho4 : @count = zo4, ho5 : @lacksL = zo5, ho6 : @iL = zo6, ho7 : @iA = zo7, ho8 : @countG = zo8, ho9 : @allG = zo9, ho10 : @rgPre = zo10, ho11 : @inPre = zo11, ho12 : @allPre = zo12, ho13 : @hasL = zo13, ho14 : @rgPre3 = zo14, ho15 : @rgPreD = zo15, ho16 : @allPreD = zo16, ho17 : @goodPreD = zo17, ho18 : @addL = zo18, ho19 : @addG = zo19, ho20 : @runsM = zo20
    generalize hs0 : @sGood = zs0, hs1 : @sGoodD = zs1, hs2 : @sHas = zs2, hs3 : @sHasD = zs3, hs4 : @sAdd = zs4, hs5 : @sAddD = zs5, hs6 : @sEqR = zs6, hs7 : @sLacks = zs7, hs8 : @sLacksD = zs8, hs9 : @sCount = zs9, hs10 : @sCountD = zs10, hs11 : @sAll = zs11, hs12 : @sAllD = zs12, hs13 : @sEqI = zs13
    generalize hA : Arith.std = A
    cbv
    subst hA hg0 hg1 hL ho0 ho1 ho2 ho3 ho4 ho5 ho6 ho7 ho8 ho9 ho10 ho11 ho12 ho13 ho14 ho15 ho16 ho17 ho18 ho19 ho20 hs0 hs1 hs2 hs3 hs4 hs5 hs6 hs7 hs8 hs9 hs10 hs11 hs12 hs13
    unfold sGood sGoodD
    generalize hg0 : (List.length : List Rg → Nat) = g0
    generalize hg1 : (List.length : List Int → Nat) = g1
    generalize hL : lft Try.prog _ = L
    try unfold rgG
    try unfold inG
    generalize ho0 : @rA = zo0, ho1 : @rB = zo1, ho2 : @rgL = zo2, ho3 : @good = zo3, ho4 : @count = zo4, ho5 : @lacksL = zo5, ho6 : @iL = zo6, ho7 : @iA = zo7, ho8 : @countG = zo8, ho9 : @allG = zo9, ho10 : @rgPre = zo10, ho11 : @inPre = zo11, ho12 : @allPre = zo12, ho13 : @hasL = zo13, ho14 : @rgPre3 = zo14, ho15 : @rgPreD = zo15, ho16 : @allPreD = zo16, ho17 : @goodPreD = zo17, ho18 : @addL = zo18, ho19 : @addG = zo19, ho20 : @runsM = zo20
    generalize hs0 : @sHas = zs0, hs1 : @sHasD = zs1, hs2 : @sAdd = zs2, hs3 : @sAddD = zs3, hs4 : @sEqR = zs4, hs5 : @sLacks = zs5, hs6 : @sLacksD = zs6, hs7 : @sCount = zs7, hs8 : @sCountD = zs8, hs9 : @sAll = zs9, hs10 : @sAllD = zs10, hs11 : @sEqI = zs11
    generalize hA : Arith.std = A
    cbv
    subst hA hg0 hg1 hL ho0 ho1 ho2 ho3 ho4 ho5 ho6 ho7 ho8 ho9 ho10 ho11 ho12 ho13 ho14 ho15 ho16 ho17 ho18 ho19 ho20 hs0 hs1 hs2 hs3 hs4 hs5 hs6 hs7 hs8 hs9 hs10 hs11
    unfold sHas sHasD
    generalize hg0 : (List.length : List Rg → Nat) = g0
    generalize hg1 : (List.length : List Int → Nat) = g1
    generalize hL : lft Try.prog _ = L
    try unfold rgG
    try unfold inG
    generalize ho0 : @rA = zo0, ho1 : @rB = zo1, ho2 : @rgL = zo2, ho3 : @good = zo3, ho4 : @count = zo4, ho5 : @lacksL = zo5, ho6 : @iL = zo6, ho7 : @iA = zo7, ho8 : @countG = zo8, ho9 : @allG = zo9, ho10 : @rgPre = zo10, ho11 : @inPre = zo11, ho12 : @allPre = zo12, ho13 : @hasL = zo13, ho14 : @rgPre3 = zo14, ho15 : @rgPreD = zo15, ho16 : @allPreD = zo16, ho17 : @goodPreD = zo17, ho18 : @addL = zo18, ho19 : @addG = zo19, ho20 : @runsM = zo20
    generalize hs0 : @sAdd = zs0, hs1 : @sAddD = zs1, hs2 : @sEqR = zs2, hs3 : @sLacks = zs3, hs4 : @sLacksD = zs4, hs5 : @sCount = zs5, hs6 : @sCountD = zs6, hs7 : @sAll = zs7, hs8 : @sAllD = zs8, hs9 : @sEqI = zs9
    generalize hA : Arith.std = A
    cbv
    subst hA hg0 hg1 hL ho0 ho1 ho2 ho3 ho4 ho5 ho6 ho7 ho8 ho9 ho10 ho11 ho12 ho13 ho14 ho15 ho16 ho17 ho18 ho19 ho20 hs0 hs1 hs2 hs3 hs4 hs5 hs6 hs7 hs8 hs9
    unfold sAdd sAddD sEqR
    generalize hg0 : (List.length : List Rg → Nat) = g0
    generalize hg1 : (List.length : List Int → Nat) = g1
    generalize hL : lft Try.prog _ = L
    try unfold rgG
    try unfold inG
    generalize ho0 : @rA = zo0, ho1 : @rB = zo1, ho2 : @rgL = zo2, ho3 : @good = zo3, ho4 : @count = zo4, ho5 : @lacksL = zo5, ho6 : @iL = zo6, ho7 : @iA = zo7, ho8 : @countG = zo8, ho9 : @allG = zo9, ho10 : @rgPre = zo10, ho11 : @inPre = zo11, ho12 : @allPre = zo12, ho13 : @hasL = zo13, ho14 : @rgPre3 = zo14, ho15 : @rgPreD = zo15, ho16 : @allPreD = zo16, ho17 : @goodPreD = zo17, ho18 : @addL = zo18, ho19 : @addG = zo19, ho20 : @runsM = zo20
    generalize hs0 : @sLacks = zs0, hs1 : @sLacksD = zs1, hs2 : @sCount = zs2, hs3 : @sCountD = zs3, hs4 : @sAll = zs4, hs5 : @sAllD = zs5, hs6 : @sEqI = zs6
    generalize hA : Arith.std = A
    cbv
    subst hA hg0 hg1 hL ho0 ho1 ho2 ho3 ho4 ho5 ho6 ho7 ho8 ho9 ho10 ho11 ho12 ho13 ho14 ho15 ho16 ho17 ho18 ho19 ho20 hs0 hs1 hs2 hs3 hs4 hs5 hs6
    unfold sLacks sLacksD
    generalize hg0 : (List.length : List Rg → Nat) = g0
    generalize hg1 : (List.length : List Int → Nat) = g1
    generalize hL : lft Try.prog _ = L
    try unfold rgG
    try unfold inG
    generalize ho0 : @rA = zo0, ho1 : @rB = zo1, ho2 : @rgL = zo2, ho3 : @good = zo3, ho4 : @count = zo4, ho5 : @lacksL = zo5, ho6 : @iL = zo6, ho7 : @iA = zo7, ho8 : @countG = zo8, ho9 : @allG = zo9, ho10 : @rgPre = zo10, ho11 : @inPre = zo11, ho12 : @allPre = zo12, ho13 : @hasL = zo13, ho14 : @rgPre3 = zo14, ho15 : @rgPreD = zo15, ho16 : @allPreD = zo16, ho17 : @goodPreD = zo17, ho18 : @addL = zo18, ho19 : @addG = zo19, ho20 : @runsM = zo20
    generalize hs0 : @sCount = zs0, hs1 : @sCountD = zs1, hs2 : @sAll = zs2, hs3 : @sAllD = zs3, hs4 : @sEqI = zs4
    generalize hA : Arith.std = A
    cbv
    subst hA hg0 hg1 hL ho0 ho1 ho2 ho3 ho4 ho5 ho6 ho7 ho8 ho9 ho10 ho11 ho12 ho13 ho14 ho15 ho16 ho17 ho18 ho19 ho20 hs0 hs1 hs2 hs3 hs4
    unfold sCount sCountD
    generalize hg0 : (List.length : List Rg → Nat) = g0
    generalize hg1 : (List.length : List Int → Nat) = g1
    generalize hL : lft Try.prog _ = L
    try unfold rgG
    try unfold inG
    generalize ho0 : @rA = zo0, ho1 : @rB = zo1, ho2 : @rgL = zo2, ho3 : @good = zo3, ho4 : @count = zo4, ho5 : @lacksL = zo5, ho6 : @iL = zo6, ho7 : @iA = zo7, ho8 : @countG = zo8, ho9 : @allG = zo9, ho10 : @rgPre = zo10, ho11 : @inPre = zo11, ho12 : @allPre = zo12, ho13 : @hasL = zo13, ho14 : @rgPre3 = zo14, ho15 : @rgPreD = zo15, ho16 : @allPreD = zo16, ho17 : @goodPreD = zo17, ho18 : @addL = zo18, ho19 : @addG = zo19, ho20 : @runsM = zo20
    generalize hs0 : @sAll = zs0, hs1 : @sAllD = zs1, hs2 : @sEqI = zs2
    generalize hA : Arith.std = A
    cbv
    subst hA hg0 hg1 hL ho0 ho1 ho2 ho3 ho4 ho5 ho6 ho7 ho8 ho9 ho10 ho11 ho12 ho13 ho14 ho15 ho16 ho17 ho18 ho19 ho20 hs0 hs1 hs2
    unfold sAll sAllD sEqI
    generalize hg0 : (List.length : List Rg → Nat) = g0
    generalize hg1 : (List.length : List Int → Nat) = g1
    generalize hL : lft Try.prog _ = L
    try unfold rgG
    try unfold inG
    generalize ho0 : @rA = zo0, ho1 : @rB = zo1, ho2 : @rgL = zo2, ho3 : @good = zo3, ho4 : @count = zo4, ho5 : @lacksL = zo5, ho6 : @iL = zo6, ho7 : @iA = zo7, ho8 : @countG = zo8, ho9 : @allG = zo9, ho10 : @rgPre = zo10, ho11 : @inPre = zo11, ho12 : @allPre = zo12, ho13 : @hasL = zo13, ho14 : @rgPre3 = zo14, ho15 : @rgPreD = zo15, ho16 : @allPreD = zo16, ho17 : @goodPreD = zo17, ho18 : @addL = zo18, ho19 : @addG = zo19, ho20 : @runsM = zo20
    generalize hA : Arith.std = A
    cbv
    subst hA hg0 hg1 hL ho0 ho1 ho2 ho3 ho4 ho5 ho6 ho7 ho8 ho9 ho10 ho11 ho12 ho13 ho14 ho15 ho16 ho17 ho18 ho19 ho20
    refine Need.mk trivial fun _ => ?_
    refine Ife.mk (fun _ => Need.mk trivial fun _ => by exact ⟨[0], ⟨rfl, by repeat' (first | exact trivial | exact rfl | apply And.intro), by decide, rfl, by repeat' (first | exact trivial | exact rfl | apply And.intro)⟩⟩) (fun h1 => ?_)
    have h1 : ¬ (30 : Int) < (n : Int) := of_decide_eq_false (p := (30 : Int) < (n : Int)) h1
    refine Ife.mk (fun _ => Need.mk trivial fun _ => by exact ⟨[0], ⟨rfl, by repeat' (first | exact trivial | exact rfl | apply And.intro), by decide, rfl, by repeat' (first | exact trivial | exact rfl | apply And.intro)⟩⟩) (fun h2 => ?_)
    have h2 : ¬ (200 : Int) < m := of_decide_eq_false (p := (200 : Int) < m) h2
    have pL : rgPre 111 2 n (rgG L) := ⟨rfl, rfl, rgAt_rgG _ _, by omega⟩
    have pD : rgPreD 114 2 n (rgG L) := ⟨rfl, rfl, rgAt_rgG _ _, by omega⟩
    refine Need.mk pL fun _ => ?_
    rw [eL, hL, eL]
    refine Need.mk pD fun _ => Need.mk pL fun _ => ?_
    refine IfeS.no (by show (!(good L == good L)) = false; simp) ?_
    refine Need.mk pL fun _ => Need.mk pD fun _ => ?_
    refine IfeS.no (by show (!(hasL L x == hasL L x)) = false; simp) ?_
    refine Ife.mk (fun hg => ?_) (fun hg => ?_)
    · have hg : good L = false := by simpa using (show (!good L) = true from hg)
      have e1 : addG L x = [] := by unfold addG; rw [hg]; rfl
      have e2 : lacksL L a b = [] := by unfold lacksL; rw [hg]; rfl
      have e3 : countG L = 0 := by unfold countG; rw [hg]; rfl
      have e4 : allG L m = [] := by unfold allG; rw [hg]; rfl
      rw [e1, e2, e3, e4]
      refine Need.mk pL fun _ => IfeS.yes rfl ?_
      refine Need.mk pL fun _ => IfeS.yes rfl ?_
      refine Need.mk pL fun _ => IfeS.yes rfl ?_
      refine Need.mk ⟨pL, by omega⟩ fun _ => ?_
      exact ⟨[0], ⟨rfl, by repeat' (first | exact trivial | exact (decide_eq_true rfl) | exact (congrArg CV.bool (decide_eq_true rfl)) | exact rfl | apply And.intro | (intro i hi; rfl) | (intro i hi; exact absurd hi (Nat.not_lt_zero _))), by decide, rfl, by repeat' (first | exact trivial | exact (decide_eq_true rfl) | exact (congrArg CV.bool (decide_eq_true rfl)) | exact rfl | apply And.intro | (intro i hi; rfl) | (intro i hi; exact absurd hi (Nat.not_lt_zero _)))⟩⟩
    have hg : good L = true := by simpa using (show (!good L) = false from hg)
    have pG : goodPreD 114 2 n (rgG L) := ⟨pD, by rw [eL]; exact hg⟩
    have e1 : addG L x = addL L x := by unfold addG; rw [if_pos hg]
    have e3 : countG L = count L := by unfold countG; rw [if_pos hg]
    have e4 : allG L m = runsM L m := by unfold allG; rw [if_pos hg]; rfl
    rw [e1, e3, e4]
    have lA := addL_len (l := L) (n := x)
    have lM := lacks_len (L := L) (a := a) (b := b)
    have lR : (runsM L m).length ≤ 200 := by unfold runsM; rw [List.length_take]; omega
    generalize addL L x = A at *
    generalize lacksL L a b = M at *
    generalize runsM L m = Z at *
    refine Need.mk pL fun _ => Need.mk pG fun _ => Need.mk ⟨⟨rfl, rfl, rgAt_rgG _ _, by omega⟩, ⟨rfl, rfl, rgAt_rgG _ _, by omega⟩⟩ fun _ => IfeS.yes (decide_eq_true rfl) ?_
    refine Need.mk pL fun _ => Need.mk pG fun _ => Need.mk ⟨⟨rfl, rfl, rgAt_rgG _ _, by omega⟩, ⟨rfl, rfl, rgAt_rgG _ _, by omega⟩⟩ fun _ => IfeS.yes (decide_eq_true rfl) ?_
    refine Need.mk pL fun _ => Need.mk pG fun _ => IfeS.yes (decide_eq_true rfl) ?_
    refine Need.mk ⟨pL, by omega⟩ fun _ => Need.mk ⟨pD, by omega, by rw [eL]; exact hg⟩ fun _ => Need.mk ⟨⟨rfl, rfl, inAt_inG _ _, by omega⟩, ⟨rfl, rfl, inAt_inG _ _, by omega⟩⟩ fun _ => ?_
    exact ⟨[0], ⟨rfl, by repeat' (first | exact trivial | exact (decide_eq_true rfl) | exact (congrArg CV.bool (decide_eq_true rfl)) | exact rfl | apply And.intro | (intro i hi; rfl) | (intro i hi; exact absurd hi (Nat.not_lt_zero _))), by decide, rfl, by repeat' (first | exact trivial | exact (decide_eq_true rfl) | exact (congrArg CV.bool (decide_eq_true rfl)) | exact rfl | apply And.intro | (intro i hi; rfl) | (intro i hi; exact absurd hi (Nat.not_lt_zero _)))⟩⟩

end Go.Proofs.Ytcgoaicifjndpaa.Vx
namespace Go.Proofs.Ytcgoaicifjndpaa
open Go.RowKit
set_option linter.unusedVariables false
theorem spanTellsWalk (w : World) (p : Option Addr) (cap : Nat) (ls : List (Int × Int)) (hs : SlIn w p 2 cap (ls.map fun r => [.int .i64 r.1, .int .i64 r.2])) (x : Int) (_hx : -9223372036854775808 ≤ x ∧ x ≤ 9223372036854775807) (a : Int) (_ha : -9223372036854775808 ≤ a ∧ a ≤ 9223372036854775807) (b : Int) (_hb : -9223372036854775808 ≤ b ∧ b ≤ 9223372036854775807) (m : Int) (_hm : -9223372036854775808 ≤ m ∧ m ≤ 9223372036854775807) :
    Calls Try.prog 4 #[.slice p ls.length cap, .int .i64 x, .int .i64 a, .int .i64 b, .int .i64 m] w fun e w' => e = .returned (.bool true) ∧ Below w.heap.size w w' := by
  obtain ⟨q, hq, g⟩ := rgs_good hs
  rw [← hq]
  refine Calls.mono (Vx.spanTellsP.run [.c (.row 0), .c (.int .i64 x), .c (.int .i64 a), .c (.int .i64 b), .c (.int .i64 m)] [.elems 111 2 ls.length (Vx.rgG ls)] _ _ _ rfl ⟨rfl, rfl, Vx.rgAt_rgG _ _⟩ [q] w _ (Vx.Rel.addV (Vx.Rel.refl w) 111 g) ⟨_, _, rfl, (by obtain ⟨a', cap', e, _⟩ := g.sl; simp [Vx.SV.is, Vx.CV.den, e, Vx.one] : Vx.SV.is [q] (.c (.row 0)) q.v), _, _, rfl, rfl, _, _, rfl, rfl, _, _, rfl, rfl, _, _, rfl, rfl, rfl⟩) fun e W' he => ?_
  obtain ⟨u, ρ', rfl, hu, hr⟩ := he
  obtain rfl : .bool true = u := Option.some.inj hu
  exact ⟨rfl, Vx.Rel.toBelow hr⟩
end Go.Proofs.Ytcgoaicifjndpaa
end
