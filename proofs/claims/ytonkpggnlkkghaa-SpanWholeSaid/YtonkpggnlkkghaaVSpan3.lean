/- Ranges of numbers: Lacks, Of, by the walker. -/
import Derived.Test.YtonkpggnlkkghaaM15
namespace Go.Proofs.Ytonkpggnlkkghaa.Vx
open Go.RowKit Span
set_option linter.unusedVariables false
set_option linter.unusedSimpArgs false
def imin (a b : Int) : Int := min a b
def imax (a b : Int) : Int := max a b
structure LOf (S : List Int) (n : Nat) where
  i : Int
  l : List Rg
  h0 : 0 ≤ i
  h1 : i ≤ (n : Int)
  h2 : l = (S.take i.toNat).foldl Span.step []
  h3 : ∀ r ∈ l, 0 ≤ r.2 ∧ r.2 ≤ 72057594037927935
  h4 : (l.length : Int) ≤ i
theorem last_mem {l : List Rg} (h : 0 < l.length) : l.getD (l.length - 1) (0, 0) ∈ l := by
  rw [List.getD_eq_getElem?_getD, List.getElem?_eq_getElem (by omega)]
  exact List.getElem_mem (by omega)
theorem step_no {l : List Rg} {v : Int} (h : mayN v = false) : Span.step l v = l := by unfold Span.step; rw [h]; rfl
theorem step_set {l : List Rg} {v : Int} (h : mayN v = true) (h0 : 0 < l.length) (h1 : v - rB l (l.length - 1) < 2) : Span.step l v = l.set (l.length - 1) (rA l (l.length - 1), v) := by
  unfold Span.step
  rw [if_pos h, if_pos ⟨h0, h1⟩]
  rfl
theorem step_push {l : List Rg} {v : Int} (h : mayN v = true) (h1 : ¬ (0 < l.length ∧ v - rB l (l.length - 1) < 2)) : Span.step l v = l ++ [(v, v)] := by
  unfold Span.step
  rw [if_pos h, if_neg (show ¬ (0 < l.length ∧ v - (l.getD (l.length - 1) (0, 0)).2 < 2) from h1)]
theorem foldl_take {S : List Int} {i : Nat} (hi : i < S.length) : (S.take (i + 1)).foldl Span.step [] = Span.step ((S.take i).foldl Span.step []) (iA S i) := by
  rw [take_succ' S hi, List.foldl_append]
  show Span.step _ S[i] = _
  congr 1
  simp [iA, List.getD, hi]
theorem upG_set {l : List Rg} {j : Nat} {v : Int} (hj : j < l.length) (i : Nat) (hi : i < l.length) : upG (rgG l) j 1 [.int .i64 v] i = rgG (l.set j (rA l j, v)) i := by
  unfold upG
  by_cases h : i = j
  · subst h
    rw [show Nat.beq i i = true by simp]
    show setMany (rgG l i) 1 [.int .i64 v] = _
    unfold rgG rgGP rA rB
    simp [setMany, List.getD, hj]
  · rw [show Nat.beq i j = false by rw [Bool.eq_false_iff]; intro h2; exact h (by simpa using h2)]
    unfold rgG rgGP rA rB
    simp [List.getD, List.getElem?_set_ne (Ne.symm h)]
def sLacks : SpecF
  | [.c (.row 0), .c (.int .i64 a), .c (.int .i64 b)], [.elems ty one n get] => some (rgPre ty one n get, .c (.row 1), [.dead, .row 62 2 (lacksL (rgL n get) a b).length (rgG (lacksL (rgL n get) a b))])
  | _, _ => none

set_option maxRecDepth 100000 in
set_option maxHeartbeats 8000000 in
theorem lacksP : Fn Try.prog 13 [] [(62, 2)] sLacks := by
  have hC : CtsOk Try.prog [(12, appFn [] [(62, 2)] sGood)] := CtsOk.cons (Fn.ct goodP) <| CtsOk.nil _
  refine Fn.of (E := tbG) [] 0 [] tbG_ok hC (by kernel_rfl) Try.func13 rfl rfl rfl (by kernel_rfl) (by kernel_rfl) 1 62 2 ?_ ?_
  · intro args h pre r h' hs
    unfold sLacks at hs
    split at hs
    · cases hs; exact ⟨rfl, rfl, Nat.le_of_ble_eq_true rfl⟩
    · cases hs
  · intro args h pre r h' hs hp
    unfold sLacks at hs
    split at hs
    rotate_left
    · cases hs
    rename_i a b ty one n get
    cases hs
    obtain ⟨rfl, rfl, hst, hm⟩ := hp
    refine ⟨[.elems 62 2 n (rgG (rgL n get))], hst.same, ?_⟩
    have hL : (rgL n get).length = n := rgL_len
    generalize rgL n get = L at hL ⊢
    have eL : rgL n (rgG L) = L := by rw [← hL]; exact rgL_rgG L
    unfold sGood
    generalize hL : lft Try.prog _ = L
    try unfold rgG
    generalize ho0 : @rA = zo0, ho1 : @rB = zo1, ho2 : @rgL = zo2, ho3 : @good = zo3, ho4 : @lacksL = zo4, ho5 : @lkGo = zo5, ho6 : @lkEnd = zo6, ho7 : @rgPre = zo7, ho8 : @imin = zo8, ho9 : @imax = zo9
    generalize hA : Arith.std = A
    cbv
    subst hA hL ho0 ho1 ho2 ho3 ho4 ho5 ho6 ho7 ho8 ho9
    refine Need.mk ⟨rfl, rfl, rgAt_rgG n L, hm⟩ fun _ => ?_
    refine Ife.mk (fun h => ?_) (fun h => ?_)
    · have h : good (rgL n (rgG L)) = false := by
        have h6 : (!good (rgL n (rgG L))) = true := h
        simpa using h6
      rw [eL] at h
      rw [show lacksL L a b = [] by unfold lacksL; rw [h]; rfl]
      exact ⟨[0, 2], ⟨rfl, rfl, (by show List.Nodup [2]; decide), rfl, by repeat' (first | exact trivial | exact rfl | apply And.intro | (intro i hi; rfl) | (intro i hi; exact absurd hi (Nat.not_lt_zero _)))⟩⟩
    have hg : good (rgL n (rgG L)) = true := by
      have h6 : (!good (rgL n (rgG L))) = false := h
      simpa using h6
    rw [eL] at hg
    rw [show lacksL L a b = (lkGo L (imax a 0) (imin b 72057594037927935)).1 ++ lkEnd (lkGo L (imax a 0) (imin b 72057594037927935)).2 (imin b 72057594037927935) by unfold lacksL; rw [hg]; rfl]
    refine Runs.nilTmp 7 62 2 (rgG []) rfl ?_
    show Runs Try.prog 1 (.loop _) _ _
    refine loop_ruleR (N := env (lft Try.prog 1) 0 .std tbG [(12, appFn [] [(62, 2)] sGood)] []) rfl tbG_ok hC (fun c st K _ h => h) (by kernel_rfl) [] (X := LLk L n (imax a 0) (imin b 72057594037927935))
      (S := fun x => ⟨[.c (.row 0), .c (.int .i64 x.a), .c (.int .i64 (imin b 72057594037927935)), .any, .any, .any, .any, .c (.row 2), .any, .any, .any, .any, .any, .any, .any, .any, .any, .c (.row 0), .c (.int .i64 n), .c (.int .i64 x.i)] ++ List.replicate 38 .any, [.elems 62 2 n (rgG L), .dead, .row 62 2 x.l.length (rgG x.l)]⟩) (μ := fun x => n - x.i.toNat) ⟨0, imax a 0, [], by omega, by omega, rfl, (by show 0 ≤ max a 0; omega), (by show (0 : Int) ≤ 0; omega)⟩ (by kernel_rfl) [0, 1, 2] ?_ ?_
    · refine ⟨rfl, by decide, ?_, ?_⟩ <;> repeat' (first | exact trivial | exact rfl | apply And.intro | (intro i hi; rfl) | (intro i hi; exact absurd hi (Nat.not_lt_zero _)))
    rintro ⟨i, c, l, hi0, hin, hl, hc, hll⟩
    unfold sGood
    generalize hg0 : (List.length : List Rg → Nat) = g0
    generalize hL : lft Try.prog _ = L
    try dsimp only
    try unfold rgG
    generalize ho0 : @rA = zo0, ho1 : @rB = zo1, ho2 : @rgL = zo2, ho3 : @good = zo3, ho4 : @lacksL = zo4, ho5 : @lkGo = zo5, ho6 : @lkEnd = zo6, ho7 : @rgPre = zo7, ho8 : @imin = zo8, ho9 : @imax = zo9
    generalize hA : Arith.std = A
    cbv
    subst hA hg0 hL ho0 ho1 ho2 ho3 ho4 ho5 ho6 ho7 ho8 ho9
    replace hi0 : 0 ≤ i := hi0
    replace hin : i ≤ @Nat.cast Int instNatCastInt n := hin
    replace hl : lkGo L (imax a 0) (imin b 72057594037927935) = (l ++ (lkGo (L.drop i.toNat) c (imin b 72057594037927935)).1, (lkGo (L.drop i.toNat) c (imin b 72057594037927935)).2) := hl
    replace hc : 0 ≤ c := hc
    replace hll : @Nat.cast Int instNatCastInt l.length ≤ i := hll
    refine Ife.mk (fun hlt => ?_) (fun hlt => ?_)
    · replace hlt : i < @Nat.cast Int instNatCastInt n := of_decide_eq_true (p := i < (n : Int)) hlt
      have hg1 := good_take hg (i := i.toNat) (by omega)
      repeat refine Need.mk (by first | exact trivial | (simp only [Arith.std, fitStd]; omega) | (simp [Arith.std, fitStd]; omega)) fun _ => ?_
      refine Ife.mk (fun h1 => ?_) (fun h1 => ?_)
      · have h1 : c < rA L i.toNat := of_decide_eq_true (p := c < rA L i.toNat) h1
        refine Ife.mk (fun h2 => ?_) (fun h2 => ?_)
        · have h2 : c ≤ imin b 72057594037927935 := of_decide_eq_true (p := c ≤ imin b 72057594037927935) h2
          refine Need.mk (by show fitStd .i64 (rA L i.toNat - 1); unfold fitStd; omega) fun _ => Need.mk (by show l.length + 1 ≤ maxLen ∧ (l.length + 1) * 16 ≤ 140737488355328; unfold maxLen; omega) fun _ => ?_
          refine Need.mk (by show fitStd .i64 (rB L i.toNat + 1); unfold fitStd; omega) fun _ => Need.mk (by show fitStd .i64 (i + 1); unfold fitStd; omega) fun _ => ?_
          refine ⟨⟨i + 1, max c (rB L i.toNat + 1), l ++ [(c, min (rA L i.toNat - 1) (imin b 72057594037927935))], by omega, by omega, ?h2, by omega, ?h4⟩, [0, 1, 5], (by show n - (i + 1).toNat < n - i.toNat; omega), ?st⟩
          case h2 => rw [show (i + 1).toNat = i.toNat + 1 by omega, hl, lkGo_drop (show i.toNat < L.length by omega), if_pos ⟨h1, h2⟩]; rw [← List.append_assoc]
          case h4 => rw [List.length_append]; show ((l.length + 1 : Nat) : Int) ≤ _; omega
          case st =>
            refine ⟨rfl, by decide, ?_, ?_⟩
            · repeat' (first | exact trivial | exact rfl | apply And.intro)
            · repeat' (first | exact trivial | exact rfl | apply And.intro)
              · simp
              · intro j hj
                exact rgG_push l (c, min (rA L i.toNat - 1) (imin b 72057594037927935)) j (by simpa using hj)
        · have h2 : ¬ c ≤ imin b 72057594037927935 := of_decide_eq_false (p := c ≤ imin b 72057594037927935) h2
          refine Need.mk (by show fitStd .i64 (rB L i.toNat + 1); unfold fitStd; omega) fun _ => Need.mk (by show fitStd .i64 (i + 1); unfold fitStd; omega) fun _ => ?_
          refine ⟨⟨i + 1, max c (rB L i.toNat + 1), l, by omega, by omega, ?h2, by omega, ?h4⟩, [0, 1, 2], (by show n - (i + 1).toNat < n - i.toNat; omega), ?st⟩
          case h2 => rw [show (i + 1).toNat = i.toNat + 1 by omega, hl, lkGo_drop (show i.toNat < L.length by omega), if_neg (fun h => h2 h.2)]; rw [List.nil_append]
          case h4 => omega
          case st => refine ⟨rfl, by decide, ?_, ?_⟩ <;> repeat' (first | exact trivial | exact rfl | apply And.intro | (intro i hi; rfl) | (intro i hi; exact absurd hi (Nat.not_lt_zero _)))
      · have h1 : ¬ c < rA L i.toNat := of_decide_eq_false (p := c < rA L i.toNat) h1
        refine Need.mk (by show fitStd .i64 (rB L i.toNat + 1); unfold fitStd; omega) fun _ => Need.mk (by show fitStd .i64 (i + 1); unfold fitStd; omega) fun _ => ?_
        refine ⟨⟨i + 1, max c (rB L i.toNat + 1), l, by omega, by omega, ?h2, by omega, ?h4⟩, [0, 1, 2], (by show n - (i + 1).toNat < n - i.toNat; omega), ?st⟩
        case h2 => rw [show (i + 1).toNat = i.toNat + 1 by omega, hl, lkGo_drop (show i.toNat < L.length by omega), if_neg (fun h => h1 h.1)]; rw [List.nil_append]
        case h4 => omega
        case st => refine ⟨rfl, by decide, ?_, ?_⟩ <;> repeat' (first | exact trivial | exact rfl | apply And.intro | (intro i hi; rfl) | (intro i hi; exact absurd hi (Nat.not_lt_zero _)))
    · replace hlt : ¬ i < @Nat.cast Int instNatCastInt n := of_decide_eq_false (p := i < (n : Int)) hlt
      have e : lkGo L (imax a 0) (imin b 72057594037927935) = (l, c) := by rw [hl, List.drop_eq_nil_of_le (show L.length ≤ i.toNat by omega)]; simp [lkGo]
      rw [e]
      refine Ife.mk (fun h => ?_) (fun h => ?_)
      · have h : c ≤ imin b 72057594037927935 := of_decide_eq_true (p := c ≤ imin b 72057594037927935) h
        rw [show lkEnd (l, c).2 (imin b 72057594037927935) = [(c, imin b 72057594037927935)] by unfold lkEnd; rw [if_pos h]]
        refine Need.mk (by show l.length + 1 ≤ maxLen ∧ (l.length + 1) * 16 ≤ 140737488355328; unfold maxLen; omega) fun _ => ?_
        refine ⟨[0, 4], ⟨rfl, rfl, (by show List.Nodup [4]; decide), rfl, ?_⟩⟩
        repeat' (first | exact trivial | exact rfl | apply And.intro)
        · simp
        · intro j hj
          exact rgG_push l (c, imin b 72057594037927935) j (by simpa using hj)
      · have h : ¬ c ≤ imin b 72057594037927935 := of_decide_eq_false (p := c ≤ imin b 72057594037927935) h
        rw [show lkEnd (l, c).2 (imin b 72057594037927935) = [] by unfold lkEnd; rw [if_neg h], List.append_nil]
        exact ⟨[0, 2], ⟨rfl, rfl, (by show List.Nodup [2]; decide), rfl, by repeat' (first | exact trivial | exact rfl | apply And.intro | (intro i hi; rfl) | (intro i hi; exact absurd hi (Nat.not_lt_zero _)))⟩⟩

def sOf : SpecF
  | [.c (.row 0)], [.elems ty one n get] => some (inPre ty one n get, .c (.row 1), [.dead, .row 62 2 (ofL (srt (iL n get))).length (rgG (ofL (srt (iL n get))))])
  | _, _ => none

set_option maxRecDepth 100000 in
set_option maxHeartbeats 8000000 in
theorem ofP : Fn Try.prog 9 [] [(3, 1)] sOf := by
  have hC : CtsOk Try.prog [(34, appFn [] [(3, 1)] sCloneI), (35, appSort), (36, appPure sMayN)] := CtsOk.cons (Fn.ct cloneIP) <| CtsOk.cons (sortCt) <| CtsOk.cons (Pure.ct mayNP) <| CtsOk.nil _
  refine Fn.of (E := tbG) [] 0 [] tbG_ok hC (by kernel_rfl) Try.func9 rfl rfl rfl (by kernel_rfl) (by kernel_rfl) 1 62 2 ?_ ?_
  · intro args h pre r h' hs
    unfold sOf at hs
    split at hs
    · cases hs; exact ⟨rfl, rfl, Nat.le_of_ble_eq_true rfl⟩
    · cases hs
  · intro args h pre r h' hs hp
    unfold sOf at hs
    split at hs
    rotate_left
    · cases hs
    rename_i ty one n get
    cases hs
    obtain ⟨rfl, rfl, hst, hm⟩ := hp
    refine ⟨[.elems 3 1 n (inG (iL n get))], hst.same, ?_⟩
    have hZ : (iL n get).length = n := iL_len
    generalize iL n get = Z at hZ ⊢
    have eZ : iL n (inG Z) = Z := by rw [← hZ]; exact iL_inG Z
    unfold sCloneI sMayN
    generalize hL : lft Try.prog _ = L
    try unfold appSort
    try unfold rgG
    try unfold inG
    generalize ho0 : @rA = zo0, ho1 : @rB = zo1, ho2 : @mayN = zo2, ho3 : @ofL = zo3, ho4 : @Span.step = zo4, ho5 : @iL = zo5, ho6 : @srt = zo6, ho7 : @iA = zo7, ho8 : @inPre = zo8, ho9 : @sortPre = zo9
    generalize hA : Arith.std = A
    cbv
    subst hA hL ho0 ho1 ho2 ho3 ho4 ho5 ho6 ho7 ho8 ho9
    refine Need.mk ⟨rfl, rfl, inAt_inG n Z, hm⟩ fun _ => Need.mk ⟨inAt_inG n _, hm⟩ fun _ => ?_
    rw [eZ, eZ]
    have hS : (srt Z).length = n := by rw [srt_len, hZ]
    generalize srt Z = S at hS ⊢
    refine Runs.nilTmp 4 62 2 (rgG []) rfl ?_
    show Runs Try.prog 1 (.loop _) _ _
    refine loop_ruleR (N := env (lft Try.prog 1) 0 .std tbG [(34, appFn [] [(3, 1)] sCloneI), (35, appSort), (36, appPure sMayN)] []) rfl tbG_ok hC (fun c st K _ h => h) (by kernel_rfl) [] (X := LOf S n)
      (S := fun x => ⟨[.c (.row 0), .any, .any, .c (.row 2), .c (.row 3), .any, .any, .any, .any, .any, .any, .any, .c (.row 2), .c (.int .i64 n), .c (.int .i64 x.i)] ++ List.replicate 36 .any, [.elems 3 1 n (inG Z), .dead, .row 3 1 n (inG S), .row 62 2 x.l.length (rgG x.l)]⟩) (μ := fun x => n - x.i.toNat) ⟨0, [], by omega, by omega, by simp, (fun r hr => by simp at hr), (by show (0 : Int) ≤ 0; omega)⟩ (by kernel_rfl) [0, 1, 2, 3] ?_ ?_
    · refine ⟨rfl, by decide, ?_, ?_⟩ <;> repeat' (first | exact trivial | exact rfl | apply And.intro | (intro i hi; rfl) | (intro i hi; exact absurd hi (Nat.not_lt_zero _)))
    rintro ⟨i, l, hi0, hin, hl, hok, hll⟩
    unfold sMayN
    generalize hg0 : (List.length : List Rg → Nat) = g0
    generalize hL : lft Try.prog _ = L
    try dsimp only
    try unfold appSort
    try unfold rgG
    try unfold inG
    generalize ho0 : @rA = zo0, ho1 : @rB = zo1, ho2 : @mayN = zo2, ho3 : @ofL = zo3, ho4 : @Span.step = zo4, ho5 : @iL = zo5, ho6 : @srt = zo6, ho7 : @iA = zo7, ho8 : @inPre = zo8, ho9 : @sortPre = zo9
    generalize hA : Arith.std = A
    cbv
    subst hA hg0 hL ho0 ho1 ho2 ho3 ho4 ho5 ho6 ho7 ho8 ho9
    replace hi0 : 0 ≤ i := hi0
    replace hin : i ≤ @Nat.cast Int instNatCastInt n := hin
    replace hl : l = (S.take i.toNat).foldl Span.step [] := hl
    replace hll : @Nat.cast Int instNatCastInt l.length ≤ i := hll
    refine Ife.mk (fun hlt => ?_) (fun hlt => ?_)
    · replace hlt : i < @Nat.cast Int instNatCastInt n := of_decide_eq_true (p := i < (n : Int)) hlt
      refine Need.mk (by show 0 ≤ i ∧ i < (n : Int); omega) fun _ => Need.mk (by show i.toNat < n; omega) fun _ => ?_
      refine Need.mk (by show fitStd .i64 ((l.length : Int) - 1); unfold fitStd; omega) fun _ => Need.mk trivial fun _ => ?_
      refine Ife.mk (fun h => ?_) (fun h => ?_)
      · have hv : mayN (iA S i.toNat) = false := by
          have h6 : (!mayN (iA S i.toNat)) = true := h
          simpa using h6
        refine Need.mk (by show fitStd .i64 (i + 1); unfold fitStd; omega) fun _ => ?_
        refine ⟨⟨i + 1, l, by omega, by omega, ?h2, ?h3, ?h4⟩, [0, 1, 2, 3], (by show n - (i + 1).toNat < n - i.toNat; omega), ?st⟩
        case h2 => rw [show (i + 1).toNat = i.toNat + 1 by omega, foldl_take (show i.toNat < S.length by omega), ← hl, step_no hv]
        case h3 => exact hok
        case h4 => omega
        case st => refine ⟨rfl, by decide, ?_, ?_⟩ <;> repeat' (first | exact trivial | exact rfl | apply And.intro | (intro i hi; rfl) | (intro i hi; exact absurd hi (Nat.not_lt_zero _)))
      have hv : mayN (iA S i.toNat) = true := by
        have h6 : (!mayN (iA S i.toNat)) = false := h
        simpa using h6
      have hb := mayN_iff.1 hv
      refine Ife.mk (fun h => ?_) (fun h => ?_)
      · have h : 0 ≤ (l.length : Int) - 1 := of_decide_eq_true (p := 0 ≤ (l.length : Int) - 1) h
        have h0 : 0 < l.length := by omega
        have e3 : ((l.length : Int) - 1).toNat = l.length - 1 := by omega
        have hb2 : 0 ≤ rB l (l.length - 1) ∧ rB l (l.length - 1) ≤ 72057594037927935 := hok _ (last_mem h0)
        refine Need.mk (by show 0 ≤ (l.length : Int) - 1 ∧ (l.length : Int) - 1 < (l.length : Int); omega) fun _ => Need.mk (by show ((l.length : Int) - 1).toNat < l.length; omega) fun _ => ?_
        refine Need.mk (by show fitStd .i64 (iA S i.toNat - rB l ((l.length : Int) - 1).toNat); rw [e3]; unfold fitStd; omega) fun _ => ?_
        refine Ife.mk (fun h1 => ?_) (fun h1 => ?_)
        · have h1 : iA S i.toNat - rB l ((l.length : Int) - 1).toNat < 2 := of_decide_eq_true (p := iA S i.toNat - rB l ((l.length : Int) - 1).toNat < 2) h1
          rw [e3] at h1
          refine Need.mk (by show 0 ≤ (l.length : Int) - 1 ∧ (l.length : Int) - 1 < (l.length : Int); omega) fun _ => Need.mk (by show ((l.length : Int) - 1).toNat < l.length; omega) fun _ => ?_
          refine Need.mk (by show fitStd .i64 (i + 1); unfold fitStd; omega) fun _ => ?_
          refine ⟨⟨i + 1, l.set (l.length - 1) (rA l (l.length - 1), iA S i.toNat), by omega, by omega, ?h2, ?h3, ?h4⟩, [0, 1, 2, 3], (by show n - (i + 1).toNat < n - i.toNat; omega), ?st⟩
          case h2 => rw [show (i + 1).toNat = i.toNat + 1 by omega, foldl_take (show i.toNat < S.length by omega), ← hl, step_set hv h0 h1]
          case h3 =>
            intro r hr
            rcases List.mem_or_eq_of_mem_set hr with h | h
            · exact hok r h
            · rw [h]; exact hb
          case h4 => rw [List.length_set]; omega
          case st =>
            refine ⟨rfl, by decide, ?_, ?_⟩
            · repeat' (first | exact trivial | exact rfl | apply And.intro)
            · repeat' (first | exact trivial | exact rfl | apply And.intro | (intro i hi; rfl))
              · simp
              · intro j hj
                have e3 : ((l.length : Int) - 1).toNat = l.length - 1 := by omega
                show upG (rgG l) ((l.length : Int) - 1).toNat 1 [.int .i64 (iA S i.toNat)] j = _
                rw [e3]
                exact upG_set (by omega) j (by simpa using hj)
        · have h1 : ¬ iA S i.toNat - rB l ((l.length : Int) - 1).toNat < 2 := of_decide_eq_false (p := iA S i.toNat - rB l ((l.length : Int) - 1).toNat < 2) h1
          rw [e3] at h1
          refine Need.mk (by show l.length + 1 ≤ maxLen ∧ (l.length + 1) * 16 ≤ 140737488355328; unfold maxLen; omega) fun _ => ?_
          refine Need.mk (by show fitStd .i64 (i + 1); unfold fitStd; omega) fun _ => ?_
          refine ⟨⟨i + 1, l ++ [(iA S i.toNat, iA S i.toNat)], by omega, by omega, ?h2, ?h3, ?h4⟩, [0, 1, 2, 5], (by show n - (i + 1).toNat < n - i.toNat; omega), ?st⟩
          case h2 => rw [show (i + 1).toNat = i.toNat + 1 by omega, foldl_take (show i.toNat < S.length by omega), ← hl, step_push hv (fun h => h1 h.2)]
          case h3 =>
            intro r hr
            rcases List.mem_append.1 hr with h | h
            · exact hok r h
            · rw [List.mem_singleton.1 h]; exact hb
          case h4 => rw [List.length_append]; show ((l.length + 1 : Nat) : Int) ≤ _; omega
          case st =>
            refine ⟨rfl, by decide, ?_, ?_⟩
            · repeat' (first | exact trivial | exact rfl | apply And.intro)
            · repeat' (first | exact trivial | exact rfl | apply And.intro | (intro i hi; rfl))
              · simp
              · intro j hj
                exact rgG_push l (iA S i.toNat, iA S i.toNat) j (by simpa using hj)
      · have h : ¬ 0 ≤ (l.length : Int) - 1 := of_decide_eq_false (p := 0 ≤ (l.length : Int) - 1) h
        refine Need.mk (by show l.length + 1 ≤ maxLen ∧ (l.length + 1) * 16 ≤ 140737488355328; unfold maxLen; omega) fun _ => ?_
        refine Need.mk (by show fitStd .i64 (i + 1); unfold fitStd; omega) fun _ => ?_
        refine ⟨⟨i + 1, l ++ [(iA S i.toNat, iA S i.toNat)], by omega, by omega, ?h2, ?h3, ?h4⟩, [0, 1, 2, 5], (by show n - (i + 1).toNat < n - i.toNat; omega), ?st⟩
        case h2 => rw [show (i + 1).toNat = i.toNat + 1 by omega, foldl_take (show i.toNat < S.length by omega), ← hl, step_push hv (fun h2 => by omega)]
        case h3 =>
          intro r hr
          rcases List.mem_append.1 hr with h | h
          · exact hok r h
          · rw [List.mem_singleton.1 h]; exact hb
        case h4 => rw [List.length_append]; show ((l.length + 1 : Nat) : Int) ≤ _; omega
        case st =>
          refine ⟨rfl, by decide, ?_, ?_⟩
          · repeat' (first | exact trivial | exact rfl | apply And.intro)
          · repeat' (first | exact trivial | exact rfl | apply And.intro | (intro i hi; rfl))
            · simp
            · intro j hj
              exact rgG_push l (iA S i.toNat, iA S i.toNat) j (by simpa using hj)
    · replace hlt : ¬ i < @Nat.cast Int instNatCastInt n := of_decide_eq_false (p := i < (n : Int)) hlt
      rw [show ofL S = l by rw [hl, List.take_of_length_le (show S.length ≤ i.toNat by omega)]; rfl]
      exact ⟨[0, 3], ⟨rfl, rfl, (by show List.Nodup [3]; decide), rfl, by repeat' (first | exact trivial | exact rfl | apply And.intro | (intro i hi; rfl) | (intro i hi; exact absurd hi (Nat.not_lt_zero _)))⟩⟩

end Go.Proofs.Ytonkpggnlkkghaa.Vx
