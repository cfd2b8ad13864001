/- Ranges of numbers: Lacks, Of, by the walker. -/
import Derived.Test.YtcgoaicifjndpaaM16
import Derived.Shelf.SlicesQ.IndexFunc
import Derived.WalkKit
import Derived.Test.YtcgoaicifjndpaaM13
section
namespace Go.Proofs.Ytcgoaicifjndpaa.Vx
open Go.RowKit Span
set_option linter.unusedVariables false
set_option linter.unusedSimpArgs false
def imin (a b : Int) : Int := min a b
def imax (a b : Int) : Int := max a b
structure LOf (S : List Int) (n : Nat) where
  i : Int
  l : List Rg
  h0 : 0 ≤ i
  h1 : i ≤ (n : Int)
  h2 : l = (S.take i.toNat).foldl Span.step []
  h3 : ∀ r ∈ l, 0 ≤ r.2 ∧ r.2 ≤ 72057594037927935
  h4 : (l.length : Int) ≤ i
theorem last_mem {l : List Rg} (h : 0 < l.length) : l.getD (l.length - 1) (0, 0) ∈ l := by
  rw [List.getD_eq_getElem?_getD, List.getElem?_eq_getElem (by omega)]
  exact List.getElem_mem (by omega)
theorem step_no {l : List Rg} {v : Int} (h : mayN v = false) : Span.step l v = l := by unfold Span.step; rw [h]; rfl
theorem step_set {l : List Rg} {v : Int} (h : mayN v = true) (h0 : 0 < l.length) (h1 : v - rB l (l.length - 1) < 2) : Span.step l v = l.set (l.length - 1) (rA l (l.length - 1), v) := by
  unfold Span.step
  rw [if_pos h, if_pos ⟨h0, h1⟩]
  rfl
theorem step_push {l : List Rg} {v : Int} (h : mayN v = true) (h1 : ¬ (0 < l.length ∧ v - rB l (l.length - 1) < 2)) : Span.step l v = l ++ [(v, v)] := by
  unfold Span.step
  rw [if_pos h, if_neg (show ¬ (0 < l.length ∧ v - (l.getD (l.length - 1) (0, 0)).2 < 2) from h1)]
theorem foldl_take {S : List Int} {i : Nat} (hi : i < S.length) : (S.take (i + 1)).foldl Span.step [] = Span.step ((S.take i).foldl Span.step []) (iA S i) := by
  rw [take_succ' S hi, List.foldl_append]
  show Span.step _ S[i] = _
  congr 1
  simp [iA, List.getD, hi]
theorem upG_set {l : List Rg} {j : Nat} {v : Int} (hj : j < l.length) (i : Nat) (hi : i < l.length) : upG (rgG l) j 1 [.int .i64 v] i = rgG (l.set j (rA l j, v)) i := by
  unfold upG
  by_cases h : i = j
  · subst h
    rw [show Nat.beq i i = true by simp]
    show setMany (rgG l i) 1 [.int .i64 v] = _
    unfold rgG rgGP rA rB
    simp [setMany, List.getD, hj]
  · rw [show Nat.beq i j = false by rw [Bool.eq_false_iff]; intro h2; exact h (by simpa using h2)]
    unfold rgG rgGP rA rB
    simp [List.getD, List.getElem?_set_ne (Ne.symm h)]
def sLacks : SpecF
  | [.c (.row 0), .c (.int .i64 a), .c (.int .i64 b)], [.elems ty one n get] => some (rgPre ty one n get, .c (.row 1), [.dead, .row 111 2 (lacksL (rgL n get) a b).length (rgG (lacksL (rgL n get) a b))])
  | _, _ => none

set_option maxRecDepth 100000 in
set_option maxHeartbeats 8000000 in
theorem lacksP : Fn Try.prog 30 [] [(111, 2)] sLacks := by
  have hC : CtsOk Try.prog [(21, appFn [] [(111, 2)] sGood)] := CtsOk.cons (Fn.ct goodP) <| CtsOk.nil _
  refine Fn.of (E := tbG) [] 0 [] tbG_ok hC (by kernel_rfl) Try.func30 rfl rfl rfl (by kernel_rfl) (by kernel_rfl) 1 111 2 ?_ ?_
  · intro args h pre r h' hs
    unfold sLacks at hs
    split at hs
    · cases hs; exact ⟨rfl, rfl, Nat.le_of_ble_eq_true rfl⟩
    · cases hs
  · intro args h pre r h' hs hp
    unfold sLacks at hs
    split at hs
    rotate_left
    · cases hs
    rename_i a b ty one n get
    cases hs
    obtain ⟨rfl, rfl, hst, hm⟩ := hp
    refine ⟨[.elems 111 2 n (rgG (rgL n get))], hst.same, ?_⟩
    have hL : (rgL n get).length = n := rgL_len
    generalize rgL n get = L at hL ⊢
    have eL : rgL n (rgG L) = L := by rw [← hL]; exact rgL_rgG L
    unfold sGood
    generalize hL : lft Try.prog _ = L
    try unfold rgG
    generalize ho0 : @rA = zo0, ho1 : @rB = zo1, ho2 : @rgL = zo2, ho3 : @good = zo3, ho4 : @lacksL = zo4, ho5 : @lkGo = zo5, ho6 : @lkEnd = zo6, ho7 : @rgPre = zo7, ho8 : @imin = zo8, ho9 : @imax = zo9
    generalize hA : Arith.std = A
    cbv
    subst hA hL ho0 ho1 ho2 ho3 ho4 ho5 ho6 ho7 ho8 ho9
    refine Need.mk ⟨rfl, rfl, rgAt_rgG n L, hm⟩ fun _ => ?_
    refine Ife.mk (fun h => ?_) (fun h => ?_)
    · have h : good (rgL n (rgG L)) = false := by
        have h6 : (!good (rgL n (rgG L))) = true := h
        simpa using h6
      rw [eL] at h
      rw [show lacksL L a b = [] by unfold lacksL; rw [h]; rfl]
      exact ⟨[0, 2], ⟨rfl, rfl, (by show List.Nodup [2]; decide), rfl, by repeat' (first | exact trivial | exact rfl | apply And.intro | (intro i hi; rfl) | (intro i hi; exact absurd hi (Nat.not_lt_zero _)))⟩⟩
    have hg : good (rgL n (rgG L)) = true := by
      have h6 : (!good (rgL n (rgG L))) = false := h
      simpa using h6
    rw [eL] at hg
    rw [show lacksL L a b = (lkGo L (imax a 0) (imin b 72057594037927935)).1 ++ lkEnd (lkGo L (imax a 0) (imin b 72057594037927935)).2 (imin b 72057594037927935) by unfold lacksL; rw [hg]; rfl]
    refine Runs.nilTmp 7 111 2 (rgG []) rfl ?_
    show Runs Try.prog 1 (.loop _) _ _
    refine loop_ruleR (N := env (lft Try.prog 1) 0 .std tbG [(21, appFn [] [(111, 2)] sGood)] []) rfl tbG_ok hC (fun c st K _ h => h) (by kernel_rfl) [] (X := LLk L n (imax a 0) (imin b 72057594037927935))
      (S := fun x => ⟨[.c (.row 0), .c (.int .i64 x.a), .c (.int .i64 (imin b 72057594037927935)), .any, .any, .any, .any, .c (.row 2), .any, .any, .any, .any, .any, .any, .any, .any, .any, .c (.row 0), .c (.int .i64 n), .c (.int .i64 x.i)] ++ List.replicate 38 .any, [.elems 111 2 n (rgG L), .dead, .row 111 2 x.l.length (rgG x.l)]⟩) (μ := fun x => n - x.i.toNat) ⟨0, imax a 0, [], by omega, by omega, rfl, (by show 0 ≤ max a 0; omega), (by show (0 : Int) ≤ 0; omega)⟩ (by kernel_rfl) [0, 1, 2] ?_ ?_
    · refine ⟨rfl, by decide, ?_, ?_⟩ <;> repeat' (first | exact trivial | exact rfl | apply And.intro | (intro i hi; rfl) | (intro i hi; exact absurd hi (Nat.not_lt_zero _)))
    rintro ⟨i, c, l, hi0, hin, hl, hc, hll⟩
    unfold sGood
    generalize hg0 : (List.length : List Rg → Nat) = g0
    generalize hL : lft Try.prog _ = L
    try dsimp only
    try unfold rgG
    generalize ho0 : @rA = zo0, ho1 : @rB = zo1, ho2 : @rgL = zo2, ho3 : @good = zo3, ho4 : @lacksL = zo4, ho5 : @lkGo = zo5, ho6 : @lkEnd = zo6, ho7 : @rgPre = zo7, ho8 : @imin = zo8, ho9 : @imax = zo9
    generalize hA : Arith.std = A
    cbv
    subst hA hg0 hL ho0 ho1 ho2 ho3 ho4 ho5 ho6 ho7 ho8 ho9
    replace hi0 : 0 ≤ i := hi0
    replace hin : i ≤ @Nat.cast Int instNatCastInt n := hin
    replace hl : lkGo L (imax a 0) (imin b 72057594037927935) = (l ++ (lkGo (L.drop i.toNat) c (imin b 72057594037927935)).1, (lkGo (L.drop i.toNat) c (imin b 72057594037927935)).2) := hl
    replace hc : 0 ≤ c := hc
    replace hll : @Nat.cast Int instNatCastInt l.length ≤ i := hll
    refine Ife.mk (fun hlt => ?_) (fun hlt => ?_)
    · replace hlt : i < @Nat.cast Int instNatCastInt n := of_decide_eq_true (p := i < (n : Int)) hlt
      have hg1 := good_take hg (i := i.toNat) (by omega)
      repeat refine Need.mk (by first | exact trivial | (simp only [Arith.std, fitStd]; omega) | (simp [Arith.std, fitStd]; omega)) fun _ => ?_
      refine Ife.mk (fun h1 => ?_) (fun h1 => ?_)
      · have h1 : c < rA L i.toNat := of_decide_eq_true (p := c < rA L i.toNat) h1
        refine Ife.mk (fun h2 => ?_) (fun h2 => ?_)
        · have h2 : c ≤ imin b 72057594037927935 := of_decide_eq_true (p := c ≤ imin b 72057594037927935) h2
          refine Need.mk (by show fitStd .i64 (rA L i.toNat - 1); unfold fitStd; omega) fun _ => Need.mk (by show l.length + 1 ≤ maxLen ∧ (l.length + 1) * 16 ≤ 140737488355328; unfold maxLen; omega) fun _ => ?_
          refine Need.mk (by show fitStd .i64 (rB L i.toNat + 1); unfold fitStd; omega) fun _ => Need.mk (by show fitStd .i64 (i + 1); unfold fitStd; omega) fun _ => ?_
          refine ⟨⟨i + 1, max c (rB L i.toNat + 1), l ++ [(c, min (rA L i.toNat - 1) (imin b 72057594037927935))], by omega, by omega, ?h2, by omega, ?h4⟩, [0, 1, 5], (by show n - (i + 1).toNat < n - i.toNat; omega), ?st⟩
          case h2 => rw [show (i + 1).toNat = i.toNat + 1 by omega, hl, lkGo_drop (show i.toNat < L.length by omega), if_pos ⟨h1, h2⟩]; rw [← List.append_assoc]
          case h4 => rw [List.length_append]; show ((l.length + 1 : Nat) : Int) ≤ _; omega
          case st =>
            refine ⟨rfl, by decide, ?_, ?_⟩
            · repeat' (first | exact trivial | exact rfl | apply And.intro)
            · repeat' (first | exact trivial | exact rfl | apply And.intro)
              · simp
              · intro j hj
                exact rgG_push l (c, min (rA L i.toNat - 1) (imin b 72057594037927935)) j (by simpa using hj)
        · have h2 : ¬ c ≤ imin b 72057594037927935 := of_decide_eq_false (p := c ≤ imin b 72057594037927935) h2
          refine Need.mk (by show fitStd .i64 (rB L i.toNat + 1); unfold fitStd; omega) fun _ => Need.mk (by show fitStd .i64 (i + 1); unfold fitStd; omega) fun _ => ?_
          refine ⟨⟨i + 1, max c (rB L i.toNat + 1), l, by omega, by omega, ?h2, by omega, ?h4⟩, [0, 1, 2], (by show n - (i + 1).toNat < n - i.toNat; omega), ?st⟩
          case h2 => rw [show (i + 1).toNat = i.toNat + 1 by omega, hl, lkGo_drop (show i.toNat < L.length by omega), if_neg (fun h => h2 h.2)]; rw [List.nil_append]
          case h4 => omega
          case st => refine ⟨rfl, by decide, ?_, ?_⟩ <;> repeat' (first | exact trivial | exact rfl | apply And.intro | (intro i hi; rfl) | (intro i hi; exact absurd hi (Nat.not_lt_zero _)))
      · have h1 : ¬ c < rA L i.toNat := of_decide_eq_false (p := c < rA L i.toNat) h1
        refine Need.mk (by show fitStd .i64 (rB L i.toNat + 1); unfold fitStd; omega) fun _ => Need.mk (by show fitStd .i64 (i + 1); unfold fitStd; omega) fun _ => ?_
        refine ⟨⟨i + 1, max c (rB L i.toNat + 1), l, by omega, by omega, ?h2, by omega, ?h4⟩, [0, 1, 2], (by show n - (i + 1).toNat < n - i.toNat; omega), ?st⟩
        case h2 => rw [show (i + 1).toNat = i.toNat + 1 by omega, hl, lkGo_drop (show i.toNat < L.length by omega), if_neg (fun h => h1 h.1)]; rw [List.nil_append]
        case h4 => omega
        case st => refine ⟨rfl, by decide, ?_, ?_⟩ <;> repeat' (first | exact trivial | exact rfl | apply And.intro | (intro i hi; rfl) | (intro i hi; exact absurd hi (Nat.not_lt_zero _)))
    · replace hlt : ¬ i < @Nat.cast Int instNatCastInt n := of_decide_eq_false (p := i < (n : Int)) hlt
      have e : lkGo L (imax a 0) (imin b 72057594037927935) = (l, c) := by rw [hl, List.drop_eq_nil_of_le (show L.length ≤ i.toNat by omega)]; simp [lkGo]
      rw [e]
      refine Ife.mk (fun h => ?_) (fun h => ?_)
      · have h : c ≤ imin b 72057594037927935 := of_decide_eq_true (p := c ≤ imin b 72057594037927935) h
        rw [show lkEnd (l, c).2 (imin b 72057594037927935) = [(c, imin b 72057594037927935)] by unfold lkEnd; rw [if_pos h]]
        refine Need.mk (by show l.length + 1 ≤ maxLen ∧ (l.length + 1) * 16 ≤ 140737488355328; unfold maxLen; omega) fun _ => ?_
        refine ⟨[0, 4], ⟨rfl, rfl, (by show List.Nodup [4]; decide), rfl, ?_⟩⟩
        repeat' (first | exact trivial | exact rfl | apply And.intro)
        · simp
        · intro j hj
          exact rgG_push l (c, imin b 72057594037927935) j (by simpa using hj)
      · have h : ¬ c ≤ imin b 72057594037927935 := of_decide_eq_false (p := c ≤ imin b 72057594037927935) h
        rw [show lkEnd (l, c).2 (imin b 72057594037927935) = [] by unfold lkEnd; rw [if_neg h], List.append_nil]
        exact ⟨[0, 2], ⟨rfl, rfl, (by show List.Nodup [2]; decide), rfl, by repeat' (first | exact trivial | exact rfl | apply And.intro | (intro i hi; rfl) | (intro i hi; exact absurd hi (Nat.not_lt_zero _)))⟩⟩

def sOf : SpecF
  | [.c (.row 0)], [.elems ty one n get] => some (inPre ty one n get, .c (.row 1), [.dead, .row 111 2 (ofL (srt (iL n get))).length (rgG (ofL (srt (iL n get))))])
  | _, _ => none

set_option maxRecDepth 100000 in
set_option maxHeartbeats 8000000 in
theorem ofP : Fn Try.prog 19 [] [(3, 1)] sOf := by
  have hC : CtsOk Try.prog [(74, appFn [] [(3, 1)] sCloneI), (75, appSort), (76, appPure sMayN)] := CtsOk.cons (Fn.ct cloneIP) <| CtsOk.cons (sortCt) <| CtsOk.cons (Pure.ct mayNP) <| CtsOk.nil _
  refine Fn.of (E := tbG) [] 0 [] tbG_ok hC (by kernel_rfl) Try.func19 rfl rfl rfl (by kernel_rfl) (by kernel_rfl) 1 111 2 ?_ ?_
  · intro args h pre r h' hs
    unfold sOf at hs
    split at hs
    · cases hs; exact ⟨rfl, rfl, Nat.le_of_ble_eq_true rfl⟩
    · cases hs
  · intro args h pre r h' hs hp
    unfold sOf at hs
    split at hs
    rotate_left
    · cases hs
    rename_i ty one n get
    cases hs
    obtain ⟨rfl, rfl, hst, hm⟩ := hp
    refine ⟨[.elems 3 1 n (inG (iL n get))], hst.same, ?_⟩
    have hZ : (iL n get).length = n := iL_len
    generalize iL n get = Z at hZ ⊢
    have eZ : iL n (inG Z) = Z := by rw [← hZ]; exact iL_inG Z
    unfold sCloneI sMayN
    generalize hL : lft Try.prog _ = L
    try unfold appSort
    try unfold rgG
    try unfold inG
    generalize ho0 : @rA = zo0, ho1 : @rB = zo1, ho2 : @mayN = zo2, ho3 : @ofL = zo3, ho4 : @Span.step = zo4, ho5 : @iL = zo5, ho6 : @srt = zo6, ho7 : @iA = zo7, ho8 : @inPre = zo8, ho9 : @sortPre = zo9
    generalize hA : Arith.std = A
    cbv
    subst hA hL ho0 ho1 ho2 ho3 ho4 ho5 ho6 ho7 ho8 ho9
    refine Need.mk ⟨rfl, rfl, inAt_inG n Z, hm⟩ fun _ => Need.mk ⟨inAt_inG n _, hm⟩ fun _ => ?_
    rw [eZ, eZ]
    have hS : (srt Z).length = n := by rw [srt_len, hZ]
    generalize srt Z = S at hS ⊢
    refine Runs.nilTmp 4 111 2 (rgG []) rfl ?_
    show Runs Try.prog 1 (.loop _) _ _
    refine loop_ruleR (N := env (lft Try.prog 1) 0 .std tbG [(74, appFn [] [(3, 1)] sCloneI), (75, appSort), (76, appPure sMayN)] []) rfl tbG_ok hC (fun c st K _ h => h) (by kernel_rfl) [] (X := LOf S n)
      (S := fun x => ⟨[.c (.row 0), .any, .any, .c (.row 2), .c (.row 3), .any, .any, .any, .any, .any, .any, .any, .c (.row 2), .c (.int .i64 n), .c (.int .i64 x.i)] ++ List.replicate 36 .any, [.elems 3 1 n (inG Z), .dead, .row 3 1 n (inG S), .row 111 2 x.l.length (rgG x.l)]⟩) (μ := fun x => n - x.i.toNat) ⟨0, [], by omega, by omega, by simp, (fun r hr => by simp at hr), (by show (0 : Int) ≤ 0; omega)⟩ (by kernel_rfl) [0, 1, 2, 3] ?_ ?_
    · refine ⟨rfl, by decide, ?_, ?_⟩ <;> repeat' (first | exact trivial | exact rfl | apply And.intro | (intro i hi; rfl) | (intro i hi; exact absurd hi (Nat.not_lt_zero _)))
    rintro ⟨i, l, hi0, hin, hl, hok, hll⟩
    unfold sMayN
    generalize hg0 : (List.length : List Rg → Nat) = g0
    generalize hL : lft Try.prog _ = L
    try dsimp only
    try unfold appSort
    try unfold rgG
    try unfold inG
    generalize ho0 : @rA = zo0, ho1 : @rB = zo1, ho2 : @mayN = zo2, ho3 : @ofL = zo3, ho4 : @Span.step = zo4, ho5 : @iL = zo5, ho6 : @srt = zo6, ho7 : @iA = zo7, ho8 : @inPre = zo8, ho9 : @sortPre = zo9
    generalize hA : Arith.std = A
    cbv
    subst hA hg0 hL ho0 ho1 ho2 ho3 ho4 ho5 ho6 ho7 ho8 ho9
    replace hi0 : 0 ≤ i := hi0
    replace hin : i ≤ @Nat.cast Int instNatCastInt n := hin
    replace hl : l = (S.take i.toNat).foldl Span.step [] := hl
    replace hll : @Nat.cast Int instNatCastInt l.length ≤ i := hll
    refine Ife.mk (fun hlt => ?_) (fun hlt => ?_)
    · replace hlt : i < @Nat.cast Int instNatCastInt n := of_decide_eq_true (p := i < (n : Int)) hlt
      refine Need.mk (by show 0 ≤ i ∧ i < (n : Int); omega) fun _ => Need.mk (by show i.toNat < n; omega) fun _ => ?_
      refine Need.mk (by show fitStd .i64 ((l.length : Int) - 1); unfold fitStd; omega) fun _ => Need.mk trivial fun _ => ?_
      refine Ife.mk (fun h => ?_) (fun h => ?_)
      · have hv : mayN (iA S i.toNat) = false := by
          have h6 : (!mayN (iA S i.toNat)) = true := h
          simpa using h6
        refine Need.mk (by show fitStd .i64 (i + 1); unfold fitStd; omega) fun _ => ?_
        refine ⟨⟨i + 1, l, by omega, by omega, ?h2, ?h3, ?h4⟩, [0, 1, 2, 3], (by show n - (i + 1).toNat < n - i.toNat; omega), ?st⟩
        case h2 => rw [show (i + 1).toNat = i.toNat + 1 by omega, foldl_take (show i.toNat < S.length by omega), ← hl, step_no hv]
        case h3 => exact hok
        case h4 => omega
        case st => refine ⟨rfl, by decide, ?_, ?_⟩ <;> repeat' (first | exact trivial | exact rfl | apply And.intro | (intro i hi; rfl) | (intro i hi; exact absurd hi (Nat.not_lt_zero _)))
      have hv : mayN (iA S i.toNat) = true := by
        have h6 : (!mayN (iA S i.toNat)) = false := h
        simpa using h6
      have hb := mayN_iff.1 hv
      refine Ife.mk (fun h => ?_) (fun h => ?_)
      · have h : 0 ≤ (l.length : Int) - 1 := of_decide_eq_true (p := 0 ≤ (l.length : Int) - 1) h
        have h0 : 0 < l.length := by omega
        have e3 : ((l.length : Int) - 1).toNat = l.length - 1 := by omega
        have hb2 : 0 ≤ rB l (l.length - 1) ∧ rB l (l.length - 1) ≤ 72057594037927935 := hok _ (last_mem h0)
        refine Need.mk (by show 0 ≤ (l.length : Int) - 1 ∧ (l.length : Int) - 1 < (l.length : Int); omega) fun _ => Need.mk (by show ((l.length : Int) - 1).toNat < l.length; omega) fun _ => ?_
        refine Need.mk (by show fitStd .i64 (iA S i.toNat - rB l ((l.length : Int) - 1).toNat); rw [e3]; unfold fitStd; omega) fun _ => ?_
        refine Ife.mk (fun h1 => ?_) (fun h1 => ?_)
        · have h1 : iA S i.toNat - rB l ((l.length : Int) - 1).toNat < 2 := of_decide_eq_true (p := iA S i.toNat - rB l ((l.length : Int) - 1).toNat < 2) h1
          rw [e3] at h1
          refine Need.mk (by show 0 ≤ (l.length : Int) - 1 ∧ (l.length : Int) - 1 < (l.length : Int); omega) fun _ => Need.mk (by show ((l.length : Int) - 1).toNat < l.length; omega) fun _ => ?_
          refine Need.mk (by show fitStd .i64 (i + 1); unfold fitStd; omega) fun _ => ?_
          refine ⟨⟨i + 1, l.set (l.length - 1) (rA l (l.length - 1), iA S i.toNat), by omega, by omega, ?h2, ?h3, ?h4⟩, [0, 1, 2, 3], (by show n - (i + 1).toNat < n - i.toNat; omega), ?st⟩
          case h2 => rw [show (i + 1).toNat = i.toNat + 1 by omega, foldl_take (show i.toNat < S.length by omega), ← hl, step_set hv h0 h1]
          case h3 =>
            intro r hr
            rcases List.mem_or_eq_of_mem_set hr with h | h
            · exact hok r h
            · rw [h]; exact hb
          case h4 => rw [List.length_set]; omega
          case st =>
            refine ⟨rfl, by decide, ?_, ?_⟩
            · repeat' (first | exact trivial | exact rfl | apply And.intro)
            · repeat' (first | exact trivial | exact rfl | apply And.intro | (intro i hi; rfl))
              · simp
              · intro j hj
                have e3 : ((l.length : Int) - 1).toNat = l.length - 1 := by omega
                show upG (rgG l) ((l.length : Int) - 1).toNat 1 [.int .i64 (iA S i.toNat)] j = _
                rw [e3]
                exact upG_set (by omega) j (by simpa using hj)
        · have h1 : ¬ iA S i.toNat - rB l ((l.length : Int) - 1).toNat < 2 := of_decide_eq_false (p := iA S i.toNat - rB l ((l.length : Int) - 1).toNat < 2) h1
          rw [e3] at h1
          refine Need.mk (by show l.length + 1 ≤ maxLen ∧ (l.length + 1) * 16 ≤ 140737488355328; unfold maxLen; omega) fun _ => ?_
          refine Need.mk (by show fitStd .i64 (i + 1); unfold fitStd; omega) fun _ => ?_
          refine ⟨⟨i + 1, l ++ [(iA S i.toNat, iA S i.toNat)], by omega, by omega, ?h2, ?h3, ?h4⟩, [0, 1, 2, 5], (by show n - (i + 1).toNat < n - i.toNat; omega), ?st⟩
          case h2 => rw [show (i + 1).toNat = i.toNat + 1 by omega, foldl_take (show i.toNat < S.length by omega), ← hl, step_push hv (fun h => h1 h.2)]
          case h3 =>
            intro r hr
            rcases List.mem_append.1 hr with h | h
            · exact hok r h
            · rw [List.mem_singleton.1 h]; exact hb
          case h4 => rw [List.length_append]; show ((l.length + 1 : Nat) : Int) ≤ _; omega
          case st =>
            refine ⟨rfl, by decide, ?_, ?_⟩
            · repeat' (first | exact trivial | exact rfl | apply And.intro)
            · repeat' (first | exact trivial | exact rfl | apply And.intro | (intro i hi; rfl))
              · simp
              · intro j hj
                exact rgG_push l (iA S i.toNat, iA S i.toNat) j (by simpa using hj)
      · have h : ¬ 0 ≤ (l.length : Int) - 1 := of_decide_eq_false (p := 0 ≤ (l.length : Int) - 1) h
        refine Need.mk (by show l.length + 1 ≤ maxLen ∧ (l.length + 1) * 16 ≤ 140737488355328; unfold maxLen; omega) fun _ => ?_
        refine Need.mk (by show fitStd .i64 (i + 1); unfold fitStd; omega) fun _ => ?_
        refine ⟨⟨i + 1, l ++ [(iA S i.toNat, iA S i.toNat)], by omega, by omega, ?h2, ?h3, ?h4⟩, [0, 1, 2, 5], (by show n - (i + 1).toNat < n - i.toNat; omega), ?st⟩
        case h2 => rw [show (i + 1).toNat = i.toNat + 1 by omega, foldl_take (show i.toNat < S.length by omega), ← hl, step_push hv (fun h2 => by omega)]
        case h3 =>
          intro r hr
          rcases List.mem_append.1 hr with h | h
          · exact hok r h
          · rw [List.mem_singleton.1 h]; exact hb
        case h4 => rw [List.length_append]; show ((l.length + 1 : Nat) : Int) ≤ _; omega
        case st =>
          refine ⟨rfl, by decide, ?_, ?_⟩
          · repeat' (first | exact trivial | exact rfl | apply And.intro)
          · repeat' (first | exact trivial | exact rfl | apply And.intro | (intro i hi; rfl))
            · simp
            · intro j hj
              exact rgG_push l (iA S i.toNat, iA S i.toNat) j (by simpa using hj)
    · replace hlt : ¬ i < @Nat.cast Int instNatCastInt n := of_decide_eq_false (p := i < (n : Int)) hlt
      rw [show ofL S = l by rw [hl, List.take_of_length_le (show S.length ≤ i.toNat by omega)]; rfl]
      exact ⟨[0, 3], ⟨rfl, rfl, (by show List.Nodup [3]; decide), rfl, by repeat' (first | exact trivial | exact rfl | apply And.intro | (intro i hi; rfl) | (intro i hi; exact absurd hi (Nat.not_lt_zero _)))⟩⟩

end Go.Proofs.Ytcgoaicifjndpaa.Vx
end

section
/- Has: whether a number is in one of the ranges: slices.ContainsFunc with a function that holds a number. -/
namespace Go.Proofs.Ytcgoaicifjndpaa
open Go.Shelf Go.RowKit Go.Lib Span
set_option linter.unusedVariables false
set_option linter.unusedSimpArgs false
def cfRen : Go.Shelf.Ren := ⟨fun | 6 => 139 | 8 => 79 | n => n, fun | 0 => 0 | 3 => 3 | 4 => 4 | 22 => 25 | 23 => 111 | 25 => 118 | n => n, fun | n => n⟩
theorem cfLays : Go.Proofs.SlLaysH0.n8 Try.prog cfRen := {
  mixed := by kernel_rfl
  f6 := ⟨Try.f139.name, by decide, Try.func139.trans (congrArg some (by kernel_rfl))⟩
  f8 := ⟨Try.f79.name, by decide, Try.func79.trans (congrArg some (by kernel_rfl))⟩
  t0 := Try.underlying0
  a0 := Try.isAgg0
  z0 := Try.sizeOf0
  v0 := Try.zeroValue0
  t3 := Try.underlying3
  a3 := Try.isAgg3
  z3 := Try.sizeOf3
  v3 := Try.zeroValue3
  t4 := Try.underlying4
  a4 := Try.isAgg4
  z4 := Try.sizeOf4
  v4 := Try.zeroValue4
  t22 := Try.underlying25
  a22 := Try.isAgg25
  z22 := Try.sizeOf25
  v22 := Try.zeroValue25
  t25 := Try.underlying118
  a25 := Try.isAgg118
  z25 := Try.sizeOf118
  v25 := Try.zeroValue118 }
def encRg (x : Int × Int) : List Value := [.int .i64 x.1, .int .i64 x.2]
def inRg (n : Int) (x : Int × Int) : Bool := decide (x.1 ≤ n) && decide (n ≤ x.2)
theorem hasPred (n : Int) (B : Nat) (w : World) (hB : B < w.heap.size) (hcell : w.cell? ⟨B, 0, none⟩ = some (.int .i64 n)) :
    PredBelow Try.prog 80 #[.pointer (some ⟨B, 0, none⟩)] (fun x => .agg (encRg x).toArray) (inRg n) w := fun W x hb => by
  have hc : W.cell? ⟨B, 0, none⟩ = some (.int .i64 n) := (hb.cell (p := ⟨B, 0, none⟩) hB).trans hcell
  have hBW : B < W.heap.size := Nat.lt_of_lt_of_le hB hb.size
  have hne : B ≠ W.heap.size := by omega
  have e : inRg n x = (decide (x.1 ≤ n) && decide (n ≤ x.2)) := rfl
  generalize inRg n x = r at e ⊢
  show Calls Try.prog 80 #[.agg #[.int .i64 x.1, .int .i64 x.2], .pointer (some ⟨B, 0, none⟩)] W _
  go_enter Try.func80, Try.ntmps80
  go_wp2
  all_goals (go_ret; exact ⟨by first | (simp_all; done) | (simp_all; omega), hb.alloc hb.size _⟩)
set_option maxHeartbeats 1000000 in
theorem ixEmpty (a : Option Addr) (c : Nat) (fv : Value) (w : World) :
    Calls Try.prog 139 #[.slice a 0 c, fv] w fun e w' => e = .returned (.int .i64 (-1)) ∧ w' = w := by
  go_enter Try.func139, Try.ntmps139
  go_wp2
  go_loopg [5, 8] 0 (fun _ _ s8 wr => s8 = .int .i64 0 ∧ wr = w)
  case atStart => exact ⟨rfl, rfl⟩
  case round =>
    obtain ⟨rfl, rfl⟩ := hrel
    go_wp2
    go_ret
    exact ⟨rfl, rfl⟩
set_option maxHeartbeats 1000000 in
theorem cfEmpty (a : Option Addr) (c : Nat) (fv : Value) (w : World) :
    Calls Try.prog 79 #[.slice a 0 c, fv] w fun e w' => e = .returned (.bool false) ∧ w' = w := by
  go_enter Try.func79, Try.ntmps79
  go_wp2_with (go_at_call 139; refine (ixEmpty a c fv _).mono ?_; rintro e w' ⟨rfl, rfl⟩)
  go_ret
  exact ⟨rfl, rfl⟩
set_option maxHeartbeats 1000000 in
theorem hasEmpty (a : Option Addr) (c : Nat) (n : Int) (w : World) :
    Calls Try.prog 25 #[.slice a 0 c, .int .i64 n] w fun e w' => e = .returned (.bool false) ∧ Below w.heap.size w w' := by
  go_enter Try.func25, Try.ntmps25
  go_wp2_with (go_at_call 79; refine (cfEmpty _ _ _ _).mono ?_; rintro e w' ⟨rfl, rfl⟩)
  go_ret
  exact ⟨rfl, (Below.refl _ w).alloc (Nat.le_refl _) _⟩
set_option maxHeartbeats 1000000 in
theorem hasWalk (b off m c : Nat) (zs : List (Int × Int)) (n : Int) (w : World) (hz : m ≤ zs.length) (hbig : m ≤ 9223372036854775807) (hb : b < w.heap.size)
    (hc : ∀ j, j < zs.length → w.cell? ⟨b, off + j * 2, none⟩ = some (.int .i64 zs[j]!.1) ∧ w.cell? ⟨b, off + j * 2 + 1, none⟩ = some (.int .i64 zs[j]!.2)) :
    Calls Try.prog 25 #[.slice (some ⟨b, off, none⟩) m c, .int .i64 n] w fun e w' => e = .returned (.bool ((zs.take m).any (inRg n))) ∧ Below w.heap.size w w' := by
  have eg : ∀ args w, (callFunc 80 args).run Try.prog w = .ok (.enter 80 args) w := enters_of Try.func80 (by kernel_rfl) rfl
  have hcon := AnyQ.slices_ContainsFunc cfLays 2 Try.isAgg111 Try.sizeOf111 encRg (fun _ => rfl) (inRg n) 80 #[.pointer (some ⟨w.heap.size, 0, none⟩)] eg b off m c zs (w.alloc (.cells #[.int .i64 n] 3))
    (hasPred n w.heap.size _ (by simp) (by simp)) hz hbig (by simp; omega) (fun j hj i v hi => by
      refine Lib.cell?_alloc_some _ ?_
      have h1 := hc j hj
      generalize zs[j]! = y at hi h1
      match i, hi with
      | 0, hi => simp [encRg] at hi; rw [← hi]; exact h1.1
      | 1, hi => simp [encRg] at hi; rw [← hi]; exact h1.2
      | i + 2, hi => simp [encRg] at hi)
  change Calls Try.prog 79 _ _ _ at hcon
  clear hc
  generalize (zs.take m).any (inRg n) = r at hcon ⊢
  go_enter Try.func25, Try.ntmps25
  go_wp2_with (go_at_call 79; refine hcon.mono ?_; rintro e w' ⟨rfl, hb'⟩)
  go_ret
  exact ⟨rfl, ((Below.refl _ w).alloc (Nat.le_refl _) _).trans (hb'.mono (by simp))⟩
namespace Vx
def hasL (l : List Rg) (n : Int) : Bool := l.any (inRg n)
def sHas : SpecF
  | [.c (.row 0), .c (.int .i64 x)], [.elems ty one n get] => some (rgPre ty one n get, .c (.bool (hasL (rgL n get) x)), [.dead])
  | _, _ => none
theorem hasP : Fn Try.prog 25 [] [(111, 2)] sHas := by
  refine Fn.plain (by kernel_rfl) (fun args h pre res h' hs => ?_) fun args h pre res h' hs hp ρ W us rel hus => ?_
  · unfold sHas at hs
    split at hs
    · cases hs; exact ⟨rfl, Nat.le_refl _⟩
    · cases hs
  · unfold sHas at hs
    split at hs
    rotate_left
    · cases hs
    rename_i x ty one n get
    cases hs
    obtain ⟨rfl, rfl, hst, hn⟩ := hp
    obtain ⟨v, us', rfl, hv, u2, us2, rfl, hu2, hus'⟩ := hus
    cases hus'
    obtain rfl : .int .i64 x = u2 := Option.some.inj hu2
    obtain ⟨p, hpl, hok⟩ := rel.place (k := 0) rfl
    obtain ⟨q, hq, hvq⟩ := den_row hv
    rw [hpl] at hq
    obtain rfl := Option.some.inj hq
    subst hvq
    obtain ⟨⟨a, cap, hpv, hcap, ha⟩, hcells⟩ := hok
    have hzl : (rgL n get).length = n := rgL_len
    have fin : ∀ (b : Bool) (W' : World), b = hasL (rgL n get) x → Below W.heap.size W W' → ∃ ρ', (SV.c (.bool (hasL (rgL n get) x))).is (ρ ++ ρ') (.bool b) ∧ Rel W (Fps ρ [.elems 111 2 n get]) (ρ ++ ρ') [.dead] W' := fun b W' hb hbel => by
      refine ⟨[], by rw [hb]; rfl, ?_⟩
      rw [List.append_nil]
      refine (rel.belowStep hbel).forget (fun j e he => ?_) rfl
      cases j with
      | zero => left; exact (Option.some.inj he).symm
      | succ j => simp at he
    rw [hpv]
    rcases Nat.eq_zero_or_pos n with h0 | h0
    · subst h0
      refine Calls.mono (hasEmpty a cap x W) fun e W' he => ?_
      obtain ⟨rfl, hb⟩ := he
      obtain ⟨ρ', f1, f2⟩ := fin false W' (by
        have : rgL 0 get = [] := rfl
        rw [this]; rfl) hb
      exact ⟨_, ρ', rfl, f1, f2⟩
    · obtain rfl := ha h0
      have hlt : p.b < W.heap.size := (rel.ro (k := 0) rfl hpl rfl (by simp [Ent.dep, h0])).1
      have hcc : ∀ j, j < (rgL n get).length → W.cell? ⟨p.b, p.o + j * 2, none⟩ = some (.int .i64 (rgL n get)[j]!.1) ∧ W.cell? ⟨p.b, p.o + j * 2 + 1, none⟩ = some (.int .i64 (rgL n get)[j]!.2) := fun j hj => by
        obtain ⟨vs, h1, h2⟩ := hcells j (by omega)
        rw [hst.eq (show j < n by omega)] at h1
        obtain rfl : [Value.int .i64 (rA (rgL n get) j), Value.int .i64 (rB (rgL n get) j)] = vs := (show IsL [] (rgG (rgL n get) j) [.int .i64 (rA (rgL n get) j), .int .i64 (rB (rgL n get) j)] from rfl).unique h1
        have e : (rgL n get)[j]! = (rA (rgL n get) j, rB (rgL n get) j) := by
          unfold rA rB
          rw [List.getElem!_eq_getElem?_getD, List.getD_eq_getElem?_getD]
          rfl
        rw [e]
        exact ⟨by simpa using h2 0 _ rfl, by simpa using h2 1 _ rfl⟩
      refine Calls.mono (hasWalk p.b p.o n cap (rgL n get) x W (by omega) (by omega) hlt hcc) fun e W' he => ?_
      obtain ⟨rfl, hb⟩ := he
      rw [List.take_of_length_le (by omega)]
      obtain ⟨ρ', f1, f2⟩ := fin _ W' rfl hb
      exact ⟨_, ρ', rfl, f1, f2⟩
end Vx
end Go.Proofs.Ytcgoaicifjndpaa
end

section
/- Ranges of numbers: Add with its function value, by the walker. -/
namespace Go.Proofs.Ytcgoaicifjndpaa.Vx
open Go.RowKit Span
set_option linter.unusedVariables false
set_option linter.unusedSimpArgs false
def putPre (ty t sz n : Nat) (get : Nat → List CV) (a b : Int) : Prop := ty = 25 ∧ t = 111 ∧ sz = 2 ∧ RgAt n get ∧ n ≤ 2000000 ∧ (0 ≤ a ∧ a ≤ 72057594037927935) ∧ ∀ r ∈ rgL n get, 0 ≤ r.2 ∧ r.2 ≤ 72057594037927935
theorem putL_set {l : List Rg} {r : Rg} (h0 : 0 < l.length) (h1 : r.1 - rB l (l.length - 1) < 2) : putL l r = l.set (l.length - 1) (rA l (l.length - 1), r.2) := if_pos ⟨h0, h1⟩
theorem putL_app {l : List Rg} {r : Rg} (h1 : ¬ (0 < l.length ∧ r.1 - rB l (l.length - 1) < 2)) : putL l r = l ++ [r] := if_neg h1
def sPut : SpecF
  | [.agg [.int .i64 a, .int .i64 b], .c (.ptr 0 0)], [.cells ty [.row 1], .row t sz n get] => some (putPre ty t sz n get a b, .tup [], [.cells 25 [.row 2], .dead, .row 111 2 (putL (rgL n get) (a, b)).length (rgG (putL (rgL n get) (a, b)))])
  | _, _ => none

set_option maxRecDepth 100000 in
set_option maxHeartbeats 8000000 in
theorem putP : Fn Try.prog 78 [] [] sPut := by
  have hC : CtsOk Try.prog [] := CtsOk.nil _
  refine Fn.of (E := tbG) [] 0 [(2, [(0, true), (1, true), (2, true), (3, true), (4, true), (5, true), (6, true), (7, true), (8, true), (9, true), (10, true), (11, true), (12, true)])] tbG_ok hC (by kernel_rfl) Try.func78 rfl rfl rfl (by kernel_rfl) (by kernel_rfl) 2 111 2 ?_ ?_
  · intro args h pre r h' hs
    unfold sPut at hs
    split at hs
    · cases hs; exact ⟨rfl, rfl, Nat.le_of_ble_eq_true rfl⟩
    · cases hs
  · intro args h pre r h' hs hp
    unfold sPut at hs
    split at hs
    rotate_left
    · cases hs
    rename_i a b ty t sz n get
    cases hs
    obtain ⟨rfl, rfl, rfl, hst, hm, ha, hr⟩ := hp
    have hL : (rgL n get).length = n := rgL_len
    have hsm : ∀ i, i < n → get i = rgG (rgL n get) i := fun i hi => hst.eq hi
    refine ⟨[.cells 25 [.row 1], .row 111 2 n (rgG (rgL n get))], ⟨rfl, ⟨rfl, rfl, rfl, hsm⟩, trivial⟩, ?_⟩
    generalize rgL n get = l at hL hr ⊢
    clear hsm hst
    subst hL
    generalize hg0 : (List.length : List Rg → Nat) = g0
    try unfold rgG
    generalize ho0 : @rA = zo0, ho1 : @rB = zo1, ho2 : @rgL = zo2, ho3 : @putPre = zo3, ho4 : @putL = zo4
    generalize hA : Arith.std = A
    cbv
    subst hA hg0 ho0 ho1 ho2 ho3 ho4
    refine Need.mk (by show fitStd .i64 ((l.length : Int) - 1); unfold fitStd; omega) fun _ => ?_
    have push : ¬ (0 < l.length ∧ a - rB l (l.length - 1) < 2) → ∀ j, j < l.length + 1 → pushG l.length (rgG l) [.int .i64 a, .int .i64 b] j = rgG (putL l (a, b)) j := fun hno j hj => by rw [putL_app (r := (a, b)) hno]; exact rgG_push l (a, b) j hj
    have plen : ¬ (0 < l.length ∧ a - rB l (l.length - 1) < 2) → l.length + 1 = (putL l (a, b)).length := fun hno => by rw [putL_app (r := (a, b)) hno]; simp
    refine Ife.mk (fun h => ?_) (fun h => ?_)
    · have h : 0 ≤ (l.length : Int) - 1 := of_decide_eq_true (p := 0 ≤ (l.length : Int) - 1) h
      have h0 : 0 < l.length := by omega
      have e3 : ((l.length : Int) - 1).toNat = l.length - 1 := by omega
      have hb2 : 0 ≤ rB l (l.length - 1) ∧ rB l (l.length - 1) ≤ 72057594037927935 := hr _ (last_mem h0)
      refine Need.mk (by show 0 ≤ (l.length : Int) - 1 ∧ (l.length : Int) - 1 < (l.length : Int); omega) fun _ => Need.mk (by show ((l.length : Int) - 1).toNat < l.length; omega) fun _ => ?_
      refine Need.mk (by show fitStd .i64 (a - rB l ((l.length : Int) - 1).toNat); rw [e3]; unfold fitStd; omega) fun _ => ?_
      refine Ife.mk (fun h1 => ?_) (fun h1 => ?_)
      · have h1 : a - rB l ((l.length : Int) - 1).toNat < 2 := of_decide_eq_true (p := a - rB l ((l.length : Int) - 1).toNat < 2) h1
        rw [e3] at h1
        refine Need.mk (by show 0 ≤ (l.length : Int) - 1 ∧ (l.length : Int) - 1 < (l.length : Int); omega) fun _ => Need.mk (by show ((l.length : Int) - 1).toNat < l.length; omega) fun _ => ?_
        refine ⟨[0, 1, 1], ⟨rfl, (by exact trivial), (by show List.Nodup [0, 1]; decide), rfl, ?_⟩⟩
        repeat' (first | exact trivial | exact rfl | apply And.intro)
        · show l.length = (putL l (a, b)).length
          rw [putL_set (r := (a, b)) h0 h1, List.length_set]
        · intro j hj
          show upG (rgG l) ((l.length : Int) - 1).toNat 1 [.int .i64 b] j = rgG (putL l (a, b)) j
          have hjl : j < l.length := by
            have hj : j < (putL l (a, b)).length := hj
            rw [putL_set (r := (a, b)) h0 h1, List.length_set] at hj
            exact hj
          rw [e3, putL_set (r := (a, b)) h0 h1]
          exact upG_set (by omega) j hjl
      · have h1 : ¬ a - rB l ((l.length : Int) - 1).toNat < 2 := of_decide_eq_false (p := a - rB l ((l.length : Int) - 1).toNat < 2) h1
        rw [e3] at h1
        refine Need.mk (by show l.length + 1 ≤ maxLen ∧ (l.length + 1) * 16 ≤ 140737488355328; unfold maxLen; omega) fun _ => ?_
        refine ⟨[0, 1, 4], ⟨rfl, (by exact trivial), (by show List.Nodup [0, 4]; decide), rfl, ?_⟩⟩
        repeat' (first | exact trivial | exact rfl | apply And.intro)
        · exact plen (fun h2 => h1 h2.2)
        · intro j hj
          exact push (fun h2 => h1 h2.2) j (by rw [plen (fun h2 => h1 h2.2)]; exact hj)
    · have h : ¬ 0 ≤ (l.length : Int) - 1 := of_decide_eq_false (p := 0 ≤ (l.length : Int) - 1) h
      refine Need.mk (by show l.length + 1 ≤ maxLen ∧ (l.length + 1) * 16 ≤ 140737488355328; unfold maxLen; omega) fun _ => ?_
      refine ⟨[0, 1, 4], ⟨rfl, (by exact trivial), (by show List.Nodup [0, 4]; decide), rfl, ?_⟩⟩
      repeat' (first | exact trivial | exact rfl | apply And.intro)
      · exact plen (fun h2 => by omega)
      · intro j hj
        exact push (fun h2 => by omega) j (by rw [plen (fun h2 => by omega)]; exact hj)

def sCloneR : SpecF
  | [.c (.row 0)], [.elems ty one n get] => some (rgPre ty one n get, .c (.row 1), [.dead, .row 111 2 n (rgG (rgL n get))])
  | _, _ => none

set_option maxRecDepth 100000 in
set_option maxHeartbeats 8000000 in
theorem cloneRP : Fn Try.prog 77 [] [(111, 2)] sCloneR := by
  have hC : CtsOk Try.prog [] := CtsOk.nil _
  refine Fn.of (E := tbG) [] 0 [] tbG_ok hC (by kernel_rfl) Try.func77 rfl rfl rfl (by kernel_rfl) (by kernel_rfl) 1 111 2 ?_ ?_
  · intro args h pre r h' hs
    unfold sCloneR at hs
    split at hs
    · cases hs; exact ⟨rfl, rfl, Nat.le_of_ble_eq_true rfl⟩
    · cases hs
  · intro args h pre r h' hs hp
    unfold sCloneR at hs
    split at hs
    rotate_left
    · cases hs
    rename_i ty one n get
    cases hs
    obtain ⟨rfl, rfl, hst, hm⟩ := hp
    refine ⟨[.elems 111 2 n (rgG (rgL n get))], hst.same, ?_⟩
    have hL : (rgL n get).length = n := rgL_len
    generalize rgL n get = L at hL ⊢
    subst hL
    generalize hg0 : (List.length : List Rg → Nat) = g0
    try unfold rgG
    generalize ho0 : @rA = zo0, ho1 : @rB = zo1, ho2 : @rgL = zo2, ho3 : @rgPre = zo3
    generalize hA : Arith.std = A
    cbv
    subst hA hg0 ho0 ho1 ho2 ho3
    refine Fork.mk (fun h0 => ?_) ?_
    · replace h0 : L.length = 0 := h0
      refine ⟨[0, 1], ⟨rfl, rfl, (by show List.Nodup [1]; decide), rfl, ?_⟩⟩
      repeat' (first | exact trivial | exact rfl | apply And.intro)
      · exact h0.symm
      · intro j hj
        exact absurd hj (by show ¬ j < L.length; omega)
    · refine Need.mk ⟨(by show 0 + L.length ≤ maxLen ∧ (0 + L.length) * 16 ≤ 140737488355328; unfold maxLen; omega), fun i _ => rfl⟩ fun _ => ?_
      refine ⟨[0, 2], ⟨rfl, rfl, (by show List.Nodup [2]; decide), rfl, ?_⟩⟩
      repeat' (first | exact trivial | exact rfl | apply And.intro)
      · generalize L.length = m
        cases m with
        | zero => rfl
        | succ k => exact congrArg Nat.succ (Nat.zero_add k)
      · intro j hj
        rfl

end Go.Proofs.Ytcgoaicifjndpaa.Vx
end
