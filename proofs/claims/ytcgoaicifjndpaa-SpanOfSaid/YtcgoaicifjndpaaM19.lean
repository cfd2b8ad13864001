/- What ranges lack, as the document has it, by the walker. -/
import Derived.Test.YtcgoaicifjndpaaM18
import Derived.Test.YtcgoaicifjndpaaVxFnR
section
namespace Go.Proofs.Ytcgoaicifjndpaa.Vx
open Go.RowKit Span
set_option linter.unusedVariables false
set_option linter.unusedSimpArgs false
theorem lkGo_past {b : Int} : ∀ (R : List Rg) (a : Int), b < a → (lkGo R a b).1 = [] ∧ b < (lkGo R a b).2
  | [], a, h => ⟨rfl, h⟩
  | r :: R, a, h => by
    have := lkGo_past (b := b) R (max a (r.2 + 1)) (by omega)
    show (if a < r.1 ∧ a ≤ b then [(a, min (r.1 - 1) b)] else []) ++ (lkGo R (max a (r.2 + 1)) b).1 = [] ∧ b < (lkGo R (max a (r.2 + 1)) b).2
    rw [if_neg (by omega), this.1]
    exact ⟨rfl, this.2⟩
theorem IfeS.no {b : Bool} {p q : Prop} (h : b = false) (x : q) : Ife b p q := Ife.mk (fun g => by rw [h] at g; cases g) fun _ => x
def sLacksD : SpecF
  | [.c (.row 0), .c (.int .i64 a), .c (.int .i64 b)], [.elems ty one n get] => some (goodPreD ty one n get, .c (.row 1), [.dead, .row 114 2 (lacksL (rgL n get) a b).length (rgG (lacksL (rgL n get) a b))])
  | _, _ => none

set_option maxRecDepth 100000 in
set_option maxHeartbeats 8000000 in
theorem lacksDP : Fn Try.prog 33 [] [(114, 2)] sLacksD := by
  have hC : CtsOk Try.prog [] := CtsOk.nil _
  refine Fn.of (E := tbH) [] 0 [] tbH_ok hC (by kernel_rfl) Try.func33 rfl rfl rfl (by kernel_rfl) (by kernel_rfl) 1 114 2 ?_ ?_
  · intro args h pre r h' hs
    unfold sLacksD at hs
    split at hs
    · cases hs; exact ⟨rfl, rfl, Nat.le_of_ble_eq_true rfl⟩
    · cases hs
  · intro args h pre r h' hs hp
    unfold sLacksD at hs
    split at hs
    rotate_left
    · cases hs
    rename_i a b ty one n get
    cases hs
    obtain ⟨⟨rfl, rfl, hst, hm⟩, hg⟩ := hp
    refine ⟨[.elems 114 2 n (rgG (rgL n get))], hst.same, ?_⟩
    have hL : (rgL n get).length = n := rgL_len
    generalize rgL n get = L at hL hg ⊢
    generalize hL : lft Try.prog _ = L
    try unfold rgG
    generalize ho0 : @rA = zo0, ho1 : @rB = zo1, ho2 : @rgL = zo2, ho3 : @lacksL = zo3, ho4 : @lkGo = zo4, ho5 : @lkEnd = zo5, ho6 : @imin = zo6, ho7 : @imax = zo7, ho8 : @goodPreD = zo8
    generalize hA : Arith.std = A
    cbv
    subst hA hL ho0 ho1 ho2 ho3 ho4 ho5 ho6 ho7 ho8
    rw [show lacksL L a b = (lkGo L (imax a 0) (imin b 72057594037927935)).1 ++ lkEnd (lkGo L (imax a 0) (imin b 72057594037927935)).2 (imin b 72057594037927935) by unfold lacksL; rw [hg]; rfl]
    refine Runs.nilTmp 7 114 2 (rgG []) rfl ?_
    show Runs Try.prog 1 (.loop _) _ _
    refine loop_ruleR (N := env (lft Try.prog 1) 0 .std tbH [] []) rfl tbH_ok hC (fun c st K _ h => h) (by kernel_rfl) [] (X := LLk L n (imax a 0) (imin b 72057594037927935))
      (S := fun x => ⟨[.c (.row 0), .any, .any, .any, .any, .any, .any, .c (.row 1), .c (.int .i64 x.a), .c (.int .i64 (imin b 72057594037927935)), .c (.int .i64 x.i)] ++ List.replicate 58 .any, [.elems 114 2 n (rgG L), .row 114 2 x.l.length (rgG x.l)]⟩) (μ := fun x => n - x.i.toNat) ⟨0, imax a 0, [], by omega, by omega, rfl, (by show 0 ≤ max a 0; omega), (by show (0 : Int) ≤ 0; omega)⟩ (by kernel_rfl) [0, 1] ?_ ?_
    · refine ⟨rfl, by decide, ?_, ?_⟩ <;> repeat' (first | exact trivial | exact rfl | apply And.intro | (intro i hi; rfl) | (intro i hi; exact absurd hi (Nat.not_lt_zero _)))
    rintro ⟨i, c, l, hi0, hin, hl, hc, hll⟩
    generalize hg0 : (List.length : List Rg → Nat) = g0
    generalize hL : lft Try.prog _ = L
    try dsimp only
    try unfold rgG
    generalize ho0 : @rA = zo0, ho1 : @rB = zo1, ho2 : @rgL = zo2, ho3 : @lacksL = zo3, ho4 : @lkGo = zo4, ho5 : @lkEnd = zo5, ho6 : @imin = zo6, ho7 : @imax = zo7, ho8 : @goodPreD = zo8
    generalize hA : Arith.std = A
    cbv
    subst hA hg0 hL ho0 ho1 ho2 ho3 ho4 ho5 ho6 ho7 ho8
    replace hi0 : 0 ≤ i := hi0
    replace hin : i ≤ @Nat.cast Int instNatCastInt n := hin
    replace hl : lkGo L (imax a 0) (imin b 72057594037927935) = (l ++ (lkGo (L.drop i.toNat) c (imin b 72057594037927935)).1, (lkGo (L.drop i.toNat) c (imin b 72057594037927935)).2) := hl
    replace hc : 0 ≤ c := hc
    replace hll : @Nat.cast Int instNatCastInt l.length ≤ i := hll
    refine Ife.mk (fun hlt => ?_) (fun hlt => ?_)
    · replace hlt : i < @Nat.cast Int instNatCastInt n := of_decide_eq_true (p := i < (n : Int)) hlt
      have hg1 := good_take hg (i := i.toNat) (by omega)
      refine Ife.mk (fun h2 => ?_) (fun h2 => ?_)
      · have h2 : c ≤ imin b 72057594037927935 := of_decide_eq_true (p := c ≤ imin b 72057594037927935) h2
        repeat refine Need.mk (by first | exact trivial | (simp only [Arith.std, fitStd]; omega) | (simp [Arith.std, fitStd]; omega)) fun _ => ?_
        refine Ife.mk (fun h1 => ?_) (fun h1 => ?_)
        · have h1 : rB L i.toNat < c := of_decide_eq_true (p := rB L i.toNat < c) h1
          repeat refine Need.mk (by first | exact trivial | (simp only [Arith.std, fitStd]; omega) | (simp [Arith.std, fitStd]; omega)) fun _ => ?_
          refine ⟨⟨i + 1, c, l, by omega, by omega, ?h2, by omega, ?h4⟩, [0, 1], (by show n - (i + 1).toNat < n - i.toNat; omega), ?st⟩
          case h2 => rw [show (i + 1).toNat = i.toNat + 1 by omega, hl, lkGo_drop (show i.toNat < L.length by omega), if_neg (by omega), show max c (rB L i.toNat + 1) = c by omega]; rw [List.nil_append]
          case h4 => omega
          case st => refine ⟨rfl, by decide, ?_, ?_⟩ <;> repeat' (first | exact trivial | exact rfl | apply And.intro | (intro i hi; rfl) | (intro i hi; exact absurd hi (Nat.not_lt_zero _)))
        · have h1 : ¬ rB L i.toNat < c := of_decide_eq_false (p := rB L i.toNat < c) h1
          repeat refine Need.mk (by first | exact trivial | (simp only [Arith.std, fitStd]; omega) | (simp [Arith.std, fitStd]; omega)) fun _ => ?_
          refine Ife.mk (fun h3 => ?_) (fun h3 => ?_)
          · have h3 : c < rA L i.toNat := of_decide_eq_true (p := c < rA L i.toNat) h3
            repeat refine Need.mk (by first | exact trivial | (simp only [Arith.std, fitStd]; omega) | (simp [Arith.std, fitStd]; omega)) fun _ => ?_
            refine Need.mk (by show l.length + 1 ≤ maxLen ∧ (l.length + 1) * 16 ≤ 140737488355328; unfold maxLen; omega) fun _ => ?_
            repeat refine Need.mk (by first | exact trivial | (simp only [Arith.std, fitStd]; omega) | (simp [Arith.std, fitStd]; omega)) fun _ => ?_
            refine ⟨⟨i + 1, rB L i.toNat + 1, l ++ [(c, min (rA L i.toNat - 1) (imin b 72057594037927935))], by omega, by omega, ?h2, by omega, ?h4⟩, [0, 3], (by show n - (i + 1).toNat < n - i.toNat; omega), ?st⟩
            case h2 => rw [show (i + 1).toNat = i.toNat + 1 by omega, hl, lkGo_drop (show i.toNat < L.length by omega), if_pos ⟨h3, h2⟩, show max c (rB L i.toNat + 1) = rB L i.toNat + 1 by omega]; rw [← List.append_assoc]
            case h4 => rw [List.length_append]; show ((l.length + 1 : Nat) : Int) ≤ _; omega
            case st =>
              refine ⟨rfl, by decide, ?_, ?_⟩
              · repeat' (first | exact trivial | exact rfl | apply And.intro)
              · repeat' (first | exact trivial | exact rfl | apply And.intro)
                · simp
                · intro j hj
                  exact rgG_push l (c, min (rA L i.toNat - 1) (imin b 72057594037927935)) j (by simpa using hj)
          · have h3 : ¬ c < rA L i.toNat := of_decide_eq_false (p := c < rA L i.toNat) h3
            repeat refine Need.mk (by first | exact trivial | (simp only [Arith.std, fitStd]; omega) | (simp [Arith.std, fitStd]; omega)) fun _ => ?_
            refine ⟨⟨i + 1, rB L i.toNat + 1, l, by omega, by omega, ?h2, by omega, ?h4⟩, [0, 1], (by show n - (i + 1).toNat < n - i.toNat; omega), ?st⟩
            case h2 => rw [show (i + 1).toNat = i.toNat + 1 by omega, hl, lkGo_drop (show i.toNat < L.length by omega), if_neg (fun h => h3 h.1), show max c (rB L i.toNat + 1) = rB L i.toNat + 1 by omega]; rw [List.nil_append]
            case h4 => omega
            case st => refine ⟨rfl, by decide, ?_, ?_⟩ <;> repeat' (first | exact trivial | exact rfl | apply And.intro | (intro i hi; rfl) | (intro i hi; exact absurd hi (Nat.not_lt_zero _)))
      · have h2 : ¬ c ≤ imin b 72057594037927935 := of_decide_eq_false (p := c ≤ imin b 72057594037927935) h2
        have hp := lkGo_past (b := imin b 72057594037927935) (L.drop i.toNat) c (by omega)
        rw [hl, hp.1, List.append_nil, show lkEnd (l, (lkGo (L.drop i.toNat) c (imin b 72057594037927935)).2).2 (imin b 72057594037927935) = [] from if_neg (by show ¬ (lkGo (L.drop i.toNat) c (imin b 72057594037927935)).2 ≤ imin b 72057594037927935; omega), List.append_nil]
        refine IfeS.no (decide_eq_false h2) ?_
        exact ⟨[0, 1], ⟨rfl, rfl, (by show List.Nodup [1]; decide), rfl, by repeat' (first | exact trivial | exact rfl | apply And.intro | (intro i hi; rfl) | (intro i hi; exact absurd hi (Nat.not_lt_zero _)))⟩⟩
    · replace hlt : ¬ i < @Nat.cast Int instNatCastInt n := of_decide_eq_false (p := i < (n : Int)) hlt
      have e : lkGo L (imax a 0) (imin b 72057594037927935) = (l, c) := by rw [hl, List.drop_eq_nil_of_le (show L.length ≤ i.toNat by omega)]; simp [lkGo]
      rw [e]
      refine Ife.mk (fun h => ?_) (fun h => ?_)
      · have h : c ≤ imin b 72057594037927935 := of_decide_eq_true (p := c ≤ imin b 72057594037927935) h
        rw [show lkEnd (l, c).2 (imin b 72057594037927935) = [(c, imin b 72057594037927935)] by unfold lkEnd; rw [if_pos h]]
        refine Need.mk (by show l.length + 1 ≤ maxLen ∧ (l.length + 1) * 16 ≤ 140737488355328; unfold maxLen; omega) fun _ => ?_
        refine ⟨[0, 3], ⟨rfl, rfl, (by show List.Nodup [3]; decide), rfl, ?_⟩⟩
        repeat' (first | exact trivial | exact rfl | apply And.intro)
        · simp
        · intro j hj
          exact rgG_push l (c, imin b 72057594037927935) j (by simpa using hj)
      · have h : ¬ c ≤ imin b 72057594037927935 := of_decide_eq_false (p := c ≤ imin b 72057594037927935) h
        rw [show lkEnd (l, c).2 (imin b 72057594037927935) = [] by unfold lkEnd; rw [if_neg h], List.append_nil]
        exact ⟨[0, 1], ⟨rfl, rfl, (by show List.Nodup [1]; decide), rfl, by repeat' (first | exact trivial | exact rfl | apply And.intro | (intro i hi; rfl) | (intro i hi; exact absurd hi (Nat.not_lt_zero _)))⟩⟩

end Go.Proofs.Ytcgoaicifjndpaa.Vx
end

section
/- One more number among ranges, as the document has it, by the walker. -/
namespace Go.Proofs.Ytcgoaicifjndpaa.Vx
open Go.RowKit Span
set_option linter.unusedVariables false
set_option linter.unusedSimpArgs false
/-- What stands behind the number once it is joined with what follows it. -/
def hdM (x : Int) : List Rg → Int × List Rg
  | [] => (x, [])
  | (c, d) :: R => if c = x + 1 then (d, R) else (x, (c, d) :: R)
theorem addM_hd (P : List Rg) (x : Int) (R : List Rg) : addM P x R = glue P x (hdM x R).1 (hdM x R).2 := by
  cases R with
  | nil => rfl
  | cons r R =>
    obtain ⟨c, d⟩ := r
    rw [addM_cons]
    by_cases h : c = x + 1
    · rw [if_pos h, show hdM x ((c, d) :: R) = (d, R) from if_pos h]
    · rw [if_neg h, show hdM x ((c, d) :: R) = (x, (c, d) :: R) from if_neg h]
theorem rA_app (P Q : List Rg) (k : Nat) : rA (P ++ Q) (P.length + k) = rA Q k := by
  unfold rA
  rw [List.getD_eq_getElem?_getD, List.getD_eq_getElem?_getD, List.getElem?_append_right (by omega), Nat.add_sub_cancel_left]
theorem rB_app (P Q : List Rg) (k : Nat) : rB (P ++ Q) (P.length + k) = rB Q k := by
  unfold rB
  rw [List.getD_eq_getElem?_getD, List.getD_eq_getElem?_getD, List.getElem?_append_right (by omega), Nat.add_sub_cancel_left]
theorem rgG_app (P Q : List Rg) (k : Nat) : rgG (P ++ Q) (P.length + k) = rgG Q k := by
  unfold rgG rgGP
  rw [rA_app, rB_app]
theorem rgG_appl (P Q : List Rg) {k : Nat} (h : k < P.length) : rgG (P ++ Q) k = rgG P k := by
  unfold rgG rgGP rA rB
  rw [List.getD_eq_getElem?_getD, List.getD_eq_getElem?_getD, List.getElem?_append_left h]
/-- Ranges behind ranges, as cells. -/
theorem cat_rg {A B : List Rg} {k : Nat} (hk : A.length = k) {g g2 : Nat → List CV} (h1 : ∀ i, i < k → g i = rgG A i) (h2 : ∀ i, i < B.length → g2 i = rgG B i) : ∀ i, i < k + B.length → catG k g g2 i = rgG (A ++ B) i := fun i hi => by
  subst hk
  unfold catG
  cases hb : Nat.blt i A.length with
  | true =>
    have h : i < A.length := by rwa [Nat.blt_eq] at hb
    exact (h1 i h).trans (rgG_appl A B h).symm
  | false =>
    have h : ¬ i < A.length := fun h => by rw [← Nat.blt_eq, hb] at h; cases h
    have e : i = A.length + (i - A.length) := by omega
    show g2 (i - A.length) = _
    rw [h2 _ (by omega)]
    conv => rhs; rw [e, rgG_app]
/-- A cut put together again. -/
theorem cut_rg {l : List Rg} {g : Nat → List CV} (hg : ∀ i, i < l.length → g i = rgG l i) {k j : Nat} (hk : k ≤ l.length) (hj : j ≤ l.length) : ∀ i, i < k + (l.length - j) → catG k g (fun i => g (j + i)) i = rgG (l.take k ++ l.drop j) i := by
  have e1 : ∀ i, i < k → rgG (l.take k) i = rgG l i := fun i hi => by
    have := rgG_appl (l.take k) (l.drop k) (k := i) (by rw [List.length_take]; omega)
    rw [List.take_append_drop] at this
    exact this.symm
  have e2 : ∀ i, rgG (l.drop j) i = rgG l (j + i) := fun i => by
    have := rgG_app (l.take j) (l.drop j) i
    rw [List.take_append_drop, List.length_take, Nat.min_eq_left hj] at this
    exact this.symm
  have hl : (l.drop j).length = l.length - j := List.length_drop
  have := cat_rg (A := l.take k) (B := l.drop j) (k := k) (by rw [List.length_take]; omega) (g := g) (g2 := fun i => g (j + i)) (fun i hi => by rw [e1 i hi]; exact hg i (by omega)) (fun i hi => by rw [e2]; exact hg (j + i) (by omega))
  rw [hl] at this
  exact this
theorem cutN_le {l : List Rg} {x : Int} : cutN l x ≤ l.length := (List.takeWhile_sublist _).length_le
theorem take_cut (P : List Rg) (r s : Rg) (Q : List Rg) : (P ++ r :: s :: Q).take (P.length + 1) ++ (P ++ r :: s :: Q).drop (P.length + 2) = P ++ r :: Q := by
  have h1 : (P ++ r :: s :: Q).take (P.length + 1) = P ++ [r] := by
    rw [show P ++ r :: s :: Q = (P ++ [r]) ++ s :: Q by simp]
    exact List.take_left' (by simp)
  have h2 : (P ++ r :: s :: Q).drop (P.length + 2) = Q := by
    rw [show P ++ r :: s :: Q = (P ++ [r, s]) ++ Q by simp]
    exact List.drop_left' (by simp)
  rw [h1, h2]
  simp
/-- A number laid between ranges, as cells. -/
theorem ins_rg {L P R : List Rg} {c : Nat} {x : Int} (hL : L = P ++ R) (hP : P.length = c) : ∀ i, i < c + 1 + R.length → catG (c + 1) (pushG c (fun i => rgG L (0 + i)) [.int .i64 x, .int .i64 x]) (fun i => rgG L (c + i)) i = rgG (P ++ (x, x) :: R) i := by
  subst hL hP
  have := cat_rg (A := P ++ [(x, x)]) (B := R) (k := P.length + 1) (by simp) (g := pushG P.length (fun i => rgG (P ++ R) (0 + i)) [.int .i64 x, .int .i64 x]) (g2 := fun i => rgG (P ++ R) (P.length + i)) (fun i hi => ?_) (fun i hi => rgG_app P R i)
  · rw [show P ++ (x, x) :: R = (P ++ [(x, x)]) ++ R by simp]
    exact this
  · rw [← rgG_push P (x, x) i hi]
    unfold pushG
    cases hb : Nat.blt i P.length with
    | true =>
      show rgG (P ++ R) (0 + i) = rgG P i
      rw [Nat.zero_add]
      exact rgG_appl P R (by rwa [Nat.blt_eq] at hb)
    | false => rfl
/-- A range's end set and the range behind it cut out, as cells. -/
theorem join_rg {Q S : List Rg} {r s : Rg} {v : Int} {l : List Rg} (hl : l = Q ++ r :: s :: S) : ∀ i, i < Q.length + 1 + S.length → catG (Q.length + 1) (upG (rgG l) Q.length 1 [.int .i64 v]) (fun i => upG (rgG l) Q.length 1 [.int .i64 v] (Q.length + 2 + i)) i = rgG (Q ++ (r.1, v) :: S) i := fun i hi => by
  subst hl
  have hq : Q.length < (Q ++ r :: s :: S).length := by simp
  have e0 : rA (Q ++ r :: s :: S) Q.length = r.1 := rA_app Q (r :: s :: S) 0
  have e1 : (Q ++ r :: s :: S).set Q.length (r.1, v) = Q ++ (r.1, v) :: s :: S := by simp
  have := cut_rg (l := Q ++ (r.1, v) :: s :: S) (g := upG (rgG (Q ++ r :: s :: S)) Q.length 1 [.int .i64 v]) (fun i hi => by
    rw [upG_set hq i (by simpa using hi), e0, e1]) (k := Q.length + 1) (j := Q.length + 2) (by simp) (by simp) i (by simp; omega)
  rw [take_cut] at this
  exact this
theorem up_len {l : List Rg} {c i : Nat} {v : CV} : (upG (rgG l) c 1 [v] i).length = 2 := by
  unfold upG
  split <;> rfl
theorem nat_match (a b : Nat) : (match a, b with
    | a, Nat.zero => a
    | a, Nat.succ b => Nat.succ (Nat.add a b)) = a + b := by cases b <;> rfl
/-- How far the search has come. -/
structure LAn (L : List Rg) (x : Int) where
  i : Int
  k : Nat
  hk : i = (k : Int)
  h1 : k ≤ L.length
  h2 : ∀ j, j < k → rB L j < x
def sAddD : SpecF
  | [.c (.row 0), .c (.int .i64 x)], [.elems ty one n get] => some (goodPreD ty one n get, .c (.row 1), [.dead, .row 114 2 (addL (rgL n get) x).length (rgG (addL (rgL n get) x))])
  | _, _ => none

set_option maxRecDepth 100000 in
set_option maxHeartbeats 16000000 in
theorem addDP : Fn Try.prog 32 [] [(114, 2)] sAddD := by
  have hC : CtsOk Try.prog [(29, appFn [] [(114, 2)] sHasD)] := CtsOk.cons (Fn.ct hasDP) <| CtsOk.nil _
  refine Fn.ofR (E := tbH) tbH_ok Try.func32 rfl rfl rfl (by kernel_rfl) 1 114 2 ?_ ?_
  · intro args h pre r h' hs
    unfold sAddD at hs
    split at hs
    · cases hs; exact ⟨rfl, rfl, Nat.le_of_ble_eq_true rfl⟩
    · cases hs
  · intro args h pre r h' hs hp
    unfold sAddD at hs
    split at hs
    rotate_left
    · cases hs
    rename_i x ty one n get
    cases hs
    obtain ⟨⟨rfl, rfl, hst, hm⟩, hg⟩ := hp
    refine ⟨[.elems 114 2 n (rgG (rgL n get))], hst.same, ?_⟩
    have hL : (rgL n get).length = n := rgL_len
    generalize rgL n get = L at hL hg ⊢
    have eL : rgL n (rgG L) = L := by rw [← hL]; exact rgL_rgG L
    have pL : rgPreD 114 2 n (rgG L) := ⟨rfl, rfl, rgAt_rgG _ _, hm⟩
    refine Runs.cut ⟨[.c (.row 0), .c (.int .i64 x)] ++ List.replicate 114 .any, [.elems 114 2 n (rgG L)]⟩ True ?_ fun _ => ?_
    · refine exec_ok (N := env (lft Try.prog 1) 0 .std tbH [(29, appFn [] [(114, 2)] sHasD)] [(7, [(9999, true), (0, true), (1, true), (2, true), (4, true), (5, true), (6, true), (9, true), (10, true), (11, true), (3003, false), (7, false), (8, false), (12, false), (13, true), (2999, false), (7, false), (3, false), (8, false), (12, false), (13, true), (2999, false)]), (10, [(0, true), (1, true), (2, true), (3, true), (4, true), (5, true), (6, true), (7, true), (1008, false), (8, false), (9, true)]), (13, [(0, true), (1, true), (2, true), (3, true), (4, true), (5, true), (6, true), (1007, false), (7, false), (8, true)])]) rfl tbH_ok hC (fun c st K _ h => h) (by kernel_rfl) [] _ _ _ (by kernel_rfl) ?_
      generalize hg0 : (List.length : List Rg → Nat) = g0
      generalize hL : lft Try.prog _ = L
      try unfold rgG
      generalize ho0 : @rA = zo0, ho1 : @rB = zo1, ho2 : @rgL = zo2, ho3 : @mayN = zo3, ho4 : @runs = zo4, ho5 : @hasL = zo5, ho6 : @rgPreD = zo6, ho7 : @goodPreD = zo7, ho8 : @addL = zo8, ho9 : @hdM = zo9, ho10 : @glue = zo10, ho11 : @cutN = zo11
      generalize hA : Arith.std = A
      cbv
      subst hA hg0 hL ho0 ho1 ho2 ho3 ho4 ho5 ho6 ho7 ho8 ho9 ho10 ho11
      exact ⟨⟨[0], rfl, (by show List.Nodup []; exact List.nodup_nil), (by repeat' (first | exact trivial | exact rfl | apply And.intro | exact (fun _ _ _ _ => Cell.le_refl _) | (intro i hi; rfl) | (intro i hi; exact absurd hi (Nat.not_lt_zero _)))), (by repeat' (first | exact trivial | exact rfl | apply And.intro | exact (fun _ _ _ _ => Cell.le_refl _) | (intro i hi; rfl) | (intro i hi; exact absurd hi (Nat.not_lt_zero _))))⟩, trivial⟩
    refine Runs.cut ⟨[.c (.row 0), .c (.int .i64 x), .any, .any, .any, .c (.row 1)] ++ List.replicate 110 .any, [.elems 114 2 n (rgG L), .row 114 2 n (rgG L)]⟩ True ?_ fun _ => ?_
    · refine exec_ok (N := env (lft Try.prog 1) 0 .std tbH [(29, appFn [] [(114, 2)] sHasD)] [(7, [(9999, true), (0, true), (1, true), (2, true), (4, true), (5, true), (6, true), (9, true), (10, true), (11, true), (3003, false), (7, false), (8, false), (12, false), (13, true), (2999, false), (7, false), (3, false), (8, false), (12, false), (13, true), (2999, false)]), (10, [(0, true), (1, true), (2, true), (3, true), (4, true), (5, true), (6, true), (7, true), (1008, false), (8, false), (9, true)]), (13, [(0, true), (1, true), (2, true), (3, true), (4, true), (5, true), (6, true), (1007, false), (7, false), (8, true)])]) rfl tbH_ok hC (fun c st K _ h => h) (by kernel_rfl) [] _ _ _ (by kernel_rfl) ?_
      generalize hg0 : (List.length : List Rg → Nat) = g0
      generalize hL : lft Try.prog _ = L
      try unfold rgG
      generalize ho0 : @rA = zo0, ho1 : @rB = zo1, ho2 : @rgL = zo2, ho3 : @mayN = zo3, ho4 : @runs = zo4, ho5 : @hasL = zo5, ho6 : @rgPreD = zo6, ho7 : @goodPreD = zo7, ho8 : @addL = zo8, ho9 : @hdM = zo9, ho10 : @glue = zo10, ho11 : @cutN = zo11
      generalize hA : Arith.std = A
      cbv
      subst hA hg0 hL ho0 ho1 ho2 ho3 ho4 ho5 ho6 ho7 ho8 ho9 ho10 ho11
      refine Need.mk ⟨(by show 0 + n ≤ maxLen ∧ (0 + n) * 16 ≤ 140737488355328; unfold maxLen; omega), fun i hi => rfl⟩ fun _ => ?_
      exact ⟨⟨[0, 1], rfl, (by show List.Nodup [1]; decide), (by repeat' (first | exact trivial | exact rfl | apply And.intro | exact (fun _ _ _ _ => Cell.le_refl _) | (intro i hi; rfl) | (intro i hi; exact absurd hi (Nat.not_lt_zero _)))), (by repeat' (first | exact trivial | exact rfl | apply And.intro | exact (fun _ _ _ _ => Cell.le_refl _) | (intro i hi; rfl) | (intro i hi; exact absurd hi (Nat.not_lt_zero _))))⟩, trivial⟩
    refine Runs.cut ⟨[.c (.row 0), .c (.int .i64 x), .any, .any, .any, .c (.row 1)] ++ List.replicate 110 .any, [.elems 114 2 n (rgG L), .row 114 2 n (rgG L)]⟩ (mayN x = true ∧ hasL L x = false) ?_ fun hq => ?_
    · refine exec_ok (N := env (lft Try.prog 1) 0 .std tbH [(29, appFn [] [(114, 2)] sHasD)] [(7, [(9999, true), (0, true), (1, true), (2, true), (4, true), (5, true), (6, true), (9, true), (10, true), (11, true), (3003, false), (7, false), (8, false), (12, false), (13, true), (2999, false), (7, false), (3, false), (8, false), (12, false), (13, true), (2999, false)]), (10, [(0, true), (1, true), (2, true), (3, true), (4, true), (5, true), (6, true), (7, true), (1008, false), (8, false), (9, true)]), (13, [(0, true), (1, true), (2, true), (3, true), (4, true), (5, true), (6, true), (1007, false), (7, false), (8, true)])]) rfl tbH_ok hC (fun c st K _ h => h) (by kernel_rfl) [] _ _ _ (by kernel_rfl) ?_
      unfold sHasD
      generalize hg0 : (List.length : List Rg → Nat) = g0
      generalize hL : lft Try.prog _ = L
      try unfold rgG
      generalize ho0 : @rA = zo0, ho1 : @rB = zo1, ho2 : @rgL = zo2, ho3 : @mayN = zo3, ho4 : @runs = zo4, ho5 : @hasL = zo5, ho6 : @rgPreD = zo6, ho7 : @goodPreD = zo7, ho8 : @addL = zo8, ho9 : @hdM = zo9, ho10 : @glue = zo10, ho11 : @cutN = zo11
      generalize hA : Arith.std = A
      cbv
      subst hA hg0 hL ho0 ho1 ho2 ho3 ho4 ho5 ho6 ho7 ho8 ho9 ho10 ho11
      refine Ife.mk (fun h => ?_) (fun h1 => ?_)
      · have h : x < 0 := of_decide_eq_true (p := x < 0) h
        rw [show addL L x = L from if_neg (fun e => by have := mayN_iff.1 e.1; omega), hL]
        exact ⟨[0, 1], ⟨rfl, rfl, (by show List.Nodup [1]; decide), rfl, by repeat' (first | exact trivial | exact rfl | apply And.intro | (intro i hi; rfl) | (intro i hi; exact absurd hi (Nat.not_lt_zero _)))⟩⟩
      have h1 : ¬ x < 0 := of_decide_eq_false (p := x < 0) h1
      refine Ife.mk (fun h => ?_) (fun h2 => ?_)
      · have h : 72057594037927935 < x := of_decide_eq_true (p := 72057594037927935 < x) h
        rw [show addL L x = L from if_neg (fun e => by have := mayN_iff.1 e.1; omega), hL]
        exact ⟨[0, 1], ⟨rfl, rfl, (by show List.Nodup [1]; decide), rfl, by repeat' (first | exact trivial | exact rfl | apply And.intro | (intro i hi; rfl) | (intro i hi; exact absurd hi (Nat.not_lt_zero _)))⟩⟩
      have h2 : ¬ 72057594037927935 < x := of_decide_eq_false (p := 72057594037927935 < x) h2
      refine Need.mk pL fun _ => ?_
      rw [eL]
      refine Ife.mk (fun h => ?_) (fun h3 => ?_)
      · rw [show addL L x = L from if_neg (fun e => e.2 (hasL_iff.1 h)), hL]
        exact ⟨[0, 1], ⟨rfl, rfl, (by show List.Nodup [1]; decide), rfl, by repeat' (first | exact trivial | exact rfl | apply And.intro | (intro i hi; rfl) | (intro i hi; exact absurd hi (Nat.not_lt_zero _)))⟩⟩
      exact ⟨⟨[0, 1], rfl, (by show List.Nodup [1]; decide), (by repeat' (first | exact trivial | exact rfl | apply And.intro | exact (fun _ _ _ _ => Cell.le_refl _) | (intro i hi; rfl) | (intro i hi; exact absurd hi (Nat.not_lt_zero _)))), (by repeat' (first | exact trivial | exact rfl | apply And.intro | exact (fun _ _ _ _ => Cell.le_refl _) | (intro i hi; rfl) | (intro i hi; exact absurd hi (Nat.not_lt_zero _))))⟩, mayN_iff.2 (by omega), h3⟩
    refine Runs.cut ⟨[.any, .c (.int .i64 x), .any, .any, .any, .c (.row 1), .c (.int .i64 0)] ++ List.replicate 109 .any, [.elems 114 2 n (rgG L), .row 114 2 n (rgG L)]⟩ True ?_ fun _ => ?_
    · refine exec_ok (N := env (lft Try.prog 1) 0 .std tbH [(29, appFn [] [(114, 2)] sHasD)] [(7, [(9999, true), (0, true), (1, true), (2, true), (4, true), (5, true), (6, true), (9, true), (10, true), (11, true), (3003, false), (7, false), (8, false), (12, false), (13, true), (2999, false), (7, false), (3, false), (8, false), (12, false), (13, true), (2999, false)]), (10, [(0, true), (1, true), (2, true), (3, true), (4, true), (5, true), (6, true), (7, true), (1008, false), (8, false), (9, true)]), (13, [(0, true), (1, true), (2, true), (3, true), (4, true), (5, true), (6, true), (1007, false), (7, false), (8, true)])]) rfl tbH_ok hC (fun c st K _ h => h) (by kernel_rfl) [] _ _ _ (by kernel_rfl) ?_
      generalize hg0 : (List.length : List Rg → Nat) = g0
      generalize hL : lft Try.prog _ = L
      try unfold rgG
      generalize ho0 : @rA = zo0, ho1 : @rB = zo1, ho2 : @rgL = zo2, ho3 : @mayN = zo3, ho4 : @runs = zo4, ho5 : @hasL = zo5, ho6 : @rgPreD = zo6, ho7 : @goodPreD = zo7, ho8 : @addL = zo8, ho9 : @hdM = zo9, ho10 : @glue = zo10, ho11 : @cutN = zo11
      generalize hA : Arith.std = A
      cbv
      subst hA hg0 hL ho0 ho1 ho2 ho3 ho4 ho5 ho6 ho7 ho8 ho9 ho10 ho11
      exact ⟨⟨[0, 1], rfl, (by show List.Nodup [1]; decide), (by repeat' (first | exact trivial | exact rfl | apply And.intro | exact (fun _ _ _ _ => Cell.le_refl _) | (intro i hi; rfl) | (intro i hi; exact absurd hi (Nat.not_lt_zero _)))), (by repeat' (first | exact trivial | exact rfl | apply And.intro | exact (fun _ _ _ _ => Cell.le_refl _) | (intro i hi; rfl) | (intro i hi; exact absurd hi (Nat.not_lt_zero _))))⟩, trivial⟩
    have hnot : ¬ x ∈ runs L := fun h => by
      have := hasL_iff.2 h
      rw [hq.2] at this
      cases this
    have hb := mayN_iff.1 hq.1
    obtain ⟨c, hc⟩ : ∃ c, cutN L x = c := ⟨_, rfl⟩
    refine Runs.cut ⟨[.any, .c (.int .i64 x), .any, .any, .any, .c (.row 1), .c (.int .i64 (c : Int))] ++ List.replicate 109 .any, [.elems 114 2 n (rgG L), .row 114 2 n (rgG L)]⟩ True ?_ fun _ => ?_
    · refine exec_ok (N := env (lft Try.prog 1) 0 .std tbH [(29, appFn [] [(114, 2)] sHasD)] [(7, [(9999, true), (0, true), (1, true), (2, true), (4, true), (5, true), (6, true), (9, true), (10, true), (11, true), (3003, false), (7, false), (8, false), (12, false), (13, true), (2999, false), (7, false), (3, false), (8, false), (12, false), (13, true), (2999, false)]), (10, [(0, true), (1, true), (2, true), (3, true), (4, true), (5, true), (6, true), (7, true), (1008, false), (8, false), (9, true)]), (13, [(0, true), (1, true), (2, true), (3, true), (4, true), (5, true), (6, true), (1007, false), (7, false), (8, true)])]) rfl tbH_ok hC (fun c st K _ h => h) (by kernel_rfl) [] _ _ _ (by kernel_rfl) ?_
      generalize hg0 : (List.length : List Rg → Nat) = g0
      generalize hL : lft Try.prog _ = L
      try unfold rgG
      generalize ho0 : @rA = zo0, ho1 : @rB = zo1, ho2 : @rgL = zo2, ho3 : @mayN = zo3, ho4 : @runs = zo4, ho5 : @hasL = zo5, ho6 : @rgPreD = zo6, ho7 : @goodPreD = zo7, ho8 : @addL = zo8, ho9 : @hdM = zo9, ho10 : @glue = zo10, ho11 : @cutN = zo11
      generalize hA : Arith.std = A
      cbv
      subst hA hg0 hL ho0 ho1 ho2 ho3 ho4 ho5 ho6 ho7 ho8 ho9 ho10 ho11
      show Runs Try.prog 1 (.loop _) _ _
      refine loop_ruleR (N := env (lft Try.prog 1) 0 .std tbH [(29, appFn [] [(114, 2)] sHasD)] [(7, [(9999, true), (0, true), (1, true), (2, true), (4, true), (5, true), (6, true), (9, true), (10, true), (11, true), (3003, false), (7, false), (8, false), (12, false), (13, true), (2999, false), (7, false), (3, false), (8, false), (12, false), (13, true), (2999, false)]), (10, [(0, true), (1, true), (2, true), (3, true), (4, true), (5, true), (6, true), (7, true), (1008, false), (8, false), (9, true)]), (13, [(0, true), (1, true), (2, true), (3, true), (4, true), (5, true), (6, true), (1007, false), (7, false), (8, true)])]) rfl tbH_ok hC (fun c st K _ h => h) (by kernel_rfl) [] (X := LAn L x)
        (S := fun y => ⟨[.any, .c (.int .i64 x), .any, .any, .any, .c (.row 1), .c (.int .i64 y.i)] ++ List.replicate 109 .any, [.elems 114 2 n (rgG L), .row 114 2 n (rgG L)]⟩) (μ := fun y => L.length - y.k) ⟨0, 0, rfl, Nat.zero_le _, fun j hj => absurd hj (by omega)⟩ (by kernel_rfl) [0, 1] ?_ ?_
      · refine ⟨rfl, by decide, ?_, ?_⟩ <;> repeat' (first | exact trivial | exact rfl | apply And.intro | exact (fun _ _ _ _ => Cell.le_refl _) | (intro i hi; rfl) | (intro i hi; exact absurd hi (Nat.not_lt_zero _)))
      rintro ⟨i, k, hk, h1, h2⟩
      replace hk : i = @Nat.cast Int instNatCastInt k := hk
      subst hk
      generalize hg0 : (List.length : List Rg → Nat) = g0
      generalize hL : lft Try.prog _ = L
      try dsimp only
      try unfold rgG
      generalize ho0 : @rA = zo0, ho1 : @rB = zo1, ho2 : @rgL = zo2, ho3 : @mayN = zo3, ho4 : @runs = zo4, ho5 : @hasL = zo5, ho6 : @rgPreD = zo6, ho7 : @goodPreD = zo7, ho8 : @addL = zo8, ho9 : @hdM = zo9, ho10 : @glue = zo10, ho11 : @cutN = zo11
      generalize hA : Arith.std = A
      cbv
      subst hA hg0 hL ho0 ho1 ho2 ho3 ho4 ho5 ho6 ho7 ho8 ho9 ho10 ho11
      refine Ife.mk (fun hlt => ?_) (fun hlt => ?_)
      · replace hlt : (k : Int) < @Nat.cast Int instNatCastInt n := of_decide_eq_true (p := (k : Int) < (n : Int)) hlt
        refine Need.mk (show 0 ≤ (k : Int) ∧ (k : Int) < (n : Int) by omega) fun _ => Need.mk (show k < n by omega) fun _ => ?_
        refine Ife.mk (fun h => ?_) (fun h => ?_)
        · have h : rB L k < x := of_decide_eq_true (p := rB L k < x) h
          refine Need.mk (by show fitStd .i64 ((k : Int) + 1); unfold fitStd; omega) fun _ => ?_
          refine ⟨⟨(k : Int) + 1, k + 1, by omega, by omega, fun j hj => ?_⟩, [0, 1], (by show L.length - (k + 1) < L.length - k; omega), ?_⟩
          · by_cases hjk : j = k
            · rw [hjk]; exact h
            · exact h2 j (by omega)
          · refine ⟨rfl, by decide, ?_, ?_⟩ <;> repeat' (first | exact trivial | exact rfl | apply And.intro | exact (fun _ _ _ _ => Cell.le_refl _) | (intro i hi; rfl) | (intro i hi; exact absurd hi (Nat.not_lt_zero _)))
        · have h : ¬ rB L k < x := of_decide_eq_false (p := rB L k < x) h
          obtain rfl : c = k := by rw [← hc]; exact cutN_eq (by omega) h2 (fun _ => h)
          exact ⟨⟨[0, 1], rfl, (by show List.Nodup [1]; decide), (by repeat' (first | exact trivial | exact rfl | apply And.intro | exact (fun _ _ _ _ => Cell.le_refl _) | (intro i hi; rfl) | (intro i hi; exact absurd hi (Nat.not_lt_zero _)))), (by repeat' (first | exact trivial | exact rfl | apply And.intro | exact (fun _ _ _ _ => Cell.le_refl _) | (intro i hi; rfl) | (intro i hi; exact absurd hi (Nat.not_lt_zero _))))⟩, trivial⟩
      · replace hlt : ¬ (k : Int) < @Nat.cast Int instNatCastInt n := of_decide_eq_false (p := (k : Int) < (n : Int)) hlt
        obtain rfl : c = k := by rw [← hc]; exact cutN_eq (by omega) h2 (fun _ => by omega)
        exact ⟨⟨[0, 1], rfl, (by show List.Nodup [1]; decide), (by repeat' (first | exact trivial | exact rfl | apply And.intro | exact (fun _ _ _ _ => Cell.le_refl _) | (intro i hi; rfl) | (intro i hi; exact absurd hi (Nat.not_lt_zero _)))), (by repeat' (first | exact trivial | exact rfl | apply And.intro | exact (fun _ _ _ _ => Cell.le_refl _) | (intro i hi; rfl) | (intro i hi; exact absurd hi (Nat.not_lt_zero _))))⟩, trivial⟩
    have hcl : c ≤ L.length := by rw [← hc]; exact cutN_le
    obtain ⟨P, hP⟩ : ∃ P, L.take c = P := ⟨_, rfl⟩
    obtain ⟨R, hR⟩ : ∃ R, L.drop c = R := ⟨_, rfl⟩
    have hPl : P.length = c := by rw [← hP, List.length_take]; omega
    have hRl : R.length = n - c := by rw [← hR, List.length_drop, hL]
    have eLR : L = P ++ R := by rw [← hP, ← hR, List.take_append_drop]
    have eA : addL L x = glue P x (hdM x R).1 (hdM x R).2 := by
      unfold addL
      rw [if_pos ⟨hq.1, hnot⟩, hc, hP, hR, addM_hd]
    have e43 : ((n : Int) - (c : Int)).toNat = R.length := by omega
    obtain ⟨F, hF⟩ : ∃ F, addL L x = F := ⟨_, rfl⟩
    rw [hF] at eA ⊢
    obtain ⟨m2, hm2⟩ : ∃ m2, (hdM x R).1 = m2 := ⟨_, rfl⟩
    obtain ⟨R2, hR2⟩ : ∃ R2, (hdM x R).2 = R2 := ⟨_, rfl⟩
    rw [hm2, hR2] at eA
    obtain ⟨L1, hL1⟩ : ∃ L1, L1 = P ++ (x, x) :: R := ⟨_, rfl⟩
    obtain ⟨L2, hL2⟩ : ∃ L2, L2 = P ++ (x, m2) :: R2 := ⟨_, rfl⟩
    refine Runs.cut ⟨[.any, .c (.int .i64 x), .any, .any, .any, .c (.row 1), .c (.int .i64 (c : Int))] ++ List.replicate 109 .any, [.elems 114 2 n (rgG L), .row 114 2 (n + 1) (rgG L1)]⟩ True ?_ fun _ => ?_
    · refine exec_ok (N := env (lft Try.prog 1) 0 .std tbH [(29, appFn [] [(114, 2)] sHasD)] [(7, [(9999, true), (0, true), (1, true), (2, true), (4, true), (5, true), (6, true), (9, true), (10, true), (11, true), (3003, false), (7, false), (8, false), (12, false), (13, true), (2999, false), (7, false), (3, false), (8, false), (12, false), (13, true), (2999, false)]), (10, [(0, true), (1, true), (2, true), (3, true), (4, true), (5, true), (6, true), (7, true), (1008, false), (8, false), (9, true)]), (13, [(0, true), (1, true), (2, true), (3, true), (4, true), (5, true), (6, true), (1007, false), (7, false), (8, true)])]) rfl tbH_ok hC (fun c st K _ h => h) (by kernel_rfl) [] _ _ _ (by kernel_rfl) ?_
      generalize hg0 : (List.length : List Rg → Nat) = g0
      generalize hL : lft Try.prog _ = L
      try unfold rgG
      generalize ho0 : @rA = zo0, ho1 : @rB = zo1, ho2 : @rgL = zo2, ho3 : @mayN = zo3, ho4 : @runs = zo4, ho5 : @hasL = zo5, ho6 : @rgPreD = zo6, ho7 : @goodPreD = zo7, ho8 : @addL = zo8, ho9 : @hdM = zo9, ho10 : @glue = zo10, ho11 : @cutN = zo11
      generalize hA : Arith.std = A
      cbv
      subst hA hg0 hL ho0 ho1 ho2 ho3 ho4 ho5 ho6 ho7 ho8 ho9 ho10 ho11
      have f1 : 0 + c ≤ maxLen ∧ (0 + c) * 16 ≤ 140737488355328 := by unfold maxLen; omega
      have f2 : c + 1 ≤ maxLen ∧ (c + 1) * 16 ≤ 140737488355328 := by unfold maxLen; omega
      have f3 : (c + 1) + ((n : Int) - (c : Int)).toNat ≤ maxLen ∧ ((c + 1) + ((n : Int) - (c : Int)).toNat) * 16 ≤ 140737488355328 := by unfold maxLen; omega
      refine Need.mk (show 0 ≤ (0 : Int) ∧ (0 : Int) ≤ (c : Int) ∧ (c : Int) ≤ (n : Int) by omega) fun _ => Need.mk (show 0 ≤ (c : Int) ∧ (c : Int) ≤ (n : Int) ∧ (n : Int) ≤ (n : Int) by omega) fun _ => ?_
      refine Both.mk ?_ ?_
      all_goals
        refine Need.mk ⟨f1, fun i hi => rfl⟩ fun _ => Need.mk f2 fun _ => Need.mk ⟨f3, fun i hi => rfl⟩ fun _ => ?_
        refine ⟨⟨[0, 5], rfl, (by show List.Nodup [5]; decide), (by repeat' (first | exact trivial | exact rfl | apply And.intro | exact (fun _ _ _ _ => Cell.le_refl _) | (intro i hi; rfl) | (intro i hi; exact absurd hi (Nat.not_lt_zero _)))), ?_⟩, trivial⟩
        repeat' (first | exact trivial | exact rfl | apply And.intro)
        · refine (nat_match (c + 1) (((n : Int) - (c : Int)).toNat)).trans ?_
          omega
        · rw [hL1]
          exact fun i hi => ins_rg eLR hPl i (by omega)
    obtain ⟨N2, hN2⟩ : ∃ N2, c + 1 + R2.length = N2 := ⟨_, rfl⟩
    refine Runs.cut ⟨[.any, .c (.int .i64 x), .any, .any, .any, .c (.row 1), .c (.int .i64 (c : Int))] ++ List.replicate 109 .any, [.elems 114 2 n (rgG L), .row 114 2 N2 (rgG L2)]⟩ True ?_ fun _ => ?_
    · refine exec_ok (N := env (lft Try.prog 1) 0 .std tbH [(29, appFn [] [(114, 2)] sHasD)] [(7, [(9999, true), (0, true), (1, true), (2, true), (4, true), (5, true), (6, true), (9, true), (10, true), (11, true), (3003, false), (7, false), (8, false), (12, false), (13, true), (2999, false), (7, false), (3, false), (8, false), (12, false), (13, true), (2999, false)]), (10, [(0, true), (1, true), (2, true), (3, true), (4, true), (5, true), (6, true), (7, true), (1008, false), (8, false), (9, true)]), (13, [(0, true), (1, true), (2, true), (3, true), (4, true), (5, true), (6, true), (1007, false), (7, false), (8, true)])]) rfl tbH_ok hC (fun c st K _ h => h) (by kernel_rfl) [] _ _ _ (by kernel_rfl) ?_
      generalize hg0 : (List.length : List Rg → Nat) = g0
      generalize hL : lft Try.prog _ = L
      try unfold rgG
      generalize ho0 : @rA = zo0, ho1 : @rB = zo1, ho2 : @rgL = zo2, ho3 : @mayN = zo3, ho4 : @runs = zo4, ho5 : @hasL = zo5, ho6 : @rgPreD = zo6, ho7 : @goodPreD = zo7, ho8 : @addL = zo8, ho9 : @hdM = zo9, ho10 : @glue = zo10, ho11 : @cutN = zo11
      generalize hA : Arith.std = A
      cbv
      subst hA hg0 hL ho0 ho1 ho2 ho3 ho4 ho5 ho6 ho7 ho8 ho9 ho10 ho11
      have e1 : ((c : Int) + 1).toNat = c + 1 := by omega
      have e0 : ((c : Int) + 1 - 0).toNat = c + 1 := by omega
      have e2 : ((c : Int) + 2).toNat = c + 2 := by omega
      have t1 : fitStd .i64 ((c : Int) + 1) := by unfold fitStd; omega
      refine Need.mk t1 fun _ => ?_
      refine Ife.mk (fun h => ?_) (fun h => ?_)
      · have h : (c : Int) + 1 < ((n + 1 : Nat) : Int) := of_decide_eq_true (p := (c : Int) + 1 < ((n + 1 : Nat) : Int)) h
        obtain ⟨⟨a, d⟩, R', hRR⟩ := List.exists_cons_of_ne_nil (l := R) (fun e => by rw [e] at hRl; simp at hRl; omega)
        subst hRR
        rw [List.length_cons] at hRl
        have va : rA L1 ((c : Int) + 1).toNat = a := by rw [e1, hL1, ← hPl]; exact rA_app P ((x, x) :: (a, d) :: R') 1
        have vd : rB L1 ((c : Int) + 1).toNat = d := by rw [e1, hL1, ← hPl]; exact rB_app P ((x, x) :: (a, d) :: R') 1
        have t2 : 0 ≤ (c : Int) + 1 ∧ (c : Int) + 1 < ((n + 1 : Nat) : Int) := by omega
        have t3 : ((c : Int) + 1).toNat < n + 1 := by omega
        refine Need.mk t1 fun _ => Need.mk t2 fun _ => Need.mk t3 fun _ => Need.mk (by show fitStd .i64 (x + 1); unfold fitStd; omega) fun _ => ?_
        refine Ife.mk (fun h2 => ?_) (fun h2 => ?_)
        · have h2 : a = x + 1 := by
            have := of_decide_eq_true (p := rA L1 ((c : Int) + 1).toNat = x + 1) h2
            rwa [va] at this
          have e5 : hdM x ((a, d) :: R') = (d, R') := if_pos h2
          rw [e5] at hm2 hR2
          obtain rfl : d = m2 := hm2
          obtain rfl : R' = R2 := hR2
          refine Need.mk t1 fun _ => Need.mk t2 fun _ => Need.mk t3 fun _ => Need.mk (show 0 ≤ (c : Int) ∧ (c : Int) < ((n + 1 : Nat) : Int) by omega) fun _ => Need.mk (show c < n + 1 by omega) fun _ => Need.mk t1 fun _ => ?_
          refine Need.mk (show 0 ≤ (0 : Int) ∧ (0 : Int) ≤ (c : Int) + 1 ∧ (c : Int) + 1 ≤ ((n + 1 : Nat) : Int) by omega) fun _ => Need.mk (by show fitStd .i64 ((c : Int) + 2); unfold fitStd; omega) fun _ => ?_
          refine Need.mk (show 0 ≤ (c : Int) + 2 ∧ (c : Int) + 2 ≤ ((n + 1 : Nat) : Int) ∧ ((n + 1 : Nat) : Int) ≤ ((n + 1 : Nat) : Int) by omega) fun _ => ?_
          refine Need.mk ⟨rfl, (by show ((c : Int) + 1 - 0).toNat + (((n + 1 : Nat) : Int) - ((c : Int) + 2)).toNat ≤ maxLen ∧ (((c : Int) + 1 - 0).toNat + (((n + 1 : Nat) : Int) - ((c : Int) + 2)).toNat) * 16 ≤ 140737488355328; unfold maxLen; omega), fun i hi => up_len⟩ fun _ => ?_
          refine ⟨⟨[0, 2], rfl, (by show List.Nodup [2]; decide), (by repeat' (first | exact trivial | exact rfl | apply And.intro | exact (fun _ _ _ _ => Cell.le_refl _) | (intro i hi; rfl) | (intro i hi; exact absurd hi (Nat.not_lt_zero _)))), ?_⟩, trivial⟩
          repeat' (first | exact trivial | exact rfl | apply And.intro)
          · refine (nat_match ((c : Int) + 1 - 0).toNat (((n + 1 : Nat) : Int) - ((c : Int) + 2)).toNat).trans ?_
            omega
          · intro i hi
            show catG ((c : Int) + 1 - 0).toNat (upG (rgG L1) c 1 [.int .i64 (rB L1 ((c : Int) + 1).toNat)]) (fun i => upG (rgG L1) c 1 [.int .i64 (rB L1 ((c : Int) + 1).toNat)] (((c : Int) + 2).toNat + i)) i = rgG L2 i
            rw [e0, e2, vd, hL2, ← hPl]
            exact join_rg (r := (x, x)) (s := (a, d)) hL1 i (by rw [hPl, hN2]; exact hi)
        · have h2 : ¬ a = x + 1 := by
            have := of_decide_eq_false (p := rA L1 ((c : Int) + 1).toNat = x + 1) h2
            rwa [va] at this
          have e5 : hdM x ((a, d) :: R') = (x, (a, d) :: R') := if_neg h2
          rw [e5] at hm2 hR2
          obtain rfl : x = m2 := hm2
          obtain rfl : (a, d) :: R' = R2 := hR2
          obtain rfl : L1 = L2 := hL1.trans hL2.symm
          refine ⟨⟨[0, 1], rfl, (by show List.Nodup [1]; decide), (by repeat' (first | exact trivial | exact rfl | apply And.intro | exact (fun _ _ _ _ => Cell.le_refl _) | (intro i hi; rfl) | (intro i hi; exact absurd hi (Nat.not_lt_zero _)))), ?_⟩, trivial⟩
          repeat' (first | exact trivial | exact rfl | apply And.intro | exact fun i hi => rfl)
          show n + 1 = N2
          rw [← hN2, List.length_cons]
          omega
      · have h : ¬ (c : Int) + 1 < ((n + 1 : Nat) : Int) := of_decide_eq_false (p := (c : Int) + 1 < ((n + 1 : Nat) : Int)) h
        have hR0 : R = [] := List.length_eq_zero_iff.mp (by omega)
        subst hR0
        obtain rfl : x = m2 := hm2
        obtain rfl : [] = R2 := hR2
        obtain rfl : L1 = L2 := hL1.trans hL2.symm
        refine ⟨⟨[0, 1], rfl, (by show List.Nodup [1]; decide), (by repeat' (first | exact trivial | exact rfl | apply And.intro | exact (fun _ _ _ _ => Cell.le_refl _) | (intro i hi; rfl) | (intro i hi; exact absurd hi (Nat.not_lt_zero _)))), ?_⟩, trivial⟩
        repeat' (first | exact trivial | exact rfl | apply And.intro | exact fun i hi => rfl)
        show n + 1 = N2
        rw [← hN2]
        simp
        omega
    have hn2 : N2 ≤ n + 1 := by
      have := addM_len (P := P) (R := R) (n := x)
      have e : (hdM x R).2.length ≤ R.length := by
        cases R with
        | nil => exact Nat.le_refl _
        | cons r R =>
          obtain ⟨a, d⟩ := r
          by_cases h : a = x + 1
          · rw [show hdM x ((a, d) :: R) = (d, R) from if_pos h]; simp
          · rw [show hdM x ((a, d) :: R) = (x, (a, d) :: R) from if_neg h]; exact Nat.le_refl _
      rw [hR2] at e
      omega
    clear hm2 hR2 hL1 L1
    refine Runs.cut ⟨[.any, .any, .any, .any, .any, .c (.row 1)] ++ List.replicate 110 .any, [.elems 114 2 n (rgG L), .row 114 2 F.length (rgG F)]⟩ True ?_ fun _ => ?_
    · refine exec_ok (N := env (lft Try.prog 1) 0 .std tbH [(29, appFn [] [(114, 2)] sHasD)] [(7, [(9999, true), (0, true), (1, true), (2, true), (4, true), (5, true), (6, true), (9, true), (10, true), (11, true), (3003, false), (7, false), (8, false), (12, false), (13, true), (2999, false), (7, false), (3, false), (8, false), (12, false), (13, true), (2999, false)]), (10, [(0, true), (1, true), (2, true), (3, true), (4, true), (5, true), (6, true), (7, true), (1008, false), (8, false), (9, true)]), (13, [(0, true), (1, true), (2, true), (3, true), (4, true), (5, true), (6, true), (1007, false), (7, false), (8, true)])]) rfl tbH_ok hC (fun c st K _ h => h) (by kernel_rfl) [] _ _ _ (by kernel_rfl) ?_
      generalize hg0 : (List.length : List Rg → Nat) = g0
      generalize hL : lft Try.prog _ = L
      try unfold rgG
      generalize ho0 : @rA = zo0, ho1 : @rB = zo1, ho2 : @rgL = zo2, ho3 : @mayN = zo3, ho4 : @runs = zo4, ho5 : @hasL = zo5, ho6 : @rgPreD = zo6, ho7 : @goodPreD = zo7, ho8 : @addL = zo8, ho9 : @hdM = zo9, ho10 : @glue = zo10, ho11 : @cutN = zo11
      generalize hA : Arith.std = A
      cbv
      subst hA hg0 hL ho0 ho1 ho2 ho3 ho4 ho5 ho6 ho7 ho8 ho9 ho10 ho11
      have e1 : ((c : Int) - 0).toNat = c := by omega
      have e2 : ((c : Int) + 1).toNat = c + 1 := by omega
      refine Ife.mk (fun h => ?_) (fun h => ?_)
      · have h : 0 < (c : Int) := of_decide_eq_true (p := 0 < (c : Int)) h
        obtain ⟨P', a, b, eP, -, hl⟩ := last_of (l := P) (by omega)
        have hc1 : c = P'.length + 1 := by omega
        have eL2 : L2 = P' ++ (a, b) :: (x, m2) :: R2 := by rw [hL2, eP]; simp
        have e3 : ((c : Int) - 1).toNat = P'.length := by omega
        have vb : rB L2 ((c : Int) - 1).toNat = b := by rw [e3, eL2]; exact rB_app P' _ 0
        have vm : rB L2 c = m2 := by rw [hc1, eL2]; exact rB_app P' _ 1
        have t1 : fitStd .i64 ((c : Int) - 1) := by unfold fitStd; omega
        have t2 : 0 ≤ (c : Int) - 1 ∧ (c : Int) - 1 < ((N2 : Nat) : Int) := by omega
        have t3 : ((c : Int) - 1).toNat < N2 := by omega
        refine Need.mk t1 fun _ => Need.mk t2 fun _ => Need.mk t3 fun _ => Need.mk (by show fitStd .i64 (x - 1); unfold fitStd; omega) fun _ => ?_
        rw [eP, glue_snoc] at eA
        refine Ife.mk (fun h2 => ?_) (fun h2 => ?_)
        · have h2 : b = x - 1 := by
            have := of_decide_eq_true (p := rB L2 ((c : Int) - 1).toNat = x - 1) h2
            rwa [vb] at this
          rw [if_pos h2] at eA
          refine Need.mk t1 fun _ => Need.mk (show 0 ≤ (c : Int) ∧ (c : Int) < ((N2 : Nat) : Int) by omega) fun _ => Need.mk (show c < N2 by omega) fun _ => Need.mk t2 fun _ => Need.mk t3 fun _ => ?_
          refine Need.mk (show 0 ≤ (0 : Int) ∧ (0 : Int) ≤ (c : Int) ∧ (c : Int) ≤ ((N2 : Nat) : Int) by omega) fun _ => Need.mk (by show fitStd .i64 ((c : Int) + 1); unfold fitStd; omega) fun _ => ?_
          refine Need.mk (show 0 ≤ (c : Int) + 1 ∧ (c : Int) + 1 ≤ ((N2 : Nat) : Int) ∧ ((N2 : Nat) : Int) ≤ ((N2 : Nat) : Int) by omega) fun _ => ?_
          refine Need.mk ⟨rfl, (by show ((c : Int) - 0).toNat + (((N2 : Nat) : Int) - ((c : Int) + 1)).toNat ≤ maxLen ∧ (((c : Int) - 0).toNat + (((N2 : Nat) : Int) - ((c : Int) + 1)).toNat) * 16 ≤ 140737488355328; unfold maxLen; omega), fun i hi => up_len⟩ fun _ => ?_
          refine ⟨⟨[0, 2], rfl, (by show List.Nodup [2]; decide), (by repeat' (first | exact trivial | exact rfl | apply And.intro | exact (fun _ _ _ _ => Cell.le_refl _) | (intro i hi; rfl) | (intro i hi; exact absurd hi (Nat.not_lt_zero _)))), ?_⟩, trivial⟩
          have hFl : F.length = P'.length + 1 + R2.length := by rw [eA]; simp; omega
          repeat' (first | exact trivial | exact rfl | apply And.intro)
          · refine (nat_match ((c : Int) - 0).toNat (((N2 : Nat) : Int) - ((c : Int) + 1)).toNat).trans ?_
            omega
          · intro i hi
            show catG ((c : Int) - 0).toNat (upG (rgG L2) ((c : Int) - 1).toNat 1 [.int .i64 (rB L2 c)]) (fun i => upG (rgG L2) ((c : Int) - 1).toNat 1 [.int .i64 (rB L2 c)] (((c : Int) + 1).toNat + i)) i = rgG F i
            rw [e1, e2, e3, vm, eA, hc1]
            exact join_rg (r := (a, b)) (s := (x, m2)) eL2 i (by rw [← hFl]; exact hi)
        · have h2 : ¬ b = x - 1 := by
            have := of_decide_eq_false (p := rB L2 ((c : Int) - 1).toNat = x - 1) h2
            rwa [vb] at this
          rw [if_neg h2] at eA
          obtain rfl : F = L2 := eA.trans eL2.symm
          refine ⟨⟨[0, 1], rfl, (by show List.Nodup [1]; decide), (by repeat' (first | exact trivial | exact rfl | apply And.intro | exact (fun _ _ _ _ => Cell.le_refl _) | (intro i hi; rfl) | (intro i hi; exact absurd hi (Nat.not_lt_zero _)))), ?_⟩, trivial⟩
          repeat' (first | exact trivial | exact rfl | apply And.intro | exact fun i hi => rfl)
          rw [hL2]
          simp
          omega
      · have h : ¬ 0 < (c : Int) := of_decide_eq_false (p := 0 < (c : Int)) h
        have hP0 : P = [] := List.length_eq_zero_iff.mp (by omega)
        rw [hP0] at eA hL2
        obtain rfl : F = L2 := eA.trans hL2.symm
        refine ⟨⟨[0, 1], rfl, (by show List.Nodup [1]; decide), (by repeat' (first | exact trivial | exact rfl | apply And.intro | exact (fun _ _ _ _ => Cell.le_refl _) | (intro i hi; rfl) | (intro i hi; exact absurd hi (Nat.not_lt_zero _)))), ?_⟩, trivial⟩
        repeat' (first | exact trivial | exact rfl | apply And.intro | exact fun i hi => rfl)
        rw [hL2]
        simp
        omega
    refine exec_ok (N := env (lft Try.prog 1) 0 .std tbH [(29, appFn [] [(114, 2)] sHasD)] [(7, [(9999, true), (0, true), (1, true), (2, true), (4, true), (5, true), (6, true), (9, true), (10, true), (11, true), (3003, false), (7, false), (8, false), (12, false), (13, true), (2999, false), (7, false), (3, false), (8, false), (12, false), (13, true), (2999, false)]), (10, [(0, true), (1, true), (2, true), (3, true), (4, true), (5, true), (6, true), (7, true), (1008, false), (8, false), (9, true)]), (13, [(0, true), (1, true), (2, true), (3, true), (4, true), (5, true), (6, true), (1007, false), (7, false), (8, true)])]) rfl tbH_ok hC (fun c st K _ h => h) (by kernel_rfl) [] _ _ _ (by kernel_rfl) ?_
    generalize hg0 : (List.length : List Rg → Nat) = g0
    generalize hL : lft Try.prog _ = L
    try unfold rgG
    generalize ho0 : @rA = zo0, ho1 : @rB = zo1, ho2 : @rgL = zo2, ho3 : @mayN = zo3, ho4 : @runs = zo4, ho5 : @hasL = zo5, ho6 : @rgPreD = zo6, ho7 : @goodPreD = zo7, ho8 : @addL = zo8, ho9 : @hdM = zo9, ho10 : @glue = zo10, ho11 : @cutN = zo11
    generalize hA : Arith.std = A
    cbv
    subst hA hg0 hL ho0 ho1 ho2 ho3 ho4 ho5 ho6 ho7 ho8 ho9 ho10 ho11
    exact ⟨[0, 1], ⟨rfl, rfl, (by show List.Nodup [1]; decide), rfl, by repeat' (first | exact trivial | exact rfl | apply And.intro | (intro i hi; rfl) | (intro i hi; exact absurd hi (Nat.not_lt_zero _)))⟩⟩

end Go.Proofs.Ytcgoaicifjndpaa.Vx
end
