/- One more number among ranges, as the document has it, by the walker. -/
import Derived.Test.YtcgoaicifjndpaaM13
import Derived.Test.YtcgoaicifjndpaaM10
namespace Go.Proofs.Ytcgoaicifjndpaa.Vx
open Go.RowKit Span
set_option linter.unusedVariables false
set_option linter.unusedSimpArgs false
/-- What stands behind the number once it is joined with what follows it. -/
def hdM (x : Int) : List Rg → Int × List Rg
  | [] => (x, [])
  | (c, d) :: R => if c = x + 1 then (d, R) else (x, (c, d) :: R)
theorem addM_hd (P : List Rg) (x : Int) (R : List Rg) : addM P x R = glue P x (hdM x R).1 (hdM x R).2 := by
  cases R with
  | nil => rfl
  | cons r R =>
    obtain ⟨c, d⟩ := r
    rw [addM_cons]
    by_cases h : c = x + 1
    · rw [if_pos h, show hdM x ((c, d) :: R) = (d, R) from if_pos h]
    · rw [if_neg h, show hdM x ((c, d) :: R) = (x, (c, d) :: R) from if_neg h]
theorem rA_app (P Q : List Rg) (k : Nat) : rA (P ++ Q) (P.length + k) = rA Q k := by
  unfold rA
  rw [List.getD_eq_getElem?_getD, List.getD_eq_getElem?_getD, List.getElem?_append_right (by omega), Nat.add_sub_cancel_left]
theorem rB_app (P Q : List Rg) (k : Nat) : rB (P ++ Q) (P.length + k) = rB Q k := by
  unfold rB
  rw [List.getD_eq_getElem?_getD, List.getD_eq_getElem?_getD, List.getElem?_append_right (by omega), Nat.add_sub_cancel_left]
theorem rgG_app (P Q : List Rg) (k : Nat) : rgG (P ++ Q) (P.length + k) = rgG Q k := by
  unfold rgG
  rw [rA_app, rB_app]
theorem rgG_appl (P Q : List Rg) {k : Nat} (h : k < P.length) : rgG (P ++ Q) k = rgG P k := by
  unfold rgG rA rB
  rw [List.getD_eq_getElem?_getD, List.getD_eq_getElem?_getD, List.getElem?_append_left h]
/-- Ranges behind ranges, as cells. -/
theorem cat_rg {A B : List Rg} {k : Nat} (hk : A.length = k) {g g2 : Nat → List CV} (h1 : ∀ i, i < k → g i = rgG A i) (h2 : ∀ i, i < B.length → g2 i = rgG B i) : ∀ i, i < k + B.length → catG k g g2 i = rgG (A ++ B) i := fun i hi => by
  subst hk
  unfold catG
  cases hb : Nat.blt i A.length with
  | true =>
    have h : i < A.length := by rwa [Nat.blt_eq] at hb
    exact (h1 i h).trans (rgG_appl A B h).symm
  | false =>
    have h : ¬ i < A.length := fun h => by rw [← Nat.blt_eq, hb] at h; cases h
    have e : i = A.length + (i - A.length) := by omega
    show g2 (i - A.length) = _
    rw [h2 _ (by omega)]
    conv => rhs; rw [e, rgG_app]
/-- A cut put together again. -/
theorem cut_rg {l : List Rg} {g : Nat → List CV} (hg : ∀ i, i < l.length → g i = rgG l i) {k j : Nat} (hk : k ≤ l.length) (hj : j ≤ l.length) : ∀ i, i < k + (l.length - j) → catG k g (fun i => g (j + i)) i = rgG (l.take k ++ l.drop j) i := by
  have e1 : ∀ i, i < k → rgG (l.take k) i = rgG l i := fun i hi => by
    have := rgG_appl (l.take k) (l.drop k) (k := i) (by rw [List.length_take]; omega)
    rw [List.take_append_drop] at this
    exact this.symm
  have e2 : ∀ i, rgG (l.drop j) i = rgG l (j + i) := fun i => by
    have := rgG_app (l.take j) (l.drop j) i
    rw [List.take_append_drop, List.length_take, Nat.min_eq_left hj] at this
    exact this.symm
  have hl : (l.drop j).length = l.length - j := List.length_drop
  have := cat_rg (A := l.take k) (B := l.drop j) (k := k) (by rw [List.length_take]; omega) (g := g) (g2 := fun i => g (j + i)) (fun i hi => by rw [e1 i hi]; exact hg i (by omega)) (fun i hi => by rw [e2]; exact hg (j + i) (by omega))
  rw [hl] at this
  exact this
theorem cutN_le {l : List Rg} {x : Int} : cutN l x ≤ l.length := (List.takeWhile_sublist _).length_le
theorem take_cut (P : List Rg) (r s : Rg) (Q : List Rg) : (P ++ r :: s :: Q).take (P.length + 1) ++ (P ++ r :: s :: Q).drop (P.length + 2) = P ++ r :: Q := by
  have h1 : (P ++ r :: s :: Q).take (P.length + 1) = P ++ [r] := by
    rw [show P ++ r :: s :: Q = (P ++ [r]) ++ s :: Q by simp]
    exact List.take_left' (by simp)
  have h2 : (P ++ r :: s :: Q).drop (P.length + 2) = Q := by
    rw [show P ++ r :: s :: Q = (P ++ [r, s]) ++ Q by simp]
    exact List.drop_left' (by simp)
  rw [h1, h2]
  simp
/-- A number laid between ranges, as cells. -/
theorem ins_rg {L P R : List Rg} {c : Nat} {x : Int} (hL : L = P ++ R) (hP : P.length = c) : ∀ i, i < c + 1 + R.length → catG (c + 1) (pushG c (fun i => rgG L (0 + i)) [.int .i64 x, .int .i64 x]) (fun i => rgG L (c + i)) i = rgG (P ++ (x, x) :: R) i := by
  subst hL hP
  have := cat_rg (A := P ++ [(x, x)]) (B := R) (k := P.length + 1) (by simp) (g := pushG P.length (fun i => rgG (P ++ R) (0 + i)) [.int .i64 x, .int .i64 x]) (g2 := fun i => rgG (P ++ R) (P.length + i)) (fun i hi => ?_) (fun i hi => rgG_app P R i)
  · rw [show P ++ (x, x) :: R = (P ++ [(x, x)]) ++ R by simp]
    exact this
  · rw [← rgG_push P (x, x) i hi]
    unfold pushG
    cases hb : Nat.blt i P.length with
    | true =>
      show rgG (P ++ R) (0 + i) = rgG P i
      rw [Nat.zero_add]
      exact rgG_appl P R (by rwa [Nat.blt_eq] at hb)
    | false => rfl
/-- A range's end set and the range behind it cut out, as cells. -/
theorem join_rg {Q S : List Rg} {r s : Rg} {v : Int} {l : List Rg} (hl : l = Q ++ r :: s :: S) : ∀ i, i < Q.length + 1 + S.length → catG (Q.length + 1) (upG (rgG l) Q.length 1 [.int .i64 v]) (fun i => upG (rgG l) Q.length 1 [.int .i64 v] (Q.length + 2 + i)) i = rgG (Q ++ (r.1, v) :: S) i := fun i hi => by
  subst hl
  have hq : Q.length < (Q ++ r :: s :: S).length := by simp
  have e0 : rA (Q ++ r :: s :: S) Q.length = r.1 := rA_app Q (r :: s :: S) 0
  have e1 : (Q ++ r :: s :: S).set Q.length (r.1, v) = Q ++ (r.1, v) :: s :: S := by simp
  have := cut_rg (l := Q ++ (r.1, v) :: s :: S) (g := upG (rgG (Q ++ r :: s :: S)) Q.length 1 [.int .i64 v]) (fun i hi => by
    rw [upG_set hq i (by simpa using hi), e0, e1]) (k := Q.length + 1) (j := Q.length + 2) (by simp) (by simp) i (by simp; omega)
  rw [take_cut] at this
  exact this
theorem up_len {l : List Rg} {c i : Nat} {v : CV} : (upG (rgG l) c 1 [v] i).length = 2 := by
  unfold upG
  split <;> rfl
theorem nat_match (a b : Nat) : (match a, b with
    | a, Nat.zero => a
    | a, Nat.succ b => Nat.succ (Nat.add a b)) = a + b := by cases b <;> rfl
/-- How far the search has come. -/
structure LAn (L : List Rg) (x : Int) where
  i : Int
  k : Nat
  hk : i = (k : Int)
  h1 : k ≤ L.length
  h2 : ∀ j, j < k → rB L j < x
attribute [local cbv_opaque] rA rB rgL rgOf good okAt mayN ofL Span.step runs count lacksL iL srt iA countG lkGo lkEnd runR rgPre inPre sortPre imin imax hasL rgPreD goodPreD lacksL addL hdM glue addM cutN
def sAddD : SpecF
  | [.c (.row 0), .c (.int .i64 x)], [.elems ty one n get] => some (goodPreD ty one n get, .c (.row 1), [.dead, .row 114 2 (addL (rgL n get) x).length (rgG (addL (rgL n get) x))])
  | _, _ => none

set_option maxRecDepth 100000 in
set_option maxHeartbeats 16000000 in
theorem addDP : Fn Try.prog 32 [] [(114, 2)] sAddD := by
  have hC : CtsOk Try.prog [(29, appFn [] [(114, 2)] sHasD)] := CtsOk.cons (Fn.ct hasDP) <| CtsOk.nil _
  refine Fn.ofR (E := tbH) tbH_ok Try.func32 rfl rfl rfl (by kernel_rfl) 1 114 2 ?_ ?_
  · intro args h pre r h' hs
    unfold sAddD at hs
    split at hs
    · cases hs; exact ⟨rfl, rfl, Nat.le_of_ble_eq_true rfl⟩
    · cases hs
  · intro args h pre r h' hs hp
    unfold sAddD at hs
    split at hs
    rotate_left
    · cases hs
    rename_i x ty one n get
    cases hs
    obtain ⟨⟨rfl, rfl, hst, hm⟩, hg⟩ := hp
    refine ⟨[.elems 114 2 n (rgG (rgL n get))], hst.same, ?_⟩
    have hL : (rgL n get).length = n := rgL_len
    generalize rgL n get = L at hL hg ⊢
    have eL : rgL n (rgG L) = L := by rw [← hL]; exact rgL_rgG L
    have pL : rgPreD 114 2 n (rgG L) := ⟨rfl, rfl, rgAt_rgG _ _, hm⟩
    refine Runs.cut ⟨[.c (.row 0), .c (.int .i64 x)] ++ List.replicate 114 .any, [.elems 114 2 n (rgG L)]⟩ True ?_ fun _ => ?_
    · refine exec_ok (N := env (lft Try.prog 1) 0 .std tbH [(29, appFn [] [(114, 2)] sHasD)] [(7, [(9999, true), (0, true), (1, true), (2, true), (4, true), (5, true), (6, true), (9, true), (10, true), (11, true), (3003, false), (7, false), (8, false), (12, false), (13, true), (2999, false), (7, false), (3, false), (8, false), (12, false), (13, true), (2999, false)]), (10, [(0, true), (1, true), (2, true), (3, true), (4, true), (5, true), (6, true), (7, true), (1008, false), (8, false), (9, true)]), (13, [(0, true), (1, true), (2, true), (3, true), (4, true), (5, true), (6, true), (1007, false), (7, false), (8, true)])]) rfl tbH_ok hC (fun c st K _ h => h) (by kernel_rfl) [] _ _ _ (by kernel_rfl) ?_
      generalize hg0 : (List.length : List Rg → Nat) = g0
      generalize hL : lft Try.prog _ = L
      generalize hA : Arith.std = A
      set_option cbv.maxSteps 4000000 in cbv
      subst hA hg0 hL
      exact ⟨⟨[0], rfl, (by show List.Nodup []; exact List.nodup_nil), (by repeat' (first | exact trivial | exact rfl | apply And.intro | exact (fun _ _ _ _ => Cell.le_refl _) | (intro i hi; rfl) | (intro i hi; exact absurd hi (Nat.not_lt_zero _)))), (by repeat' (first | exact trivial | exact rfl | apply And.intro | exact (fun _ _ _ _ => Cell.le_refl _) | (intro i hi; rfl) | (intro i hi; exact absurd hi (Nat.not_lt_zero _))))⟩, trivial⟩
    refine Runs.cut ⟨[.c (.row 0), .c (.int .i64 x), .any, .any, .any, .c (.row 1)] ++ List.replicate 110 .any, [.elems 114 2 n (rgG L), .row 114 2 n (rgG L)]⟩ True ?_ fun _ => ?_
    · refine exec_ok (N := env (lft Try.prog 1) 0 .std tbH [(29, appFn [] [(114, 2)] sHasD)] [(7, [(9999, true), (0, true), (1, true), (2, true), (4, true), (5, true), (6, true), (9, true), (10, true), (11, true), (3003, false), (7, false), (8, false), (12, false), (13, true), (2999, false), (7, false), (3, false), (8, false), (12, false), (13, true), (2999, false)]), (10, [(0, true), (1, true), (2, true), (3, true), (4, true), (5, true), (6, true), (7, true), (1008, false), (8, false), (9, true)]), (13, [(0, true), (1, true), (2, true), (3, true), (4, true), (5, true), (6, true), (1007, false), (7, false), (8, true)])]) rfl tbH_ok hC (fun c st K _ h => h) (by kernel_rfl) [] _ _ _ (by kernel_rfl) ?_
      generalize hg0 : (List.length : List Rg → Nat) = g0
      generalize hL : lft Try.prog _ = L
      generalize hA : Arith.std = A
      set_option cbv.maxSteps 4000000 in cbv
      subst hA hg0 hL
      refine Need.mk ⟨(by show 0 + n ≤ maxLen ∧ (0 + n) * 16 ≤ 140737488355328; unfold maxLen; omega), fun i hi => rfl⟩ fun _ => ?_
      exact ⟨⟨[0, 1], rfl, (by show List.Nodup [1]; decide), (by repeat' (first | exact trivial | exact rfl | apply And.intro | exact (fun _ _ _ _ => Cell.le_refl _) | (intro i hi; rfl) | (intro i hi; exact absurd hi (Nat.not_lt_zero _)))), (by repeat' (first | exact trivial | exact rfl | apply And.intro | exact (fun _ _ _ _ => Cell.le_refl _) | (intro i hi; rfl) | (intro i hi; exact absurd hi (Nat.not_lt_zero _))))⟩, trivial⟩
    refine Runs.cut ⟨[.c (.row 0), .c (.int .i64 x), .any, .any, .any, .c (.row 1)] ++ List.replicate 110 .any, [.elems 114 2 n (rgG L), .row 114 2 n (rgG L)]⟩ (mayN x = true ∧ hasL L x = false) ?_ fun hq => ?_
    · refine exec_ok (N := env (lft Try.prog 1) 0 .std tbH [(29, appFn [] [(114, 2)] sHasD)] [(7, [(9999, true), (0, true), (1, true), (2, true), (4, true), (5, true), (6, true), (9, true), (10, true), (11, true), (3003, false), (7, false), (8, false), (12, false), (13, true), (2999, false), (7, false), (3, false), (8, false), (12, false), (13, true), (2999, false)]), (10, [(0, true), (1, true), (2, true), (3, true), (4, true), (5, true), (6, true), (7, true), (1008, false), (8, false), (9, true)]), (13, [(0, true), (1, true), (2, true), (3, true), (4, true), (5, true), (6, true), (1007, false), (7, false), (8, true)])]) rfl tbH_ok hC (fun c st K _ h => h) (by kernel_rfl) [] _ _ _ (by kernel_rfl) ?_
      unfold sHasD
      generalize hg0 : (List.length : List Rg → Nat) = g0
      generalize hL : lft Try.prog _ = L
      generalize hA : Arith.std = A
      set_option cbv.maxSteps 4000000 in cbv
      subst hA hg0 hL
      refine Ife.mk (fun h => ?_) (fun h1 => ?_)
      · have h : x < 0 := of_decide_eq_true (p := x < 0) h
        rw [show addL L x = L from if_neg (fun e => by have := mayN_iff.1 e.1; omega), hL]
        exact ⟨[0, 1], ⟨rfl, rfl, (by show List.Nodup [1]; decide), rfl, by repeat' (first | exact trivial | exact rfl | apply And.intro | (intro i hi; rfl) | (intro i hi; exact absurd hi (Nat.not_lt_zero _)))⟩⟩
      have h1 : ¬ x < 0 := of_decide_eq_false (p := x < 0) h1
      refine Ife.mk (fun h => ?_) (fun h2 => ?_)
      · have h : 72057594037927935 < x := of_decide_eq_true (p := 72057594037927935 < x) h
        rw [show addL L x = L from if_neg (fun e => by have := mayN_iff.1 e.1; omega), hL]
        exact ⟨[0, 1], ⟨rfl, rfl, (by show List.Nodup [1]; decide), rfl, by repeat' (first | exact trivial | exact rfl | apply And.intro | (intro i hi; rfl) | (intro i hi; exact absurd hi (Nat.not_lt_zero _)))⟩⟩
      have h2 : ¬ 72057594037927935 < x := of_decide_eq_false (p := 72057594037927935 < x) h2
      refine Need.mk pL fun _ => ?_
      rw [eL]
      refine Ife.mk (fun h => ?_) (fun h3 => ?_)
      · rw [show addL L x = L from if_neg (fun e => e.2 (hasL_iff.1 h)), hL]
        exact ⟨[0, 1], ⟨rfl, rfl, (by show List.Nodup [1]; decide), rfl, by repeat' (first | exact trivial | exact rfl | apply And.intro | (intro i hi; rfl) | (intro i hi; exact absurd hi (Nat.not_lt_zero _)))⟩⟩
      exact ⟨⟨[0, 1], rfl, (by show List.Nodup [1]; decide), (by repeat' (first | exact trivial | exact rfl | apply And.intro | exact (fun _ _ _ _ => Cell.le_refl _) | (intro i hi; rfl) | (intro i hi; exact absurd hi (Nat.not_lt_zero _)))), (by repeat' (first | exact trivial | exact rfl | apply And.intro | exact (fun _ _ _ _ => Cell.le_refl _) | (intro i hi; rfl) | (intro i hi; exact absurd hi (Nat.not_lt_zero _))))⟩, mayN_iff.2 (by omega), h3⟩
    refine Runs.cut ⟨[.any, .c (.int .i64 x), .any, .any, .any, .c (.row 1), .c (.int .i64 0)] ++ List.replicate 109 .any, [.elems 114 2 n (rgG L), .row 114 2 n (rgG L)]⟩ True ?_ fun _ => ?_
    · refine exec_ok (N := env (lft Try.prog 1) 0 .std tbH [(29, appFn [] [(114, 2)] sHasD)] [(7, [(9999, true), (0, true), (1, true), (2, true), (4, true), (5, true), (6, true), (9, true), (10, true), (11, true), (3003, false), (7, false), (8, false), (12, false), (13, true), (2999, false), (7, false), (3, false), (8, false), (12, false), (13, true), (2999, false)]), (10, [(0, true), (1, true), (2, true), (3, true), (4, true), (5, true), (6, true), (7, true), (1008, false), (8, false), (9, true)]), (13, [(0, true), (1, true), (2, true), (3, true), (4, true), (5, true), (6, true), (1007, false), (7, false), (8, true)])]) rfl tbH_ok hC (fun c st K _ h => h) (by kernel_rfl) [] _ _ _ (by kernel_rfl) ?_
      generalize hg0 : (List.length : List Rg → Nat) = g0
      generalize hL : lft Try.prog _ = L
      generalize hA : Arith.std = A
      set_option cbv.maxSteps 4000000 in cbv
      subst hA hg0 hL
      exact ⟨⟨[0, 1], rfl, (by show List.Nodup [1]; decide), (by repeat' (first | exact trivial | exact rfl | apply And.intro | exact (fun _ _ _ _ => Cell.le_refl _) | (intro i hi; rfl) | (intro i hi; exact absurd hi (Nat.not_lt_zero _)))), (by repeat' (first | exact trivial | exact rfl | apply And.intro | exact (fun _ _ _ _ => Cell.le_refl _) | (intro i hi; rfl) | (intro i hi; exact absurd hi (Nat.not_lt_zero _))))⟩, trivial⟩
    have hnot : ¬ x ∈ runs L := fun h => by
      have := hasL_iff.2 h
      rw [hq.2] at this
      cases this
    have hb := mayN_iff.1 hq.1
    obtain ⟨c, hc⟩ : ∃ c, cutN L x = c := ⟨_, rfl⟩
    refine Runs.cut ⟨[.any, .c (.int .i64 x), .any, .any, .any, .c (.row 1), .c (.int .i64 (c : Int))] ++ List.replicate 109 .any, [.elems 114 2 n (rgG L), .row 114 2 n (rgG L)]⟩ True ?_ fun _ => ?_
    · refine exec_ok (N := env (lft Try.prog 1) 0 .std tbH [(29, appFn [] [(114, 2)] sHasD)] [(7, [(9999, true), (0, true), (1, true), (2, true), (4, true), (5, true), (6, true), (9, true), (10, true), (11, true), (3003, false), (7, false), (8, false), (12, false), (13, true), (2999, false), (7, false), (3, false), (8, false), (12, false), (13, true), (2999, false)]), (10, [(0, true), (1, true), (2, true), (3, true), (4, true), (5, true), (6, true), (7, true), (1008, false), (8, false), (9, true)]), (13, [(0, true), (1, true), (2, true), (3, true), (4, true), (5, true), (6, true), (1007, false), (7, false), (8, true)])]) rfl tbH_ok hC (fun c st K _ h => h) (by kernel_rfl) [] _ _ _ (by kernel_rfl) ?_
      generalize hg0 : (List.length : List Rg → Nat) = g0
      generalize hL : lft Try.prog _ = L
      generalize hA : Arith.std = A
      set_option cbv.maxSteps 4000000 in cbv
      subst hA hg0 hL
      show Runs Try.prog 1 (.loop _) _ _
      refine loop_ruleR (N := env (lft Try.prog 1) 0 .std tbH [(29, appFn [] [(114, 2)] sHasD)] [(7, [(9999, true), (0, true), (1, true), (2, true), (4, true), (5, true), (6, true), (9, true), (10, true), (11, true), (3003, false), (7, false), (8, false), (12, false), (13, true), (2999, false), (7, false), (3, false), (8, false), (12, false), (13, true), (2999, false)]), (10, [(0, true), (1, true), (2, true), (3, true), (4, true), (5, true), (6, true), (7, true), (1008, false), (8, false), (9, true)]), (13, [(0, true), (1, true), (2, true), (3, true), (4, true), (5, true), (6, true), (1007, false), (7, false), (8, true)])]) rfl tbH_ok hC (fun c st K _ h => h) (by kernel_rfl) [] (X := LAn L x)
        (S := fun y => ⟨[.any, .c (.int .i64 x), .any, .any, .any, .c (.row 1), .c (.int .i64 y.i)] ++ List.replicate 109 .any, [.elems 114 2 n (rgG L), .row 114 2 n (rgG L)]⟩) (μ := fun y => L.length - y.k) ⟨0, 0, rfl, Nat.zero_le _, fun j hj => absurd hj (by omega)⟩ (by kernel_rfl) [0, 1] ?_ ?_
      · refine ⟨rfl, by decide, ?_, ?_⟩ <;> repeat' (first | exact trivial | exact rfl | apply And.intro | exact (fun _ _ _ _ => Cell.le_refl _) | (intro i hi; rfl) | (intro i hi; exact absurd hi (Nat.not_lt_zero _)))
      rintro ⟨i, k, hk, h1, h2⟩
      replace hk : i = @Nat.cast Int instNatCastInt k := hk
      subst hk
      generalize hg0 : (List.length : List Rg → Nat) = g0
      generalize hL : lft Try.prog _ = L
      generalize hA : Arith.std = A
      set_option cbv.maxSteps 4000000 in cbv
      subst hA hg0 hL
      refine Ife.mk (fun hlt => ?_) (fun hlt => ?_)
      · replace hlt : (k : Int) < @Nat.cast Int instNatCastInt n := of_decide_eq_true (p := (k : Int) < (n : Int)) hlt
        refine Need.mk (show 0 ≤ (k : Int) ∧ (k : Int) < (n : Int) by omega) fun _ => Need.mk (show k < n by omega) fun _ => ?_
        refine Ife.mk (fun h => ?_) (fun h => ?_)
        · have h : rB L k < x := of_decide_eq_true (p := rB L k < x) h
          refine Need.mk (by show fitStd .i64 ((k : Int) + 1); unfold fitStd; omega) fun _ => ?_
          refine ⟨⟨(k : Int) + 1, k + 1, by omega, by omega, fun j hj => ?_⟩, [0, 1], (by show L.length - (k + 1) < L.length - k; omega), ?_⟩
          · by_cases hjk : j = k
            · rw [hjk]; exact h
            · exact h2 j (by omega)
          · refine ⟨rfl, by decide, ?_, ?_⟩ <;> repeat' (first | exact trivial | exact rfl | apply And.intro | exact (fun _ _ _ _ => Cell.le_refl _) | (intro i hi; rfl) | (intro i hi; exact absurd hi (Nat.not_lt_zero _)))
        · have h : ¬ rB L k < x := of_decide_eq_false (p := rB L k < x) h
          obtain rfl : c = k := by rw [← hc]; exact cutN_eq (by omega) h2 (fun _ => h)
          exact ⟨⟨[0, 1], rfl, (by show List.Nodup [1]; decide), (by repeat' (first | exact trivial | exact rfl | apply And.intro | exact (fun _ _ _ _ => Cell.le_refl _) | (intro i hi; rfl) | (intro i hi; exact absurd hi (Nat.not_lt_zero _)))), (by repeat' (first | exact trivial | exact rfl | apply And.intro | exact (fun _ _ _ _ => Cell.le_refl _) | (intro i hi; rfl) | (intro i hi; exact absurd hi (Nat.not_lt_zero _))))⟩, trivial⟩
      · replace hlt : ¬ (k : Int) < @Nat.cast Int instNatCastInt n := of_decide_eq_false (p := (k : Int) < (n : Int)) hlt
        obtain rfl : c = k := by rw [← hc]; exact cutN_eq (by omega) h2 (fun _ => by omega)
        exact ⟨⟨[0, 1], rfl, (by show List.Nodup [1]; decide), (by repeat' (first | exact trivial | exact rfl | apply And.intro | exact (fun _ _ _ _ => Cell.le_refl _) | (intro i hi; rfl) | (intro i hi; exact absurd hi (Nat.not_lt_zero _)))), (by repeat' (first | exact trivial | exact rfl | apply And.intro | exact (fun _ _ _ _ => Cell.le_refl _) | (intro i hi; rfl) | (intro i hi; exact absurd hi (Nat.not_lt_zero _))))⟩, trivial⟩
    have hcl : c ≤ L.length := by rw [← hc]; exact cutN_le
    obtain ⟨P, hP⟩ : ∃ P, L.take c = P := ⟨_, rfl⟩
    obtain ⟨R, hR⟩ : ∃ R, L.drop c = R := ⟨_, rfl⟩
    have hPl : P.length = c := by rw [← hP, List.length_take]; omega
    have hRl : R.length = n - c := by rw [← hR, List.length_drop, hL]
    have eLR : L = P ++ R := by rw [← hP, ← hR, List.take_append_drop]
    have eA : addL L x = glue P x (hdM x R).1 (hdM x R).2 := by
      unfold addL
      rw [if_pos ⟨hq.1, hnot⟩, hc, hP, hR, addM_hd]
    have e43 : ((n : Int) - (c : Int)).toNat = R.length := by omega
    obtain ⟨F, hF⟩ : ∃ F, addL L x = F := ⟨_, rfl⟩
    rw [hF] at eA ⊢
    obtain ⟨m2, hm2⟩ : ∃ m2, (hdM x R).1 = m2 := ⟨_, rfl⟩
    obtain ⟨R2, hR2⟩ : ∃ R2, (hdM x R).2 = R2 := ⟨_, rfl⟩
    rw [hm2, hR2] at eA
    obtain ⟨L1, hL1⟩ : ∃ L1, L1 = P ++ (x, x) :: R := ⟨_, rfl⟩
    obtain ⟨L2, hL2⟩ : ∃ L2, L2 = P ++ (x, m2) :: R2 := ⟨_, rfl⟩
    refine Runs.cut ⟨[.any, .c (.int .i64 x), .any, .any, .any, .c (.row 1), .c (.int .i64 (c : Int))] ++ List.replicate 109 .any, [.elems 114 2 n (rgG L), .row 114 2 (n + 1) (rgG L1)]⟩ True ?_ fun _ => ?_
    · refine exec_ok (N := env (lft Try.prog 1) 0 .std tbH [(29, appFn [] [(114, 2)] sHasD)] [(7, [(9999, true), (0, true), (1, true), (2, true), (4, true), (5, true), (6, true), (9, true), (10, true), (11, true), (3003, false), (7, false), (8, false), (12, false), (13, true), (2999, false), (7, false), (3, false), (8, false), (12, false), (13, true), (2999, false)]), (10, [(0, true), (1, true), (2, true), (3, true), (4, true), (5, true), (6, true), (7, true), (1008, false), (8, false), (9, true)]), (13, [(0, true), (1, true), (2, true), (3, true), (4, true), (5, true), (6, true), (1007, false), (7, false), (8, true)])]) rfl tbH_ok hC (fun c st K _ h => h) (by kernel_rfl) [] _ _ _ (by kernel_rfl) ?_
      generalize hg0 : (List.length : List Rg → Nat) = g0
      generalize hL : lft Try.prog _ = L
      generalize hA : Arith.std = A
      set_option cbv.maxSteps 4000000 in cbv
      subst hA hg0 hL
      have f1 : 0 + c ≤ maxLen ∧ (0 + c) * 16 ≤ 140737488355328 := by unfold maxLen; omega
      have f2 : c + 1 ≤ maxLen ∧ (c + 1) * 16 ≤ 140737488355328 := by unfold maxLen; omega
      have f3 : (c + 1) + ((n : Int) - (c : Int)).toNat ≤ maxLen ∧ ((c + 1) + ((n : Int) - (c : Int)).toNat) * 16 ≤ 140737488355328 := by unfold maxLen; omega
      refine Need.mk (show 0 ≤ (0 : Int) ∧ (0 : Int) ≤ (c : Int) ∧ (c : Int) ≤ (n : Int) by omega) fun _ => Need.mk (show 0 ≤ (c : Int) ∧ (c : Int) ≤ (n : Int) ∧ (n : Int) ≤ (n : Int) by omega) fun _ => ?_
      refine Both.mk ?_ ?_
      all_goals
        refine Need.mk ⟨f1, fun i hi => rfl⟩ fun _ => Need.mk f2 fun _ => Need.mk ⟨f3, fun i hi => rfl⟩ fun _ => ?_
        refine ⟨⟨[0, 5], rfl, (by show List.Nodup [5]; decide), (by repeat' (first | exact trivial | exact rfl | apply And.intro | exact (fun _ _ _ _ => Cell.le_refl _) | (intro i hi; rfl) | (intro i hi; exact absurd hi (Nat.not_lt_zero _)))), ?_⟩, trivial⟩
        repeat' (first | exact trivial | exact rfl | apply And.intro)
        · refine (nat_match (c + 1) (((n : Int) - (c : Int)).toNat)).trans ?_
          omega
        · rw [hL1]
          exact fun i hi => ins_rg eLR hPl i (by omega)
    obtain ⟨N2, hN2⟩ : ∃ N2, c + 1 + R2.length = N2 := ⟨_, rfl⟩
    refine Runs.cut ⟨[.any, .c (.int .i64 x), .any, .any, .any, .c (.row 1), .c (.int .i64 (c : Int))] ++ List.replicate 109 .any, [.elems 114 2 n (rgG L), .row 114 2 N2 (rgG L2)]⟩ True ?_ fun _ => ?_
    · refine exec_ok (N := env (lft Try.prog 1) 0 .std tbH [(29, appFn [] [(114, 2)] sHasD)] [(7, [(9999, true), (0, true), (1, true), (2, true), (4, true), (5, true), (6, true), (9, true), (10, true), (11, true), (3003, false), (7, false), (8, false), (12, false), (13, true), (2999, false), (7, false), (3, false), (8, false), (12, false), (13, true), (2999, false)]), (10, [(0, true), (1, true), (2, true), (3, true), (4, true), (5, true), (6, true), (7, true), (1008, false), (8, false), (9, true)]), (13, [(0, true), (1, true), (2, true), (3, true), (4, true), (5, true), (6, true), (1007, false), (7, false), (8, true)])]) rfl tbH_ok hC (fun c st K _ h => h) (by kernel_rfl) [] _ _ _ (by kernel_rfl) ?_
      generalize hg0 : (List.length : List Rg → Nat) = g0
      generalize hL : lft Try.prog _ = L
      generalize hA : Arith.std = A
      set_option cbv.maxSteps 4000000 in cbv
      subst hA hg0 hL
      have e1 : ((c : Int) + 1).toNat = c + 1 := by omega
      have e0 : ((c : Int) + 1 - 0).toNat = c + 1 := by omega
      have e2 : ((c : Int) + 2).toNat = c + 2 := by omega
      have t1 : fitStd .i64 ((c : Int) + 1) := by unfold fitStd; omega
      refine Need.mk t1 fun _ => ?_
      refine Ife.mk (fun h => ?_) (fun h => ?_)
      · have h : (c : Int) + 1 < ((n + 1 : Nat) : Int) := of_decide_eq_true (p := (c : Int) + 1 < ((n + 1 : Nat) : Int)) h
        obtain ⟨⟨a, d⟩, R', hRR⟩ := List.exists_cons_of_ne_nil (l := R) (fun e => by rw [e] at hRl; simp at hRl; omega)
        subst hRR
        rw [List.length_cons] at hRl
        have va : rA L1 ((c : Int) + 1).toNat = a := by rw [e1, hL1, ← hPl]; exact rA_app P ((x, x) :: (a, d) :: R') 1
        have vd : rB L1 ((c : Int) + 1).toNat = d := by rw [e1, hL1, ← hPl]; exact rB_app P ((x, x) :: (a, d) :: R') 1
        have t2 : 0 ≤ (c : Int) + 1 ∧ (c : Int) + 1 < ((n + 1 : Nat) : Int) := by omega
        have t3 : ((c : Int) + 1).toNat < n + 1 := by omega
        refine Need.mk t1 fun _ => Need.mk t2 fun _ => Need.mk t3 fun _ => Need.mk (by show fitStd .i64 (x + 1); unfold fitStd; omega) fun _ => ?_
        refine Ife.mk (fun h2 => ?_) (fun h2 => ?_)
        · have h2 : a = x + 1 := by
            have := of_decide_eq_true (p := rA L1 ((c : Int) + 1).toNat = x + 1) h2
            rwa [va] at this
          have e5 : hdM x ((a, d) :: R') = (d, R') := if_pos h2
          rw [e5] at hm2 hR2
          obtain rfl : d = m2 := hm2
          obtain rfl : R' = R2 := hR2
          refine Need.mk t1 fun _ => Need.mk t2 fun _ => Need.mk t3 fun _ => Need.mk (show 0 ≤ (c : Int) ∧ (c : Int) < ((n + 1 : Nat) : Int) by omega) fun _ => Need.mk (show c < n + 1 by omega) fun _ => Need.mk t1 fun _ => ?_
          refine Need.mk (show 0 ≤ (0 : Int) ∧ (0 : Int) ≤ (c : Int) + 1 ∧ (c : Int) + 1 ≤ ((n + 1 : Nat) : Int) by omega) fun _ => Need.mk (by show fitStd .i64 ((c : Int) + 2); unfold fitStd; omega) fun _ => ?_
          refine Need.mk (show 0 ≤ (c : Int) + 2 ∧ (c : Int) + 2 ≤ ((n + 1 : Nat) : Int) ∧ ((n + 1 : Nat) : Int) ≤ ((n + 1 : Nat) : Int) by omega) fun _ => ?_
          refine Need.mk ⟨rfl, (by show ((c : Int) + 1 - 0).toNat + (((n + 1 : Nat) : Int) - ((c : Int) + 2)).toNat ≤ maxLen ∧ (((c : Int) + 1 - 0).toNat + (((n + 1 : Nat) : Int) - ((c : Int) + 2)).toNat) * 16 ≤ 140737488355328; unfold maxLen; omega), fun i hi => up_len⟩ fun _ => ?_
          refine ⟨⟨[0, 2], rfl, (by show List.Nodup [2]; decide), (by repeat' (first | exact trivial | exact rfl | apply And.intro | exact (fun _ _ _ _ => Cell.le_refl _) | (intro i hi; rfl) | (intro i hi; exact absurd hi (Nat.not_lt_zero _)))), ?_⟩, trivial⟩
          repeat' (first | exact trivial | exact rfl | apply And.intro)
          · refine (nat_match ((c : Int) + 1 - 0).toNat (((n + 1 : Nat) : Int) - ((c : Int) + 2)).toNat).trans ?_
            omega
          · intro i hi
            show catG ((c : Int) + 1 - 0).toNat (upG (rgG L1) c 1 [.int .i64 (rB L1 ((c : Int) + 1).toNat)]) (fun i => upG (rgG L1) c 1 [.int .i64 (rB L1 ((c : Int) + 1).toNat)] (((c : Int) + 2).toNat + i)) i = rgG L2 i
            rw [e0, e2, vd, hL2, ← hPl]
            exact join_rg (r := (x, x)) (s := (a, d)) hL1 i (by rw [hPl, hN2]; exact hi)
        · have h2 : ¬ a = x + 1 := by
            have := of_decide_eq_false (p := rA L1 ((c : Int) + 1).toNat = x + 1) h2
            rwa [va] at this
          have e5 : hdM x ((a, d) :: R') = (x, (a, d) :: R') := if_neg h2
          rw [e5] at hm2 hR2
          obtain rfl : x = m2 := hm2
          obtain rfl : (a, d) :: R' = R2 := hR2
          obtain rfl : L1 = L2 := hL1.trans hL2.symm
          refine ⟨⟨[0, 1], rfl, (by show List.Nodup [1]; decide), (by repeat' (first | exact trivial | exact rfl | apply And.intro | exact (fun _ _ _ _ => Cell.le_refl _) | (intro i hi; rfl) | (intro i hi; exact absurd hi (Nat.not_lt_zero _)))), ?_⟩, trivial⟩
          repeat' (first | exact trivial | exact rfl | apply And.intro | exact fun i hi => rfl)
          show n + 1 = N2
          rw [← hN2, List.length_cons]
          omega
      · have h : ¬ (c : Int) + 1 < ((n + 1 : Nat) : Int) := of_decide_eq_false (p := (c : Int) + 1 < ((n + 1 : Nat) : Int)) h
        have hR0 : R = [] := List.length_eq_zero_iff.mp (by omega)
        subst hR0
        obtain rfl : x = m2 := hm2
        obtain rfl : [] = R2 := hR2
        obtain rfl : L1 = L2 := hL1.trans hL2.symm
        refine ⟨⟨[0, 1], rfl, (by show List.Nodup [1]; decide), (by repeat' (first | exact trivial | exact rfl | apply And.intro | exact (fun _ _ _ _ => Cell.le_refl _) | (intro i hi; rfl) | (intro i hi; exact absurd hi (Nat.not_lt_zero _)))), ?_⟩, trivial⟩
        repeat' (first | exact trivial | exact rfl | apply And.intro | exact fun i hi => rfl)
        show n + 1 = N2
        rw [← hN2]
        simp
        omega
    have hn2 : N2 ≤ n + 1 := by
      have := addM_len (P := P) (R := R) (n := x)
      have e : (hdM x R).2.length ≤ R.length := by
        cases R with
        | nil => exact Nat.le_refl _
        | cons r R =>
          obtain ⟨a, d⟩ := r
          by_cases h : a = x + 1
          · rw [show hdM x ((a, d) :: R) = (d, R) from if_pos h]; simp
          · rw [show hdM x ((a, d) :: R) = (x, (a, d) :: R) from if_neg h]; exact Nat.le_refl _
      rw [hR2] at e
      omega
    clear hm2 hR2 hL1 L1
    refine Runs.cut ⟨[.any, .any, .any, .any, .any, .c (.row 1)] ++ List.replicate 110 .any, [.elems 114 2 n (rgG L), .row 114 2 F.length (rgG F)]⟩ True ?_ fun _ => ?_
    · refine exec_ok (N := env (lft Try.prog 1) 0 .std tbH [(29, appFn [] [(114, 2)] sHasD)] [(7, [(9999, true), (0, true), (1, true), (2, true), (4, true), (5, true), (6, true), (9, true), (10, true), (11, true), (3003, false), (7, false), (8, false), (12, false), (13, true), (2999, false), (7, false), (3, false), (8, false), (12, false), (13, true), (2999, false)]), (10, [(0, true), (1, true), (2, true), (3, true), (4, true), (5, true), (6, true), (7, true), (1008, false), (8, false), (9, true)]), (13, [(0, true), (1, true), (2, true), (3, true), (4, true), (5, true), (6, true), (1007, false), (7, false), (8, true)])]) rfl tbH_ok hC (fun c st K _ h => h) (by kernel_rfl) [] _ _ _ (by kernel_rfl) ?_
      generalize hg0 : (List.length : List Rg → Nat) = g0
      generalize hL : lft Try.prog _ = L
      generalize hA : Arith.std = A
      set_option cbv.maxSteps 4000000 in cbv
      subst hA hg0 hL
      have e1 : ((c : Int) - 0).toNat = c := by omega
      have e2 : ((c : Int) + 1).toNat = c + 1 := by omega
      refine Ife.mk (fun h => ?_) (fun h => ?_)
      · have h : 0 < (c : Int) := of_decide_eq_true (p := 0 < (c : Int)) h
        obtain ⟨P', a, b, eP, -, hl⟩ := last_of (l := P) (by omega)
        have hc1 : c = P'.length + 1 := by omega
        have eL2 : L2 = P' ++ (a, b) :: (x, m2) :: R2 := by rw [hL2, eP]; simp
        have e3 : ((c : Int) - 1).toNat = P'.length := by omega
        have vb : rB L2 ((c : Int) - 1).toNat = b := by rw [e3, eL2]; exact rB_app P' _ 0
        have vm : rB L2 c = m2 := by rw [hc1, eL2]; exact rB_app P' _ 1
        have t1 : fitStd .i64 ((c : Int) - 1) := by unfold fitStd; omega
        have t2 : 0 ≤ (c : Int) - 1 ∧ (c : Int) - 1 < ((N2 : Nat) : Int) := by omega
        have t3 : ((c : Int) - 1).toNat < N2 := by omega
        refine Need.mk t1 fun _ => Need.mk t2 fun _ => Need.mk t3 fun _ => Need.mk (by show fitStd .i64 (x - 1); unfold fitStd; omega) fun _ => ?_
        rw [eP, glue_snoc] at eA
        refine Ife.mk (fun h2 => ?_) (fun h2 => ?_)
        · have h2 : b = x - 1 := by
            have := of_decide_eq_true (p := rB L2 ((c : Int) - 1).toNat = x - 1) h2
            rwa [vb] at this
          rw [if_pos h2] at eA
          refine Need.mk t1 fun _ => Need.mk (show 0 ≤ (c : Int) ∧ (c : Int) < ((N2 : Nat) : Int) by omega) fun _ => Need.mk (show c < N2 by omega) fun _ => Need.mk t2 fun _ => Need.mk t3 fun _ => ?_
          refine Need.mk (show 0 ≤ (0 : Int) ∧ (0 : Int) ≤ (c : Int) ∧ (c : Int) ≤ ((N2 : Nat) : Int) by omega) fun _ => Need.mk (by show fitStd .i64 ((c : Int) + 1); unfold fitStd; omega) fun _ => ?_
          refine Need.mk (show 0 ≤ (c : Int) + 1 ∧ (c : Int) + 1 ≤ ((N2 : Nat) : Int) ∧ ((N2 : Nat) : Int) ≤ ((N2 : Nat) : Int) by omega) fun _ => ?_
          refine Need.mk ⟨rfl, (by show ((c : Int) - 0).toNat + (((N2 : Nat) : Int) - ((c : Int) + 1)).toNat ≤ maxLen ∧ (((c : Int) - 0).toNat + (((N2 : Nat) : Int) - ((c : Int) + 1)).toNat) * 16 ≤ 140737488355328; unfold maxLen; omega), fun i hi => up_len⟩ fun _ => ?_
          refine ⟨⟨[0, 2], rfl, (by show List.Nodup [2]; decide), (by repeat' (first | exact trivial | exact rfl | apply And.intro | exact (fun _ _ _ _ => Cell.le_refl _) | (intro i hi; rfl) | (intro i hi; exact absurd hi (Nat.not_lt_zero _)))), ?_⟩, trivial⟩
          have hFl : F.length = P'.length + 1 + R2.length := by rw [eA]; simp; omega
          repeat' (first | exact trivial | exact rfl | apply And.intro)
          · refine (nat_match ((c : Int) - 0).toNat (((N2 : Nat) : Int) - ((c : Int) + 1)).toNat).trans ?_
            omega
          · intro i hi
            show catG ((c : Int) - 0).toNat (upG (rgG L2) ((c : Int) - 1).toNat 1 [.int .i64 (rB L2 c)]) (fun i => upG (rgG L2) ((c : Int) - 1).toNat 1 [.int .i64 (rB L2 c)] (((c : Int) + 1).toNat + i)) i = rgG F i
            rw [e1, e2, e3, vm, eA, hc1]
            exact join_rg (r := (a, b)) (s := (x, m2)) eL2 i (by rw [← hFl]; exact hi)
        · have h2 : ¬ b = x - 1 := by
            have := of_decide_eq_false (p := rB L2 ((c : Int) - 1).toNat = x - 1) h2
            rwa [vb] at this
          rw [if_neg h2] at eA
          obtain rfl : F = L2 := eA.trans eL2.symm
          refine ⟨⟨[0, 1], rfl, (by show List.Nodup [1]; decide), (by repeat' (first | exact trivial | exact rfl | apply And.intro | exact (fun _ _ _ _ => Cell.le_refl _) | (intro i hi; rfl) | (intro i hi; exact absurd hi (Nat.not_lt_zero _)))), ?_⟩, trivial⟩
          repeat' (first | exact trivial | exact rfl | apply And.intro | exact fun i hi => rfl)
          rw [hL2]
          simp
          omega
      · have h : ¬ 0 < (c : Int) := of_decide_eq_false (p := 0 < (c : Int)) h
        have hP0 : P = [] := List.length_eq_zero_iff.mp (by omega)
        rw [hP0] at eA hL2
        obtain rfl : F = L2 := eA.trans hL2.symm
        refine ⟨⟨[0, 1], rfl, (by show List.Nodup [1]; decide), (by repeat' (first | exact trivial | exact rfl | apply And.intro | exact (fun _ _ _ _ => Cell.le_refl _) | (intro i hi; rfl) | (intro i hi; exact absurd hi (Nat.not_lt_zero _)))), ?_⟩, trivial⟩
        repeat' (first | exact trivial | exact rfl | apply And.intro | exact fun i hi => rfl)
        rw [hL2]
        simp
        omega
    refine exec_ok (N := env (lft Try.prog 1) 0 .std tbH [(29, appFn [] [(114, 2)] sHasD)] [(7, [(9999, true), (0, true), (1, true), (2, true), (4, true), (5, true), (6, true), (9, true), (10, true), (11, true), (3003, false), (7, false), (8, false), (12, false), (13, true), (2999, false), (7, false), (3, false), (8, false), (12, false), (13, true), (2999, false)]), (10, [(0, true), (1, true), (2, true), (3, true), (4, true), (5, true), (6, true), (7, true), (1008, false), (8, false), (9, true)]), (13, [(0, true), (1, true), (2, true), (3, true), (4, true), (5, true), (6, true), (1007, false), (7, false), (8, true)])]) rfl tbH_ok hC (fun c st K _ h => h) (by kernel_rfl) [] _ _ _ (by kernel_rfl) ?_
    generalize hg0 : (List.length : List Rg → Nat) = g0
    generalize hL : lft Try.prog _ = L
    generalize hA : Arith.std = A
    set_option cbv.maxSteps 4000000 in cbv
    subst hA hg0 hL
    exact ⟨[0, 1], ⟨rfl, rfl, (by show List.Nodup [1]; decide), rfl, by repeat' (first | exact trivial | exact rfl | apply And.intro | (intro i hi; rfl) | (intro i hi; exact absurd hi (Nat.not_lt_zero _)))⟩⟩

end Go.Proofs.Ytcgoaicifjndpaa.Vx
