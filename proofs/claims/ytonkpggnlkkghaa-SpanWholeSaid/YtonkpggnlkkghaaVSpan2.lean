/- Ranges of numbers: Count, All, Lacks, by the walker. -/
import Derived.Test.YtonkpggnlkkghaaVSpan
namespace Go.Proofs.Ytonkpggnlkkghaa.Vx
open Go.RowKit Span
set_option linter.unusedVariables false
set_option linter.unusedSimpArgs false
def countG (l : List Rg) : Int := if good l then count l else 0
def allG (l : List Rg) (m : Int) : List Int := if good l then (runs l).take m.toNat else []
theorem good_take {L : List Rg} (h : good L = true) {i : Nat} (hi : i < L.length) : 0 ≤ rA L i ∧ rA L i ≤ rB L i ∧ rB L i ≤ 72057594037927935 ∧ (0 < i → rB L (i - 1) + 2 ≤ rA L i) := by
  have h1 := okAt_iff.1 (good_iff.1 h i hi)
  unfold rA rB
  omega
theorem take_succ' {α : Type} (L : List α) {i : Nat} (hi : i < L.length) : L.take (i + 1) = L.take i ++ [L[i]] := by
  rw [List.take_add_one, List.getElem?_eq_getElem hi]; rfl
theorem getD_get {L : List Rg} {i : Nat} (hi : i < L.length) : L[i] = (rA L i, rB L i) := by
  unfold rA rB
  rw [List.getD_eq_getElem?_getD, List.getElem?_eq_getElem hi]
  rfl
theorem count_take {L : List Rg} {i : Nat} (hi : i < L.length) : count (L.take (i + 1)) = count (L.take i) + (rB L i - rA L i + 1) := by
  rw [take_succ' L hi, getD_get hi]
  simp [count, List.sum_append]
theorem runs_take {L : List Rg} {i : Nat} (hi : i < L.length) : runs (L.take (i + 1)) = runs (L.take i) ++ runR (rA L i, rB L i) := by
  rw [take_succ' L hi, getD_get hi, runs_app, runs_one]
def seqR (a v : Int) : List Int := (List.range (v - a).toNat).map fun i => a + ((i : Nat) : Int)
theorem seqR_succ {a v : Int} (h : a ≤ v) : seqR a (v + 1) = seqR a v ++ [v] := by
  have e : (v + 1 - a).toNat = (v - a).toNat + 1 := by omega
  unfold seqR
  simp only [e, List.range_succ, List.map_append, List.map_cons, List.map_nil]
  congr 2
  omega
theorem seqR_self (a : Int) : seqR a a = [] := by unfold seqR; simp
theorem seqR_app {a v b : Int} (h0 : a ≤ v) (h1 : v ≤ b + 1) : runR (a, b) = seqR a v ++ seqR v (b + 1) := by
  obtain ⟨k, hk⟩ : ∃ k : Nat, b + 1 = v + (k : Int) := ⟨(b + 1 - v).toNat, by omega⟩
  obtain rfl : b = v + (k : Int) - 1 := by omega
  clear h1 hk
  show seqR a (v + k - 1 + 1) = _
  rw [show v + (k : Int) - 1 + 1 = v + k by omega]
  induction k with
  | zero => rw [show v + ((0 : Nat) : Int) = v by omega, seqR_self, List.append_nil]
  | succ k ih => rw [show v + ((k + 1 : Nat) : Int) = (v + k) + 1 by omega, seqR_succ (by omega), seqR_succ (by omega), ih, List.append_assoc]
theorem seqR_all (a b : Int) : seqR a (b + 1) = runR (a, b) := rfl
structure LCt (L : List Rg) (n : Nat) where
  i : Int
  a : Int
  h0 : 0 ≤ i
  h1 : i ≤ (n : Int)
  h2 : a = count (L.take i.toNat)
  h3 : 0 ≤ a
  h4 : i = 0 → a = 0
  h5 : 0 < i → a ≤ rB L (i.toNat - 1) + 1
structure LAl (L : List Rg) (n : Nat) (m : Int) where
  i : Int
  l : List Int
  h0 : 0 ≤ i
  h1 : i ≤ (n : Int)
  h2 : l = (runs (L.take i.toNat)).take m.toNat
structure LAi (L : List Rg) (m : Int) (i : Nat) where
  v : Int
  l : List Int
  h0 : rA L i ≤ v
  h1 : v ≤ rB L i + 1
  h2 : l = (runs (L.take i) ++ seqR (rA L i) v).take m.toNat
theorem lkGo_drop {L : List Rg} {i : Nat} (hi : i < L.length) (a b : Int) : lkGo (L.drop i) a b = ((if a < rA L i ∧ a ≤ b then [(a, min (rA L i - 1) b)] else []) ++ (lkGo (L.drop (i + 1)) (max a (rB L i + 1)) b).1, (lkGo (L.drop (i + 1)) (max a (rB L i + 1)) b).2) := by
  rw [List.drop_eq_getElem_cons hi, getD_get hi]
  rfl
structure LLk (L : List Rg) (n : Nat) (a0 b0 : Int) where
  i : Int
  a : Int
  l : List Rg
  h0 : 0 ≤ i
  h1 : i ≤ (n : Int)
  h2 : lkGo L a0 b0 = (l ++ (lkGo (L.drop i.toNat) a b0).1, (lkGo (L.drop i.toNat) a b0).2)
  h3 : 0 ≤ a
  h4 : (l.length : Int) ≤ i
attribute [local cbv_opaque] rA rB rgL rgOf good okAt mayN ofL Span.step runs count lacksL iL srt iA countG allG lkGo lkEnd seqR runR rgPre
def sCount : SpecF
  | [.c (.row 0)], [.elems ty one n get] => some (rgPre ty one n get, .c (.int .i64 (countG (rgL n get))), [.dead])
  | _, _ => none

set_option maxRecDepth 100000 in
set_option maxHeartbeats 4000000 in
theorem countP : Fn Try.prog 11 [] [(62, 2)] sCount := by
  have hC : CtsOk Try.prog [(12, appFn [] [(62, 2)] sGood)] := CtsOk.cons (Fn.ct goodP) <| CtsOk.nil _
  refine Fn.of (E := tbG) [] 0 [] tbG_ok hC (by kernel_rfl) Try.func11 rfl rfl rfl (by kernel_rfl) (by kernel_rfl) 1 5 1 ?_ ?_
  · intro args h pre r h' hs
    unfold sCount at hs
    split at hs
    · cases hs; exact ⟨rfl, rfl, Nat.le_of_ble_eq_true rfl⟩
    · cases hs
  · intro args h pre r h' hs hp
    unfold sCount at hs
    split at hs
    rotate_left
    · cases hs
    rename_i ty one n get
    cases hs
    obtain ⟨rfl, rfl, hst, hm⟩ := hp
    refine ⟨[.elems 62 2 n (rgG (rgL n get))], hst.same, ?_⟩
    have hL : (rgL n get).length = n := rgL_len
    generalize rgL n get = L at hL ⊢
    have eL : rgL n (rgG L) = L := by rw [← hL]; exact rgL_rgG L
    unfold sGood
    generalize hL : lft Try.prog _ = L
    generalize hA : Arith.std = A
    cbv
    subst hA hL
    refine Need.mk ⟨rfl, rfl, rgAt_rgG n L, hm⟩ fun _ => ?_
    refine Ife.mk (fun h => ?_) (fun h => ?_)
    · have h : good (rgL n (rgG L)) = false := by
        have h6 : (!good (rgL n (rgG L))) = true := h
        simpa using h6
      rw [eL] at h
      rw [show countG L = 0 by unfold countG; rw [h]; rfl]
      exact ⟨[0], ⟨rfl, by repeat' (first | exact trivial | exact rfl | apply And.intro), by decide, rfl, by repeat' (first | exact trivial | exact rfl | apply And.intro)⟩⟩
    have hg : good (rgL n (rgG L)) = true := by
      have h6 : (!good (rgL n (rgG L))) = false := h
      simpa using h6
    rw [eL] at hg
    rw [show countG L = count L by unfold countG; rw [hg]; rfl]
    show Runs Try.prog 1 (.loop _) _ _
    refine loop_ruleR (N := env (lft Try.prog 1) 0 .std tbG [(12, appFn [] [(62, 2)] sGood)] []) rfl tbG_ok hC (fun c st K _ h => h) (by kernel_rfl) [] (X := LCt L n)
      (S := fun x => ⟨[.c (.row 0), .any, .any, .c (.int .i64 x.a), .any, .any, .any, .any, .any, .c (.row 0), .c (.int .i64 n), .c (.int .i64 x.i)] ++ List.replicate 13 .any, [.elems 62 2 n (rgG L)]⟩) (μ := fun x => n - x.i.toNat) ⟨0, 0, by omega, by omega, rfl, by omega, fun _ => rfl, fun h => by omega⟩ (by kernel_rfl) [0] ?_ ?_
    · refine ⟨rfl, by decide, ?_, ?_⟩ <;> repeat' (first | exact trivial | exact rfl | apply And.intro)
    rintro ⟨i, a, hi0, hin, ha, ha0, hz, hb⟩
    unfold sGood
    generalize hL : lft Try.prog _ = L
    generalize hA : Arith.std = A
    cbv
    subst hA hL
    replace hi0 : 0 ≤ i := hi0
    replace hin : i ≤ @Nat.cast Int instNatCastInt n := hin
    replace ha : a = count (L.take i.toNat) := ha
    replace ha0 : 0 ≤ a := ha0
    replace hz : i = 0 → a = 0 := hz
    replace hb : 0 < i → a ≤ rB L (i.toNat - 1) + 1 := hb
    refine Ife.mk (fun hlt => ?_) (fun hlt => ?_)
    · replace hlt : i < @Nat.cast Int instNatCastInt n := of_decide_eq_true (p := i < (n : Int)) hlt
      have hg1 := good_take hg (i := i.toNat) (by omega)
      have hA : a + (rB L i.toNat - rA L i.toNat + 1) ≤ rB L i.toNat + 1 := by
        rcases Int.lt_or_eq_of_le hi0 with h | h
        · have := hb h; have := hg1.2.2.2 (by omega); omega
        · have := hz h.symm; omega
      repeat refine Need.mk (by first | exact trivial | (simp only [Arith.std, fitStd]; omega) | (simp [Arith.std, fitStd]; omega)) fun _ => ?_
      refine ⟨⟨i + 1, a + (rB L i.toNat - rA L i.toNat + 1), by omega, by omega, ?h2, by omega, fun h => by omega, fun _ => (by rw [show (i + 1).toNat - 1 = i.toNat by omega]; exact hA)⟩, [0], (by show n - (i + 1).toNat < n - i.toNat; omega), ?st⟩
      case st => refine ⟨rfl, by decide, ?_, ?_⟩ <;> repeat' (first | exact trivial | exact rfl | apply And.intro)
      case h2 => rw [show (i + 1).toNat = i.toNat + 1 by omega, count_take (by omega), ha]
    · replace hlt : ¬ i < @Nat.cast Int instNatCastInt n := of_decide_eq_false (p := i < (n : Int)) hlt
      rw [show count L = a by rw [ha, List.take_of_length_le (by omega)]]
      exact ⟨[0], ⟨rfl, by repeat' (first | exact trivial | exact rfl | apply And.intro), by decide, rfl, by repeat' (first | exact trivial | exact rfl | apply And.intro)⟩⟩

def allPre (ty one n : Nat) (get : Nat → List CV) (m : Int) : Prop := rgPre ty one n get ∧ m ≤ 1000000
attribute [local cbv_opaque] allPre
def sAll : SpecF
  | [.c (.row 0), .c (.int .i64 m)], [.elems ty one n get] => some (allPre ty one n get m, .c (.row 1), [.dead, .row 3 1 (allG (rgL n get) m).length (inG (allG (rgL n get) m))])
  | _, _ => none

set_option maxRecDepth 100000 in
set_option maxHeartbeats 4000000 in
theorem allP : Fn Try.prog 10 [] [(62, 2)] sAll := by
  have hC : CtsOk Try.prog [(12, appFn [] [(62, 2)] sGood)] := CtsOk.cons (Fn.ct goodP) <| CtsOk.nil _
  refine Fn.of (E := tbG) [] 0 [] tbG_ok hC (by kernel_rfl) Try.func10 rfl rfl rfl (by kernel_rfl) (by kernel_rfl) 1 3 1 ?_ ?_
  · intro args h pre r h' hs
    unfold sAll at hs
    split at hs
    · cases hs; exact ⟨rfl, rfl, Nat.le_of_ble_eq_true rfl⟩
    · cases hs
  · intro args h pre r h' hs hp
    unfold sAll at hs
    split at hs
    rotate_left
    · cases hs
    rename_i m ty one n get
    cases hs
    obtain ⟨⟨rfl, rfl, hst, hm⟩, hmm⟩ := hp
    refine ⟨[.elems 62 2 n (rgG (rgL n get))], hst.same, ?_⟩
    have hL : (rgL n get).length = n := rgL_len
    generalize rgL n get = L at hL ⊢
    have eL : rgL n (rgG L) = L := by rw [← hL]; exact rgL_rgG L
    unfold sGood
    generalize hL : lft Try.prog _ = L
    generalize hA : Arith.std = A
    cbv
    subst hA hL
    refine Need.mk ⟨rfl, rfl, rgAt_rgG n L, hm⟩ fun _ => ?_
    refine Ife.mk (fun h => ?_) (fun h => ?_)
    · have h : good (rgL n (rgG L)) = false := by
        have h6 : (!good (rgL n (rgG L))) = true := h
        simpa using h6
      rw [eL] at h
      rw [show allG L m = [] by unfold allG; rw [h]; rfl]
      exact ⟨[0, 2], ⟨rfl, rfl, (by show List.Nodup [2]; decide), rfl, by repeat' (first | exact trivial | exact rfl | apply And.intro | (intro i hi; rfl) | (intro i hi; exact absurd hi (Nat.not_lt_zero _)))⟩⟩
    have hg : good (rgL n (rgG L)) = true := by
      have h6 : (!good (rgL n (rgG L))) = false := h
      simpa using h6
    rw [eL] at hg
    rw [show allG L m = (runs L).take m.toNat by unfold allG; rw [hg]; rfl]
    refine Runs.nilTmp 5 3 1 (inG []) rfl ?_
    show Runs Try.prog 1 (.loop _) _ _
    refine loop_ruleR (N := env (lft Try.prog 1) 0 .std tbG [(12, appFn [] [(62, 2)] sGood)] []) rfl tbG_ok hC (fun c st K _ h => h) (by kernel_rfl) [] (X := LAl L n m)
      (S := fun x => ⟨[.c (.row 0), .c (.int .i64 m), .any, .any, .any, .c (.row 2), .any, .any, .any, .any, .any, .any, .c (.row 0), .c (.int .i64 n), .c (.int .i64 x.i)] ++ List.replicate 23 .any, [.elems 62 2 n (rgG L), .dead, .row 3 1 x.l.length (inG x.l)]⟩) (μ := fun x => n - x.i.toNat) ⟨0, [], by omega, by omega, by simp [runs]⟩ (by kernel_rfl) [0, 1, 2] ?_ ?_
    · refine ⟨rfl, by decide, ?_, ?_⟩ <;> repeat' (first | exact trivial | exact rfl | apply And.intro | (intro i hi; rfl) | (intro i hi; exact absurd hi (Nat.not_lt_zero _)))
    rintro ⟨i, l, hi0, hin, hl⟩
    unfold sGood
    generalize hg0 : (List.length : List Int → Nat) = g0
    generalize hL : lft Try.prog _ = L
    generalize hA : Arith.std = A
    cbv
    subst hA hg0 hL
    replace hi0 : 0 ≤ i := hi0
    replace hin : i ≤ @Nat.cast Int instNatCastInt n := hin
    replace hl : l = (runs (L.take i.toNat)).take m.toNat := hl
    refine Ife.mk (fun hlt => ?_) (fun hlt => ?_)
    · replace hlt : i < @Nat.cast Int instNatCastInt n := of_decide_eq_true (p := i < (n : Int)) hlt
      have hg1 := good_take hg (i := i.toNat) (by omega)
      repeat refine Need.mk (by first | exact trivial | (simp only [Arith.std, fitStd]; omega) | (simp [Arith.std, fitStd]; omega)) fun _ => ?_
      show Runs Try.prog 1 (.loop _) _ _
      refine loop_ruleR (N := env (lft Try.prog 1) 0 .std tbG [(12, appFn [] [(62, 2)] sGood)] []) rfl tbG_ok hC (fun c st K _ h => h) (by kernel_rfl) [] (X := LAi L m i.toNat)
        (S := fun x => ⟨[.c (.row 0), .c (.int .i64 m), .any, .any, .any, .c (.row 2), .any, .c (.ptr 3 0), .c (.int .i64 x.v), .any, .any, .any, .c (.row 0), .c (.int .i64 n), .c (.int .i64 i)] ++ List.replicate 23 .any, [.elems 62 2 n (rgG L), .dead, .row 3 1 x.l.length (inG x.l), .cells 62 [.int .i64 (rA L i.toNat), .int .i64 (rB L i.toNat)]]⟩) (μ := fun x => (rB L i.toNat + 1 - x.v).toNat) ⟨rA L i.toNat, l, by omega, by omega, by rw [seqR_self, List.append_nil]; exact hl⟩ (by kernel_rfl) [0, 1, 2, 3] ?_ ?_
      · refine ⟨rfl, by decide, ?_, ?_⟩ <;> repeat' (first | exact trivial | exact rfl | apply And.intro | (intro i hi; rfl) | (intro i hi; exact absurd hi (Nat.not_lt_zero _)))
      rintro ⟨v, k, hv0, hv1, hk⟩
      unfold sGood
      generalize hg0 : (List.length : List Int → Nat) = g0
      generalize hL : lft Try.prog _ = L
      generalize hA : Arith.std = A
      cbv
      subst hA hg0 hL
      replace hi0 : 0 ≤ i := hi0
      replace hin : i ≤ @Nat.cast Int instNatCastInt n := hin
      replace hlt : i < @Nat.cast Int instNatCastInt n := hlt
      replace hv0 : rA L i.toNat ≤ v := hv0
      replace hv1 : v ≤ rB L i.toNat + 1 := hv1
      replace hk : k = (runs (L.take i.toNat) ++ seqR (rA L i.toNat) v).take m.toNat := hk
      have kl : k.length ≤ m.toNat := by rw [hk]; exact List.length_take_le _ _
      refine Ife.mk (fun h => ?_) (fun h => ?_)
      · have h : v ≤ rB L i.toNat := of_decide_eq_true (p := v ≤ rB L i.toNat) h
        refine Ife.mk (fun h2 => ?_) (fun h2 => ?_)
        · have h2 : (k.length : Int) < m := of_decide_eq_true (p := (k.length : Int) < m) h2
          refine Need.mk (by show k.length + 1 ≤ maxLen ∧ (k.length + 1) * 8 ≤ 140737488355328; unfold maxLen; omega) fun _ => Need.mk (by show fitStd .i64 (v + 1); unfold fitStd; omega) fun _ => ?_
          refine ⟨⟨v + 1, k ++ [v], by omega, by omega, ?h2⟩, [0, 1, 5, 3], (by show (rB L i.toNat + 1 - (v + 1)).toNat < (rB L i.toNat + 1 - v).toNat; omega), ?st⟩
          case st =>
            refine ⟨rfl, by decide, ?_, ?_⟩
            · repeat' (first | exact trivial | exact rfl | apply And.intro)
            · repeat' (first | exact trivial | exact rfl | apply And.intro)
              · simp
              · intro j hj
                exact inG_push k v j (by simpa using hj)
          case h2 =>
            have e : (runs (L.take i.toNat) ++ seqR (rA L i.toNat) v).length < m.toNat := by
              have h3 : k.length = min m.toNat (runs (L.take i.toNat) ++ seqR (rA L i.toNat) v).length := by rw [hk, List.length_take]
              omega
            rw [seqR_succ hv0, ← List.append_assoc, hk, List.take_of_length_le (l := runs (L.take i.toNat) ++ seqR (rA L i.toNat) v) (Nat.le_of_lt e), List.take_of_length_le (l := runs (L.take i.toNat) ++ seqR (rA L i.toNat) v ++ [v]) (by rw [List.length_append, List.length_singleton]; omega)]
        · have h2 : ¬ (k.length : Int) < m := of_decide_eq_false (p := (k.length : Int) < m) h2
          refine Need.mk (by show fitStd .i64 (i + 1); unfold fitStd; omega) fun _ => ?_
          refine ⟨⟨i + 1, k, by omega, by omega, ?h2⟩, [0, 1, 2], (by show n - (i + 1).toNat < n - i.toNat; omega), ?st⟩
          case st => refine ⟨rfl, by decide, ?_, ?_⟩ <;> repeat' (first | exact trivial | exact rfl | apply And.intro | (intro i hi; rfl) | (intro i hi; exact absurd hi (Nat.not_lt_zero _)))
          case h2 =>
            have e : m.toNat ≤ (runs (L.take i.toNat) ++ seqR (rA L i.toNat) v).length := by
              have h3 : k.length = min m.toNat (runs (L.take i.toNat) ++ seqR (rA L i.toNat) v).length := by rw [hk, List.length_take]
              omega
            rw [show (i + 1).toNat = i.toNat + 1 by omega, runs_take (by omega), seqR_app hv0 hv1, ← List.append_assoc, List.take_append_of_le_length e, hk]
      · have h : ¬ v ≤ rB L i.toNat := of_decide_eq_false (p := v ≤ rB L i.toNat) h
        refine Need.mk (by show fitStd .i64 (i + 1); unfold fitStd; omega) fun _ => ?_
        refine ⟨⟨i + 1, k, by omega, by omega, ?h2⟩, [0, 1, 2], (by show n - (i + 1).toNat < n - i.toNat; omega), ?st⟩
        case st => refine ⟨rfl, by decide, ?_, ?_⟩ <;> repeat' (first | exact trivial | exact rfl | apply And.intro | (intro i hi; rfl) | (intro i hi; exact absurd hi (Nat.not_lt_zero _)))
        case h2 => rw [show (i + 1).toNat = i.toNat + 1 by omega, runs_take (by omega), ← seqR_all, hk, show v = rB L i.toNat + 1 by omega]
    · replace hlt : ¬ i < @Nat.cast Int instNatCastInt n := of_decide_eq_false (p := i < (n : Int)) hlt
      rw [show (runs L).take m.toNat = l by rw [hl, List.take_of_length_le (show L.length ≤ i.toNat by omega)]]
      exact ⟨[0, 2], ⟨rfl, rfl, (by show List.Nodup [2]; decide), rfl, by repeat' (first | exact trivial | exact rfl | apply And.intro | (intro i hi; rfl) | (intro i hi; exact absurd hi (Nat.not_lt_zero _)))⟩⟩

end Go.Proofs.Ytonkpggnlkkghaa.Vx
