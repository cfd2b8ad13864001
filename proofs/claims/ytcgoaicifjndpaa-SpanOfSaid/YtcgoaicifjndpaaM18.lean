/- Ranges of numbers: Add, by the walker. -/
import Derived.Test.YtcgoaicifjndpaaM17
section
namespace Go.Proofs.Ytcgoaicifjndpaa.Vx
open Go.RowKit Span
set_option linter.unusedVariables false
set_option linter.unusedSimpArgs false
def stepA (x : Int) (s : List Rg × Bool) (r : Rg) : List Rg × Bool := if (!s.2 && decide (x < r.1)) = true then (putL (putL s.1 (x, x)) r, true) else (putL s.1 r, s.2)
def addG (l : List Rg) (x : Int) : List Rg := if good l then addL l x else []
theorem fold_done {x : Int} : ∀ (R : List Rg) (l : List Rg), R.foldl (stepA x) (l, true) = (R.foldl putL l, true)
  | [], l => rfl
  | r :: R, l => by
    rw [List.foldl_cons, List.foldl_cons]
    exact fold_done R (putL l r)
theorem fold_head {x : Int} : ∀ (P : List Rg) (l : List Rg), (∀ r ∈ P, ¬ x < r.1) → P.foldl (stepA x) (l, false) = (P.foldl putL l, false)
  | [], l, _ => rfl
  | r :: P, l, h => by
    rw [List.foldl_cons, List.foldl_cons]
    have : stepA x (l, false) r = (putL l r, false) := by
      unfold stepA
      rw [if_neg (by simpa using h r (by simp))]
    rw [this]
    exact fold_head P _ fun s hs => h s (by simp [hs])
/-- What the loop comes to. -/
theorem add_fold {L : List Rg} {x : Int} (h : GP L) (hm : mayN x = true) (hn : ¬ x ∈ runs L) : (if (L.foldl (stepA x) ([], false)).2 then (L.foldl (stepA x) ([], false)).1 else putL (L.foldl (stepA x) ([], false)).1 (x, x)) = addL L x := by
  unfold addL
  rw [if_pos (show mayN x = true ∧ ¬ x ∈ runs L from ⟨hm, hn⟩)]
  have h1 := cut_lt (l := L) (n := x)
  have h2 := cut_ge h hn
  have e : L = L.take (cutN L x) ++ L.drop (cutN L x) := (List.take_append_drop _ L).symm
  have hG : GP (L.take (cutN L x) ++ L.drop (cutN L x)) := by rw [← e]; exact h
  generalize L.take (cutN L x) = P at e h1 hG ⊢
  generalize L.drop (cutN L x) = R at e h2 hG ⊢
  subst e
  obtain ⟨hP, hR, hPR⟩ := GP.app.1 hG
  rw [← put_addM hG h1 h2, List.foldl_append]
  have eP : P.foldl (stepA x) ([], false) = (P, false) := by
    rw [fold_head P [] fun r hr => by have := h1 r hr; have := hP.ok r hr; omega, foldl_putL hP (fun r hr => by simp at hr)]
    simp
  rw [eP]
  cases R with
  | nil => rfl
  | cons r R =>
    have hx := h2 r (by simp)
    have : stepA x (P, false) r = (putL (putL P (x, x)) r, true) := by
      unfold stepA
      rw [if_pos (by simpa using hx)]
    rw [List.foldl_cons, this, fold_done]
    rfl
theorem putL_mem {l : List Rg} {r : Rg} (h : ∀ s ∈ l, 0 ≤ s.2 ∧ s.2 ≤ 72057594037927935) (hr : 0 ≤ r.2 ∧ r.2 ≤ 72057594037927935) : ∀ s ∈ putL l r, 0 ≤ s.2 ∧ s.2 ≤ 72057594037927935 := by
  intro s hs
  unfold putL at hs
  split at hs
  · rcases List.mem_or_eq_of_mem_set hs with h1 | h1
    · exact h s h1
    · rw [h1]; exact hr
  · rcases List.mem_append.1 hs with h1 | h1
    · exact h s h1
    · rw [List.mem_singleton.1 h1]; exact hr
theorem putL_len {l : List Rg} {r : Rg} : (putL l r).length ≤ l.length + 1 := by
  unfold putL
  split <;> simp
theorem foldA_take {x : Int} {L : List Rg} {i : Nat} (hi : i < L.length) : (L.take (i + 1)).foldl (stepA x) ([], false) = stepA x ((L.take i).foldl (stepA x) ([], false)) (rA L i, rB L i) := by
  rw [take_succ' L hi, List.foldl_append, getD_get hi]
  rfl
theorem hasL_iff {l : List Rg} {n : Int} : hasL l n = true ↔ n ∈ runs l := by
  rw [mem_runs]
  simp [hasL, inRg]
structure LAd (L : List Rg) (x : Int) (n : Nat) where
  i : Int
  d : Bool
  l : List Rg
  h0 : 0 ≤ i
  h1 : i ≤ (n : Int)
  h2 : (l, d) = (L.take i.toNat).foldl (stepA x) ([], false)
  h3 : ∀ r ∈ l, 0 ≤ r.2 ∧ r.2 ≤ 72057594037927935
  h4 : (l.length : Int) ≤ i + (if d then 1 else 0)
def sAdd : SpecF
  | [.c (.row 0), .c (.int .i64 x)], [.elems ty one n get] => some (rgPre ty one n get, .c (.row 1), [.dead, .row 111 2 (addG (rgL n get) x).length (rgG (addG (rgL n get) x))])
  | _, _ => none

set_option maxRecDepth 100000 in
set_option maxHeartbeats 8000000 in
theorem addP : Fn Try.prog 24 [] [(111, 2)] sAdd := by
  have hC : CtsOk Try.prog [(21, appFn [] [(111, 2)] sGood), (76, appPure sMayN), (25, appFn [] [(111, 2)] sHas), (77, appFn [] [(111, 2)] sCloneR), (78, appFn [] [] sPut)] := CtsOk.cons (Fn.ct goodP) <| CtsOk.cons (Pure.ct mayNP) <| CtsOk.cons (Fn.ct hasP) <| CtsOk.cons (Fn.ct cloneRP) <| CtsOk.cons (Fn.ct putP) <| CtsOk.nil _
  refine Fn.of (E := tbG) [] 0 [] tbG_ok hC (by kernel_rfl) Try.func24 rfl rfl rfl (by kernel_rfl) (by kernel_rfl) 1 111 2 ?_ ?_
  · intro args h pre r h' hs
    unfold sAdd at hs
    split at hs
    · cases hs; exact ⟨rfl, rfl, Nat.le_of_ble_eq_true rfl⟩
    · cases hs
  · intro args h pre r h' hs hp
    unfold sAdd at hs
    split at hs
    rotate_left
    · cases hs
    rename_i x ty one n get
    cases hs
    obtain ⟨rfl, rfl, hst, hm⟩ := hp
    refine ⟨[.elems 111 2 n (rgG (rgL n get))], hst.same, ?_⟩
    have hL : (rgL n get).length = n := rgL_len
    generalize rgL n get = L at hL ⊢
    have eL : rgL n (rgG L) = L := by rw [← hL]; exact rgL_rgG L
    unfold sGood sMayN sHas sCloneR
    generalize hL : lft Try.prog _ = L
    try unfold rgG
    generalize ho0 : @rA = zo0, ho1 : @rB = zo1, ho2 : @rgL = zo2, ho3 : @good = zo3, ho4 : @mayN = zo4, ho5 : @runs = zo5, ho6 : @rgPre = zo6, ho7 : @putPre = zo7, ho8 : @putL = zo8, ho9 : @hasL = zo9, ho10 : @addG = zo10, ho11 : @stepA = zo11
    generalize hA : Arith.std = A
    cbv
    subst hA hL ho0 ho1 ho2 ho3 ho4 ho5 ho6 ho7 ho8 ho9 ho10 ho11
    refine Need.mk ⟨rfl, rfl, rgAt_rgG n L, hm⟩ fun _ => ?_
    refine Ife.mk (fun h => ?_) (fun h => ?_)
    · have h : good (rgL n (rgG L)) = false := by
        have h6 : (!good (rgL n (rgG L))) = true := h
        simpa using h6
      rw [eL] at h
      rw [show addG L x = [] by unfold addG; rw [h]; rfl]
      exact ⟨[0, 2], ⟨rfl, rfl, (by show List.Nodup [2]; decide), rfl, by repeat' (first | exact trivial | exact rfl | apply And.intro | (intro i hi; rfl) | (intro i hi; exact absurd hi (Nat.not_lt_zero _)))⟩⟩
    have hg : good (rgL n (rgG L)) = true := by
      have h6 : (!good (rgL n (rgG L))) = false := h
      simpa using h6
    rw [eL] at hg
    refine Need.mk trivial fun _ => ?_
    have pL : rgPre 111 2 n (rgG L) := ⟨rfl, rfl, rgAt_rgG _ _, hm⟩
    refine Ife.mk (fun h => ?_) (fun h => ?_)
    · have hv : mayN x = false := by
        have h6 : (!mayN x) = true := h
        simpa using h6
      refine Need.mk pL fun _ => ?_
      rw [eL, show addG L x = L by unfold addG addL; rw [if_pos hg, if_neg (fun h => by rw [hv] at h; exact absurd h.1 (by decide))], hL]
      exact ⟨[0, 3], ⟨rfl, rfl, (by show List.Nodup [3]; decide), rfl, by repeat' (first | exact trivial | exact rfl | apply And.intro | (intro i hi; rfl) | (intro i hi; exact absurd hi (Nat.not_lt_zero _)))⟩⟩
    have hv : mayN x = true := by
      have h6 : (!mayN x) = false := h
      simpa using h6
    refine Need.mk pL fun _ => ?_
    rw [eL]
    refine Ife.mk (fun h => ?_) (fun h => ?_)
    · have hh : x ∈ runs L := hasL_iff.1 h
      refine Need.mk pL fun _ => ?_
      rw [show addG L x = L by unfold addG addL; rw [if_pos hg, if_neg (fun h => h.2 hh)], hL]
      exact ⟨[0, 4], ⟨rfl, rfl, (by show List.Nodup [4]; decide), rfl, by repeat' (first | exact trivial | exact rfl | apply And.intro | (intro i hi; rfl) | (intro i hi; exact absurd hi (Nat.not_lt_zero _)))⟩⟩
    have hh : ¬ x ∈ runs L := fun h2 => by
      have h3 := hasL_iff.2 h2
      have h4 : hasL L x = false := h
      rw [h3] at h4
      cases h4
    generalize hxx : x = xx at hh hv ⊢
    have hb := mayN_iff.1 hv
    refine Runs.nilCell 3 0 111 2 (rgG []) rfl rfl ?_
    show Runs Try.prog 1 (.loop _) _ _
    refine loop_ruleR (N := env (lft Try.prog 1) 0 .std tbG [(21, appFn [] [(111, 2)] sGood), (76, appPure sMayN), (25, appFn [] [(111, 2)] sHas), (77, appFn [] [(111, 2)] sCloneR), (78, appFn [] [] sPut)] []) rfl tbG_ok hC (fun c st K _ h => h) (by kernel_rfl) [] (X := LAd L xx n)
      (S := fun x => ⟨[.c (.row 0), .c (.int .i64 xx), .any, .any, .any, .c (.ptr 1 0), .fn 78 [.ptr 1 0], .c (.bool x.d), .any, .any, .any, .any, .any, .any, .any, .any, .any, .any, .any, .any, .any, .any, .any, .any, .c (.row 0), .c (.int .i64 n), .c (.int .i64 x.i)] ++ List.replicate 28 .any, [.elems 111 2 n (rgG L), .cells 25 [.row 2], .row 111 2 x.l.length (rgG x.l)]⟩) (μ := fun x => n - x.i.toNat) ⟨0, false, [], by omega, by omega, rfl, (fun r hr => by simp at hr), (by show (0 : Int) ≤ 0 + 0; omega)⟩ (by kernel_rfl) [0, 3, 4] ?_ ?_
    · refine ⟨rfl, by decide, ?_, ?_⟩ <;> repeat' (first | exact trivial | exact rfl | apply And.intro | (intro i hi; rfl) | (intro i hi; exact absurd hi (Nat.not_lt_zero _)))
    rintro ⟨i, d, l, hi0, hin, hld, hok, hll⟩
    unfold sPut
    generalize hg0 : (List.length : List Rg → Nat) = g0
    generalize hL : lft Try.prog _ = L
    try dsimp only
    try unfold rgG
    generalize ho0 : @rA = zo0, ho1 : @rB = zo1, ho2 : @rgL = zo2, ho3 : @good = zo3, ho4 : @mayN = zo4, ho5 : @runs = zo5, ho6 : @rgPre = zo6, ho7 : @putPre = zo7, ho8 : @putL = zo8, ho9 : @hasL = zo9, ho10 : @addG = zo10, ho11 : @stepA = zo11
    generalize hA : Arith.std = A
    cbv
    subst hA hg0 hL ho0 ho1 ho2 ho3 ho4 ho5 ho6 ho7 ho8 ho9 ho10 ho11
    replace hi0 : 0 ≤ i := hi0
    replace hin : i ≤ @Nat.cast Int instNatCastInt n := hin
    replace hld : (l, d) = (L.take i.toNat).foldl (stepA xx) ([], false) := hld
    replace hll : @Nat.cast Int instNatCastInt l.length ≤ i + (if d then 1 else 0) := hll
    have hll2 : (l.length : Int) ≤ i + 1 := by revert hll; cases d <;> simp <;> omega
    refine Ife.mk (fun hlt => ?_) (fun hlt => ?_)
    · replace hlt : i < @Nat.cast Int instNatCastInt n := of_decide_eq_true (p := i < (n : Int)) hlt
      have hg1 := good_take hg (i := i.toNat) (by omega)
      have hft := foldA_take (x := xx) (L := L) (i := i.toNat) (by omega)
      rw [← hld, show i.toNat + 1 = (i + 1).toNat by omega] at hft
      have hll1 : (l.length : Int) ≤ 1000001 := by omega
      have hrB : 0 ≤ rB L i.toNat ∧ rB L i.toNat ≤ 72057594037927935 := by omega
      refine Need.mk (by show 0 ≤ i ∧ i < (n : Int); omega) fun _ => Need.mk (by show i.toNat < n; omega) fun _ => ?_
      have p1 : putPre 25 111 2 l.length (rgG l) xx xx := ⟨rfl, rfl, rfl, rgAt_rgG _ _, by omega, hb, by rw [rgL_rgG]; exact hok⟩
      have p2 : putPre 25 111 2 l.length (rgG l) (rA L i.toNat) (rB L i.toNat) := ⟨rfl, rfl, rfl, rgAt_rgG _ _, by omega, by omega, by rw [rgL_rgG]; exact hok⟩
      have l1 := putL_len (l := l) (r := (xx, xx))
      have m1 := putL_mem (l := l) (r := (xx, xx)) hok hb
      have p3 : putPre 25 111 2 (putL l (xx, xx)).length (rgG (putL l (xx, xx))) (rA L i.toNat) (rB L i.toNat) := ⟨rfl, rfl, rfl, rgAt_rgG _ _, by omega, by omega, by rw [rgL_rgG]; exact m1⟩
      have plain : (d = true ∨ ¬ xx < rA L i.toNat) → stepA xx (l, d) (rA L i.toNat, rB L i.toNat) = (putL l (rA L i.toNat, rB L i.toNat), d) := fun h => by
        unfold stepA
        rw [if_neg]
        rcases h with h | h
        · simp [h]
        · simp [h]
      refine Ife.mk (fun hd => ?_) (fun hd => ?_)
      · have hd : d = false := by simpa using (show (!d) = true from hd)
        refine Ife.mk (fun hx => ?_) (fun hx => ?_)
        · have hx : xx < rA L i.toNat := of_decide_eq_true (p := xx < rA L i.toNat) hx
          rw [rgL_rgG]
          refine Need.mk p1 fun _ => ?_
          rw [rgL_rgG]
          refine Need.mk p3 fun _ => Need.mk (by show fitStd .i64 (i + 1); unfold fitStd; omega) fun _ => ?_
          have l2 := putL_len (l := putL l (xx, xx)) (r := (rA L i.toNat, rB L i.toNat))
          refine ⟨⟨i + 1, true, putL (putL l (xx, xx)) (rA L i.toNat, rB L i.toNat), by omega, by omega, ?h2, putL_mem m1 hrB, ?h4⟩, [0, 1, 5], (by show n - (i + 1).toNat < n - i.toNat; omega), ?st⟩
          case h2 =>
            rw [hft]
            unfold stepA
            rw [if_pos (by simp [hd, hx])]
          case h4 =>
            rw [hd] at hll
            simp only [Bool.false_eq_true, if_false] at hll
            simp only [if_true]
            omega
          case st => refine ⟨rfl, by decide, ?_, ?_⟩ <;> repeat' (first | exact trivial | exact rfl | apply And.intro | (intro i hi; rfl) | (intro i hi; exact absurd hi (Nat.not_lt_zero _)))
        · have hx : ¬ xx < rA L i.toNat := of_decide_eq_false (p := xx < rA L i.toNat) hx
          rw [rgL_rgG]
          refine Need.mk p2 fun _ => Need.mk (by show fitStd .i64 (i + 1); unfold fitStd; omega) fun _ => ?_
          have l2 := putL_len (l := l) (r := (rA L i.toNat, rB L i.toNat))
          refine ⟨⟨i + 1, d, putL l (rA L i.toNat, rB L i.toNat), by omega, by omega, ?h2, putL_mem hok hrB, ?h4⟩, [0, 1, 4], (by show n - (i + 1).toNat < n - i.toNat; omega), ?st⟩
          case h2 => rw [hft, plain (Or.inr hx)]
          case h4 => omega
          case st => refine ⟨rfl, by decide, ?_, ?_⟩ <;> repeat' (first | exact trivial | exact rfl | apply And.intro | (intro i hi; rfl) | (intro i hi; exact absurd hi (Nat.not_lt_zero _)))
      · have hd : d = true := by simpa using (show (!d) = false from hd)
        rw [rgL_rgG]
        refine Need.mk p2 fun _ => Need.mk (by show fitStd .i64 (i + 1); unfold fitStd; omega) fun _ => ?_
        have l2 := putL_len (l := l) (r := (rA L i.toNat, rB L i.toNat))
        refine ⟨⟨i + 1, d, putL l (rA L i.toNat, rB L i.toNat), by omega, by omega, ?h2, putL_mem hok hrB, ?h4⟩, [0, 1, 4], (by show n - (i + 1).toNat < n - i.toNat; omega), ?st⟩
        case h2 => rw [hft, plain (Or.inl hd)]
        case h4 => omega
        case st => refine ⟨rfl, by decide, ?_, ?_⟩ <;> repeat' (first | exact trivial | exact rfl | apply And.intro | (intro i hi; rfl) | (intro i hi; exact absurd hi (Nat.not_lt_zero _)))
    · replace hlt : ¬ i < @Nat.cast Int instNatCastInt n := of_decide_eq_false (p := i < (n : Int)) hlt
      have hfin : (if d then l else putL l (xx, xx)) = addG L xx := by
        have h1 := add_fold (good_GP hg) hv hh
        rw [List.take_of_length_le (show L.length ≤ i.toNat by omega)] at hld
        rw [← hld] at h1
        unfold addG
        rw [if_pos hg]
        exact h1
      have p1 : putPre 25 111 2 l.length (rgG l) xx xx := ⟨rfl, rfl, rfl, rgAt_rgG _ _, by omega, hb, by rw [rgL_rgG]; exact hok⟩
      refine Ife.mk (fun hd => ?_) (fun hd => ?_)
      · have hd : d = false := by simpa using (show (!d) = true from hd)
        rw [hd] at hfin
        simp only [Bool.false_eq_true, if_false] at hfin
        rw [rgL_rgG]
        refine Need.mk p1 fun _ => ?_
        rw [← hfin]
        exact ⟨[0, 3], ⟨rfl, rfl, (by show List.Nodup [3]; decide), rfl, by repeat' (first | exact trivial | exact rfl | apply And.intro | (intro i hi; rfl) | (intro i hi; exact absurd hi (Nat.not_lt_zero _)))⟩⟩
      · have hd : d = true := by simpa using (show (!d) = false from hd)
        rw [hd] at hfin
        simp only [if_true] at hfin
        rw [← hfin]
        exact ⟨[0, 2], ⟨rfl, rfl, (by show List.Nodup [2]; decide), rfl, by repeat' (first | exact trivial | exact rfl | apply And.intro | (intro i hi; rfl) | (intro i hi; exact absurd hi (Nat.not_lt_zero _)))⟩⟩

end Go.Proofs.Ytcgoaicifjndpaa.Vx
end

section
/- Ranges of numbers as the document has them: the plain functions, by the walker. -/
namespace Go.Proofs.Ytcgoaicifjndpaa.Vx
open Go.RowKit Span
set_option linter.unusedVariables false
set_option linter.unusedSimpArgs false
def rgPreD (ty one n : Nat) (get : Nat → List CV) : Prop := ty = 114 ∧ one = 2 ∧ RgAt n get ∧ n ≤ 1000000
def allPreD (ty one n : Nat) (get : Nat → List CV) (m : Int) : Prop := rgPreD ty one n get ∧ m ≤ 1000000 ∧ good (rgL n get) = true
def goodPreD (ty one n : Nat) (get : Nat → List CV) : Prop := rgPreD ty one n get ∧ good (rgL n get) = true
def runsM (l : List Rg) (m : Int) : List Int := (runs l).take m.toNat
structure LDc (L : List Rg) (n : Nat) where
  i : Int
  l : List Rg
  h0 : 0 ≤ i
  h1 : i ≤ (n : Int)
  h2 : l = L.take i.toNat
structure LHs (L : List Rg) (x : Int) (n : Nat) where
  i : Int
  h0 : 0 ≤ i
  h1 : i ≤ (n : Int)
  h2 : ∀ k, k < i.toNat → ¬ (rA L k ≤ x ∧ x ≤ rB L k)
structure LEq (L K : List Rg) (n : Nat) where
  i : Int
  h0 : 0 ≤ i
  h1 : i ≤ (n : Int)
  h2 : ∀ k, k < i.toNat → rA L k = rA K k ∧ rB L k = rB K k
structure LEi (L K : List Int) (n : Nat) where
  i : Int
  h0 : 0 ≤ i
  h1 : i ≤ (n : Int)
  h2 : ∀ k, k < i.toNat → iA L k = iA K k
theorem has_no {L : List Rg} {x : Int} (h : ∀ k, k < L.length → ¬ (rA L k ≤ x ∧ x ≤ rB L k)) : hasL L x = false := by
  rw [Bool.eq_false_iff]
  intro hh
  obtain ⟨r, hr, h1, h2⟩ := List.mem_flatMap.1 (hasL_iff.1 hh) |> fun ⟨r, hr, h⟩ => (⟨r, hr, (mem_runR.1 h).1, (mem_runR.1 h).2⟩ : ∃ r, r ∈ L ∧ r.1 ≤ x ∧ x ≤ r.2)
  obtain ⟨k, hk, rfl⟩ := List.getElem_of_mem hr
  refine h k hk ?_
  rw [getD_get hk] at h1 h2
  exact ⟨h1, h2⟩
theorem has_yes {L : List Rg} {x : Int} {k : Nat} (hk : k < L.length) (h : rA L k ≤ x ∧ x ≤ rB L k) : hasL L x = true := by
  refine hasL_iff.2 (List.mem_flatMap.2 ⟨L[k], List.getElem_mem hk, mem_runR.2 ?_⟩)
  rw [getD_get hk]
  exact h
theorem rg_ext {L K : List Rg} (hl : L.length = K.length) (h : ∀ k, k < L.length → rA L k = rA K k ∧ rB L k = rB K k) : L = K := by
  apply List.ext_getElem hl
  intro i h1 h2
  rw [getD_get h1, getD_get h2, (h i h1).1, (h i h1).2]
theorem in_ext {L K : List Int} (hl : L.length = K.length) (h : ∀ k, k < L.length → iA L k = iA K k) : L = K := by
  apply List.ext_getElem hl
  intro i h1 h2
  have := h i h1
  unfold iA at this
  simpa [List.getD, h1, h2] using this
theorem okAt_no5 {L : List Rg} {i : Nat} (h : ¬ (0 ≤ rA L i ∧ rA L i ≤ rB L i ∧ rB L i ≤ 72057594037927935)) : okAt L i = false := by
  rw [Bool.eq_false_iff]
  intro hh
  exact h (okAt_b hh)
def tbH : Tbl where
  T :=
    (3, ⟨1, false, [.int .i64 (0)], .int .i64, 8⟩) ::
    (4, ⟨1, false, [.ff], .bool, 1⟩) ::
    (22, ⟨1, false, [.val (.slice none 0 0)], .slice 3, 24⟩) ::
    (111, ⟨2, true, [.int .i64 (0), .int .i64 (0)], .struct [(0, (1, false)), (1, (1, false))], 16⟩) ::
    (25, ⟨1, false, [.val (.slice none 0 0)], .slice 111, 24⟩) ::
    (114, ⟨2, true, [.int .i64 (0), .int .i64 (0)], .struct [(0, (1, false)), (1, (1, false))], 16⟩) ::
    (30, ⟨1, false, [.val (.slice none 0 0)], .slice 114, 24⟩) ::
    (9, ⟨1, false, [.str []], .str, 16⟩) ::
    []
  F :=
    (111, [0, 0]) ::
    (114, [0, 0]) ::
    []

theorem tbH_ok : tbH.Ok Try.prog where
  T :=
    TblOk.cons (by kernel_rfl) <|
    TblOk.cons (by kernel_rfl) <|
    TblOk.cons (by kernel_rfl) <|
    TblOk.cons (by kernel_rfl) <|
    TblOk.cons (by kernel_rfl) <|
    TblOk.cons (by kernel_rfl) <|
    TblOk.cons (by kernel_rfl) <|
    TblOk.cons (by kernel_rfl) <|
    TblOk.nil _
  F :=
    FlatsOk.cons (FlatOk.of (D := .struct (Try.prog.fieldsOf 111)) 6 (by decide) (by kernel_rfl) (by kernel_rfl) rfl (by kernel_rfl)) <|
    FlatsOk.cons (FlatOk.of (D := .struct (Try.prog.fieldsOf 114)) 6 (by decide) (by kernel_rfl) (by kernel_rfl) rfl (by kernel_rfl)) <|
    FlatsOk.nil _

def sDoc : SpecF
  | [.c (.row 0)], [.elems ty one n get] => some (rgPre ty one n get, .c (.row 1), [.dead, .row 114 2 (rgL n get).length (rgG (rgL n get))])
  | _, _ => none

set_option maxRecDepth 100000 in
set_option maxHeartbeats 4000000 in
theorem docP : Fn Try.prog 26 [] [(111, 2)] sDoc := by
  have hC : CtsOk Try.prog [] := CtsOk.nil _
  refine Fn.of (E := tbH) [1] 0 [(5, [(0, true), (1, true), (2, true), (3, true), (4, true), (5, true), (6, true), (7, true), (8, true), (9, true), (10, true), (11, true), (12, false), (13, false), (14, true)])] tbH_ok hC (by kernel_rfl) Try.func26 rfl rfl rfl (by kernel_rfl) (by kernel_rfl) 1 114 2 ?_ ?_
  · intro args h pre r h' hs
    unfold sDoc at hs
    split at hs
    · cases hs; exact ⟨rfl, rfl, Nat.le_of_ble_eq_true rfl⟩
    · cases hs
  · intro args h pre r h' hs hp
    unfold sDoc at hs
    split at hs
    rotate_left
    · cases hs
    rename_i ty one n get
    cases hs
    obtain ⟨rfl, rfl, hst, hm⟩ := hp
    refine ⟨[.elems 111 2 n (rgG (rgL n get))], hst.same, ?_⟩
    have hL : (rgL n get).length = n := rgL_len
    generalize rgL n get = L at hL ⊢
    generalize hL : lft Try.prog _ = L
    try unfold rgG
    generalize ho0 : @rA = zo0, ho1 : @rB = zo1, ho2 : @rgL = zo2, ho3 : @rgPre = zo3
    generalize hA : Arith.std = A
    cbv
    subst hA hL ho0 ho1 ho2 ho3
    refine Runs.nilTmp 3 114 2 (rgG []) rfl ?_
    show Runs Try.prog 1 (.loop _) _ _
    refine loop_ruleR (N := env (lft Try.prog 1) 0 .std tbH [] [(5, [(0, true), (1, true), (2, true), (3, true), (4, true), (5, true), (6, true), (7, true), (8, true), (9, true), (10, true), (11, true), (12, false), (13, false), (14, true)])]) rfl tbH_ok hC (fun c st K _ h => h) (by kernel_rfl) [1] (X := LDc L n)
      (S := fun x => ⟨[.c (.row 0), .any, .any, .c (.row 1), .c (.int .i64 x.i)] ++ List.replicate 21 .any, [.elems 111 2 n (rgG L), .row 114 2 x.l.length (rgG x.l)]⟩) (μ := fun x => n - x.i.toNat) ⟨0, [], by omega, by omega, rfl⟩ (by kernel_rfl) [0, 1] ?_ ?_
    · refine ⟨rfl, by decide, ?_, ?_⟩ <;> repeat' (first | exact trivial | exact rfl | apply And.intro | (intro i hi; rfl) | (intro i hi; exact absurd hi (Nat.not_lt_zero _)))
    rintro ⟨i, l, hi0, hin, hl⟩
    generalize hg0 : (List.length : List Rg → Nat) = g0
    generalize hL : lft Try.prog _ = L
    try dsimp only
    try unfold rgG
    generalize ho0 : @rA = zo0, ho1 : @rB = zo1, ho2 : @rgL = zo2, ho3 : @rgPre = zo3
    generalize hA : Arith.std = A
    cbv
    subst hA hg0 hL ho0 ho1 ho2 ho3
    replace hl : l = L.take i.toNat := hl
    replace hi0 : 0 ≤ i := hi0
    replace hin : i ≤ @Nat.cast Int instNatCastInt n := hin
    refine Ife.mk (fun hlt => ?_) (fun hlt => ?_)
    · replace hlt : i < @Nat.cast Int instNatCastInt n := of_decide_eq_true (p := i < (n : Int)) hlt
      have ll : l.length = i.toNat := by rw [hl, List.length_take]; omega
      repeat refine Need.mk (by first | exact trivial | (simp only [Arith.std, fitStd]; omega) | (simp [Arith.std, fitStd]; omega)) fun _ => ?_
      refine Need.mk (by show l.length + 1 ≤ maxLen ∧ (l.length + 1) * 16 ≤ 140737488355328; unfold maxLen; omega) fun _ => Need.mk (by show fitStd .i64 (i + 1); unfold fitStd; omega) fun _ => ?_
      refine ⟨⟨i + 1, l ++ [(rA L i.toNat, rB L i.toNat)], by omega, by omega, ?h2⟩, [0, 3], (by show n - (i + 1).toNat < n - i.toNat; omega), ?st⟩
      case h2 => rw [show (i + 1).toNat = i.toNat + 1 by omega, take_succ' L (by omega), getD_get (by omega), hl]
      case st =>
        refine ⟨rfl, by decide, ?_, ?_⟩
        · repeat' (first | exact trivial | exact rfl | apply And.intro)
        · repeat' (first | exact trivial | exact rfl | apply And.intro)
          · simp
          · intro j hj
            exact rgG_push l (rA L i.toNat, rB L i.toNat) j (by simpa using hj)
    · replace hlt : ¬ i < @Nat.cast Int instNatCastInt n := of_decide_eq_false (p := i < (n : Int)) hlt
      obtain rfl : L = l := by rw [hl, List.take_of_length_le (by omega)]
      exact ⟨[0, 1], ⟨rfl, rfl, (by show List.Nodup [1]; decide), rfl, by repeat' (first | exact trivial | exact rfl | apply And.intro | (intro i hi; rfl) | (intro i hi; exact absurd hi (Nat.not_lt_zero _)))⟩⟩

def sGoodD : SpecF
  | [.c (.row 0)], [.elems ty one n get] => some (rgPreD ty one n get, .c (.bool (good (rgL n get))), [.dead])
  | _, _ => none

set_option maxRecDepth 100000 in
set_option maxHeartbeats 4000000 in
theorem goodDP : Fn Try.prog 28 [] [(114, 2)] sGoodD := by
  have hC : CtsOk Try.prog [] := CtsOk.nil _
  refine Fn.of (E := tbH) [] 0 [(4, [(0, true), (1, true), (2, true), (3, true), (4, true), (5, true), (6, true), (7, true), (8, true), (9, true), (10, true), (11, true), (12, true), (13, true), (14, true), (15, true), (16, true), (17, true), (18, true), (19, true), (20, true), (21, true), (22, true), (23, true), (24, true), (25, true), (26, true), (27, true), (28, true), (29, true), (30, true), (31, true), (32, true), (33, true), (34, true), (35, true), (36, true), (37, true), (38, true), (39, true), (40, true), (41, true), (42, true), (43, true), (44, true), (45, true)])] tbH_ok hC (by kernel_rfl) Try.func28 rfl rfl rfl (by kernel_rfl) (by kernel_rfl) 1 5 1 ?_ ?_
  · intro args h pre r h' hs
    unfold sGoodD at hs
    split at hs
    · cases hs; exact ⟨rfl, rfl, Nat.le_of_ble_eq_true rfl⟩
    · cases hs
  · intro args h pre r h' hs hp
    unfold sGoodD at hs
    split at hs
    rotate_left
    · cases hs
    rename_i ty one n get
    cases hs
    obtain ⟨rfl, rfl, hst, hm⟩ := hp
    refine ⟨[.elems 114 2 n (rgG (rgL n get))], hst.same, ?_⟩
    have hL : (rgL n get).length = n := rgL_len
    generalize rgL n get = L at hL ⊢
    generalize hL : lft Try.prog _ = L
    try unfold rgG
    generalize ho0 : @rA = zo0, ho1 : @rB = zo1, ho2 : @rgL = zo2, ho3 : @good = zo3, ho4 : @okAt = zo4, ho5 : @mayN = zo5, ho6 : @rgPreD = zo6
    generalize hA : Arith.std = A
    cbv
    subst hA hL ho0 ho1 ho2 ho3 ho4 ho5 ho6
    show Runs Try.prog 1 (.loop _) _ _
    refine loop_ruleR (N := env (lft Try.prog 1) 0 .std tbH [] [(4, [(0, true), (1, true), (2, true), (3, true), (4, true), (5, true), (6, true), (7, true), (8, true), (9, true), (10, true), (11, true), (12, true), (13, true), (14, true), (15, true), (16, true), (17, true), (18, true), (19, true), (20, true), (21, true), (22, true), (23, true), (24, true), (25, true), (26, true), (27, true), (28, true), (29, true), (30, true), (31, true), (32, true), (33, true), (34, true), (35, true), (36, true), (37, true), (38, true), (39, true), (40, true), (41, true), (42, true), (43, true), (44, true), (45, true)])]) rfl tbH_ok hC (fun c st K _ h => h) (by kernel_rfl) [] (X := LGd L n)
      (S := fun x => ⟨[.c (.row 0), .any, .any, .c (.int .i64 x.i)] ++ List.replicate 52 .any, [.elems 114 2 n (rgG L)]⟩) (μ := fun x => n - x.i.toNat) ⟨0, by omega, by omega, fun k hk => absurd hk (by show ¬ k < (0 : Int).toNat; omega)⟩ (by kernel_rfl) [0] ?_ ?_
    · refine ⟨rfl, by decide, ?_, ?_⟩ <;> repeat' (first | exact trivial | exact rfl | apply And.intro)
    rintro ⟨i, hi0, hin, hall⟩
    generalize hL : lft Try.prog _ = L
    try dsimp only
    try unfold rgG
    generalize ho0 : @rA = zo0, ho1 : @rB = zo1, ho2 : @rgL = zo2, ho3 : @good = zo3, ho4 : @okAt = zo4, ho5 : @mayN = zo5, ho6 : @rgPreD = zo6
    generalize hA : Arith.std = A
    cbv
    subst hA hL ho0 ho1 ho2 ho3 ho4 ho5 ho6
    replace hall : ∀ k, k < i.toNat → okAt L k = true := hall
    replace hi0 : 0 ≤ i := hi0
    replace hin : i ≤ @Nat.cast Int instNatCastInt n := hin
    refine Ife.mk (fun hlt => ?_) (fun hlt => ?_)
    · replace hlt : i < @Nat.cast Int instNatCastInt n := of_decide_eq_true (p := i < (n : Int)) hlt
      have no : okAt L i.toNat = false → good L = false := good_at (by omega)
      repeat refine Need.mk (by first | exact trivial | (simp only [Arith.std, fitStd]; omega) | (simp [Arith.std, fitStd]; omega)) fun _ => ?_
      refine Ife.mk (fun h => ?_) (fun h1 => ?_)
      · have h : rA L i.toNat < 0 := of_decide_eq_true (p := rA L i.toNat < 0) h
        rw [no (okAt_no5 (by omega))]
        exact ⟨[0], ⟨rfl, by repeat' (first | exact trivial | exact rfl | apply And.intro), by decide, rfl, by repeat' (first | exact trivial | exact rfl | apply And.intro)⟩⟩
      have h1 : ¬ rA L i.toNat < 0 := of_decide_eq_false (p := rA L i.toNat < 0) h1
      repeat refine Need.mk (by first | exact trivial | (simp only [Arith.std, fitStd]; omega) | (simp [Arith.std, fitStd]; omega)) fun _ => ?_
      refine Ife.mk (fun h => ?_) (fun h2 => ?_)
      · have h : rB L i.toNat < rA L i.toNat := of_decide_eq_true (p := rB L i.toNat < rA L i.toNat) h
        rw [no (okAt_no5 (by omega))]
        exact ⟨[0], ⟨rfl, by repeat' (first | exact trivial | exact rfl | apply And.intro), by decide, rfl, by repeat' (first | exact trivial | exact rfl | apply And.intro)⟩⟩
      have h2 : ¬ rB L i.toNat < rA L i.toNat := of_decide_eq_false (p := rB L i.toNat < rA L i.toNat) h2
      repeat refine Need.mk (by first | exact trivial | (simp only [Arith.std, fitStd]; omega) | (simp [Arith.std, fitStd]; omega)) fun _ => ?_
      refine Ife.mk (fun h => ?_) (fun h3 => ?_)
      · have h : 72057594037927935 < rB L i.toNat := of_decide_eq_true (p := 72057594037927935 < rB L i.toNat) h
        rw [no (okAt_no5 (by omega))]
        exact ⟨[0], ⟨rfl, by repeat' (first | exact trivial | exact rfl | apply And.intro), by decide, rfl, by repeat' (first | exact trivial | exact rfl | apply And.intro)⟩⟩
      have h3 : ¬ 72057594037927935 < rB L i.toNat := of_decide_eq_false (p := 72057594037927935 < rB L i.toNat) h3
      have m1 : mayN (rA L i.toNat) = true := mayN_iff.2 (by omega)
      have m2 : mayN (rB L i.toNat) = true := mayN_iff.2 (by omega)
      refine Ife.mk (fun h => ?_) (fun h => ?_)
      · have h : 0 < i := of_decide_eq_true (p := 0 < i) h
        have e : (i - 1).toNat = i.toNat - 1 := by omega
        have b2 := okAt_b (hall (i - 1).toNat (by omega))
        repeat refine Need.mk (by first | exact trivial | (simp only [Arith.std, fitStd]; omega) | (simp [Arith.std, fitStd]; omega)) fun _ => ?_
        refine Ife.mk (fun h => ?_) (fun h => ?_)
        · have h : rA L i.toNat - rB L (i - 1).toNat < 2 := of_decide_eq_true (p := rA L i.toNat - rB L (i - 1).toNat < 2) h
          rw [e] at h
          rw [no (okAt_no4 (by omega) h)]
          exact ⟨[0], ⟨rfl, by repeat' (first | exact trivial | exact rfl | apply And.intro), by decide, rfl, by repeat' (first | exact trivial | exact rfl | apply And.intro)⟩⟩
        have h4 : ¬ rA L i.toNat - rB L (i - 1).toNat < 2 := of_decide_eq_false (p := rA L i.toNat - rB L (i - 1).toNat < 2) h
        rw [e] at h4
        have hok := okAt_yes m1 m2 h2 (Or.inr h4)
        repeat refine Need.mk (by first | exact trivial | (simp only [Arith.std, fitStd]; omega) | (simp [Arith.std, fitStd]; omega)) fun _ => ?_
        refine ⟨⟨i + 1, by omega, by omega, ?h2⟩, [0], (by show n - (i + 1).toNat < n - i.toNat; omega), ?st⟩
        case st => refine ⟨rfl, by decide, ?_, ?_⟩ <;> repeat' (first | exact trivial | exact rfl | apply And.intro)
        case h2 =>
          intro k hk
          by_cases hk2 : k = i.toNat
          · rw [hk2]; exact hok
          · exact hall k (by omega)
      · have h : ¬ 0 < i := of_decide_eq_false (p := 0 < i) h
        have hok := okAt_yes m1 m2 h2 (Or.inl (by omega))
        repeat refine Need.mk (by first | exact trivial | (simp only [Arith.std, fitStd]; omega) | (simp [Arith.std, fitStd]; omega)) fun _ => ?_
        refine ⟨⟨i + 1, by omega, by omega, ?h2⟩, [0], (by show n - (i + 1).toNat < n - i.toNat; omega), ?st⟩
        case st => refine ⟨rfl, by decide, ?_, ?_⟩ <;> repeat' (first | exact trivial | exact rfl | apply And.intro)
        case h2 =>
          intro k hk
          by_cases hk2 : k = i.toNat
          · rw [hk2]; exact hok
          · exact hall k (by omega)
    · replace hlt : ¬ i < @Nat.cast Int instNatCastInt n := of_decide_eq_false (p := i < (n : Int)) hlt
      rw [show good L = true from good_iff.2 fun k hk => hall k (by omega)]
      exact ⟨[0], ⟨rfl, by repeat' (first | exact trivial | exact rfl | apply And.intro), by decide, rfl, by repeat' (first | exact trivial | exact rfl | apply And.intro)⟩⟩

def sHasD : SpecF
  | [.c (.row 0), .c (.int .i64 x)], [.elems ty one n get] => some (rgPreD ty one n get, .c (.bool (hasL (rgL n get) x)), [.dead])
  | _, _ => none

set_option maxRecDepth 100000 in
set_option maxHeartbeats 4000000 in
theorem hasDP : Fn Try.prog 29 [] [(114, 2)] sHasD := by
  have hC : CtsOk Try.prog [] := CtsOk.nil _
  refine Fn.of (E := tbH) [] 0 [] tbH_ok hC (by kernel_rfl) Try.func29 rfl rfl rfl (by kernel_rfl) (by kernel_rfl) 1 5 1 ?_ ?_
  · intro args h pre r h' hs
    unfold sHasD at hs
    split at hs
    · cases hs; exact ⟨rfl, rfl, Nat.le_of_ble_eq_true rfl⟩
    · cases hs
  · intro args h pre r h' hs hp
    unfold sHasD at hs
    split at hs
    rotate_left
    · cases hs
    rename_i x ty one n get
    cases hs
    obtain ⟨rfl, rfl, hst, hm⟩ := hp
    refine ⟨[.elems 114 2 n (rgG (rgL n get))], hst.same, ?_⟩
    have hL : (rgL n get).length = n := rgL_len
    generalize rgL n get = L at hL ⊢
    generalize hL : lft Try.prog _ = L
    try unfold rgG
    generalize ho0 : @rA = zo0, ho1 : @rB = zo1, ho2 : @rgL = zo2, ho3 : @hasL = zo3, ho4 : @rgPreD = zo4
    generalize hA : Arith.std = A
    cbv
    subst hA hL ho0 ho1 ho2 ho3 ho4
    show Runs Try.prog 1 (.loop _) _ _
    refine loop_ruleR (N := env (lft Try.prog 1) 0 .std tbH [] []) rfl tbH_ok hC (fun c st K _ h => h) (by kernel_rfl) [] (X := LHs L x n)
      (S := fun y => ⟨[.c (.row 0), .c (.int .i64 x), .any, .any, .any, .c (.int .i64 y.i)] ++ List.replicate 22 .any, [.elems 114 2 n (rgG L)]⟩) (μ := fun y => n - y.i.toNat) ⟨0, by omega, by omega, fun k hk => absurd hk (by show ¬ k < (0 : Int).toNat; omega)⟩ (by kernel_rfl) [0] ?_ ?_
    · refine ⟨rfl, by decide, ?_, ?_⟩ <;> repeat' (first | exact trivial | exact rfl | apply And.intro)
    rintro ⟨i, hi0, hin, hall⟩
    generalize hL : lft Try.prog _ = L
    try dsimp only
    try unfold rgG
    generalize ho0 : @rA = zo0, ho1 : @rB = zo1, ho2 : @rgL = zo2, ho3 : @hasL = zo3, ho4 : @rgPreD = zo4
    generalize hA : Arith.std = A
    cbv
    subst hA hL ho0 ho1 ho2 ho3 ho4
    replace hall : ∀ k, k < i.toNat → ¬ (rA L k ≤ x ∧ x ≤ rB L k) := hall
    replace hi0 : 0 ≤ i := hi0
    replace hin : i ≤ @Nat.cast Int instNatCastInt n := hin
    refine Ife.mk (fun hlt => ?_) (fun hlt => ?_)
    · replace hlt : i < @Nat.cast Int instNatCastInt n := of_decide_eq_true (p := i < (n : Int)) hlt
      have nx : ¬ (rA L i.toNat ≤ x ∧ x ≤ rB L i.toNat) → ∀ k, k < (i + 1).toNat → ¬ (rA L k ≤ x ∧ x ≤ rB L k) := fun h k hk => by
        by_cases hk2 : k = i.toNat
        · rw [hk2]; exact h
        · exact hall k (by omega)
      repeat refine Need.mk (by first | exact trivial | (simp only [Arith.std, fitStd]; omega) | (simp [Arith.std, fitStd]; omega)) fun _ => ?_
      refine Ife.mk (fun h => ?_) (fun h => ?_)
      · have h : rA L i.toNat ≤ x := of_decide_eq_true (p := rA L i.toNat ≤ x) h
        repeat refine Need.mk (by first | exact trivial | (simp only [Arith.std, fitStd]; omega) | (simp [Arith.std, fitStd]; omega)) fun _ => ?_
        refine Ife.mk (fun h2 => ?_) (fun h2 => ?_)
        · have h2 : x ≤ rB L i.toNat := of_decide_eq_true (p := x ≤ rB L i.toNat) h2
          rw [has_yes (by omega) ⟨h, h2⟩]
          exact ⟨[0], ⟨rfl, by repeat' (first | exact trivial | exact rfl | apply And.intro), by decide, rfl, by repeat' (first | exact trivial | exact rfl | apply And.intro)⟩⟩
        · have h2 : ¬ x ≤ rB L i.toNat := of_decide_eq_false (p := x ≤ rB L i.toNat) h2
          repeat refine Need.mk (by first | exact trivial | (simp only [Arith.std, fitStd]; omega) | (simp [Arith.std, fitStd]; omega)) fun _ => ?_
          refine ⟨⟨i + 1, by omega, by omega, nx (by omega)⟩, [0], (by show n - (i + 1).toNat < n - i.toNat; omega), ?_⟩
          refine ⟨rfl, by decide, ?_, ?_⟩ <;> repeat' (first | exact trivial | exact rfl | apply And.intro)
      · have h : ¬ rA L i.toNat ≤ x := of_decide_eq_false (p := rA L i.toNat ≤ x) h
        repeat refine Need.mk (by first | exact trivial | (simp only [Arith.std, fitStd]; omega) | (simp [Arith.std, fitStd]; omega)) fun _ => ?_
        refine ⟨⟨i + 1, by omega, by omega, nx (by omega)⟩, [0], (by show n - (i + 1).toNat < n - i.toNat; omega), ?_⟩
        refine ⟨rfl, by decide, ?_, ?_⟩ <;> repeat' (first | exact trivial | exact rfl | apply And.intro)
    · replace hlt : ¬ i < @Nat.cast Int instNatCastInt n := of_decide_eq_false (p := i < (n : Int)) hlt
      rw [has_no fun k hk => hall k (by omega)]
      exact ⟨[0], ⟨rfl, by repeat' (first | exact trivial | exact rfl | apply And.intro), by decide, rfl, by repeat' (first | exact trivial | exact rfl | apply And.intro)⟩⟩

def sCountD : SpecF
  | [.c (.row 0)], [.elems ty one n get] => some (goodPreD ty one n get, .c (.int .i64 (count (rgL n get))), [.dead])
  | _, _ => none

set_option maxRecDepth 100000 in
set_option maxHeartbeats 4000000 in
theorem countDP : Fn Try.prog 34 [] [(114, 2)] sCountD := by
  have hC : CtsOk Try.prog [] := CtsOk.nil _
  refine Fn.of (E := tbH) [] 0 [(5, [(0, true), (1, true), (2, true), (3, true), (4, true), (5, true), (6, true), (7, true), (8, true), (9, true), (10, true), (11, true), (12, true), (13, true), (14, true)])] tbH_ok hC (by kernel_rfl) Try.func34 rfl rfl rfl (by kernel_rfl) (by kernel_rfl) 1 5 1 ?_ ?_
  · intro args h pre r h' hs
    unfold sCountD at hs
    split at hs
    · cases hs; exact ⟨rfl, rfl, Nat.le_of_ble_eq_true rfl⟩
    · cases hs
  · intro args h pre r h' hs hp
    unfold sCountD at hs
    split at hs
    rotate_left
    · cases hs
    rename_i ty one n get
    cases hs
    obtain ⟨⟨rfl, rfl, hst, hm⟩, hg⟩ := hp
    refine ⟨[.elems 114 2 n (rgG (rgL n get))], hst.same, ?_⟩
    have hL : (rgL n get).length = n := rgL_len
    generalize rgL n get = L at hL hg ⊢
    generalize hL : lft Try.prog _ = L
    try unfold rgG
    generalize ho0 : @rA = zo0, ho1 : @rB = zo1, ho2 : @rgL = zo2, ho3 : @count = zo3, ho4 : @goodPreD = zo4
    generalize hA : Arith.std = A
    cbv
    subst hA hL ho0 ho1 ho2 ho3 ho4
    show Runs Try.prog 1 (.loop _) _ _
    refine loop_ruleR (N := env (lft Try.prog 1) 0 .std tbH [] [(5, [(0, true), (1, true), (2, true), (3, true), (4, true), (5, true), (6, true), (7, true), (8, true), (9, true), (10, true), (11, true), (12, true), (13, true), (14, true)])]) rfl tbH_ok hC (fun c st K _ h => h) (by kernel_rfl) [] (X := LCt L n)
      (S := fun x => ⟨[.c (.row 0), .any, .any, .c (.int .i64 x.a), .c (.int .i64 x.i)] ++ List.replicate 21 .any, [.elems 114 2 n (rgG L)]⟩) (μ := fun x => n - x.i.toNat) ⟨0, 0, by omega, by omega, rfl, by omega, fun _ => rfl, fun h => by omega⟩ (by kernel_rfl) [0] ?_ ?_
    · refine ⟨rfl, by decide, ?_, ?_⟩ <;> repeat' (first | exact trivial | exact rfl | apply And.intro)
    rintro ⟨i, a, hi0, hin, ha, ha0, hz, hb⟩
    generalize hL : lft Try.prog _ = L
    try dsimp only
    try unfold rgG
    generalize ho0 : @rA = zo0, ho1 : @rB = zo1, ho2 : @rgL = zo2, ho3 : @count = zo3, ho4 : @goodPreD = zo4
    generalize hA : Arith.std = A
    cbv
    subst hA hL ho0 ho1 ho2 ho3 ho4
    replace hi0 : 0 ≤ i := hi0
    replace hin : i ≤ @Nat.cast Int instNatCastInt n := hin
    replace ha : a = count (L.take i.toNat) := ha
    replace ha0 : 0 ≤ a := ha0
    replace hz : i = 0 → a = 0 := hz
    replace hb : 0 < i → a ≤ rB L (i.toNat - 1) + 1 := hb
    refine Ife.mk (fun hlt => ?_) (fun hlt => ?_)
    · replace hlt : i < @Nat.cast Int instNatCastInt n := of_decide_eq_true (p := i < (n : Int)) hlt
      have hg1 := good_take hg (i := i.toNat) (by omega)
      have hA : a + (rB L i.toNat - rA L i.toNat + 1) ≤ rB L i.toNat + 1 := by
        rcases Int.lt_or_eq_of_le hi0 with h | h
        · have := hb h; have := hg1.2.2.2 (by omega); omega
        · have := hz h.symm; omega
      repeat refine Need.mk (by first | exact trivial | (simp only [Arith.std, fitStd]; omega) | (simp [Arith.std, fitStd]; omega)) fun _ => ?_
      refine ⟨⟨i + 1, a + (rB L i.toNat - rA L i.toNat + 1), by omega, by omega, ?h2, by omega, fun h => by omega, fun _ => (by rw [show (i + 1).toNat - 1 = i.toNat by omega]; exact hA)⟩, [0], (by show n - (i + 1).toNat < n - i.toNat; omega), ?st⟩
      case st => refine ⟨rfl, by decide, ?_, ?_⟩ <;> repeat' (first | exact trivial | exact rfl | apply And.intro)
      case h2 => rw [show (i + 1).toNat = i.toNat + 1 by omega, count_take (by omega), ha]
    · replace hlt : ¬ i < @Nat.cast Int instNatCastInt n := of_decide_eq_false (p := i < (n : Int)) hlt
      rw [show count L = a by rw [ha, List.take_of_length_le (by omega)]]
      exact ⟨[0], ⟨rfl, by repeat' (first | exact trivial | exact rfl | apply And.intro), by decide, rfl, by repeat' (first | exact trivial | exact rfl | apply And.intro)⟩⟩

def sAllD : SpecF
  | [.c (.row 0), .c (.int .i64 m)], [.elems ty one n get] => some (allPreD ty one n get m, .c (.row 1), [.dead, .row 3 1 (runsM (rgL n get) m).length (inG (runsM (rgL n get) m))])
  | _, _ => none

set_option maxRecDepth 100000 in
set_option maxHeartbeats 4000000 in
theorem allDP : Fn Try.prog 36 [] [(114, 2)] sAllD := by
  have hC : CtsOk Try.prog [] := CtsOk.nil _
  refine Fn.of (E := tbH) [] 0 [] tbH_ok hC (by kernel_rfl) Try.func36 rfl rfl rfl (by kernel_rfl) (by kernel_rfl) 1 3 1 ?_ ?_
  · intro args h pre r h' hs
    unfold sAllD at hs
    split at hs
    · cases hs; exact ⟨rfl, rfl, Nat.le_of_ble_eq_true rfl⟩
    · cases hs
  · intro args h pre r h' hs hp
    unfold sAllD at hs
    split at hs
    rotate_left
    · cases hs
    rename_i m ty one n get
    cases hs
    obtain ⟨⟨rfl, rfl, hst, hm⟩, hmm, hg⟩ := hp
    refine ⟨[.elems 114 2 n (rgG (rgL n get))], hst.same, ?_⟩
    have hL : (rgL n get).length = n := rgL_len
    generalize rgL n get = L at hL hg ⊢
    generalize hg0 : (List.length : List Int → Nat) = g0
    generalize hL : lft Try.prog _ = L
    try unfold rgG
    try unfold inG
    generalize ho0 : @rA = zo0, ho1 : @rB = zo1, ho2 : @rgL = zo2, ho3 : @runs = zo3, ho4 : @iA = zo4, ho5 : @seqR = zo5, ho6 : @allPreD = zo6, ho7 : @runsM = zo7
    generalize hA : Arith.std = A
    cbv
    subst hA hg0 hL ho0 ho1 ho2 ho3 ho4 ho5 ho6 ho7
    refine Runs.nilTmp 5 3 1 (inG []) rfl ?_
    show Runs Try.prog 1 (.loop _) _ _
    refine loop_ruleR (N := env (lft Try.prog 1) 0 .std tbH [] []) rfl tbH_ok hC (fun c st K _ h => h) (by kernel_rfl) [] (X := LAl L n m)
      (S := fun x => ⟨[.c (.row 0), .c (.int .i64 m), .any, .any, .any, .c (.row 1), .c (.int .i64 x.i)] ++ List.replicate 32 .any, [.elems 114 2 n (rgG L), .row 3 1 x.l.length (inG x.l)]⟩) (μ := fun x => n - x.i.toNat) ⟨0, [], by omega, by omega, by simp [runs]⟩ (by kernel_rfl) [0, 1] ?_ ?_
    · refine ⟨rfl, by decide, ?_, ?_⟩ <;> repeat' (first | exact trivial | exact rfl | apply And.intro | (intro i hi; rfl) | (intro i hi; exact absurd hi (Nat.not_lt_zero _)))
    rintro ⟨i, l, hi0, hin, hl⟩
    generalize hg0 : (List.length : List Int → Nat) = g0
    generalize hL : lft Try.prog _ = L
    try dsimp only
    try unfold rgG
    try unfold inG
    generalize ho0 : @rA = zo0, ho1 : @rB = zo1, ho2 : @rgL = zo2, ho3 : @runs = zo3, ho4 : @iA = zo4, ho5 : @seqR = zo5, ho6 : @allPreD = zo6, ho7 : @runsM = zo7
    generalize hA : Arith.std = A
    cbv
    subst hA hg0 hL ho0 ho1 ho2 ho3 ho4 ho5 ho6 ho7
    replace hl : l = (runs (L.take i.toNat)).take m.toNat := hl
    replace hi0 : 0 ≤ i := hi0
    replace hin : i ≤ @Nat.cast Int instNatCastInt n := hin
    refine Ife.mk (fun hlt => ?_) (fun hlt => ?_)
    · replace hlt : i < @Nat.cast Int instNatCastInt n := of_decide_eq_true (p := i < (n : Int)) hlt
      have hg1 := good_take hg (i := i.toNat) (by omega)
      repeat refine Need.mk (by first | exact trivial | (simp only [Arith.std, fitStd]; omega) | (simp [Arith.std, fitStd]; omega)) fun _ => ?_
      show Runs Try.prog 1 (.loop _) _ _
      refine loop_ruleR (N := env (lft Try.prog 1) 0 .std tbH [] []) rfl tbH_ok hC (fun c st K _ h => h) (by kernel_rfl) [] (X := LAi L m i.toNat)
        (S := fun x => ⟨[.c (.row 0), .c (.int .i64 m), .any, .any, .any, .c (.row 1), .c (.int .i64 i), .c (.int .i64 x.v)] ++ List.replicate 31 .any, [.elems 114 2 n (rgG L), .row 3 1 x.l.length (inG x.l)]⟩) (μ := fun x => (rB L i.toNat + 1 - x.v).toNat) ⟨rA L i.toNat, l, by omega, by omega, by rw [seqR_self, List.append_nil]; exact hl⟩ (by kernel_rfl) [0, 1] ?_ ?_
      · refine ⟨rfl, by decide, ?_, ?_⟩ <;> repeat' (first | exact trivial | exact rfl | apply And.intro | (intro i hi; rfl) | (intro i hi; exact absurd hi (Nat.not_lt_zero _)))
      rintro ⟨v, k, hv0, hv1, hk⟩
      generalize hg0 : (List.length : List Int → Nat) = g0
      generalize hL : lft Try.prog _ = L
      try dsimp only
      try unfold rgG
      try unfold inG
      generalize ho0 : @rA = zo0, ho1 : @rB = zo1, ho2 : @rgL = zo2, ho3 : @runs = zo3, ho4 : @iA = zo4, ho5 : @seqR = zo5, ho6 : @allPreD = zo6, ho7 : @runsM = zo7
      generalize hA : Arith.std = A
      cbv
      subst hA hg0 hL ho0 ho1 ho2 ho3 ho4 ho5 ho6 ho7
      replace hi0 : 0 ≤ i := hi0
      replace hin : i ≤ @Nat.cast Int instNatCastInt n := hin
      replace hlt : i < @Nat.cast Int instNatCastInt n := hlt
      replace hv0 : rA L i.toNat ≤ v := hv0
      replace hv1 : v ≤ rB L i.toNat + 1 := hv1
      replace hk : k = (runs (L.take i.toNat) ++ seqR (rA L i.toNat) v).take m.toNat := hk
      have kl : k.length ≤ m.toNat := by rw [hk]; exact List.length_take_le _ _
      repeat refine Need.mk (by first | exact trivial | (simp only [Arith.std, fitStd]; omega) | (simp [Arith.std, fitStd]; omega)) fun _ => ?_
      refine Ife.mk (fun h => ?_) (fun h => ?_)
      · have h : v ≤ rB L i.toNat := of_decide_eq_true (p := v ≤ rB L i.toNat) h
        refine Ife.mk (fun h2 => ?_) (fun h2 => ?_)
        · have h2 : (k.length : Int) < m := of_decide_eq_true (p := (k.length : Int) < m) h2
          refine Need.mk (by show k.length + 1 ≤ maxLen ∧ (k.length + 1) * 8 ≤ 140737488355328; unfold maxLen; omega) fun _ => Need.mk (by show fitStd .i64 (v + 1); unfold fitStd; omega) fun _ => ?_
          refine ⟨⟨v + 1, k ++ [v], by omega, by omega, ?h2⟩, [0, 3], (by show (rB L i.toNat + 1 - (v + 1)).toNat < (rB L i.toNat + 1 - v).toNat; omega), ?st⟩
          case st =>
            refine ⟨rfl, by decide, ?_, ?_⟩
            · repeat' (first | exact trivial | exact rfl | apply And.intro)
            · repeat' (first | exact trivial | exact rfl | apply And.intro)
              · simp
              · intro j hj
                exact inG_push k v j (by simpa using hj)
          case h2 =>
            have e : (runs (L.take i.toNat) ++ seqR (rA L i.toNat) v).length < m.toNat := by
              have h3 : k.length = min m.toNat (runs (L.take i.toNat) ++ seqR (rA L i.toNat) v).length := by rw [hk, List.length_take]
              omega
            rw [seqR_succ hv0, ← List.append_assoc, hk, List.take_of_length_le (l := runs (L.take i.toNat) ++ seqR (rA L i.toNat) v) (Nat.le_of_lt e), List.take_of_length_le (l := runs (L.take i.toNat) ++ seqR (rA L i.toNat) v ++ [v]) (by rw [List.length_append, List.length_singleton]; omega)]
        · have h2 : ¬ (k.length : Int) < m := of_decide_eq_false (p := (k.length : Int) < m) h2
          refine Need.mk (by show fitStd .i64 (i + 1); unfold fitStd; omega) fun _ => ?_
          refine ⟨⟨i + 1, k, by omega, by omega, ?h2⟩, [0, 1], (by show n - (i + 1).toNat < n - i.toNat; omega), ?st⟩
          case st => refine ⟨rfl, by decide, ?_, ?_⟩ <;> repeat' (first | exact trivial | exact rfl | apply And.intro | (intro i hi; rfl) | (intro i hi; exact absurd hi (Nat.not_lt_zero _)))
          case h2 =>
            have e : m.toNat ≤ (runs (L.take i.toNat) ++ seqR (rA L i.toNat) v).length := by
              have h3 : k.length = min m.toNat (runs (L.take i.toNat) ++ seqR (rA L i.toNat) v).length := by rw [hk, List.length_take]
              omega
            rw [show (i + 1).toNat = i.toNat + 1 by omega, runs_take (by omega), seqR_app hv0 hv1, ← List.append_assoc, List.take_append_of_le_length e, hk]
      · have h : ¬ v ≤ rB L i.toNat := of_decide_eq_false (p := v ≤ rB L i.toNat) h
        refine Need.mk (by show fitStd .i64 (i + 1); unfold fitStd; omega) fun _ => ?_
        refine ⟨⟨i + 1, k, by omega, by omega, ?h2⟩, [0, 1], (by show n - (i + 1).toNat < n - i.toNat; omega), ?st⟩
        case st => refine ⟨rfl, by decide, ?_, ?_⟩ <;> repeat' (first | exact trivial | exact rfl | apply And.intro | (intro i hi; rfl) | (intro i hi; exact absurd hi (Nat.not_lt_zero _)))
        case h2 => rw [show (i + 1).toNat = i.toNat + 1 by omega, runs_take (by omega), ← seqR_all, hk, show v = rB L i.toNat + 1 by omega]
    · replace hlt : ¬ i < @Nat.cast Int instNatCastInt n := of_decide_eq_false (p := i < (n : Int)) hlt
      rw [show runsM L m = l by unfold runsM; rw [hl, List.take_of_length_le (show L.length ≤ i.toNat by omega)]]
      exact ⟨[0, 1], ⟨rfl, rfl, (by show List.Nodup [1]; decide), rfl, by repeat' (first | exact trivial | exact rfl | apply And.intro | (intro i hi; rfl) | (intro i hi; exact absurd hi (Nat.not_lt_zero _)))⟩⟩

def sEqR : SpecF
  | [.c (.row 0), .c (.row 1)], [.elems ty one n get, .elems ty' one' n' get'] => some (rgPre ty one n get ∧ rgPreD ty' one' n' get', .c (.bool (decide (rgL n get = rgL n' get'))), [.dead, .dead])
  | _, _ => none

set_option maxRecDepth 100000 in
set_option maxHeartbeats 4000000 in
theorem eqRP : Fn Try.prog 22 [] [(111, 2), (114, 2)] sEqR := by
  have hC : CtsOk Try.prog [] := CtsOk.nil _
  refine Fn.of (E := tbH) [] 0 [(6, [(0, true), (1, true), (2, true), (3, true), (4, true), (5, true), (6, true), (7, true), (8, true), (9, true), (10, true), (11, true), (12, true), (13, true), (14, true), (15, true), (16, true), (17, true), (18, true), (19, true), (20, true), (21, true), (22, true), (23, true)])] tbH_ok hC (by kernel_rfl) Try.func22 rfl rfl rfl (by kernel_rfl) (by kernel_rfl) 2 5 1 ?_ ?_
  · intro args h pre r h' hs
    unfold sEqR at hs
    split at hs
    · cases hs; exact ⟨rfl, rfl, Nat.le_of_ble_eq_true rfl⟩
    · cases hs
  · intro args h pre r h' hs hp
    unfold sEqR at hs
    split at hs
    rotate_left
    · cases hs
    rename_i ty one n get ty' one' n' get'
    cases hs
    obtain ⟨⟨rfl, rfl, hst, hm⟩, ⟨rfl, rfl, hst', hm'⟩⟩ := hp
    refine ⟨[.elems 111 2 n (rgG (rgL n get)), .elems 114 2 n' (rgG (rgL n' get'))], ⟨hst.same.1, hst'.same.1, trivial⟩, ?_⟩
    have hL : (rgL n get).length = n := rgL_len
    have hK : (rgL n' get').length = n' := rgL_len
    generalize rgL n get = L at hL ⊢
    generalize rgL n' get' = K at hK ⊢
    generalize hL : lft Try.prog _ = L
    try unfold rgG
    generalize ho0 : @rA = zo0, ho1 : @rB = zo1, ho2 : @rgL = zo2, ho3 : @rgPre = zo3, ho4 : @rgPreD = zo4
    generalize hA : Arith.std = A
    cbv
    subst hA hL ho0 ho1 ho2 ho3 ho4
    refine Ife.mk (fun h => ?_) (fun h => ?_)
    · have h : ¬ ((n : Int) = (n' : Int)) := by simpa using (show (!decide ((n : Int) = (n' : Int))) = true from h)
      rw [show decide (L = K) = false from decide_eq_false fun e => h (by rw [← hL, ← hK, e])]
      exact ⟨[0, 1], ⟨rfl, rfl, by decide, rfl, by repeat' (first | exact trivial | exact rfl | apply And.intro)⟩⟩
    have h : ((n : Int) = (n' : Int)) := by simpa using (show (!decide ((n : Int) = (n' : Int))) = false from h)
    have hnn : n = n' := by omega
    subst hnn
    clear h
    show Runs Try.prog 2 (.loop _) _ _
    refine loop_ruleR (N := env (lft Try.prog 2) 0 .std tbH [] [(6, [(0, true), (1, true), (2, true), (3, true), (4, true), (5, true), (6, true), (7, true), (8, true), (9, true), (10, true), (11, true), (12, true), (13, true), (14, true), (15, true), (16, true), (17, true), (18, true), (19, true), (20, true), (21, true), (22, true), (23, true)])]) rfl tbH_ok hC (fun c st K _ h => h) (by kernel_rfl) [] (X := LEq L K n)
      (S := fun x => ⟨[.c (.row 0), .c (.row 1), .any, .any, .any, .c (.int .i64 x.i)] ++ List.replicate 35 .any, [.elems 111 2 n (rgG L), .elems 114 2 n (rgG K)]⟩) (μ := fun x => n - x.i.toNat) ⟨0, by omega, by omega, fun k hk => absurd hk (by show ¬ k < (0 : Int).toNat; omega)⟩ (by kernel_rfl) [0, 1] ?_ ?_
    · refine ⟨rfl, by decide, ?_, ?_⟩ <;> repeat' (first | exact trivial | exact rfl | apply And.intro)
    rintro ⟨i, hi0, hin, hall⟩
    generalize hL : lft Try.prog _ = L
    try dsimp only
    try unfold rgG
    generalize ho0 : @rA = zo0, ho1 : @rB = zo1, ho2 : @rgL = zo2, ho3 : @rgPre = zo3, ho4 : @rgPreD = zo4
    generalize hA : Arith.std = A
    cbv
    subst hA hL ho0 ho1 ho2 ho3 ho4
    replace hall : ∀ k, k < i.toNat → rA L k = rA K k ∧ rB L k = rB K k := hall
    replace hi0 : 0 ≤ i := hi0
    replace hin : i ≤ @Nat.cast Int instNatCastInt n := hin
    refine Ife.mk (fun hlt => ?_) (fun hlt => ?_)
    · replace hlt : i < @Nat.cast Int instNatCastInt n := of_decide_eq_true (p := i < (n : Int)) hlt
      repeat refine Need.mk (by first | exact trivial | (simp only [Arith.std, fitStd]; omega) | (simp [Arith.std, fitStd]; omega)) fun _ => ?_
      refine Ife.mk (fun h => ?_) (fun h => ?_)
      · have h : ¬ rA L i.toNat = rA K i.toNat := by simpa using (show (!decide (rA L i.toNat = rA K i.toNat)) = true from h)
        rw [show decide (L = K) = false from decide_eq_false fun e => h (by rw [e])]
        exact ⟨[0, 1], ⟨rfl, rfl, by decide, rfl, by repeat' (first | exact trivial | exact rfl | apply And.intro)⟩⟩
      have h1 : rA L i.toNat = rA K i.toNat := by simpa using (show (!decide (rA L i.toNat = rA K i.toNat)) = false from h)
      repeat refine Need.mk (by first | exact trivial | (simp only [Arith.std, fitStd]; omega) | (simp [Arith.std, fitStd]; omega)) fun _ => ?_
      refine Ife.mk (fun h => ?_) (fun h => ?_)
      · have h : ¬ rB L i.toNat = rB K i.toNat := by simpa using (show (!decide (rB L i.toNat = rB K i.toNat)) = true from h)
        rw [show decide (L = K) = false from decide_eq_false fun e => h (by rw [e])]
        exact ⟨[0, 1], ⟨rfl, rfl, by decide, rfl, by repeat' (first | exact trivial | exact rfl | apply And.intro)⟩⟩
      have h2 : rB L i.toNat = rB K i.toNat := by simpa using (show (!decide (rB L i.toNat = rB K i.toNat)) = false from h)
      repeat refine Need.mk (by first | exact trivial | (simp only [Arith.std, fitStd]; omega) | (simp [Arith.std, fitStd]; omega)) fun _ => ?_
      refine ⟨⟨i + 1, by omega, by omega, ?h2⟩, [0, 1], (by show n - (i + 1).toNat < n - i.toNat; omega), ?st⟩
      case st => refine ⟨rfl, by decide, ?_, ?_⟩ <;> repeat' (first | exact trivial | exact rfl | apply And.intro)
      case h2 =>
        intro k hk
        by_cases hk2 : k = i.toNat
        · rw [hk2]; exact ⟨h1, h2⟩
        · exact hall k (by omega)
    · replace hlt : ¬ i < @Nat.cast Int instNatCastInt n := of_decide_eq_false (p := i < (n : Int)) hlt
      rw [show decide (L = K) = true from decide_eq_true (rg_ext (by omega) fun k hk => hall k (by omega))]
      exact ⟨[0, 1], ⟨rfl, rfl, by decide, rfl, by repeat' (first | exact trivial | exact rfl | apply And.intro)⟩⟩

def sEqI : SpecF
  | [.c (.row 0), .c (.row 1)], [.elems ty one n get, .elems ty' one' n' get'] => some (inPre ty one n get ∧ inPre ty' one' n' get', .c (.bool (decide (iL n get = iL n' get'))), [.dead, .dead])
  | _, _ => none

set_option maxRecDepth 100000 in
set_option maxHeartbeats 4000000 in
theorem eqIP : Fn Try.prog 35 [] [(3, 1), (3, 1)] sEqI := by
  have hC : CtsOk Try.prog [] := CtsOk.nil _
  refine Fn.of (E := tbH) [] 0 [(6, [(0, true), (1, true), (2, true), (3, true), (4, true), (5, true), (6, true), (7, true), (8, true)])] tbH_ok hC (by kernel_rfl) Try.func35 rfl rfl rfl (by kernel_rfl) (by kernel_rfl) 2 5 1 ?_ ?_
  · intro args h pre r h' hs
    unfold sEqI at hs
    split at hs
    · cases hs; exact ⟨rfl, rfl, Nat.le_of_ble_eq_true rfl⟩
    · cases hs
  · intro args h pre r h' hs hp
    unfold sEqI at hs
    split at hs
    rotate_left
    · cases hs
    rename_i ty one n get ty' one' n' get'
    cases hs
    obtain ⟨⟨rfl, rfl, hst, hm⟩, ⟨rfl, rfl, hst', hm'⟩⟩ := hp
    refine ⟨[.elems 3 1 n (inG (iL n get)), .elems 3 1 n' (inG (iL n' get'))], ⟨hst.same.1, hst'.same.1, trivial⟩, ?_⟩
    have hL : (iL n get).length = n := iL_len
    have hK : (iL n' get').length = n' := iL_len
    generalize iL n get = L at hL ⊢
    generalize iL n' get' = K at hK ⊢
    generalize hL : lft Try.prog _ = L
    try unfold inG
    generalize ho0 : @iL = zo0, ho1 : @iA = zo1, ho2 : @inPre = zo2
    generalize hA : Arith.std = A
    cbv
    subst hA hL ho0 ho1 ho2
    refine Ife.mk (fun h => ?_) (fun h => ?_)
    · have h : ¬ ((n : Int) = (n' : Int)) := by simpa using (show (!decide ((n : Int) = (n' : Int))) = true from h)
      rw [show decide (L = K) = false from decide_eq_false fun e => h (by rw [← hL, ← hK, e])]
      exact ⟨[0, 1], ⟨rfl, rfl, by decide, rfl, by repeat' (first | exact trivial | exact rfl | apply And.intro)⟩⟩
    have h : ((n : Int) = (n' : Int)) := by simpa using (show (!decide ((n : Int) = (n' : Int))) = false from h)
    have hnn : n = n' := by omega
    subst hnn
    clear h
    show Runs Try.prog 2 (.loop _) _ _
    refine loop_ruleR (N := env (lft Try.prog 2) 0 .std tbH [] [(6, [(0, true), (1, true), (2, true), (3, true), (4, true), (5, true), (6, true), (7, true), (8, true)])]) rfl tbH_ok hC (fun c st K _ h => h) (by kernel_rfl) [] (X := LEi L K n)
      (S := fun x => ⟨[.c (.row 0), .c (.row 1), .any, .any, .any, .c (.int .i64 x.i)] ++ List.replicate 20 .any, [.elems 3 1 n (inG L), .elems 3 1 n (inG K)]⟩) (μ := fun x => n - x.i.toNat) ⟨0, by omega, by omega, fun k hk => absurd hk (by show ¬ k < (0 : Int).toNat; omega)⟩ (by kernel_rfl) [0, 1] ?_ ?_
    · refine ⟨rfl, by decide, ?_, ?_⟩ <;> repeat' (first | exact trivial | exact rfl | apply And.intro)
    rintro ⟨i, hi0, hin, hall⟩
    generalize hL : lft Try.prog _ = L
    try dsimp only
    try unfold inG
    generalize ho0 : @iL = zo0, ho1 : @iA = zo1, ho2 : @inPre = zo2
    generalize hA : Arith.std = A
    cbv
    subst hA hL ho0 ho1 ho2
    replace hall : ∀ k, k < i.toNat → iA L k = iA K k := hall
    replace hi0 : 0 ≤ i := hi0
    replace hin : i ≤ @Nat.cast Int instNatCastInt n := hin
    refine Ife.mk (fun hlt => ?_) (fun hlt => ?_)
    · replace hlt : i < @Nat.cast Int instNatCastInt n := of_decide_eq_true (p := i < (n : Int)) hlt
      repeat refine Need.mk (by first | exact trivial | (simp only [Arith.std, fitStd]; omega) | (simp [Arith.std, fitStd]; omega)) fun _ => ?_
      refine Ife.mk (fun h => ?_) (fun h => ?_)
      · have h : ¬ iA L i.toNat = iA K i.toNat := by simpa using (show (!decide (iA L i.toNat = iA K i.toNat)) = true from h)
        rw [show decide (L = K) = false from decide_eq_false fun e => h (by rw [e])]
        exact ⟨[0, 1], ⟨rfl, rfl, by decide, rfl, by repeat' (first | exact trivial | exact rfl | apply And.intro)⟩⟩
      have h1 : iA L i.toNat = iA K i.toNat := by simpa using (show (!decide (iA L i.toNat = iA K i.toNat)) = false from h)
      repeat refine Need.mk (by first | exact trivial | (simp only [Arith.std, fitStd]; omega) | (simp [Arith.std, fitStd]; omega)) fun _ => ?_
      refine ⟨⟨i + 1, by omega, by omega, ?h2⟩, [0, 1], (by show n - (i + 1).toNat < n - i.toNat; omega), ?st⟩
      case st => refine ⟨rfl, by decide, ?_, ?_⟩ <;> repeat' (first | exact trivial | exact rfl | apply And.intro)
      case h2 =>
        intro k hk
        by_cases hk2 : k = i.toNat
        · rw [hk2]; exact h1
        · exact hall k (by omega)
    · replace hlt : ¬ i < @Nat.cast Int instNatCastInt n := of_decide_eq_false (p := i < (n : Int)) hlt
      rw [show decide (L = K) = true from decide_eq_true (in_ext (by omega) fun k hk => hall k (by omega))]
      exact ⟨[0, 1], ⟨rfl, rfl, by decide, rfl, by repeat' (first | exact trivial | exact rfl | apply And.intro)⟩⟩

end Go.Proofs.Ytcgoaicifjndpaa.Vx
end
