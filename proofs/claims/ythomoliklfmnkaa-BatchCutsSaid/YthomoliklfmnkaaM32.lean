/- liglaw28.lists and the law BatchCuts, by the walker. -/
import Derived.Test.YthomoliklfmnkaaM31
section
namespace Go.Proofs.Ythomoliklfmnkaa.Vx
open Go.RowKit
set_option linter.unusedVariables false
set_option linter.unusedSimpArgs false
def tA (T : List (List Int)) (i : Nat) : List Int := T.getD i []
def tN (T : List (List Int)) (i : Nat) : Nat := (tA T i).length
/-- Lists of numbers as elements. -/
def txE (fr : Bool) (T : List (List Int)) (i : Nat) (j : Nat) : Cell := .es fr 3 1 (tN T i) (inG (tA T i))
def llOf : Cell → List Int
  | .es _ _ _ n g => iL n g
  | _ => []
def llL (n : Nat) (get : Nat → Nat → Cell) : List (List Int) := (List.range n).map fun i => llOf (get i 0)
theorem llL_len {n : Nat} {get : Nat → Nat → Cell} : (llL n get).length = n := by simp [llL]
theorem llL_eq {T : List (List Int)} {n : Nat} {get : Nat → Nat → Cell} (hn : T.length = n) (h : ∀ i, i < n → ∃ fr, get i 0 = txE fr T i 0) : llL n get = T := by
  apply List.ext_getElem (by rw [llL_len, hn])
  intro i h1 h2
  have hi : i < n := by rw [llL_len] at h1; exact h1
  obtain ⟨fr, e⟩ := h i hi
  simp only [llL, List.getElem_map, List.getElem_range, e]
  show iL (tA T i).length (inG (tA T i)) = T[i]
  rw [iL_inG]
  simp [tA, List.getD, h2]
def llPre (ty sz n : Nat) (get : Nat → Nat → Cell) : Prop := ty = 39 ∧ sz = 1 ∧ (∀ i j, i < n → j < 1 → get i j = txE false (llL n get) i j) ∧ n ≤ 1000000 ∧ ∀ i, i < n → tN (llL n get) i ≤ 1000000
theorem llPre_of {T : List (List Int)} {fr : Bool} (hn : T.length ≤ 1000000) (hb : ∀ i, i < T.length → tN T i ≤ 1000000) : llPre 39 1 T.length (fun i j => (txE fr T i j).old) ∧ llL T.length (fun i j => (txE fr T i j).old) = T := by
  have e : llL T.length (fun i j => (txE fr T i j).old) = T := llL_eq rfl fun i _ => ⟨false, rfl⟩
  exact ⟨⟨rfl, rfl, fun i j _ _ => by rw [e]; rfl, hn, by rw [e]; exact hb⟩, e⟩
theorem ll_ext {T T' : List (List Int)} (hl : T.length = T'.length) (h : ∀ k, k < T.length → tA T k = tA T' k) : T = T' := by
  apply List.ext_getElem hl
  intro i h1 h2
  have := h i h1
  unfold tA at this
  simpa [List.getD, h1, h2] using this
structure LLi (T T' : List (List Int)) (n : Nat) where
  k : Nat
  h1 : k ≤ n
  h2 : ∀ j, j < k → tA T j = tA T' j
theorem rstep_all {F : List PMsg → Bool} {m : Int → PMsg} : ∀ (rs : List Int) (T : List (List Int)) (now : List Int) (cur : List PMsg), (rs.foldl (rstep F m) (T, now, cur)).1.flatten ++ (rs.foldl (rstep F m) (T, now, cur)).2.1 = T.flatten ++ now ++ rs
  | [], T, now, cur => by simp
  | r :: rs, T, now, cur => by
    rw [List.foldl_cons]
    by_cases h : now ≠ [] ∧ F (cur ++ [m r]) = false
    · rw [show rstep F m (T, now, cur) r = (T ++ [now], [r], [m r]) from if_pos h, rstep_all rs]
      simp
    · rw [show rstep F m (T, now, cur) r = (T, now ++ [r], cur ++ [m r]) from if_neg h, rstep_all rs]
      simp
/-- The transactions, put behind one another, are what is not skipped. -/
theorem cutT_flat {g b c : Int} {U M : List PMsg} {gs : List Int} : (cutT g b c U M gs).flatten = (skOf g b c U M gs).rest := by
  rw [cutT_fold]
  have h := rstep_all (F := fitsM g b c) (m := placeM M) (skOf g b c U M gs).rest [] [] U
  generalize (skOf g b c U M gs).rest.foldl (rstep (fitsM g b c) (placeM M)) ([], [], U) = s at *
  unfold rfin
  split
  · rename_i h0
    rw [h0] at h
    simpa using h
  · simpa using h
theorem rstep_ne {F : List PMsg → Bool} {m : Int → PMsg} : ∀ (rs : List Int) (T : List (List Int)) (now : List Int) (cur : List PMsg), (∀ t ∈ T, t ≠ []) → ∀ t ∈ (rs.foldl (rstep F m) (T, now, cur)).1, t ≠ []
  | [], T, now, cur, h => h
  | r :: rs, T, now, cur, h => by
    rw [List.foldl_cons]
    by_cases h2 : now ≠ [] ∧ F (cur ++ [m r]) = false
    · rw [show rstep F m (T, now, cur) r = (T ++ [now], [r], [m r]) from if_pos h2]
      refine rstep_ne rs _ _ _ fun t ht => ?_
      rcases List.mem_append.1 ht with h3 | h3
      · exact h t h3
      · rw [List.mem_singleton.1 h3]; exact h2.1
    · rw [show rstep F m (T, now, cur) r = (T, now ++ [r], cur ++ [m r]) from if_neg h2]
      exact rstep_ne rs _ _ _ h
theorem cutT_ne {g b c : Int} {U M : List PMsg} {gs : List Int} : ∀ t ∈ cutT g b c U M gs, t ≠ [] := by
  rw [cutT_fold]
  have h := rstep_ne (F := fitsM g b c) (m := placeM M) (skOf g b c U M gs).rest [] [] U (fun t ht => absurd ht (by simp))
  generalize (skOf g b c U M gs).rest.foldl (rstep (fitsM g b c) (placeM M)) ([], [], U) = s at *
  unfold rfin
  split
  · exact h
  · rename_i h0
    intro t ht
    rcases List.mem_append.1 ht with h3 | h3
    · exact h t h3
    · rw [List.mem_singleton.1 h3]; exact h0
theorem flat_ge {T : List (List Int)} (h : ∀ t ∈ T, t ≠ []) : T.length ≤ T.flatten.length := by
  induction T with
  | nil => simp
  | cons t T ih =>
    have h1 := ih fun x hx => h x (by simp [hx])
    have h2 : t ≠ [] := h t (by simp)
    have h3 : 0 < t.length := List.length_pos_iff.2 h2
    rw [List.flatten_cons, List.length_append, List.length_cons]
    omega
theorem cutT_len {g b c : Int} {U M : List PMsg} {gs : List Int} : (cutT g b c U M gs).length ≤ M.length := by
  have h := flat_ge (cutT_ne (g := g) (b := b) (c := c) (U := U) (M := M) (gs := gs))
  rw [cutT_flat] at h
  have h2 := skip_len (F := fitsWith g b c U M) (G := groupOf M.length gs) M.length
  have h3 : (skOf g b c U M gs).lost.length + (skOf g b c U M gs).rest.length = M.length := h2.2
  omega
theorem tN_le {T : List (List Int)} {i : Nat} (hi : i < T.length) : tN T i ≤ T.flatten.length := by
  have hm : tA T i ∈ T := by
    unfold tA
    simp [List.getD, hi]
  exact (List.sublist_flatten_of_mem hm).length_le
theorem cutT_tN {g b c : Int} {U M : List PMsg} {gs : List Int} {i : Nat} (hi : i < (cutT g b c U M gs).length) : tN (cutT g b c U M gs) i ≤ M.length := by
  have h := tN_le hi
  rw [cutT_flat] at h
  have h2 := skip_len (F := fitsWith g b c U M) (G := groupOf M.length gs) M.length
  have h3 : (skOf g b c U M gs).lost.length + (skOf g b c U M gs).rest.length = M.length := h2.2
  omega
attribute [local cbv_opaque] lK lV lI lP lN pG leafL leafOf leavesPre hsL rN plainM msgPre lenL nextB between sameM mayM msgOf mayPkt wN wT wH wLeaf wPath wLeaves wProof wPk wMsg wMsgPre prWPre hashOf putW numW numBad textW fitNum fitText fitPut fitPk isI64 msgB encMsg bytesW badW Pkt.fits noRt zeroMsg lightM msgPre0 leavesAt0 gM msgsL msgsPre msgsPre0 lightMs lightMAt txM txB flatE textB Leb.put stepsL priceM totalM fitsM skip skStep skOut skPre IsMs mpGet mpSet groupOf iA iL catC pushC inPre rgo placeM skOf cutT oneM txG tA tN llL llPre lightMs msgsPre0 inPre2b
def sLists : SpecF
  | [.c (.row 0), .c (.row 1)], [.data false ty sz n get, .data false ty' sz' n' get'] => some (llPre ty sz n get ∧ llPre ty' sz' n' get', .c (.bool (decide (llL n get = llL n' get'))), [.dead, .dead])
  | _, _ => none

set_option maxRecDepth 100000 in
set_option maxHeartbeats 8000000 in
theorem listsP : Fn Try.prog 18 [] [(39, 201), (39, 201)] sLists := by
  have hC : CtsOk Try.prog [(19, appFn [] [(3, 1), (3, 1)] sEqI)] := CtsOk.cons (Fn.ct eqIP) <| CtsOk.nil _
  refine Fn.of (E := tbB) [] 0 [(6, [(9999, true), (0, true), (1, true), (2, true), (4, true), (5, true), (6, true), (3003, false), (7, false), (8, false), (9, true), (2999, false), (7, false), (3, false), (8, false), (9, true), (2999, false)])] tbB_ok hC (by kernel_rfl) Try.func18 rfl rfl rfl (by kernel_rfl) (by kernel_rfl) 2 5 1 ?_ ?_
  · intro args h pre r h' hs
    unfold sLists at hs
    split at hs
    · cases hs; exact ⟨rfl, rfl, Nat.le_of_ble_eq_true rfl⟩
    · cases hs
  · intro args h pre r h' hs hp
    unfold sLists at hs
    split at hs
    rotate_left
    · cases hs
    rename_i ty sz n get ty' sz' n' get'
    cases hs
    obtain ⟨⟨rfl, rfl, hst, hm, hb⟩, ⟨rfl, rfl, hst', hm', hb'⟩⟩ := hp
    refine ⟨[.data false 39 1 n (txE false (llL n get)), .data false 39 1 n' (txE false (llL n' get'))], ⟨⟨rfl, rfl, rfl, rfl, fun i j hi hj => by rw [hst i j hi hj]; exact Cell.le_refl _⟩, ⟨rfl, rfl, rfl, rfl, fun i j hi hj => by rw [hst' i j hi hj]; exact Cell.le_refl _⟩, trivial⟩, ?_⟩
    have hL : (llL n get).length = n := llL_len
    have hL' : (llL n' get').length = n' := llL_len
    generalize llL n get = T at *
    generalize llL n' get' = T' at *
    clear hst hst'
    unfold sEqI
    generalize hg0 : (List.length : List UInt8 → Nat) = g0
    generalize hL : lft Try.prog _ = L
    generalize hA : Arith.std = A
    set_option cbv.maxSteps 6000000 in cbv
    subst hA hg0 hL
    obtain ⟨E, hEd⟩ : ∃ E, decide (T = T') = E := ⟨_, rfl⟩
    rw [hEd]
    refine Ife.mk (fun h => ?_) (fun h => ?_)
    · have hne : ¬ n = n' := fun e => by
        have h0 : (!decide ((n : Int) = (n' : Int))) = true := h
        rw [e] at h0
        simp at h0
      have hE : false = E := by
        rw [← hEd]
        exact (decide_eq_false fun e => hne (by rw [← hL, ← hL', e])).symm
      subst hE
      exact ⟨[0, 1], ⟨rfl, by repeat' (first | exact trivial | exact rfl | apply And.intro | exact (fun _ _ _ _ => Cell.le_refl _) | (intro i hi; rfl) | (intro i hi; exact absurd hi (Nat.not_lt_zero _))), by decide, rfl, by repeat' (first | exact trivial | exact rfl | apply And.intro | exact (fun _ _ _ _ => Cell.le_refl _) | (intro i hi; rfl) | (intro i hi; exact absurd hi (Nat.not_lt_zero _)))⟩⟩
    have hnn : n = n' := by
      have h0 : (!decide ((n : Int) = (n' : Int))) = false := h
      have h1 : (n : Int) = (n' : Int) := by simpa using h0
      omega
    clear h
    show Runs Try.prog 2 (.loop _) _ _
    refine loop_ruleL (N := env (lft Try.prog 2) 0 .std tbB [(19, appFn [] [(3, 1), (3, 1)] sEqI)] [(6, [(9999, true), (0, true), (1, true), (2, true), (4, true), (5, true), (6, true), (3003, false), (7, false), (8, false), (9, true), (2999, false), (7, false), (3, false), (8, false), (9, true), (2999, false)])]) rfl tbB_ok hC (fun c st K _ h => h) (by kernel_rfl) [] (X := LLi T T' n)
      (S := fun x => ⟨[.c (.row 0), .c (.row 1), .any, .any, .any, .c (.int .i64 (x.k : Int))] ++ List.replicate 21 .any, [.data false 39 1 n (txE false T), .data false 39 1 n' (txE false T')]⟩) (μ := fun x => n - x.k) ⟨0, by omega, fun j hj => absurd hj (by omega)⟩ (by kernel_rfl) [0, 1] ?_ ?_
    · refine ⟨rfl, by show List.Nodup []; exact List.nodup_nil, ?_, ?_⟩ <;> repeat' (first | exact trivial | exact rfl | apply And.intro | exact (fun _ _ _ _ => Cell.le_refl _) | (intro i hi; rfl) | (intro i hi; exact absurd hi (Nat.not_lt_zero _)))
    rintro ⟨k, h1, h2⟩
    unfold sEqI
    generalize hg0 : (List.length : List UInt8 → Nat) = g0
    generalize hL : lft Try.prog _ = L
    generalize hA : Arith.std = A
    set_option cbv.maxSteps 6000000 in cbv
    subst hA hg0 hL
    refine Ife.mk (fun hlt => ?_) (fun hlt => ?_)
    · have hkn : k < n := Int.ofNat_lt.mp (of_decide_eq_true (p := (k : Int) < (n : Int)) hlt)
      clear hlt
      have ix : 0 ≤ (k : Int) ∧ (k : Int) < (n : Int) := ⟨Int.natCast_nonneg k, Int.ofNat_lt.mpr hkn⟩
      have ix' : 0 ≤ (k : Int) ∧ (k : Int) < (n' : Int) := ⟨Int.natCast_nonneg k, Int.ofNat_lt.mpr (hnn ▸ hkn)⟩
      have p1 : inPre 3 1 (tN T k) (inG (tA T k)) := ⟨rfl, rfl, inAt_inG _ _, hb k hkn⟩
      have p2 : inPre 3 1 (tN T' k) (inG (tA T' k)) := ⟨rfl, rfl, inAt_inG _ _, hb' k (hnn ▸ hkn)⟩
      have e1 : iL (tN T k) (inG (tA T k)) = tA T k := iL_inG _
      have e2 : iL (tN T' k) (inG (tA T' k)) = tA T' k := iL_inG _
      have hE3 : ∀ b, (!decide (iL (tN T k) (inG (tA T k)) = iL (tN T' k) (inG (tA T' k)))) = b → (b = true → E = false) ∧ (b = false → tA T k = tA T' k) := fun b hb0 => by
        rw [e1, e2] at hb0
        subst hb0
        refine ⟨fun h => ?_, fun h => ?_⟩
        · rw [← hEd]
          refine decide_eq_false fun e => ?_
          rw [e] at h
          simp at h
        · simpa using h
      refine Need.mk ix fun _ => Need.mk ix' fun _ => ?_
      refine ⟨?_, ?_⟩
      · refine Need.mk hkn fun _ => Need.mk (show k < n' from hnn ▸ hkn) fun _ => Need.mk ⟨p1, p2⟩ fun _ => ?_
        refine Ife.mk (fun hh => ?_) (fun hh => ?_)
        · have hE := (hE3 _ rfl).1 hh
          subst hE
          exact ⟨[0, 1], ⟨rfl, by repeat' (first | exact trivial | exact rfl | apply And.intro | exact (fun _ _ _ _ => Cell.le_refl _) | (intro i hi; rfl) | (intro i hi; exact absurd hi (Nat.not_lt_zero _))), by decide, rfl, by repeat' (first | exact trivial | exact rfl | apply And.intro | exact (fun _ _ _ _ => Cell.le_refl _) | (intro i hi; rfl) | (intro i hi; exact absurd hi (Nat.not_lt_zero _)))⟩⟩
        · have hE := (hE3 _ rfl).2 hh
          refine Need.mk (by show fitStd .i64 ((k : Int) + 1); unfold fitStd; omega) fun _ => ?_
          refine ⟨⟨k + 1, by omega, fun j hj => ?_⟩, [0, 1], (by show n - (k + 1) < n - k; omega), ?_⟩
          · rcases Nat.lt_succ_iff_lt_or_eq.1 hj with h | rfl
            · exact h2 j h
            · exact hE
          · refine ⟨rfl, by show List.Nodup []; exact List.nodup_nil, ?_, ?_⟩ <;> repeat' (first | exact trivial | exact rfl | apply And.intro | exact (fun _ _ _ _ => Cell.le_refl _) | (intro i hi; rfl) | (intro i hi; exact absurd hi (Nat.not_lt_zero _)))
      · refine Need.mk (show k < n' from hnn ▸ hkn) fun _ => Need.mk hkn fun _ => Need.mk ⟨p1, p2⟩ fun _ => ?_
        refine Ife.mk (fun hh => ?_) (fun hh => ?_)
        · have hE := (hE3 _ rfl).1 hh
          subst hE
          exact ⟨[0, 1], ⟨rfl, by repeat' (first | exact trivial | exact rfl | apply And.intro | exact (fun _ _ _ _ => Cell.le_refl _) | (intro i hi; rfl) | (intro i hi; exact absurd hi (Nat.not_lt_zero _))), by decide, rfl, by repeat' (first | exact trivial | exact rfl | apply And.intro | exact (fun _ _ _ _ => Cell.le_refl _) | (intro i hi; rfl) | (intro i hi; exact absurd hi (Nat.not_lt_zero _)))⟩⟩
        · have hE := (hE3 _ rfl).2 hh
          refine Need.mk (by show fitStd .i64 ((k : Int) + 1); unfold fitStd; omega) fun _ => ?_
          refine ⟨⟨k + 1, by omega, fun j hj => ?_⟩, [0, 1], (by show n - (k + 1) < n - k; omega), ?_⟩
          · rcases Nat.lt_succ_iff_lt_or_eq.1 hj with h | rfl
            · exact h2 j h
            · exact hE
          · refine ⟨rfl, by show List.Nodup []; exact List.nodup_nil, ?_, ?_⟩ <;> repeat' (first | exact trivial | exact rfl | apply And.intro | exact (fun _ _ _ _ => Cell.le_refl _) | (intro i hi; rfl) | (intro i hi; exact absurd hi (Nat.not_lt_zero _)))
    · have hkn : ¬ k < n := fun h => of_decide_eq_false (p := (k : Int) < (n : Int)) hlt (Int.ofNat_lt.mpr h)
      have hE : true = E := by
        rw [← hEd]
        exact (decide_eq_true (ll_ext (by omega) fun j hj => h2 j (by omega))).symm
      subst hE
      exact ⟨[0, 1], ⟨rfl, by repeat' (first | exact trivial | exact rfl | apply And.intro | exact (fun _ _ _ _ => Cell.le_refl _) | (intro i hi; rfl) | (intro i hi; exact absurd hi (Nat.not_lt_zero _))), by decide, rfl, by repeat' (first | exact trivial | exact rfl | apply And.intro | exact (fun _ _ _ _ => Cell.le_refl _) | (intro i hi; rfl) | (intro i hi; exact absurd hi (Nat.not_lt_zero _)))⟩⟩

end Go.Proofs.Ythomoliklfmnkaa.Vx
end

section
/- The law BatchCuts, by the walker. -/
namespace Go.Proofs.Ythomoliklfmnkaa.Vx
open Go.RowKit
set_option linter.unusedVariables false
set_option linter.unusedSimpArgs false
attribute [local cbv_opaque] lK lV lI lP lN pG leafL leafOf leavesPre hsL rN plainM msgPre lenL nextB between sameM mayM msgOf mayPkt wN wT wH wLeaf wPath wLeaves wProof wPk wMsg wMsgPre prWPre hashOf putW numW numBad textW fitNum fitText fitPut fitPk isI64 msgB encMsg bytesW badW Pkt.fits noRt zeroMsg lightM msgPre0 leavesAt0 gM msgsL msgsPre msgsPre0 lightMs lightMAt txM txB flatE textB Leb.put stepsL priceM totalM fitsM skip skStep skOut skPre IsMs mpGet mpSet groupOf iA iL catC pushC inPre rgo placeM skOf cutT oneM txG tA tN llL llPre lightMs lightMAt msgsPre0 inPre2b
def sBatchCuts : SpecF
  | [.agg [.int .i64 g, .int .i64 b, .int .i64 c], .c (.row 0), .c (.row 1), .c (.row 2)], [.data false ty sz n get, .data false ty' sz' n' get', .elems it one n2 get2] => some (msgsPre0 ty sz n get ∧ msgsPre0 ty' sz' n' get' ∧ inPre2b it one n2 get2, .c .tt, [.dead, .dead, .dead])
  | _, _ => none

set_option maxRecDepth 100000 in
set_option maxHeartbeats 32000000 in
theorem batchCutsP : Fn Try.prog 4 [] [(60, 250), (60, 250), (3, 1)] sBatchCuts := by
  have hC : CtsOk Try.prog [(14, appFn [] [] sFirst28), (15, appFn [] [(60, 250)] sLightMs), (16, appFn [] [(60, 250), (60, 250), (3, 1)] sCut), (17, appFn [] [(60, 250), (60, 250), (3, 1)] sCut), (18, appFn [] [(39, 201), (39, 201)] sLists), (19, appFn [] [(3, 1), (3, 1)] sEqI), (20, appFn [] [(60, 250)] sFits), (21, appFn [] [(60, 250)] sFits)] := CtsOk.cons (Fn.ct first28P) <| CtsOk.cons (Fn.ct lightMsP) <| CtsOk.cons (Fn.ct cutP) <| CtsOk.cons (Fn.ct rcutP) <| CtsOk.cons (Fn.ct listsP) <| CtsOk.cons (Fn.ct eqIP) <| CtsOk.cons (Fn.ct fitsP) <| CtsOk.cons (Fn.ct rfitsP) <| CtsOk.nil _
  refine Fn.of (E := tbB) [] 0 [(7, [(0, true), (1, true), (2, false), (3, true), (4, true), (5, true), (6, false), (7, true), (8, true), (9, true), (10, true), (12, true), (13, true), (11, false), (14, false), (15, true), (16, true), (17, true)])] tbB_ok hC (by kernel_rfl) Try.func4 rfl rfl rfl (by kernel_rfl) (by kernel_rfl) 3 5 1 ?_ ?_
  · intro args h pre r h' hs
    unfold sBatchCuts at hs
    split at hs
    · cases hs; exact ⟨rfl, rfl, Nat.le_of_ble_eq_true rfl⟩
    · cases hs
  · intro args h pre r h' hs hp
    unfold sBatchCuts at hs
    split at hs
    rotate_left
    · cases hs
    rename_i g b c ty sz n get ty' sz' n' get' it one n2 get2
    cases hs
    obtain ⟨⟨rfl, rfl, hst, hraw, hm⟩, ⟨rfl, rfl, hst', hraw', hm'⟩, ⟨rfl, rfl, hin, hi2⟩⟩ := hp
    have k0 := msgs0 hst hraw
    have k0' := msgs0 hst' hraw'
    refine ⟨[.data false 60 50 n (msgG false (msgsL n get)), .data false 60 50 n' (msgG false (msgsL n' get')), .elems 3 1 n2 (inG (iL n2 get2))], ⟨⟨rfl, rfl, rfl, rfl, fun i j hi hj => by rw [hst i j hi hj]; exact Cell.le_refl _⟩, ⟨rfl, rfl, rfl, rfl, fun i j hi hj => by rw [hst' i j hi hj]; exact Cell.le_refl _⟩, ⟨rfl, rfl, rfl, fun i hi => by rw [← hin.eq hi]⟩, trivial⟩, ?_⟩
    have hL : (msgsL n get).length = n := msgsL_len
    have hL' : (msgsL n' get').length = n' := msgsL_len
    have hZ : (iL n2 get2).length = n2 := iL_len
    generalize msgsL n get = L at *
    generalize msgsL n' get' = K at *
    generalize iL n2 get2 = Z at *
    clear hst hst' hin
    unfold sFirst28 sLightMs sCut sLists sEqI sFits
    generalize hg0 : (List.length : List UInt8 → Nat) = g0
    generalize hg1 : (List.length : List Int → Nat) = g1
    generalize hg2 : (List.length : List (List Int) → Nat) = g2
    generalize hL : lft Try.prog _ = L
    generalize hA : Arith.std = A
    set_option cbv.maxSteps 20000000 in cbv
    subst hA hg0 hg1 hg2 hL
    refine Need.mk trivial fun _ => ?_
    refine Ife.mk (fun h => ?_) (fun h => ?_)
    · refine Need.mk trivial fun _ => ?_
      exact ⟨[0, 1, 2], ⟨rfl, by repeat' (first | exact trivial | exact rfl | apply And.intro | exact (fun _ _ _ _ => Cell.le_refl _) | (intro i hi; rfl) | (intro i hi; exact absurd hi (Nat.not_lt_zero _))), by decide, rfl, by repeat' (first | exact trivial | exact rfl | apply And.intro | exact (fun _ _ _ _ => Cell.le_refl _) | (intro i hi; rfl) | (intro i hi; exact absurd hi (Nat.not_lt_zero _)))⟩⟩
    replace h : ¬ (3 : Int) < @Nat.cast Int instNatCastInt n := of_decide_eq_false (p := (3 : Int) < (n : Int)) h
    refine Ife.mk (fun h' => ?_) (fun h' => ?_)
    · refine Need.mk trivial fun _ => ?_
      exact ⟨[0, 1, 2], ⟨rfl, by repeat' (first | exact trivial | exact rfl | apply And.intro | exact (fun _ _ _ _ => Cell.le_refl _) | (intro i hi; rfl) | (intro i hi; exact absurd hi (Nat.not_lt_zero _))), by decide, rfl, by repeat' (first | exact trivial | exact rfl | apply And.intro | exact (fun _ _ _ _ => Cell.le_refl _) | (intro i hi; rfl) | (intro i hi; exact absurd hi (Nat.not_lt_zero _)))⟩⟩
    replace h' : ¬ (40 : Int) < @Nat.cast Int instNatCastInt n' := of_decide_eq_false (p := (40 : Int) < (n' : Int)) h'
    refine Need.mk (msgsPre0_n hL hraw hm) fun _ => ?_
    rw [k0]
    refine Ife.mk (fun hl => ?_) (fun hl => ?_)
    · refine Need.mk trivial fun _ => ?_
      exact ⟨[0, 1, 2], ⟨rfl, by repeat' (first | exact trivial | exact rfl | apply And.intro | exact (fun _ _ _ _ => Cell.le_refl _) | (intro i hi; rfl) | (intro i hi; exact absurd hi (Nat.not_lt_zero _))), by decide, rfl, by repeat' (first | exact trivial | exact rfl | apply And.intro | exact (fun _ _ _ _ => Cell.le_refl _) | (intro i hi; rfl) | (intro i hi; exact absurd hi (Nat.not_lt_zero _)))⟩⟩
    replace hl : (!lightMs L) = false := hl
    rw [Bool.not_eq_false'] at hl
    obtain ⟨-, hok⟩ := lightMs_ok hl hraw
    refine Need.mk (msgsPre0_n hL' hraw' hm') fun _ => ?_
    rw [k0']
    refine Ife.mk (fun hl' => ?_) (fun hl' => ?_)
    · refine Need.mk trivial fun _ => ?_
      exact ⟨[0, 1, 2], ⟨rfl, by repeat' (first | exact trivial | exact rfl | apply And.intro | exact (fun _ _ _ _ => Cell.le_refl _) | (intro i hi; rfl) | (intro i hi; exact absurd hi (Nat.not_lt_zero _))), by decide, rfl, by repeat' (first | exact trivial | exact rfl | apply And.intro | exact (fun _ _ _ _ => Cell.le_refl _) | (intro i hi; rfl) | (intro i hi; exact absurd hi (Nat.not_lt_zero _)))⟩⟩
    replace hl' : (!lightMs K) = false := hl'
    rw [Bool.not_eq_false'] at hl'
    obtain ⟨-, hok'⟩ := lightMs_ok hl' hraw'
    refine Ife.mk (fun h2 => ?_) (fun h2 => ?_)
    · refine Need.mk trivial fun _ => ?_
      exact ⟨[0, 1, 2], ⟨rfl, by repeat' (first | exact trivial | exact rfl | apply And.intro | exact (fun _ _ _ _ => Cell.le_refl _) | (intro i hi; rfl) | (intro i hi; exact absurd hi (Nat.not_lt_zero _))), by decide, rfl, by repeat' (first | exact trivial | exact rfl | apply And.intro | exact (fun _ _ _ _ => Cell.le_refl _) | (intro i hi; rfl) | (intro i hi; exact absurd hi (Nat.not_lt_zero _)))⟩⟩
    replace h2 : ¬ (60 : Int) < @Nat.cast Int instNatCastInt n2 := of_decide_eq_false (p := (60 : Int) < (n2 : Int)) h2
    have pU := msgsPre_n (fr := false) hL hok (by omega : n ≤ 1000000)
    have eU := msgsL_n (fr := false) hL hok
    have pK := msgsPre_n (fr := false) hL' hok' (by omega : n' ≤ 1000000)
    have eK := msgsL_n (fr := false) hL' hok'
    have eZ : iL n2 (inG Z) = Z := by rw [← hZ]; exact iL_inG Z
    have pZ : inPre 3 1 n2 (inG Z) := ⟨rfl, rfl, inAt_inG _ _, by omega⟩
    have pS : skPre n n' := ⟨by omega, by omega⟩
    refine Need.mk ⟨pU, pK, pZ, pS⟩ fun _ => Need.mk ⟨pU, pK, pZ, pS⟩ fun _ => ?_
    have hCl := cutT_len (g := g) (b := b) (c := c) (U := oneM L) (M := K) (gs := Z)
    have hCt := fun i => cutT_tN (g := g) (b := b) (c := c) (U := oneM L) (M := K) (gs := Z) (i := i)
    have hlen1 := skip_len (F := fitsWith g b c (oneM L) K) (G := groupOf K.length Z) K.length
    replace hlen1 : _ ∧ (skOf g b c (oneM L) K Z).lost.length + _ = _ := hlen1
    have hA0 : (skOf g b c (oneM L) K Z).lost.length ≤ 1000000 := by omega
    clear hlen1
    generalize hC1 : cutT g b c _ _ _ = C1
    generalize hS1 : skOf g b c _ _ _ = SA
    rw [show skOf g b c (oneM L) K Z = SA from Eq.trans (congrArg (skOf g b c (oneM L) K) eZ.symm) hS1] at hA0
    rw [show cutT g b c (oneM L) K Z = C1 from Eq.trans (congrArg (cutT g b c (oneM L) K) eZ.symm) hC1] at hCl hCt
    clear hC1 hS1
    obtain ⟨l1, A, r1⟩ := SA
    replace hA0 : A.length ≤ 1000000 := hA0
    have pl := llPre_of (T := C1) (fr := true) (by omega) (fun i hi => Nat.le_trans (hCt i hi) (by omega))
    have pI : inPre 3 1 A.length (inG A) := ⟨rfl, rfl, inAt_inG _ _, hA0⟩
    refine Need.mk ⟨pl.1, pl.1⟩ fun _ => ?_
    refine Ife.yes (by first | exact decide_eq_true rfl | rfl) ?_
    refine Need.mk ⟨pI, pI⟩ fun _ => ?_
    refine Ife.yes (by first | exact decide_eq_true rfl | rfl) ?_
    refine Need.mk pK fun _ => Need.mk pK fun _ => ?_
    exact ⟨[0, 1, 2], ⟨rfl, by repeat' (first | exact trivial | exact (beq_self_eq_true _) | exact rfl | apply And.intro | exact (fun _ _ _ _ => Cell.le_refl _) | (intro i hi; rfl) | (intro i hi; exact absurd hi (Nat.not_lt_zero _))), by decide, rfl, by repeat' (first | exact trivial | exact rfl | apply And.intro | exact (fun _ _ _ _ => Cell.le_refl _) | (intro i hi; rfl) | (intro i hi; exact absurd hi (Nat.not_lt_zero _)))⟩⟩

end Go.Proofs.Ythomoliklfmnkaa.Vx
namespace Go.Proofs.Ythomoliklfmnkaa
open Go.RowKit
set_option linter.unusedVariables false
theorem batchCutsWalk (w : World) (g b c : Int) (v : Value) (L : List Vx.PMsg) (hv : (Vx.Cell.ns false 60 50 L.length (Vx.msgG false L)).shows w (fun _ b => b < w.heap.size) v) (hn : L.length ≤ maxLen) (hr : ∀ m ∈ L, Vx.MsgRaw m)
    (v' : Value) (K : List Vx.PMsg) (hv' : (Vx.Cell.ns false 60 50 K.length (Vx.msgG false K)).shows w (fun _ b => b < w.heap.size) v') (hn' : K.length ≤ maxLen) (hr' : ∀ m ∈ K, Vx.MsgRaw m)
    (p : Option Addr) (cap : Nat) (ls : List Int) (hs : SlIn w p 1 cap (ls.map fun n => [.int .i64 n])) :
    Calls Try.prog 4 #[.agg #[.int .i64 g, .int .i64 b, .int .i64 c], v, v', .slice p ls.length cap] w fun e w' => e = .returned (.bool true) ∧ Below w.heap.size w w' := by
  obtain ⟨q, hq, r1⟩ := Vx.Rel.addMsgs (Vx.Rel.refl w) hv
  obtain ⟨q', hq', r2⟩ := Vx.Rel.addMsgs r1 hv'
  obtain ⟨q2, hq2, gd⟩ := inz_good hs
  have hm : ls.length ≤ 9223372036854775807 := by have := hs.max; simpa [maxLen] using this
  have d : Vx.CV.den [q, q', q2] (.row 0) = some v := Vx.msgs_den hv hq
  have d' : Vx.CV.den [q, q', q2] (.row 1) = some v' := Vx.msgs_den hv' hq'
  rw [← hq2]
  refine Calls.mono (Vx.batchCutsP.run [.agg [.int .i64 g, .int .i64 b, .int .i64 c], .c (.row 0), .c (.row 1), .c (.row 2)] [.data false 60 50 L.length (Vx.msgG false L), .data false 60 50 K.length (Vx.msgG false K), .elems 3 1 ls.length (Vx.inG ls)] _ _ _ rfl ⟨Vx.msgsPre0_law hr hn, Vx.msgsPre0_law hr' hn', rfl, rfl, Vx.inAt_inG _ _, hm⟩ [q, q', q2] w _ (Vx.Rel.addV r2 3 gd)
    ⟨_, _, rfl, ⟨[.int .i64 g, .int .i64 b, .int .i64 c], rfl, rfl⟩, _, _, rfl, d, _, _, rfl, d', _, _, rfl, (by obtain ⟨a', cap', e, _⟩ := gd.sl; simp [Vx.SV.is, Vx.CV.den, e, Vx.one] : Vx.SV.is [q, q', q2] (.c (.row 2)) q2.v), rfl⟩) fun e W' he => ?_
  obtain ⟨u, ρ', rfl, hu, hr⟩ := he
  obtain rfl : .bool true = u := Option.some.inj hu
  exact ⟨rfl, Vx.Rel.toBelow hr⟩
end Go.Proofs.Ythomoliklfmnkaa
end
