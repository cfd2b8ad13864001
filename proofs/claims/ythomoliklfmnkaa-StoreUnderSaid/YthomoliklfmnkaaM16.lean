/- Stores: Good, Clone, New, Set, Drop, Get, Len, Under, by the walker. -/
import Derived.Test.YthomoliklfmnkaaVSt1
import Derived.Test.YthomoliklfmnkaaM11
import Derived.Test.YthomoliklfmnkaaM14
section
namespace Go.Proofs.Ythomoliklfmnkaa.Vx
open Go.RowKit
set_option linter.unusedVariables false
set_option linter.unusedSimpArgs false
/-- May the pairs be proved? -/
def goodAt (L : List PP) (i : Nat) : Bool := szB (prK L i) (prV L i) && (decide (i = 0) || ltB (prK L (i - 1)) (prK L i))
def goodL (L : List PP) : Bool := (List.range L.length).all (goodAt L)
structure LGo (L : List PP) (n : Nat) where
  i : Int
  h0 : 0 ≤ i
  h1 : i ≤ (n : Int)
  h2 : ∀ k, k < i.toNat → goodAt L k = true
theorem goodL_no {L : List PP} {i : Nat} (hi : i < L.length) (h : goodAt L i = false) : goodL L = false := by
  rw [Bool.eq_false_iff]
  intro h2
  have := List.all_eq_true.1 h2 i (List.mem_range.2 hi)
  rw [h] at this
  cases this
theorem goodL_yes {L : List PP} (h : ∀ k, k < L.length → goodAt L k = true) : goodL L = true := List.all_eq_true.2 fun k hk => h k (List.mem_range.1 hk)
theorem goodL_one {k v : List UInt8} : goodL [(k, v)] = szB k v := by
  show (List.range 1).all (goodAt [(k, v)]) = _
  simp [goodAt, prK, prV]
theorem prL_one {k v : List UInt8} {get : Nat → List CV} (h : get 0 = [.str k, .str v]) : prL 1 get = [(k, v)] := by
  show [prOf (get 0)] = _
  rw [h]
  rfl
theorem prG_set {L : List PP} {k v : List UInt8} {i : Nat} (hi : i < L.length) (j : Nat) (hj : j < L.length) : upG (prG L) i 0 [.str k, .str v] j = prG (L.set i (k, v)) j := by
  unfold upG
  by_cases h : j = i
  · subst h
    rw [show Nat.beq j j = true by simp]
    show setMany (prG L j) 0 [.str k, .str v] = _
    unfold prG prGP prK prV
    simp [setMany, List.getD, hj]
  · rw [show Nat.beq j i = false by rw [Bool.eq_false_iff]; intro h2; exact h (by simpa using h2)]
    unfold prG prGP prK prV
    simp [List.getD, List.getElem?_set_ne (Ne.symm h)]
theorem prG_ins {L : List PP} {k v : List UInt8} {i : Nat} (hi : i ≤ L.length) (j : Nat) : insG (prG L) i [.str k, .str v] j = prG (L.take i ++ (k, v) :: L.drop i) j := by
  have hl : (L.take i).length = i := by rw [List.length_take]; omega
  rcases Nat.lt_trichotomy j i with h | h | h
  · rw [insG_lt h]
    unfold prG prGP prK prV
    simp [List.getD, List.getElem?_append_left (show j < (L.take i).length by omega), List.getElem?_take_of_lt h]
  · subst h
    rw [insG_eq]
    unfold prG prGP prK prV
    simp [List.getD, List.getElem?_append_right (show (L.take j).length ≤ j by omega), hl]
  · rw [insG_gt h]
    obtain ⟨m, rfl⟩ : ∃ m, j = i + m + 1 := ⟨j - i - 1, by omega⟩
    unfold prG prGP prK prV
    simp [List.getD, List.getElem?_append_right (show (L.take i).length ≤ i + m + 1 by omega), hl, show i + m + 1 - i = m + 1 by omega, Nat.add_comm]
theorem prG_del {L : List PP} {i : Nat} (j : Nat) : delG (prG L) i j = prG (L.eraseIdx i) j := by
  by_cases h : j < i
  · rw [delG_lt h]
    unfold prG prGP prK prV
    simp [List.getD, List.getElem?_eraseIdx_of_lt h]
  · rw [delG_ge (by omega)]
    unfold prG prGP prK prV
    simp [List.getD, List.getElem?_eraseIdx_of_ge (show i ≤ j by omega)]
theorem prPre_one {k v : List UInt8} : prPre 33 2 1 (cutC 2 [.str k, .str v] 0) := by
  refine ⟨rfl, rfl, fun i hi => ⟨k, v, ?_⟩, by decide⟩
  obtain rfl : i = 0 := by omega
  rfl
structure LUd (L : List PP) (f : List UInt8) (n : Nat) where
  j : Nat
  h0 : findI L f ≤ j
  h1 : j ≤ n
  h2 : ∀ q, findI L f ≤ q → q < j → preB f (prK L q) = true
theorem underN_eq {L : List PP} {f : List UInt8} {c : Nat} (h1 : findI L f + c ≤ L.length) (h2 : ∀ q, q < c → preB f (prK L (findI L f + q)) = true) (h3 : findI L f + c < L.length → preB f (prK L (findI L f + c)) = false) : underN L f = c := by
  unfold underN
  have key : ∀ (M : List PP) (c : Nat), c ≤ M.length → (∀ q, q < c → preB f (prK M q) = true) → (c < M.length → preB f (prK M c) = false) → (M.takeWhile fun p => preB f p.1).length = c := by
    intro M
    induction M with
    | nil => intro c hc _ _; simp at hc; subst hc; rfl
    | cons p M ih =>
      intro c hc ha hb
      rw [List.takeWhile_cons]
      cases c with
      | zero =>
        have : preB f p.1 = false := hb (by simp)
        rw [this]
        rfl
      | succ c =>
        have : preB f p.1 = true := ha 0 (by omega)
        rw [this]
        simp only [if_true, List.length_cons]
        rw [ih c (by simpa using hc) (fun q hq => ha (q + 1) (by omega)) (fun hq => hb (by simpa using hq))]
  have e : ∀ q, prK (L.drop (findI L f)) q = prK L (findI L f + q) := fun q => by simp [prK, List.getD]
  refine key _ c (by rw [List.length_drop]; omega) (fun q hq => by rw [e]; exact h2 q hq) (fun hq => by rw [e]; exact h3 (by rw [List.length_drop] at hq; omega))
theorem under_get {L : List PP} {f : List UInt8} {j : Nat} (hj : j < underN L f) : prG L (findI L f + j) = prG (underL L f) j := by
  unfold underL prG prGP prK prV
  simp [List.getD, List.getElem?_take_of_lt hj]
theorem underN_le {L : List PP} {f : List UInt8} : findI L f + underN L f ≤ L.length := by
  have h1 := findI_le (L := L) (k := f)
  have h2 : underN L f ≤ (L.drop (findI L f)).length := (List.takeWhile_sublist _).length_le
  rw [List.length_drop] at h2
  omega
theorem under_len {L : List PP} {f : List UInt8} : (underL L f).length = underN L f := by
  have := underN_le (L := L) (f := f)
  unfold underL
  rw [List.length_take, List.length_drop]
  omega
theorem under_prL {L : List PP} {f : List UInt8} : prL (underN L f) (fun i => prG L (findI L f + i)) = underL L f := by
  rw [← under_len]
  conv => rhs; rw [← prL_prG (underL L f)]
  unfold prL
  apply List.map_congr_left
  intro i hi
  exact congrArg prOf (under_get (by rw [← under_len]; exact List.mem_range.1 hi))
def sGood : SpecF
  | [.c (.row 0)], [.elems ty one n get] => some (prPre ty one n get, .c (.bool (goodL (prL n get))), [.dead])
  | _, _ => none

set_option maxRecDepth 100000 in
set_option maxHeartbeats 8000000 in
theorem goodP : Fn Try.prog 28 [] [(33, 2)] sGood := by
  have hC : CtsOk Try.prog [(45, appPure sSzd)] := CtsOk.cons (Pure.ct szdP) <| CtsOk.nil _
  refine Fn.of (E := tbSt) [] 0 [(4, [(0, true), (1, true), (2, true), (3, true), (4, false), (5, true), (6, true), (7, true), (8, true), (9, true), (10, true), (11, true), (12, true), (13, true), (14, true), (15, true), (16, true), (17, true), (18, true), (19, true), (20, true)])] tbSt_ok hC (by kernel_rfl) Try.func28 rfl rfl rfl (by kernel_rfl) (by kernel_rfl) 1 33 2 ?_ ?_
  · intro args h pre r h' hs
    unfold sGood at hs
    split at hs
    · cases hs; exact ⟨rfl, rfl, Nat.le_of_ble_eq_true rfl⟩
    · cases hs
  · intro args h pre r h' hs hp
    unfold sGood at hs
    split at hs
    rotate_left
    · cases hs
    rename_i ty one n get
    cases hs
    obtain ⟨rfl, rfl, hst, hm⟩ := hp
    refine ⟨[.elems 33 2 n (prG (prL n get))], hst.same, ?_⟩
    have hL : (prL n get).length = n := prL_len
    generalize prL n get = L at hL ⊢
    show Runs Try.prog 1 (.loop _) _ _
    refine loop_ruleR (N := env (lft Try.prog 1) 0 .std tbSt [(45, appPure sSzd)] [(4, [(0, true), (1, true), (2, true), (3, true), (4, false), (5, true), (6, true), (7, true), (8, true), (9, true), (10, true), (11, true), (12, true), (13, true), (14, true), (15, true), (16, true), (17, true), (18, true), (19, true), (20, true)])]) rfl tbSt_ok hC (fun c st K _ h => h) (by kernel_rfl) [] (X := LGo L n)
      (S := fun x => ⟨[.c (.row 0), .any, .any, .any, .any, .c (.row 0), .c (.int .i64 n), .c (.int .i64 x.i)] ++ List.replicate 26 .any, [.elems 33 2 n (prG L)]⟩) (μ := fun x => n - x.i.toNat) ⟨0, by omega, by omega, fun k hk => absurd hk (by omega)⟩ (by kernel_rfl) [0] ?_ ?_
    · refine ⟨rfl, by decide, ?_, ?_⟩ <;> repeat' (first | exact trivial | exact rfl | apply And.intro | exact (fun _ _ _ _ => Cell.le_refl _) | (intro i hi; rfl) | (intro i hi; exact absurd hi (Nat.not_lt_zero _)))
    rintro ⟨i, hi0, hin, hP⟩
    unfold sSzd
    generalize hg0 : (List.length : List PP → Nat) = g0
    generalize hL : lft Try.prog _ = L
    try dsimp only
    try unfold prG
    generalize ho0 : @prK = zo0, ho1 : @prV = zo1, ho2 : @prL = zo2, ho3 : @ltB = zo3, ho4 : @szB = zo4, ho5 : @prPre = zo5, ho6 : @goodAt = zo6, ho7 : @goodL = zo7
    generalize hA : Arith.std = A
    cbv
    subst hA hg0 hL ho0 ho1 ho2 ho3 ho4 ho5 ho6 ho7
    replace hin : i ≤ @Nat.cast Int instNatCastInt n := hin
    refine Ife.mk (fun hlt => ?_) (fun hlt => ?_)
    · replace hlt : i < @Nat.cast Int instNatCastInt n := of_decide_eq_true (p := i < (n : Int)) hlt
      refine Need.mk (by show 0 ≤ i ∧ i < (n : Int); omega) fun _ => Need.mk (by show i.toNat < n; omega) fun _ => Need.mk trivial fun _ => ?_
      have hNO : goodAt L i.toNat = false → goodL L = false := fun h => goodL_no (by omega) h
      have hYES : goodAt L i.toNat = true → ∀ k, k < (i + 1).toNat → goodAt L k = true := fun h k hk => by
        by_cases hki : k = i.toNat
        · rw [hki]; exact h
        · exact hP k (by omega)
      refine Ife.mk (fun h => ?_) (fun h => ?_)
      · have h : (!szB (prK L i.toNat) (prV L i.toNat)) = true := h
        rw [hNO (by unfold goodAt; rw [show szB (prK L i.toNat) (prV L i.toNat) = false by simpa using h, Bool.false_and])]
        exact ⟨[0], ⟨rfl, (by repeat' (first | exact trivial | exact rfl | apply And.intro | exact (fun _ _ _ _ => Cell.le_refl _) | (intro i hi; rfl) | (intro i hi; exact absurd hi (Nat.not_lt_zero _)))), by decide, rfl, by repeat' (first | exact trivial | exact rfl | apply And.intro | exact (fun _ _ _ _ => Cell.le_refl _) | (intro i hi; rfl) | (intro i hi; exact absurd hi (Nat.not_lt_zero _)))⟩⟩
      · have h : (!szB (prK L i.toNat) (prV L i.toNat)) = false := h
        have hz : szB (prK L i.toNat) (prV L i.toNat) = true := by simpa using h
        refine Ife.mk (fun h1 => ?_) (fun h1 => ?_)
        · have h1 : 0 < i := of_decide_eq_true (p := 0 < i) h1
          have e3 : (i - 1).toNat = i.toNat - 1 := by omega
          refine Need.mk (by show fitStd .i64 (i - 1); unfold fitStd; omega) fun _ => Need.mk (by show 0 ≤ i - 1 ∧ i - 1 < (n : Int); omega) fun _ => Need.mk (by show (i - 1).toNat < n; omega) fun _ => ?_
          refine Ife.mk (fun h2 => ?_) (fun h2 => ?_)
          · have h2 : (!ltB (prK L (i - 1).toNat) (prK L i.toNat)) = true := h2
            rw [hNO (by unfold goodAt; rw [hz, decide_eq_false (show ¬ i.toNat = 0 by omega), ← e3, show ltB (prK L (i - 1).toNat) (prK L i.toNat) = false by simpa using h2]; rfl)]
            exact ⟨[0], ⟨rfl, (by repeat' (first | exact trivial | exact rfl | apply And.intro | exact (fun _ _ _ _ => Cell.le_refl _) | (intro i hi; rfl) | (intro i hi; exact absurd hi (Nat.not_lt_zero _)))), by decide, rfl, by repeat' (first | exact trivial | exact rfl | apply And.intro | exact (fun _ _ _ _ => Cell.le_refl _) | (intro i hi; rfl) | (intro i hi; exact absurd hi (Nat.not_lt_zero _)))⟩⟩
          · have h2 : (!ltB (prK L (i - 1).toNat) (prK L i.toNat)) = false := h2
            have hg : goodAt L i.toNat = true := by unfold goodAt; rw [hz, ← e3, show ltB (prK L (i - 1).toNat) (prK L i.toNat) = true by simpa using h2]; simp
            refine Need.mk (by show fitStd .i64 (i + 1); unfold fitStd; omega) fun _ => ?_
            refine ⟨⟨i + 1, by omega, by omega, hYES hg⟩, [0], (by show n - (i + 1).toNat < n - i.toNat; omega), ?_⟩
            refine ⟨rfl, by decide, ?_, ?_⟩ <;> repeat' (first | exact trivial | exact rfl | apply And.intro | exact (fun _ _ _ _ => Cell.le_refl _) | (intro i hi; rfl) | (intro i hi; exact absurd hi (Nat.not_lt_zero _)))
        · have h1 : ¬ 0 < i := of_decide_eq_false (p := 0 < i) h1
          have hg : goodAt L i.toNat = true := by unfold goodAt; rw [hz, decide_eq_true (show i.toNat = 0 by omega)]; simp
          refine Need.mk (by show fitStd .i64 (i + 1); unfold fitStd; omega) fun _ => ?_
          refine ⟨⟨i + 1, by omega, by omega, hYES hg⟩, [0], (by show n - (i + 1).toNat < n - i.toNat; omega), ?_⟩
          refine ⟨rfl, by decide, ?_, ?_⟩ <;> repeat' (first | exact trivial | exact rfl | apply And.intro | exact (fun _ _ _ _ => Cell.le_refl _) | (intro i hi; rfl) | (intro i hi; exact absurd hi (Nat.not_lt_zero _)))
    · replace hlt : ¬ i < @Nat.cast Int instNatCastInt n := of_decide_eq_false (p := i < (n : Int)) hlt
      rw [goodL_yes fun k hk => hP k (by omega)]
      exact ⟨[0], ⟨rfl, (by repeat' (first | exact trivial | exact rfl | apply And.intro | exact (fun _ _ _ _ => Cell.le_refl _) | (intro i hi; rfl) | (intro i hi; exact absurd hi (Nat.not_lt_zero _)))), by decide, rfl, by repeat' (first | exact trivial | exact rfl | apply And.intro | exact (fun _ _ _ _ => Cell.le_refl _) | (intro i hi; rfl) | (intro i hi; exact absurd hi (Nat.not_lt_zero _)))⟩⟩

def sCloneP : SpecF
  | [.c (.row 0)], [.elems ty one n get] => some (prPre ty one n get, .c (.row 1), [.dead, .row 33 2 n (prG (prL n get))])
  | _, _ => none

set_option maxRecDepth 100000 in
set_option maxHeartbeats 8000000 in
theorem clonePP : Fn Try.prog 32 [] [(33, 2)] sCloneP := by
  have hC : CtsOk Try.prog [] := CtsOk.nil _
  refine Fn.of (E := tbSt) [] 0 [] tbSt_ok hC (by kernel_rfl) Try.func32 rfl rfl rfl (by kernel_rfl) (by kernel_rfl) 1 33 2 ?_ ?_
  · intro args h pre r h' hs
    unfold sCloneP at hs
    split at hs
    · cases hs; exact ⟨rfl, rfl, Nat.le_of_ble_eq_true rfl⟩
    · cases hs
  · intro args h pre r h' hs hp
    unfold sCloneP at hs
    split at hs
    rotate_left
    · cases hs
    rename_i ty one n get
    cases hs
    obtain ⟨rfl, rfl, hst, hm⟩ := hp
    refine ⟨[.elems 33 2 n (prG (prL n get))], hst.same, ?_⟩
    have hL : (prL n get).length = n := prL_len
    generalize prL n get = L at hL ⊢
    subst hL
    generalize hg0 : (List.length : List PP → Nat) = g0
    try unfold prG
    generalize ho0 : @prK = zo0, ho1 : @prV = zo1, ho2 : @prL = zo2, ho3 : @prPre = zo3
    generalize hA : Arith.std = A
    cbv
    subst hA hg0 ho0 ho1 ho2 ho3
    refine Fork.mk (fun h0 => ?_) ?_
    · replace h0 : L.length = 0 := h0
      refine ⟨[0, 1], ⟨rfl, rfl, (by show List.Nodup [1]; decide), rfl, ?_⟩⟩
      repeat' (first | exact trivial | exact rfl | apply And.intro)
      · exact h0.symm
      · intro j hj
        exact absurd hj (by show ¬ j < L.length; omega)
    · refine Need.mk ⟨(by show 0 + L.length ≤ maxLen ∧ (0 + L.length) * 32 ≤ 140737488355328; unfold maxLen; omega), fun i _ => rfl⟩ fun _ => ?_
      refine ⟨[0, 2], ⟨rfl, rfl, (by show List.Nodup [2]; decide), rfl, ?_⟩⟩
      repeat' (first | exact trivial | exact rfl | apply And.intro)
      · generalize L.length = m
        cases m with
        | zero => rfl
        | succ k => exact congrArg Nat.succ (Nat.zero_add k)
      · intro j hj
        rfl

def sNewS : SpecF
  | [], [] => some (True, .c (.ptr 0 0), [.cells 77 [.row 1], .row 33 2 0 (prG [])])
  | _, _ => none
set_option maxRecDepth 100000 in
set_option maxHeartbeats 8000000 in
theorem newSP : Fn Try.prog 10 [] [] sNewS := by
  have hC : CtsOk Try.prog [] := CtsOk.nil _
  refine Fn.ofR (E := tbSt) tbSt_ok Try.func10 rfl rfl rfl (by kernel_rfl) 0 33 2 ?_ ?_
  · intro args h pre r h' hs
    unfold sNewS at hs
    split at hs
    · cases hs; exact ⟨rfl, rfl, Nat.le_of_ble_eq_true rfl⟩
    · cases hs
  · intro args h pre r h' hs hp
    unfold sNewS at hs
    split at hs
    rotate_left
    · cases hs
    cases hs
    refine ⟨[], trivial, ?_⟩
    refine Runs.cutT ⟨List.replicate 3 .any, []⟩ ?_ ?_
    · refine exec_ok (N := env (lft Try.prog 0) 0 .std tbSt [] []) rfl tbSt_ok hC (fun c st K _ h => h) (by kernel_rfl) [] _ _ _ (by kernel_rfl) ?_
      generalize hL : lft Try.prog _ = L
      try unfold prG
      generalize ho0 : @prK = zo0, ho1 : @prV = zo1
      generalize hA : Arith.std = A
      cbv
      subst hA hL ho0 ho1
      exact StT.ofL (σ := []) ⟨rfl, by show List.Nodup []; exact List.nodup_nil, by repeat' (first | exact trivial | exact rfl | apply And.intro | exact (fun _ _ _ _ => Cell.le_refl _) | (intro i hi; rfl) | (intro i hi; exact absurd hi (Nat.not_lt_zero _))), by repeat' (first | exact trivial | exact rfl | apply And.intro | exact (fun _ _ _ _ => Cell.le_refl _) | (intro i hi; rfl) | (intro i hi; exact absurd hi (Nat.not_lt_zero _)))⟩
    refine Runs.cutT ⟨[.c (.ptr 0 0), .any, .any], [.cells 77 [.row 1], .row 33 2 0 (prG [])]⟩ ?_ ?_
    · refine exec_ok (N := env (lft Try.prog 0) 0 .std tbSt [] []) rfl tbSt_ok hC (fun c st K _ h => h) (by kernel_rfl) [] _ _ _ (by kernel_rfl) ?_
      generalize hL : lft Try.prog _ = L
      try unfold prG
      generalize ho0 : @prK = zo0, ho1 : @prV = zo1
      generalize hA : Arith.std = A
      cbv
      subst hA hL ho0 ho1
      exact StT.trans (StT.nilCell 0 0 (.row 33 2 0 (prG [])) rfl rfl rfl) (StT.ofL (σ := [0, 1]) ⟨rfl, by show List.Nodup [0, 1]; decide, by repeat' (first | exact trivial | exact rfl | apply And.intro | exact (fun _ _ _ _ => Cell.le_refl _) | (intro i hi; rfl) | (intro i hi; exact absurd hi (Nat.not_lt_zero _))), by repeat' (first | exact trivial | exact rfl | apply And.intro | exact (fun _ _ _ _ => Cell.le_refl _) | (intro i hi; rfl) | (intro i hi; exact absurd hi (Nat.not_lt_zero _)))⟩)
    refine exec_ok (N := env (lft Try.prog 0) 0 .std tbSt [] []) rfl tbSt_ok hC (fun c st K _ h => h) (by kernel_rfl) [] _ _ _ (by kernel_rfl) ?_
    generalize hL : lft Try.prog _ = L
    try unfold prG
    generalize ho0 : @prK = zo0, ho1 : @prV = zo1
    generalize hA : Arith.std = A
    cbv
    subst hA hL ho0 ho1
    exact ⟨[0, 1], ⟨rfl, (by repeat' (first | exact trivial | exact rfl | apply And.intro | exact (fun _ _ _ _ => Cell.le_refl _) | (intro i hi; rfl) | (intro i hi; exact absurd hi (Nat.not_lt_zero _)))), (by show List.Nodup [0, 1]; decide), rfl, by repeat' (first | exact trivial | exact rfl | apply And.intro | exact (fun _ _ _ _ => Cell.le_refl _) | (intro i hi; rfl) | (intro i hi; exact absurd hi (Nat.not_lt_zero _)))⟩⟩

def sCloneL : List SV → Option (Prop × SV)
  | [.c (.str l)] => some (l.length ≤ 281474976710656, .c (.str l))
  | _ => none

def sClnS : List SV → Option (Prop × SV)
  | [.c (.str l)] => some (l.length ≤ 281474976710656, .c (.str l))
  | _ => none

theorem cloneLP : Pure Try.prog 44 sCloneL := by
  refine ⟨by kernel_rfl, fun args pre r h hp us hs W => ?_⟩
  unfold sCloneL at h
  split at h
  rotate_left
  · cases h
  rename_i l
  cases h
  obtain ⟨u0, _, rfl, a0, b0⟩ := hs
  obtain rfl : .string ⟨(l).toArray⟩ = u0 := Option.some.inj a0
  cases b0
  refine Calls.mono (Try.stringslite_Clone ⟨l.toArray⟩ W (by exact hp)) fun e W' he => ?_
  obtain ⟨rfl, hb⟩ := he
  exact ⟨_, rfl, rfl, hb⟩

set_option maxRecDepth 100000 in
set_option maxHeartbeats 2000000 in
theorem clnSP : Pure Try.prog 27 sClnS := by
  have hC : CtsOk Try.prog [(44, appPure sCloneL)] := CtsOk.cons (Pure.ct cloneLP) <| CtsOk.nil _
  refine Pure.of (E := tbSt) (C := [(44, appPure sCloneL)]) [] 0 [] tbSt_ok hC (by kernel_rfl) Try.func27 rfl rfl rfl (by kernel_rfl) (by kernel_rfl) ?_ ?_
  · intro args pre r h
    unfold sClnS at h
    split at h
    · cases h; rfl
    · cases h
  · intro args pre r h hp
    unfold sClnS at h
    split at h
    rotate_left
    · cases h
    rename_i l
    cases h
    have hl : l.length ≤ 281474976710656 := hp
    unfold sCloneL
    generalize hg0 : (List.length : List UInt8 → Nat) = g0
    generalize hA : Arith.std = A
    cbv
    subst hA hg0
    exact Need.mk hl fun _ => trivial

def sLen : SpecF
  | [.c (.ptr 0 0)], [.cells t [.row 1], .row ty one n get] => some (t = 77 ∧ prPre ty one n get, .c (.int .i64 (n : Int)), [.cells 77 [.row 1], .row 33 2 n (prG (prL n get))])
  | _, _ => none

set_option maxRecDepth 100000 in
set_option maxHeartbeats 8000000 in
theorem lenSP : Fn Try.prog 13 [] [] sLen := by
  have hC : CtsOk Try.prog [] := CtsOk.nil _
  refine Fn.of (E := tbSt) [] 0 [] tbSt_ok hC (by kernel_rfl) Try.func13 rfl rfl rfl (by kernel_rfl) (by kernel_rfl) 2 5 1 ?_ ?_
  · intro args h pre r h' hs
    unfold sLen at hs
    split at hs
    · cases hs; exact ⟨rfl, rfl, Nat.le_of_ble_eq_true rfl⟩
    · cases hs
  · intro args h pre r h' hs hp
    unfold sLen at hs
    split at hs
    rotate_left
    · cases hs
    rename_i t ty one n get
    cases hs
    obtain ⟨rfl, rfl, rfl, hst, hm⟩ := hp
    refine ⟨[.cells 77 [.row 1], .row 33 2 n (prG (prL n get))], ⟨rfl, ⟨rfl, rfl, rfl, fun i hi => hst.eq hi⟩, trivial⟩, ?_⟩
    have hL : (prL n get).length = n := prL_len
    have ePR : prL n (prG (prL n get)) = prL n get := by
      have := prL_prG (prL n get)
      rwa [hL] at this
    generalize prL n get = L at hL ePR ⊢
    generalize hg0 : (List.length : List PP → Nat) = g0
    try unfold prG
    generalize ho0 : @prK = zo0, ho1 : @prV = zo1, ho2 : @prL = zo2, ho3 : @prPre = zo3
    generalize hA : Arith.std = A
    cbv
    subst hA hg0 ho0 ho1 ho2 ho3
    exact ⟨[0, 1], ⟨rfl, (by repeat' (first | exact trivial | exact rfl | apply And.intro | exact (fun _ _ _ _ => Cell.le_refl _) | (intro i hi; rfl) | (intro i hi; exact absurd hi (Nat.not_lt_zero _)))), (by show List.Nodup [0, 1]; decide), rfl, by repeat' (first | exact trivial | exact rfl | apply And.intro | exact (fun _ _ _ _ => Cell.le_refl _) | (intro i hi; rfl) | (intro i hi; exact absurd hi (Nat.not_lt_zero _)))⟩⟩

def sGet : SpecF
  | [.c (.ptr 0 0), .c (.str k)], [.cells t [.row 1], .row ty one n get] => some (t = 77 ∧ prPre ty one n get ∧ StS (prL n get), .tup [(some (.str (getL (prL n get) k)), []), (some (.bool (findB (prL n get) k)), [])], [.cells 77 [.row 1], .row 33 2 n (prG (prL n get))])
  | _, _ => none

set_option maxRecDepth 100000 in
set_option maxHeartbeats 8000000 in
theorem getSP : Fn Try.prog 23 [] [] sGet := by
  have hC : CtsOk Try.prog [(29, appFn [] [] sFind)] := CtsOk.cons (Fn.ct findP) <| CtsOk.nil _
  refine Fn.of (E := tbSt) [] 0 [] tbSt_ok hC (by kernel_rfl) Try.func23 rfl rfl rfl (by kernel_rfl) (by kernel_rfl) 2 5 1 ?_ ?_
  · intro args h pre r h' hs
    unfold sGet at hs
    split at hs
    · cases hs; exact ⟨rfl, rfl, Nat.le_of_ble_eq_true rfl⟩
    · cases hs
  · intro args h pre r h' hs hp
    unfold sGet at hs
    split at hs
    rotate_left
    · cases hs
    rename_i k t ty one n get
    cases hs
    obtain ⟨hp1, ⟨hp2, hp3, hp4, hp5⟩, hp6⟩ := hp
    have hp := (⟨hp1, ⟨hp2, hp3, hp4, hp5⟩, hp6⟩ : _ ∧ (_ ∧ _ ∧ _ ∧ _) ∧ _)
    obtain ⟨rfl, ⟨rfl, rfl, hst, hm⟩, hs⟩ := hp
    refine ⟨[.cells 77 [.row 1], .row 33 2 n (prG (prL n get))], ⟨rfl, ⟨rfl, rfl, rfl, fun i hi => hst.eq hi⟩, trivial⟩, ?_⟩
    have hL : (prL n get).length = n := prL_len
    have ePR : prL n (prG (prL n get)) = prL n get := by
      have := prL_prG (prL n get)
      rwa [hL] at this
    generalize prL n get = L at hL hs ePR ⊢
    unfold sFind
    generalize hg0 : (List.length : List PP → Nat) = g0
    try unfold prG
    generalize ho0 : @prK = zo0, ho1 : @prV = zo1, ho2 : @prL = zo2, ho3 : @ltB = zo3, ho4 : @findI = zo4, ho5 : @findB = zo5, ho6 : @getL = zo6, ho7 : @prPre = zo7
    generalize hA : Arith.std = A
    cbv
    subst hA hg0 ho0 ho1 ho2 ho3 ho4 ho5 ho6 ho7
    refine Need.mk ⟨⟨rfl, rfl, prAt_prG n L, hm⟩, by rw [ePR]; exact hs⟩ fun _ => ?_
    rw [ePR]
    refine Ife.mk (fun h => ?_) (fun h => ?_)
    · have h : (!findB L k) = true := h
      have hb : findB L k = false := by simpa using h
      have hR1 : ([] : List UInt8) = getL L k := by unfold getL; rw [hb]; rfl
      rw [hb]
      exact ⟨[0, 1], ⟨rfl, (by repeat' (first | exact trivial | exact hR1 | exact hR2 | exact rfl | apply And.intro | exact (fun _ _ _ _ => Cell.le_refl _) | (intro i hi; rfl) | (intro i hi; exact absurd hi (Nat.not_lt_zero _)))), (by show List.Nodup [0, 1]; decide), rfl, by repeat' (first | exact trivial | exact hR1 | exact hR2 | exact rfl | apply And.intro | exact (fun _ _ _ _ => Cell.le_refl _) | (intro i hi; rfl) | (intro i hi; exact absurd hi (Nat.not_lt_zero _)))⟩⟩
    · have h : (!findB L k) = false := h
      have hb : findB L k = true := by simpa using h
      obtain ⟨h1, h2⟩ := findB_eq hb
      refine Need.mk (by show 0 ≤ (findI L k : Int) ∧ (findI L k : Int) < (n : Int); omega) fun _ => Need.mk (by show (findI L k : Int).toNat < n; omega) fun _ => ?_
      have hR1 : prV L (findI L k) = getL L k := by unfold getL; rw [hb]; rfl
      rw [hb]
      exact ⟨[0, 1], ⟨rfl, (by repeat' (first | exact trivial | exact hR1 | exact hR2 | exact rfl | apply And.intro | exact (fun _ _ _ _ => Cell.le_refl _) | (intro i hi; rfl) | (intro i hi; exact absurd hi (Nat.not_lt_zero _)))), (by show List.Nodup [0, 1]; decide), rfl, by repeat' (first | exact trivial | exact hR1 | exact hR2 | exact rfl | apply And.intro | exact (fun _ _ _ _ => Cell.le_refl _) | (intro i hi; rfl) | (intro i hi; exact absurd hi (Nat.not_lt_zero _)))⟩⟩

def sDrop : SpecF
  | [.c (.ptr 0 0), .c (.str k)], [.cells t [.row 1], .row ty one n get] => some (t = 77 ∧ prPre ty one n get ∧ StS (prL n get), .c (.bool (findB (prL n get) k)), [.cells 77 [.row 2], .dead, .row 33 2 (dropL (prL n get) k).length (prG (dropL (prL n get) k))])
  | _, _ => none

set_option maxRecDepth 100000 in
set_option maxHeartbeats 8000000 in
theorem dropSP : Fn Try.prog 24 [] [] sDrop := by
  have hC : CtsOk Try.prog [(29, appFn [] [] sFind), (42, appDel)] := CtsOk.cons (Fn.ct findP) <| CtsOk.cons (delCt) <| CtsOk.nil _
  refine Fn.of (E := tbSt) [] 0 [] tbSt_ok hC (by kernel_rfl) Try.func24 rfl rfl rfl (by kernel_rfl) (by kernel_rfl) 2 5 1 ?_ ?_
  · intro args h pre r h' hs
    unfold sDrop at hs
    split at hs
    · cases hs; exact ⟨rfl, rfl, Nat.le_of_ble_eq_true rfl⟩
    · cases hs
  · intro args h pre r h' hs hp
    unfold sDrop at hs
    split at hs
    rotate_left
    · cases hs
    rename_i k t ty one n get
    cases hs
    obtain ⟨rfl, ⟨rfl, rfl, hst, hm⟩, hs⟩ := hp
    refine ⟨[.cells 77 [.row 1], .row 33 2 n (prG (prL n get))], ⟨rfl, ⟨rfl, rfl, rfl, fun i hi => hst.eq hi⟩, trivial⟩, ?_⟩
    have hL : (prL n get).length = n := prL_len
    have ePR : prL n (prG (prL n get)) = prL n get := by
      have := prL_prG (prL n get)
      rwa [hL] at this
    generalize prL n get = L at hL hs ePR ⊢
    unfold sFind appDel
    generalize hg0 : (List.length : List PP → Nat) = g0
    try unfold prG
    generalize ho0 : @prK = zo0, ho1 : @prV = zo1, ho2 : @prL = zo2, ho3 : @ltB = zo3, ho4 : @findI = zo4, ho5 : @findB = zo5, ho6 : @dropL = zo6, ho7 : @prPre = zo7, ho8 : @delG = zo8, ho9 : @delPre = zo9
    generalize hA : Arith.std = A
    cbv
    subst hA hg0 ho0 ho1 ho2 ho3 ho4 ho5 ho6 ho7 ho8 ho9
    refine Need.mk ⟨⟨rfl, rfl, prAt_prG n L, hm⟩, by rw [ePR]; exact hs⟩ fun _ => ?_
    rw [ePR]
    refine Ife.mk (fun hb => ?_) (fun hb => ?_)
    · have hb : findB L k = true := hb
      obtain ⟨h1, h2⟩ := findB_eq hb
      refine Need.mk (by show fitStd .i64 ((findI L k : Int) + 1); unfold fitStd; omega) fun _ => Need.mk (by show delPre (findI L k : Int) ((findI L k : Int) + 1) n; unfold delPre; omega) fun _ => ?_
      have e : dropL L k = L.eraseIdx (findI L k) := if_pos hb
      have hR1 : n - 1 = (dropL L k).length := by rw [e, List.length_eraseIdx_of_lt h1, hL]
      have hR2 : ∀ j, j < (dropL L k).length → delG (prG L) (findI L k) j = prG (dropL L k) j := fun j _ => by rw [e]; exact prG_del j
      exact ⟨[0, 1, 2], ⟨rfl, (by repeat' (first | exact trivial | exact hR1 | exact hR2 | exact rfl | apply And.intro | exact (fun _ _ _ _ => Cell.le_refl _) | (intro i hi; rfl) | (intro i hi; exact absurd hi (Nat.not_lt_zero _)))), (by show List.Nodup [0, 2]; decide), rfl, by repeat' (first | exact trivial | exact hR1 | exact hR2 | exact rfl | apply And.intro | exact (fun _ _ _ _ => Cell.le_refl _) | (intro i hi; rfl) | (intro i hi; exact absurd hi (Nat.not_lt_zero _)))⟩⟩
    · have hb : findB L k = false := hb
      have e : dropL L k = L := if_neg (by rw [hb]; decide)
      have hR1 : n = (dropL L k).length := by rw [e, hL]
      have hR2 : ∀ j, j < (dropL L k).length → prG L j = prG (dropL L k) j := fun j _ => by rw [e]
      exact ⟨[0, 1, 1], ⟨rfl, (by repeat' (first | exact trivial | exact hR1 | exact hR2 | exact rfl | apply And.intro | exact (fun _ _ _ _ => Cell.le_refl _) | (intro i hi; rfl) | (intro i hi; exact absurd hi (Nat.not_lt_zero _)))), (by show List.Nodup [0, 1]; decide), rfl, by repeat' (first | exact trivial | exact hR1 | exact hR2 | exact rfl | apply And.intro | exact (fun _ _ _ _ => Cell.le_refl _) | (intro i hi; rfl) | (intro i hi; exact absurd hi (Nat.not_lt_zero _)))⟩⟩

def sSet : SpecF
  | [.c (.ptr 0 0), .c (.str k), .c (.str v)], [.cells t [.row 1], .row ty one n get] => some (t = 77 ∧ prPre ty one n get ∧ StS (prL n get) ∧ k.length ≤ 281474976710656 ∧ v.length ≤ 281474976710656, .c (.int .i64 (if szB k v = true then 0 else 1)), [.cells 77 [.row 2], .dead, .row 33 2 (putS (prL n get) k v).length (prG (putS (prL n get) k v))])
  | _, _ => none

set_option maxRecDepth 100000 in
set_option maxHeartbeats 8000000 in
theorem setSP : Fn Try.prog 11 [] [] sSet := by
  have hC : CtsOk Try.prog [(27, appPure sClnS), (28, appFn [] [(33, 2)] sGood), (29, appFn [] [] sFind), (30, appIns)] := CtsOk.cons (Pure.ct clnSP) <| CtsOk.cons (Fn.ct goodP) <| CtsOk.cons (Fn.ct findP) <| CtsOk.cons (insCt) <| CtsOk.nil _
  refine Fn.of (E := tbSt) [] 0 [(6, [(0, true), (1, true), (2, true), (3, true), (4, true), (5, true), (6, true), (1007, false), (7, false)]), (7, [(2001, false), (0, true), (1, true), (2, true), (3, true), (4, true), (5, true), (6, true), (7, false), (8, false), (1009, false), (9, true), (10, true), (11, false)])] tbSt_ok hC (by kernel_rfl) Try.func11 rfl rfl rfl (by kernel_rfl) (by kernel_rfl) 2 5 1 ?_ ?_
  · intro args h pre r h' hs
    unfold sSet at hs
    split at hs
    · cases hs; exact ⟨rfl, rfl, Nat.le_of_ble_eq_true rfl⟩
    · cases hs
  · intro args h pre r h' hs hp
    unfold sSet at hs
    split at hs
    rotate_left
    · cases hs
    rename_i k v t ty one n get
    cases hs
    obtain ⟨rfl, ⟨rfl, rfl, hst, hm⟩, hs, hk, hv⟩ := hp
    refine ⟨[.cells 77 [.row 1], .row 33 2 n (prG (prL n get))], ⟨rfl, ⟨rfl, rfl, rfl, fun i hi => hst.eq hi⟩, trivial⟩, ?_⟩
    have hL : (prL n get).length = n := prL_len
    have ePR : prL n (prG (prL n get)) = prL n get := by
      have := prL_prG (prL n get)
      rwa [hL] at this
    generalize prL n get = L at hL hs ePR ⊢
    unfold sFind appIns sClnS sGood
    generalize hg0 : (List.length : List PP → Nat) = g0
    generalize hg1 : (List.length : List UInt8 → Nat) = g1
    try unfold prG
    generalize ho0 : @prK = zo0, ho1 : @prV = zo1, ho2 : @prL = zo2, ho3 : @ltB = zo3, ho4 : @findI = zo4, ho5 : @findB = zo5, ho6 : @szB = zo6, ho7 : @setL = zo7, ho8 : @putS = zo8, ho9 : @prPre = zo9, ho10 : @goodL = zo10, ho11 : @insG = zo11, ho12 : @insPre = zo12
    generalize hA : Arith.std = A
    cbv
    subst hA hg0 hg1 ho0 ho1 ho2 ho3 ho4 ho5 ho6 ho7 ho8 ho9 ho10 ho11 ho12
    refine Need.mk (by show k.length ≤ 281474976710656; exact hk) fun _ => Need.mk (by show v.length ≤ 281474976710656; exact hv) fun _ => ?_
    have e1 : prL 1 (cutC 2 [.str k, .str v] 0) = [(k, v)] := prL_one rfl
    refine Need.mk prPre_one fun _ => ?_
    rw [e1, goodL_one]
    refine Ife.mk (fun h => ?_) (fun h => ?_)
    · have h : (!szB k v) = true := h
      have hz : szB k v = false := by simpa using h
      have e : putS L k v = L := by unfold putS; rw [hz]; rfl
      have hR1 : n = (putS L k v).length := by rw [e, hL]
      have hR2 : ∀ j, j < (putS L k v).length → prG L j = prG (putS L k v) j := fun j _ => by rw [e]
      rw [show (if szB k v = true then (0 : Int) else 1) = 1 by rw [hz]; rfl]
      exact ⟨[0, 1, 1], ⟨rfl, (by repeat' (first | exact trivial | exact hR1 | exact hR2 | exact rfl | apply And.intro | exact (fun _ _ _ _ => Cell.le_refl _) | (intro i hi; rfl) | (intro i hi; exact absurd hi (Nat.not_lt_zero _)))), (by show List.Nodup [0, 1]; decide), rfl, by repeat' (first | exact trivial | exact hR1 | exact hR2 | exact rfl | apply And.intro | exact (fun _ _ _ _ => Cell.le_refl _) | (intro i hi; rfl) | (intro i hi; exact absurd hi (Nat.not_lt_zero _)))⟩⟩
    · have h : (!szB k v) = false := h
      have hz : szB k v = true := by simpa using h
      have e : putS L k v = setL L k v := by unfold putS; rw [hz]; rfl
      rw [show (if szB k v = true then (0 : Int) else 1) = 0 by rw [hz]; rfl]
      refine Need.mk ⟨⟨rfl, rfl, prAt_prG n L, hm⟩, by rw [ePR]; exact hs⟩ fun _ => ?_
      rw [ePR]
      have hle := findI_le (L := L) (k := k)
      refine Ife.mk (fun hb => ?_) (fun hb => ?_)
      · have hb : findB L k = true := hb
        obtain ⟨h1, h2⟩ := findB_eq hb
        have e2 : setL L k v = L.set (findI L k) (k, v) := if_pos hb
        refine Need.mk (by show 0 ≤ (findI L k : Int) ∧ (findI L k : Int) < (n : Int); omega) fun _ => Need.mk (by show (findI L k : Int).toNat < n; omega) fun _ => ?_
        have hR1 : n = (putS L k v).length := by rw [e, e2, List.length_set, hL]
        have hR2 : ∀ j, j < (putS L k v).length → upG (prG L) (findI L k) 0 [.str k, .str v] j = prG (putS L k v) j := fun j hj => by rw [e, e2]; exact prG_set h1 j (by rw [← hR1] at hj; omega)
        exact ⟨[0, 1, 1], ⟨rfl, (by repeat' (first | exact trivial | exact hR1 | exact hR2 | exact rfl | apply And.intro | exact (fun _ _ _ _ => Cell.le_refl _) | (intro i hi; rfl) | (intro i hi; exact absurd hi (Nat.not_lt_zero _)))), (by show List.Nodup [0, 1]; decide), rfl, by repeat' (first | exact trivial | exact hR1 | exact hR2 | exact rfl | apply And.intro | exact (fun _ _ _ _ => Cell.le_refl _) | (intro i hi; rfl) | (intro i hi; exact absurd hi (Nat.not_lt_zero _)))⟩⟩
      · have hb : findB L k = false := hb
        have e2 : setL L k v = L.take (findI L k) ++ (k, v) :: L.drop (findI L k) := if_neg (by rw [hb]; decide)
        refine Need.mk (by show insPre (findI L k : Int) n; unfold insPre; omega) fun _ => ?_
        have hR1 : n + 1 = (putS L k v).length := by rw [e, setL_len, if_neg (by rw [hb]; decide), hL]
        have hR2 : ∀ j, j < (putS L k v).length → insG (prG L) (findI L k) [.str k, .str v] j = prG (putS L k v) j := fun j _ => by rw [e, e2]; exact prG_ins hle j
        exact ⟨[0, 1, 6], ⟨rfl, (by repeat' (first | exact trivial | exact hR1 | exact hR2 | exact rfl | apply And.intro | exact (fun _ _ _ _ => Cell.le_refl _) | (intro i hi; rfl) | (intro i hi; exact absurd hi (Nat.not_lt_zero _)))), (by show List.Nodup [0, 6]; decide), rfl, by repeat' (first | exact trivial | exact hR1 | exact hR2 | exact rfl | apply And.intro | exact (fun _ _ _ _ => Cell.le_refl _) | (intro i hi; rfl) | (intro i hi; exact absurd hi (Nat.not_lt_zero _)))⟩⟩

def sUnder : SpecF
  | [.c (.ptr 0 0), .c (.str f)], [.cells t [.row 1], .row ty one n get] => some (t = 77 ∧ prPre ty one n get ∧ StS (prL n get), .c (.row 2), [.cells 77 [.row 1], .row 33 2 n (prG (prL n get)), .row 33 2 (underL (prL n get) f).length (prG (underL (prL n get) f))])
  | _, _ => none

set_option maxRecDepth 100000 in
set_option maxHeartbeats 8000000 in
theorem underSP : Fn Try.prog 12 [] [] sUnder := by
  have hC : CtsOk Try.prog [(29, appFn [] [] sFind), (31, appPure sHasP), (32, appFn [] [(33, 2)] sCloneP)] := CtsOk.cons (Fn.ct findP) <| CtsOk.cons (Pure.ct hasP) <| CtsOk.cons (Fn.ct clonePP) <| CtsOk.nil _
  refine Fn.of (E := tbSt) [] 0 [] tbSt_ok hC (by kernel_rfl) Try.func12 rfl rfl rfl (by kernel_rfl) (by kernel_rfl) 2 5 1 ?_ ?_
  · intro args h pre r h' hs
    unfold sUnder at hs
    split at hs
    · cases hs; exact ⟨rfl, rfl, Nat.le_of_ble_eq_true rfl⟩
    · cases hs
  · intro args h pre r h' hs hp
    unfold sUnder at hs
    split at hs
    rotate_left
    · cases hs
    rename_i f t ty one n get
    cases hs
    obtain ⟨rfl, ⟨rfl, rfl, hst, hm⟩, hs⟩ := hp
    refine ⟨[.cells 77 [.row 1], .row 33 2 n (prG (prL n get))], ⟨rfl, ⟨rfl, rfl, rfl, fun i hi => hst.eq hi⟩, trivial⟩, ?_⟩
    have hL : (prL n get).length = n := prL_len
    have ePR : prL n (prG (prL n get)) = prL n get := by
      have := prL_prG (prL n get)
      rwa [hL] at this
    generalize prL n get = L at hL hs ePR ⊢
    unfold sFind
    generalize hg0 : (List.length : List PP → Nat) = g0
    generalize hL : lft Try.prog _ = L
    try unfold prG
    generalize ho0 : @prK = zo0, ho1 : @prV = zo1, ho2 : @prL = zo2, ho3 : @ltB = zo3, ho4 : @findI = zo4, ho5 : @findB = zo5, ho6 : @underL = zo6, ho7 : @underN = zo7, ho8 : @preB = zo8, ho9 : @prPre = zo9
    generalize hA : Arith.std = A
    cbv
    subst hA hg0 hL ho0 ho1 ho2 ho3 ho4 ho5 ho6 ho7 ho8 ho9
    refine Need.mk ⟨⟨rfl, rfl, prAt_prG n L, hm⟩, by rw [ePR]; exact hs⟩ fun _ => ?_
    rw [ePR]
    show Runs Try.prog 2 (.loop _) _ _
    refine loop_ruleR (N := env (lft Try.prog 2) 0 .std tbSt [(29, appFn [] [] sFind), (31, appPure sHasP), (32, appFn [] [(33, 2)] sCloneP)] []) rfl tbSt_ok hC (fun c st K _ h => h) (by kernel_rfl) [] (X := LUd L f n)
      (S := fun x => ⟨[.c (.ptr 0 0), .c (.str f), .any, .any, .any, .c (.int .i64 (findI L f : Int)), .any, .c (.int .i64 (x.j : Int))] ++ List.replicate 36 .any, [.cells 77 [.row 1], .row 33 2 n (prG L)]⟩) (μ := fun x => n - x.j) ⟨findI L f, Nat.le_refl _, by have := findI_le (L := L) (k := f); omega, fun q hq hq2 => absurd hq2 (by omega)⟩ (by kernel_rfl) [0, 1] ?_ ?_
    · refine ⟨rfl, (by show List.Nodup [0, 1]; decide), ?_, ?_⟩ <;> repeat' (first | exact trivial | exact rfl | apply And.intro | exact (fun _ _ _ _ => Cell.le_refl _) | (intro i hi; rfl) | (intro i hi; exact absurd hi (Nat.not_lt_zero _)))
    rintro ⟨j, hj0, hjn, hP⟩
    unfold sHasP sCloneP
    generalize hg0 : (List.length : List PP → Nat) = g0
    generalize hL : lft Try.prog _ = L
    try dsimp only
    try unfold prG
    generalize ho0 : @prK = zo0, ho1 : @prV = zo1, ho2 : @prL = zo2, ho3 : @ltB = zo3, ho4 : @findI = zo4, ho5 : @findB = zo5, ho6 : @underL = zo6, ho7 : @underN = zo7, ho8 : @preB = zo8, ho9 : @prPre = zo9
    generalize hA : Arith.std = A
    cbv
    subst hA hg0 hL ho0 ho1 ho2 ho3 ho4 ho5 ho6 ho7 ho8 ho9
    refine Ife.mk (fun h => ?_) (fun h => ?_)
    · have h : (j : Int) < (@Nat.cast Int instNatCastInt n) := of_decide_eq_true (p := (j : Int) < (n : Int)) h
      have hjn2 : j < n := Int.ofNat_lt.mp h
      refine Need.mk (by show 0 ≤ (j : Int) ∧ (j : Int) < (n : Int); omega) fun _ => Need.mk (by show (j : Int).toNat < n; omega) fun _ => Need.mk trivial fun _ => ?_
      refine Ife.mk (fun h2 => ?_) (fun h2 => ?_)
      · have h2 : preB f (prK L j) = true := h2
        refine Need.mk (by show fitStd .i64 ((j : Int) + 1); unfold fitStd; omega) fun _ => ?_
        refine ⟨⟨j + 1, by omega, by omega, fun q h3 h4 => by
          by_cases hq : q = j
          · rw [hq]; exact h2
          · exact hP q h3 (by omega)⟩, [0, 1], (by show n - (j + 1) < n - j; omega), ?_⟩
        refine ⟨rfl, (by show List.Nodup [0, 1]; decide), ?_, ?_⟩ <;> repeat' (first | exact trivial | exact rfl | apply And.intro | exact (fun _ _ _ _ => Cell.le_refl _) | (intro i hi; rfl) | (intro i hi; exact absurd hi (Nat.not_lt_zero _)))
      · have h2 : preB f (prK L j) = false := h2
        have hstop : j < n → preB f (prK L j) = false := fun _ => h2
        have hu : underN L f = j - findI L f := underN_eq (c := j - findI L f) (by omega) (fun q hq => hP _ (by omega) (by omega)) (fun h => by rw [show findI L f + (j - findI L f) = j by omega]; exact hstop (by omega))
        refine Need.mk (by show 0 ≤ (findI L f : Int) ∧ (findI L f : Int) ≤ (j : Int) ∧ (j : Int) ≤ (n : Int); omega) fun _ => ?_
        have e5 : ((j : Int) - (findI L f : Int)).toNat = underN L f := by omega
        refine Need.mk ⟨rfl, rfl, (fun i hi => ⟨_, _, rfl⟩), by show ((j : Int) - (findI L f : Int)).toNat ≤ 1000000; omega⟩ fun _ => ?_
        have hR1 : ((j : Int) - (findI L f : Int)).toNat = (underL L f).length := by rw [e5, under_len]
        have hR2 : ∀ q, q < (underL L f).length → prG (prL ((j : Int) - (findI L f : Int)).toNat fun i => prG L (findI L f + i)) q = prG (underL L f) q := fun q hq => by rw [e5, under_prL]
        exact ⟨[0, 1, 3], ⟨rfl, (by repeat' (first | exact trivial | exact hR1 | exact hR2 | exact rfl | apply And.intro | exact (fun _ _ _ _ => Cell.le_refl _) | (intro i hi; rfl) | (intro i hi; exact absurd hi (Nat.not_lt_zero _)))), (by show List.Nodup [0, 1, 3]; decide), rfl, by repeat' (first | exact trivial | exact hR1 | exact hR2 | exact rfl | apply And.intro | exact (fun _ _ _ _ => Cell.le_refl _) | (intro i hi; rfl) | (intro i hi; exact absurd hi (Nat.not_lt_zero _)))⟩⟩
    · have h : ¬ (j : Int) < (@Nat.cast Int instNatCastInt n) := of_decide_eq_false (p := (j : Int) < (n : Int)) h
      have hstop : j < n → preB f (prK L j) = false := fun h3 => absurd (Int.ofNat_lt.mpr h3) h
      have hu : underN L f = j - findI L f := underN_eq (c := j - findI L f) (by omega) (fun q hq => hP _ (by omega) (by omega)) (fun h => by rw [show findI L f + (j - findI L f) = j by omega]; exact hstop (by omega))
      refine Need.mk (by show 0 ≤ (findI L f : Int) ∧ (findI L f : Int) ≤ (j : Int) ∧ (j : Int) ≤ (n : Int); omega) fun _ => ?_
      have e5 : ((j : Int) - (findI L f : Int)).toNat = underN L f := by omega
      refine Need.mk ⟨rfl, rfl, (fun i hi => ⟨_, _, rfl⟩), by show ((j : Int) - (findI L f : Int)).toNat ≤ 1000000; omega⟩ fun _ => ?_
      have hR1 : ((j : Int) - (findI L f : Int)).toNat = (underL L f).length := by rw [e5, under_len]
      have hR2 : ∀ q, q < (underL L f).length → prG (prL ((j : Int) - (findI L f : Int)).toNat fun i => prG L (findI L f + i)) q = prG (underL L f) q := fun q hq => by rw [e5, under_prL]
      exact ⟨[0, 1, 3], ⟨rfl, (by repeat' (first | exact trivial | exact hR1 | exact hR2 | exact rfl | apply And.intro | exact (fun _ _ _ _ => Cell.le_refl _) | (intro i hi; rfl) | (intro i hi; exact absurd hi (Nat.not_lt_zero _)))), (by show List.Nodup [0, 1, 3]; decide), rfl, by repeat' (first | exact trivial | exact hR1 | exact hR2 | exact rfl | apply And.intro | exact (fun _ _ _ _ => Cell.le_refl _) | (intro i hi; rfl) | (intro i hi; exact absurd hi (Nat.not_lt_zero _)))⟩⟩

end Go.Proofs.Ythomoliklfmnkaa.Vx
end

section
/- The document's pairs in order: place, Set, Rise, by the walker. -/
namespace Go.Proofs.Ythomoliklfmnkaa.Vx
open Go.RowKit
set_option linter.unusedVariables false
set_option linter.unusedSimpArgs false
def prPreR (ty one n : Nat) (get : Nat → List CV) : Prop := ty = 30 ∧ one = 2 ∧ PrAt n get ∧ n ≤ 1000000
def riseL (L : List PP) : List PP := L.foldl (fun out p => putS out p.1 p.2) []
structure LPl (L : List PP) (k : List UInt8) (n : Nat) where
  j : Nat
  h1 : j ≤ n
  h2 : ∀ q, q < j → ltB (prK L q) k = true
structure LRs (L : List PP) (n : Nat) where
  j : Nat
  out : List PP
  h1 : j ≤ n
  h2 : out = riseL (L.take j)
  h3 : out.length ≤ j
theorem rise_take {L : List PP} {j : Nat} (h : j < L.length) : riseL (L.take (j + 1)) = putS (riseL (L.take j)) (prK L j) (prV L j) := by
  unfold riseL
  rw [List.take_succ_eq_append_getElem h, List.foldl_append, prK_eq h, prV_eq h]
  rfl
theorem findI_at {L : List PP} {k : List UInt8} {j : Nat} (h1 : j ≤ L.length) (h2 : ∀ q, q < j → ltB (prK L q) k = true) (h3 : j < L.length → ltB (prK L j) k = false) : findI L k = j := by
  rcases Nat.lt_trichotomy (findI L k) j with h | h | h
  · have := findI_stop (L := L) (k := k) (by omega)
    rw [h2 _ h] at this
    cases this
  · exact h
  · have hle := findI_le (L := L) (k := k)
    have := findI_lt h
    rw [h3 (by omega)] at this
    cases this
theorem natM (a b : Nat) : (match a, b with
    | a, Nat.zero => a
    | a, Nat.succ b => Nat.succ (Nat.add a b)) = a + b := by cases b <;> rfl
theorem prG_cat {L : List PP} {k v : List UInt8} {c d : Nat} (hc : c ≤ L.length) (i : Nat) : catG (c + 1) (pushG c (fun i => prG L (0 + i)) [.str k, .str v]) (fun i => prG L (d + i)) i = prG (L.take c ++ (k, v) :: L.drop d) i := by
  have hl : (L.take c).length = c := by rw [List.length_take]; omega
  unfold catG pushG
  rcases Nat.lt_trichotomy i c with h | h | h
  · rw [show Nat.blt i (c + 1) = true by rw [Nat.blt_eq]; omega, show Nat.blt i c = true by rw [Nat.blt_eq]; omega]
    simp only [Nat.zero_add]
    unfold prG prGP prK prV
    simp [List.getD, List.getElem?_append_left (show i < (L.take c).length by omega), List.getElem?_take_of_lt h]
  · subst h
    rw [show Nat.blt i (i + 1) = true by rw [Nat.blt_eq]; omega, show Nat.blt i i = false by rw [Bool.eq_false_iff]; intro h2; rw [Nat.blt_eq] at h2; omega]
    unfold prG prGP prK prV
    simp [List.getD, List.getElem?_append_right (show (L.take i).length ≤ i by omega), hl]
  · rw [show Nat.blt i (c + 1) = false by rw [Bool.eq_false_iff]; intro h2; rw [Nat.blt_eq] at h2; omega]
    obtain ⟨m, rfl⟩ : ∃ m, i = c + m + 1 := ⟨i - c - 1, by omega⟩
    rw [show c + m + 1 - (c + 1) = m by omega]
    unfold prG prGP prK prV
    simp [List.getD, List.getElem?_append_right (show (L.take c).length ≤ c + m + 1 by omega), hl, show c + m + 1 - c = m + 1 by omega]
theorem setL_cat {L : List PP} {k v : List UInt8} : setL L k v = L.take (findI L k) ++ (k, v) :: L.drop (if findB L k = true then findI L k + 1 else findI L k) := by
  unfold setL
  by_cases h : findB L k = true
  · rw [if_pos h, if_pos h, List.set_eq_take_append_cons_drop, if_pos (findB_eq h).1]
  · rw [if_neg h, if_neg h]
def tbSr : Tbl where
  T :=
    (3, ⟨1, false, [.int .i64 (0)], .int .i64, 8⟩) ::
    (4, ⟨1, false, [.ff], .bool, 1⟩) ::
    (9, ⟨1, false, [.str []], .str, 16⟩) ::
    (30, ⟨2, true, [.str [], .str []], .struct [(0, (1, false)), (1, (1, false))], 32⟩) ::
    (22, ⟨1, false, [.val (.slice none 0 0)], .slice 30, 24⟩) ::
    []
  F :=
    []

theorem tbSr_ok : tbSr.Ok Try.prog where
  T :=
    TblOk.cons (by kernel_rfl) <|
    TblOk.cons (by kernel_rfl) <|
    TblOk.cons (by kernel_rfl) <|
    TblOk.cons (by kernel_rfl) <|
    TblOk.cons (by kernel_rfl) <|
    TblOk.nil _
  F :=
    FlatsOk.nil _

def sPlace : SpecF
  | [.c (.row 0), .c (.str k)], [.elems ty one n get] => some (prPreR ty one n get, .tup [(some (.int .i64 (findI (prL n get) k : Int)), []), (some (.bool (findB (prL n get) k)), [])], [.dead])
  | _, _ => none

set_option maxRecDepth 100000 in
set_option maxHeartbeats 8000000 in
theorem placeP : Fn Try.prog 43 [] [(30, 2)] sPlace := by
  have hC : CtsOk Try.prog [] := CtsOk.nil _
  refine Fn.of (E := tbSr) [] 0 [(4, [(0, true), (1, true), (2, true), (3, true), (4, true), (5, true), (6, true), (7, true), (8, true), (9, true), (10, true), (11, true), (12, true), (13, true), (14, true), (15, true)])] tbSr_ok hC (by kernel_rfl) Try.func43 rfl rfl rfl (by kernel_rfl) (by kernel_rfl) 1 30 2 ?_ ?_
  · intro args h pre r h' hs
    unfold sPlace at hs
    split at hs
    · cases hs; exact ⟨rfl, rfl, Nat.le_of_ble_eq_true rfl⟩
    · cases hs
  · intro args h pre r h' hs hp
    unfold sPlace at hs
    split at hs
    rotate_left
    · cases hs
    rename_i k ty one n get
    cases hs
    obtain ⟨rfl, rfl, hst, hm⟩ := hp
    refine ⟨[.elems 30 2 n (prG (prL n get))], hst.same, ?_⟩
    have hL : (prL n get).length = n := prL_len
    have ePR : prL n (prG (prL n get)) = prL n get := by
      have := prL_prG (prL n get)
      rwa [hL] at this
    generalize prL n get = L at hL ePR ⊢
    show Runs Try.prog 1 (.loop _) _ _
    refine loop_ruleR (N := env (lft Try.prog 1) 0 .std tbSr [] [(4, [(0, true), (1, true), (2, true), (3, true), (4, true), (5, true), (6, true), (7, true), (8, true), (9, true), (10, true), (11, true), (12, true), (13, true), (14, true), (15, true)])]) rfl tbSr_ok hC (fun c st K _ h => h) (by kernel_rfl) [] (X := LPl L k n)
      (S := fun x => ⟨[.c (.row 0), .c (.str k), .any, .any, .any, .any, .c (.int .i64 (x.j : Int))] ++ List.replicate 29 .any, [.elems 30 2 n (prG L)]⟩) (μ := fun x => n - x.j) ⟨0, by omega, fun q hq => absurd hq (by omega)⟩ (by kernel_rfl) [0] ?_ ?_
    · refine ⟨rfl, by decide, ?_, ?_⟩ <;> repeat' (first | exact trivial | exact rfl | apply And.intro | exact (fun _ _ _ _ => Cell.le_refl _) | (intro i hi; rfl) | (intro i hi; exact absurd hi (Nat.not_lt_zero _)))
    rintro ⟨j, hjn, hP⟩
    generalize hg0 : (List.length : List PP → Nat) = g0
    generalize hL : lft Try.prog _ = L
    try dsimp only
    try unfold prG
    generalize ho0 : @prK = zo0, ho1 : @prV = zo1, ho2 : @prL = zo2, ho3 : @ltB = zo3, ho4 : @findI = zo4, ho5 : @findB = zo5, ho6 : @prPreR = zo6
    generalize hA : Arith.std = A
    cbv
    subst hA hg0 hL ho0 ho1 ho2 ho3 ho4 ho5 ho6
    have hED : (∀ q, q < j → ltB (prK L q) k = true) → (j < L.length → ltB (prK L j) k = false) → findI L k = j := fun h1 h2 => findI_at (by omega) h1 h2
    refine Ife.mk (fun h => ?_) (fun h => ?_)
    · have h : (j : Int) < (@Nat.cast Int instNatCastInt n) := of_decide_eq_true (p := (j : Int) < (n : Int)) h
      have hjn2 : j < n := Int.ofNat_lt.mp h
      refine Need.mk (by show 0 ≤ (j : Int) ∧ (j : Int) < (n : Int); omega) fun _ => Need.mk (by show (j : Int).toNat < n; omega) fun _ => ?_
      refine Ife.mk (fun h2 => ?_) (fun h2 => ?_)
      · have h2 : ltB (prK L j) k = true := h2
        refine Need.mk (by show fitStd .i64 ((j : Int) + 1); unfold fitStd; omega) fun _ => ?_
        refine ⟨⟨j + 1, by omega, fun q h4 => by
          by_cases hq : q = j
          · rw [hq]; exact h2
          · exact hP q (by omega)⟩, [0], (by show n - (j + 1) < n - j; omega), ?_⟩
        refine ⟨rfl, by decide, ?_, ?_⟩ <;> repeat' (first | exact trivial | exact rfl | apply And.intro | exact (fun _ _ _ _ => Cell.le_refl _) | (intro i hi; rfl) | (intro i hi; exact absurd hi (Nat.not_lt_zero _)))
      · have h2 : ltB (prK L j) k = false := h2
        have en := hED hP fun _ => h2
        refine Ife.mk (fun _ => ?_) (fun h3 => absurd h (of_decide_eq_false (p := (j : Int) < (n : Int)) h3))
        refine Need.mk (by show 0 ≤ (j : Int) ∧ (j : Int) < (n : Int); omega) fun _ => Need.mk (by show (j : Int).toNat < n; omega) fun _ => ?_
        have ei : (j : Int) = (findI L k : Int) := by rw [en]
        have e2 : decide (prK L j = k) = findB L k := by
          unfold findB
          rw [en, decide_eq_true (show j < L.length by omega), Bool.true_and]
        exact ⟨[0], ⟨rfl, (by repeat' (first | exact trivial | exact ei | exact e2 | exact rfl | apply And.intro)), by decide, rfl, by repeat' (first | exact trivial | exact rfl | apply And.intro | exact (fun _ _ _ _ => Cell.le_refl _) | (intro i hi; rfl) | (intro i hi; exact absurd hi (Nat.not_lt_zero _)))⟩⟩
    · have h : ¬ (j : Int) < (@Nat.cast Int instNatCastInt n) := of_decide_eq_false (p := (j : Int) < (n : Int)) h
      have hjn2 : ¬ j < n := fun h3 => h (Int.ofNat_lt.mpr h3)
      have en := hED hP fun h3 => absurd h3 (by omega)
      refine Ife.mk (fun h3 => absurd (of_decide_eq_true (p := (j : Int) < (n : Int)) h3) h) (fun _ => ?_)
      have ei : (j : Int) = (findI L k : Int) := by rw [en]
      have e2 : false = findB L k := by
        unfold findB
        rw [en, decide_eq_false (show ¬ j < L.length by omega), Bool.false_and]
      rw [← e2]
      exact ⟨[0], ⟨rfl, (by repeat' (first | exact trivial | exact ei | exact e2 | exact rfl | apply And.intro)), by decide, rfl, by repeat' (first | exact trivial | exact rfl | apply And.intro | exact (fun _ _ _ _ => Cell.le_refl _) | (intro i hi; rfl) | (intro i hi; exact absurd hi (Nat.not_lt_zero _)))⟩⟩

def sMayPx : List SV → Option (Prop × SV)
  | [.c (.str k), .c (.str v)] => some (True, .c (.bool (szB k v)))
  | _ => none

set_option maxRecDepth 100000 in
set_option maxHeartbeats 2000000 in
theorem mayPxP : Pure Try.prog 25 sMayPx := by
  have hC : CtsOk Try.prog [] := CtsOk.nil _
  refine Pure.of (E := tbSr) (C := []) [] 0 [] tbSr_ok hC (by kernel_rfl) Try.func25 rfl rfl rfl (by kernel_rfl) (by kernel_rfl) ?_ ?_
  · intro args pre r h
    unfold sMayPx at h
    split at h
    · cases h; rfl
    · cases h
  · intro args pre r h hp
    unfold sMayPx at h
    split at h
    rotate_left
    · cases h
    rename_i k v
    cases h
    generalize ho0 : @szB = zo0
    generalize hA : Arith.std = A
    cbv
    subst hA ho0
    unfold szB
    have hI : ∀ a b : Nat, decide ((a : Int) ≤ (b : Int)) = decide (a ≤ b) := fun a b => by simp
    refine Ife.mk (fun h1 => ?_) (fun h1 => ?_)
    · have h1 : decide ((1 : Nat) ≤ k.length) = true := (hI 1 k.length).symm.trans h1
      rw [h1]
      refine Ife.mk (fun h2 => ?_) (fun h2 => ?_)
      · have h2 : decide (k.length ≤ 160) = true := (hI k.length 160).symm.trans h2
        rw [h2]
        refine Ife.mk (fun h3 => ?_) (fun h3 => ?_)
        · have h3 : decide ((1 : Nat) ≤ v.length) = true := (hI 1 v.length).symm.trans h3
          rw [h3]
          simp only [Bool.true_and]
          exact hI v.length 64
        · have h3 : decide ((1 : Nat) ≤ v.length) = false := (hI 1 v.length).symm.trans h3
          rw [h3]
          rfl
      · have h2 : decide (k.length ≤ 160) = false := (hI k.length 160).symm.trans h2
        rw [h2]
        rfl
    · have h1 : decide ((1 : Nat) ≤ k.length) = false := (hI 1 k.length).symm.trans h1
      rw [h1]
      rfl

def sSetR : SpecF
  | [.c (.row 0), .c (.str k), .c (.str v)], [.elems ty one n get] => some (prPreR ty one n get, .c (.row 1), [.dead, .row 30 2 (setL (prL n get) k v).length (prG (setL (prL n get) k v))])
  | _, _ => none

set_option maxRecDepth 100000 in
set_option maxHeartbeats 8000000 in
theorem setRP : Fn Try.prog 26 [] [(30, 2)] sSetR := by
  have hC : CtsOk Try.prog [(43, appFn [] [(30, 2)] sPlace)] := CtsOk.cons (Fn.ct placeP) <| CtsOk.nil _
  refine Fn.of (E := tbSr) [] 0 [] tbSr_ok hC (by kernel_rfl) Try.func26 rfl rfl rfl (by kernel_rfl) (by kernel_rfl) 1 30 2 ?_ ?_
  · intro args h pre r h' hs
    unfold sSetR at hs
    split at hs
    · cases hs; exact ⟨rfl, rfl, Nat.le_of_ble_eq_true rfl⟩
    · cases hs
  · intro args h pre r h' hs hp
    unfold sSetR at hs
    split at hs
    rotate_left
    · cases hs
    rename_i k v ty one n get
    cases hs
    obtain ⟨rfl, rfl, hst, hm⟩ := hp
    refine ⟨[.elems 30 2 n (prG (prL n get))], hst.same, ?_⟩
    have hL : (prL n get).length = n := prL_len
    have ePR : prL n (prG (prL n get)) = prL n get := by
      have := prL_prG (prL n get)
      rwa [hL] at this
    generalize prL n get = L at hL ePR ⊢
    unfold sPlace
    generalize hg0 : (List.length : List PP → Nat) = g0
    try unfold prG
    generalize ho0 : @prK = zo0, ho1 : @prV = zo1, ho2 : @prL = zo2, ho3 : @findI = zo3, ho4 : @findB = zo4, ho5 : @setL = zo5, ho6 : @prPreR = zo6
    generalize hA : Arith.std = A
    cbv
    subst hA hg0 ho0 ho1 ho2 ho3 ho4 ho5 ho6
    refine Need.mk ⟨rfl, rfl, prAt_prG n L, hm⟩ fun _ => ?_
    rw [ePR]
    have hle := findI_le (L := L) (k := k)
    refine Need.mk (by show (0 : Int) ≤ 0 ∧ (0 : Int) ≤ (findI L k : Int) ∧ (findI L k : Int) ≤ (n : Int); omega) fun _ => Need.mk (by show (0 + ((findI L k : Int) - 0).toNat ≤ maxLen ∧ (0 + ((findI L k : Int) - 0).toNat) * 32 ≤ 140737488355328) ∧ _; refine ⟨?_, fun i _ => rfl⟩; unfold maxLen; omega) fun _ => ?_
    refine Need.mk (by show ((findI L k : Int) - 0).toNat + 1 ≤ maxLen ∧ (((findI L k : Int) - 0).toNat + 1) * 32 ≤ 140737488355328; unfold maxLen; omega) fun _ => ?_
    refine Ife.mk (fun hb => ?_) (fun hb => ?_)
    · have hb : findB L k = true := hb
      obtain ⟨h1, h2⟩ := findB_eq hb
      refine Need.mk (by show fitStd .i64 ((findI L k : Int) + 1); unfold fitStd; omega) fun _ => ?_
      refine Need.mk (by show 0 ≤ ((findI L k : Int) + 1) ∧ ((findI L k : Int) + 1) ≤ (n : Int) ∧ (n : Int) ≤ (n : Int); omega) fun _ => ?_
      refine Need.mk (by show ((((findI L k : Int) - 0).toNat + 1) + ((n : Int) - ((findI L k : Int) + 1)).toNat ≤ maxLen ∧ ((((findI L k : Int) - 0).toNat + 1) + ((n : Int) - ((findI L k : Int) + 1)).toNat) * 32 ≤ 140737488355328) ∧ _; refine ⟨?_, fun i _ => rfl⟩; unfold maxLen; omega) fun _ => ?_
      have hR1 := (natM (((findI L k : Int) - 0).toNat + 1) (((n : Int) - ((findI L k : Int) + 1)).toNat)).trans (show (((findI L k : Int) - 0).toNat + 1) + ((n : Int) - ((findI L k : Int) + 1)).toNat = (setL L k v).length by rw [setL_len, if_pos hb]; omega)
      have hR2 : ∀ i, i < (setL L k v).length → catG (((findI L k : Int) - 0).toNat + 1) (pushG ((findI L k : Int) - 0).toNat (fun i => prG L (0 + i)) [.str k, .str v]) (fun i => prG L ((((findI L k : Int) + 1)).toNat + i)) i = prG (setL L k v) i := fun i _ => by
        rw [setL_cat, if_pos hb, show ((findI L k : Int) - 0).toNat = findI L k by omega, show (((findI L k : Int) + 1)).toNat = findI L k + 1 by omega]
        exact prG_cat hle i
      exact ⟨[0, 5], ⟨rfl, (by repeat' (first | exact trivial | exact hR1 | exact hR2 | exact rfl | apply And.intro | exact (fun _ _ _ _ => Cell.le_refl _) | (intro i hi; rfl) | (intro i hi; exact absurd hi (Nat.not_lt_zero _)))), (by show List.Nodup [5]; decide), rfl, by repeat' (first | exact trivial | exact hR1 | exact hR2 | exact rfl | apply And.intro | exact (fun _ _ _ _ => Cell.le_refl _) | (intro i hi; rfl) | (intro i hi; exact absurd hi (Nat.not_lt_zero _)))⟩⟩
    · have hb : findB L k = false := hb
      have hb2 : ¬ findB L k = true := by rw [hb]; decide
      refine Need.mk (by show 0 ≤ (findI L k : Int) ∧ (findI L k : Int) ≤ (n : Int) ∧ (n : Int) ≤ (n : Int); omega) fun _ => ?_
      refine Need.mk (by show ((((findI L k : Int) - 0).toNat + 1) + ((n : Int) - (findI L k : Int)).toNat ≤ maxLen ∧ ((((findI L k : Int) - 0).toNat + 1) + ((n : Int) - (findI L k : Int)).toNat) * 32 ≤ 140737488355328) ∧ _; refine ⟨?_, fun i _ => rfl⟩; unfold maxLen; omega) fun _ => ?_
      have hR1 := (natM (((findI L k : Int) - 0).toNat + 1) (((n : Int) - (findI L k : Int)).toNat)).trans (show (((findI L k : Int) - 0).toNat + 1) + ((n : Int) - (findI L k : Int)).toNat = (setL L k v).length by rw [setL_len, if_neg hb2]; omega)
      have hR2 : ∀ i, i < (setL L k v).length → catG (((findI L k : Int) - 0).toNat + 1) (pushG ((findI L k : Int) - 0).toNat (fun i => prG L (0 + i)) [.str k, .str v]) (fun i => prG L (((findI L k : Int)).toNat + i)) i = prG (setL L k v) i := fun i _ => by
        rw [setL_cat, if_neg hb2, show ((findI L k : Int) - 0).toNat = findI L k by omega, show ((findI L k : Int)).toNat = findI L k by omega]
        exact prG_cat hle i
      exact ⟨[0, 5], ⟨rfl, (by repeat' (first | exact trivial | exact hR1 | exact hR2 | exact rfl | apply And.intro | exact (fun _ _ _ _ => Cell.le_refl _) | (intro i hi; rfl) | (intro i hi; exact absurd hi (Nat.not_lt_zero _)))), (by show List.Nodup [5]; decide), rfl, by repeat' (first | exact trivial | exact hR1 | exact hR2 | exact rfl | apply And.intro | exact (fun _ _ _ _ => Cell.le_refl _) | (intro i hi; rfl) | (intro i hi; exact absurd hi (Nat.not_lt_zero _)))⟩⟩

def sRise : SpecF
  | [.c (.row 0)], [.elems ty one n get] => some (prPreR ty one n get, .c (.row 1), [.dead, .row 30 2 (riseL (prL n get)).length (prG (riseL (prL n get)))])
  | _, _ => none

set_option maxRecDepth 100000 in
set_option maxHeartbeats 8000000 in
theorem riseP : Fn Try.prog 9 [] [(30, 2)] sRise := by
  have hC : CtsOk Try.prog [(25, appPure sMayPx), (26, appFn [] [(30, 2)] sSetR)] := CtsOk.cons (Pure.ct mayPxP) <| CtsOk.cons (Fn.ct setRP) <| CtsOk.nil _
  refine Fn.of (E := tbSr) [] 0 [(5, [(0, true), (1, true), (2, true), (3, true), (4, true), (5, true), (6, true), (7, true), (8, true), (9, true), (10, false)]), (6, [(0, true), (1, true), (2, true), (3, true), (4, true), (5, true), (6, true), (7, true), (8, true), (9, true), (10, true), (11, false), (12, true)])] tbSr_ok hC (by kernel_rfl) Try.func9 rfl rfl rfl (by kernel_rfl) (by kernel_rfl) 1 30 2 ?_ ?_
  · intro args h pre r h' hs
    unfold sRise at hs
    split at hs
    · cases hs; exact ⟨rfl, rfl, Nat.le_of_ble_eq_true rfl⟩
    · cases hs
  · intro args h pre r h' hs hp
    unfold sRise at hs
    split at hs
    rotate_left
    · cases hs
    rename_i ty one n get
    cases hs
    obtain ⟨rfl, rfl, hst, hm⟩ := hp
    refine ⟨[.elems 30 2 n (prG (prL n get))], hst.same, ?_⟩
    have hL : (prL n get).length = n := prL_len
    have ePR : prL n (prG (prL n get)) = prL n get := by
      have := prL_prG (prL n get)
      rwa [hL] at this
    generalize prL n get = L at hL ePR ⊢
    generalize hg0 : (List.length : List PP → Nat) = g0
    generalize hL : lft Try.prog _ = L
    try unfold prG
    generalize ho0 : @prK = zo0, ho1 : @prV = zo1, ho2 : @prL = zo2, ho3 : @szB = zo3, ho4 : @setL = zo4, ho5 : @putS = zo5, ho6 : @prPreR = zo6, ho7 : @riseL = zo7
    generalize hA : Arith.std = A
    cbv
    subst hA hg0 hL ho0 ho1 ho2 ho3 ho4 ho5 ho6 ho7
    refine Runs.nilTmp 3 30 2 (prG []) rfl ?_
    show Runs Try.prog 1 (.loop _) _ _
    refine loop_ruleR (N := env (lft Try.prog 1) 0 .std tbSr [(25, appPure sMayPx), (26, appFn [] [(30, 2)] sSetR)] [(5, [(0, true), (1, true), (2, true), (3, true), (4, true), (5, true), (6, true), (7, true), (8, true), (9, true), (10, false)]), (6, [(0, true), (1, true), (2, true), (3, true), (4, true), (5, true), (6, true), (7, true), (8, true), (9, true), (10, true), (11, false), (12, true)])]) rfl tbSr_ok hC (fun c st K _ h => h) (by kernel_rfl) [] (X := LRs L n)
      (S := fun x => ⟨[.c (.row 0), .any, .any, .c (.row 1), .c (.int .i64 (x.j : Int))] ++ List.replicate 30 .any, [.elems 30 2 n (prG L), .row 30 2 x.out.length (prG x.out)]⟩) (μ := fun x => n - x.j) ⟨0, [], by omega, rfl, by simp⟩ (by kernel_rfl) [0, 1] ?_ ?_
    · refine ⟨rfl, by decide, ?_, ?_⟩ <;> repeat' (first | exact trivial | exact rfl | apply And.intro | exact (fun _ _ _ _ => Cell.le_refl _) | (intro i hi; rfl) | (intro i hi; exact absurd hi (Nat.not_lt_zero _)))
    rintro ⟨j, out, hjn, ho, hol⟩
    unfold sMayPx sSetR
    generalize hg0 : (List.length : List PP → Nat) = g0
    generalize hL : lft Try.prog _ = L
    try dsimp only
    try unfold prG
    generalize ho0 : @prK = zo0, ho1 : @prV = zo1, ho2 : @prL = zo2, ho3 : @szB = zo3, ho4 : @setL = zo4, ho5 : @putS = zo5, ho6 : @prPreR = zo6, ho7 : @riseL = zo7
    generalize hA : Arith.std = A
    cbv
    subst hA hg0 hL ho0 ho1 ho2 ho3 ho4 ho5 ho6 ho7
    have hx : prL out.length (prG out) = out := prL_prG out
    have hfit : j < n → fitStd .i64 ((j : Int) + 1) := fun _ => by unfold fitStd; omega
    refine Ife.mk (fun h => ?_) (fun h => ?_)
    · have h : (j : Int) < (@Nat.cast Int instNatCastInt n) := of_decide_eq_true (p := (j : Int) < (n : Int)) h
      have hjn2 : j < n := Int.ofNat_lt.mp h
      have ht := rise_take (L := L) (j := j) (by omega)
      rw [← ho] at ht
      refine Need.mk (by show 0 ≤ (j : Int) ∧ (j : Int) < (n : Int); omega) fun _ => Need.mk (by show (j : Int).toNat < n; omega) fun _ => Need.mk (by show 0 ≤ (j : Int) ∧ (j : Int) < (n : Int); omega) fun _ => Need.mk (by show (j : Int).toNat < n; omega) fun _ => Need.mk trivial fun _ => ?_
      refine Ife.mk (fun h2 => ?_) (fun h2 => ?_)
      · have h2 : szB (prK L j) (prV L j) = true := h2
        have hp2 : putS out (prK L j) (prV L j) = setL out (prK L j) (prV L j) := by unfold putS; rw [h2]; rfl
        refine Need.mk (by show 0 ≤ (j : Int) ∧ (j : Int) < (n : Int); omega) fun _ => Need.mk (by show (j : Int).toNat < n; omega) fun _ => Need.mk (by show 0 ≤ (j : Int) ∧ (j : Int) < (n : Int); omega) fun _ => Need.mk (by show (j : Int).toNat < n; omega) fun _ => ?_
        refine Need.mk (show prPreR 30 2 out.length (prG out) from ⟨rfl, rfl, prAt_prG _ out, by omega⟩) fun _ => Need.mk (hfit hjn2) fun _ => ?_
        try dsimp only
        rw [hx]
        refine ⟨⟨j + 1, setL out (prK L j) (prV L j), by omega, by rw [ht, hp2], by rw [setL_len]; split <;> omega⟩, [0, 3], (by show n - (j + 1) < n - j; omega), ?_⟩
        refine ⟨rfl, (by decide), ?_, ?_⟩ <;> repeat' (first | exact trivial | exact hR1 | exact hR2 | exact rfl | apply And.intro | exact (fun _ _ _ _ => Cell.le_refl _) | (intro i hi; rfl) | (intro i hi; exact absurd hi (Nat.not_lt_zero _)))
      · have h2 : szB (prK L j) (prV L j) = false := h2
        have hp2 : putS out (prK L j) (prV L j) = out := by unfold putS; rw [h2]; rfl
        refine Need.mk (hfit hjn2) fun _ => ?_
        refine ⟨⟨j + 1, out, by omega, by rw [ht, hp2], by omega⟩, [0, 1], (by show n - (j + 1) < n - j; omega), ?_⟩
        refine ⟨rfl, (by decide), ?_, ?_⟩ <;> repeat' (first | exact trivial | exact hR1 | exact hR2 | exact rfl | apply And.intro | exact (fun _ _ _ _ => Cell.le_refl _) | (intro i hi; rfl) | (intro i hi; exact absurd hi (Nat.not_lt_zero _)))
    · have h : ¬ (j : Int) < (@Nat.cast Int instNatCastInt n) := of_decide_eq_false (p := (j : Int) < (n : Int)) h
      have hjn2 : ¬ j < n := fun h3 => h (Int.ofNat_lt.mpr h3)
      have e : out = riseL L := by rw [ho, List.take_of_length_le (by omega)]
      have hR1 : out.length = (riseL L).length := by rw [e]
      have hR2 : ∀ i, i < (riseL L).length → prG out i = prG (riseL L) i := fun i _ => by rw [e]
      exact ⟨[0, 1], ⟨rfl, (by repeat' (first | exact trivial | exact hR1 | exact hR2 | exact rfl | apply And.intro | exact (fun _ _ _ _ => Cell.le_refl _) | (intro i hi; rfl) | (intro i hi; exact absurd hi (Nat.not_lt_zero _)))), (by show List.Nodup [1]; decide), rfl, by repeat' (first | exact trivial | exact hR1 | exact hR2 | exact rfl | apply And.intro | exact (fun _ _ _ _ => Cell.le_refl _) | (intro i hi; rfl) | (intro i hi; exact absurd hi (Nat.not_lt_zero _)))⟩⟩

end Go.Proofs.Ythomoliklfmnkaa.Vx
end

section
/- Stores: the chapter's examples; what lies under a text, plainly. -/
namespace Go.Proofs.Ythomoliklfmnkaa.Vx
open Go.RowKit
set_option linter.unusedVariables false
set_option linter.unusedSimpArgs false
theorem pre_nil {k : List UInt8} : preB [] k = true := by simp [preB]
theorem pre_cons {a b : UInt8} {f k : List UInt8} : preB (a :: f) (b :: k) = (decide (a = b) && preB f k) := by
  unfold preB
  by_cases h : a = b
  · subst h; simp
  · simp [h, Ne.symm h]
theorem pre_cons_nil {a : UInt8} {f : List UInt8} : preB (a :: f) [] = false := by simp [preB]
theorem lt_cons {a b : UInt8} {x y : List UInt8} : ltB (a :: x) (b :: y) = (decide (a < b) || (a == b && ltB x y)) := rfl
theorem pre_ge : ∀ {f k : List UInt8}, preB f k = true → ltB k f = false
  | [], [], _ => rfl
  | [], _ :: _, _ => rfl
  | a :: f, [], h => by rw [pre_cons_nil] at h; cases h
  | a :: f, b :: k, h => by
    rw [pre_cons] at h
    simp only [Bool.and_eq_true, decide_eq_true_eq] at h
    obtain ⟨rfl, h⟩ := h
    rw [lt_cons, pre_ge h]
    simp [UInt8.lt_irrefl]
theorem lt_front : ∀ {f k k0 : List UInt8}, preB f k = true → preB f k0 = false → ltB k0 k = true → ltB k0 f = true
  | [], k, k0, _, h, _ => by rw [pre_nil] at h; cases h
  | a :: f, [], k0, h, _, _ => by rw [pre_cons_nil] at h; cases h
  | a :: f, b :: k, [], _, _, _ => rfl
  | a :: f, b :: k, c :: k0, h1, h2, h3 => by
    rw [pre_cons] at h1 h2
    rw [lt_cons] at h3 ⊢
    simp only [Bool.and_eq_true, decide_eq_true_eq] at h1
    obtain ⟨rfl, h1⟩ := h1
    simp only [Bool.or_eq_true, Bool.and_eq_true, decide_eq_true_eq, beq_iff_eq] at h3 ⊢
    rcases h3 with h3 | ⟨rfl, h3⟩
    · exact Or.inl h3
    · simp only [decide_true, Bool.true_and] at h2
      exact Or.inr ⟨rfl, lt_front h1 h2 h3⟩
theorem tw_stop {α : Type} {p : α → Bool} : ∀ {L : List α} {y : α}, L[(L.takeWhile p).length]? = some y → p y = false
  | [], y, h => by simp at h
  | x :: L, y, h => by
    by_cases hx : p x = true
    · rw [List.takeWhile_cons, if_pos hx, List.length_cons, List.getElem?_cons_succ] at h
      exact tw_stop h
    · rw [List.takeWhile_cons, if_neg hx] at h
      simp at h
      subst h
      simpa using hx
theorem count_take {α : Type} (p : α → Bool) : ∀ {L : List α}, (∀ i (h : i < L.length), i < (L.takeWhile p).length ∨ p L[i] = false) → L.countP p = (L.takeWhile p).length
  | [], _ => rfl
  | x :: L, h => by
    rw [List.takeWhile_cons]
    by_cases hx : p x = true
    · rw [if_pos hx, List.countP_cons_of_pos hx, List.length_cons]
      congr 1
      refine count_take p fun i hi => ?_
      have := h (i + 1) (by simpa using hi)
      rw [List.takeWhile_cons, if_pos hx, List.length_cons] at this
      rcases this with h1 | h1
      · exact Or.inl (by omega)
      · exact Or.inr (by simpa using h1)
    · rw [if_neg hx, List.countP_cons_of_neg hx]
      have hz : L.countP p = 0 := by
        rw [List.countP_eq_zero]
        intro y hy
        obtain ⟨i, hi, rfl⟩ := List.getElem_of_mem hy
        have := h (i + 1) (by simpa using hi)
        rw [List.takeWhile_cons, if_neg hx] at this
        simpa using this
      rw [hz]
      rfl
def cntP (R : List PP) (f : List UInt8) (i : Nat) : Nat := (R.take i).countP fun p => preB f p.1
theorem cnt_succ {R : List PP} {f : List UInt8} {i : Nat} (h : i < R.length) : cntP R f (i + 1) = cntP R f i + (if preB f (prK R i) = true then 1 else 0) := by
  unfold cntP
  rw [List.take_succ_eq_append_getElem h, List.countP_append, prK_eq h]
  congr 1
  simp [List.countP_cons]
theorem cnt_le {R : List PP} {f : List UInt8} {i : Nat} : cntP R f i ≤ i := by
  unfold cntP
  exact Nat.le_trans List.countP_le_length (by rw [List.length_take]; omega)
/-- Those that begin with a text lie side by side. -/
theorem cnt_under {R : List PP} {f : List UInt8} (hs : StS R) : cntP R f R.length = (underL R f).length := by
  rw [under_len]
  unfold cntP underN
  rw [List.take_of_length_le (Nat.le_refl _)]
  have h0 : (R.take (findI R f)).countP (fun p => preB f p.1) = 0 := by
    rw [List.countP_eq_zero]
    intro p hp hpre
    obtain ⟨i, hi, rfl⟩ := List.getElem_of_mem hp
    rw [List.length_take] at hi
    rw [List.getElem_take] at hpre
    have h1 := findI_lt (L := R) (k := f) (i := i) (by omega)
    rw [prK_eq (by omega), pre_ge hpre] at h1
    cases h1
  conv => lhs; rw [← List.take_append_drop (findI R f) R, List.countP_append, h0, Nat.zero_add]
  refine count_take _ fun i hi => ?_
  by_cases h1 : i < ((R.drop (findI R f)).takeWhile fun p => preB f p.1).length
  · exact Or.inl h1
  · refine Or.inr ?_
    rw [List.length_drop] at hi
    have hu : underN R f ≤ i := by unfold underN; omega
    have hstop : preB f (prK R (findI R f + underN R f)) = false := by
      have h5 : (R.drop (findI R f))[underN R f]? = some R[findI R f + underN R f] := by
        rw [List.getElem?_drop, List.getElem?_eq_getElem (by omega)]
      rw [prK_eq (by omega)]
      exact tw_stop (p := fun p : PP => preB f p.1) h5
    rw [List.getElem_drop, ← prK_eq (by omega)]
    rcases Nat.eq_or_lt_of_le hu with h2 | h2
    · rw [← h2]; exact hstop
    · cases h3 : preB f (prK R (findI R f + i))
      · rfl
      · have h4 := lt_front h3 hstop (hs.at (i := findI R f + underN R f) (j := findI R f + i) (by omega) (by omega))
        rw [findI_ge hs (by omega) (by omega)] at h4
        cases h4
theorem tw_all {α : Type} {p : α → Bool} : ∀ {L : List α} {i : Nat} {y : α}, i < (L.takeWhile p).length → L[i]? = some y → p y = true
  | [], i, y, h, _ => by simp at h
  | x :: L, i, y, h, hy => by
    by_cases hx : p x = true
    · rw [List.takeWhile_cons, if_pos hx, List.length_cons] at h
      cases i with
      | zero => simp at hy; subst hy; exact hx
      | succ i => exact tw_all (L := L) (i := i) (by omega) (by simpa using hy)
    · rw [List.takeWhile_cons, if_neg hx] at h
      simp at h
theorem under_pre {R : List PP} {f : List UInt8} {q : Nat} (hq : q < (underL R f).length) : preB f (prK (underL R f) q) = true := by
  rw [under_len] at hq
  have hle := underN_le (L := R) (f := f)
  have e : prK (underL R f) q = prK R (findI R f + q) := by
    have := under_get (L := R) (f := f) hq
    unfold prG prGP at this
    simp at this
    exact this.1.symm
  rw [e, prK_eq (by omega)]
  exact tw_all (p := fun p : PP => preB f p.1) (L := R.drop (findI R f)) (i := q) hq (by rw [List.getElem?_drop, List.getElem?_eq_getElem (by omega)])
theorem under_s {R : List PP} {f : List UInt8} (hs : StS R) : StS (underL R f) := (hs.sublist (List.drop_sublist _ _)).sublist (List.take_sublist _ _)
theorem under_nil {R : List PP} : underL R [] = R := by
  have e0 : findI R [] = 0 := findI_at (Nat.zero_le _) (fun q hq => absurd hq (by omega)) (fun h => by cases prK R 0 <;> rfl)
  have e1 : underN R [] = R.length := by
    refine underN_eq (by rw [e0]; omega) (fun q _ => pre_nil) (fun h => absurd h (by rw [e0]; omega))
  unfold underL
  rw [e0, e1]
  simp
theorem rise_s {L : List PP} : StS (riseL L) := by
  unfold riseL
  have key : ∀ (L M : List PP), StS M → StS (L.foldl (fun out p => putS out p.1 p.2) M) := by
    intro L
    induction L with
    | nil => intro M h; exact h
    | cons p L ih => intro M h; exact ih _ (putS_s h)
  exact key L [] List.Pairwise.nil
theorem rise_len {L : List PP} : (riseL L).length ≤ L.length := by
  unfold riseL
  have key : ∀ (L M : List PP), (L.foldl (fun out p => putS out p.1 p.2) M).length ≤ M.length + L.length := by
    intro L
    induction L with
    | nil => intro M; exact Nat.le_refl _
    | cons p L ih =>
      intro M
      have h1 := ih (putS M p.1 p.2)
      have h2 := putS_len (L := M) (k := p.1) (v := p.2)
      simp only [List.foldl_cons, List.length_cons]
      omega
  have := key L []
  simpa using this
def AllSz (L : List PP) : Prop := ∀ p ∈ L, szB p.1 p.2 = true
theorem put_sz {L : List PP} {k v : List UInt8} (h : AllSz L) : AllSz (putS L k v) := by
  unfold putS
  split
  · rename_i hz
    unfold setL
    intro p hp
    split at hp
    · rcases List.mem_or_eq_of_mem_set hp with h1 | h1
      · exact h p h1
      · rw [h1]; exact hz
    · rcases List.mem_append.1 hp with h1 | h1
      · exact h p (List.mem_of_mem_take h1)
      · rcases List.mem_cons.1 h1 with h1 | h1
        · rw [h1]; exact hz
        · exact h p (List.mem_of_mem_drop h1)
  · exact h
theorem rise_sz {L : List PP} : AllSz (riseL L) := by
  unfold riseL
  have key : ∀ (L M : List PP), AllSz M → AllSz (L.foldl (fun out p => putS out p.1 p.2) M) := by
    intro L
    induction L with
    | nil => intro M h; exact h
    | cons p L ih => intro M h; exact ih _ (put_sz h)
  exact key L [] fun p hp => by cases hp
theorem AllSz.at {L : List PP} (h : AllSz L) {i : Nat} (hi : i < L.length) : szB (prK L i) (prV L i) = true := by
  rw [prK_eq hi, prV_eq hi]
  exact h _ (List.getElem_mem hi)
theorem szB_iff {k v : List UInt8} : szB k v = true ↔ (1 ≤ k.length ∧ k.length ≤ 160) ∧ 1 ≤ v.length ∧ v.length ≤ 64 := by simp [szB]
theorem put_snoc {R : List PP} (hs : StS R) (hz : AllSz R) {i : Nat} (hi : i < R.length) : putS (R.take i) (prK R i) (prV R i) = R.take (i + 1) := by
  have hl : (R.take i).length = i := by rw [List.length_take]; omega
  have hk : ∀ q, q < i → prK (R.take i) q = prK R q := fun q hq => by simp [prK, List.getD, List.getElem?_take_of_lt hq]
  have e : findI (R.take i) (prK R i) = i := findI_at (by omega) (fun q hq => by rw [hk q hq]; exact hs.at hq hi) (fun h => absurd h (by omega))
  have eb : findB (R.take i) (prK R i) = false := by unfold findB; rw [e, decide_eq_false (by omega)]; rfl
  unfold putS setL
  rw [if_pos (hz.at hi), if_neg (by rw [eb]; decide), e, List.take_of_length_le (by omega), List.drop_eq_nil_of_le (by omega), List.take_succ_eq_append_getElem hi, prK_eq hi, prV_eq hi]
theorem prL_zero {g : Nat → List CV} : prL 0 g = [] := rfl
def tbU : Tbl where
  T :=
    (3, ⟨1, false, [.int .i64 (0)], .int .i64, 8⟩) ::
    (4, ⟨1, false, [.ff], .bool, 1⟩) ::
    (9, ⟨1, false, [.str []], .str, 16⟩) ::
    (30, ⟨2, true, [.str [], .str []], .struct [(0, (1, false)), (1, (1, false))], 32⟩) ::
    (22, ⟨1, false, [.val (.slice none 0 0)], .slice 30, 24⟩) ::
    (33, ⟨2, true, [.str [], .str []], .struct [(0, (1, false)), (1, (1, false))], 32⟩) ::
    (31, ⟨1, false, [.val (.slice none 0 0)], .slice 33, 24⟩) ::
    (77, ⟨1, true, [.val (.slice none 0 0)], .struct [(0, (1, false))], 24⟩) ::
    (25, ⟨1, false, [.val (.pointer none)], .ptr 77, 8⟩) ::
    (27, ⟨1, false, [.int .i64 (0)], .int .i64, 8⟩) ::
    []
  F :=
    []

theorem tbU_ok : tbU.Ok Try.prog where
  T :=
    TblOk.cons (by kernel_rfl) <|
    TblOk.cons (by kernel_rfl) <|
    TblOk.cons (by kernel_rfl) <|
    TblOk.cons (by kernel_rfl) <|
    TblOk.cons (by kernel_rfl) <|
    TblOk.cons (by kernel_rfl) <|
    TblOk.cons (by kernel_rfl) <|
    TblOk.cons (by kernel_rfl) <|
    TblOk.cons (by kernel_rfl) <|
    TblOk.cons (by kernel_rfl) <|
    TblOk.nil _
  F :=
    FlatsOk.nil _

def sFirst12 : SpecF
  | [], [] => some (True, .c .tt, [])
  | _, _ => none
set_option maxRecDepth 100000 in
set_option maxHeartbeats 8000000 in
theorem first12P : Fn Try.prog 8 [] [] sFirst12 := by
  have hC : CtsOk Try.prog [(10, appFn [] [] sNewS), (11, appFn [] [] sSet), (23, appFn [] [] sGet), (24, appFn [] [] sDrop), (13, appFn [] [] sLen)] := CtsOk.cons (Fn.ct newSP) <| CtsOk.cons (Fn.ct setSP) <| CtsOk.cons (Fn.ct getSP) <| CtsOk.cons (Fn.ct dropSP) <| CtsOk.cons (Fn.ct lenSP) <| CtsOk.nil _
  refine Fn.of (E := tbU) [] 0 [] tbU_ok hC (by kernel_rfl) Try.func8 rfl rfl rfl (by kernel_rfl) (by kernel_rfl) 0 5 1 ?_ ?_
  · intro args h pre r h' hs
    unfold sFirst12 at hs
    split at hs
    · cases hs; exact ⟨rfl, rfl, Nat.le_of_ble_eq_true rfl⟩
    · cases hs
  · intro args h pre r h' hs hp
    unfold sFirst12 at hs
    split at hs
    rotate_left
    · cases hs
    cases hs
    refine ⟨[], trivial, ?_⟩
    unfold sNewS sSet sGet sDrop sLen
    generalize hg0 : (List.length : List PP → Nat) = g0
    try unfold prG
    generalize ho0 : @prK = zo0, ho1 : @prV = zo1, ho2 : @prL = zo2, ho3 : @ltB = zo3, ho4 : @findB = zo4, ho5 : @szB = zo5, ho6 : @putS = zo6, ho7 : @dropL = zo7, ho8 : @getL = zo8, ho9 : @prPre = zo9
    generalize hA : Arith.std = A
    cbv
    subst hA hg0 ho0 ho1 ho2 ho3 ho4 ho5 ho6 ho7 ho8 ho9
    have p1 : putS [] [97] [49] = [([97], [49])] := by decide
    have p2 : putS [([97], [49])] [97] [50] = [([97], [50])] := by decide
    have p3 : prL [(([97] : List UInt8), ([49] : List UInt8))].length (prG [([97], [49])]) = [([97], [49])] := prL_prG _
    have p4 : prL [(([97] : List UInt8), ([50] : List UInt8))].length (prG [([97], [50])]) = [([97], [50])] := prL_prG _
    have p5 : dropL [([97], [50])] [98] = [([97], [50])] := by decide
    have s1 : StS [([97], [49])] := List.pairwise_singleton _ _
    have s2 : StS [([97], [50])] := List.pairwise_singleton _ _
    have q1 : prPre 33 2 1 (prG [([97], [49])]) := ⟨rfl, rfl, prAt_prG _ _, by decide⟩
    have q2 : prPre 33 2 1 (prG [([97], [50])]) := ⟨rfl, rfl, prAt_prG _ _, by decide⟩
    refine Need.mk trivial fun _ => Need.mk ⟨⟨rfl, rfl, prAt_prG _ _, by decide⟩, List.Pairwise.nil, trivial⟩ fun _ => ?_
    rw [prL_zero, p1, p3, p2, p4]
    refine Need.mk ⟨q1, s1, trivial⟩ fun _ => Need.mk ⟨q2, s2⟩ fun _ => ?_
    refine Ife.mk (fun _ => ?_) (fun h => by exact absurd h (by show ¬ decide ((if szB [97] [49] = true then (0 : Int) else 1) = 0) = false; decide))
    refine Ife.mk (fun _ => ?_) (fun h => by exact absurd h (by show ¬ decide ((if szB [97] [50] = true then (0 : Int) else 1) = 0) = false; decide))
    refine Need.mk ⟨q2, by rw [p4]; exact s2⟩ fun _ => ?_
    refine Ife.mk (fun _ => ?_) (fun h => by exact absurd h (by rw [p4]; show ¬ (!findB [([97], [50])] [98]) = false; decide))
    refine Need.mk (by rw [p4, p5]; exact q2) fun _ => ?_
    refine Ife.mk (fun _ => ?_) (fun h => by exact absurd h (by rw [p4, p5]; show ¬ decide ((1 : Int) = 1) = false; decide))
    refine Ife.mk (fun _ => ?_) (fun h => by exact absurd h (by show ¬ decide (getL [([97], [50])] [97] = [50]) = false; decide))
    rw [show findB [([97], [50])] [97] = true by decide]
    exact ⟨[], ⟨rfl, (by repeat' (first | exact trivial | exact rfl | apply And.intro | exact (fun _ _ _ _ => Cell.le_refl _) | (intro i hi; rfl) | (intro i hi; exact absurd hi (Nat.not_lt_zero _)))), (by show List.Nodup []; exact List.nodup_nil), rfl, by repeat' (first | exact trivial | exact rfl | apply And.intro | exact (fun _ _ _ _ => Cell.le_refl _) | (intro i hi; rfl) | (intro i hi; exact absurd hi (Nat.not_lt_zero _)))⟩⟩

end Go.Proofs.Ythomoliklfmnkaa.Vx
end
