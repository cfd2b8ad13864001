/- liglaw28.first, by the walker. -/
import Derived.Test.YthomoliklfmnkaaM30
import Derived.Test.YthomoliklfmnkaaM29
import Derived.Test.YthomoliklfmnkaaM27
import Derived.Test.YthomoliklfmnkaaM28
import Derived.Test.YthomoliklfmnkaaM26
section
namespace Go.Proofs.Ythomoliklfmnkaa.Vx
open Go.RowKit
set_option linter.unusedVariables false
set_option linter.unusedSimpArgs false
def upMP (zp0 : type_of% @noRt) (h : Int) : PMsg := ⟨1, h, 0, zp0, noPkt, [], 0, 0, 0, [], 0, []⟩
@[reducible] def upM := upMP noRt
theorem upM_ok {h : Int} : MsgOk (upM h) := by
  obtain ⟨⟨a1, a2, a3, a4⟩, b, c, d, e⟩ := zeroMsg_ok
  exact ⟨⟨a1, a2, a3, a4⟩, b, c, d, e⟩
theorem upM_may {h : Int} (h1 : 1 ≤ h) (h2 : h ≤ 1099511627776) : mayM (upM h) = true := by
  unfold mayM
  have e : plainM (upM h) = upM h := by unfold plainM; rfl
  rw [e]
  have e2 : sameM (upM h) (upM h) = true := decide_eq_true rfl
  rw [e2]
  have e3 : between h 1 1099511627776 = true := by unfold between; simp [h1, h2]
  show (between 1 1 5 && (true && (between h 1 1099511627776 && between 0 0 1099511627776))) = true
  rw [e3]
  rfl
theorem fits_up {L : List PMsg} (h : ∀ m ∈ L, ∃ x : Int, m = upM x ∧ 1 ≤ x ∧ x ≤ 1099511627776) (hl : L.length ≤ 2) : fitsM 1048576 1048576 2 L = true := by
  have hm : ∀ m ∈ L, mayM m = true ∧ MsgOk m := fun m hm => by
    obtain ⟨x, rfl, h1, h2⟩ := h m hm
    exact ⟨upM_may h1 h2, upM_ok⟩
  have ht := total_rng (L := L) fun m hx => (hm m hx).2
  have hb : (txB L).length ≤ 200000 := by
    unfold txB
    have a := Leb.put_len_le (L.length : Int)
    have b := flatE_le (E := fun m => textB (msgB m)) (c := 90000) (p := L) fun m hx => by
      have v := msgB_small (mayM_V (hm m hx).1 (hm m hx).2)
      have t := textB_len (msgB m)
      show (textB (msgB m)).length ≤ 90000
      omega
    rw [List.length_append]
    omega
  exact fits_of (List.all_eq_true.2 fun m hx => (hm m hx).1) ⟨by omega, by omega⟩ ⟨by omega, by omega⟩ (by omega)
theorem fits_three {a b c : PMsg} : fitsM 1048576 1048576 2 [a, b, c] = false := fits_len (by simp)
theorem first_sk : skOf 1048576 1048576 2 [upM 1] [upM 2, upM 2, upM 2] [] = ⟨[], [], [0, 1, 2]⟩ := by
  have hF : ∀ i, i < 3 → fitsWith 1048576 1048576 2 [upM 1] [upM 2, upM 2, upM 2] i = true := fun i hi => by
    refine fits_up (fun m hm => ?_) (by simp)
    have hg : gM [upM 2, upM 2, upM 2] i = upM 2 := by
      rcases (by omega : i = 0 ∨ i = 1 ∨ i = 2) with rfl | rfl | rfl <;> rfl
    rw [hg] at hm
    simp at hm
    rcases hm with rfl | rfl
    · exact ⟨1, rfl, by omega, by omega⟩
    · exact ⟨2, rfl, by omega, by omega⟩
  have hG : ∀ i, groupOf 3 [] i = 0 := fun i => rfl
  have st : ∀ (i : Nat) (s : Sk), i < 3 → skStep (fitsWith 1048576 1048576 2 [upM 1] [upM 2, upM 2, upM 2]) (groupOf 3 []) s i = ⟨s.lg, s.lost, s.rest ++ [(i : Int)]⟩ := fun i s hi => by
    unfold skStep skOut
    rw [hF i hi, hG i]
    simp
  show skip _ _ 3 = _
  show skip (fitsWith 1048576 1048576 2 [upM 1] [upM 2, upM 2, upM 2]) (groupOf 3 []) 3 = _
  rw [skip_succ, st 2 _ (by omega), skip_succ, st 1 _ (by omega), skip_succ, st 0 _ (by omega)]
  rfl
theorem first_cut : cutT 1048576 1048576 2 [upM 1] [upM 2, upM 2, upM 2] [] = [[0], [1, 2]] := by
  unfold cutT
  rw [first_sk]
  have p0 : placeM [upM 2, upM 2, upM 2] 0 = upM 2 := rfl
  have p1 : placeM [upM 2, upM 2, upM 2] 1 = upM 2 := rfl
  have p2 : placeM [upM 2, upM 2, upM 2] 2 = upM 2 := rfl
  have f2 : fitsM 1048576 1048576 2 [upM 2, upM 2] = true := fits_up (fun m hm => ⟨2, by simp at hm; exact hm, by omega, by omega⟩) (by simp)
  simp [rgo, p0, p1, p2, fits_three, f2]
theorem lit_get {L : List PMsg} {ls : List Cell} {n : Nat} (hn : L.length = n) (h : ls = L.flatMap (msgCl false)) : IsMs n (fun i j => ls.getD (0 + i * 50 + j) (.pl .tt)) L := by
  subst h
  refine ⟨hn, fun i j hi hj => ?_⟩
  have key : ∀ (L : List PMsg) (i : Nat), i < L.length → ((L.flatMap (msgCl false)).getD (0 + i * 50 + j) (.pl .tt)) = (msgCl false (gM L i)).getD j (.pl .tt) := by
    intro L
    induction L with
    | nil => intro i hi; simp at hi
    | cons m L ih =>
      intro i hi
      have hl : (msgCl false m).length = 50 := rfl
      rw [List.flatMap_cons]
      cases i with
      | zero =>
        rw [List.getD_eq_getElem?_getD, List.getD_eq_getElem?_getD, List.getElem?_append_left (by omega)]
        congr 2
        omega
      | succ i =>
        have := ih i (by simpa using hi)
        rw [List.getD_eq_getElem?_getD, List.getElem?_append_right (by omega), hl, show 0 + (i + 1) * 50 + j - 50 = 0 + i * 50 + j by omega, ← List.getD_eq_getElem?_getD, this]
        rfl
  have e := key L i (by omega)
  show (Cell.old ((L.flatMap (msgCl false)).getD (0 + i * 50 + j) (.pl .tt))) = _
  rw [e]
  exact msgG_old (fr := false) (L := L) (i := i) (j := j)
def sFirst28 : SpecF
  | [], [] => some (True, .c .tt, [])
  | _, _ => none
set_option maxRecDepth 100000 in
set_option maxHeartbeats 8000000 in
theorem first28P : Fn Try.prog 14 [] [] sFirst28 := by
  have hC : CtsOk Try.prog [(16, appFn [] [(60, 250), (60, 250), (3, 1)] sCut), (19, appFn [] [(3, 1), (3, 1)] sEqI)] := CtsOk.cons (Fn.ct cutP) <| CtsOk.cons (Fn.ct eqIP) <| CtsOk.nil _
  refine Fn.ofR (E := tbB) tbB_ok Try.func14 rfl rfl rfl (by kernel_rfl) 0 5 1 ?_ ?_
  · intro args h pre r h' hs
    unfold sFirst28 at hs
    split at hs
    · cases hs; exact ⟨rfl, rfl, Nat.le_of_ble_eq_true rfl⟩
    · cases hs
  · intro args h pre r h' hs hp
    unfold sFirst28 at hs
    split at hs
    rotate_left
    · cases hs
    cases hs
    refine ⟨[], trivial, ?_⟩
    refine Runs.cutT ⟨[] ++ List.replicate 42 .any, []⟩ ?_ ?_
    · refine exec_ok (N := env (lft Try.prog 0) 0 .std tbB [(16, appFn [] [(60, 250), (60, 250), (3, 1)] sCut), (19, appFn [] [(3, 1), (3, 1)] sEqI)] []) rfl tbB_ok hC (fun c st K _ h => h) (by kernel_rfl) [] _ _ _ (by kernel_rfl) ?_
      generalize hL : lft Try.prog _ = L
      try unfold leafG
      try unfold msgCl
      try unfold msgC
      try unfold inG
      try unfold upM
      generalize ho0 : @lK = zo0, ho1 : @lV = zo1, ho2 : @lI = zo2, ho3 : @lP = zo3, ho4 : @lN = zo4, ho5 : @pG = zo5, ho6 : @rN = zo6, ho7 : @lenL = zo7, ho8 : @noRt = zo8, ho9 : @msgsL = zo9, ho10 : @msgsPre = zo10, ho11 : @skPre = zo11, ho12 : @inPre = zo12, ho13 : @skOf = zo13, ho14 : @cutT = zo14, ho15 : @oneM = zo15
      generalize hA : Arith.std = A
      cbv
      subst hA hL ho0 ho1 ho2 ho3 ho4 ho5 ho6 ho7 ho8 ho9 ho10 ho11 ho12 ho13 ho14 ho15
      try simp only [← mpGet.eq_def, ← mpSet.eq_def]
      exact StT.ofL (σ := []) ⟨rfl, by show List.Nodup []; exact List.nodup_nil, by repeat' (first | exact trivial | exact rfl | apply And.intro | exact (fun _ _ _ _ => Cell.le_refl _) | (intro i hi; rfl) | (intro i hi; exact absurd hi (Nat.not_lt_zero _))), by repeat' (first | exact trivial | exact rfl | apply And.intro | exact (fun _ _ _ _ => Cell.le_refl _) | (intro i hi; rfl) | (intro i hi; exact absurd hi (Nat.not_lt_zero _)))⟩
    refine Runs.cutT ⟨[.any, .c (.sl 0 0 1 1)] ++ List.replicate 40 .any, [.cells 60 (msgC (upM 1) (.row 1) (.row 2)), .data false 118 4 0 (leafG false []), .data false 118 4 0 (leafG false [])]⟩ ?_ ?_
    · refine exec_ok (N := env (lft Try.prog 0) 0 .std tbB [(16, appFn [] [(60, 250), (60, 250), (3, 1)] sCut), (19, appFn [] [(3, 1), (3, 1)] sEqI)] []) rfl tbB_ok hC (fun c st K _ h => h) (by kernel_rfl) [] _ _ _ (by kernel_rfl) ?_
      generalize hL : lft Try.prog _ = L
      try unfold leafG
      try unfold msgCl
      try unfold msgC
      try unfold inG
      try unfold upM
      generalize ho0 : @lK = zo0, ho1 : @lV = zo1, ho2 : @lI = zo2, ho3 : @lP = zo3, ho4 : @lN = zo4, ho5 : @pG = zo5, ho6 : @rN = zo6, ho7 : @lenL = zo7, ho8 : @noRt = zo8, ho9 : @msgsL = zo9, ho10 : @msgsPre = zo10, ho11 : @skPre = zo11, ho12 : @inPre = zo12, ho13 : @skOf = zo13, ho14 : @cutT = zo14, ho15 : @oneM = zo15
      generalize hA : Arith.std = A
      cbv
      subst hA hL ho0 ho1 ho2 ho3 ho4 ho5 ho6 ho7 ho8 ho9 ho10 ho11 ho12 ho13 ho14 ho15
      try simp only [← mpGet.eq_def, ← mpSet.eq_def]
      exact StT.trans (StT.nilCell 0 47 (.data false 118 4 0 (leafG false [])) rfl rfl rfl) (StT.trans (StT.nilCell 0 49 (.data false 118 4 0 (leafG false [])) rfl rfl rfl) (StT.ofL (σ := [0, 1, 2]) ⟨rfl, by show List.Nodup [0]; decide, by repeat' (first | exact trivial | exact rfl | apply And.intro | exact (fun _ _ _ _ => Cell.le_refl _) | (intro i hi; rfl) | (intro i hi; exact absurd hi (Nat.not_lt_zero _))), by repeat' (first | exact trivial | exact rfl | apply And.intro | exact (fun _ _ _ _ => Cell.le_refl _) | (intro i hi; rfl) | (intro i hi; exact absurd hi (Nat.not_lt_zero _)))⟩))
    refine Runs.cutT ⟨[.any, .c (.sl 0 0 1 1), .c (.ptr 3 0)] ++ List.replicate 39 .any, [.cells 60 (msgC (upM 1) (.row 1) (.row 2)), .data false 118 4 0 (leafG false []), .data false 118 4 0 (leafG false []), .cells 60 (msgC (upM 2) (.row 4) (.row 5)), .data false 118 4 0 (leafG false []), .data false 118 4 0 (leafG false [])]⟩ ?_ ?_
    · refine exec_ok (N := env (lft Try.prog 0) 0 .std tbB [(16, appFn [] [(60, 250), (60, 250), (3, 1)] sCut), (19, appFn [] [(3, 1), (3, 1)] sEqI)] []) rfl tbB_ok hC (fun c st K _ h => h) (by kernel_rfl) [] _ _ _ (by kernel_rfl) ?_
      generalize hL : lft Try.prog _ = L
      try unfold leafG
      try unfold msgCl
      try unfold msgC
      try unfold inG
      try unfold upM
      generalize ho0 : @lK = zo0, ho1 : @lV = zo1, ho2 : @lI = zo2, ho3 : @lP = zo3, ho4 : @lN = zo4, ho5 : @pG = zo5, ho6 : @rN = zo6, ho7 : @lenL = zo7, ho8 : @noRt = zo8, ho9 : @msgsL = zo9, ho10 : @msgsPre = zo10, ho11 : @skPre = zo11, ho12 : @inPre = zo12, ho13 : @skOf = zo13, ho14 : @cutT = zo14, ho15 : @oneM = zo15
      generalize hA : Arith.std = A
      cbv
      subst hA hL ho0 ho1 ho2 ho3 ho4 ho5 ho6 ho7 ho8 ho9 ho10 ho11 ho12 ho13 ho14 ho15
      try simp only [← mpGet.eq_def, ← mpSet.eq_def]
      exact StT.trans (StT.nilCell 3 47 (.data false 118 4 0 (leafG false [])) rfl rfl rfl) (StT.trans (StT.nilCell 3 49 (.data false 118 4 0 (leafG false [])) rfl rfl rfl) (StT.ofL (σ := [0, 1, 2, 3, 4, 5]) ⟨rfl, by show List.Nodup [0, 3]; decide, by repeat' (first | exact trivial | exact rfl | apply And.intro | exact (fun _ _ _ _ => Cell.le_refl _) | (intro i hi; rfl) | (intro i hi; exact absurd hi (Nat.not_lt_zero _))), by repeat' (first | exact trivial | exact rfl | apply And.intro | exact (fun _ _ _ _ => Cell.le_refl _) | (intro i hi; rfl) | (intro i hi; exact absurd hi (Nat.not_lt_zero _)))⟩))
    refine Runs.cutT ⟨[.any, .any, .any, .c (.row 0), .c (.row 1)] ++ List.replicate 37 .any, [.data true 39 1 2 (txG [[0], [1, 2]]), .row 3 1 0 (inG [])]⟩ ?_ ?_
    · refine exec_ok (N := env (lft Try.prog 0) 0 .std tbB [(16, appFn [] [(60, 250), (60, 250), (3, 1)] sCut), (19, appFn [] [(3, 1), (3, 1)] sEqI)] []) rfl tbB_ok hC (fun c st K _ h => h) (by kernel_rfl) [] _ _ _ (by kernel_rfl) ?_
      unfold sCut
      generalize hL : lft Try.prog _ = L
      try unfold leafG
      try unfold msgCl
      try unfold msgC
      try unfold inG
      try unfold upM
      generalize ho0 : @lK = zo0, ho1 : @lV = zo1, ho2 : @lI = zo2, ho3 : @lP = zo3, ho4 : @lN = zo4, ho5 : @pG = zo5, ho6 : @rN = zo6, ho7 : @lenL = zo7, ho8 : @noRt = zo8, ho9 : @msgsL = zo9, ho10 : @msgsPre = zo10, ho11 : @skPre = zo11, ho12 : @inPre = zo12, ho13 : @skOf = zo13, ho14 : @cutT = zo14, ho15 : @oneM = zo15
      generalize hA : Arith.std = A
      cbv
      subst hA hL ho0 ho1 ho2 ho3 ho4 ho5 ho6 ho7 ho8 ho9 ho10 ho11 ho12 ho13 ho14 ho15
      try simp only [← mpGet.eq_def, ← mpSet.eq_def]
      have okU : ∀ m ∈ [upM 1], MsgOk m := fun m hm => by rw [List.mem_singleton.1 hm]; exact upM_ok
      have okM : ∀ m ∈ [upM 2, upM 2, upM 2], MsgOk m := fun m hm => by simp at hm; rw [hm]; exact upM_ok
      refine Need.mk ⟨(IsMs.pre (lit_get (L := [upM 1]) (n := 1) rfl rfl) okU (by omega)).1, (IsMs.pre (lit_get (L := [upM 2, upM 2, upM 2]) (n := 3) rfl rfl) okM (by omega)).1, ⟨rfl, rfl, fun i hi => absurd hi (Nat.not_lt_zero _), by decide⟩, by show 1 ≤ 70 ∧ 3 ≤ 70; omega⟩ fun _ => ?_
      have e1 := (IsMs.pre (lit_get (L := [upM 1]) (n := 1) (ls := msgCl false (upM 1)) rfl rfl) okU (by omega)).2
      have e2 := (IsMs.pre (lit_get (L := [upM 2, upM 2, upM 2]) (n := 3) (ls := msgCl false (upM 2) ++ (msgCl false (upM 2) ++ msgCl false (upM 2))) rfl rfl) okM (by omega)).2
      generalize hC1 : cutT _ _ _ _ _ _ = CT
      generalize hS1 : skOf _ _ _ _ _ _ = S1
      have q1 : CT = [[0], [1, 2]] := by
        refine hC1.symm.trans (Eq.trans ?_ first_cut)
        exact congr (congr (congrArg (cutT 1048576 1048576 2) (congrArg oneM e1)) e2) rfl
      have q2 : S1 = ⟨[], [], [0, 1, 2]⟩ := by
        refine hS1.symm.trans (Eq.trans ?_ first_sk)
        exact congr (congr (congrArg (skOf 1048576 1048576 2) (congrArg oneM e1)) e2) rfl
      subst q1 q2
      exact StT.ofL (σ := [10, 11]) ⟨rfl, by show List.Nodup [11]; decide, by repeat' (first | exact trivial | exact rfl | apply And.intro | exact (fun _ _ _ _ => Cell.le_refl _) | (intro i hi; rfl) | (intro i hi; exact absurd hi (Nat.not_lt_zero _))), by repeat' (first | exact trivial | exact rfl | apply And.intro | exact (fun _ _ _ _ => Cell.le_refl _) | (intro i hi; rfl) | (intro i hi; exact absurd hi (Nat.not_lt_zero _)))⟩
    refine exec_ok (N := env (lft Try.prog 0) 0 .std tbB [(16, appFn [] [(60, 250), (60, 250), (3, 1)] sCut), (19, appFn [] [(3, 1), (3, 1)] sEqI)] []) rfl tbB_ok hC (fun c st K _ h => h) (by kernel_rfl) [] _ _ _ (by kernel_rfl) ?_
    unfold sEqI
    generalize hL : lft Try.prog _ = L
    try unfold leafG
    try unfold msgCl
    try unfold msgC
    try unfold inG
    try unfold upM
    generalize ho0 : @lK = zo0, ho1 : @lV = zo1, ho2 : @lI = zo2, ho3 : @lP = zo3, ho4 : @lN = zo4, ho5 : @pG = zo5, ho6 : @rN = zo6, ho7 : @lenL = zo7, ho8 : @noRt = zo8, ho9 : @msgsL = zo9, ho10 : @msgsPre = zo10, ho11 : @skPre = zo11, ho12 : @inPre = zo12, ho13 : @skOf = zo13, ho14 : @cutT = zo14, ho15 : @oneM = zo15
    generalize hA : Arith.std = A
    cbv
    subst hA hL ho0 ho1 ho2 ho3 ho4 ho5 ho6 ho7 ho8 ho9 ho10 ho11 ho12 ho13 ho14 ho15
    try simp only [← mpGet.eq_def, ← mpSet.eq_def]
    refine Ife.yes (show decide (((2 : Nat) : Int) = 2) = true by decide) ?_
    refine Ife.yes (show decide (((0 : Nat) : Int) = 0) = true by decide) ?_
    refine Need.mk (show (0 : Int) ≤ 0 ∧ (0 : Int) < 2 by omega) fun _ => Need.mk (show 0 < 2 by omega) fun _ => ?_
    refine Need.mk ⟨⟨rfl, rfl, inAt_inG _ _, by show 1 ≤ 1000000; omega⟩, ⟨rfl, rfl, fun i hi => ⟨0, by have hi : i < 1 := hi; rcases (by omega : i = 0) with rfl; rfl⟩, by show 1 ≤ 1000000; omega⟩⟩ fun _ => ?_
    refine Ife.yes (by first | exact decide_eq_true rfl | rfl) ?_
    refine Need.mk (show (0 : Int) ≤ 1 ∧ (1 : Int) < 2 by omega) fun _ => Need.mk (show 1 < 2 by omega) fun _ => ?_
    refine Need.mk ⟨⟨rfl, rfl, inAt_inG _ _, by show 2 ≤ 1000000; omega⟩, ⟨rfl, rfl, fun i hi => ⟨(i : Int) + 1, by have hi : i < 2 := hi; rcases (by omega : i = 0 ∨ i = 1) with rfl | rfl <;> rfl⟩, by show 2 ≤ 1000000; omega⟩⟩ fun _ => ?_
    exact ⟨[], ⟨rfl, by repeat' (first | exact trivial | exact (decide_eq_true rfl) | exact (congrArg CV.bool (decide_eq_true rfl)) | exact (congrArg (fun b => SV.c (CV.bool b)) (decide_eq_true rfl)) | exact rfl | apply And.intro | exact (fun _ _ _ _ => Cell.le_refl _) | (intro i hi; rfl) | (intro i hi; exact absurd hi (Nat.not_lt_zero _))), by show List.Nodup []; exact List.nodup_nil, rfl, by repeat' (first | exact trivial | exact rfl | apply And.intro | exact (fun _ _ _ _ => Cell.le_refl _) | (intro i hi; rfl) | (intro i hi; exact absurd hi (Nat.not_lt_zero _)))⟩⟩

end Go.Proofs.Ythomoliklfmnkaa.Vx
end

section
/- The document's transactions read, by the walker. -/
namespace Go.Proofs.Ythomoliklfmnkaa.Vx
open Go.RowKit
set_option linter.unusedVariables false
set_option linter.unusedSimpArgs false

end Go.Proofs.Ythomoliklfmnkaa.Vx
end

section
/- Slices of messages that come in, opened. -/
namespace Go.Proofs.Ythomoliklfmnkaa
open Go.ChangeShapes Go.WideShapes Go.ChangeAt Go.RowKit
set_option linter.unusedVariables false
set_option linter.unusedSimpArgs false
set_option maxRecDepth 100000
section
variable {H : Type} {enc : TypeId × Value → H} {w : World} {base : Nat}
/-- Values that cells show. -/
def ShL (w : World) (D : Bool → Nat → Prop) : List Vx.Cell → List Value → Prop
  | [], [] => True
  | c :: cs, v :: vs => c.shows w D v ∧ ShL w D cs vs
  | _, _ => False
theorem ShL.app {D : Bool → Nat → Prop} : ∀ {a b : List Vx.Cell} {x y : List Value}, ShL w D a x → ShL w D b y → ShL w D (a ++ b) (x ++ y)
  | [], _, [], _, _, h => h
  | _ :: _, _, _ :: _, _, h, k => ⟨h.1, h.2.app k⟩
  | [], _, _ :: _, _, h, _ => absurd h id
  | _ :: _, _, [], _, h, _ => absurd h id
theorem ShL.pl {D : Bool → Nat → Prop} : ∀ {cs : List Vx.CV} {vs : List Value}, Vx.IsL [] cs vs → ShL w D (cs.map Vx.Cell.pl) vs
  | [], [], _ => trivial
  | c :: cs, v :: vs, h => by
    have h : c.den [] :: cs.map (Vx.CV.den []) = some v :: vs.map some := h
    exact ⟨(List.cons.inj h).1, ShL.pl (List.cons.inj h).2⟩
  | [], _ :: _, h => by cases h
  | _ :: _, [], h => by cases h
theorem ShL.get {D : Bool → Nat → Prop} : ∀ {cs : List Vx.Cell} {vs : List Value} {j : Nat}, ShL w D cs vs → j < cs.length → ∃ u, vs[j]? = some u ∧ (cs.getD j (.pl .tt)).shows w D u
  | c :: cs, v :: vs, 0, h, _ => ⟨v, rfl, h.1⟩
  | c :: cs, v :: vs, j + 1, h, hj => by
    obtain ⟨u, h1, h2⟩ := h.2.get (j := j) (by simpa using hj)
    exact ⟨u, by simpa using h1, by simpa using h2⟩
  | [], _, _, _, hj => absurd hj (by simp)
  | _ :: _, [], _, h, _ => absurd h id
theorem MsgIn.sh {l : List Value} {m : Vx.PMsg} (h : MsgIn w l m) : ShL w (fun _ b => b < w.heap.size) (Vx.msgCl false m) l := by
  rw [h.cells]
  unfold Vx.msgCl Vx.msgClP
  refine ⟨rfl, rfl, rfl, ShL.app (ShL.pl (isL_h32r h.len)) (ShL.app ?_ ⟨rfl, rfl, rfl, rfl, h.pl, rfl, h.cl, trivial⟩)⟩
  exact ShL.pl (cs := Vx.pkC m.pk) (vs := m.pk.cells.toList) rfl
theorem MsgIn.raw {l : List Value} {m : Vx.PMsg} (h : MsgIn w l m) : Vx.MsgRaw m := ⟨h.fits, h.len, h.by', h.ack, h.pok, h.cok⟩
/-- Messages that come in, as data. -/
theorem trod_Msgs {fuel : Nat} {l : List Value} {x : DataW H × List MemPlace} (hf : DataW.trod enc Try.prog w 0 (fun _ => true) true fuel 38 l = some x) :
    ∃ (v : Value) (L : List Vx.PMsg), l = [v] ∧ (Vx.Cell.ns false 60 50 L.length (Vx.msgG false L)).shows w (fun _ b => b < w.heap.size) v ∧ L.length ≤ maxLen ∧ ∀ m ∈ L, Vx.MsgRaw m := by
  obtain ⟨a, cap, xs, e, hsl, hx⟩ := trod_sl (sz := 50) (P := fun l => ∃ m, Nonempty (MsgIn w l m)) (by decide) Try.underlying38 cellsM_Msg (fun fuel l x hl => ⟨by
    obtain ⟨xs, m, _, _, hl, hlen, hff⟩ := DataW.trod_struct Try.underlying60 hl
    rw [cellsM_Msg] at hl
    exact hl, trod_Msg hl⟩) hf
  obtain ⟨f, hf⟩ : ∃ f : Nat → Vx.PMsg, ∀ i (hi : i < xs.length), Nonempty (MsgIn w xs[i] (f i)) := by
    refine ⟨fun i => if h : i < xs.length then Classical.choose (hx xs[i] (List.getElem_mem h)).2 else Vx.zeroMsg, fun i hi => ?_⟩
    dsimp only
    rw [dif_pos hi]
    exact Classical.choose_spec (hx xs[i] (List.getElem_mem hi)).2
  refine ⟨_, (List.range xs.length).map f, e, ⟨a, cap, by simp, by simpa using hsl.cap, fun h0 => ?_⟩, by simpa using hsl.max, fun y hy => ?_⟩
  rotate_left
  · obtain ⟨i, hi, rfl⟩ := List.mem_map.1 hy
    obtain ⟨k⟩ := hf i (by simpa using hi)
    exact k.raw
  obtain ⟨b, off, ha, hb, hc⟩ := hsl.lt (by simpa using h0)
  refine ⟨b, off, ha, hb, fun i j hi hj => ?_⟩
  have hi' : i < xs.length := by simpa using hi
  obtain ⟨k⟩ := hf i hi'
  have el : Vx.gM ((List.range xs.length).map f) i = f i := by simp [Vx.gM, List.getD, hi']
  obtain ⟨u, h1, h2⟩ := k.sh.get (j := j) hj
  refine ⟨u, hc i hi' j u h1, ?_⟩
  unfold Vx.msgG Vx.msgGP
  rw [el]
  exact h2
theorem open_Msgs {v : Value} {d : DataW H} {p : List MemPlace} (hv : Value.okWide Try.prog w .any base 38 v) (h : DataW.Trod enc Try.prog w 0 (fun _ => true) true 38 v d p) :
    ∃ L : List Vx.PMsg, (Vx.Cell.ns false 60 50 L.length (Vx.msgG false L)).shows w (fun _ b => b < w.heap.size) v ∧ L.length ≤ maxLen ∧ ∀ m ∈ L, Vx.MsgRaw m := by
  obtain ⟨a, n, cap, rfl, _⟩ := okWide_slice Try.underlying38 hv
  obtain ⟨fuel, hf⟩ := h
  simp only [Value.cells] at hf
  obtain ⟨v, L, e, h1, h2, h3⟩ := trod_Msgs hf
  obtain rfl : Value.slice a n cap = v := by simpa using e
  exact ⟨L, h1, h2, h3⟩
/-- Messages that came in, as an entry of a law's start. -/
theorem Vx.Rel.addMsgs {ρ : List Vx.Pl} {h : List Vx.Ent} (r : Vx.Rel w (Vx.Gs.all []) ρ h w) {L : List Vx.PMsg} {v : Value} (hs : (Vx.Cell.ns false 60 50 L.length (Vx.msgG false L)).shows w (fun _ b => b < w.heap.size) v) :
    ∃ q : Vx.Pl, q.v = v ∧ Vx.Rel w (Vx.Gs.all []) (ρ ++ [q]) (h ++ [.data false 60 50 L.length (Vx.msgG false L)]) w := by
  have old : ∀ D' : Bool → Nat → Prop, (∀ b, b < w.heap.size → D' false b) → (Vx.Cell.ns false 60 50 L.length (Vx.msgG false L)).shows w D' v := fun D' hD => by
    have e : (Vx.Cell.ns false 60 50 L.length (Vx.msgG false L)).old = .ns false 60 50 L.length (Vx.msgG false L) := by
      show Vx.Cell.ns false _ _ _ (fun i j => (Vx.msgG false L i j).old) = _
      congr 1
      funext i j
      exact Vx.msgG_old
    have := Vx.Cell.shows_old (D' := D') (fun fr b hb => ⟨hD b hb, rfl⟩) hs
    rwa [e] at this
  have hs0 := hs
  obtain ⟨a, cap, h1, h2, h3⟩ := hs0
  by_cases hn : 0 < L.length
  · obtain ⟨b, o, ha, _, _⟩ := h3 hn
    exact ⟨⟨b, v, o⟩, rfl, r.addS (en := .data false _ 50 L.length (Vx.msgG false L)) (q := ⟨b, v, o⟩) rfl ⟨a, cap, h1, h2, fun _ => ha⟩ fun _ => old _ fun b hb => Or.inl ⟨hb, by simp, trivial⟩⟩
  · exact ⟨⟨0, v, 0⟩, rfl, r.addS (en := .data false _ 50 L.length (Vx.msgG false L)) (q := ⟨0, v, 0⟩) rfl ⟨a, cap, h1, h2, fun h => absurd h hn⟩ fun _ => old _ fun b hb => Or.inl ⟨hb, by simp, trivial⟩⟩
end
end Go.Proofs.Ythomoliklfmnkaa
end

section
/- The law TxTells, by the walker. -/
namespace Go.Proofs.Ythomoliklfmnkaa.Vx
open Go.RowKit
set_option linter.unusedVariables false
set_option linter.unusedSimpArgs false
theorem lightMs_ok {L : List PMsg} (h : lightMs L = true) (hr : ∀ m ∈ L, MsgRaw m) : L.length ≤ 70 ∧ ∀ m ∈ L, MsgOk m := by
  unfold lightMs at h
  simp only [Bool.and_eq_true, decide_eq_true_iff] at h
  refine ⟨h.1, fun m hm => ?_⟩
  obtain ⟨i, hi, rfl⟩ := List.getElem_of_mem hm
  have := List.all_eq_true.1 h.2 i (List.mem_range.2 hi)
  rw [gM_eq hi] at this
  exact (hr _ hm).ok this
theorem msgs_den {w : World} {L : List PMsg} {v : Value} {ρ : List Pl} {k : Nat} {q : Pl} (hs : (Cell.ns false 60 50 L.length (msgG false L)).shows w (fun _ b => b < w.heap.size) v) (hq : q.v = v) (hk : ρ[k]? = some q := by rfl) : CV.den ρ (.row k) = some v := by
  obtain ⟨a, cap, h1, -⟩ := hs
  simp only [CV.den, hk]
  rw [hq, h1]
  rfl
theorem msgsPre0_law {L : List PMsg} (h : ∀ m ∈ L, MsgRaw m) (hl : L.length ≤ 9223372036854775807) : msgsPre0 60 50 L.length (msgG false L) := by
  have e : msgsL L.length (msgG false L) = L := msgsL_eq rfl (fun m hm => (h m hm).raw) fun _ _ _ _ => rfl
  exact ⟨rfl, rfl, fun i j _ _ => by rw [e], by rw [e]; exact h, hl⟩


end Go.Proofs.Ythomoliklfmnkaa.Vx
namespace Go.Proofs.Ythomoliklfmnkaa
open Go.RowKit
set_option linter.unusedVariables false
end Go.Proofs.Ythomoliklfmnkaa
end

section
/- The law BatchMore, by the walker. -/
namespace Go.Proofs.Ythomoliklfmnkaa.Vx
open Go.RowKit
set_option linter.unusedVariables false
set_option linter.unusedSimpArgs false
def inPre2b (ty one n : Nat) (get : Nat → List CV) : Prop := ty = 3 ∧ one = 1 ∧ InAt n get ∧ n ≤ 9223372036854775807


end Go.Proofs.Ythomoliklfmnkaa.Vx
namespace Go.Proofs.Ythomoliklfmnkaa
open Go.RowKit
set_option linter.unusedVariables false
end Go.Proofs.Ythomoliklfmnkaa
end
