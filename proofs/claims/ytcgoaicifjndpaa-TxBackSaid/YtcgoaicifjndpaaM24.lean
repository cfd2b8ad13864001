/- Messages compared, by the walker. -/
import Derived.Test.YtcgoaicifjndpaaM23
section
namespace Go.Proofs.Ytcgoaicifjndpaa.Vx
open Go.RowKit
set_option linter.unusedVariables false
set_option linter.unusedSimpArgs false
/-- Are two messages one? -/
def sameM (a b : PMsg) : Bool := decide (a = b)
theorem hrEq {p q : List Int} (h : p.length = 32) (h' : q.length = 32) : e32 (rN p) (rN q) = decide (p = q) := by
  rw [Bool.eq_iff_iff, e32_iff, decide_eq_true_iff]
  exact ⟨fun g => list_eq 0 (by omega) (j := 32) (by omega) g, fun g i _ => by rw [g]⟩
def tbS : Tbl where
  T :=
    (3, ⟨1, false, [.int .i64 (0)], .int .i64, 8⟩) ::
    (4, ⟨1, false, [.ff], .bool, 1⟩) ::
    (9, ⟨1, false, [.str []], .str, 16⟩) ::
    (140, ⟨4, true, [.str [], .str [], .int .i64 (0), .val (.slice none 0 0)], .struct [(0, (1, false)), (1, (1, false)), (2, (1, false)), (3, (1, false))], 64⟩) ::
    (70, ⟨1, false, [.val (.slice none 0 0)], .slice 140, 24⟩) ::
    (72, ⟨2, true, [.int .i64 (0), .val (.slice none 0 0)], .struct [(0, (1, false)), (1, (1, false))], 32⟩) ::
    (63, ⟨32, true, [.int .u8 (0), .int .u8 (0), .int .u8 (0), .int .u8 (0), .int .u8 (0), .int .u8 (0), .int .u8 (0), .int .u8 (0), .int .u8 (0), .int .u8 (0), .int .u8 (0), .int .u8 (0), .int .u8 (0), .int .u8 (0), .int .u8 (0), .int .u8 (0), .int .u8 (0), .int .u8 (0), .int .u8 (0), .int .u8 (0), .int .u8 (0), .int .u8 (0), .int .u8 (0), .int .u8 (0), .int .u8 (0), .int .u8 (0), .int .u8 (0), .int .u8 (0), .int .u8 (0), .int .u8 (0), .int .u8 (0), .int .u8 (0)], .array 32 5, 32⟩) ::
    (138, ⟨1, false, [.val (.slice none 0 0)], .slice 63, 24⟩) ::
    (5, ⟨1, false, [.int .u8 (0)], .int .u8, 1⟩) ::
    (74, ⟨50, true, [.int .i64 (0), .int .i64 (0), .int .i64 (0), .int .u8 (0), .int .u8 (0), .int .u8 (0), .int .u8 (0), .int .u8 (0), .int .u8 (0), .int .u8 (0), .int .u8 (0), .int .u8 (0), .int .u8 (0), .int .u8 (0), .int .u8 (0), .int .u8 (0), .int .u8 (0), .int .u8 (0), .int .u8 (0), .int .u8 (0), .int .u8 (0), .int .u8 (0), .int .u8 (0), .int .u8 (0), .int .u8 (0), .int .u8 (0), .int .u8 (0), .int .u8 (0), .int .u8 (0), .int .u8 (0), .int .u8 (0), .int .u8 (0), .int .u8 (0), .int .u8 (0), .int .u8 (0), .str [], .int .i64 (0), .str [], .int .i64 (0), .int .i64 (0), .str [], .int .i64 (0), .int .i64 (0), .str [], .int .i64 (0), .int .i64 (0), .int .i64 (0), .val (.slice none 0 0), .int .i64 (0), .val (.slice none 0 0)], .struct [(0, (1, false)), (1, (34, true)), (35, (8, true)), (43, (1, false)), (44, (1, false)), (45, (1, false)), (46, (2, true)), (48, (2, true))], 240⟩) ::
    (65, ⟨34, true, [.int .i64 (0), .int .i64 (0), .int .u8 (0), .int .u8 (0), .int .u8 (0), .int .u8 (0), .int .u8 (0), .int .u8 (0), .int .u8 (0), .int .u8 (0), .int .u8 (0), .int .u8 (0), .int .u8 (0), .int .u8 (0), .int .u8 (0), .int .u8 (0), .int .u8 (0), .int .u8 (0), .int .u8 (0), .int .u8 (0), .int .u8 (0), .int .u8 (0), .int .u8 (0), .int .u8 (0), .int .u8 (0), .int .u8 (0), .int .u8 (0), .int .u8 (0), .int .u8 (0), .int .u8 (0), .int .u8 (0), .int .u8 (0), .int .u8 (0), .int .u8 (0)], .struct [(0, (1, false)), (1, (1, false)), (2, (32, true))], 48⟩) ::
    (69, ⟨8, true, [.str [], .int .i64 (0), .str [], .int .i64 (0), .int .i64 (0), .str [], .int .i64 (0), .int .i64 (0)], .struct [(0, (2, true)), (2, (2, true)), (4, (1, false)), (5, (1, false)), (6, (1, false)), (7, (1, false))], 88⟩) ::
    (67, ⟨2, true, [.str [], .int .i64 (0)], .struct [(0, (1, false)), (1, (1, false))], 24⟩) ::
    []
  F :=
    (63, [0, 0, 0, 0, 0, 0, 0, 0, 0, 0, 0, 0, 0, 0, 0, 0, 0, 0, 0, 0, 0, 0, 0, 0, 0, 0, 0, 0, 0, 0, 0, 0]) ::
    (69, [1, 0, 1, 0, 0, 1, 0, 0]) ::
    (65, [0, 0, 0, 0, 0, 0, 0, 0, 0, 0, 0, 0, 0, 0, 0, 0, 0, 0, 0, 0, 0, 0, 0, 0, 0, 0, 0, 0, 0, 0, 0, 0, 0, 0]) ::
    []

theorem tbS_ok : tbS.Ok Try.prog where
  T :=
    TblOk.cons (by kernel_rfl) <|
    TblOk.cons (by kernel_rfl) <|
    TblOk.cons (by kernel_rfl) <|
    TblOk.cons (by kernel_rfl) <|
    TblOk.cons (by kernel_rfl) <|
    TblOk.cons (by kernel_rfl) <|
    TblOk.cons (by kernel_rfl) <|
    TblOk.cons (by kernel_rfl) <|
    TblOk.cons (by kernel_rfl) <|
    TblOk.cons (by kernel_rfl) <|
    TblOk.cons (by kernel_rfl) <|
    TblOk.cons (by kernel_rfl) <|
    TblOk.cons (by kernel_rfl) <|
    TblOk.nil _
  F :=
    FlatsOk.cons (FlatOk.of (D := .array 32 5) 6 (by decide) (by kernel_rfl) (by kernel_rfl) rfl (by kernel_rfl)) <|
    FlatsOk.cons (FlatOk.of (D := .struct (Try.prog.fieldsOf 69)) 6 (by decide) (by kernel_rfl) (by kernel_rfl) rfl (by kernel_rfl)) <|
    FlatsOk.cons (FlatOk.of (D := .struct (Try.prog.fieldsOf 65)) 6 (by decide) (by kernel_rfl) (by kernel_rfl) rfl (by kernel_rfl)) <|
    FlatsOk.nil _

theorem samePk_eq {sp sp' dp dp' da da' : List UInt8} {sc sc' dc dc' sq sq' th th' ta ta' : Int} : (decide (sp = sp') && (decide (sc = sc') && (decide (dp = dp') && (decide (dc = dc') && (decide (sq = sq') && (decide (da = da') && (decide (th = th') && (decide (ta = ta') && true)))))))) = decide ((⟨sp, sc, dp, dc, sq, da, th, ta⟩ : Pkt) = ⟨sp', sc', dp', dc', sq', da', th', ta'⟩) := by
  rw [Bool.eq_iff_iff]
  simp only [Bool.and_eq_true, decide_eq_true_iff, Pkt.mk.injEq, and_true]
def sSamePk : List SV → Option (Prop × SV)
  | [.agg [.str sp, .int .i64 sc, .str dp, .int .i64 dc, .int .i64 sq, .str da, .int .i64 th, .int .i64 ta], .agg [.str sp', .int .i64 sc', .str dp', .int .i64 dc', .int .i64 sq', .str da', .int .i64 th', .int .i64 ta']] => some (True, .c (.bool (decide ((⟨sp, sc, dp, dc, sq, da, th, ta⟩ : Pkt) = ⟨sp', sc', dp', dc', sq', da', th', ta'⟩))))
  | _ => none

set_option maxRecDepth 100000 in
set_option maxHeartbeats 2000000 in
theorem samePkP : Pure Try.prog 116 sSamePk := by
  have hC : CtsOk Try.prog [] := CtsOk.nil _
  refine Pure.of (E := tbS) (C := []) [] 0 [] tbS_ok hC (by kernel_rfl) Try.func116 rfl rfl rfl (by kernel_rfl) (by kernel_rfl) ?_ ?_
  · intro args pre r h
    unfold sSamePk at h
    split at h
    · cases h; rfl
    · cases h
  · intro args pre r h hp
    unfold sSamePk at h
    split at h
    rotate_left
    · cases h
    rename_i sp sc dp dc sq da th ta sp' sc' dp' dc' sq' da' th' ta'
    cases h
    generalize hA : Arith.std = A
    cbv
    subst hA
    exact samePk_eq

def sSameM : SpecF
  | [.agg cs, .agg ds], [.data fr ty sz n get, .data fr' ty' sz' n' get', .data gr uy tz p het, .data gr' uy' tz' p' het'] => some (msgPre cs (.row 0) (.row 1) ty sz n get ty' sz' n' get' ∧ msgPre ds (.row 2) (.row 3) uy tz p het uy' tz' p' het', .c (.bool (sameM (msgOf cs n get n' get') (msgOf ds p het p' het'))), [.dead, .dead, .dead, .dead])
  | _, _ => none

set_option maxRecDepth 100000 in
set_option maxHeartbeats 16000000 in
theorem sameMP : Fn Try.prog 63 [] [(140, 204), (140, 204), (140, 204), (140, 204)] sSameM := by
  have hC : CtsOk Try.prog [(116, appPure sSamePk), (117, appFn [] [(140, 204), (140, 204)] sSamePr)] := CtsOk.cons (Pure.ct samePkP) <| CtsOk.cons (Fn.ct samePrP) <| CtsOk.nil _
  refine Fn.of (E := tbS) [] 0 [] tbS_ok hC (by kernel_rfl) Try.func63 rfl rfl rfl (by kernel_rfl) (by kernel_rfl) 4 5 1 ?_ ?_
  · intro args h pre r h' hs
    unfold sSameM at hs
    split at hs
    · cases hs; exact ⟨rfl, rfl, Nat.le_of_ble_eq_true rfl⟩
    · cases hs
  · intro args h pre r h' hs hp
    unfold sSameM at hs
    split at hs
    rotate_left
    · cases hs
    rename_i cs ds fr ty sz n get fr' ty' sz' n' get' gr uy tz p het gr' uy' tz' p' het'
    cases hs
    obtain ⟨⟨hcsA, ⟨rfl, rfl, hst, hok, hm⟩, ⟨rfl, rfl, hst', hok', hm'⟩, hfitA⟩, ⟨hcsB, ⟨rfl, rfl, ist, iok, im⟩, ⟨rfl, rfl, ist', iok', im'⟩, hfitB⟩⟩ := hp
    refine ⟨[.data fr 140 4 n (leafG false (leafL n get)), .data fr' 140 4 n' (leafG false (leafL n' get')), .data gr 140 4 p (leafG false (leafL p het)), .data gr' 140 4 p' (leafG false (leafL p' het'))], ⟨⟨rfl, rfl, rfl, rfl, fun i j hi hj => by rw [hst i j hi hj]; exact Cell.le_refl _⟩, ⟨rfl, rfl, rfl, rfl, fun i j hi hj => by rw [hst' i j hi hj]; exact Cell.le_refl _⟩, ⟨rfl, rfl, rfl, rfl, fun i j hi hj => by rw [ist i j hi hj]; exact Cell.le_refl _⟩, ⟨rfl, rfl, rfl, rfl, fun i j hi hj => by rw [ist' i j hi hj]; exact Cell.le_refl _⟩, trivial⟩, ?_⟩
    clear hst hst' ist ist'
    have hLA : (leafL n get).length = n := leafL_len
    have hKA : (leafL n' get').length = n' := leafL_len
    have e1 : (msgOf cs n get n' get').pl = leafL n get := rfl
    have e2 : (msgOf cs n get n' get').cl = leafL n' get' := rfl
    generalize msgOf cs n get n' get' = m at *
    subst hcsA
    obtain ⟨k, hh, ht, hr, ⟨sp, sc, dp, dc, sq, da, th, ta⟩, ack, nx, hg, pc, pl, cc, cl⟩ := m
    replace e1 : pl = leafL n get := e1
    replace e2 : cl = leafL n' get' := e2
    subst e1 e2
    generalize leafL n get = pl at *
    generalize leafL n' get' = cl at *
    obtain ⟨-, -, hrlA, -⟩ := hfitA
    replace hrlA : hr.length = 32 := hrlA
    have hLB : (leafL p het).length = p := leafL_len
    have hKB : (leafL p' het').length = p' := leafL_len
    have e1 : (msgOf ds p het p' het').pl = leafL p het := rfl
    have e2 : (msgOf ds p het p' het').cl = leafL p' het' := rfl
    generalize msgOf ds p het p' het' = m at *
    subst hcsB
    obtain ⟨k', hh', ht', hr', ⟨sp', sc', dp', dc', sq', da', th', ta'⟩, ack', nx', hg', pc', pl', cc', cl'⟩ := m
    replace e1 : pl' = leafL p het := e1
    replace e2 : cl' = leafL p' het' := e2
    subst e1 e2
    generalize leafL p het = pl' at *
    generalize leafL p' het' = cl' at *
    obtain ⟨-, -, hrlB, -⟩ := hfitB
    replace hrlB : hr'.length = 32 := hrlB
    unfold sSamePk sSamePr
    try unfold leafG
    try unfold msgC
    generalize ho0 : @lK = zo0, ho1 : @lV = zo1, ho2 : @lI = zo2, ho3 : @lP = zo3, ho4 : @lN = zo4, ho5 : @pG = zo5, ho6 : @leafL = zo6, ho7 : @leavesPre = zo7, ho8 : @rN = zo8, ho9 : @msgPre = zo9, ho10 : @sameM = zo10
    generalize hA : Arith.std = A
    cbv
    subst hA ho0 ho1 ho2 ho3 ho4 ho5 ho6 ho7 ho8 ho9 ho10
    refine Ife.mk (fun h1 => ?_) (fun h1 => ?_)
    rotate_left
    · replace h1 : ¬ (k = k') := of_decide_eq_false (p := k = k') h1
      rw [show sameM ⟨k, hh, ht, hr, ⟨sp, sc, dp, dc, sq, da, th, ta⟩, ack, nx, hg, pc, pl, cc, cl⟩ ⟨k', hh', ht', hr', ⟨sp', sc', dp', dc', sq', da', th', ta'⟩, ack', nx', hg', pc', pl', cc', cl'⟩ = false from decide_eq_false (by
        intro e
        simp only [PMsg.mk.injEq] at e
        obtain ⟨q1, q2, q3, q4, q5, q6, q7, q8, q9, q10, q11, q12⟩ := e
        exact h1 q1)]
      exact ⟨[0, 1, 2, 3], ⟨rfl, by repeat' (first | exact trivial | exact rfl | apply And.intro | exact (fun _ _ _ _ => Cell.le_refl _) | (intro i hi; rfl) | (intro i hi; exact absurd hi (Nat.not_lt_zero _))), by decide, rfl, by repeat' (first | exact trivial | exact rfl | apply And.intro | exact (fun _ _ _ _ => Cell.le_refl _) | (intro i hi; rfl) | (intro i hi; exact absurd hi (Nat.not_lt_zero _)))⟩⟩
    replace h1 : k = k' := of_decide_eq_true (p := k = k') h1
    refine Ife.mk (fun h2 => ?_) (fun h2 => ?_)
    rotate_left
    · replace h2 : (decide (hh = hh') && (decide (ht = ht') && e32 (rN hr) (rN hr'))) = false := h2
      rw [hrEq hrlA hrlB] at h2
      rw [show sameM ⟨k, hh, ht, hr, ⟨sp, sc, dp, dc, sq, da, th, ta⟩, ack, nx, hg, pc, pl, cc, cl⟩ ⟨k', hh', ht', hr', ⟨sp', sc', dp', dc', sq', da', th', ta'⟩, ack', nx', hg', pc', pl', cc', cl'⟩ = false from decide_eq_false (by
        intro e
        simp only [PMsg.mk.injEq] at e
        obtain ⟨q1, q2, q3, q4, q5, q6, q7, q8, q9, q10, q11, q12⟩ := e
        exact by simp [q2, q3, q4] at h2)]
      exact ⟨[0, 1, 2, 3], ⟨rfl, by repeat' (first | exact trivial | exact rfl | apply And.intro | exact (fun _ _ _ _ => Cell.le_refl _) | (intro i hi; rfl) | (intro i hi; exact absurd hi (Nat.not_lt_zero _))), by decide, rfl, by repeat' (first | exact trivial | exact rfl | apply And.intro | exact (fun _ _ _ _ => Cell.le_refl _) | (intro i hi; rfl) | (intro i hi; exact absurd hi (Nat.not_lt_zero _)))⟩⟩
    replace h2 : (decide (hh = hh') && (decide (ht = ht') && e32 (rN hr) (rN hr'))) = true := h2
    rw [hrEq hrlA hrlB] at h2
    simp only [Bool.and_eq_true, decide_eq_true_iff] at h2
    obtain ⟨g1, g2, g3⟩ := h2
    refine Ife.mk (fun h3 => ?_) (fun h3 => ?_)
    rotate_left
    · replace h3 : ¬ (ack = ack') := of_decide_eq_false (p := ack = ack') h3
      rw [show sameM ⟨k, hh, ht, hr, ⟨sp, sc, dp, dc, sq, da, th, ta⟩, ack, nx, hg, pc, pl, cc, cl⟩ ⟨k', hh', ht', hr', ⟨sp', sc', dp', dc', sq', da', th', ta'⟩, ack', nx', hg', pc', pl', cc', cl'⟩ = false from decide_eq_false (by
        intro e
        simp only [PMsg.mk.injEq] at e
        obtain ⟨q1, q2, q3, q4, q5, q6, q7, q8, q9, q10, q11, q12⟩ := e
        exact h3 q6)]
      exact ⟨[0, 1, 2, 3], ⟨rfl, by repeat' (first | exact trivial | exact rfl | apply And.intro | exact (fun _ _ _ _ => Cell.le_refl _) | (intro i hi; rfl) | (intro i hi; exact absurd hi (Nat.not_lt_zero _))), by decide, rfl, by repeat' (first | exact trivial | exact rfl | apply And.intro | exact (fun _ _ _ _ => Cell.le_refl _) | (intro i hi; rfl) | (intro i hi; exact absurd hi (Nat.not_lt_zero _)))⟩⟩
    replace h3 : ack = ack' := of_decide_eq_true (p := ack = ack') h3
    refine Ife.mk (fun h4 => ?_) (fun h4 => ?_)
    rotate_left
    · replace h4 : ¬ (nx = nx') := of_decide_eq_false (p := nx = nx') h4
      rw [show sameM ⟨k, hh, ht, hr, ⟨sp, sc, dp, dc, sq, da, th, ta⟩, ack, nx, hg, pc, pl, cc, cl⟩ ⟨k', hh', ht', hr', ⟨sp', sc', dp', dc', sq', da', th', ta'⟩, ack', nx', hg', pc', pl', cc', cl'⟩ = false from decide_eq_false (by
        intro e
        simp only [PMsg.mk.injEq] at e
        obtain ⟨q1, q2, q3, q4, q5, q6, q7, q8, q9, q10, q11, q12⟩ := e
        exact h4 q7)]
      exact ⟨[0, 1, 2, 3], ⟨rfl, by repeat' (first | exact trivial | exact rfl | apply And.intro | exact (fun _ _ _ _ => Cell.le_refl _) | (intro i hi; rfl) | (intro i hi; exact absurd hi (Nat.not_lt_zero _))), by decide, rfl, by repeat' (first | exact trivial | exact rfl | apply And.intro | exact (fun _ _ _ _ => Cell.le_refl _) | (intro i hi; rfl) | (intro i hi; exact absurd hi (Nat.not_lt_zero _)))⟩⟩
    replace h4 : nx = nx' := of_decide_eq_true (p := nx = nx') h4
    refine Ife.mk (fun h5 => ?_) (fun h5 => ?_)
    rotate_left
    · replace h5 : ¬ (hg = hg') := of_decide_eq_false (p := hg = hg') h5
      rw [show sameM ⟨k, hh, ht, hr, ⟨sp, sc, dp, dc, sq, da, th, ta⟩, ack, nx, hg, pc, pl, cc, cl⟩ ⟨k', hh', ht', hr', ⟨sp', sc', dp', dc', sq', da', th', ta'⟩, ack', nx', hg', pc', pl', cc', cl'⟩ = false from decide_eq_false (by
        intro e
        simp only [PMsg.mk.injEq] at e
        obtain ⟨q1, q2, q3, q4, q5, q6, q7, q8, q9, q10, q11, q12⟩ := e
        exact h5 q8)]
      exact ⟨[0, 1, 2, 3], ⟨rfl, by repeat' (first | exact trivial | exact rfl | apply And.intro | exact (fun _ _ _ _ => Cell.le_refl _) | (intro i hi; rfl) | (intro i hi; exact absurd hi (Nat.not_lt_zero _))), by decide, rfl, by repeat' (first | exact trivial | exact rfl | apply And.intro | exact (fun _ _ _ _ => Cell.le_refl _) | (intro i hi; rfl) | (intro i hi; exact absurd hi (Nat.not_lt_zero _)))⟩⟩
    replace h5 : hg = hg' := of_decide_eq_true (p := hg = hg') h5
    refine Need.mk trivial fun _ => ?_
    refine Ife.mk (fun h6 => ?_) (fun h6 => ?_)
    rotate_left
    · replace h6 : ¬ ((⟨sp, sc, dp, dc, sq, da, th, ta⟩ : Pkt) = ⟨sp', sc', dp', dc', sq', da', th', ta'⟩) := of_decide_eq_false (p := (⟨sp, sc, dp, dc, sq, da, th, ta⟩ : Pkt) = ⟨sp', sc', dp', dc', sq', da', th', ta'⟩) h6
      rw [show sameM ⟨k, hh, ht, hr, ⟨sp, sc, dp, dc, sq, da, th, ta⟩, ack, nx, hg, pc, pl, cc, cl⟩ ⟨k', hh', ht', hr', ⟨sp', sc', dp', dc', sq', da', th', ta'⟩, ack', nx', hg', pc', pl', cc', cl'⟩ = false from decide_eq_false (by
        intro e
        simp only [PMsg.mk.injEq] at e
        obtain ⟨q1, q2, q3, q4, q5, q6, q7, q8, q9, q10, q11, q12⟩ := e
        exact h6 q5)]
      exact ⟨[0, 1, 2, 3], ⟨rfl, by repeat' (first | exact trivial | exact rfl | apply And.intro | exact (fun _ _ _ _ => Cell.le_refl _) | (intro i hi; rfl) | (intro i hi; exact absurd hi (Nat.not_lt_zero _))), by decide, rfl, by repeat' (first | exact trivial | exact rfl | apply And.intro | exact (fun _ _ _ _ => Cell.le_refl _) | (intro i hi; rfl) | (intro i hi; exact absurd hi (Nat.not_lt_zero _)))⟩⟩
    replace h6 : (⟨sp, sc, dp, dc, sq, da, th, ta⟩ : Pkt) = ⟨sp', sc', dp', dc', sq', da', th', ta'⟩ := of_decide_eq_true (p := (⟨sp, sc, dp, dc, sq, da, th, ta⟩ : Pkt) = ⟨sp', sc', dp', dc', sq', da', th', ta'⟩) h6
    refine Need.mk ⟨leavesPre_n hLA hok hm, leavesPre_n hLB iok im⟩ fun _ => ?_
    rw [leavesL_n hLA hok, leavesL_n hLB iok]
    refine Ife.mk (fun h7 => ?_) (fun h7 => ?_)
    rotate_left
    · replace h7 : (decide (pc = pc') && decide (pl = pl')) = false := h7
      rw [show sameM ⟨k, hh, ht, hr, ⟨sp, sc, dp, dc, sq, da, th, ta⟩, ack, nx, hg, pc, pl, cc, cl⟩ ⟨k', hh', ht', hr', ⟨sp', sc', dp', dc', sq', da', th', ta'⟩, ack', nx', hg', pc', pl', cc', cl'⟩ = false from decide_eq_false (by
        intro e
        simp only [PMsg.mk.injEq] at e
        obtain ⟨q1, q2, q3, q4, q5, q6, q7, q8, q9, q10, q11, q12⟩ := e
        exact by simp [q9, q10] at h7)]
      exact ⟨[0, 1, 2, 3], ⟨rfl, by repeat' (first | exact trivial | exact rfl | apply And.intro | exact (fun _ _ _ _ => Cell.le_refl _) | (intro i hi; rfl) | (intro i hi; exact absurd hi (Nat.not_lt_zero _))), by decide, rfl, by repeat' (first | exact trivial | exact rfl | apply And.intro | exact (fun _ _ _ _ => Cell.le_refl _) | (intro i hi; rfl) | (intro i hi; exact absurd hi (Nat.not_lt_zero _)))⟩⟩
    replace h7 : (decide (pc = pc') && decide (pl = pl')) = true := h7
    simp only [Bool.and_eq_true, decide_eq_true_iff] at h7
    obtain ⟨g4, g5⟩ := h7
    refine Need.mk ⟨leavesPre_n hKA hok' hm', leavesPre_n hKB iok' im'⟩ fun _ => ?_
    rw [leavesL_n hKA hok', leavesL_n hKB iok', show sameM ⟨k, hh, ht, hr, ⟨sp, sc, dp, dc, sq, da, th, ta⟩, ack, nx, hg, pc, pl, cc, cl⟩ ⟨k', hh', ht', hr', ⟨sp', sc', dp', dc', sq', da', th', ta'⟩, ack', nx', hg', pc', pl', cc', cl'⟩ = (decide (cc = cc') && decide (cl = cl')) from by
      unfold sameM
      rw [Bool.eq_iff_iff]
      simp only [Bool.and_eq_true, decide_eq_true_iff, PMsg.mk.injEq]
      exact ⟨fun e => ⟨e.2.2.2.2.2.2.2.2.2.2.1, e.2.2.2.2.2.2.2.2.2.2.2⟩, fun e => ⟨h1, g1, g2, g3, h6, h3, h4, h5, g4, g5, e.1, e.2⟩⟩]
    exact ⟨[0, 1, 2, 3], ⟨rfl, by repeat' (first | exact trivial | exact rfl | apply And.intro | exact (fun _ _ _ _ => Cell.le_refl _) | (intro i hi; rfl) | (intro i hi; exact absurd hi (Nat.not_lt_zero _))), by decide, rfl, by repeat' (first | exact trivial | exact rfl | apply And.intro | exact (fun _ _ _ _ => Cell.le_refl _) | (intro i hi; rfl) | (intro i hi; exact absurd hi (Nat.not_lt_zero _)))⟩⟩

end Go.Proofs.Ytcgoaicifjndpaa.Vx
end

section
/- Messages that may be, by the walker. -/
namespace Go.Proofs.Ytcgoaicifjndpaa.Vx
open Go.RowKit
set_option linter.unusedVariables false
set_option linter.unusedSimpArgs false
structure MsgOk (m : PMsg) : Prop where
  fit : MsgFit m
  po : ∀ x ∈ m.pl, x.ok
  co : ∀ x ∈ m.cl, x.ok
  pn : m.pl.length ≤ 1000000
  cn : m.cl.length ≤ 1000000
theorem noRt_ok : noRt.length = 32 ∧ ∀ b ∈ noRt, 0 ≤ b ∧ b < 256 := ⟨rfl, by decide⟩
theorem plain_ok {m : PMsg} (h : MsgOk m) : MsgOk (plainM m) := by
  obtain ⟨⟨h1, h2, h3, h4⟩, h5, h6, h7, h8⟩ := h
  have z : noPkt.fits := ⟨by decide, by decide, by decide⟩
  have nl : ∀ x ∈ ([] : List PLeaf), x.ok := fun x hx => absurd hx (by simp)
  have n0 : ([] : List PLeaf).length ≤ 1000000 := by decide
  have a0 : ([] : List UInt8).length ≤ 1000000000 := by decide
  unfold plainM
  split
  · exact ⟨⟨z, a0, h3, h4⟩, nl, nl, n0, n0⟩
  split
  · exact ⟨⟨h1, a0, noRt_ok.1, noRt_ok.2⟩, h5, nl, h7, n0⟩
  split
  · exact ⟨⟨h1, h2, noRt_ok.1, noRt_ok.2⟩, h5, nl, h7, n0⟩
  split
  · exact ⟨⟨h1, a0, noRt_ok.1, noRt_ok.2⟩, h5, nl, h7, n0⟩
  split
  · exact ⟨⟨h1, a0, noRt_ok.1, noRt_ok.2⟩, h5, h6, h7, h8⟩
  · exact ⟨⟨z, a0, noRt_ok.1, noRt_ok.2⟩, nl, nl, n0, n0⟩
/-- What a message is, of its cells. -/
theorem msgOf_n {m : PMsg} (h : MsgOk m) {a b : CV} {fr fr' : Bool} {n n' : Nat} (hn : m.pl.length = n) (hn' : m.cl.length = n') : msgOf (msgC m a b) n (fun i j => (leafG fr m.pl i j).old) n' (fun i j => (leafG fr' m.cl i j).old) = m :=
  msgOf_msgC h.fit.len (leavesL_n hn h.po) (leavesL_n hn' h.co)
theorem msgPre_n {m : PMsg} (h : MsgOk m) {a b : CV} {fr fr' : Bool} {n n' : Nat} (hn : m.pl.length = n) (hn' : m.cl.length = n') : msgPre (msgC m a b) a b 140 4 n (fun i j => (leafG fr m.pl i j).old) 140 4 n' (fun i j => (leafG fr' m.cl i j).old) :=
  ⟨by rw [msgOf_n h hn hn'], leavesPre_n hn h.po (hn ▸ h.pn), leavesPre_n hn' h.co (hn' ▸ h.cn), by rw [msgOf_n h hn hn']; exact h.fit⟩
def mayM (m : PMsg) : Bool := between m.kind 1 5 && (sameM m (plainM m) && (if m.kind = 1 then between m.hh 1 1099511627776 && between m.ht 0 1099511627776
  else (decide (m.kind ≠ 3) || between (m.ack.length : Int) 1 32) && (between m.next 0 1099511627777 && (between m.height 1 1099511627776 && (mayPkt m.pk && (mayL m.pc m.pl && mayL m.cc m.cl))))))
def sMayM : SpecF
  | [.agg cs], [.data fr ty sz n get, .data fr' ty' sz' n' get'] => some (msgPre cs (.row 0) (.row 1) ty sz n get ty' sz' n' get', .c (.bool (mayM (msgOf cs n get n' get'))), [.dead, .dead])
  | _, _ => none

set_option maxRecDepth 100000 in
set_option maxHeartbeats 16000000 in
theorem mayMP : Fn Try.prog 50 [] [(140, 204), (140, 204)] sMayM := by
  have hC : CtsOk Try.prog [(101, appPure sKind), (64, appFn [] [(140, 204), (140, 204)] sPlainM), (63, appFn [] [(140, 204), (140, 204), (140, 204), (140, 204)] sSameM), (102, appPure sBet), (103, appPure sMayPk), (104, appFn [] [(140, 204)] sMayPr)] := CtsOk.cons (Pure.ct kindP) <| CtsOk.cons (Fn.ct plainMP) <| CtsOk.cons (Fn.ct sameMP) <| CtsOk.cons (Pure.ct betP) <| CtsOk.cons (Pure.ct mayPkP) <| CtsOk.cons (Fn.ct mayPrP) <| CtsOk.nil _
  refine Fn.of (E := tbS) [] 0 [(1, [(0, true), (1, true), (2, false), (3, true), (4, true), (5, true), (6, true), (7, false), (8, false), (9, true), (10, true)])] tbS_ok hC (by kernel_rfl) Try.func50 rfl rfl rfl (by kernel_rfl) (by kernel_rfl) 2 5 1 ?_ ?_
  · intro args h pre r h' hs
    unfold sMayM at hs
    split at hs
    · cases hs; exact ⟨rfl, rfl, Nat.le_of_ble_eq_true rfl⟩
    · cases hs
  · intro args h pre r h' hs hp
    unfold sMayM at hs
    split at hs
    rotate_left
    · cases hs
    rename_i cs fr ty sz n get fr' ty' sz' n' get'
    cases hs
    obtain ⟨hcs, ⟨rfl, rfl, hst, hok, hm⟩, ⟨rfl, rfl, hst', hok', hm'⟩, hfit⟩ := hp
    refine ⟨[.data fr 140 4 n (leafG false (leafL n get)), .data fr' 140 4 n' (leafG false (leafL n' get'))], ⟨⟨rfl, rfl, rfl, rfl, fun i j hi hj => by rw [hst i j hi hj]; exact Cell.le_refl _⟩, ⟨rfl, rfl, rfl, rfl, fun i j hi hj => by rw [hst' i j hi hj]; exact Cell.le_refl _⟩, trivial⟩, ?_⟩
    have hL : (leafL n get).length = n := leafL_len
    have hL' : (leafL n' get').length = n' := leafL_len
    have e1 : (msgOf cs n get n' get').pl = leafL n get := rfl
    have e2 : (msgOf cs n get n' get').cl = leafL n' get' := rfl
    generalize msgOf cs n get n' get' = m at *
    subst hcs
    obtain ⟨k, hh, ht, hr, ⟨sp, sc, dp, dc, sq, da, th, ta⟩, ack, nx, hg, pc, pl, cc, cl⟩ := m
    replace e1 : pl = leafL n get := e1
    replace e2 : cl = leafL n' get' := e2
    clear hst hst'
    subst e1 e2
    generalize leafL n get = pl at *
    generalize leafL n' get' = cl at *
    have hok0 : MsgOk ⟨k, hh, ht, hr, ⟨sp, sc, dp, dc, sq, da, th, ta⟩, ack, nx, hg, pc, pl, cc, cl⟩ := ⟨hfit, hok, hok', by show pl.length ≤ _; omega, by show cl.length ≤ _; omega⟩
    obtain ⟨hpk, hack, hrl, hrb⟩ := hfit
    replace hack : ack.length ≤ 1000000000 := hack
    replace hrl : hr.length = 32 := hrl
    replace hrb : ∀ b ∈ hr, 0 ≤ b ∧ b < 256 := hrb
    unfold sKind sBet sPlainM sSameM sMayPk sMayPr
    try unfold leafG
    try unfold msgC
    generalize ho0 : @lK = zo0, ho1 : @lV = zo1, ho2 : @lI = zo2, ho3 : @lP = zo3, ho4 : @lN = zo4, ho5 : @pG = zo5, ho6 : @leafL = zo6, ho7 : @leavesPre = zo7, ho8 : @mayL = zo8, ho9 : @rN = zo9, ho10 : @plainM = zo10, ho11 : @msgPre = zo11, ho12 : @lenL = zo12, ho13 : @between = zo13, ho14 : @sameM = zo14, ho15 : @mayM = zo15, ho16 : @msgOf = zo16, ho17 : @mayPkt = zo17
    generalize hA : Arith.std = A
    cbv
    subst hA ho0 ho1 ho2 ho3 ho4 ho5 ho6 ho7 ho8 ho9 ho10 ho11 ho12 ho13 ho14 ho15 ho16 ho17
    refine Need.mk trivial fun _ => Ife.mk (fun hb => ?_) (fun hb => ?_)
    · replace hb : (!between k 1 5) = true := hb
      rw [Bool.not_eq_true'] at hb
      rw [show mayM ⟨k, hh, ht, hr, ⟨sp, sc, dp, dc, sq, da, th, ta⟩, ack, nx, hg, pc, pl, cc, cl⟩ = false from by simp [mayM, hb]]
      exact ⟨[0, 1], ⟨rfl, by repeat' (first | exact trivial | exact rfl | apply And.intro | exact (fun _ _ _ _ => Cell.le_refl _) | (intro i hi; rfl) | (intro i hi; exact absurd hi (Nat.not_lt_zero _))), by decide, rfl, by repeat' (first | exact trivial | exact rfl | apply And.intro | exact (fun _ _ _ _ => Cell.le_refl _) | (intro i hi; rfl) | (intro i hi; exact absurd hi (Nat.not_lt_zero _)))⟩⟩
    replace hb : (!between k 1 5) = false := hb
    rw [Bool.not_eq_false'] at hb
    refine Need.mk (msgPre_n (m := ⟨k, hh, ht, hr, ⟨sp, sc, dp, dc, sq, da, th, ta⟩, ack, nx, hg, pc, pl, cc, cl⟩) hok0 hL hL') fun _ => ?_
    have z := msgOf_n (m := ⟨k, hh, ht, hr, ⟨sp, sc, dp, dc, sq, da, th, ta⟩, ack, nx, hg, pc, pl, cc, cl⟩) (a := .row 0) (b := .row 1) (fr := false) (fr' := false) hok0 hL hL'
    simp only [msgC, msgCP, h32, pkC, List.cons_append, List.nil_append] at z
    rw [z]
    have hq0 := plain_ok hok0
    generalize hQ : plainM ⟨k, hh, ht, hr, ⟨sp, sc, dp, dc, sq, da, th, ta⟩, ack, nx, hg, pc, pl, cc, cl⟩ = Q at hq0 ⊢
    refine Need.mk ⟨msgPre_n (m := ⟨k, hh, ht, hr, ⟨sp, sc, dp, dc, sq, da, th, ta⟩, ack, nx, hg, pc, pl, cc, cl⟩) hok0 hL hL', msgPre_n (m := Q) hq0 rfl rfl⟩ fun _ => ?_
    have z2 := msgOf_n (m := Q) (a := .row 2) (b := .row 3) (n := lenL Q.pl) (n' := lenL Q.cl) (fr := true) (fr' := true) hq0 rfl rfl
    simp only [msgC, msgCP, h32, pkC, List.cons_append, List.nil_append] at z2
    rw [z2]
    refine Ife.mk (fun hs => ?_) (fun hs => ?_)
    · replace hs : (!sameM ⟨k, hh, ht, hr, ⟨sp, sc, dp, dc, sq, da, th, ta⟩, ack, nx, hg, pc, pl, cc, cl⟩ Q) = true := hs
      rw [Bool.not_eq_true'] at hs
      rw [show mayM ⟨k, hh, ht, hr, ⟨sp, sc, dp, dc, sq, da, th, ta⟩, ack, nx, hg, pc, pl, cc, cl⟩ = false from by unfold mayM; rw [hQ, hs, Bool.false_and, Bool.and_false]]
      exact ⟨[0, 1], ⟨rfl, by repeat' (first | exact trivial | exact rfl | apply And.intro | exact (fun _ _ _ _ => Cell.le_refl _) | (intro i hi; rfl) | (intro i hi; exact absurd hi (Nat.not_lt_zero _))), by decide, rfl, by repeat' (first | exact trivial | exact rfl | apply And.intro | exact (fun _ _ _ _ => Cell.le_refl _) | (intro i hi; rfl) | (intro i hi; exact absurd hi (Nat.not_lt_zero _)))⟩⟩
    replace hs : (!sameM ⟨k, hh, ht, hr, ⟨sp, sc, dp, dc, sq, da, th, ta⟩, ack, nx, hg, pc, pl, cc, cl⟩ Q) = false := hs
    rw [Bool.not_eq_false'] at hs
    have base : mayM ⟨k, hh, ht, hr, ⟨sp, sc, dp, dc, sq, da, th, ta⟩, ack, nx, hg, pc, pl, cc, cl⟩ = (if k = 1 then between hh 1 1099511627776 && between ht 0 1099511627776 else (decide (k ≠ 3) || between (ack.length : Int) 1 32) && (between nx 0 1099511627777 && (between hg 1 1099511627776 && (mayPkt ⟨sp, sc, dp, dc, sq, da, th, ta⟩ && (mayL pc pl && mayL cc cl))))) := by
      unfold mayM
      rw [hQ, hs]
      simp only [hb, Bool.true_and]
    rw [base]
    clear z z2 hs hQ hq0 base
    refine Ife.mk (fun h1 => ?_) (fun h1 => ?_)
    · replace h1 : k = 1 := of_decide_eq_true (p := k = 1) h1
      rw [if_pos h1]
      refine Need.mk trivial fun _ => Ife.mk (fun h => ?_) (fun h => ?_)
      · refine Need.mk trivial fun _ => ?_
        rw [h, Bool.true_and]
        exact ⟨[0, 1], ⟨rfl, by repeat' (first | exact trivial | exact rfl | apply And.intro | exact (fun _ _ _ _ => Cell.le_refl _) | (intro i hi; rfl) | (intro i hi; exact absurd hi (Nat.not_lt_zero _))), by decide, rfl, by repeat' (first | exact trivial | exact rfl | apply And.intro | exact (fun _ _ _ _ => Cell.le_refl _) | (intro i hi; rfl) | (intro i hi; exact absurd hi (Nat.not_lt_zero _)))⟩⟩
      · rw [h, Bool.false_and]
        exact ⟨[0, 1], ⟨rfl, by repeat' (first | exact trivial | exact rfl | apply And.intro | exact (fun _ _ _ _ => Cell.le_refl _) | (intro i hi; rfl) | (intro i hi; exact absurd hi (Nat.not_lt_zero _))), by decide, rfl, by repeat' (first | exact trivial | exact rfl | apply And.intro | exact (fun _ _ _ _ => Cell.le_refl _) | (intro i hi; rfl) | (intro i hi; exact absurd hi (Nat.not_lt_zero _)))⟩⟩
    replace h1 : ¬ k = 1 := of_decide_eq_false (p := k = 1) h1
    rw [if_neg h1]
    refine Ife.mk (fun h3 => ?_) (fun h3 => ?_)
    · replace h3 : k = 3 := of_decide_eq_true (p := k = 3) h3
      rw [show decide (k ≠ 3) = false from by simp [h3], Bool.false_or]
      refine Need.mk trivial fun _ => Ife.mk (fun ha => ?_) (fun ha => ?_)
      · replace ha : (!between (ack.length : Int) 1 32) = true := ha
        rw [Bool.not_eq_true'] at ha
        rw [ha, Bool.false_and]
        exact ⟨[0, 1], ⟨rfl, by repeat' (first | exact trivial | exact rfl | apply And.intro | exact (fun _ _ _ _ => Cell.le_refl _) | (intro i hi; rfl) | (intro i hi; exact absurd hi (Nat.not_lt_zero _))), by decide, rfl, by repeat' (first | exact trivial | exact rfl | apply And.intro | exact (fun _ _ _ _ => Cell.le_refl _) | (intro i hi; rfl) | (intro i hi; exact absurd hi (Nat.not_lt_zero _)))⟩⟩
      replace ha : (!between (ack.length : Int) 1 32) = false := ha
      rw [Bool.not_eq_false'] at ha
      rw [ha, Bool.true_and]
      refine Need.mk trivial fun _ => Ife.mk (fun a1 => ?_) (fun a1 => ?_)
      rotate_left
      · rw [a1, Bool.false_and]
        exact ⟨[0, 1], ⟨rfl, by repeat' (first | exact trivial | exact rfl | apply And.intro | exact (fun _ _ _ _ => Cell.le_refl _) | (intro i hi; rfl) | (intro i hi; exact absurd hi (Nat.not_lt_zero _))), by decide, rfl, by repeat' (first | exact trivial | exact rfl | apply And.intro | exact (fun _ _ _ _ => Cell.le_refl _) | (intro i hi; rfl) | (intro i hi; exact absurd hi (Nat.not_lt_zero _)))⟩⟩
      rw [a1, Bool.true_and]
      refine Need.mk trivial fun _ => Ife.mk (fun a2 => ?_) (fun a2 => ?_)
      rotate_left
      · rw [a2, Bool.false_and]
        exact ⟨[0, 1], ⟨rfl, by repeat' (first | exact trivial | exact rfl | apply And.intro | exact (fun _ _ _ _ => Cell.le_refl _) | (intro i hi; rfl) | (intro i hi; exact absurd hi (Nat.not_lt_zero _))), by decide, rfl, by repeat' (first | exact trivial | exact rfl | apply And.intro | exact (fun _ _ _ _ => Cell.le_refl _) | (intro i hi; rfl) | (intro i hi; exact absurd hi (Nat.not_lt_zero _)))⟩⟩
      rw [a2, Bool.true_and]
      refine Need.mk hpk fun _ => Ife.mk (fun a3 => ?_) (fun a3 => ?_)
      rotate_left
      · rw [a3, Bool.false_and]
        exact ⟨[0, 1], ⟨rfl, by repeat' (first | exact trivial | exact rfl | apply And.intro | exact (fun _ _ _ _ => Cell.le_refl _) | (intro i hi; rfl) | (intro i hi; exact absurd hi (Nat.not_lt_zero _))), by decide, rfl, by repeat' (first | exact trivial | exact rfl | apply And.intro | exact (fun _ _ _ _ => Cell.le_refl _) | (intro i hi; rfl) | (intro i hi; exact absurd hi (Nat.not_lt_zero _)))⟩⟩
      rw [a3, Bool.true_and]
      refine Need.mk (leavesPre_n hL hok hm) fun _ => ?_
      rw [leavesL_n hL hok]
      refine Ife.mk (fun a4 => ?_) (fun a4 => ?_)
      rotate_left
      · rw [a4, Bool.false_and]
        exact ⟨[0, 1], ⟨rfl, by repeat' (first | exact trivial | exact rfl | apply And.intro | exact (fun _ _ _ _ => Cell.le_refl _) | (intro i hi; rfl) | (intro i hi; exact absurd hi (Nat.not_lt_zero _))), by decide, rfl, by repeat' (first | exact trivial | exact rfl | apply And.intro | exact (fun _ _ _ _ => Cell.le_refl _) | (intro i hi; rfl) | (intro i hi; exact absurd hi (Nat.not_lt_zero _)))⟩⟩
      rw [a4, Bool.true_and]
      refine Need.mk (leavesPre_n hL' hok' hm') fun _ => ?_
      rw [leavesL_n hL' hok']
      exact ⟨[0, 1], ⟨rfl, by repeat' (first | exact trivial | exact rfl | apply And.intro | exact (fun _ _ _ _ => Cell.le_refl _) | (intro i hi; rfl) | (intro i hi; exact absurd hi (Nat.not_lt_zero _))), by decide, rfl, by repeat' (first | exact trivial | exact rfl | apply And.intro | exact (fun _ _ _ _ => Cell.le_refl _) | (intro i hi; rfl) | (intro i hi; exact absurd hi (Nat.not_lt_zero _)))⟩⟩
    · replace h3 : ¬ k = 3 := of_decide_eq_false (p := k = 3) h3
      rw [show decide (k ≠ 3) = true from by simp [h3], Bool.true_or, Bool.true_and]
      refine Need.mk trivial fun _ => Ife.mk (fun a1 => ?_) (fun a1 => ?_)
      rotate_left
      · rw [a1, Bool.false_and]
        exact ⟨[0, 1], ⟨rfl, by repeat' (first | exact trivial | exact rfl | apply And.intro | exact (fun _ _ _ _ => Cell.le_refl _) | (intro i hi; rfl) | (intro i hi; exact absurd hi (Nat.not_lt_zero _))), by decide, rfl, by repeat' (first | exact trivial | exact rfl | apply And.intro | exact (fun _ _ _ _ => Cell.le_refl _) | (intro i hi; rfl) | (intro i hi; exact absurd hi (Nat.not_lt_zero _)))⟩⟩
      rw [a1, Bool.true_and]
      refine Need.mk trivial fun _ => Ife.mk (fun a2 => ?_) (fun a2 => ?_)
      rotate_left
      · rw [a2, Bool.false_and]
        exact ⟨[0, 1], ⟨rfl, by repeat' (first | exact trivial | exact rfl | apply And.intro | exact (fun _ _ _ _ => Cell.le_refl _) | (intro i hi; rfl) | (intro i hi; exact absurd hi (Nat.not_lt_zero _))), by decide, rfl, by repeat' (first | exact trivial | exact rfl | apply And.intro | exact (fun _ _ _ _ => Cell.le_refl _) | (intro i hi; rfl) | (intro i hi; exact absurd hi (Nat.not_lt_zero _)))⟩⟩
      rw [a2, Bool.true_and]
      refine Need.mk hpk fun _ => Ife.mk (fun a3 => ?_) (fun a3 => ?_)
      rotate_left
      · rw [a3, Bool.false_and]
        exact ⟨[0, 1], ⟨rfl, by repeat' (first | exact trivial | exact rfl | apply And.intro | exact (fun _ _ _ _ => Cell.le_refl _) | (intro i hi; rfl) | (intro i hi; exact absurd hi (Nat.not_lt_zero _))), by decide, rfl, by repeat' (first | exact trivial | exact rfl | apply And.intro | exact (fun _ _ _ _ => Cell.le_refl _) | (intro i hi; rfl) | (intro i hi; exact absurd hi (Nat.not_lt_zero _)))⟩⟩
      rw [a3, Bool.true_and]
      refine Need.mk (leavesPre_n hL hok hm) fun _ => ?_
      rw [leavesL_n hL hok]
      refine Ife.mk (fun a4 => ?_) (fun a4 => ?_)
      rotate_left
      · rw [a4, Bool.false_and]
        exact ⟨[0, 1], ⟨rfl, by repeat' (first | exact trivial | exact rfl | apply And.intro | exact (fun _ _ _ _ => Cell.le_refl _) | (intro i hi; rfl) | (intro i hi; exact absurd hi (Nat.not_lt_zero _))), by decide, rfl, by repeat' (first | exact trivial | exact rfl | apply And.intro | exact (fun _ _ _ _ => Cell.le_refl _) | (intro i hi; rfl) | (intro i hi; exact absurd hi (Nat.not_lt_zero _)))⟩⟩
      rw [a4, Bool.true_and]
      refine Need.mk (leavesPre_n hL' hok' hm') fun _ => ?_
      rw [leavesL_n hL' hok']
      exact ⟨[0, 1], ⟨rfl, by repeat' (first | exact trivial | exact rfl | apply And.intro | exact (fun _ _ _ _ => Cell.le_refl _) | (intro i hi; rfl) | (intro i hi; exact absurd hi (Nat.not_lt_zero _))), by decide, rfl, by repeat' (first | exact trivial | exact rfl | apply And.intro | exact (fun _ _ _ _ => Cell.le_refl _) | (intro i hi; rfl) | (intro i hi; exact absurd hi (Nat.not_lt_zero _)))⟩⟩

end Go.Proofs.Ytcgoaicifjndpaa.Vx
end

section
/- The document's messages, by the walker. -/
namespace Go.Proofs.Ytcgoaicifjndpaa.Vx
open Go.RowKit
set_option linter.unusedVariables false
set_option linter.unusedSimpArgs false


end Go.Proofs.Ytcgoaicifjndpaa.Vx
end
