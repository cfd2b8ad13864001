/- The law TxBack, by the walker. -/
import Derived.Test.YtcgoaicifjndpaaM40
namespace Go.Proofs.Ytcgoaicifjndpaa.Vx
open Go.RowKit
set_option linter.unusedVariables false
set_option linter.unusedSimpArgs false
theorem txM_zero {L : List PMsg} (h : (txM L).2 = 0) : L.length ≤ 64 ∧ ∀ m ∈ L, mayM m = true := by
  unfold txM at h
  split at h
  · exact absurd h (by decide)
  · rename_i h1
    split at h
    · rename_i h2
      exact ⟨by omega, List.all_eq_true.1 h2⟩
    · exact absurd h (by decide)
theorem txM_none {L : List PMsg} (h : ¬ (txM L).2 = 0) : (txM L).1 = [] := by
  unfold txM at h ⊢
  split at h
  · rename_i h1
    rw [if_pos h1]
  · rename_i h1
    rw [if_neg h1]
    split at h
    · exact absurd rfl h
    · rename_i h2
      rw [if_neg h2]
theorem txB_small {L : List PMsg} (hn : L.length ≤ 64) (h : ∀ m ∈ L, mayM m = true ∧ MsgOk m) : (txB L).length ≤ 1048576 := by
  have a := flatE_le (E := fun m => textB (msgB m)) (c := 6510) (p := L) fun m hm => by
    have := msgB_small (mayM_V (h m hm).1 (h m hm).2)
    have := textB_len (msgB m)
    omega
  have b := Leb.put_len_le (L.length : Int)
  unfold txB
  rw [List.length_append]
  omega
theorem may_next {L : List PMsg} {j : Nat} {b E : Bool} (hb : b = (decide (L.length ≤ 64) && (List.range j).all fun i => mayM (gM L i))) (ht : b = true) (hE : mayM (gM L j) = E) : E = (decide (L.length ≤ 64) && (List.range (j + 1)).all fun i => mayM (gM L i)) := by
  rw [List.range_succ, List.all_append, ← Bool.and_assoc, ← hb, ht, ← hE]
  simp
theorem may_stop {L : List PMsg} {j : Nat} {b : Bool} (hj : j ≤ L.length) (hb : b = (decide (L.length ≤ 64) && (List.range j).all fun i => mayM (gM L i))) (hf : b = false) : ¬ (txM L).2 = 0 := by
  intro h
  obtain ⟨h1, h2⟩ := txM_zero h
  rw [hf, decide_eq_true h1, Bool.true_and] at hb
  have : ((List.range j).all fun i => mayM (gM L i)) = true := List.all_eq_true.2 fun i hi => by rw [gM_eq (by have := List.mem_range.1 hi; omega)]; exact h2 _ (List.getElem_mem _)
  rw [this] at hb
  cases hb
theorem may_end {L : List PMsg} {j : Nat} {b : Bool} (hb : b = (decide (L.length ≤ 64) && (List.range j).all fun i => mayM (gM L i))) (hj : j = L.length) : b = decide ((txM L).2 = 0) := by
  subst hj
  by_cases h : (txM L).2 = 0
  · obtain ⟨h1, h2⟩ := txM_zero h
    rw [hb, decide_eq_true h1, decide_eq_true h, Bool.true_and]
    exact List.all_eq_true.2 fun i hi => by rw [gM_eq (List.mem_range.1 hi)]; exact h2 _ (List.getElem_mem _)
  · rw [decide_eq_false h, hb]
    refine Bool.eq_false_iff.2 fun ht => h ?_
    rw [Bool.and_eq_true, decide_eq_true_iff] at ht
    rw [txM_nice ht.1 fun m hm => ?_]
    obtain ⟨i, hi, rfl⟩ := List.getElem_of_mem hm
    have := List.all_eq_true.1 ht.2 i (List.mem_range.2 hi)
    rwa [gM_eq hi] at this
/-- So many messages may be. -/
structure LMy (L : List PMsg) where
  i : Int
  j : Nat
  b : Bool
  hi : i = (j : Int)
  hj : j ≤ L.length
  hb : b = (decide (L.length ≤ 64) && (List.range j).all fun i => mayM (gM L i))
def sTxBack : SpecF
  | [.c (.row 0), .c (.str s)], [.data false ty sz n get] => some (msgsPre0 ty sz n get ∧ s.length ≤ 9223372036854775807, .c .tt, [.dead])
  | _, _ => none

set_option maxRecDepth 100000 in
set_option maxHeartbeats 32000000 in
theorem txBackP : Fn Try.prog 16 [] [(74, 250)] sTxBack := by
  have hC : CtsOk Try.prog [(60, appPure sTrue8), (44, appFn [] [(74, 250)] sLightMs), (69, appFn [] [(74, 250)] sTxM), (50, appFn [] [(140, 204), (140, 204)] sMayM), (71, appFn [] [] sUntxM), (73, appFn [] [(74, 250), (74, 250)] sSameMs)] := CtsOk.cons (Pure.ct first8P) <| CtsOk.cons (Fn.ct lightMsP) <| CtsOk.cons (Fn.ct txMP) <| CtsOk.cons (Fn.ct mayMP) <| CtsOk.cons (Fn.ct untxP) <| CtsOk.cons (Fn.ct sameMsP) <| CtsOk.nil _
  refine Fn.of (E := tbR) [] 0 [] tbR_ok hC (by kernel_rfl) Try.func16 rfl rfl rfl (by kernel_rfl) (by kernel_rfl) 1 5 1 ?_ ?_
  · intro args h pre r h' hs
    unfold sTxBack at hs
    split at hs
    · cases hs; exact ⟨rfl, rfl, Nat.le_of_ble_eq_true rfl⟩
    · cases hs
  · intro args h pre r h' hs hp
    unfold sTxBack at hs
    split at hs
    rotate_left
    · cases hs
    rename_i s ty sz n get
    cases hs
    obtain ⟨⟨rfl, rfl, hst, hraw, hm⟩, hs⟩ := hp
    have k0 := msgs0 hst hraw
    refine ⟨[.data false 74 50 n (msgG false (msgsL n get))], ⟨⟨rfl, rfl, rfl, rfl, fun i j hi hj => by rw [hst i j hi hj]; exact Cell.le_refl _⟩, trivial⟩, ?_⟩
    have hL : (msgsL n get).length = n := msgsL_len
    generalize msgsL n get = L at *
    clear hst
    have hrw := gM_all hraw zero_raw
    unfold sTrue8 sLightMs sTxM
    generalize hg0 : (List.length : List UInt8 → Nat) = g0
    generalize hL : lft Try.prog _ = L
    try unfold leafG
    try unfold msgCl
    try unfold msgG
    try unfold msgC
    generalize ho0 : @lK = zo0, ho1 : @lV = zo1, ho2 : @lI = zo2, ho3 : @lP = zo3, ho4 : @lN = zo4, ho5 : @pG = zo5, ho6 : @rN = zo6, ho7 : @msgPre = zo7, ho8 : @lenL = zo8, ho9 : @mayM = zo9, ho10 : @msgOf = zo10, ho11 : @gM = zo11, ho12 : @msgsL = zo12, ho13 : @msgsPre = zo13, ho14 : @msgsPre0 = zo14, ho15 : @lightMs = zo15, ho16 : @sameMs = zo16, ho17 : @txM = zo17, ho18 : @txB = zo18, ho19 : @untxM = zo19, ho20 : @lenM = zo20
    generalize hs0 : @sMayM = zs0, hs1 : @sUntxM = zs1, hs2 : @sSameMs = zs2
    generalize hA : Arith.std = A
    cbv
    subst hA hg0 hL ho0 ho1 ho2 ho3 ho4 ho5 ho6 ho7 ho8 ho9 ho10 ho11 ho12 ho13 ho14 ho15 ho16 ho17 ho18 ho19 ho20 hs0 hs1 hs2
    refine Need.mk trivial fun _ => ?_
    refine Need.mk (msgsPre0_n hL hraw hm) fun _ => ?_
    rw [k0]
    refine Ife.mk (fun hl => ?_) (fun hl => ?_)
    · refine Need.mk trivial fun _ => ?_
      exact ⟨[0], ⟨rfl, by repeat' (first | exact trivial | exact rfl | apply And.intro | exact (fun _ _ _ _ => Cell.le_refl _) | (intro i hi; rfl) | (intro i hi; exact absurd hi (Nat.not_lt_zero _))), by decide, rfl, by repeat' (first | exact trivial | exact rfl | apply And.intro | exact (fun _ _ _ _ => Cell.le_refl _) | (intro i hi; rfl) | (intro i hi; exact absurd hi (Nat.not_lt_zero _)))⟩⟩
    replace hl : (!lightMs L) = false := hl
    rw [Bool.not_eq_false'] at hl
    obtain ⟨hn, hok⟩ := lightMs_ok hl hraw
    have hn : n ≤ 70 := by omega
    refine Ife.mk (fun h => ?_) (fun h => ?_)
    · refine Need.mk trivial fun _ => ?_
      exact ⟨[0], ⟨rfl, by repeat' (first | exact trivial | exact rfl | apply And.intro | exact (fun _ _ _ _ => Cell.le_refl _) | (intro i hi; rfl) | (intro i hi; exact absurd hi (Nat.not_lt_zero _))), by decide, rfl, by repeat' (first | exact trivial | exact rfl | apply And.intro | exact (fun _ _ _ _ => Cell.le_refl _) | (intro i hi; rfl) | (intro i hi; exact absurd hi (Nat.not_lt_zero _)))⟩⟩
    replace h : ¬ (8000 : Int) < (s.length : Int) := of_decide_eq_false (p := (8000 : Int) < (s.length : Int)) h
    have hs' : s.length ≤ 8000 := by omega
    have pm := msgsPre_n (fr := false) hL hok (by omega : n ≤ 1000000)
    refine Need.mk pm fun _ => ?_
    show Runs Try.prog 1 (.loop _) _ _
    refine loop_ruleL (N := env (lft Try.prog 1) 0 .std tbR [(60, appPure sTrue8), (44, appFn [] [(74, 250)] sLightMs), (69, appFn [] [(74, 250)] sTxM), (50, appFn [] [(140, 204), (140, 204)] sMayM), (71, appFn [] [] sUntxM), (73, appFn [] [(74, 250), (74, 250)] sSameMs)] []) rfl tbR_ok hC (fun c st K _ h => h) (by kernel_rfl) [] (X := LMy L)
      (S := fun x => ⟨[.c (.row 0), .c (.str s), .any, .any, .any, .c (.str (txM L).1), .c (.int .i64 (txM L).2), .c (.bool x.b), .c (.int .i64 x.i)] ++ List.replicate 88 .any, [.data false 74 50 n (msgG false L)]⟩) (μ := fun x => L.length - x.j) ⟨0, 0, decide ((n : Int) ≤ 64), rfl, by omega, ?hb⟩ (by kernel_rfl) [0] ?h0 ?rd
    case h0 =>
      refine ⟨rfl, by show List.Nodup []; exact List.nodup_nil, ?_, ?_⟩ <;> repeat' (first | exact trivial | exact rfl | apply And.intro | exact (fun _ _ _ _ => Cell.le_refl _) | (intro i hi; rfl) | (intro i hi; exact absurd hi (Nat.not_lt_zero _)))
    case hb =>
      rw [hL]
      simp
      omega
    rintro ⟨i, j, b, hi, hj, hb⟩
    replace hi : i = @Nat.cast Int instNatCastInt j := hi
    subst hi
    have ho := gM_all hok zeroMsg_ok
    have hsl : s.length ≤ 9223372036854775807 := by omega
    have hU := untxM_ok s
    unfold sTrue8 sLightMs sTxM
    generalize ht0 : CV.bool b = zt0
    generalize ht1 : CV.int .i64 (txM L).2 = zt1
    generalize hg0 : (List.length : List UInt8 → Nat) = g0
    generalize hL : lft Try.prog _ = L
    try dsimp only
    try unfold leafG
    try unfold msgCl
    try unfold msgG
    try unfold msgC
    generalize ho0 : @lK = zo0, ho1 : @lV = zo1, ho2 : @lI = zo2, ho3 : @lP = zo3, ho4 : @lN = zo4, ho5 : @pG = zo5, ho6 : @rN = zo6, ho7 : @msgPre = zo7, ho8 : @lenL = zo8, ho9 : @mayM = zo9, ho10 : @msgOf = zo10, ho11 : @gM = zo11, ho12 : @msgsL = zo12, ho13 : @msgsPre = zo13, ho14 : @msgsPre0 = zo14, ho15 : @lightMs = zo15, ho16 : @sameMs = zo16, ho17 : @txM = zo17, ho18 : @txB = zo18, ho19 : @untxM = zo19, ho20 : @lenM = zo20
    generalize hs0 : @msgGP = zs0, hs1 : @sMayM = zs1, hs2 : @sUntxM = zs2, hs3 : @sSameMs = zs3
    generalize hA : Arith.std = A
    cbv
    subst hA hg0 hL ho0 ho1 ho2 ho3 ho4 ho5 ho6 ho7 ho8 ho9 ho10 ho11 ho12 ho13 ho14 ho15 ho16 ho17 ho18 ho19 ho20 hs0 hs1 hs2 hs3 ht0 ht1
    generalize ht0 : CV.int .i64 (txM L).2 = zt0
    generalize hg0 : (List.length : List UInt8 → Nat) = g0
    generalize hL : lft Try.prog _ = L
    try unfold leafG
    try unfold msgCl
    try unfold msgG
    try unfold msgC
    generalize ho0 : @lK = zo0, ho1 : @lV = zo1, ho2 : @lI = zo2, ho3 : @lP = zo3, ho4 : @lN = zo4, ho5 : @pG = zo5, ho6 : @rN = zo6, ho7 : @msgPre = zo7, ho8 : @lenL = zo8, ho9 : @mayM = zo9, ho10 : @msgOf = zo10, ho11 : @gM = zo11, ho12 : @msgsL = zo12, ho13 : @msgsPre = zo13, ho14 : @msgsPre0 = zo14, ho15 : @lightMs = zo15, ho16 : @sameMs = zo16, ho17 : @txM = zo17, ho18 : @txB = zo18, ho19 : @untxM = zo19, ho20 : @lenM = zo20
    generalize hs0 : @msgGP = zs0, hs1 : @sMayM = zs1, hs2 : @sUntxM = zs2, hs3 : @sSameMs = zs3
    generalize hA : Arith.std = A
    cbv
    subst hA hg0 hL ho0 ho1 ho2 ho3 ho4 ho5 ho6 ho7 ho8 ho9 ho10 ho11 ho12 ho13 ho14 ho15 ho16 ho17 ho18 ho19 ho20 hs0 hs1 hs2 hs3 ht0
    generalize hg0 : (List.length : List UInt8 → Nat) = g0
    generalize hL : lft Try.prog _ = L
    try unfold leafG
    try unfold msgCl
    try unfold msgG
    try unfold msgC
    generalize ho0 : @lK = zo0, ho1 : @lV = zo1, ho2 : @lI = zo2, ho3 : @lP = zo3, ho4 : @lN = zo4, ho5 : @pG = zo5, ho6 : @rN = zo6, ho7 : @msgPre = zo7, ho8 : @lenL = zo8, ho9 : @mayM = zo9, ho10 : @msgOf = zo10, ho11 : @gM = zo11, ho12 : @msgsL = zo12, ho13 : @msgsPre = zo13, ho14 : @msgsPre0 = zo14, ho15 : @lightMs = zo15, ho16 : @sameMs = zo16, ho17 : @txM = zo17, ho18 : @txB = zo18, ho19 : @untxM = zo19, ho20 : @lenM = zo20
    generalize hs0 : @msgGP = zs0, hs1 : @sMayM = zs1, hs2 : @sUntxM = zs2, hs3 : @sSameMs = zs3
    generalize hA : Arith.std = A
    cbv
    subst hA hg0 hL ho0 ho1 ho2 ho3 ho4 ho5 ho6 ho7 ho8 ho9 ho10 ho11 ho12 ho13 ho14 ho15 ho16 ho17 ho18 ho19 ho20 hs0 hs1 hs2 hs3
    generalize hg0 : (List.length : List UInt8 → Nat) = g0
    generalize hL : lft Try.prog _ = L
    try unfold leafG
    try unfold msgCl
    try unfold msgG
    try unfold msgC
    generalize ho0 : @lK = zo0, ho1 : @lV = zo1, ho2 : @lI = zo2, ho3 : @lP = zo3, ho4 : @lN = zo4, ho5 : @pG = zo5, ho6 : @rN = zo6, ho7 : @msgPre = zo7, ho8 : @lenL = zo8, ho9 : @mayM = zo9, ho10 : @msgOf = zo10, ho11 : @gM = zo11, ho12 : @msgsL = zo12, ho13 : @msgsPre = zo13, ho14 : @msgsPre0 = zo14, ho15 : @lightMs = zo15, ho16 : @sameMs = zo16, ho17 : @txM = zo17, ho18 : @txB = zo18, ho19 : @untxM = zo19, ho20 : @lenM = zo20
    generalize hs0 : @sMayM = zs0, hs1 : @sUntxM = zs1, hs2 : @sSameMs = zs2
    generalize hA : Arith.std = A
    cbv
    subst hA hg0 hL ho0 ho1 ho2 ho3 ho4 ho5 ho6 ho7 ho8 ho9 ho10 ho11 ho12 ho13 ho14 ho15 ho16 ho17 ho18 ho19 ho20 hs0 hs1 hs2
    unfold sMayM
    generalize hg0 : (List.length : List UInt8 → Nat) = g0
    generalize hL : lft Try.prog _ = L
    try unfold leafG
    try unfold msgCl
    try unfold msgG
    try unfold msgC
    generalize ho0 : @lK = zo0, ho1 : @lV = zo1, ho2 : @lI = zo2, ho3 : @lP = zo3, ho4 : @lN = zo4, ho5 : @pG = zo5, ho6 : @rN = zo6, ho7 : @msgPre = zo7, ho8 : @lenL = zo8, ho9 : @mayM = zo9, ho10 : @msgOf = zo10, ho11 : @gM = zo11, ho12 : @msgsL = zo12, ho13 : @msgsPre = zo13, ho14 : @msgsPre0 = zo14, ho15 : @lightMs = zo15, ho16 : @sameMs = zo16, ho17 : @txM = zo17, ho18 : @txB = zo18, ho19 : @untxM = zo19, ho20 : @lenM = zo20
    generalize hs0 : @sUntxM = zs0, hs1 : @sSameMs = zs1
    generalize hA : Arith.std = A
    cbv
    subst hA hg0 hL ho0 ho1 ho2 ho3 ho4 ho5 ho6 ho7 ho8 ho9 ho10 ho11 ho12 ho13 ho14 ho15 ho16 ho17 ho18 ho19 ho20 hs0 hs1
    unfold sUntxM
    generalize hg0 : (List.length : List UInt8 → Nat) = g0
    generalize hL : lft Try.prog _ = L
    try unfold leafG
    try unfold msgCl
    try unfold msgG
    try unfold msgC
    generalize ho0 : @lK = zo0, ho1 : @lV = zo1, ho2 : @lI = zo2, ho3 : @lP = zo3, ho4 : @lN = zo4, ho5 : @pG = zo5, ho6 : @rN = zo6, ho7 : @msgPre = zo7, ho8 : @lenL = zo8, ho9 : @mayM = zo9, ho10 : @msgOf = zo10, ho11 : @gM = zo11, ho12 : @msgsL = zo12, ho13 : @msgsPre = zo13, ho14 : @msgsPre0 = zo14, ho15 : @lightMs = zo15, ho16 : @sameMs = zo16, ho17 : @txM = zo17, ho18 : @txB = zo18, ho19 : @untxM = zo19, ho20 : @lenM = zo20
    generalize hs0 : @sSameMs = zs0
    generalize hA : Arith.std = A
    cbv
    subst hA hg0 hL ho0 ho1 ho2 ho3 ho4 ho5 ho6 ho7 ho8 ho9 ho10 ho11 ho12 ho13 ho14 ho15 ho16 ho17 ho18 ho19 ho20 hs0
    unfold sSameMs
    generalize hg0 : (List.length : List UInt8 → Nat) = g0
    generalize hL : lft Try.prog _ = L
    try unfold leafG
    try unfold msgCl
    try unfold msgG
    try unfold msgC
    generalize ho0 : @lK = zo0, ho1 : @lV = zo1, ho2 : @lI = zo2, ho3 : @lP = zo3, ho4 : @lN = zo4, ho5 : @pG = zo5, ho6 : @rN = zo6, ho7 : @msgPre = zo7, ho8 : @lenL = zo8, ho9 : @mayM = zo9, ho10 : @msgOf = zo10, ho11 : @gM = zo11, ho12 : @msgsL = zo12, ho13 : @msgsPre = zo13, ho14 : @msgsPre0 = zo14, ho15 : @lightMs = zo15, ho16 : @sameMs = zo16, ho17 : @txM = zo17, ho18 : @txB = zo18, ho19 : @untxM = zo19, ho20 : @lenM = zo20
    generalize hA : Arith.std = A
    cbv
    subst hA hg0 hL ho0 ho1 ho2 ho3 ho4 ho5 ho6 ho7 ho8 ho9 ho10 ho11 ho12 ho13 ho14 ho15 ho16 ho17 ho18 ho19 ho20
    refine Ife.mk (fun hlt => ?_) (fun hlt => ?_)
    · replace hlt : (j : Int) < @Nat.cast Int instNatCastInt n := of_decide_eq_true (p := (j : Int) < (n : Int)) hlt
      have hjL : j < L.length := by omega
      refine Ife.mk (fun hbt => ?_) (fun hbf => ?_)
      · have ix : 0 ≤ (j : Int) ∧ (j : Int) < (n : Int) := by omega
        have ge := msgOf_g (a := .row 0) (b := .row 1) (fr := false) (fr' := false) (ho j).raw
        refine Need.mk ix fun _ => Need.mk (show j < n by omega) fun _ => Need.mk (msgPre_n (m := gM L j) (a := .row 0) (b := .row 1) (fr := false) (fr' := false) (ho j) rfl rfl) fun _ => ?_
        generalize hE : mayM _ = E
        replace hE : mayM (gM L j) = E := (congrArg mayM ge).symm.trans hE
        refine Need.mk (by show fitStd .i64 ((j : Int) + 1); unfold fitStd; omega) fun _ => ?_
        refine ⟨⟨(j : Int) + 1, j + 1, E, by omega, by omega, may_next hb hbt hE⟩, [0], (by show L.length - (j + 1) < L.length - j; omega), ?_⟩
        refine ⟨rfl, by show List.Nodup []; exact List.nodup_nil, ?_, ?_⟩ <;> repeat' (first | exact trivial | exact rfl | apply And.intro | exact (fun _ _ _ _ => Cell.le_refl _) | (intro i hi; rfl) | (intro i hi; exact absurd hi (Nat.not_lt_zero _)))
      · have hz : ¬ (txM L).2 = 0 := may_stop hj hb hbf
        have hbf0 : b = false := hbf
        subst hbf0
        have h1 : (txM L).1 = [] := txM_none hz
        generalize txM L = T at *
        obtain ⟨T, e⟩ := T
        dsimp only at *
        subst h1
        have he : decide (e = 0) = false := decide_eq_false hz
        refine Ife.no (by show (!(decide (e = 0) == false)) = false; rw [he]; rfl) ?_
        refine Ife.yes (by show (!decide (e = 0)) = true; rw [he]; rfl) ?_
        refine Ife.no rfl ?_
        refine Ife.no he ?_
        refine Need.mk hsl fun _ => ?_
        by_cases hu : (untxM s).2 = 0
        · have one := untxM_one hu
          generalize untxM s = U at *
          obtain ⟨U, e⟩ := U
          dsimp only at *
          subst hu
          refine Ife.no rfl ?_
          have eu := msgsL_n (fr := true) (n := lenM U) rfl hU.1
          refine Need.mk (msgsPre_n (fr := true) (n := lenM U) rfl hU.1 (Nat.le_trans hU.2 (by omega))) fun _ => ?_
          rw [eu, one]
          refine Ife.yes (by first | exact decide_eq_true rfl | exact beq_self_eq_true _) ?_
          exact ⟨[0], ⟨rfl, by repeat' (first | exact trivial | exact (decide_eq_true rfl) | exact (congrArg CV.bool (decide_eq_true rfl)) | exact (congrArg (fun b => SV.c (CV.bool b)) (decide_eq_true rfl)) | exact rfl | apply And.intro | exact (fun _ _ _ _ => Cell.le_refl _) | (intro i hi; rfl) | (intro i hi; exact absurd hi (Nat.not_lt_zero _))), by decide, rfl, by repeat' (first | exact trivial | exact (decide_eq_true rfl) | exact (congrArg CV.bool (decide_eq_true rfl)) | exact (congrArg (fun b => SV.c (CV.bool b)) (decide_eq_true rfl)) | exact rfl | apply And.intro | exact (fun _ _ _ _ => Cell.le_refl _) | (intro i hi; rfl) | (intro i hi; exact absurd hi (Nat.not_lt_zero _)))⟩⟩
        · have z := untxM_zero hu
          generalize untxM s = U at *
          obtain ⟨U, e⟩ := U
          dsimp only at *
          subst z
          refine Ife.yes (by show (!decide (e = 0)) = true; rw [decide_eq_false hu]; rfl) ?_
          exact ⟨[0], ⟨rfl, by repeat' (first | exact trivial | exact (decide_eq_true rfl) | exact (congrArg CV.bool (decide_eq_true rfl)) | exact (congrArg (fun b => SV.c (CV.bool b)) (decide_eq_true rfl)) | exact rfl | apply And.intro | exact (fun _ _ _ _ => Cell.le_refl _) | (intro i hi; rfl) | (intro i hi; exact absurd hi (Nat.not_lt_zero _))), by decide, rfl, by repeat' (first | exact trivial | exact (decide_eq_true rfl) | exact (congrArg CV.bool (decide_eq_true rfl)) | exact (congrArg (fun b => SV.c (CV.bool b)) (decide_eq_true rfl)) | exact rfl | apply And.intro | exact (fun _ _ _ _ => Cell.le_refl _) | (intro i hi; rfl) | (intro i hi; exact absurd hi (Nat.not_lt_zero _)))⟩⟩
    · replace hlt : ¬ (j : Int) < @Nat.cast Int instNatCastInt n := of_decide_eq_false (p := (j : Int) < (n : Int)) hlt
      have hB := may_end hb (by omega)
      by_cases hz : (txM L).2 = 0
      · have hbt : b = true := hB.trans (decide_eq_true hz)
        obtain ⟨q1, q2⟩ := txM_zero hz
        rw [txM_nice q1 q2, untxM_back q1 fun m hm => ⟨q2 m hm, hok m hm⟩]
        have hl2 := txB_small q1 fun m hm => ⟨q2 m hm, hok m hm⟩
        subst hbt
        refine Ife.no rfl ?_
        refine Ife.no rfl ?_
        refine Ife.yes rfl ?_
        refine Need.mk (show (txB L).length ≤ 9223372036854775807 by omega) fun _ => ?_
        refine Ife.no rfl ?_
        refine Need.mk ⟨msgsPre_n (fr := true) (n := lenM L) rfl hok (by show L.length ≤ _; omega), pm⟩ fun _ => ?_
        refine Ife.no ((congrArg (fun b => !b) ((congr (congrArg sameMs (msgsL_n (fr := true) (n := lenM L) rfl hok)) k0).trans (sameMs_self L)))) ?_
        refine Need.mk hsl fun _ => ?_
        by_cases hu : (untxM s).2 = 0
        · have one := untxM_one hu
          generalize untxM s = U at *
          obtain ⟨U, e⟩ := U
          dsimp only at *
          subst hu
          refine Ife.no rfl ?_
          have eu := msgsL_n (fr := true) (n := lenM U) rfl hU.1
          refine Need.mk (msgsPre_n (fr := true) (n := lenM U) rfl hU.1 (Nat.le_trans hU.2 (by omega))) fun _ => ?_
          rw [eu, one]
          refine Ife.yes (by first | exact decide_eq_true rfl | exact beq_self_eq_true _) ?_
          exact ⟨[0], ⟨rfl, by repeat' (first | exact trivial | exact (decide_eq_true rfl) | exact (congrArg CV.bool (decide_eq_true rfl)) | exact (congrArg (fun b => SV.c (CV.bool b)) (decide_eq_true rfl)) | exact rfl | apply And.intro | exact (fun _ _ _ _ => Cell.le_refl _) | (intro i hi; rfl) | (intro i hi; exact absurd hi (Nat.not_lt_zero _))), by decide, rfl, by repeat' (first | exact trivial | exact (decide_eq_true rfl) | exact (congrArg CV.bool (decide_eq_true rfl)) | exact (congrArg (fun b => SV.c (CV.bool b)) (decide_eq_true rfl)) | exact rfl | apply And.intro | exact (fun _ _ _ _ => Cell.le_refl _) | (intro i hi; rfl) | (intro i hi; exact absurd hi (Nat.not_lt_zero _)))⟩⟩
        · have z := untxM_zero hu
          generalize untxM s = U at *
          obtain ⟨U, e⟩ := U
          dsimp only at *
          subst z
          refine Ife.yes (by show (!decide (e = 0)) = true; rw [decide_eq_false hu]; rfl) ?_
          exact ⟨[0], ⟨rfl, by repeat' (first | exact trivial | exact (decide_eq_true rfl) | exact (congrArg CV.bool (decide_eq_true rfl)) | exact (congrArg (fun b => SV.c (CV.bool b)) (decide_eq_true rfl)) | exact rfl | apply And.intro | exact (fun _ _ _ _ => Cell.le_refl _) | (intro i hi; rfl) | (intro i hi; exact absurd hi (Nat.not_lt_zero _))), by decide, rfl, by repeat' (first | exact trivial | exact (decide_eq_true rfl) | exact (congrArg CV.bool (decide_eq_true rfl)) | exact (congrArg (fun b => SV.c (CV.bool b)) (decide_eq_true rfl)) | exact rfl | apply And.intro | exact (fun _ _ _ _ => Cell.le_refl _) | (intro i hi; rfl) | (intro i hi; exact absurd hi (Nat.not_lt_zero _)))⟩⟩
      · have hbf : b = false := hB.trans (decide_eq_false hz)
        have hbf0 : b = false := hbf
        subst hbf0
        have h1 : (txM L).1 = [] := txM_none hz
        generalize txM L = T at *
        obtain ⟨T, e⟩ := T
        dsimp only at *
        subst h1
        have he : decide (e = 0) = false := decide_eq_false hz
        refine Ife.no (by show (!(decide (e = 0) == false)) = false; rw [he]; rfl) ?_
        refine Ife.yes (by show (!decide (e = 0)) = true; rw [he]; rfl) ?_
        refine Ife.no rfl ?_
        refine Ife.no he ?_
        refine Need.mk hsl fun _ => ?_
        by_cases hu : (untxM s).2 = 0
        · have one := untxM_one hu
          generalize untxM s = U at *
          obtain ⟨U, e⟩ := U
          dsimp only at *
          subst hu
          refine Ife.no rfl ?_
          have eu := msgsL_n (fr := true) (n := lenM U) rfl hU.1
          refine Need.mk (msgsPre_n (fr := true) (n := lenM U) rfl hU.1 (Nat.le_trans hU.2 (by omega))) fun _ => ?_
          rw [eu, one]
          refine Ife.yes (by first | exact decide_eq_true rfl | exact beq_self_eq_true _) ?_
          exact ⟨[0], ⟨rfl, by repeat' (first | exact trivial | exact (decide_eq_true rfl) | exact (congrArg CV.bool (decide_eq_true rfl)) | exact (congrArg (fun b => SV.c (CV.bool b)) (decide_eq_true rfl)) | exact rfl | apply And.intro | exact (fun _ _ _ _ => Cell.le_refl _) | (intro i hi; rfl) | (intro i hi; exact absurd hi (Nat.not_lt_zero _))), by decide, rfl, by repeat' (first | exact trivial | exact (decide_eq_true rfl) | exact (congrArg CV.bool (decide_eq_true rfl)) | exact (congrArg (fun b => SV.c (CV.bool b)) (decide_eq_true rfl)) | exact rfl | apply And.intro | exact (fun _ _ _ _ => Cell.le_refl _) | (intro i hi; rfl) | (intro i hi; exact absurd hi (Nat.not_lt_zero _)))⟩⟩
        · have z := untxM_zero hu
          generalize untxM s = U at *
          obtain ⟨U, e⟩ := U
          dsimp only at *
          subst z
          refine Ife.yes (by show (!decide (e = 0)) = true; rw [decide_eq_false hu]; rfl) ?_
          exact ⟨[0], ⟨rfl, by repeat' (first | exact trivial | exact (decide_eq_true rfl) | exact (congrArg CV.bool (decide_eq_true rfl)) | exact (congrArg (fun b => SV.c (CV.bool b)) (decide_eq_true rfl)) | exact rfl | apply And.intro | exact (fun _ _ _ _ => Cell.le_refl _) | (intro i hi; rfl) | (intro i hi; exact absurd hi (Nat.not_lt_zero _))), by decide, rfl, by repeat' (first | exact trivial | exact (decide_eq_true rfl) | exact (congrArg CV.bool (decide_eq_true rfl)) | exact (congrArg (fun b => SV.c (CV.bool b)) (decide_eq_true rfl)) | exact rfl | apply And.intro | exact (fun _ _ _ _ => Cell.le_refl _) | (intro i hi; rfl) | (intro i hi; exact absurd hi (Nat.not_lt_zero _)))⟩⟩

end Go.Proofs.Ytcgoaicifjndpaa.Vx
namespace Go.Proofs.Ytcgoaicifjndpaa
open Go.RowKit
set_option linter.unusedVariables false
theorem txBackWalk (w : World) (v : Value) (L : List Vx.PMsg) (hv : (Vx.Cell.ns false 74 50 L.length (Vx.msgG false L)).shows w (fun _ b => b < w.heap.size) v) (hn : L.length ≤ maxLen) (hr : ∀ m ∈ L, Vx.MsgRaw m) (s : ByteArray) (hs : s.size ≤ maxLen) :
    Calls Try.prog 16 #[v, .string s] w fun e w' => e = .returned (.bool true) ∧ Below w.heap.size w w' := by
  obtain ⟨b, rfl, hl⟩ := bytesOf s hs
  obtain ⟨q, hq, r1⟩ := Vx.Rel.addMsgs (Vx.Rel.refl w) hv
  have d : Vx.CV.den [q] (.row 0) = some v := Vx.msgs_den hv hq
  refine Calls.mono (Vx.txBackP.run [.c (.row 0), .c (.str b)] [.data false 74 50 L.length (Vx.msgG false L)] _ _ _ rfl ⟨Vx.msgsPre0_law hr hn, hl⟩ [q] w _ r1 ⟨_, _, rfl, d, _, _, rfl, rfl, rfl⟩) fun e W' he => ?_
  obtain ⟨u, ρ', rfl, hu, hr⟩ := he
  obtain rfl : .bool true = u := Option.some.inj hu
  exact ⟨rfl, Vx.Rel.toBelow hr⟩
end Go.Proofs.Ytcgoaicifjndpaa
