/- Slices of messages compared, by the walker. -/
import Derived.Test.YtcgoaicifjndpaaM37
import Derived.Test.YtcgoaicifjndpaaVMs6
import Derived.Test.YtcgoaicifjndpaaM33
section
namespace Go.Proofs.Ytcgoaicifjndpaa.Vx
open Go.RowKit
set_option linter.unusedVariables false
set_option linter.unusedSimpArgs false
def sameMs (L K : List PMsg) : Bool := decide (L = K)
def sameMAt (L K : List PMsg) (i : Nat) : Bool := sameM (gM L i) (gM K i)
theorem sameMs_no {L K : List PMsg} {i : Nat} (h : sameMAt L K i = false) : sameMs L K = false := by
  refine decide_eq_false fun e => ?_
  subst e
  have : sameMAt L L i = true := decide_eq_true rfl
  rw [h] at this
  cases this
theorem sameMs_len {L K : List PMsg} (h : L.length ≠ K.length) : sameMs L K = false := decide_eq_false fun e => h (by rw [e])
theorem sameMs_yes {L K : List PMsg} (hl : L.length = K.length) (h : ∀ i, i < L.length → sameMAt L K i = true) : sameMs L K = true := by
  refine decide_eq_true ?_
  apply List.ext_getElem hl
  intro i h1 h2
  have := of_decide_eq_true (h i h1)
  rwa [gM_eq h1, gM_eq h2] at this
def sSameMs : SpecF
  | [.c (.row 0), .c (.row 1)], [.data fr ty sz n get, .data fr' ty' sz' n' get'] => some (msgsPre ty sz n get ∧ msgsPre ty' sz' n' get', .c (.bool (sameMs (msgsL n get) (msgsL n' get'))), [.dead, .dead])
  | _, _ => none

set_option maxRecDepth 100000 in
set_option maxHeartbeats 16000000 in
theorem sameMsP : Fn Try.prog 73 [] [(74, 250), (74, 250)] sSameMs := by
  have hC : CtsOk Try.prog [(67, appFn [] [(140, 204), (140, 204), (140, 204), (140, 204)] sSameM)] := CtsOk.cons (Fn.ct rsameMP) <| CtsOk.nil _
  refine Fn.of (E := tbR) [] 0 [(6, [(9999, true), (0, true), (1, true), (2, true), (4, true), (5, true), (6, true), (3003, false), (7, false), (8, false), (9, true), (2999, false), (7, false), (3, false), (8, false), (9, true), (2999, false)])] tbR_ok hC (by kernel_rfl) Try.func73 rfl rfl rfl (by kernel_rfl) (by kernel_rfl) 2 5 1 ?_ ?_
  · intro args h pre r h' hs
    unfold sSameMs at hs
    split at hs
    · cases hs; exact ⟨rfl, rfl, Nat.le_of_ble_eq_true rfl⟩
    · cases hs
  · intro args h pre r h' hs hp
    unfold sSameMs at hs
    split at hs
    rotate_left
    · cases hs
    rename_i fr ty sz n get fr' ty' sz' n' get'
    cases hs
    obtain ⟨⟨rfl, rfl, hst, hok, hm⟩, ⟨rfl, rfl, hst', hok', hm'⟩⟩ := hp
    refine ⟨[.data fr 74 50 n (msgG false (msgsL n get)), .data fr' 74 50 n' (msgG false (msgsL n' get'))], ⟨⟨rfl, rfl, rfl, rfl, fun i j hi hj => by rw [hst i j hi hj]; exact Cell.le_refl _⟩, ⟨rfl, rfl, rfl, rfl, fun i j hi hj => by rw [hst' i j hi hj]; exact Cell.le_refl _⟩, trivial⟩, ?_⟩
    have hL : (msgsL n get).length = n := msgsL_len
    have hL' : (msgsL n' get').length = n' := msgsL_len
    generalize msgsL n get = L at *
    generalize msgsL n' get' = K at *
    clear hst hst'
    have ho := gM_all hok zeroMsg_ok
    have ho' := gM_all hok' zeroMsg_ok
    unfold sSameM
    generalize hL : lft Try.prog _ = L
    try unfold leafG
    try unfold msgCl
    try unfold msgG
    try unfold msgC
    generalize ho0 : @lK = zo0, ho1 : @lV = zo1, ho2 : @lI = zo2, ho3 : @lP = zo3, ho4 : @lN = zo4, ho5 : @pG = zo5, ho6 : @rN = zo6, ho7 : @msgPre = zo7, ho8 : @lenL = zo8, ho9 : @sameM = zo9, ho10 : @msgOf = zo10, ho11 : @gM = zo11, ho12 : @msgsL = zo12, ho13 : @msgsPre = zo13, ho14 : @sameMs = zo14, ho15 : @sameMAt = zo15
    generalize hA : Arith.std = A
    cbv
    subst hA hL ho0 ho1 ho2 ho3 ho4 ho5 ho6 ho7 ho8 ho9 ho10 ho11 ho12 ho13 ho14 ho15
    refine Ife.mk (fun h => ?_) (fun h => ?_)
    · have h : ¬ ((n : Int) = (n' : Int)) := by simpa using (show (!decide ((n : Int) = (n' : Int))) = true from h)
      rw [sameMs_len (fun e => h (by omega))]
      exact ⟨[0, 1], ⟨rfl, by repeat' (first | exact trivial | exact rfl | apply And.intro | exact (fun _ _ _ _ => Cell.le_refl _) | (intro i hi; rfl) | (intro i hi; exact absurd hi (Nat.not_lt_zero _))), by decide, rfl, by repeat' (first | exact trivial | exact rfl | apply And.intro | exact (fun _ _ _ _ => Cell.le_refl _) | (intro i hi; rfl) | (intro i hi; exact absurd hi (Nat.not_lt_zero _)))⟩⟩
    have h : ((n : Int) = (n' : Int)) := by simpa using (show (!decide ((n : Int) = (n' : Int))) = false from h)
    have hnn : n = n' := by omega
    subst hnn
    clear h
    show Runs Try.prog 2 (.loop _) _ _
    refine loop_ruleL (N := env (lft Try.prog 2) 0 .std tbR [(67, appFn [] [(140, 204), (140, 204), (140, 204), (140, 204)] sSameM)] [(6, [(9999, true), (0, true), (1, true), (2, true), (4, true), (5, true), (6, true), (3003, false), (7, false), (8, false), (9, true), (2999, false), (7, false), (3, false), (8, false), (9, true), (2999, false)])]) rfl tbR_ok hC (fun c st K _ h => h) (by kernel_rfl) [] (X := LIx n (sameMAt L K))
      (S := fun x => ⟨[.c (.row 0), .c (.row 1), .any, .any, .any, .c (.int .i64 x.i)] ++ List.replicate 21 .any, [.data fr 74 50 n (msgG false L), .data fr' 74 50 n (msgG false K)]⟩) (μ := fun x => n - x.i.toNat) ⟨0, by omega, by omega, fun k hk => absurd hk (Nat.not_lt_zero _)⟩ (by kernel_rfl) [0, 1] ?_ ?_
    · refine ⟨rfl, by show List.Nodup []; exact List.nodup_nil, ?_, ?_⟩ <;> repeat' (first | exact trivial | exact rfl | apply And.intro | exact (fun _ _ _ _ => Cell.le_refl _) | (intro i hi; rfl) | (intro i hi; exact absurd hi (Nat.not_lt_zero _)))
    rintro ⟨j, hj0, hjn, hP⟩
    unfold sSameM
    generalize hL : lft Try.prog _ = L
    try dsimp only
    try unfold leafG
    try unfold msgCl
    try unfold msgG
    try unfold msgC
    generalize ho0 : @lK = zo0, ho1 : @lV = zo1, ho2 : @lI = zo2, ho3 : @lP = zo3, ho4 : @lN = zo4, ho5 : @pG = zo5, ho6 : @rN = zo6, ho7 : @msgPre = zo7, ho8 : @lenL = zo8, ho9 : @sameM = zo9, ho10 : @msgOf = zo10, ho11 : @gM = zo11, ho12 : @msgsL = zo12, ho13 : @msgsPre = zo13, ho14 : @sameMs = zo14, ho15 : @sameMAt = zo15
    generalize hA : Arith.std = A
    cbv
    subst hA hL ho0 ho1 ho2 ho3 ho4 ho5 ho6 ho7 ho8 ho9 ho10 ho11 ho12 ho13 ho14 ho15
    replace hj0 : 0 ≤ j := hj0
    replace hjn : j ≤ @Nat.cast Int instNatCastInt n := hjn
    replace hP : ∀ i, i < j.toNat → sameMAt L K i = true := hP
    refine Ife.mk (fun hlt => ?_) (fun hlt => ?_)
    · replace hlt : j < @Nat.cast Int instNatCastInt n := of_decide_eq_true (p := j < (n : Int)) hlt
      refine Need.mk (show 0 ≤ j ∧ j < (n : Int) by omega) fun _ => Need.mk (show 0 ≤ j ∧ j < (n : Int) by omega) fun _ => Both.mk ?_ ?_
      all_goals
        refine Need.mk (show j.toNat < n by omega) fun _ => Need.mk (show j.toNat < n by omega) fun _ => ?_
        refine Need.mk ⟨msgPre_n (m := gM L j.toNat) (a := .row 0) (b := .row 1) (ho _) rfl rfl, msgPre_n (m := gM K j.toNat) (a := .row 2) (b := .row 3) (ho' _) rfl rfl⟩ fun _ => ?_
        refine Ife.conv' (b' := !sameMAt L K j.toNat) (congrArg (fun b => !b) (congr (congrArg sameM (msgOf_g (a := .row 0) (b := .row 1) (ho _).raw)) (msgOf_g (a := .row 2) (b := .row 3) (ho' _).raw))) ?_
        refine Ife.mk (fun hq => ?_) (fun hq => ?_)
        · rw [Bool.not_eq_true'] at hq
          rw [sameMs_no hq]
          exact ⟨[0, 1], ⟨rfl, by repeat' (first | exact trivial | exact rfl | apply And.intro | exact (fun _ _ _ _ => Cell.le_refl _) | (intro i hi; rfl) | (intro i hi; exact absurd hi (Nat.not_lt_zero _))), by decide, rfl, by repeat' (first | exact trivial | exact rfl | apply And.intro | exact (fun _ _ _ _ => Cell.le_refl _) | (intro i hi; rfl) | (intro i hi; exact absurd hi (Nat.not_lt_zero _)))⟩⟩
        · rw [Bool.not_eq_false'] at hq
          refine Need.mk (by show fitStd .i64 (j + 1); unfold fitStd; omega) fun _ => ?_
          refine ⟨⟨j + 1, by omega, by omega, lix_next hj0 hP hq⟩, [0, 1], (by show n - (j + 1).toNat < n - j.toNat; omega), ?_⟩
          refine ⟨rfl, by show List.Nodup []; exact List.nodup_nil, ?_, ?_⟩ <;> repeat' (first | exact trivial | exact rfl | apply And.intro | exact (fun _ _ _ _ => Cell.le_refl _) | (intro i hi; rfl) | (intro i hi; exact absurd hi (Nat.not_lt_zero _)))
    · replace hlt : ¬ j < @Nat.cast Int instNatCastInt n := of_decide_eq_false (p := j < (n : Int)) hlt
      rw [sameMs_yes (by omega) fun i hi => hP i (by omega)]
      exact ⟨[0, 1], ⟨rfl, by repeat' (first | exact trivial | exact rfl | apply And.intro | exact (fun _ _ _ _ => Cell.le_refl _) | (intro i hi; rfl) | (intro i hi; exact absurd hi (Nat.not_lt_zero _))), by decide, rfl, by repeat' (first | exact trivial | exact rfl | apply And.intro | exact (fun _ _ _ _ => Cell.le_refl _) | (intro i hi; rfl) | (intro i hi; exact absurd hi (Nat.not_lt_zero _)))⟩⟩

end Go.Proofs.Ytcgoaicifjndpaa.Vx
end

section
/- The law MsgBack, by the walker. -/
namespace Go.Proofs.Ytcgoaicifjndpaa.Vx
open Go.RowKit
set_option linter.unusedVariables false
set_option linter.unusedSimpArgs false
theorem msgB_len {m : PMsg} (h : msgV m) : (msgB m).length ≤ 90000000 := by
  have e := wMsg_ok h []
  have hw : (wMsg m ([], false)).1.length ≤ 90000000 := by
    obtain ⟨k, hh, ht, hr, pk, ack, nx, hg, pc, pl, cc, cl⟩ := m
    have hok := msgV_ok h
    obtain ⟨hk, h1, h2, h3, h4, h5, h6, h7⟩ := h
    replace hk : 1 ≤ k ∧ k ≤ 5 := hk
    unfold wMsg
    dsimp only
    by_cases k1 : k = 1
    · rw [if_pos k1]
      have a1 := wN_len k ([], false)
      have a2 := wN_len hh (wN k ([], false))
      have a3 := wN_len ht (wN hh (wN k ([], false)))
      have a4 := wH_len (h := hr) (wN ht (wN hh (wN k ([], false))))
      have a5 : hr.length = 32 := hok.fit.len
      dsimp only [List.length_nil] at a1
      omega
    · rw [if_neg k1]
      have v2 : pkV pk := by
        replace h2 : (if decide (k ≠ 1) = true then pkV pk else pk = noPkt) := h2
        rwa [if_pos (decide_eq_true k1)] at h2
      have v6 : proofV (pc, pl) := by
        replace h6 : (if decide (k ≠ 1) = true then proofV (pc, pl) else (pc, pl) = (0, [])) := h6
        rwa [if_pos (decide_eq_true k1)] at h6
      have a1 := wN_len k ([], false)
      have a2 := wPk_len0 v2 (wN k ([], false))
      have v3 : ack.length ≤ 32 ∨ ¬ k = 3 := by
        by_cases k3 : k = 3
        · replace h3 : (if decide (k = 3) = true then (ack.length : Int) ≤ 32 else ack = []) := h3
          rw [if_pos (decide_eq_true k3)] at h3
          exact Or.inl (by omega)
        · exact Or.inr k3
      have a3 := wT_len ack (wPk pk (wN k ([], false)))
      obtain ⟨sb, hb⟩ : ∃ sb, sb = (if k = 3 then wT ack (wPk pk (wN k ([], false))) else wPk pk (wN k ([], false))) := ⟨_, rfl⟩
      have b1 : sb.1.length ≤ 1000 := by
        rw [hb]
        dsimp only [List.length_nil] at a1
        split <;> omega
      rw [← hb]
      have a4 := wN_len nx sb
      obtain ⟨sc, hc⟩ : ∃ sc, sc = (if nextB k = true then wN nx sb else sb) := ⟨_, rfl⟩
      have b2 : sc.1.length ≤ 1009 := by
        rw [hc]
        split <;> omega
      rw [← hc]
      have a5 := wN_len hg sc
      have f6 : PrFit pc pl (wN hg sc).1 := proofV_fit v6 (by omega)
      have a6 := wProof_len (s := wN hg sc) f6
      split
      · rename_i k5
        have v7 : proofV (cc, cl) := by
          replace h7 : (if decide (k = 5) = true then proofV (cc, cl) else (cc, cl) = (0, [])) := h7
          rwa [if_pos (decide_eq_true k5)] at h7
        have f7 : PrFit cc cl (wProof pc pl (wN hg sc)).1 := proofV_fit v7 (by omega)
        have a7 := wProof_len (s := wProof pc pl (wN hg sc)) f7
        omega
      · omega
  rw [e] at hw
  simpa using hw


end Go.Proofs.Ytcgoaicifjndpaa.Vx
namespace Go.Proofs.Ytcgoaicifjndpaa
open Go.RowKit
set_option linter.unusedVariables false
end Go.Proofs.Ytcgoaicifjndpaa
end

section
/- Transactions written, by the walker. -/
namespace Go.Proofs.Ytcgoaicifjndpaa.Vx
open Go.RowKit
set_option linter.unusedVariables false
set_option linter.unusedSimpArgs false
def txB (L : List PMsg) : List UInt8 := Leb.put (L.length : Int) ++ flatE (fun m => textB (msgB m)) L
def txM (L : List PMsg) : List UInt8 × Int := if 64 < L.length then ([], 22) else if L.all mayM then (txB L, 0) else ([], 1)
theorem flatE_le {α : Type} {E : α → List UInt8} {c : Nat} : ∀ {p : List α}, (∀ x ∈ p, (E x).length ≤ c) → (flatE E p).length ≤ c * p.length
  | [], _ => by simp [flatE]
  | x :: p, h => by
    have a := h x (by simp)
    have b := flatE_le (p := p) fun y hy => h y (by simp [hy])
    have e : flatE E (x :: p) = E x ++ flatE E p := by simp [flatE]
    rw [e, List.length_append, List.length_cons, Nat.mul_add]
    omega
/-- So many messages are written. -/
structure LTx (L : List PMsg) where
  i : Int
  k : Nat
  l : List UInt8
  b : Bool
  hk : i = (k : Int)
  h1 : k ≤ L.length
  w : (l, b) = (Leb.put (L.length : Int) ++ flatE (fun m => textB (msgB m)) (L.take k), false)
  hP : ∀ j, j < k → mayM (gM L j) = true
def sTxM : SpecF
  | [.c (.row 0)], [.data fr ty sz n get] => some (msgsPre ty sz n get, .tup [(some (.str (txM (msgsL n get)).1), []), (some (.int .i64 (txM (msgsL n get)).2), [])], [.dead])
  | _, _ => none

set_option maxRecDepth 100000 in
set_option maxHeartbeats 16000000 in
theorem txMP : Fn Try.prog 69 [] [(74, 250)] sTxM := by
  have hC : CtsOk Try.prog [(109, appMakesW 190 5), (132, appW 190 5 sNum), (61, appFn [] [(140, 204), (140, 204)] sEncM), (133, appW 190 5 sWText), (111, appW 190 5 sBytes)] := CtsOk.cons (MakesW.ct newWP) <| CtsOk.cons (MethW.ct numP) <| CtsOk.cons (Fn.ct encMP) <| CtsOk.cons (MethW.ct wTextP) <| CtsOk.cons (MethW.ct bytesP) <| CtsOk.nil _
  refine Fn.of (E := tbR) [] 0 [] tbR_ok hC (by kernel_rfl) Try.func69 rfl rfl rfl (by kernel_rfl) (by kernel_rfl) 1 5 1 ?_ ?_
  · intro args h pre r h' hs
    unfold sTxM at hs
    split at hs
    · cases hs; exact ⟨rfl, rfl, Nat.le_of_ble_eq_true rfl⟩
    · cases hs
  · intro args h pre r h' hs hp
    unfold sTxM at hs
    split at hs
    rotate_left
    · cases hs
    rename_i fr ty sz n get
    cases hs
    obtain ⟨rfl, rfl, hst, hok, hm⟩ := hp
    refine ⟨[.data fr 74 50 n (msgG false (msgsL n get))], ⟨⟨rfl, rfl, rfl, rfl, fun i j hi hj => by rw [hst i j hi hj]; exact Cell.le_refl _⟩, trivial⟩, ?_⟩
    have hL : (msgsL n get).length = n := msgsL_len
    generalize msgsL n get = L at *
    clear hst
    have ho := gM_all hok zeroMsg_ok
    unfold sEncM sNum sWText sBytes
    generalize hg0 : (List.length : List UInt8 → Nat) = g0
    generalize hL : lft Try.prog _ = L
    try unfold leafG
    try unfold msgCl
    try unfold msgG
    try unfold msgC
    generalize ho0 : @lK = zo0, ho1 : @lV = zo1, ho2 : @lI = zo2, ho3 : @lP = zo3, ho4 : @lN = zo4, ho5 : @pG = zo5, ho6 : @rN = zo6, ho7 : @msgPre = zo7, ho8 : @lenL = zo8, ho9 : @mayM = zo9, ho10 : @msgOf = zo10, ho11 : @numW = zo11, ho12 : @numBad = zo12, ho13 : @textW = zo13, ho14 : @fitNum = zo14, ho15 : @fitText = zo15, ho16 : @isI64 = zo16, ho17 : @msgB = zo17, ho18 : @encMsg = zo18, ho19 : @bytesW = zo19, ho20 : @badW = zo20, ho21 : @gM = zo21, ho22 : @msgsL = zo22, ho23 : @msgsPre = zo23, ho24 : @txM = zo24, ho25 : @flatE = zo25, ho26 : @textB = zo26
    generalize hA : Arith.std = A
    cbv
    subst hA hg0 hL ho0 ho1 ho2 ho3 ho4 ho5 ho6 ho7 ho8 ho9 ho10 ho11 ho12 ho13 ho14 ho15 ho16 ho17 ho18 ho19 ho20 ho21 ho22 ho23 ho24 ho25 ho26
    refine Ife.mk (fun h => ?_) (fun h => ?_)
    · replace h : (64 : Int) < @Nat.cast Int instNatCastInt n := of_decide_eq_true (p := (64 : Int) < (n : Int)) h
      rw [show txM L = ([], 22) from if_pos (by omega)]
      exact ⟨[0], ⟨rfl, by repeat' (first | exact trivial | exact rfl | apply And.intro | exact (fun _ _ _ _ => Cell.le_refl _) | (intro i hi; rfl) | (intro i hi; exact absurd hi (Nat.not_lt_zero _))), by decide, rfl, by repeat' (first | exact trivial | exact rfl | apply And.intro | exact (fun _ _ _ _ => Cell.le_refl _) | (intro i hi; rfl) | (intro i hi; exact absurd hi (Nat.not_lt_zero _)))⟩⟩
    replace h : ¬ (64 : Int) < @Nat.cast Int instNatCastInt n := of_decide_eq_false (p := (64 : Int) < (n : Int)) h
    have hn : n ≤ 64 := by omega
    refine Need.mk trivial fun _ => Need.mk (show fitNum [] (n : Int) from ⟨by unfold isI64; omega, by simp⟩) fun _ => ?_
    have w0 : (numW [] (n : Int) false, numBad (n : Int) false) = (Leb.put (n : Int), false) := wN_ok (l := []) (by omega) (by omega)
    show Runs Try.prog 1 (.loop _) _ _
    refine loop_ruleL (N := env (lft Try.prog 1) 0 .std tbR [(109, appMakesW 190 5), (132, appW 190 5 sNum), (61, appFn [] [(140, 204), (140, 204)] sEncM), (133, appW 190 5 sWText), (111, appW 190 5 sBytes)] []) rfl tbR_ok hC (fun c st K _ h => h) (by kernel_rfl) [] (X := LTx L)
      (S := fun x => ⟨[.c (.row 0), .any, .any, .any, .c (.ptr 1 0), .any, .any, .any, .any, .any, .any, .any, .any, .any, .any, .any, .any, .c (.row 0), .c (.int .i64 n), .c (.int .i64 x.i)] ++ List.replicate 19 .any, [.data fr 74 50 n (msgG false L), .cells 190 [.row 3, .bool x.b], .dead, .bytes 5 x.l]⟩) (μ := fun x => L.length - x.k) ⟨0, 0, numW [] (n : Int) false, numBad (n : Int) false, rfl, by omega, ?w0, fun k hk => absurd hk (Nat.not_lt_zero _)⟩ (by kernel_rfl) [0, 1, 2, 3] ?h0 ?rd
    case h0 =>
      refine ⟨rfl, by show List.Nodup [1, 3]; decide, ?_, ?_⟩ <;> repeat' (first | exact trivial | exact rfl | apply And.intro | exact (fun _ _ _ _ => Cell.le_refl _) | (intro i hi; rfl) | (intro i hi; exact absurd hi (Nat.not_lt_zero _)))
    case w0 =>
      rw [w0, hL]
      simp [flatE]
    rintro ⟨i, k, l, b, hk, h1, w, hP⟩
    replace hk : i = @Nat.cast Int instNatCastInt k := hk
    have hb : b = false := (Prod.mk.inj w).2
    have hl : l = Leb.put (L.length : Int) ++ flatE (fun m => textB (msgB m)) (L.take k) := (Prod.mk.inj w).1
    subst hk hb
    unfold sEncM sNum sWText sBytes
    generalize hg0 : (List.length : List UInt8 → Nat) = g0
    generalize hL : lft Try.prog _ = L
    try dsimp only
    try unfold leafG
    try unfold msgCl
    try unfold msgG
    try unfold msgC
    generalize ho0 : @lK = zo0, ho1 : @lV = zo1, ho2 : @lI = zo2, ho3 : @lP = zo3, ho4 : @lN = zo4, ho5 : @pG = zo5, ho6 : @rN = zo6, ho7 : @msgPre = zo7, ho8 : @lenL = zo8, ho9 : @mayM = zo9, ho10 : @msgOf = zo10, ho11 : @numW = zo11, ho12 : @numBad = zo12, ho13 : @textW = zo13, ho14 : @fitNum = zo14, ho15 : @fitText = zo15, ho16 : @isI64 = zo16, ho17 : @msgB = zo17, ho18 : @encMsg = zo18, ho19 : @bytesW = zo19, ho20 : @badW = zo20, ho21 : @gM = zo21, ho22 : @msgsL = zo22, ho23 : @msgsPre = zo23, ho24 : @txM = zo24, ho25 : @flatE = zo25, ho26 : @textB = zo26
    generalize hA : Arith.std = A
    cbv
    subst hA hg0 hL ho0 ho1 ho2 ho3 ho4 ho5 ho6 ho7 ho8 ho9 ho10 ho11 ho12 ho13 ho14 ho15 ho16 ho17 ho18 ho19 ho20 ho21 ho22 ho23 ho24 ho25 ho26
    have hll : l.length ≤ 6000000000 := by
      have := flatE_le (E := fun m => textB (msgB m)) (c := 90000008) (p := L.take k) fun m hm => by
        have hmL := List.mem_of_mem_take hm
        obtain ⟨j, hj, rfl⟩ := List.getElem_of_mem hm
        have hjk : j < k := by rw [List.length_take] at hj; omega
        have hjL : j < L.length := by omega
        have e : (L.take k)[j] = gM L j := by rw [List.getElem_take, gM_eq hjL]
        rw [e]
        have a := msgB_len (mayM_V (hP j hjk) (ho j))
        have b := textB_len (msgB (gM L j))
        omega
      have b : (L.take k).length ≤ 64 := by rw [List.length_take]; omega
      rw [hl, List.length_append]
      refine Nat.le_trans (Nat.add_le_add (Leb.put_len_le _) this) ?_
      omega
    refine Ife.mk (fun hlt => ?_) (fun hlt => ?_)
    · replace hlt : (k : Int) < @Nat.cast Int instNatCastInt n := of_decide_eq_true (p := (k : Int) < (n : Int)) hlt
      have hkL : k < L.length := by omega
      refine Need.mk (show 0 ≤ (k : Int) ∧ (k : Int) < (n : Int) by omega) fun _ => Need.mk (show k < n by omega) fun _ => ?_
      refine Need.mk (msgPre_n (m := gM L k) (a := .row 0) (b := .row 1) (ho _) rfl rfl) fun _ => ?_
      generalize hE : encMsg _ = E
      replace hE : encMsg (gM L k) = E := (congrArg encMsg (msgOf_g (a := .row 0) (b := .row 1) (ho k).raw)).symm.trans hE
      by_cases hm : mayM (gM L k) = true
      · rw [encMsg_yes hm] at hE
        subst hE
        have v := msgB_len (mayM_V hm (ho k))
        refine Ife.no rfl ?_
        refine Need.mk (show fitText l (msgB (gM L k)) by unfold fitText; omega) fun _ => ?_
        refine Need.mk (by show fitStd .i64 ((k : Int) + 1); unfold fitStd; omega) fun _ => ?_
        have hP2 : ∀ j, j < k + 1 → mayM (gM L j) = true := fun j hj => by
          rcases Nat.lt_or_ge j k with hj2 | hj2
          · exact hP j hj2
          · rw [show j = k by omega]; exact hm
        refine ⟨⟨(k : Int) + 1, k + 1, textW l (msgB (gM L k)) false, numBad ((msgB (gM L k)).length : Int) false, by omega, by omega, ?w, hP2⟩, [0, 1, 2, 9], (by show L.length - (k + 1) < L.length - k; omega), ?st⟩
        case st =>
          refine ⟨rfl, by show List.Nodup [1, 9]; decide, ?_, ?_⟩ <;> repeat' (first | exact trivial | exact rfl | apply And.intro | exact (fun _ _ _ _ => Cell.le_refl _) | (intro i hi; rfl) | (intro i hi; exact absurd hi (Nat.not_lt_zero _)))
        case w =>
          have e := wT_ok (m := msgB (gM L k)) (l := l) (by omega)
          refine e.trans ?_
          rw [flatE_take _ hkL, hl, gM_eq hkL, List.append_assoc]
      · rw [Bool.not_eq_true] at hm
        rw [encMsg_no hm] at hE
        subst hE
        refine Ife.yes rfl ?_
        have e : txM L = ([], 1) := by
          unfold txM
          rw [if_neg (by omega), if_neg]
          intro ha
          have := List.all_eq_true.1 ha _ (List.getElem_mem hkL)
          rw [← gM_eq hkL, hm] at this
          cases this
        rw [e]
        exact ⟨[0], ⟨rfl, by repeat' (first | exact trivial | exact rfl | apply And.intro | exact (fun _ _ _ _ => Cell.le_refl _) | (intro i hi; rfl) | (intro i hi; exact absurd hi (Nat.not_lt_zero _))), by decide, rfl, by repeat' (first | exact trivial | exact rfl | apply And.intro | exact (fun _ _ _ _ => Cell.le_refl _) | (intro i hi; rfl) | (intro i hi; exact absurd hi (Nat.not_lt_zero _)))⟩⟩
    · replace hlt : ¬ (k : Int) < @Nat.cast Int instNatCastInt n := of_decide_eq_false (p := (k : Int) < (n : Int)) hlt
      refine Need.mk trivial fun _ => ?_
      have e : txM L = (l, 0) := by
        unfold txM
        rw [if_neg (by omega), if_pos]
        · rw [hl, List.take_of_length_le (by omega)]; rfl
        · rw [List.all_eq_true]
          intro m hm
          obtain ⟨j, hj, rfl⟩ := List.getElem_of_mem hm
          rw [← gM_eq hj]
          exact hP j (by omega)
      rw [e]
      exact ⟨[0], ⟨rfl, by repeat' (first | exact trivial | exact rfl | apply And.intro | exact (fun _ _ _ _ => Cell.le_refl _) | (intro i hi; rfl) | (intro i hi; exact absurd hi (Nat.not_lt_zero _))), by decide, rfl, by repeat' (first | exact trivial | exact rfl | apply And.intro | exact (fun _ _ _ _ => Cell.le_refl _) | (intro i hi; rfl) | (intro i hi; exact absurd hi (Nat.not_lt_zero _)))⟩⟩

end Go.Proofs.Ytcgoaicifjndpaa.Vx
end
