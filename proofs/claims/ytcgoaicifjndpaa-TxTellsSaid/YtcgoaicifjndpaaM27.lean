/- The document's transactions as bytes, by the walker. -/
import Derived.Test.YtcgoaicifjndpaaM26
import Derived.Test.YtcgoaicifjndpaaM22
import Derived.Test.YtcgoaicifjndpaaM23
import Derived.Test.YtcgoaicifjndpaaM25
section
namespace Go.Proofs.Ytcgoaicifjndpaa.Vx
open Go.RowKit
set_option linter.unusedVariables false
set_option linter.unusedSimpArgs false
/-- The bytes of the first messages. -/
structure LTy (L : List PMsg) where
  i : Int
  k : Nat
  l : List UInt8
  hk : i = (k : Int)
  h1 : k ≤ L.length
  w : l = Leb.put (L.length : Int) ++ flatE (fun m => textB (msgB m)) (L.take k)
  hP : ∀ j, j < k → mayM (gM L j) = true
attribute [local cbv_opaque] lK lV lI lP lN pG leafL leafOf leavesPre hsL rN plainM msgPre lenL nextB between sameM mayM msgOf mayPkt wN wT wH wLeaf wPath wLeaves wProof wPk wMsg wMsgPre prWPre hashOf putW numW numBad textW fitNum fitText fitPut fitPk isI64 msgB encMsg bytesW badW Pkt.fits rMsg decMsg Leb.next okRd endS noRt zeroMsg lightM msgPre0 leavesAt0 lawPre sameM mayM plainM gM msgsL msgsPre msgsPre0 lightMs lightMAt sameMs sameMAt txM txB flatE textB textW numW numBad Leb.put
set_option maxRecDepth 100000 in
set_option maxHeartbeats 16000000 in
theorem rtxMP : Fn Try.prog 70 [] [(74, 250)] sTxM := by
  have hC : CtsOk Try.prog [(120, appPure sLebPut), (65, appFn [] [(140, 204), (140, 204)] sEncM), (123, appPure sPutText)] := CtsOk.cons (Pure.ct refPutP) <| CtsOk.cons (Fn.ct rencMP) <| CtsOk.cons (Pure.ct refPutTextP) <| CtsOk.nil _
  refine Fn.of (E := tbR) [] 0 [] tbR_ok hC (by kernel_rfl) Try.func70 rfl rfl rfl (by kernel_rfl) (by kernel_rfl) 1 5 1 ?_ ?_
  · intro args h pre r h' hs
    unfold sTxM at hs
    split at hs
    · cases hs; exact ⟨rfl, rfl, Nat.le_of_ble_eq_true rfl⟩
    · cases hs
  · intro args h pre r h' hs hp
    unfold sTxM at hs
    split at hs
    rotate_left
    · cases hs
    rename_i fr ty sz n get
    cases hs
    obtain ⟨rfl, rfl, hst, hok, hm⟩ := hp
    refine ⟨[.data fr 74 50 n (msgG false (msgsL n get))], ⟨⟨rfl, rfl, rfl, rfl, fun i j hi hj => by rw [hst i j hi hj]; exact Cell.le_refl _⟩, trivial⟩, ?_⟩
    have hL : (msgsL n get).length = n := msgsL_len
    generalize msgsL n get = L at *
    clear hst
    have ho := gM_all hok zeroMsg_ok
    unfold sEncM sLebPut sPutText
    generalize hg0 : (List.length : List UInt8 → Nat) = g0
    generalize hL : lft Try.prog _ = L
    generalize hA : Arith.std = A
    set_option cbv.maxSteps 6000000 in cbv
    subst hA hg0 hL
    refine Ife.mk (fun h => ?_) (fun h => ?_)
    · replace h : (64 : Int) < @Nat.cast Int instNatCastInt n := of_decide_eq_true (p := (64 : Int) < (n : Int)) h
      rw [show txM L = ([], 22) from if_pos (by omega)]
      exact ⟨[0], ⟨rfl, by repeat' (first | exact trivial | exact rfl | apply And.intro | exact (fun _ _ _ _ => Cell.le_refl _) | (intro i hi; rfl) | (intro i hi; exact absurd hi (Nat.not_lt_zero _))), by decide, rfl, by repeat' (first | exact trivial | exact rfl | apply And.intro | exact (fun _ _ _ _ => Cell.le_refl _) | (intro i hi; rfl) | (intro i hi; exact absurd hi (Nat.not_lt_zero _)))⟩⟩
    replace h : ¬ (64 : Int) < @Nat.cast Int instNatCastInt n := of_decide_eq_false (p := (64 : Int) < (n : Int)) h
    have hn : n ≤ 64 := by omega
    refine Need.mk (show isI64 (n : Int) by unfold isI64; omega) fun _ => ?_
    show Runs Try.prog 1 (.loop _) _ _
    refine loop_ruleL (N := env (lft Try.prog 1) 0 .std tbR [(120, appPure sLebPut), (65, appFn [] [(140, 204), (140, 204)] sEncM), (123, appPure sPutText)] []) rfl tbR_ok hC (fun c st K _ h => h) (by kernel_rfl) [] (X := LTy L)
      (S := fun x => ⟨[.c (.row 0), .any, .any, .any, .c (.str x.l), .c (.int .i64 x.i)] ++ List.replicate 30 .any, [.data fr 74 50 n (msgG false L)]⟩) (μ := fun x => L.length - x.k) ⟨0, 0, Leb.put (n : Int), rfl, by omega, ?w0, fun k hk => absurd hk (Nat.not_lt_zero _)⟩ (by kernel_rfl) [0] ?h0 ?rd
    case h0 =>
      refine ⟨rfl, by show List.Nodup []; exact List.nodup_nil, ?_, ?_⟩ <;> repeat' (first | exact trivial | exact rfl | apply And.intro | exact (fun _ _ _ _ => Cell.le_refl _) | (intro i hi; rfl) | (intro i hi; exact absurd hi (Nat.not_lt_zero _)))
    case w0 =>
      rw [hL]
      simp [flatE]
    rintro ⟨i, k, l, hk, h1, hl, hP⟩
    replace hk : i = @Nat.cast Int instNatCastInt k := hk
    replace hl : l = Leb.put (L.length : Int) ++ flatE (fun m => textB (msgB m)) (L.take k) := hl
    subst hk
    unfold sEncM sLebPut sPutText
    generalize hg0 : (List.length : List UInt8 → Nat) = g0
    generalize hL : lft Try.prog _ = L
    generalize hA : Arith.std = A
    set_option cbv.maxSteps 6000000 in cbv
    subst hA hg0 hL
    have hll : l.length ≤ 6000000000 := by
      have := flatE_le (E := fun m => textB (msgB m)) (c := 90000008) (p := L.take k) fun m hm => by
        have hmL := List.mem_of_mem_take hm
        obtain ⟨j, hj, rfl⟩ := List.getElem_of_mem hm
        have hjk : j < k := by rw [List.length_take] at hj; omega
        have hjL : j < L.length := by omega
        have e : (L.take k)[j] = gM L j := by rw [List.getElem_take, gM_eq hjL]
        rw [e]
        have a := msgB_len (mayM_V (hP j hjk) (ho j))
        have b := textB_len (msgB (gM L j))
        omega
      have b : (L.take k).length ≤ 64 := by rw [List.length_take]; omega
      rw [hl, List.length_append]
      refine Nat.le_trans (Nat.add_le_add (Leb.put_len_le _) this) ?_
      omega
    refine Ife.mk (fun hlt => ?_) (fun hlt => ?_)
    · replace hlt : (k : Int) < @Nat.cast Int instNatCastInt n := of_decide_eq_true (p := (k : Int) < (n : Int)) hlt
      have hkL : k < L.length := by omega
      refine Need.mk (show 0 ≤ (k : Int) ∧ (k : Int) < (n : Int) by omega) fun _ => Need.mk (show k < n by omega) fun _ => ?_
      refine Need.mk (msgPre_n (m := gM L k) (a := .row 0) (b := .row 1) (ho _) rfl rfl) fun _ => ?_
      generalize hE : encMsg _ = E
      replace hE : encMsg (gM L k) = E := (congrArg encMsg (msgOf_g (a := .row 0) (b := .row 1) (ho k).raw)).symm.trans hE
      by_cases hm : mayM (gM L k) = true
      · rw [encMsg_yes hm] at hE
        subst hE
        have v := msgB_len (mayM_V hm (ho k))
        refine Ife.no rfl ?_
        have t := textB_len (msgB (gM L k))
        refine Need.mk (show (msgB (gM L k)).length ≤ 9223372036854770000 by omega) fun _ => ?_
        refine Need.mk (show (l.length : Int) + (textB (msgB (gM L k))).length ≤ 9223372036854775807 by omega) fun _ => ?_
        refine Need.mk (by show fitStd .i64 ((k : Int) + 1); unfold fitStd; omega) fun _ => ?_
        have hP2 : ∀ j, j < k + 1 → mayM (gM L j) = true := fun j hj => by
          rcases Nat.lt_or_ge j k with hj2 | hj2
          · exact hP j hj2
          · rw [show j = k by omega]; exact hm
        refine ⟨⟨(k : Int) + 1, k + 1, l ++ textB (msgB (gM L k)), by omega, by omega, ?w, hP2⟩, [0], (by show L.length - (k + 1) < L.length - k; omega), ?st⟩
        case st =>
          refine ⟨rfl, by show List.Nodup []; exact List.nodup_nil, ?_, ?_⟩ <;> repeat' (first | exact trivial | exact rfl | apply And.intro | exact (fun _ _ _ _ => Cell.le_refl _) | (intro i hi; rfl) | (intro i hi; exact absurd hi (Nat.not_lt_zero _)))
        case w =>
          rw [flatE_take _ hkL, hl, gM_eq hkL, List.append_assoc]
      · rw [Bool.not_eq_true] at hm
        rw [encMsg_no hm] at hE
        subst hE
        refine Ife.yes rfl ?_
        have e : txM L = ([], 1) := by
          unfold txM
          rw [if_neg (by omega), if_neg]
          intro ha
          have := List.all_eq_true.1 ha _ (List.getElem_mem hkL)
          rw [← gM_eq hkL, hm] at this
          cases this
        rw [e]
        exact ⟨[0], ⟨rfl, by repeat' (first | exact trivial | exact rfl | apply And.intro | exact (fun _ _ _ _ => Cell.le_refl _) | (intro i hi; rfl) | (intro i hi; exact absurd hi (Nat.not_lt_zero _))), by decide, rfl, by repeat' (first | exact trivial | exact rfl | apply And.intro | exact (fun _ _ _ _ => Cell.le_refl _) | (intro i hi; rfl) | (intro i hi; exact absurd hi (Nat.not_lt_zero _)))⟩⟩
    · replace hlt : ¬ (k : Int) < @Nat.cast Int instNatCastInt n := of_decide_eq_false (p := (k : Int) < (n : Int)) hlt
      have e : txM L = (l, 0) := by
        unfold txM
        rw [if_neg (by omega), if_pos]
        · rw [hl, List.take_of_length_le (by omega)]; rfl
        · rw [List.all_eq_true]
          intro m hm
          obtain ⟨j, hj, rfl⟩ := List.getElem_of_mem hm
          rw [← gM_eq hj]
          exact hP j (by omega)
      rw [e]
      exact ⟨[0], ⟨rfl, by repeat' (first | exact trivial | exact rfl | apply And.intro | exact (fun _ _ _ _ => Cell.le_refl _) | (intro i hi; rfl) | (intro i hi; exact absurd hi (Nat.not_lt_zero _))), by decide, rfl, by repeat' (first | exact trivial | exact rfl | apply And.intro | exact (fun _ _ _ _ => Cell.le_refl _) | (intro i hi; rfl) | (intro i hi; exact absurd hi (Nat.not_lt_zero _)))⟩⟩

end Go.Proofs.Ytcgoaicifjndpaa.Vx
end

section
/- Transactions read, by the walker. -/
namespace Go.Proofs.Ytcgoaicifjndpaa.Vx
open Go.RowKit
set_option linter.unusedVariables false
set_option linter.unusedSimpArgs false
/-- The rounds of a reader of messages: the error of one that is none, the messages, the state. -/
def uGo (l : List UInt8) : Nat → Int × Int → List PMsg → Int × List PMsg × Int × Int
  | 0, s, p => (0, p, s)
  | n + 1, s, p => if (textS l s.1 s.2 1048576).2.2 ≠ 0 then (0, p, (textS l s.1 s.2 1048576).2)
    else if (decMsg (textS l s.1 s.2 1048576).1).2 ≠ 0 then ((decMsg (textS l s.1 s.2 1048576).1).2, p, (textS l s.1 s.2 1048576).2)
    else uGo l n (textS l s.1 s.2 1048576).2 (p ++ [(decMsg (textS l s.1 s.2 1048576).1).1])
def uEnd (l : List UInt8) (r : Int × List PMsg × Int × Int) : List PMsg × Int :=
  if r.1 ≠ 0 then ([], r.1) else if endS l r.2.2.1 r.2.2.2 ≠ 0 then ([], endS l r.2.2.1 r.2.2.2) else (r.2.1, 0)
def untxM (l : List UInt8) : List PMsg × Int :=
  if 1048576 < l.length then ([], 21)
  else if 64 < (numS l 0 0 0 72057594037927935).1 then ([], 22)
  else uEnd l (uGo l (numS l 0 0 0 72057594037927935).1.toNat (numS l 0 0 0 72057594037927935).2 [])
theorem msgCl_new {m : PMsg} : ∀ c ∈ msgCl true m, c.isNew := by
  intro c hc
  simp only [msgCl, h32, pkC, List.map, List.cons_append, List.nil_append, List.mem_cons, List.not_mem_nil, or_false] at hc
  rcases hc with rfl | rfl | rfl | rfl | rfl | rfl | rfl | rfl | rfl | rfl | rfl | rfl | rfl | rfl | rfl | rfl | rfl | rfl | rfl | rfl | rfl | rfl | rfl | rfl | rfl | rfl | rfl | rfl | rfl | rfl | rfl | rfl | rfl | rfl | rfl | rfl | rfl | rfl | rfl | rfl | rfl | rfl | rfl | rfl | rfl | rfl | rfl | rfl | rfl | rfl <;> first | trivial | exact rfl
theorem msgG_new {L : List PMsg} {i j : Nat} (hj : j < 50) : (msgG true L i j).isNew := by
  have hl : j < (msgCl true (gM L i)).length := hj
  unfold msgG
  rw [List.getD_eq_getElem?_getD, List.getElem?_eq_getElem hl]
  exact msgCl_new _ (List.getElem_mem hl)
theorem msgG_push {p : List PMsg} {n : Nat} (hn : p.length = n) (x : PMsg) : ∀ i j, i < n + 1 → j < 50 → Cell.le (pushC n (msgG true p) (msgCl true x) i j) (msgG true (p ++ [x]) i j) := fun i j hi hj => by
  subst hn
  unfold pushC
  cases hb : Nat.blt i p.length with
  | true =>
    rw [Nat.blt_eq] at hb
    have e : gM (p ++ [x]) i = gM p i := by
      unfold gM
      rw [List.getD_eq_getElem?_getD, List.getD_eq_getElem?_getD, List.getElem?_append_left hb]
    show Cell.le (msgG true p i j) _
    unfold msgG
    rw [e]
    exact Cell.le_refl _
  | false =>
    have hb : ¬ i < p.length := fun h => by rw [← Nat.blt_eq, hb] at h; cases h
    obtain rfl : i = p.length := by omega
    have e : gM (p ++ [x]) p.length = x := by simp [gM, List.getD]
    unfold msgG
    rw [e]
    exact Cell.le_refl _
/-- So many messages are read. -/
structure LUn (l : List UInt8) (N : Nat) (s0 : Int × Int) where
  i : Int
  n : Nat
  a : Int
  b : Int
  p : List PMsg
  hn : i = (n : Int)
  h1 : n ≤ N
  hp : p.length = n
  ok : okRd l a b
  po : ∀ m ∈ p, MsgOk m
  he : uGo l N s0 [] = uGo l (N - n) (a, b) p
def lenM (L : List PMsg) : Nat := L.length
attribute [local cbv_opaque] lK lV lI lP lN pG leafL leafOf leavesPre hsL rN plainM msgPre lenL nextB between sameM mayM msgOf mayPkt wN wT wH wLeaf wPath wLeaves wProof wPk wMsg wMsgPre prWPre hashOf putW numW numBad textW fitNum fitText fitPut fitPk isI64 msgB encMsg bytesW badW Pkt.fits rMsg decMsg Leb.next okRd endS noRt zeroMsg lightM msgPre0 leavesAt0 lawPre rHash rLeaf rProof numsOf hashS byteI textS numS countS lenH rPk rHdr gM msgsL msgsPre msgsPre0 lightMs lightMAt sameMs sameMAt txM txB flatE textB Leb.put uGo uEnd untxM lenM
def sUntxM : SpecF
  | [.c (.str l)], [] => some (l.length ≤ 9223372036854775807, .tup [(some (.row 0), []), (some (.int .i64 (untxM l).2), [])], [.data true 74 50 (lenM (untxM l).1) (msgG true (untxM l).1)])
  | _, _ => none

set_option maxRecDepth 100000 in
set_option maxHeartbeats 16000000 in
theorem untxP : Fn Try.prog 71 [] [] sUntxM := by
  have hC : CtsOk Try.prog [(113, appMakes 196 sOf), (134, appMeth 196 sRdNum), (135, appMeth 196 sRdText), (136, appMeth 196 sRdErr), (62, appFn [] [] sDecM), (115, appMeth 196 sRdEnd)] := CtsOk.cons (Makes.ct ofP) <| CtsOk.cons (Meth.ct rdNumP) <| CtsOk.cons (Meth.ct rdTextP) <| CtsOk.cons (Meth.ct rdErrP) <| CtsOk.cons (Fn.ct decMP) <| CtsOk.cons (Meth.ct rdEndP) <| CtsOk.nil _
  refine Fn.ofZ (E := tbR) [] 0 [] tbR_ok hC (by kernel_rfl) Try.func71 rfl rfl rfl (by kernel_rfl) (by kernel_rfl) 0 (.data true 74 50 0 fun _ _ => .pl .tt) rfl ?_ ?_
  · intro args h pre r h' hs
    unfold sUntxM at hs
    split at hs
    · cases hs; exact ⟨rfl, rfl, Nat.le_of_ble_eq_true rfl⟩
    · cases hs
  · intro args h pre r h' hs hp
    unfold sUntxM at hs
    split at hs
    rotate_left
    · cases hs
    rename_i l
    cases hs
    refine ⟨[], trivial, ?_⟩
    unfold sRdNum sRdText sOf sRdEnd sRdErr sDecM
    generalize hg0 : (List.length : List UInt8 → Nat) = g0
    generalize hL : lft Try.prog _ = L
    generalize hA : Arith.std = A
    set_option cbv.maxSteps 6000000 in cbv
    subst hA hg0 hL
    refine Ife.mk (fun h => ?_) (fun h => ?_)
    · replace h : (1048576 : Int) < (l.length : Int) := of_decide_eq_true (p := (1048576 : Int) < (l.length : Int)) h
      rw [show untxM l = ([], 21) from if_pos (by omega)]
      exact ⟨[], [0], ⟨trivial, rfl, (by repeat' (first | exact (fun i j hi _ => absurd hi (Nat.not_lt_zero _)) | exact trivial | exact rfl | apply And.intro | exact (fun _ _ _ _ => Cell.le_refl _) | (intro i hi; rfl) | (intro i hi; exact absurd hi (Nat.not_lt_zero _)))), (by show List.Nodup []; exact List.nodup_nil), rfl, (by repeat' (first | exact (fun i j hi _ => absurd hi (Nat.not_lt_zero _)) | exact trivial | exact rfl | apply And.intro | exact (fun _ _ _ _ => Cell.le_refl _) | (intro i hi; rfl) | (intro i hi; exact absurd hi (Nat.not_lt_zero _))))⟩⟩
    replace h : ¬ (1048576 : Int) < (l.length : Int) := of_decide_eq_false (p := (1048576 : Int) < (l.length : Int)) h
    have hl : l.length ≤ 1048576 := by omega
    have hok := ok_start (l := l) (by omega)
    have hU : untxM l = if 64 < (numS l 0 0 0 72057594037927935).1 then ([], 22) else uEnd l (uGo l (numS l 0 0 0 72057594037927935).1.toNat (numS l 0 0 0 72057594037927935).2 []) := if_neg (by omega)
    have z1 := ok_num (lo := 0) (hi := 72057594037927935) hok
    have kr := numS_rng l 0 0 0 72057594037927935
    refine Need.mk trivial fun _ => Need.mk hok fun _ => ?_
    generalize numS l 0 0 0 72057594037927935 = t at *
    obtain ⟨N, A0, B0⟩ := t
    dsimp only at *
    refine Ife.mk (fun h64 => ?_) (fun h64 => ?_)
    · replace h64 : (64 : Int) < N := of_decide_eq_true (p := (64 : Int) < N) h64
      rw [hU, if_pos h64]
      exact ⟨[], [1], ⟨trivial, rfl, (by repeat' (first | exact (fun i j hi _ => absurd hi (Nat.not_lt_zero _)) | exact trivial | exact rfl | apply And.intro | exact (fun _ _ _ _ => Cell.le_refl _) | (intro i hi; rfl) | (intro i hi; exact absurd hi (Nat.not_lt_zero _)))), (by show List.Nodup []; exact List.nodup_nil), rfl, (by repeat' (first | exact (fun i j hi _ => absurd hi (Nat.not_lt_zero _)) | exact trivial | exact rfl | apply And.intro | exact (fun _ _ _ _ => Cell.le_refl _) | (intro i hi; rfl) | (intro i hi; exact absurd hi (Nat.not_lt_zero _))))⟩⟩
    replace h64 : ¬ (64 : Int) < N := of_decide_eq_false (p := (64 : Int) < N) h64
    rw [if_neg h64] at hU
    have hN0 : 0 ≤ N := by omega
    refine Runs.nilTmpE 6 (.orow 74 50 0 (msgG true [])) rfl rfl ?_
    show Runs Try.prog 0 (.loop _) _ _
    refine loop_ruleL (N := env (lft Try.prog 0) 0 .std tbR [(113, appMakes 196 sOf), (134, appMeth 196 sRdNum), (135, appMeth 196 sRdText), (136, appMeth 196 sRdErr), (62, appFn [] [] sDecM), (115, appMeth 196 sRdEnd)] []) rfl tbR_ok hC (fun c st K _ h => h) (by kernel_rfl) [] (X := LUn l N.toNat (A0, B0))
      (S := fun x => ⟨[.any, .any, .any, .any, .c (.ptr 0 0), .c (.int .i64 N), .c (.row 1), .any, .any, .any, .any, .any, .any, .any, .any, .any, .any, .any, .any, .any, .c (.int .i64 N), .c (.int .i64 x.i)] ++ List.replicate 25 .any, [.cells 196 [.str l, .int .i64 x.a, .int .i64 x.b], .orow 74 50 x.n (msgG true x.p)]⟩) (μ := fun x => N.toNat - x.n) ⟨0, 0, A0, B0, [], rfl, by omega, rfl, z1, fun m hm => absurd hm (by simp), rfl⟩ (by kernel_rfl) [0, 1] ?_ ?_
    · refine ⟨rfl, by show List.Nodup [0, 1]; decide, ?_, ?_⟩ <;> repeat' (first | exact trivial | exact rfl | apply And.intro | exact (fun _ _ _ _ => Cell.le_refl _) | (intro i hi; rfl) | (intro i hi; exact absurd hi (Nat.not_lt_zero _)))
    rintro ⟨i, n, a, b, p, hn, hnN, hp, hok, hpo, he⟩
    replace hn : i = @Nat.cast Int instNatCastInt n := hn
    subst hn
    unfold sRdNum sRdText sOf sRdEnd sRdErr sDecM
    generalize hg0 : (List.length : List UInt8 → Nat) = g0
    generalize hL : lft Try.prog _ = L
    generalize hA : Arith.std = A
    set_option cbv.maxSteps 6000000 in cbv
    subst hA hg0 hL
    replace hok : okRd l a b := hok
    refine Ife.mk (fun hlt => ?_) (fun hlt => ?_)
    · replace hlt : @Nat.cast Int instNatCastInt n < N := of_decide_eq_true (p := (n : Int) < N) hlt
      refine Need.mk hok fun _ => Need.mk trivial fun _ => ?_
      have z2 := ok_text (hi := 1048576) hok
      have tl := text_len l a b 1048576
      obtain ⟨m, hm⟩ : ∃ m, N.toNat - n = m + 1 := ⟨N.toNat - n - 1, by omega⟩
      have hg : uGo l (m + 1) (a, b) p = (if (textS l a b 1048576).2.2 ≠ 0 then (0, p, (textS l a b 1048576).2) else if (decMsg (textS l a b 1048576).1).2 ≠ 0 then ((decMsg (textS l a b 1048576).1).2, p, (textS l a b 1048576).2) else uGo l m (textS l a b 1048576).2 (p ++ [(decMsg (textS l a b 1048576).1).1])) := rfl
      rw [hm, hg] at he
      clear hg
      generalize textS l a b 1048576 = t at *
      obtain ⟨t, a2, b2⟩ := t
      dsimp only at *
      refine Ife.mk (fun hb => ?_) (fun hb => ?_)
      · have hb : b2 ≠ 0 := by simpa [Arith.std] using hb
        rw [if_pos hb] at he
        rw [he] at hU
        refine Need.mk z2 fun _ => Ife.mk (fun h9 => ?_) (fun h9 => ?_)
        · have h9 : endS l a2 b2 ≠ 0 := by simpa [Arith.std] using h9
          have hU2 : untxM l = ([], endS l a2 b2) := by
            rw [hU]
            unfold uEnd
            dsimp only
            rw [if_neg (by simp), if_pos h9]
          rw [hU2]
          exact ⟨[], [2], ⟨trivial, rfl, (by repeat' (first | exact (fun i j hi _ => absurd hi (Nat.not_lt_zero _)) | exact trivial | exact rfl | apply And.intro | exact (fun _ _ _ _ => Cell.le_refl _) | (intro i hi; rfl) | (intro i hi; exact absurd hi (Nat.not_lt_zero _)))), (by show List.Nodup []; exact List.nodup_nil), rfl, (by repeat' (first | exact (fun i j hi _ => absurd hi (Nat.not_lt_zero _)) | exact trivial | exact rfl | apply And.intro | exact (fun _ _ _ _ => Cell.le_refl _) | (intro i hi; rfl) | (intro i hi; exact absurd hi (Nat.not_lt_zero _))))⟩⟩
        · have h9 : endS l a2 b2 = 0 := by simpa [Arith.std] using h9
          have hU2 : untxM l = (p, 0) := by
            rw [hU]
            unfold uEnd
            dsimp only
            rw [if_neg (by simp), if_neg (by simp [h9])]
          rw [hU2]
          refine ⟨[1], [1], ⟨⟨fun i j hi hj => msgG_new hj, trivial⟩, rfl, (by repeat' (first | exact (fun i j hi _ => absurd hi (Nat.not_lt_zero _)) | exact trivial | exact rfl | apply And.intro | exact (fun _ _ _ _ => Cell.le_refl _) | (intro i hi; rfl) | (intro i hi; exact absurd hi (Nat.not_lt_zero _)))), (by show List.Nodup []; exact List.nodup_nil), rfl, ?_⟩⟩
          repeat' (first | exact trivial | exact rfl | apply And.intro)
          · exact hp.symm
          · exact fun _ _ _ _ => Cell.le_refl _
      have hb : b2 = 0 := by simpa [Arith.std] using hb
      rw [if_neg (by simp [hb])] at he
      refine Need.mk (show t.length ≤ 140737488351232 by omega) fun _ => ?_
      have hD := decMsg_ok t
      generalize decMsg t = D at *
      obtain ⟨M, e⟩ := D
      dsimp only at *
      refine Ife.mk (fun hb3 => ?_) (fun hb3 => ?_)
      · have hb3 : e ≠ 0 := by simpa [Arith.std] using hb3
        rw [if_pos hb3] at he
        rw [he] at hU
        have hU2 : untxM l = ([], e) := by
          rw [hU]
          exact if_pos hb3
        rw [hU2]
        exact ⟨[], [5], ⟨trivial, rfl, (by repeat' (first | exact (fun i j hi _ => absurd hi (Nat.not_lt_zero _)) | exact trivial | exact rfl | apply And.intro | exact (fun _ _ _ _ => Cell.le_refl _) | (intro i hi; rfl) | (intro i hi; exact absurd hi (Nat.not_lt_zero _)))), (by show List.Nodup []; exact List.nodup_nil), rfl, (by repeat' (first | exact (fun i j hi _ => absurd hi (Nat.not_lt_zero _)) | exact trivial | exact rfl | apply And.intro | exact (fun _ _ _ _ => Cell.le_refl _) | (intro i hi; rfl) | (intro i hi; exact absurd hi (Nat.not_lt_zero _))))⟩⟩
      have hb3 : e = 0 := by simpa [Arith.std] using hb3
      rw [if_neg (by simp [hb3])] at he
      have hn2 : n ≤ 64 := by omega
      have he2 : uGo l N.toNat (A0, B0) [] = uGo l (N.toNat - (n + 1)) (a2, b2) (p ++ [M]) := by
        rw [show N.toNat - (n + 1) = m by omega]
        exact he
      have po2 : ∀ x ∈ p ++ [M], MsgOk x := fun x hx => by
        rcases List.mem_append.1 hx with h | h
        · exact hpo x h
        · rw [List.mem_singleton.1 h]; exact hD
      refine Need.mk ⟨show n + 1 ≤ maxLen ∧ (n + 1) * 240 ≤ 140737488355328 from ⟨by unfold maxLen; omega, by omega⟩, trivial⟩ fun _ => ?_
      refine Need.mk (by show fitStd .i64 ((n : Int) + 1); unfold fitStd; omega) fun _ => ?_
      refine ⟨⟨(n : Int) + 1, n + 1, a2, b2, p ++ [M], by omega, by omega, by simp; omega, z2, po2, he2⟩, [0, 6], (by show N.toNat - (n + 1) < N.toNat - n; omega), ?_⟩
      refine ⟨rfl, by show List.Nodup [0, 6]; decide, by repeat' (first | exact (fun i j hi _ => absurd hi (Nat.not_lt_zero _)) | exact trivial | exact rfl | apply And.intro | exact (fun _ _ _ _ => Cell.le_refl _) | (intro i hi; rfl) | (intro i hi; exact absurd hi (Nat.not_lt_zero _))), ?_⟩
      repeat' (first | exact trivial | exact rfl | apply And.intro)
      exact msgG_push hp M
    · replace hlt : ¬ @Nat.cast Int instNatCastInt n < N := of_decide_eq_false (p := (n : Int) < N) hlt
      rw [show N.toNat - n = 0 by omega] at he
      have he : uGo l N.toNat (A0, B0) [] = (0, p, (a, b)) := he
      rw [he] at hU
      refine Need.mk hok fun _ => Ife.mk (fun h9 => ?_) (fun h9 => ?_)
      · have h9 : endS l a b ≠ 0 := by simpa [Arith.std] using h9
        have hU2 : untxM l = ([], endS l a b) := by
          rw [hU]
          unfold uEnd
          dsimp only
          rw [if_neg (by simp), if_pos h9]
        rw [hU2]
        exact ⟨[], [2], ⟨trivial, rfl, (by repeat' (first | exact (fun i j hi _ => absurd hi (Nat.not_lt_zero _)) | exact trivial | exact rfl | apply And.intro | exact (fun _ _ _ _ => Cell.le_refl _) | (intro i hi; rfl) | (intro i hi; exact absurd hi (Nat.not_lt_zero _)))), (by show List.Nodup []; exact List.nodup_nil), rfl, (by repeat' (first | exact (fun i j hi _ => absurd hi (Nat.not_lt_zero _)) | exact trivial | exact rfl | apply And.intro | exact (fun _ _ _ _ => Cell.le_refl _) | (intro i hi; rfl) | (intro i hi; exact absurd hi (Nat.not_lt_zero _))))⟩⟩
      · have h9 : endS l a b = 0 := by simpa [Arith.std] using h9
        have hU2 : untxM l = (p, 0) := by
          rw [hU]
          unfold uEnd
          dsimp only
          rw [if_neg (by simp), if_neg (by simp [h9])]
        rw [hU2]
        refine ⟨[1], [1], ⟨⟨fun i j hi hj => msgG_new hj, trivial⟩, rfl, (by repeat' (first | exact (fun i j hi _ => absurd hi (Nat.not_lt_zero _)) | exact trivial | exact rfl | apply And.intro | exact (fun _ _ _ _ => Cell.le_refl _) | (intro i hi; rfl) | (intro i hi; exact absurd hi (Nat.not_lt_zero _)))), (by show List.Nodup []; exact List.nodup_nil), rfl, ?_⟩⟩
        repeat' (first | exact trivial | exact rfl | apply And.intro)
        · exact hp.symm
        · exact fun _ _ _ _ => Cell.le_refl _

end Go.Proofs.Ytcgoaicifjndpaa.Vx
end

section
/- Transactions, plainly: what is written is read back, what is read is written so; a message that may be is short. -/
namespace Go.Proofs.Ytcgoaicifjndpaa.Vx
open Go.RowKit
set_option linter.unusedVariables false
set_option linter.unusedSimpArgs false
theorem uGo_zero (l : List UInt8) (s : Int × Int) (p : List PMsg) : uGo l 0 s p = (0, p, s) := rfl
theorem uGo_succ (l : List UInt8) (n : Nat) (s : Int × Int) (p : List PMsg) : uGo l (n + 1) s p = if (rText 1048576 l s).2.2 ≠ 0 then (0, p, (rText 1048576 l s).2)
    else if (decMsg (rText 1048576 l s).1).2 ≠ 0 then ((decMsg (rText 1048576 l s).1).2, p, (rText 1048576 l s).2)
    else uGo l n (rText 1048576 l s).2 (p ++ [(decMsg (rText 1048576 l s).1).1]) := rfl
theorem uGo_ok (l : List UInt8) : ∀ (n : Nat) (s : Int × Int) (p : List PMsg), (∀ m ∈ p, MsgOk m) → (∀ m ∈ (uGo l n s p).2.1, MsgOk m) ∧ (uGo l n s p).2.1.length ≤ p.length + n
  | 0, s, p, h => ⟨h, by rw [uGo_zero]; exact Nat.le_refl _⟩
  | n + 1, s, p, h => by
    rw [uGo_succ]
    split
    · exact ⟨h, by dsimp only; omega⟩
    · split
      · exact ⟨h, by dsimp only; omega⟩
      · have := uGo_ok l n (rText 1048576 l s).2 (p ++ [(decMsg (rText 1048576 l s).1).1]) fun m hm => by
          rcases List.mem_append.1 hm with hm | hm
          · exact h m hm
          · rw [List.mem_singleton.1 hm]; exact decMsg_ok _
        refine ⟨this.1, ?_⟩
        have := this.2
        simp only [List.length_append, List.length_singleton] at this
        omega
theorem uEnd_ok (l : List UInt8) (r : Int × List PMsg × Int × Int) : (uEnd l r).1 = [] ∨ (uEnd l r).1 = r.2.1 := by
  unfold uEnd
  split
  · exact Or.inl rfl
  · split
    · exact Or.inl rfl
    · exact Or.inr rfl
theorem untxM_ok (l : List UInt8) : (∀ m ∈ (untxM l).1, MsgOk m) ∧ (untxM l).1.length ≤ 64 := by
  have nil : (∀ m ∈ ([] : List PMsg), MsgOk m) ∧ ([] : List PMsg).length ≤ 64 := ⟨fun m hm => absurd hm (by simp), by simp⟩
  unfold untxM
  split
  · exact nil
  · split
    · exact nil
    · rename_i h
      have := uGo_ok l (numS l 0 0 0 72057594037927935).1.toNat (numS l 0 0 0 72057594037927935).2 [] fun m hm => absurd hm (by simp)
      rcases uEnd_ok l (uGo l (numS l 0 0 0 72057594037927935).1.toNat (numS l 0 0 0 72057594037927935).2 []) with e | e
      · rw [e]; exact nil
      · rw [e]
        refine ⟨this.1, Nat.le_trans this.2 ?_⟩
        simp only [List.length_nil]
        omega
end Go.Proofs.Ytcgoaicifjndpaa.Vx
end

section
/- The document's transactions read, by the walker. -/
namespace Go.Proofs.Ytcgoaicifjndpaa.Vx
open Go.RowKit
set_option linter.unusedVariables false
set_option linter.unusedSimpArgs false
theorem numS_err {l : List UInt8} {a b lo hi : Int} (h : (numS l a b lo hi).2.2 ≠ 0) : (numS l a b lo hi).1 = 0 := by
  unfold numS at h ⊢
  split
  · rfl
  · rename_i h1
    rw [if_neg h1] at h
    split
    · rfl
    · rename_i h2
      rw [if_neg h2] at h
      split
      · rfl
      · rename_i h3
        rw [if_neg h3] at h
        exact absurd rfl h
theorem uGo_stop {l : List UInt8} {n : Nat} {a b : Int} {p : List PMsg} (h : b ≠ 0) : uGo l n (a, b) p = (0, p, (a, b)) := by
  cases n with
  | zero => rfl
  | succ n =>
    have e : textS l a b 1048576 = ([], a, b) := if_pos h
    show (if (textS l a b 1048576).2.2 ≠ 0 then _ else _) = _
    rw [e]
    exact if_pos h
attribute [local cbv_opaque] lK lV lI lP lN pG leafL leafOf leavesPre hsL rN plainM msgPre lenL nextB between sameM mayM msgOf mayPkt wN wT wH wLeaf wPath wLeaves wProof wPk wMsg wMsgPre prWPre hashOf putW numW numBad textW fitNum fitText fitPut fitPk isI64 msgB encMsg bytesW badW Pkt.fits rMsg decMsg Leb.next okRd endS noRt zeroMsg lightM msgPre0 leavesAt0 lawPre rHash rLeaf rProof numsOf hashS byteI textS numS countS lenH rPk rHdr gM msgsL msgsPre msgsPre0 lightMs lightMAt sameMs sameMAt txM txB flatE textB Leb.put uGo uEnd untxM lenM
set_option maxRecDepth 100000 in
set_option maxHeartbeats 16000000 in
theorem runtxP : Fn Try.prog 72 [] [] sUntxM := by
  have hC : CtsOk Try.prog [(125, appMeth 166 sRdNum), (128, appMeth 166 sRdText), (66, appFn [] [] sDecM), (130, appMeth 166 sRdEnd)] := CtsOk.cons (Meth.ct refNumP) <| CtsOk.cons (Meth.ct refTextP) <| CtsOk.cons (Fn.ct rdecMP) <| CtsOk.cons (Meth.ct refEndP) <| CtsOk.nil _
  refine Fn.ofZ (E := tbR) [] 0 [] tbR_ok hC (by kernel_rfl) Try.func72 rfl rfl rfl (by kernel_rfl) (by kernel_rfl) 0 (.data true 74 50 0 fun _ _ => .pl .tt) rfl ?_ ?_
  · intro args h pre r h' hs
    unfold sUntxM at hs
    split at hs
    · cases hs; exact ⟨rfl, rfl, Nat.le_of_ble_eq_true rfl⟩
    · cases hs
  · intro args h pre r h' hs hp
    unfold sUntxM at hs
    split at hs
    rotate_left
    · cases hs
    rename_i l
    cases hs
    refine ⟨[], trivial, ?_⟩
    unfold sRdNum sRdText sRdEnd sDecM
    generalize hg0 : (List.length : List UInt8 → Nat) = g0
    generalize hL : lft Try.prog _ = L
    generalize hA : Arith.std = A
    set_option cbv.maxSteps 6000000 in cbv
    subst hA hg0 hL
    refine Ife.mk (fun h => ?_) (fun h => ?_)
    · replace h : (1048576 : Int) < (l.length : Int) := of_decide_eq_true (p := (1048576 : Int) < (l.length : Int)) h
      rw [show untxM l = ([], 21) from if_pos (by omega)]
      exact ⟨[], [0], ⟨trivial, rfl, (by repeat' (first | exact (fun i j hi _ => absurd hi (Nat.not_lt_zero _)) | exact trivial | exact rfl | apply And.intro | exact (fun _ _ _ _ => Cell.le_refl _) | (intro i hi; rfl) | (intro i hi; exact absurd hi (Nat.not_lt_zero _)))), (by show List.Nodup []; exact List.nodup_nil), rfl, (by repeat' (first | exact (fun i j hi _ => absurd hi (Nat.not_lt_zero _)) | exact trivial | exact rfl | apply And.intro | exact (fun _ _ _ _ => Cell.le_refl _) | (intro i hi; rfl) | (intro i hi; exact absurd hi (Nat.not_lt_zero _))))⟩⟩
    replace h : ¬ (1048576 : Int) < (l.length : Int) := of_decide_eq_false (p := (1048576 : Int) < (l.length : Int)) h
    have hl : l.length ≤ 1048576 := by omega
    have hok := ok_start (l := l) (by omega)
    have hU : untxM l = if 64 < (numS l 0 0 0 72057594037927935).1 then ([], 22) else uEnd l (uGo l (numS l 0 0 0 72057594037927935).1.toNat (numS l 0 0 0 72057594037927935).2 []) := if_neg (by omega)
    have z1 := ok_num (lo := 0) (hi := 72057594037927935) hok
    have kr := numS_rng l 0 0 0 72057594037927935
    have ker := numS_err (l := l) (a := 0) (b := 0) (lo := 0) (hi := 72057594037927935)
    refine Need.mk hok fun _ => ?_
    generalize numS l 0 0 0 72057594037927935 = t at *
    obtain ⟨N, A0, B0⟩ := t
    dsimp only at *
    have main : B0 = 0 ∧ 64 < N ∨ ¬ (64 : Int) < N := by
      by_cases hb : B0 = 0
      · omega
      · have := ker hb
        omega
    rcases main with ⟨hB, h64⟩ | h64
    · refine Ife.yes (decide_eq_true (p := B0 = 0) hB) (Ife.yes (decide_eq_true (p := (64 : Int) < N) h64) ?_)
      rw [hU, if_pos h64]
      exact ⟨[], [1], ⟨trivial, rfl, (by repeat' (first | exact (fun i j hi _ => absurd hi (Nat.not_lt_zero _)) | exact trivial | exact rfl | apply And.intro | exact (fun _ _ _ _ => Cell.le_refl _) | (intro i hi; rfl) | (intro i hi; exact absurd hi (Nat.not_lt_zero _)))), (by show List.Nodup []; exact List.nodup_nil), rfl, (by repeat' (first | exact (fun i j hi _ => absurd hi (Nat.not_lt_zero _)) | exact trivial | exact rfl | apply And.intro | exact (fun _ _ _ _ => Cell.le_refl _) | (intro i hi; rfl) | (intro i hi; exact absurd hi (Nat.not_lt_zero _))))⟩⟩
    rw [if_neg h64] at hU
    have hN0 : 0 ≤ N := by omega
    refine Ife.mk (fun _ => Ife.no (decide_eq_false (p := (64 : Int) < N) h64) ?_) (fun _ => ?_)
    all_goals
      refine Runs.nilTmpE 6 (.orow 74 50 0 (msgG true [])) rfl rfl ?_
      show Runs Try.prog 0 (.loop _) _ _
      refine loop_ruleL (N := env (lft Try.prog 0) 0 .std tbR [(125, appMeth 166 sRdNum), (128, appMeth 166 sRdText), (66, appFn [] [] sDecM), (130, appMeth 166 sRdEnd)] []) rfl tbR_ok hC (fun c st K _ h => h) (by kernel_rfl) [] (X := LUn l N.toNat (A0, B0))
        (S := fun x => ⟨[.any, .any, .any, .any, .c (.ptr 0 0), .c (.int .i64 N), .c (.row 1), .c (.int .i64 x.i)] ++ List.replicate 58 .any, [.cells 166 [.str l, .int .i64 x.a, .int .i64 x.b], .orow 74 50 x.n (msgG true x.p)]⟩) (μ := fun x => N.toNat - x.n) ⟨0, 0, A0, B0, [], rfl, by omega, rfl, z1, fun m hm => absurd hm (by simp), rfl⟩ (by kernel_rfl) [0, 1] ?_ ?_
      · refine ⟨rfl, by show List.Nodup [0, 1]; decide, ?_, ?_⟩ <;> repeat' (first | exact trivial | exact rfl | apply And.intro | exact (fun _ _ _ _ => Cell.le_refl _) | (intro i hi; rfl) | (intro i hi; exact absurd hi (Nat.not_lt_zero _)))
      rintro ⟨i, n, a, b, p, hn, hnN, hp, hok, hpo, he⟩
      replace hn : i = @Nat.cast Int instNatCastInt n := hn
      subst hn
      unfold sRdNum sRdText sRdEnd sDecM
      generalize hg0 : (List.length : List UInt8 → Nat) = g0
      generalize hL : lft Try.prog _ = L
      generalize hA : Arith.std = A
      set_option cbv.maxSteps 6000000 in cbv
      subst hA hg0 hL
      replace hok : okRd l a b := hok
      refine Ife.mk (fun hlt => ?_) (fun hlt => ?_)
      · replace hlt : @Nat.cast Int instNatCastInt n < N := of_decide_eq_true (p := (n : Int) < N) hlt
        refine Ife.mk (fun hbz => ?_) (fun hbz => ?_)
        rotate_left
        · replace hbz : ¬ b = 0 := of_decide_eq_false (p := b = 0) hbz
          rw [uGo_stop hbz] at he
          rw [he] at hU
          refine Need.mk hok fun _ => Ife.mk (fun h9 => ?_) (fun h9 => ?_)
          · have h9 : endS l a b ≠ 0 := by simpa [Arith.std] using h9
            have hU2 : untxM l = ([], endS l a b) := by
              rw [hU]
              unfold uEnd
              dsimp only
              rw [if_neg (by simp), if_pos h9]
            rw [hU2]
            exact ⟨[], [2], ⟨trivial, rfl, (by repeat' (first | exact (fun i j hi _ => absurd hi (Nat.not_lt_zero _)) | exact trivial | exact rfl | apply And.intro | exact (fun _ _ _ _ => Cell.le_refl _) | (intro i hi; rfl) | (intro i hi; exact absurd hi (Nat.not_lt_zero _)))), (by show List.Nodup []; exact List.nodup_nil), rfl, (by repeat' (first | exact (fun i j hi _ => absurd hi (Nat.not_lt_zero _)) | exact trivial | exact rfl | apply And.intro | exact (fun _ _ _ _ => Cell.le_refl _) | (intro i hi; rfl) | (intro i hi; exact absurd hi (Nat.not_lt_zero _))))⟩⟩
          · have h9 : endS l a b = 0 := by simpa [Arith.std] using h9
            have hU2 : untxM l = (p, 0) := by
              rw [hU]
              unfold uEnd
              dsimp only
              rw [if_neg (by simp), if_neg (by simp [h9])]
            rw [hU2]
            refine ⟨[1], [1], ⟨⟨fun i j hi hj => msgG_new hj, trivial⟩, rfl, (by repeat' (first | exact (fun i j hi _ => absurd hi (Nat.not_lt_zero _)) | exact trivial | exact rfl | apply And.intro | exact (fun _ _ _ _ => Cell.le_refl _) | (intro i hi; rfl) | (intro i hi; exact absurd hi (Nat.not_lt_zero _)))), (by show List.Nodup []; exact List.nodup_nil), rfl, ?_⟩⟩
            repeat' (first | exact trivial | exact rfl | apply And.intro)
            · exact hp.symm
            · exact fun _ _ _ _ => Cell.le_refl _
        refine Need.mk hok fun _ => ?_
        have z2 := ok_text (hi := 1048576) hok
        have tl := text_len l a b 1048576
        obtain ⟨m, hm⟩ : ∃ m, N.toNat - n = m + 1 := ⟨N.toNat - n - 1, by omega⟩
        have hg : uGo l (m + 1) (a, b) p = (if (textS l a b 1048576).2.2 ≠ 0 then (0, p, (textS l a b 1048576).2) else if (decMsg (textS l a b 1048576).1).2 ≠ 0 then ((decMsg (textS l a b 1048576).1).2, p, (textS l a b 1048576).2) else uGo l m (textS l a b 1048576).2 (p ++ [(decMsg (textS l a b 1048576).1).1])) := rfl
        rw [hm, hg] at he
        clear hg
        generalize textS l a b 1048576 = t at *
        obtain ⟨t, a2, b2⟩ := t
        dsimp only at *
        refine Ife.mk (fun hb => ?_) (fun hb => ?_)
        · have hb : b2 ≠ 0 := by simpa [Arith.std] using hb
          rw [if_pos hb] at he
          rw [he] at hU
          refine Need.mk z2 fun _ => Ife.mk (fun h9 => ?_) (fun h9 => ?_)
          · have h9 : endS l a2 b2 ≠ 0 := by simpa [Arith.std] using h9
            have hU2 : untxM l = ([], endS l a2 b2) := by
              rw [hU]
              unfold uEnd
              dsimp only
              rw [if_neg (by simp), if_pos h9]
            rw [hU2]
            exact ⟨[], [2], ⟨trivial, rfl, (by repeat' (first | exact (fun i j hi _ => absurd hi (Nat.not_lt_zero _)) | exact trivial | exact rfl | apply And.intro | exact (fun _ _ _ _ => Cell.le_refl _) | (intro i hi; rfl) | (intro i hi; exact absurd hi (Nat.not_lt_zero _)))), (by show List.Nodup []; exact List.nodup_nil), rfl, (by repeat' (first | exact (fun i j hi _ => absurd hi (Nat.not_lt_zero _)) | exact trivial | exact rfl | apply And.intro | exact (fun _ _ _ _ => Cell.le_refl _) | (intro i hi; rfl) | (intro i hi; exact absurd hi (Nat.not_lt_zero _))))⟩⟩
          · have h9 : endS l a2 b2 = 0 := by simpa [Arith.std] using h9
            have hU2 : untxM l = (p, 0) := by
              rw [hU]
              unfold uEnd
              dsimp only
              rw [if_neg (by simp), if_neg (by simp [h9])]
            rw [hU2]
            refine ⟨[1], [1], ⟨⟨fun i j hi hj => msgG_new hj, trivial⟩, rfl, (by repeat' (first | exact (fun i j hi _ => absurd hi (Nat.not_lt_zero _)) | exact trivial | exact rfl | apply And.intro | exact (fun _ _ _ _ => Cell.le_refl _) | (intro i hi; rfl) | (intro i hi; exact absurd hi (Nat.not_lt_zero _)))), (by show List.Nodup []; exact List.nodup_nil), rfl, ?_⟩⟩
            repeat' (first | exact trivial | exact rfl | apply And.intro)
            · exact hp.symm
            · exact fun _ _ _ _ => Cell.le_refl _
        have hb : b2 = 0 := by simpa [Arith.std] using hb
        rw [if_neg (by simp [hb])] at he
        refine Need.mk (show t.length ≤ 140737488351232 by omega) fun _ => ?_
        have hD := decMsg_ok t
        generalize decMsg t = D at *
        obtain ⟨M, e⟩ := D
        dsimp only at *
        refine Ife.mk (fun hb3 => ?_) (fun hb3 => ?_)
        · have hb3 : e ≠ 0 := by simpa [Arith.std] using hb3
          rw [if_pos hb3] at he
          rw [he] at hU
          have hU2 : untxM l = ([], e) := by
            rw [hU]
            exact if_pos hb3
          rw [hU2]
          exact ⟨[], [5], ⟨trivial, rfl, (by repeat' (first | exact (fun i j hi _ => absurd hi (Nat.not_lt_zero _)) | exact trivial | exact rfl | apply And.intro | exact (fun _ _ _ _ => Cell.le_refl _) | (intro i hi; rfl) | (intro i hi; exact absurd hi (Nat.not_lt_zero _)))), (by show List.Nodup []; exact List.nodup_nil), rfl, (by repeat' (first | exact (fun i j hi _ => absurd hi (Nat.not_lt_zero _)) | exact trivial | exact rfl | apply And.intro | exact (fun _ _ _ _ => Cell.le_refl _) | (intro i hi; rfl) | (intro i hi; exact absurd hi (Nat.not_lt_zero _))))⟩⟩
        have hb3 : e = 0 := by simpa [Arith.std] using hb3
        rw [if_neg (by simp [hb3])] at he
        have hn2 : n ≤ 64 := by omega
        have he2 : uGo l N.toNat (A0, B0) [] = uGo l (N.toNat - (n + 1)) (a2, b2) (p ++ [M]) := by
          rw [show N.toNat - (n + 1) = m by omega]
          exact he
        have po2 : ∀ x ∈ p ++ [M], MsgOk x := fun x hx => by
          rcases List.mem_append.1 hx with h | h
          · exact hpo x h
          · rw [List.mem_singleton.1 h]; exact hD
        refine Need.mk ⟨show n + 1 ≤ maxLen ∧ (n + 1) * 240 ≤ 140737488355328 from ⟨by unfold maxLen; omega, by omega⟩, trivial⟩ fun _ => ?_
        refine Need.mk (by show fitStd .i64 ((n : Int) + 1); unfold fitStd; omega) fun _ => ?_
        refine ⟨⟨(n : Int) + 1, n + 1, a2, b2, p ++ [M], by omega, by omega, by simp; omega, z2, po2, he2⟩, [0, 6], (by show N.toNat - (n + 1) < N.toNat - n; omega), ?_⟩
        refine ⟨rfl, by show List.Nodup [0, 6]; decide, by repeat' (first | exact (fun i j hi _ => absurd hi (Nat.not_lt_zero _)) | exact trivial | exact rfl | apply And.intro | exact (fun _ _ _ _ => Cell.le_refl _) | (intro i hi; rfl) | (intro i hi; exact absurd hi (Nat.not_lt_zero _))), ?_⟩
        repeat' (first | exact trivial | exact rfl | apply And.intro)
        exact msgG_push hp M
      · replace hlt : ¬ @Nat.cast Int instNatCastInt n < N := of_decide_eq_false (p := (n : Int) < N) hlt
        rw [show N.toNat - n = 0 by omega] at he
        have he : uGo l N.toNat (A0, B0) [] = (0, p, (a, b)) := he
        rw [he] at hU
        refine Need.mk hok fun _ => Ife.mk (fun h9 => ?_) (fun h9 => ?_)
        · have h9 : endS l a b ≠ 0 := by simpa [Arith.std] using h9
          have hU2 : untxM l = ([], endS l a b) := by
            rw [hU]
            unfold uEnd
            dsimp only
            rw [if_neg (by simp), if_pos h9]
          rw [hU2]
          exact ⟨[], [2], ⟨trivial, rfl, (by repeat' (first | exact (fun i j hi _ => absurd hi (Nat.not_lt_zero _)) | exact trivial | exact rfl | apply And.intro | exact (fun _ _ _ _ => Cell.le_refl _) | (intro i hi; rfl) | (intro i hi; exact absurd hi (Nat.not_lt_zero _)))), (by show List.Nodup []; exact List.nodup_nil), rfl, (by repeat' (first | exact (fun i j hi _ => absurd hi (Nat.not_lt_zero _)) | exact trivial | exact rfl | apply And.intro | exact (fun _ _ _ _ => Cell.le_refl _) | (intro i hi; rfl) | (intro i hi; exact absurd hi (Nat.not_lt_zero _))))⟩⟩
        · have h9 : endS l a b = 0 := by simpa [Arith.std] using h9
          have hU2 : untxM l = (p, 0) := by
            rw [hU]
            unfold uEnd
            dsimp only
            rw [if_neg (by simp), if_neg (by simp [h9])]
          rw [hU2]
          refine ⟨[1], [1], ⟨⟨fun i j hi hj => msgG_new hj, trivial⟩, rfl, (by repeat' (first | exact (fun i j hi _ => absurd hi (Nat.not_lt_zero _)) | exact trivial | exact rfl | apply And.intro | exact (fun _ _ _ _ => Cell.le_refl _) | (intro i hi; rfl) | (intro i hi; exact absurd hi (Nat.not_lt_zero _)))), (by show List.Nodup []; exact List.nodup_nil), rfl, ?_⟩⟩
          repeat' (first | exact trivial | exact rfl | apply And.intro)
          · exact hp.symm
          · exact fun _ _ _ _ => Cell.le_refl _

end Go.Proofs.Ytcgoaicifjndpaa.Vx
end

section
/- Slices of messages that come in, opened. -/
namespace Go.Proofs.Ytcgoaicifjndpaa
open Go.ChangeShapes Go.WideShapes Go.ChangeAt Go.RowKit
set_option linter.unusedVariables false
set_option linter.unusedSimpArgs false
set_option maxRecDepth 100000
section
variable {H : Type} {enc : TypeId × Value → H} {w : World} {base : Nat}
/-- Values that cells show. -/
def ShL (w : World) (D : Bool → Nat → Prop) : List Vx.Cell → List Value → Prop
  | [], [] => True
  | c :: cs, v :: vs => c.shows w D v ∧ ShL w D cs vs
  | _, _ => False
theorem ShL.app {D : Bool → Nat → Prop} : ∀ {a b : List Vx.Cell} {x y : List Value}, ShL w D a x → ShL w D b y → ShL w D (a ++ b) (x ++ y)
  | [], _, [], _, _, h => h
  | _ :: _, _, _ :: _, _, h, k => ⟨h.1, h.2.app k⟩
  | [], _, _ :: _, _, h, _ => absurd h id
  | _ :: _, _, [], _, h, _ => absurd h id
theorem ShL.pl {D : Bool → Nat → Prop} : ∀ {cs : List Vx.CV} {vs : List Value}, Vx.IsL [] cs vs → ShL w D (cs.map Vx.Cell.pl) vs
  | [], [], _ => trivial
  | c :: cs, v :: vs, h => by
    have h : c.den [] :: cs.map (Vx.CV.den []) = some v :: vs.map some := h
    exact ⟨(List.cons.inj h).1, ShL.pl (List.cons.inj h).2⟩
  | [], _ :: _, h => by cases h
  | _ :: _, [], h => by cases h
theorem ShL.get {D : Bool → Nat → Prop} : ∀ {cs : List Vx.Cell} {vs : List Value} {j : Nat}, ShL w D cs vs → j < cs.length → ∃ u, vs[j]? = some u ∧ (cs.getD j (.pl .tt)).shows w D u
  | c :: cs, v :: vs, 0, h, _ => ⟨v, rfl, h.1⟩
  | c :: cs, v :: vs, j + 1, h, hj => by
    obtain ⟨u, h1, h2⟩ := h.2.get (j := j) (by simpa using hj)
    exact ⟨u, by simpa using h1, by simpa using h2⟩
  | [], _, _, _, hj => absurd hj (by simp)
  | _ :: _, [], _, h, _ => absurd h id
theorem MsgIn.sh {l : List Value} {m : Vx.PMsg} (h : MsgIn w l m) : ShL w (fun _ b => b < w.heap.size) (Vx.msgCl false m) l := by
  rw [h.cells]
  unfold Vx.msgCl
  refine ⟨rfl, rfl, rfl, ShL.app (ShL.pl (isL_h32r h.len)) (ShL.app ?_ ⟨rfl, rfl, rfl, rfl, h.pl, rfl, h.cl, trivial⟩)⟩
  exact ShL.pl (cs := Vx.pkC m.pk) (vs := m.pk.cells.toList) rfl
theorem MsgIn.raw {l : List Value} {m : Vx.PMsg} (h : MsgIn w l m) : Vx.MsgRaw m := ⟨h.fits, h.len, h.by', h.ack, h.pok, h.cok⟩
/-- Messages that come in, as data. -/
theorem trod_Msgs {fuel : Nat} {l : List Value} {x : DataW H × List MemPlace} (hf : DataW.trod enc Try.prog w 0 (fun _ => true) true fuel 59 l = some x) :
    ∃ (v : Value) (L : List Vx.PMsg), l = [v] ∧ (Vx.Cell.ns false 74 50 L.length (Vx.msgG false L)).shows w (fun _ b => b < w.heap.size) v ∧ L.length ≤ maxLen ∧ ∀ m ∈ L, Vx.MsgRaw m := by
  obtain ⟨a, cap, xs, e, hsl, hx⟩ := trod_sl (sz := 50) (P := fun l => ∃ m, Nonempty (MsgIn w l m)) (by decide) Try.underlying59 cellsM_Msg (fun fuel l x hl => ⟨by
    obtain ⟨xs, m, _, _, hl, hlen, hff⟩ := DataW.trod_struct Try.underlying74 hl
    rw [cellsM_Msg] at hl
    exact hl, trod_Msg hl⟩) hf
  obtain ⟨f, hf⟩ : ∃ f : Nat → Vx.PMsg, ∀ i (hi : i < xs.length), Nonempty (MsgIn w xs[i] (f i)) := by
    refine ⟨fun i => if h : i < xs.length then Classical.choose (hx xs[i] (List.getElem_mem h)).2 else Vx.zeroMsg, fun i hi => ?_⟩
    dsimp only
    rw [dif_pos hi]
    exact Classical.choose_spec (hx xs[i] (List.getElem_mem hi)).2
  refine ⟨_, (List.range xs.length).map f, e, ⟨a, cap, by simp, by simpa using hsl.cap, fun h0 => ?_⟩, by simpa using hsl.max, fun y hy => ?_⟩
  rotate_left
  · obtain ⟨i, hi, rfl⟩ := List.mem_map.1 hy
    obtain ⟨k⟩ := hf i (by simpa using hi)
    exact k.raw
  obtain ⟨b, off, ha, hb, hc⟩ := hsl.lt (by simpa using h0)
  refine ⟨b, off, ha, hb, fun i j hi hj => ?_⟩
  have hi' : i < xs.length := by simpa using hi
  obtain ⟨k⟩ := hf i hi'
  have el : Vx.gM ((List.range xs.length).map f) i = f i := by simp [Vx.gM, List.getD, hi']
  obtain ⟨u, h1, h2⟩ := k.sh.get (j := j) hj
  refine ⟨u, hc i hi' j u h1, ?_⟩
  unfold Vx.msgG
  rw [el]
  exact h2
theorem open_Msgs {v : Value} {d : DataW H} {p : List MemPlace} (hv : Value.okWide Try.prog w .any base 59 v) (h : DataW.Trod enc Try.prog w 0 (fun _ => true) true 59 v d p) :
    ∃ L : List Vx.PMsg, (Vx.Cell.ns false 74 50 L.length (Vx.msgG false L)).shows w (fun _ b => b < w.heap.size) v ∧ L.length ≤ maxLen ∧ ∀ m ∈ L, Vx.MsgRaw m := by
  obtain ⟨a, n, cap, rfl, _⟩ := okWide_slice Try.underlying59 hv
  obtain ⟨fuel, hf⟩ := h
  simp only [Value.cells] at hf
  obtain ⟨v, L, e, h1, h2, h3⟩ := trod_Msgs hf
  obtain rfl : Value.slice a n cap = v := by simpa using e
  exact ⟨L, h1, h2, h3⟩
/-- Messages that came in, as an entry of a law's start. -/
theorem Vx.Rel.addMsgs {ρ : List Vx.Pl} {h : List Vx.Ent} (r : Vx.Rel w (Vx.Gs.all []) ρ h w) {L : List Vx.PMsg} {v : Value} (hs : (Vx.Cell.ns false 74 50 L.length (Vx.msgG false L)).shows w (fun _ b => b < w.heap.size) v) :
    ∃ q : Vx.Pl, q.v = v ∧ Vx.Rel w (Vx.Gs.all []) (ρ ++ [q]) (h ++ [.data false 74 50 L.length (Vx.msgG false L)]) w := by
  have old : ∀ D' : Bool → Nat → Prop, (∀ b, b < w.heap.size → D' false b) → (Vx.Cell.ns false 74 50 L.length (Vx.msgG false L)).shows w D' v := fun D' hD => by
    have e : (Vx.Cell.ns false 74 50 L.length (Vx.msgG false L)).old = .ns false 74 50 L.length (Vx.msgG false L) := by
      show Vx.Cell.ns false _ _ _ (fun i j => (Vx.msgG false L i j).old) = _
      congr 1
      funext i j
      exact Vx.msgG_old
    have := Vx.Cell.shows_old (D' := D') (fun fr b hb => ⟨hD b hb, rfl⟩) hs
    rwa [e] at this
  have hs0 := hs
  obtain ⟨a, cap, h1, h2, h3⟩ := hs0
  by_cases hn : 0 < L.length
  · obtain ⟨b, o, ha, _, _⟩ := h3 hn
    exact ⟨⟨b, v, o⟩, rfl, r.addS (en := .data false _ 50 L.length (Vx.msgG false L)) (q := ⟨b, v, o⟩) rfl ⟨a, cap, h1, h2, fun _ => ha⟩ fun _ => old _ fun b hb => Or.inl ⟨hb, by simp, trivial⟩⟩
  · exact ⟨⟨0, v, 0⟩, rfl, r.addS (en := .data false _ 50 L.length (Vx.msgG false L)) (q := ⟨0, v, 0⟩) rfl ⟨a, cap, h1, h2, fun h => absurd h hn⟩ fun _ => old _ fun b hb => Or.inl ⟨hb, by simp, trivial⟩⟩
end
end Go.Proofs.Ytcgoaicifjndpaa
end

section
/- The law TxTells, by the walker. -/
namespace Go.Proofs.Ytcgoaicifjndpaa.Vx
open Go.RowKit
set_option linter.unusedVariables false
set_option linter.unusedSimpArgs false
theorem lightMs_ok {L : List PMsg} (h : lightMs L = true) (hr : ∀ m ∈ L, MsgRaw m) : L.length ≤ 70 ∧ ∀ m ∈ L, MsgOk m := by
  unfold lightMs at h
  simp only [Bool.and_eq_true, decide_eq_true_iff] at h
  refine ⟨h.1, fun m hm => ?_⟩
  obtain ⟨i, hi, rfl⟩ := List.getElem_of_mem hm
  have := List.all_eq_true.1 h.2 i (List.mem_range.2 hi)
  rw [gM_eq hi] at this
  exact (hr _ hm).ok this
theorem sameMs_self (L : List PMsg) : sameMs L L = true := decide_eq_true rfl
theorem msgs_den {w : World} {L : List PMsg} {v : Value} {ρ : List Pl} {k : Nat} {q : Pl} (hs : (Cell.ns false 74 50 L.length (msgG false L)).shows w (fun _ b => b < w.heap.size) v) (hq : q.v = v) (hk : ρ[k]? = some q := by rfl) : CV.den ρ (.row k) = some v := by
  obtain ⟨a, cap, h1, -⟩ := hs
  simp only [CV.den, hk]
  rw [hq, h1]
  rfl
theorem msgsPre0_law {L : List PMsg} (h : ∀ m ∈ L, MsgRaw m) (hl : L.length ≤ 9223372036854775807) : msgsPre0 74 50 L.length (msgG false L) := by
  have e : msgsL L.length (msgG false L) = L := msgsL_eq rfl (fun m hm => (h m hm).raw) fun _ _ _ _ => rfl
  exact ⟨rfl, rfl, fun i j _ _ => by rw [e], by rw [e]; exact h, hl⟩
attribute [local cbv_opaque] lK lV lI lP lN pG leafL leafOf leavesPre hsL rN plainM msgPre lenL nextB between sameM mayM msgOf mayPkt wN wT wH wLeaf wPath wLeaves wProof wPk wMsg wMsgPre prWPre hashOf putW numW numBad textW fitNum fitText fitPut fitPk isI64 msgB encMsg bytesW badW Pkt.fits rMsg decMsg Leb.next okRd endS noRt zeroMsg lightM msgPre0 leavesAt0 lawPre rHash rLeaf rProof numsOf hashS byteI textS numS countS lenH rPk rHdr gM msgsL msgsPre msgsPre0 lightMs lightMAt sameMs sameMAt txM txB flatE textB Leb.put uGo uEnd untxM lenM
def sTxTells : SpecF
  | [.c (.row 0), .c (.str s)], [.data false ty sz n get] => some (msgsPre0 ty sz n get ∧ s.length ≤ 9223372036854775807, .c .tt, [.dead])
  | _, _ => none

set_option maxRecDepth 100000 in
set_option maxHeartbeats 32000000 in
theorem txTellsP : Fn Try.prog 15 [] [(74, 250)] sTxTells := by
  have hC : CtsOk Try.prog [(60, appPure sTrue8), (44, appFn [] [(74, 250)] sLightMs), (69, appFn [] [(74, 250)] sTxM), (70, appFn [] [(74, 250)] sTxM), (71, appFn [] [] sUntxM), (72, appFn [] [] sUntxM), (73, appFn [] [(74, 250), (74, 250)] sSameMs)] := CtsOk.cons (Pure.ct first8P) <| CtsOk.cons (Fn.ct lightMsP) <| CtsOk.cons (Fn.ct txMP) <| CtsOk.cons (Fn.ct rtxMP) <| CtsOk.cons (Fn.ct untxP) <| CtsOk.cons (Fn.ct runtxP) <| CtsOk.cons (Fn.ct sameMsP) <| CtsOk.nil _
  refine Fn.of (E := tbR) [] 0 [] tbR_ok hC (by kernel_rfl) Try.func15 rfl rfl rfl (by kernel_rfl) (by kernel_rfl) 1 5 1 ?_ ?_
  · intro args h pre r h' hs
    unfold sTxTells at hs
    split at hs
    · cases hs; exact ⟨rfl, rfl, Nat.le_of_ble_eq_true rfl⟩
    · cases hs
  · intro args h pre r h' hs hp
    unfold sTxTells at hs
    split at hs
    rotate_left
    · cases hs
    rename_i s ty sz n get
    cases hs
    obtain ⟨⟨rfl, rfl, hst, hraw, hm⟩, hs⟩ := hp
    have k0 := msgs0 hst hraw
    refine ⟨[.data false 74 50 n (msgG false (msgsL n get))], ⟨⟨rfl, rfl, rfl, rfl, fun i j hi hj => by rw [hst i j hi hj]; exact Cell.le_refl _⟩, trivial⟩, ?_⟩
    have hL : (msgsL n get).length = n := msgsL_len
    generalize msgsL n get = L at *
    clear hst
    have hrw := gM_all hraw zero_raw
    unfold sTrue8 sLightMs sTxM sUntxM sSameMs
    generalize hg0 : (List.length : List UInt8 → Nat) = g0
    generalize hL : lft Try.prog _ = L
    generalize hA : Arith.std = A
    set_option cbv.maxSteps 20000000 in cbv
    subst hA hg0 hL
    refine Need.mk trivial fun _ => ?_
    refine Need.mk (msgsPre0_n hL hraw hm) fun _ => ?_
    rw [k0]
    refine Ife.mk (fun hl => ?_) (fun hl => ?_)
    · refine Need.mk trivial fun _ => ?_
      exact ⟨[0], ⟨rfl, by repeat' (first | exact trivial | exact rfl | apply And.intro | exact (fun _ _ _ _ => Cell.le_refl _) | (intro i hi; rfl) | (intro i hi; exact absurd hi (Nat.not_lt_zero _))), by decide, rfl, by repeat' (first | exact trivial | exact rfl | apply And.intro | exact (fun _ _ _ _ => Cell.le_refl _) | (intro i hi; rfl) | (intro i hi; exact absurd hi (Nat.not_lt_zero _)))⟩⟩
    replace hl : (!lightMs L) = false := hl
    rw [Bool.not_eq_false'] at hl
    obtain ⟨hn, hok⟩ := lightMs_ok hl hraw
    have hn : n ≤ 70 := by omega
    refine Ife.mk (fun h => ?_) (fun h => ?_)
    · refine Need.mk trivial fun _ => ?_
      exact ⟨[0], ⟨rfl, by repeat' (first | exact trivial | exact rfl | apply And.intro | exact (fun _ _ _ _ => Cell.le_refl _) | (intro i hi; rfl) | (intro i hi; exact absurd hi (Nat.not_lt_zero _))), by decide, rfl, by repeat' (first | exact trivial | exact rfl | apply And.intro | exact (fun _ _ _ _ => Cell.le_refl _) | (intro i hi; rfl) | (intro i hi; exact absurd hi (Nat.not_lt_zero _)))⟩⟩
    replace h : ¬ (8000 : Int) < (s.length : Int) := of_decide_eq_false (p := (8000 : Int) < (s.length : Int)) h
    have hs' : s.length ≤ 8000 := by omega
    have pm := msgsPre_n (fr := false) hL hok (by omega : n ≤ 1000000)
    refine Need.mk pm fun _ => Need.mk pm fun _ => ?_
    have hsl : s.length ≤ 9223372036854775807 := by omega
    refine Need.mk hsl fun _ => Need.mk hsl fun _ => ?_
    refine Ife.yes (by first | exact decide_eq_true rfl | exact beq_self_eq_true _) ?_
    refine Ife.yes (by first | exact decide_eq_true rfl | exact beq_self_eq_true _) ?_
    have hU := untxM_ok s
    generalize untxM s = U at hU ⊢
    obtain ⟨U, e⟩ := U
    dsimp only at hU ⊢
    have pu := msgsPre_n (fr := true) (n := lenM U) rfl hU.1 (Nat.le_trans hU.2 (by omega))
    have eu := msgsL_n (fr := true) (n := lenM U) rfl hU.1
    refine Need.mk ⟨pu, pu⟩ fun _ => ?_
    refine Ife.yes ((congr (congrArg sameMs eu) eu).trans (sameMs_self U)) ?_
    exact ⟨[0], ⟨rfl, by repeat' (first | exact trivial | exact (decide_eq_true rfl) | exact (congrArg CV.bool (decide_eq_true rfl)) | exact (congrArg (fun b => SV.c (CV.bool b)) (decide_eq_true rfl)) | exact rfl | apply And.intro | exact (fun _ _ _ _ => Cell.le_refl _) | (intro i hi; rfl) | (intro i hi; exact absurd hi (Nat.not_lt_zero _))), by decide, rfl, by repeat' (first | exact trivial | exact (decide_eq_true rfl) | exact (congrArg CV.bool (decide_eq_true rfl)) | exact (congrArg (fun b => SV.c (CV.bool b)) (decide_eq_true rfl)) | exact rfl | apply And.intro | exact (fun _ _ _ _ => Cell.le_refl _) | (intro i hi; rfl) | (intro i hi; exact absurd hi (Nat.not_lt_zero _)))⟩⟩

end Go.Proofs.Ytcgoaicifjndpaa.Vx
namespace Go.Proofs.Ytcgoaicifjndpaa
open Go.RowKit
set_option linter.unusedVariables false
theorem txTellsWalk (w : World) (v : Value) (L : List Vx.PMsg) (hv : (Vx.Cell.ns false 74 50 L.length (Vx.msgG false L)).shows w (fun _ b => b < w.heap.size) v) (hn : L.length ≤ maxLen) (hr : ∀ m ∈ L, Vx.MsgRaw m) (s : ByteArray) (hs : s.size ≤ maxLen) :
    Calls Try.prog 15 #[v, .string s] w fun e w' => e = .returned (.bool true) ∧ Below w.heap.size w w' := by
  obtain ⟨b, rfl, hl⟩ := bytesOf s hs
  obtain ⟨q, hq, r1⟩ := Vx.Rel.addMsgs (Vx.Rel.refl w) hv
  have d : Vx.CV.den [q] (.row 0) = some v := Vx.msgs_den hv hq
  refine Calls.mono (Vx.txTellsP.run [.c (.row 0), .c (.str b)] [.data false 74 50 L.length (Vx.msgG false L)] _ _ _ rfl ⟨Vx.msgsPre0_law hr hn, hl⟩ [q] w _ r1 ⟨_, _, rfl, d, _, _, rfl, rfl, rfl⟩) fun e W' he => ?_
  obtain ⟨u, ρ', rfl, hu, hr⟩ := he
  obtain rfl : .bool true = u := Option.some.inj hu
  exact ⟨rfl, Vx.Rel.toBelow hr⟩
end Go.Proofs.Ytcgoaicifjndpaa
end
