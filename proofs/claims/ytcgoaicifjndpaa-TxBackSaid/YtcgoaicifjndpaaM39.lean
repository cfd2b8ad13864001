/- The document's transactions as bytes, by the walker. -/
import Derived.Test.YtcgoaicifjndpaaM38
import Derived.Test.YtcgoaicifjndpaaM32
import Derived.Test.YtcgoaicifjndpaaM34
section
namespace Go.Proofs.Ytcgoaicifjndpaa.Vx
open Go.RowKit
set_option linter.unusedVariables false
set_option linter.unusedSimpArgs false

end Go.Proofs.Ytcgoaicifjndpaa.Vx
end

section
/- Transactions read, by the walker. -/
namespace Go.Proofs.Ytcgoaicifjndpaa.Vx
open Go.RowKit
set_option linter.unusedVariables false
set_option linter.unusedSimpArgs false
/-- The rounds of a reader of messages: the error of one that is none, the messages, the state. -/
def uGo (l : List UInt8) : Nat → Int × Int → List PMsg → Int × List PMsg × Int × Int
  | 0, s, p => (0, p, s)
  | n + 1, s, p => if (textS l s.1 s.2 1048576).2.2 ≠ 0 then (0, p, (textS l s.1 s.2 1048576).2)
    else if (decMsg (textS l s.1 s.2 1048576).1).2 ≠ 0 then ((decMsg (textS l s.1 s.2 1048576).1).2, p, (textS l s.1 s.2 1048576).2)
    else uGo l n (textS l s.1 s.2 1048576).2 (p ++ [(decMsg (textS l s.1 s.2 1048576).1).1])
def uEnd (l : List UInt8) (r : Int × List PMsg × Int × Int) : List PMsg × Int :=
  if r.1 ≠ 0 then ([], r.1) else if endS l r.2.2.1 r.2.2.2 ≠ 0 then ([], endS l r.2.2.1 r.2.2.2) else (r.2.1, 0)
def untxM (l : List UInt8) : List PMsg × Int :=
  if 1048576 < l.length then ([], 21)
  else if 64 < (numS l 0 0 0 72057594037927935).1 then ([], 22)
  else uEnd l (uGo l (numS l 0 0 0 72057594037927935).1.toNat (numS l 0 0 0 72057594037927935).2 [])
theorem msgCl_new {m : PMsg} : ∀ c ∈ msgCl true m, c.isNew := by
  intro c hc
  simp only [msgCl, msgClP, h32, pkC, List.map, List.cons_append, List.nil_append, List.mem_cons, List.not_mem_nil, or_false] at hc
  rcases hc with rfl | rfl | rfl | rfl | rfl | rfl | rfl | rfl | rfl | rfl | rfl | rfl | rfl | rfl | rfl | rfl | rfl | rfl | rfl | rfl | rfl | rfl | rfl | rfl | rfl | rfl | rfl | rfl | rfl | rfl | rfl | rfl | rfl | rfl | rfl | rfl | rfl | rfl | rfl | rfl | rfl | rfl | rfl | rfl | rfl | rfl | rfl | rfl | rfl | rfl <;> first | trivial | exact rfl
theorem msgG_new {L : List PMsg} {i j : Nat} (hj : j < 50) : (msgG true L i j).isNew := by
  have hl : j < (msgCl true (gM L i)).length := hj
  simp only [msgG_eq]
  rw [List.getD_eq_getElem?_getD, List.getElem?_eq_getElem hl]
  exact msgCl_new _ (List.getElem_mem hl)
theorem msgG_push {p : List PMsg} {n : Nat} (hn : p.length = n) (x : PMsg) : ∀ i j, i < n + 1 → j < 50 → Cell.le (pushC n (msgG true p) (msgCl true x) i j) (msgG true (p ++ [x]) i j) := fun i j hi hj => by
  subst hn
  unfold pushC
  cases hb : Nat.blt i p.length with
  | true =>
    rw [Nat.blt_eq] at hb
    have e : gM (p ++ [x]) i = gM p i := by
      unfold gM
      rw [List.getD_eq_getElem?_getD, List.getD_eq_getElem?_getD, List.getElem?_append_left hb]
    show Cell.le (msgG true p i j) _
    simp only [msgG_eq]
    rw [e]
    exact Cell.le_refl _
  | false =>
    have hb : ¬ i < p.length := fun h => by rw [← Nat.blt_eq, hb] at h; cases h
    obtain rfl : i = p.length := by omega
    have e : gM (p ++ [x]) p.length = x := by simp [gM, List.getD]
    simp only [msgG_eq]
    rw [e]
    exact Cell.le_refl _
/-- So many messages are read. -/
structure LUn (l : List UInt8) (N : Nat) (s0 : Int × Int) where
  i : Int
  n : Nat
  a : Int
  b : Int
  p : List PMsg
  hn : i = (n : Int)
  h1 : n ≤ N
  hp : p.length = n
  ok : okRd l a b
  po : ∀ m ∈ p, MsgOk m
  he : uGo l N s0 [] = uGo l (N - n) (a, b) p
def lenM (L : List PMsg) : Nat := L.length
def sUntxM : SpecF
  | [.c (.str l)], [] => some (l.length ≤ 9223372036854775807, .tup [(some (.row 0), []), (some (.int .i64 (untxM l).2), [])], [.data true 74 50 (lenM (untxM l).1) (msgG true (untxM l).1)])
  | _, _ => none

set_option maxRecDepth 100000 in
set_option maxHeartbeats 16000000 in
theorem untxP : Fn Try.prog 71 [] [] sUntxM := by
  have hC : CtsOk Try.prog [(113, appMakes 196 sOf), (134, appMeth 196 sRdNum), (135, appMeth 196 sRdText), (136, appMeth 196 sRdErr), (62, appFn [] [] sDecM), (115, appMeth 196 sRdEnd)] := CtsOk.cons (Makes.ct ofP) <| CtsOk.cons (Meth.ct rdNumP) <| CtsOk.cons (Meth.ct rdTextP) <| CtsOk.cons (Meth.ct rdErrP) <| CtsOk.cons (Fn.ct decMP) <| CtsOk.cons (Meth.ct rdEndP) <| CtsOk.nil _
  refine Fn.ofZ (E := tbR) [] 0 [] tbR_ok hC (by kernel_rfl) Try.func71 rfl rfl rfl (by kernel_rfl) (by kernel_rfl) 0 (.data true 74 50 0 fun _ _ => .pl .tt) rfl ?_ ?_
  · intro args h pre r h' hs
    unfold sUntxM at hs
    split at hs
    · cases hs; exact ⟨rfl, rfl, Nat.le_of_ble_eq_true rfl⟩
    · cases hs
  · intro args h pre r h' hs hp
    unfold sUntxM at hs
    split at hs
    rotate_left
    · cases hs
    rename_i l
    cases hs
    refine ⟨[], trivial, ?_⟩
    unfold sRdNum sRdText sOf sRdEnd sRdErr sDecM
    generalize hg0 : (List.length : List UInt8 → Nat) = g0
    generalize hL : lft Try.prog _ = L
    try unfold leafG
    try unfold msgCl
    try unfold msgG
    try unfold msgC
    generalize ho0 : @lK = zo0, ho1 : @lV = zo1, ho2 : @lI = zo2, ho3 : @lP = zo3, ho4 : @lN = zo4, ho5 : @pG = zo5, ho6 : @rN = zo6, ho7 : @lenL = zo7, ho8 : @decMsg = zo8, ho9 : @okRd = zo9, ho10 : @endS = zo10, ho11 : @textS = zo11, ho12 : @numS = zo12, ho13 : @gM = zo13, ho14 : @uGo = zo14, ho15 : @uEnd = zo15, ho16 : @untxM = zo16, ho17 : @lenM = zo17
    generalize hA : Arith.std = A
    cbv
    subst hA hg0 hL ho0 ho1 ho2 ho3 ho4 ho5 ho6 ho7 ho8 ho9 ho10 ho11 ho12 ho13 ho14 ho15 ho16 ho17
    refine Ife.mk (fun h => ?_) (fun h => ?_)
    · replace h : (1048576 : Int) < (l.length : Int) := of_decide_eq_true (p := (1048576 : Int) < (l.length : Int)) h
      rw [show untxM l = ([], 21) from if_pos (by omega)]
      exact ⟨[], [0], ⟨trivial, rfl, (by repeat' (first | exact (fun i j hi _ => absurd hi (Nat.not_lt_zero _)) | exact trivial | exact rfl | apply And.intro | exact (fun _ _ _ _ => Cell.le_refl _) | (intro i hi; rfl) | (intro i hi; exact absurd hi (Nat.not_lt_zero _)))), (by show List.Nodup []; exact List.nodup_nil), rfl, (by repeat' (first | exact (fun i j hi _ => absurd hi (Nat.not_lt_zero _)) | exact trivial | exact rfl | apply And.intro | exact (fun _ _ _ _ => Cell.le_refl _) | (intro i hi; rfl) | (intro i hi; exact absurd hi (Nat.not_lt_zero _))))⟩⟩
    replace h : ¬ (1048576 : Int) < (l.length : Int) := of_decide_eq_false (p := (1048576 : Int) < (l.length : Int)) h
    have hl : l.length ≤ 1048576 := by omega
    have hok := ok_start (l := l) (by omega)
    have hU : untxM l = if 64 < (numS l 0 0 0 72057594037927935).1 then ([], 22) else uEnd l (uGo l (numS l 0 0 0 72057594037927935).1.toNat (numS l 0 0 0 72057594037927935).2 []) := if_neg (by omega)
    have z1 := ok_num (lo := 0) (hi := 72057594037927935) hok
    have kr := numS_rng l 0 0 0 72057594037927935
    refine Need.mk trivial fun _ => Need.mk hok fun _ => ?_
    generalize numS l 0 0 0 72057594037927935 = t at *
    obtain ⟨N, A0, B0⟩ := t
    dsimp only at *
    refine Ife.mk (fun h64 => ?_) (fun h64 => ?_)
    · replace h64 : (64 : Int) < N := of_decide_eq_true (p := (64 : Int) < N) h64
      rw [hU, if_pos h64]
      exact ⟨[], [1], ⟨trivial, rfl, (by repeat' (first | exact (fun i j hi _ => absurd hi (Nat.not_lt_zero _)) | exact trivial | exact rfl | apply And.intro | exact (fun _ _ _ _ => Cell.le_refl _) | (intro i hi; rfl) | (intro i hi; exact absurd hi (Nat.not_lt_zero _)))), (by show List.Nodup []; exact List.nodup_nil), rfl, (by repeat' (first | exact (fun i j hi _ => absurd hi (Nat.not_lt_zero _)) | exact trivial | exact rfl | apply And.intro | exact (fun _ _ _ _ => Cell.le_refl _) | (intro i hi; rfl) | (intro i hi; exact absurd hi (Nat.not_lt_zero _))))⟩⟩
    replace h64 : ¬ (64 : Int) < N := of_decide_eq_false (p := (64 : Int) < N) h64
    rw [if_neg h64] at hU
    have hN0 : 0 ≤ N := by omega
    refine Runs.nilTmpE 6 (.orow 74 50 0 (msgG true [])) rfl rfl ?_
    show Runs Try.prog 0 (.loop _) _ _
    refine loop_ruleL (N := env (lft Try.prog 0) 0 .std tbR [(113, appMakes 196 sOf), (134, appMeth 196 sRdNum), (135, appMeth 196 sRdText), (136, appMeth 196 sRdErr), (62, appFn [] [] sDecM), (115, appMeth 196 sRdEnd)] []) rfl tbR_ok hC (fun c st K _ h => h) (by kernel_rfl) [] (X := LUn l N.toNat (A0, B0))
      (S := fun x => ⟨[.any, .any, .any, .any, .c (.ptr 0 0), .c (.int .i64 N), .c (.row 1), .any, .any, .any, .any, .any, .any, .any, .any, .any, .any, .any, .any, .any, .c (.int .i64 N), .c (.int .i64 x.i)] ++ List.replicate 25 .any, [.cells 196 [.str l, .int .i64 x.a, .int .i64 x.b], .orow 74 50 x.n (msgG true x.p)]⟩) (μ := fun x => N.toNat - x.n) ⟨0, 0, A0, B0, [], rfl, by omega, rfl, z1, fun m hm => absurd hm (by simp), rfl⟩ (by kernel_rfl) [0, 1] ?_ ?_
    · refine ⟨rfl, by show List.Nodup [0, 1]; decide, ?_, ?_⟩ <;> repeat' (first | exact trivial | exact rfl | apply And.intro | exact (fun _ _ _ _ => Cell.le_refl _) | (intro i hi; rfl) | (intro i hi; exact absurd hi (Nat.not_lt_zero _)))
    rintro ⟨i, n, a, b, p, hn, hnN, hp, hok, hpo, he⟩
    replace hn : i = @Nat.cast Int instNatCastInt n := hn
    subst hn
    unfold sRdNum sRdText sOf sRdEnd sRdErr sDecM
    generalize hg0 : (List.length : List UInt8 → Nat) = g0
    generalize hL : lft Try.prog _ = L
    try dsimp only
    try unfold leafG
    try unfold msgCl
    try unfold msgG
    try unfold msgC
    generalize ho0 : @lK = zo0, ho1 : @lV = zo1, ho2 : @lI = zo2, ho3 : @lP = zo3, ho4 : @lN = zo4, ho5 : @pG = zo5, ho6 : @rN = zo6, ho7 : @lenL = zo7, ho8 : @decMsg = zo8, ho9 : @okRd = zo9, ho10 : @endS = zo10, ho11 : @textS = zo11, ho12 : @numS = zo12, ho13 : @gM = zo13, ho14 : @uGo = zo14, ho15 : @uEnd = zo15, ho16 : @untxM = zo16, ho17 : @lenM = zo17
    generalize hA : Arith.std = A
    cbv
    subst hA hg0 hL ho0 ho1 ho2 ho3 ho4 ho5 ho6 ho7 ho8 ho9 ho10 ho11 ho12 ho13 ho14 ho15 ho16 ho17
    replace hok : okRd l a b := hok
    refine Ife.mk (fun hlt => ?_) (fun hlt => ?_)
    · replace hlt : @Nat.cast Int instNatCastInt n < N := of_decide_eq_true (p := (n : Int) < N) hlt
      refine Need.mk hok fun _ => Need.mk trivial fun _ => ?_
      have z2 := ok_text (hi := 1048576) hok
      have tl := text_len l a b 1048576
      obtain ⟨m, hm⟩ : ∃ m, N.toNat - n = m + 1 := ⟨N.toNat - n - 1, by omega⟩
      have hg : uGo l (m + 1) (a, b) p = (if (textS l a b 1048576).2.2 ≠ 0 then (0, p, (textS l a b 1048576).2) else if (decMsg (textS l a b 1048576).1).2 ≠ 0 then ((decMsg (textS l a b 1048576).1).2, p, (textS l a b 1048576).2) else uGo l m (textS l a b 1048576).2 (p ++ [(decMsg (textS l a b 1048576).1).1])) := rfl
      rw [hm, hg] at he
      clear hg
      generalize textS l a b 1048576 = t at *
      obtain ⟨t, a2, b2⟩ := t
      dsimp only at *
      refine Ife.mk (fun hb => ?_) (fun hb => ?_)
      · have hb : b2 ≠ 0 := by simpa [Arith.std] using hb
        rw [if_pos hb] at he
        rw [he] at hU
        refine Need.mk z2 fun _ => Ife.mk (fun h9 => ?_) (fun h9 => ?_)
        · have h9 : endS l a2 b2 ≠ 0 := by simpa [Arith.std] using h9
          have hU2 : untxM l = ([], endS l a2 b2) := by
            rw [hU]
            unfold uEnd
            try dsimp only
            rw [if_neg (by simp), if_pos h9]
          rw [hU2]
          exact ⟨[], [2], ⟨trivial, rfl, (by repeat' (first | exact (fun i j hi _ => absurd hi (Nat.not_lt_zero _)) | exact trivial | exact rfl | apply And.intro | exact (fun _ _ _ _ => Cell.le_refl _) | (intro i hi; rfl) | (intro i hi; exact absurd hi (Nat.not_lt_zero _)))), (by show List.Nodup []; exact List.nodup_nil), rfl, (by repeat' (first | exact (fun i j hi _ => absurd hi (Nat.not_lt_zero _)) | exact trivial | exact rfl | apply And.intro | exact (fun _ _ _ _ => Cell.le_refl _) | (intro i hi; rfl) | (intro i hi; exact absurd hi (Nat.not_lt_zero _))))⟩⟩
        · have h9 : endS l a2 b2 = 0 := by simpa [Arith.std] using h9
          have hU2 : untxM l = (p, 0) := by
            rw [hU]
            unfold uEnd
            try dsimp only
            rw [if_neg (by simp), if_neg (by simp [h9])]
          rw [hU2]
          refine ⟨[1], [1], ⟨⟨fun i j hi hj => msgG_new hj, trivial⟩, rfl, (by repeat' (first | exact (fun i j hi _ => absurd hi (Nat.not_lt_zero _)) | exact trivial | exact rfl | apply And.intro | exact (fun _ _ _ _ => Cell.le_refl _) | (intro i hi; rfl) | (intro i hi; exact absurd hi (Nat.not_lt_zero _)))), (by show List.Nodup []; exact List.nodup_nil), rfl, ?_⟩⟩
          repeat' (first | exact trivial | exact rfl | apply And.intro)
          · exact hp.symm
          · exact fun _ _ _ _ => Cell.le_refl _
      have hb : b2 = 0 := by simpa [Arith.std] using hb
      rw [if_neg (by simp [hb])] at he
      refine Need.mk (show t.length ≤ 140737488351232 by omega) fun _ => ?_
      have hD := decMsg_ok t
      generalize decMsg t = D at *
      obtain ⟨M, e⟩ := D
      dsimp only at *
      refine Ife.mk (fun hb3 => ?_) (fun hb3 => ?_)
      · have hb3 : e ≠ 0 := by simpa [Arith.std] using hb3
        rw [if_pos hb3] at he
        rw [he] at hU
        have hU2 : untxM l = ([], e) := by
          rw [hU]
          exact if_pos hb3
        rw [hU2]
        exact ⟨[], [5], ⟨trivial, rfl, (by repeat' (first | exact (fun i j hi _ => absurd hi (Nat.not_lt_zero _)) | exact trivial | exact rfl | apply And.intro | exact (fun _ _ _ _ => Cell.le_refl _) | (intro i hi; rfl) | (intro i hi; exact absurd hi (Nat.not_lt_zero _)))), (by show List.Nodup []; exact List.nodup_nil), rfl, (by repeat' (first | exact (fun i j hi _ => absurd hi (Nat.not_lt_zero _)) | exact trivial | exact rfl | apply And.intro | exact (fun _ _ _ _ => Cell.le_refl _) | (intro i hi; rfl) | (intro i hi; exact absurd hi (Nat.not_lt_zero _))))⟩⟩
      have hb3 : e = 0 := by simpa [Arith.std] using hb3
      rw [if_neg (by simp [hb3])] at he
      have hn2 : n ≤ 64 := by omega
      have he2 : uGo l N.toNat (A0, B0) [] = uGo l (N.toNat - (n + 1)) (a2, b2) (p ++ [M]) := by
        rw [show N.toNat - (n + 1) = m by omega]
        exact he
      have po2 : ∀ x ∈ p ++ [M], MsgOk x := fun x hx => by
        rcases List.mem_append.1 hx with h | h
        · exact hpo x h
        · rw [List.mem_singleton.1 h]; exact hD
      refine Need.mk ⟨show n + 1 ≤ maxLen ∧ (n + 1) * 240 ≤ 140737488355328 from ⟨by unfold maxLen; omega, by omega⟩, trivial⟩ fun _ => ?_
      refine Need.mk (by show fitStd .i64 ((n : Int) + 1); unfold fitStd; omega) fun _ => ?_
      refine ⟨⟨(n : Int) + 1, n + 1, a2, b2, p ++ [M], by omega, by omega, by simp; omega, z2, po2, he2⟩, [0, 6], (by show N.toNat - (n + 1) < N.toNat - n; omega), ?_⟩
      refine ⟨rfl, by show List.Nodup [0, 6]; decide, by repeat' (first | exact (fun i j hi _ => absurd hi (Nat.not_lt_zero _)) | exact trivial | exact rfl | apply And.intro | exact (fun _ _ _ _ => Cell.le_refl _) | (intro i hi; rfl) | (intro i hi; exact absurd hi (Nat.not_lt_zero _))), ?_⟩
      repeat' (first | exact trivial | exact rfl | apply And.intro)
      exact msgG_push hp M
    · replace hlt : ¬ @Nat.cast Int instNatCastInt n < N := of_decide_eq_false (p := (n : Int) < N) hlt
      rw [show N.toNat - n = 0 by omega] at he
      have he : uGo l N.toNat (A0, B0) [] = (0, p, (a, b)) := he
      rw [he] at hU
      refine Need.mk hok fun _ => Ife.mk (fun h9 => ?_) (fun h9 => ?_)
      · have h9 : endS l a b ≠ 0 := by simpa [Arith.std] using h9
        have hU2 : untxM l = ([], endS l a b) := by
          rw [hU]
          unfold uEnd
          try dsimp only
          rw [if_neg (by simp), if_pos h9]
        rw [hU2]
        exact ⟨[], [2], ⟨trivial, rfl, (by repeat' (first | exact (fun i j hi _ => absurd hi (Nat.not_lt_zero _)) | exact trivial | exact rfl | apply And.intro | exact (fun _ _ _ _ => Cell.le_refl _) | (intro i hi; rfl) | (intro i hi; exact absurd hi (Nat.not_lt_zero _)))), (by show List.Nodup []; exact List.nodup_nil), rfl, (by repeat' (first | exact (fun i j hi _ => absurd hi (Nat.not_lt_zero _)) | exact trivial | exact rfl | apply And.intro | exact (fun _ _ _ _ => Cell.le_refl _) | (intro i hi; rfl) | (intro i hi; exact absurd hi (Nat.not_lt_zero _))))⟩⟩
      · have h9 : endS l a b = 0 := by simpa [Arith.std] using h9
        have hU2 : untxM l = (p, 0) := by
          rw [hU]
          unfold uEnd
          try dsimp only
          rw [if_neg (by simp), if_neg (by simp [h9])]
        rw [hU2]
        refine ⟨[1], [1], ⟨⟨fun i j hi hj => msgG_new hj, trivial⟩, rfl, (by repeat' (first | exact (fun i j hi _ => absurd hi (Nat.not_lt_zero _)) | exact trivial | exact rfl | apply And.intro | exact (fun _ _ _ _ => Cell.le_refl _) | (intro i hi; rfl) | (intro i hi; exact absurd hi (Nat.not_lt_zero _)))), (by show List.Nodup []; exact List.nodup_nil), rfl, ?_⟩⟩
        repeat' (first | exact trivial | exact rfl | apply And.intro)
        · exact hp.symm
        · exact fun _ _ _ _ => Cell.le_refl _

end Go.Proofs.Ytcgoaicifjndpaa.Vx
end

section
/- Transactions, plainly: what is written is read back, what is read is written so; a message that may be is short. -/
namespace Go.Proofs.Ytcgoaicifjndpaa.Vx
open Go.RowKit
set_option linter.unusedVariables false
set_option linter.unusedSimpArgs false
theorem ifB_len {c : Bool} {l : List UInt8} {V W : Prop} {k : Nat} (h : if c then V else W) (hv : V → l.length ≤ k) : (if c then l else []).length ≤ k := by
  cases c
  · exact Nat.zero_le _
  · exact hv h
theorem leafB_small {x : PLeaf} (h : leafV x) : (leafB x).length ≤ 1300 := by
  obtain ⟨h1, h2, h3, h4, h5⟩ := h
  have a1 := textB_len x.k
  have a2 := textB_len x.v
  have a3 := Leb.put_len_le x.i
  have a4 := Leb.put_len_le (x.p.length : Int)
  have a5 := flatE_le (E := hashOf) (c := 32) (p := x.p) fun h hh => by rw [hashOf_len, (h5 h hh).1]; omega
  unfold leafB
  simp only [List.length_append]
  omega
theorem proofB_small {p : Int × List PLeaf} (h : proofV p) : (proofB p).length ≤ 2700 := by
  obtain ⟨h1, h2, h3⟩ := h
  have a3 := Leb.put_len_le p.1
  have a4 := Leb.put_len_le (p.2.length : Int)
  have a5 := flatE_le (E := leafB) (c := 1300) (p := p.2) fun x hx => leafB_small (h3 x hx)
  unfold proofB
  simp only [List.length_append]
  omega
theorem pkB_small {p : Pkt} (h : pkV p) : (pkB p).length ≤ 400 := by
  obtain ⟨⟨h1, -⟩, ⟨h2, -⟩, -, h3, -⟩ := h
  have a1 := textB_len p.sp
  have a2 := textB_len p.dp
  have a3 := textB_len p.data
  have b1 := Leb.put_len_le p.sc
  have b2 := Leb.put_len_le p.dc
  have b3 := Leb.put_len_le p.seq
  have b4 := Leb.put_len_le p.th
  have b5 := Leb.put_len_le p.ta
  unfold pkB
  simp only [List.length_append]
  omega
theorem hdrB_small {z : Int × Int × List Int} (h : hdrV z) : (hdrB z).length ≤ 50 := by
  have a3 := Leb.put_len_le z.1
  have a4 := Leb.put_len_le z.2.1
  have a5 := hashOf_len z.2.2
  have a6 := h.2.2.1
  unfold hdrB
  simp only [List.length_append]
  omega
theorem msgB_small {m : PMsg} (h : msgV m) : (msgB m).length ≤ 6500 := by
  obtain ⟨hk, h1, h2, h3, h4, h5, h6, h7⟩ := h
  have a0 := Leb.put_len_le m.kind
  have a1 := ifB_len (l := hdrB (restOf m).1) h1 hdrB_small
  have a2 := ifB_len (l := pkB (restOf m).2.1) h2 pkB_small
  have a3 := ifB_len (l := textB (restOf m).2.2.1) (k := 41) h3 fun h => by have := textB_len (restOf m).2.2.1; omega
  have a4 := ifB_len (l := Leb.put (restOf m).2.2.2.1) (k := 8) h4 fun h => Leb.put_len_le _
  have a5 := ifB_len (l := Leb.put (restOf m).2.2.2.2.1) (k := 8) h5 fun h => Leb.put_len_le _
  have a6 := ifB_len (l := proofB (restOf m).2.2.2.2.2.1) h6 proofB_small
  have a7 := ifB_len (l := proofB (restOf m).2.2.2.2.2.2) h7 proofB_small
  unfold msgB restB
  simp only [List.length_append]
  omega
theorem codecText : Codec (rText 1048576) textB (fun m => (m.length : Int) ≤ 1048576) := Codec.text 1048576 (by decide)
theorem uGo_zero (l : List UInt8) (s : Int × Int) (p : List PMsg) : uGo l 0 s p = (0, p, s) := rfl
theorem uGo_succ (l : List UInt8) (n : Nat) (s : Int × Int) (p : List PMsg) : uGo l (n + 1) s p = if (rText 1048576 l s).2.2 ≠ 0 then (0, p, (rText 1048576 l s).2)
    else if (decMsg (rText 1048576 l s).1).2 ≠ 0 then ((decMsg (rText 1048576 l s).1).2, p, (rText 1048576 l s).2)
    else uGo l n (rText 1048576 l s).2 (p ++ [(decMsg (rText 1048576 l s).1).1]) := rfl
theorem uGo_back : ∀ (M : List PMsg) (pre q : List UInt8) (p : List PMsg), (∀ m ∈ M, mayM m = true ∧ MsgOk m) →
    uGo (pre ++ flatE (fun m => textB (msgB m)) M ++ q) M.length ((pre.length : Int), 0) p = (0, p ++ M, (((pre ++ flatE (fun m => textB (msgB m)) M).length : Nat) : Int), 0)
  | [], pre, q, p, _ => by simp [uGo_zero, flatE]
  | m :: M, pre, q, p, h => by
    have hm := h m (by simp)
    have hs := msgB_small (mayM_V hm.1 hm.2)
    have e : flatE (fun m => textB (msgB m)) (m :: M) = textB (msgB m) ++ flatE (fun m => textB (msgB m)) M := by simp [flatE]
    have b := codecText.back pre (msgB m) (flatE (fun m => textB (msgB m)) M ++ q) (show ((msgB m).length : Int) ≤ 1048576 by omega)
    have e2 : pre ++ (textB (msgB m) ++ flatE (fun m => textB (msgB m)) M) ++ q = pre ++ textB (msgB m) ++ (flatE (fun m => textB (msgB m)) M ++ q) := by simp
    rw [List.length_cons, uGo_succ, e, e2, b]
    dsimp only
    rw [if_neg (by simp), decMsg_back hm.1 hm.2]
    dsimp only
    rw [if_neg (by simp), ← List.append_assoc, uGo_back M (pre ++ textB (msgB m)) q (p ++ [m]) fun x hx => h x (by simp [hx])]
    simp
theorem uGo_one (l : List UInt8) : ∀ (n a : Nat) (p R : List PMsg) (a' : Int), a ≤ l.length → uGo l n ((a : Int), 0) p = (0, R, a', 0) →
    ∃ (M : List PMsg) (pre q : List UInt8), R = p ++ M ∧ M.length = n ∧ (∀ m ∈ M, mayM m = true) ∧ l = pre ++ flatE (fun m => textB (msgB m)) M ++ q ∧ pre.length = a ∧ a' = (((pre ++ flatE (fun m => textB (msgB m)) M).length : Nat) : Int)
  | 0, a, p, R, a', ha, h => by
    rw [uGo_zero] at h
    simp only [Prod.mk.injEq, true_and] at h
    refine ⟨[], l.take a, l.drop a, by simp [h.1], rfl, fun m hm => absurd hm (by simp), by simp [flatE], by simp; omega, ?_⟩
    simp only [flatE, List.map_nil, List.flatten_nil, List.append_nil, List.length_take]
    omega
  | n + 1, a, p, R, a', ha, h => by
    rw [uGo_succ] at h
    split at h
    · rename_i hb
      simp only [Prod.mk.injEq, true_and] at h
      exact absurd (congrArg Prod.snd h.2) hb
    · rename_i hb
      have hb : (rText 1048576 l ((a : Int), 0)).2.2 = 0 := Decidable.not_not.1 hb
      split at h
      · rename_i hd
        simp only [Prod.mk.injEq] at h
        exact absurd h.1 hd
      · rename_i hd
        have hd : (decMsg (rText 1048576 l ((a : Int), 0)).1).2 = 0 := Decidable.not_not.1 hd
        obtain ⟨d1, d2⟩ := decMsg_one hd
        obtain ⟨_, pre, q, e1, e2, e3⟩ := codecText.one l a (rText 1048576 l ((a : Int), 0)).1 (rText 1048576 l ((a : Int), 0)).2.1 ha (Prod.ext rfl (Prod.ext rfl hb))
        have e4 : (rText 1048576 l ((a : Int), 0)).2 = ((((pre ++ textB (rText 1048576 l ((a : Int), 0)).1).length : Nat) : Int), 0) := Prod.ext e3 hb
        generalize hT : (rText 1048576 l ((a : Int), 0)).1 = T at *
        rw [e4] at h
        obtain ⟨M, pre2, q2, f1, f2, f3, f4, f5, f6⟩ := uGo_one l n _ _ _ _ (by rw [e1]; simp) h
        have e5 : pre ++ textB T ++ q = pre2 ++ (flatE (fun m => textB (msgB m)) M ++ q2) := by rw [← e1, f4]; simp
        obtain ⟨e6, e7⟩ := List.append_inj e5 f5.symm
        subst e6
        have e8 : flatE (fun m => textB (msgB m)) ((decMsg T).1 :: M) = textB T ++ flatE (fun m => textB (msgB m)) M := by simp [flatE, d2]
        refine ⟨(decMsg T).1 :: M, pre, q2, by rw [f1]; simp, by simp [f2], fun m hm => ?_, by rw [f4, e8]; simp, e2, by rw [f6, e8]; simp⟩
        rcases List.mem_cons.1 hm with rfl | hm
        · exact d1
        · exact f3 m hm
theorem uGo_ok (l : List UInt8) : ∀ (n : Nat) (s : Int × Int) (p : List PMsg), (∀ m ∈ p, MsgOk m) → (∀ m ∈ (uGo l n s p).2.1, MsgOk m) ∧ (uGo l n s p).2.1.length ≤ p.length + n
  | 0, s, p, h => ⟨h, by rw [uGo_zero]; exact Nat.le_refl _⟩
  | n + 1, s, p, h => by
    rw [uGo_succ]
    split
    · exact ⟨h, by dsimp only; omega⟩
    · split
      · exact ⟨h, by dsimp only; omega⟩
      · have := uGo_ok l n (rText 1048576 l s).2 (p ++ [(decMsg (rText 1048576 l s).1).1]) fun m hm => by
          rcases List.mem_append.1 hm with hm | hm
          · exact h m hm
          · rw [List.mem_singleton.1 hm]; exact decMsg_ok _
        refine ⟨this.1, ?_⟩
        have := this.2
        simp only [List.length_append, List.length_singleton] at this
        omega
theorem uEnd_ok (l : List UInt8) (r : Int × List PMsg × Int × Int) : (uEnd l r).1 = [] ∨ (uEnd l r).1 = r.2.1 := by
  unfold uEnd
  split
  · exact Or.inl rfl
  · split
    · exact Or.inl rfl
    · exact Or.inr rfl
theorem untxM_ok (l : List UInt8) : (∀ m ∈ (untxM l).1, MsgOk m) ∧ (untxM l).1.length ≤ 64 := by
  have nil : (∀ m ∈ ([] : List PMsg), MsgOk m) ∧ ([] : List PMsg).length ≤ 64 := ⟨fun m hm => absurd hm (by simp), by simp⟩
  unfold untxM
  split
  · exact nil
  · split
    · exact nil
    · rename_i h
      have := uGo_ok l (numS l 0 0 0 72057594037927935).1.toNat (numS l 0 0 0 72057594037927935).2 [] fun m hm => absurd hm (by simp)
      rcases uEnd_ok l (uGo l (numS l 0 0 0 72057594037927935).1.toNat (numS l 0 0 0 72057594037927935).2 []) with e | e
      · rw [e]; exact nil
      · rw [e]
        refine ⟨this.1, Nat.le_trans this.2 ?_⟩
        simp only [List.length_nil]
        omega
theorem untxM_zero {l : List UInt8} (h : (untxM l).2 ≠ 0) : (untxM l).1 = [] := by
  unfold untxM at h ⊢
  split at h
  · rename_i h1
    rw [if_pos h1]
  · rename_i h1
    rw [if_neg h1]
    split at h
    · rename_i h2
      rw [if_pos h2]
    · rename_i h2
      rw [if_neg h2]
      unfold uEnd at h ⊢
      split at h
      · rename_i h3
        rw [if_pos h3]
      · rename_i h3
        rw [if_neg h3]
        split at h
        · rename_i h4
          rw [if_pos h4]
        · exact absurd rfl h
theorem txM_nice {L : List PMsg} (hn : L.length ≤ 64) (h : ∀ m ∈ L, mayM m = true) : txM L = (txB L, 0) := by
  unfold txM
  rw [if_neg (by omega), if_pos (List.all_eq_true.2 h)]
theorem untxM_back {L : List PMsg} (hn : L.length ≤ 64) (h : ∀ m ∈ L, mayM m = true ∧ MsgOk m) : untxM (txB L) = (L, 0) := by
  have a := flatE_le (E := fun m => textB (msgB m)) (c := 6510) (p := L) fun m hm => by
    have := msgB_small (mayM_V (h m hm).1 (h m hm).2)
    have := textB_len (msgB m)
    omega
  have b := Leb.put_len_le (L.length : Int)
  have hl : (txB L).length ≤ 1048576 := by
    unfold txB
    rw [List.length_append]
    omega
  have r := (Codec.num 0 72057594037927935 (by decide) (by decide)).back [] (L.length : Int) (flatE (fun m => textB (msgB m)) L) ⟨by omega, by omega⟩
  simp only [List.nil_append] at r
  have r : numS (txB L) 0 0 0 72057594037927935 = ((L.length : Int), (((Leb.put (L.length : Int)).length : Nat) : Int), 0) := r
  have u := uGo_back L (Leb.put (L.length : Int)) [] [] h
  simp only [List.append_nil, List.nil_append] at u
  have u : uGo (txB L) L.length ((((Leb.put (L.length : Int)).length : Nat) : Int), 0) [] = (0, L, (((txB L).length : Nat) : Int), 0) := u
  unfold untxM
  rw [if_neg (by omega), r]
  dsimp only
  rw [if_neg (by omega), Int.toNat_natCast, u]
  unfold uEnd
  dsimp only
  rw [if_neg (by simp), if_neg]
  simp [endS]
theorem untxM_one {l : List UInt8} (h : (untxM l).2 = 0) : txM (untxM l).1 = (l, 0) := by
  unfold untxM at h ⊢
  split at h
  · exact absurd h (by decide)
  · rename_i h1
    rw [if_neg h1]
    split at h
    · exact absurd h (by decide)
    · rename_i h2
      rw [if_neg h2]
      unfold uEnd at h ⊢
      split at h
      · rename_i h3
        exact absurd h h3
      · rename_i h3
        rw [if_neg h3]
        split at h
        · rename_i h4
          exact absurd h h4
        · rename_i h4
          rw [if_neg h4]
          have h3 := Decidable.not_not.1 h3
          have h4 := Decidable.not_not.1 h4
          have hb : (uGo l (numS l 0 0 0 72057594037927935).1.toNat (numS l 0 0 0 72057594037927935).2 []).2.2.2 = 0 ∧ (l.length : Int) ≤ (uGo l (numS l 0 0 0 72057594037927935).1.toNat (numS l 0 0 0 72057594037927935).2 []).2.2.1 := by
            unfold endS at h4
            split at h4
            · exact absurd h4 (by decide)
            · rename_i hn
              refine ⟨h4, ?_⟩
              have : ¬ (uGo l (numS l 0 0 0 72057594037927935).1.toNat (numS l 0 0 0 72057594037927935).2 []).2.2.1 < (l.length : Int) := fun hc => hn ⟨h4, hc⟩
              omega
          have c := Codec.num 0 72057594037927935 (by decide) (by decide)
          by_cases hz : (numS l 0 0 0 72057594037927935).2.2 = 0
          · obtain ⟨⟨v1, v2⟩, pre, q, e1, e2, e3⟩ := c.one l 0 (numS l 0 0 0 72057594037927935).1 (numS l 0 0 0 72057594037927935).2.1 (Nat.zero_le _) (Prod.ext rfl (Prod.ext rfl hz))
            obtain rfl : pre = [] := List.length_eq_zero_iff.mp e2
            have e4 : (numS l 0 0 0 72057594037927935).2 = ((((Leb.put (numS l 0 0 0 72057594037927935).1).length : Nat) : Int), 0) := Prod.ext (by rw [e3]; rfl) hz
            rw [e4] at h3 hb ⊢
            generalize (numS l 0 0 0 72057594037927935).1 = N at *
            generalize hu : uGo l N.toNat ((((Leb.put N).length : Nat) : Int), 0) [] = u at *
            obtain ⟨e, R, a', b'⟩ := u
            dsimp only at *
            obtain rfl : e = 0 := h3
            obtain rfl : b' = 0 := hb.1
            obtain ⟨M, pre2, q2, f1, f2, f3, f4, f5, f6⟩ := uGo_one l _ _ _ _ _ (by rw [e1]; simp) hu
            have e5 : Leb.put N ++ q = pre2 ++ (flatE (fun m => textB (msgB m)) M ++ q2) := by
              have : l = Leb.put N ++ q := by rw [e1]; simp
              rw [← this, f4]; simp
            obtain ⟨e6, e7⟩ := List.append_inj e5 f5.symm
            subst e6
            have hR : R = M := by simpa using f1
            subst hR
            have hq : q2 = [] := by
              have hl := congrArg List.length f4
              simp only [List.length_append] at hl f6
              exact List.length_eq_zero_iff.mp (by omega)
            subst hq
            rw [txM_nice (by omega) f3]
            have : (R.length : Int) = N := by omega
            unfold txB
            rw [this]
            simp only [List.append_nil] at f4
            rw [← f4]
          · have hs : (uGo l (numS l 0 0 0 72057594037927935).1.toNat (numS l 0 0 0 72057594037927935).2 []).2.2 = (numS l 0 0 0 72057594037927935).2 := by
              cases hn : (numS l 0 0 0 72057594037927935).1.toNat with
              | zero => rfl
              | succ n =>
                have st := codecText.stick l (numS l 0 0 0 72057594037927935).2 hz
                rw [uGo_succ, st, if_pos hz]
            rw [hs] at hb
            exact absurd hb.1 hz
end Go.Proofs.Ytcgoaicifjndpaa.Vx
end
