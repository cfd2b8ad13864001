/- What is kept at heights: New, Last, Keep, Header, Headers, Get, Under, Prove, by the walker. -/
import Derived.Test.YtbbpgicoklhheaaDoorM35
import Derived.Test.YtbbpgicoklhheaaDoorM2
import Derived.Test.YtbbpgicoklhheaaDoorM11
import Derived.Test.YtbbpgicoklhheaaDoorM23
section
namespace Go.Proofs.YtbbpgicoklhheaaDoor.Vx
open Sha
open Go.RowKit
set_option linter.unusedVariables false
set_option linter.unusedSimpArgs false
def keepPre (gg sz0 n0 : Nat) (get0 : Nat → List CV) (t : Nat) (mt : MTy) (ml : List (Value × MRec)) (ty one n : Nat) (get : Nat → List CV) (ts ty2 one2 n2 : Nat) (get2 : Nat → List CV) : Prop := KsAt gg sz0 n0 get0 ∧ paPre t mt ml ty one n get ∧ n ≤ 999999 ∧ ts = 65 ∧ prPre ty2 one2 n2 get2 ∧ StS (prL n2 get2) ∧ AllSz (prL n2 get2)
theorem paNum_yes {L : List PaR} {h : Int} (hh : paHas L h = true) : paNum L h = pNum (paRec L h) := if_pos hh
theorem paNum_no {L : List PaR} {h : Int} (hh : paHas L h = false) : paNum L h = fun _ => 0 := if_neg (by rw [hh]; decide)
theorem paL_none {L : List PaR} {h : Int} (hh : paHas L h = false) : paL L h = [] := by unfold paL; rw [paL_no hh]
def tbKp : Tbl where
  T :=
    (3, ⟨1, false, [.int .i64 (0)], .int .i64, 8⟩) ::
    (4, ⟨1, false, [.ff], .bool, 1⟩) ::
    (9, ⟨1, false, [.str []], .str, 16⟩) ::
    (5, ⟨1, false, [.int .u8 (0)], .int .u8, 1⟩) ::
    (73, ⟨1, true, [.int .i64 (0)], .struct [(0, (1, false))], 8⟩) ::
    (61, ⟨1, false, [.val (.slice none 0 0)], .slice 73, 24⟩) ::
    (75, ⟨35, true, [.int .i64 (0), .int .i64 (0), .int .u8 (0), .int .u8 (0), .int .u8 (0), .int .u8 (0), .int .u8 (0), .int .u8 (0), .int .u8 (0), .int .u8 (0), .int .u8 (0), .int .u8 (0), .int .u8 (0), .int .u8 (0), .int .u8 (0), .int .u8 (0), .int .u8 (0), .int .u8 (0), .int .u8 (0), .int .u8 (0), .int .u8 (0), .int .u8 (0), .int .u8 (0), .int .u8 (0), .int .u8 (0), .int .u8 (0), .int .u8 (0), .int .u8 (0), .int .u8 (0), .int .u8 (0), .int .u8 (0), .int .u8 (0), .int .u8 (0), .int .u8 (0), .val (.pointer none)], .struct [(0, (34, true)), (34, (1, false))], 56⟩) ::
    (63, ⟨2, true, [.val (.map none), .val (.slice none 0 0)], .struct [(0, (1, false)), (1, (1, false))], 32⟩) ::
    (25, ⟨1, false, [.val (.pointer none)], .ptr 63, 8⟩) ::
    (60, ⟨1, false, [.val (.map none)], .map 73 75, 8⟩) ::
    (44, ⟨2, true, [.str [], .str []], .struct [(0, (1, false)), (1, (1, false))], 32⟩) ::
    (41, ⟨1, false, [.val (.slice none 0 0)], .slice 44, 24⟩) ::
    (65, ⟨1, true, [.val (.slice none 0 0)], .struct [(0, (1, false))], 24⟩) ::
    (27, ⟨1, false, [.val (.pointer none)], .ptr 65, 8⟩) ::
    (36, ⟨32, true, [.int .u8 (0), .int .u8 (0), .int .u8 (0), .int .u8 (0), .int .u8 (0), .int .u8 (0), .int .u8 (0), .int .u8 (0), .int .u8 (0), .int .u8 (0), .int .u8 (0), .int .u8 (0), .int .u8 (0), .int .u8 (0), .int .u8 (0), .int .u8 (0), .int .u8 (0), .int .u8 (0), .int .u8 (0), .int .u8 (0), .int .u8 (0), .int .u8 (0), .int .u8 (0), .int .u8 (0), .int .u8 (0), .int .u8 (0), .int .u8 (0), .int .u8 (0), .int .u8 (0), .int .u8 (0), .int .u8 (0), .int .u8 (0)], .array 32 5, 32⟩) ::
    (38, ⟨34, true, [.int .i64 (0), .int .i64 (0), .int .u8 (0), .int .u8 (0), .int .u8 (0), .int .u8 (0), .int .u8 (0), .int .u8 (0), .int .u8 (0), .int .u8 (0), .int .u8 (0), .int .u8 (0), .int .u8 (0), .int .u8 (0), .int .u8 (0), .int .u8 (0), .int .u8 (0), .int .u8 (0), .int .u8 (0), .int .u8 (0), .int .u8 (0), .int .u8 (0), .int .u8 (0), .int .u8 (0), .int .u8 (0), .int .u8 (0), .int .u8 (0), .int .u8 (0), .int .u8 (0), .int .u8 (0), .int .u8 (0), .int .u8 (0), .int .u8 (0), .int .u8 (0)], .struct [(0, (1, false)), (1, (1, false)), (2, (32, true))], 48⟩) ::
    (47, ⟨1, false, [.val (.slice none 0 0)], .slice 38, 24⟩) ::
    (54, ⟨2, true, [.int .i64 (0), .val (.slice none 0 0)], .struct [(0, (1, false)), (1, (1, false))], 32⟩) ::
    (87, ⟨4, true, [.str [], .str [], .int .i64 (0), .val (.slice none 0 0)], .struct [(0, (1, false)), (1, (1, false)), (2, (1, false)), (3, (1, false))], 64⟩) ::
    (52, ⟨1, false, [.val (.slice none 0 0)], .slice 87, 24⟩) ::
    []
  F :=
    (73, [0]) ::
    []
  Q := [(60, (65, 44, 2))]

theorem tbKp_ok : tbKp.Ok Tryd.prog where
  T :=
    TblOk.cons (by kernel_rfl) <|
    TblOk.cons (by kernel_rfl) <|
    TblOk.cons (by kernel_rfl) <|
    TblOk.cons (by kernel_rfl) <|
    TblOk.cons (by kernel_rfl) <|
    TblOk.cons (by kernel_rfl) <|
    TblOk.cons (by kernel_rfl) <|
    TblOk.cons (by kernel_rfl) <|
    TblOk.cons (by kernel_rfl) <|
    TblOk.cons (by kernel_rfl) <|
    TblOk.cons (by kernel_rfl) <|
    TblOk.cons (by kernel_rfl) <|
    TblOk.cons (by kernel_rfl) <|
    TblOk.cons (by kernel_rfl) <|
    TblOk.cons (by kernel_rfl) <|
    TblOk.cons (by kernel_rfl) <|
    TblOk.cons (by kernel_rfl) <|
    TblOk.cons (by kernel_rfl) <|
    TblOk.cons (by kernel_rfl) <|
    TblOk.cons (by kernel_rfl) <|
    TblOk.nil _
  F :=
    FlatsOk.cons (FlatOk.of (D := .struct (Tryd.prog.fieldsOf 73)) 6 (by decide) (by kernel_rfl) (by kernel_rfl) rfl (by kernel_rfl)) <|
    FlatsOk.nil _

def sPLast : SpecF
  | [.c (.ptr 0 0)], [.cells t [.row 1, .row 2], .mq mt ml, .row ty one n get] => some (paPre t mt ml ty one n get, .c (.int .i64 (pLast (pL ml))), [.cells 63 [.row 1, .row 2], .mq pMT (pQ (pL ml)), .row 73 1 (pL ml).length (mkG (pL ml))])
  | _, _ => none

set_option maxRecDepth 100000 in
set_option maxHeartbeats 8000000 in
theorem lastPP : Fn Tryd.prog 15 [] [] sPLast := by
  have hC : CtsOk Tryd.prog [] := CtsOk.nil _
  refine Fn.of (E := tbKp) [] 0 [(3, [(0, true), (1, true), (2, true), (3, true), (4, true), (5, true), (6, true), (7, true), (8, true), (9, true), (10, true), (11, true), (12, true), (13, true)])] tbKp_ok hC (by kernel_rfl) Tryd.func15 rfl rfl rfl (by kernel_rfl) (by kernel_rfl) 3 5 1 ?_ ?_
  · intro args h pre r h' hs
    unfold sPLast at hs
    split at hs
    · cases hs; exact ⟨rfl, rfl, Nat.le_of_ble_eq_true rfl⟩
    · cases hs
  · intro args h pre r h' hs hp
    unfold sPLast at hs
    split at hs
    rotate_left
    · cases hs
    rename_i t mt ml ty one n get
    cases hs
    obtain ⟨rfl, rfl, e1, rfl, rfl, hn, hg, hS⟩ := hp
    generalize pL ml = L at e1 hn hg hS ⊢
    subst e1
    refine ⟨[.cells 63 [.row 1, .row 2], .mq pMT (pQ L), .row 73 1 n (mkG L)], ⟨rfl, rfl, ⟨rfl, rfl, rfl, fun i hi => hg i hi⟩, trivial⟩, ?_⟩
    clear hg
    obtain ⟨hl0, hl1⟩ := pLast_nonneg hS
    have hlen := hS.len
    generalize hg0 : (List.length : List PaR → Nat) = g0
    generalize hL : lft Tryd.prog _ = L
    try unfold mkG
    generalize ho0 : @pQ = zo0, ho1 : @pL = zo1, ho2 : @pH = zo2, ho3 : @pLast = zo3, ho4 : @paPre = zo4
    generalize hA : Arith.std = A
    cbv
    subst hA hg0 hL ho0 ho1 ho2 ho3 ho4
    try simp only [← mqHas.eq_def, ← mqRec.eq_def, ← mqSet.eq_def]
    refine Ife.mk (fun h => ?_) (fun h => ?_)
    · have h : (@Nat.cast Int instNatCastInt n) = 0 := of_decide_eq_true (p := (n : Int) = 0) h
      rw [show pLast L = 0 by unfold pLast; rw [if_pos (by omega)]]
      exact ⟨[0, 1, 2], ⟨rfl, (by repeat' (first | exact trivial | exact hn | exact hn.symm | exact rfl | apply And.intro | exact (fun _ _ _ _ => Cell.le_refl _) | (intro i hi; rfl) | (intro i hi; exact absurd hi (Nat.not_lt_zero _)))), (by show List.Nodup [0, 1, 2]; decide), rfl, by repeat' (first | exact trivial | exact hn | exact hn.symm | exact rfl | apply And.intro | exact (fun _ _ _ _ => Cell.le_refl _) | (intro i hi; rfl) | (intro i hi; exact absurd hi (Nat.not_lt_zero _)))⟩⟩
    · have h : ¬ (@Nat.cast Int instNatCastInt n) = 0 := of_decide_eq_false (p := (n : Int) = 0) h
      have e : pLast L = pH L ((n : Int) - 1).toNat := by unfold pLast; rw [if_neg (by omega), show ((n : Int) - 1).toNat = L.length - 1 by omega]
      refine Need.mk (by show fitStd .i64 ((n : Int) - 1); unfold fitStd; omega) fun _ => Need.mk (by show 0 ≤ (n : Int) - 1 ∧ (n : Int) - 1 < (n : Int); omega) fun _ => Need.mk (by show ((n : Int) - 1).toNat < n; omega) fun _ => ?_
      rw [e]
      exact ⟨[0, 1, 2], ⟨rfl, (by repeat' (first | exact trivial | exact hn | exact hn.symm | exact rfl | apply And.intro | exact (fun _ _ _ _ => Cell.le_refl _) | (intro i hi; rfl) | (intro i hi; exact absurd hi (Nat.not_lt_zero _)))), (by show List.Nodup [0, 1, 2]; decide), rfl, by repeat' (first | exact trivial | exact hn | exact hn.symm | exact rfl | apply And.intro | exact (fun _ _ _ _ => Cell.le_refl _) | (intro i hi; rfl) | (intro i hi; exact absurd hi (Nat.not_lt_zero _)))⟩⟩

def sPHdr : SpecF
  | [.c (.ptr 0 0), .c (.int .i64 h)], [.cells t [.row 1, .row 2], .mq mt ml, .row ty one n get] => some (paPre t mt ml ty one n get, .tup [(none, hd34 (paNum (pL ml) h)), (some (.bool (paHas (pL ml) h)), [])], [.cells 63 [.row 1, .row 2], .mq pMT (pQ (pL ml)), .row 73 1 (pL ml).length (mkG (pL ml))])
  | _, _ => none

set_option maxRecDepth 100000 in
set_option maxHeartbeats 8000000 in
theorem hdrPP : Fn Tryd.prog 12 [] [] sPHdr := by
  have hC : CtsOk Tryd.prog [] := CtsOk.nil _
  refine Fn.of (E := tbKp) [] 0 [] tbKp_ok hC (by kernel_rfl) Tryd.func12 rfl rfl rfl (by kernel_rfl) (by kernel_rfl) 3 5 1 ?_ ?_
  · intro args h pre r h' hs
    unfold sPHdr at hs
    split at hs
    · cases hs; exact ⟨rfl, rfl, Nat.le_of_ble_eq_true rfl⟩
    · cases hs
  · intro args h pre r h' hs hp
    unfold sPHdr at hs
    split at hs
    rotate_left
    · cases hs
    rename_i h t mt ml ty one n get
    cases hs
    obtain ⟨rfl, rfl, e1, rfl, rfl, hn, hg, hS⟩ := hp
    generalize pL ml = L at e1 hn hg hS ⊢
    subst e1
    refine ⟨[.cells 63 [.row 1, .row 2], .mq pMT (pQ L), .row 73 1 n (mkG L)], ⟨rfl, rfl, ⟨rfl, rfl, rfl, fun i hi => hg i hi⟩, trivial⟩, ?_⟩
    clear hg
    obtain ⟨hl0, hl1⟩ := pLast_nonneg hS
    have hlen := hS.len
    generalize hg0 : (List.length : List PaR → Nat) = g0
    generalize hL : lft Tryd.prog _ = L
    try unfold mkG
    generalize ho0 : @pQ = zo0, ho1 : @pL = zo1, ho2 : @pH = zo2, ho3 : @pRec = zo3, ho4 : @mqNum = zo4, ho5 : @mqRec = zo5, ho6 : @paHas = zo6, ho7 : @paRec = zo7, ho8 : @paNum = zo8, ho9 : @paPre = zo9, ho10 : @pNum = zo10
    generalize hA : Arith.std = A
    cbv
    subst hA hg0 hL ho0 ho1 ho2 ho3 ho4 ho5 ho6 ho7 ho8 ho9 ho10
    try simp only [← mqHas.eq_def, ← mqRec.eq_def, ← mqSet.eq_def]
    refine Ife.mk (fun hh => ?_) (fun hh => ?_)
    · replace hh : paHas L h = true := by rw [← mqHas_pQ]; exact hh
      have eM : mqNum (.agg #[.int .i64 h]) (pQ L) = pNum (paRec L h) := (mqNum_pQ hh).trans (paNum_yes hh)
      have eC : mqRec (.agg #[.int .i64 h]) (pQ L) = pRec (paRec L h) := mqRec_pQ hh
      rw [paNum_yes hh, hh]
      simp only [eM, eC]
      exact ⟨[0, 1, 2], ⟨rfl, (by repeat' (first | exact trivial | exact hn | exact hn.symm | exact rfl | apply And.intro | exact (fun _ _ _ _ => Cell.le_refl _) | (intro i hi; rfl) | (intro i hi; exact absurd hi (Nat.not_lt_zero _)))), (by show List.Nodup [0, 1, 2]; decide), rfl, by repeat' (first | exact trivial | exact hn | exact hn.symm | exact rfl | apply And.intro | exact (fun _ _ _ _ => Cell.le_refl _) | (intro i hi; rfl) | (intro i hi; exact absurd hi (Nat.not_lt_zero _)))⟩⟩
    · replace hh : paHas L h = false := by rw [← mqHas_pQ]; exact hh
      rw [paNum_no hh, hh]
      exact ⟨[0, 1, 2], ⟨rfl, (by repeat' (first | exact trivial | exact hn | exact hn.symm | exact rfl | apply And.intro | exact (fun _ _ _ _ => Cell.le_refl _) | (intro i hi; rfl) | (intro i hi; exact absurd hi (Nat.not_lt_zero _)))), (by show List.Nodup [0, 1, 2]; decide), rfl, by repeat' (first | exact trivial | exact hn | exact hn.symm | exact rfl | apply And.intro | exact (fun _ _ _ _ => Cell.le_refl _) | (intro i hi; rfl) | (intro i hi; exact absurd hi (Nat.not_lt_zero _)))⟩⟩

def sPGet : SpecF
  | [.c (.ptr 0 0), .c (.int .i64 h), .c (.str k)], [.cells t [.row 1, .row 2], .mq mt ml, .row ty one n get] => some (paPre t mt ml ty one n get, .tup [(some (.str (getL (paL (pL ml) h) k)), []), (some (.bool (findB (paL (pL ml) h) k)), [])], [.cells 63 [.row 1, .row 2], .mq pMT (pQ (pL ml)), .row 73 1 (pL ml).length (mkG (pL ml))])
  | _, _ => none

set_option maxRecDepth 100000 in
set_option maxHeartbeats 8000000 in
theorem getPP : Fn Tryd.prog 17 [] [] sPGet := by
  have hC : CtsOk Tryd.prog [(29, appFn [] [] sGetQ)] := CtsOk.cons (Fn.ct getQP) <| CtsOk.nil _
  refine Fn.of (E := tbKp) [] 0 [] tbKp_ok hC (by kernel_rfl) Tryd.func17 rfl rfl rfl (by kernel_rfl) (by kernel_rfl) 3 5 1 ?_ ?_
  · intro args h pre r h' hs
    unfold sPGet at hs
    split at hs
    · cases hs; exact ⟨rfl, rfl, Nat.le_of_ble_eq_true rfl⟩
    · cases hs
  · intro args h pre r h' hs hp
    unfold sPGet at hs
    split at hs
    rotate_left
    · cases hs
    rename_i h k t mt ml ty one n get
    cases hs
    obtain ⟨rfl, rfl, e1, rfl, rfl, hn, hg, hS⟩ := hp
    generalize pL ml = L at e1 hn hg hS ⊢
    subst e1
    refine ⟨[.cells 63 [.row 1, .row 2], .mq pMT (pQ L), .row 73 1 n (mkG L)], ⟨rfl, rfl, ⟨rfl, rfl, rfl, fun i hi => hg i hi⟩, trivial⟩, ?_⟩
    clear hg
    obtain ⟨hl0, hl1⟩ := pLast_nonneg hS
    have hlen := hS.len
    unfold sGetQ
    generalize hg0 : (List.length : List PaR → Nat) = g0
    generalize hg1 : (List.length : List PP → Nat) = g1
    generalize hL : lft Tryd.prog _ = L
    try unfold prG
    try unfold mkG
    try unfold esL
    generalize ho0 : @prK = zo0, ho1 : @prV = zo1, ho2 : @prL = zo2, ho3 : @findB = zo3, ho4 : @getL = zo4, ho5 : @StS = zo5, ho6 : @esPre = zo6, ho7 : @pQ = zo7, ho8 : @pL = zo8, ho9 : @pH = zo9, ho10 : @pRec = zo10, ho11 : @mqN = zo11, ho12 : @mqRow = zo12, ho13 : @mqRec = zo13, ho14 : @paHas = zo14, ho15 : @paRec = zo15, ho16 : @paL = zo16, ho17 : @paPre = zo17
    generalize hA : Arith.std = A
    cbv
    subst hA hg0 hg1 hL ho0 ho1 ho2 ho3 ho4 ho5 ho6 ho7 ho8 ho9 ho10 ho11 ho12 ho13 ho14 ho15 ho16 ho17
    try simp only [← mqHas.eq_def, ← mqRec.eq_def, ← mqSet.eq_def]
    try simp only [esL, esLP, esN, Cell.old]
    refine Ife.mk (fun hh => ?_) (fun hh => ?_)
    · replace hh : paHas L h = true := by rw [← mqHas_pQ]; exact hh
      obtain ⟨q1, q2, q3⟩ := hS.at h
      have eN : mqN (.agg #[.int .i64 h]) (pQ L) = (paL L h).length := mqN_pQ hh
      have eR : mqRow (.agg #[.int .i64 h]) (pQ L) = prG (paL L h) := mqRow_pQ hh
      have eC : mqRec (.agg #[.int .i64 h]) (pQ L) = pRec (paRec L h) := mqRec_pQ hh
      simp only [eN, eR, eC, pRec, esL, esLP, esN, prL_prG]
      refine Need.mk ⟨esPre_mk (L := paL L h) q3, q1⟩ fun _ => ?_
      exact ⟨[0, 1, 2], ⟨rfl, (by repeat' (first | exact trivial | exact hn | exact hn.symm | exact rfl | apply And.intro | exact (fun _ _ _ _ => Cell.le_refl _) | (intro i hi; rfl) | (intro i hi; exact absurd hi (Nat.not_lt_zero _)))), (by show List.Nodup [0, 1, 2]; decide), rfl, by repeat' (first | exact trivial | exact hn | exact hn.symm | exact rfl | apply And.intro | exact (fun _ _ _ _ => Cell.le_refl _) | (intro i hi; rfl) | (intro i hi; exact absurd hi (Nat.not_lt_zero _)))⟩⟩
    · replace hh : paHas L h = false := by rw [← mqHas_pQ]; exact hh
      rw [paL_none hh]
      exact ⟨[0, 1, 2], ⟨rfl, (by repeat' (first | exact trivial | exact hn | exact hn.symm | exact rfl | apply And.intro | exact (fun _ _ _ _ => Cell.le_refl _) | (intro i hi; rfl) | (intro i hi; exact absurd hi (Nat.not_lt_zero _)))), (by show List.Nodup [0, 1, 2]; decide), rfl, by repeat' (first | exact trivial | exact hn | exact hn.symm | exact rfl | apply And.intro | exact (fun _ _ _ _ => Cell.le_refl _) | (intro i hi; rfl) | (intro i hi; exact absurd hi (Nat.not_lt_zero _)))⟩⟩



def sPProve : SpecF
  | [.c (.ptr 1 0), .c (.int .i64 h), .c (.str k)], [.glob gg sz0 n0 get0, .cells t [.row 2, .row 3], .mq mt ml, .row ty one n get] => some (KsAt gg sz0 n0 get0 ∧ paPre t mt ml ty one n get, .tup [(none, [.int .i64 (mkC (paL (pL ml) h)), .row 4]), (some (.int .i64 (if paHas (pL ml) h = true then 0 else 7)), [])], [.dead, .cells 63 [.row 2, .row 3], .mq pMT (pQ (pL ml)), .row 73 1 (pL ml).length (mkG (pL ml)), .data true 87 4 (lenL (mkL (paL (pL ml) h) k)) (leafG true (mkL (paL (pL ml) h) k))])
  | _, _ => none

set_option maxRecDepth 100000 in
set_option maxHeartbeats 8000000 in
theorem provePP : Fn Tryd.prog 18 [1] [] sPProve := by
  have hC : CtsOk Tryd.prog [(30, appFn [1] [] sProveQ)] := CtsOk.cons (Fn.ct proveQP) <| CtsOk.nil _
  refine Fn.ofZ (E := tbKp) [0] 0 [] tbKp_ok hC (by kernel_rfl) Tryd.func18 rfl rfl rfl (by kernel_rfl) (by kernel_rfl) 4 (.data true 87 4 0 fun _ _ => .pl .tt) rfl ?_ ?_
  · intro args h pre r h' hs
    unfold sPProve at hs
    split at hs
    · cases hs; exact ⟨rfl, rfl, Nat.le_of_ble_eq_true rfl⟩
    · cases hs
  · intro args h pre r h' hs hp
    unfold sPProve at hs
    split at hs
    rotate_left
    · cases hs
    rename_i h k gg sz0 n0 get0 t mt ml ty one n get
    cases hs
    obtain ⟨hK, rfl, rfl, e1, rfl, rfl, hn, hg, hS⟩ := hp
    generalize pL ml = L at e1 hn hg hS ⊢
    subst e1
    refine ⟨[.glob 1 1 64 (fun i => [.int .u32 (kOf i)]), .cells 63 [.row 2, .row 3], .mq pMT (pQ L), .row 73 1 n (mkG L)], ⟨hK.same.1, rfl, rfl, ⟨rfl, rfl, rfl, fun i hi => hg i hi⟩, trivial⟩, ?_⟩
    clear hg hK
    obtain ⟨hl0, hl1⟩ := pLast_nonneg hS
    have hlen := hS.len
    unfold sProveQ
    generalize hg0 : (List.length : List PaR → Nat) = g0
    generalize hg1 : (List.length : List PP → Nat) = g1
    generalize hL : lft Tryd.prog _ = L
    try unfold prG
    try unfold mkG
    try unfold leafG
    try unfold esL
    generalize ho0 : @prK = zo0, ho1 : @prV = zo1, ho2 : @prL = zo2, ho3 : @KsAt = zo3, ho4 : @kOf = zo4, ho5 : @lK = zo5, ho6 : @lV = zo6, ho7 : @lI = zo7, ho8 : @lP = zo8, ho9 : @lN = zo9, ho10 : @pG = zo10, ho11 : @mkL = zo11, ho12 : @mkC = zo12, ho13 : @lenL = zo13, ho14 : @esPre = zo14, ho15 : @pQ = zo15, ho16 : @pL = zo16, ho17 : @pH = zo17, ho18 : @pRec = zo18, ho19 : @mqN = zo19, ho20 : @mqRow = zo20, ho21 : @mqRec = zo21, ho22 : @paHas = zo22, ho23 : @paRec = zo23, ho24 : @paL = zo24, ho25 : @paPre = zo25
    generalize hA : Arith.std = A
    cbv
    subst hA hg0 hg1 hL ho0 ho1 ho2 ho3 ho4 ho5 ho6 ho7 ho8 ho9 ho10 ho11 ho12 ho13 ho14 ho15 ho16 ho17 ho18 ho19 ho20 ho21 ho22 ho23 ho24 ho25
    try simp only [← mqHas.eq_def, ← mqRec.eq_def, ← mqSet.eq_def]
    try simp only [esL, esLP, esN, Cell.old]
    refine Ife.mk (fun hh => ?_) (fun hh => ?_)
    · replace hh : paHas L h = true := by rw [← mqHas_pQ]; exact hh
      obtain ⟨q1, q2, q3⟩ := hS.at h
      have eN : mqN (.agg #[.int .i64 h]) (pQ L) = (paL L h).length := mqN_pQ hh
      have eR : mqRow (.agg #[.int .i64 h]) (pQ L) = prG (paL L h) := mqRow_pQ hh
      have eC : mqRec (.agg #[.int .i64 h]) (pQ L) = pRec (paRec L h) := mqRec_pQ hh
      simp only [eN, eR, eC, pRec, esL, esLP, esN, prL_prG]
      refine Need.mk ⟨ksAt_self, esPre_mk (L := paL L h) q3⟩ fun _ => ?_
      rw [if_pos hh]
      exact ⟨[], [0, 1, 2, 3, 7], ⟨trivial, rfl, (by repeat' (first | exact trivial | exact hn | exact hn.symm | exact rfl | apply And.intro | exact (fun _ _ _ _ => Cell.le_refl _) | (intro i hi; rfl) | (intro i hi; exact absurd hi (Nat.not_lt_zero _)))), (by show List.Nodup [1, 2, 3]; decide), rfl, by repeat' (first | exact trivial | exact hn | exact hn.symm | exact rfl | apply And.intro | exact (fun _ _ _ _ => Cell.le_refl _) | (intro i hi; rfl) | (intro i hi; exact absurd hi (Nat.not_lt_zero _)))⟩⟩
    · replace hh : paHas L h = false := by rw [← mqHas_pQ]; exact hh
      rw [paL_none hh, if_neg (by rw [hh]; decide)]
      have hR1 : ∀ i j, i < lenL (mkL [] k) → j < 4 → ((fun _ _ => Cell.pl CV.tt : Nat → Nat → Cell) i j).le (leafG true (mkL [] k) i j) := fun i j hi _ => absurd hi (show ¬ i < 0 from Nat.not_lt_zero i)
      exact ⟨[], [0, 1, 2, 3, 6], ⟨trivial, rfl, (by repeat' (first | exact trivial | exact hR1 | exact hn | exact hn.symm | exact rfl | apply And.intro | exact (fun _ _ _ _ => Cell.le_refl _) | (intro i hi; rfl) | (intro i hi; exact absurd hi (Nat.not_lt_zero _)))), (by show List.Nodup [1, 2, 3]; decide), rfl, by repeat' (first | exact trivial | exact hR1 | exact hn | exact hn.symm | exact rfl | apply And.intro | exact (fun _ _ _ _ => Cell.le_refl _) | (intro i hi; rfl) | (intro i hi; exact absurd hi (Nat.not_lt_zero _)))⟩⟩

def sPNew : SpecF
  | [], [] => some (True, .c (.ptr 0 0), [.cells 63 [.row 1, .row 2], .mq pMT (pQ []), .row 73 1 0 (mkG [])])
  | _, _ => none
set_option maxRecDepth 100000 in
set_option maxHeartbeats 8000000 in
theorem newPP : Fn Tryd.prog 7 [] [] sPNew := by
  have hC : CtsOk Tryd.prog [] := CtsOk.nil _
  refine Fn.ofR (E := tbKp) tbKp_ok Tryd.func7 rfl rfl rfl (by kernel_rfl) 0 5 1 ?_ ?_
  · intro args h pre r h' hs
    unfold sPNew at hs
    split at hs
    · cases hs; exact ⟨rfl, rfl, Nat.le_of_ble_eq_true rfl⟩
    · cases hs
  · intro args h pre r h' hs hp
    unfold sPNew at hs
    split at hs
    rotate_left
    · cases hs
    cases hs
    refine ⟨[], trivial, ?_⟩
    refine Runs.cutT ⟨List.replicate 4 .any, []⟩ ?_ ?_
    · refine exec_ok (N := env (lft Tryd.prog 0) 0 .std tbKp [] []) rfl tbKp_ok hC (fun c st K _ h => h) (by kernel_rfl) [] _ _ _ (by kernel_rfl) ?_
      generalize hL : lft Tryd.prog _ = L
      try unfold mkG
      generalize ho0 : @pQ = zo0, ho1 : @pH = zo1
      generalize hA : Arith.std = A
      cbv
      subst hA hL ho0 ho1
      try simp only [← mqHas.eq_def, ← mqRec.eq_def, ← mqSet.eq_def]
      exact StT.ofL (σ := []) ⟨rfl, by show List.Nodup []; exact List.nodup_nil, by repeat' (first | exact trivial | exact rfl | apply And.intro | exact (fun _ _ _ _ => Cell.le_refl _) | (intro i hi; rfl) | (intro i hi; exact absurd hi (Nat.not_lt_zero _))), by repeat' (first | exact trivial | exact rfl | apply And.intro | exact (fun _ _ _ _ => Cell.le_refl _) | (intro i hi; rfl) | (intro i hi; exact absurd hi (Nat.not_lt_zero _)))⟩
    refine Runs.cutT ⟨[.c (.ptr 0 0), .any, .any, .any], [.cells 63 [.row 1, .row 2], .mq pMT (pQ []), .row 73 1 0 (mkG [])]⟩ ?_ ?_
    · refine exec_ok (N := env (lft Tryd.prog 0) 0 .std tbKp [] []) rfl tbKp_ok hC (fun c st K _ h => h) (by kernel_rfl) [] _ _ _ (by kernel_rfl) ?_
      generalize hL : lft Tryd.prog _ = L
      try unfold mkG
      generalize ho0 : @pQ = zo0, ho1 : @pH = zo1
      generalize hA : Arith.std = A
      cbv
      subst hA hL ho0 ho1
      try simp only [← mqHas.eq_def, ← mqRec.eq_def, ← mqSet.eq_def]
      exact StT.trans (StT.nilCell 1 1 (.row 73 1 0 (mkG [])) rfl rfl rfl) (StT.ofL (σ := [1, 0, 2]) ⟨rfl, by show List.Nodup [1, 0, 2]; decide, by repeat' (first | exact trivial | exact rfl | apply And.intro | exact (fun _ _ _ _ => Cell.le_refl _) | (intro i hi; rfl) | (intro i hi; exact absurd hi (Nat.not_lt_zero _))), by repeat' (first | exact trivial | exact rfl | apply And.intro | exact (fun _ _ _ _ => Cell.le_refl _) | (intro i hi; rfl) | (intro i hi; exact absurd hi (Nat.not_lt_zero _)))⟩)
    refine exec_ok (N := env (lft Tryd.prog 0) 0 .std tbKp [] []) rfl tbKp_ok hC (fun c st K _ h => h) (by kernel_rfl) [] _ _ _ (by kernel_rfl) ?_
    generalize hL : lft Tryd.prog _ = L
    try unfold mkG
    generalize ho0 : @pQ = zo0, ho1 : @pH = zo1
    generalize hA : Arith.std = A
    cbv
    subst hA hL ho0 ho1
    try simp only [← mqHas.eq_def, ← mqRec.eq_def, ← mqSet.eq_def]
    exact ⟨[0, 1, 2], ⟨rfl, (by repeat' (first | exact trivial | exact rfl | apply And.intro | exact (fun _ _ _ _ => Cell.le_refl _) | (intro i hi; rfl) | (intro i hi; exact absurd hi (Nat.not_lt_zero _)))), (by show List.Nodup [0, 1, 2]; decide), rfl, by repeat' (first | exact trivial | exact rfl | apply And.intro | exact (fun _ _ _ _ => Cell.le_refl _) | (intro i hi; rfl) | (intro i hi; exact absurd hi (Nat.not_lt_zero _)))⟩⟩

def sPKeep : SpecF
  | [.c (.ptr 1 0), .c (.int .i64 h), .c (.int .i64 tm), .c (.ptr 2 0)], [.glob gg sz0 n0 get0, .cells t [.row 3, .row 4], .cells ts [.row 5], .mq mt ml, .row ty one n get, .row ty2 one2 n2 get2] => some (keepPre gg sz0 n0 get0 t mt ml ty one n get ts ty2 one2 n2 get2, .c (.int .i64 (keepE (pL ml) h tm)), [.dead, .cells 63 [.row 3, .row 6], .cells 65 [.row 5], .mq pMT (pQ (keepL (pL ml) h tm (prL n2 get2))), .dead, .row 44 2 n2 (prG (prL n2 get2)), .row 73 1 (keepL (pL ml) h tm (prL n2 get2)).length (mkG (keepL (pL ml) h tm (prL n2 get2)))])
  | _, _ => none

set_option maxRecDepth 100000 in
set_option maxHeartbeats 8000000 in
theorem keepPP : Fn Tryd.prog 11 [1] [] sPKeep := by
  have hC : CtsOk Tryd.prog [(15, appFn [] [] sPLast), (14, appFn [1] [] sSRoot), (26, appFn [] [] sCopy)] := CtsOk.cons (Fn.ct lastPP) <| CtsOk.cons (Fn.ct sRootP) <| CtsOk.cons (Fn.ct copyP) <| CtsOk.nil _
  refine Fn.of (E := tbKp) [0] 0 [(6, [(2002, false), (2005, false), (0, true), (1, true), (2, true), (3, true), (4, true), (5, true), (6, true), (7, true), (10, true), (8, false), (9, true), (11, false), (12, true), (1013, false), (13, false)]), (7, [(2004, false), (0, true), (1, true), (2, true), (3, true), (4, true), (5, true), (6, false), (7, false), (1008, false), (8, true), (9, true), (10, false)])] tbKp_ok hC (by kernel_rfl) Tryd.func11 rfl rfl rfl (by kernel_rfl) (by kernel_rfl) 6 5 1 ?_ ?_
  · intro args h pre r h' hs
    unfold sPKeep at hs
    split at hs
    · cases hs; exact ⟨rfl, rfl, Nat.le_of_ble_eq_true rfl⟩
    · cases hs
  · intro args h pre r h' hs hp
    unfold sPKeep at hs
    split at hs
    rotate_left
    · cases hs
    rename_i h tm gg sz0 n0 get0 t ts mt ml ty one n get ty2 one2 n2 get2
    cases hs
    obtain ⟨hK, ⟨rfl, rfl, e1, rfl, rfl, hn, hg, hS⟩, hn6, rfl, ⟨rfl, rfl, hst, hm⟩, hs, hz⟩ := hp
    generalize pL ml = L at e1 hn hg hS ⊢
    subst e1
    refine ⟨[.glob 1 1 64 (fun i => [.int .u32 (kOf i)]), .cells 63 [.row 3, .row 4], .cells 65 [.row 5], .mq pMT (pQ L), .row 73 1 n (mkG L), .row 44 2 n2 (prG (prL n2 get2))], ⟨hK.same.1, rfl, rfl, rfl, ⟨rfl, rfl, rfl, fun i hi => hg i hi⟩, ⟨rfl, rfl, rfl, fun i hi => hst.eq hi⟩, trivial⟩, ?_⟩
    clear hg hK
    have hPL : (prL n2 get2).length = n2 := prL_len
    have ePR : prL n2 (prG (prL n2 get2)) = prL n2 get2 := by
      have := prL_prG (prL n2 get2)
      rwa [hPL] at this
    have hpp : prPre 44 2 n2 (prG (prL n2 get2)) := ⟨rfl, rfl, prAt_prG _ _, hm⟩
    generalize prL n2 get2 = S at hPL ePR hs hz hpp ⊢
    obtain ⟨hl0, hl1⟩ := pLast_nonneg hS
    have hlen := hS.len
    have hpa : paPre 63 pMT (pQ L) 73 1 n (mkG L) := by rw [hn]; exact paPre_mk hS
    unfold sPLast sSRoot sCopy
    generalize hg0 : (List.length : List PaR → Nat) = g0
    generalize hg1 : (List.length : List PP → Nat) = g1
    generalize hL : lft Tryd.prog _ = L
    try unfold prG
    try unfold mkG
    generalize ho0 : @prK = zo0, ho1 : @prV = zo1, ho2 : @prL = zo2, ho3 : @prPre = zo3, ho4 : @kOf = zo4, ho5 : @rootL = zo5, ho6 : @sumsPre = zo6, ho7 : @pQ = zo7, ho8 : @pL = zo8, ho9 : @pH = zo9, ho10 : @mqSet = zo10, ho11 : @keepE = zo11, ho12 : @keepL = zo12, ho13 : @pLast = zo13, ho14 : @paPre = zo14, ho15 : @keepPre = zo15
    generalize hA : Arith.std = A
    cbv
    subst hA hg0 hg1 hL ho0 ho1 ho2 ho3 ho4 ho5 ho6 ho7 ho8 ho9 ho10 ho11 ho12 ho13 ho14 ho15
    try simp only [← mqHas.eq_def, ← mqRec.eq_def, ← mqSet.eq_def]
    refine Ife.mk (fun c1 => ?_) (fun c1 => ?_)
    · have c1 : h < 1 := of_decide_eq_true (p := h < 1) c1
      have e1 : keepE L h tm = 1 := if_pos (Or.inl c1)
      have e2 : keepL L h tm S = L := if_neg (by rw [e1]; decide)
      rw [e1, e2]
      exact ⟨[0, 1, 2, 3, 4, 5, 4], ⟨rfl, (by repeat' (first | exact trivial | exact hn | exact hn.symm | exact rfl | apply And.intro | exact (fun _ _ _ _ => Cell.le_refl _) | (intro i hi; rfl) | (intro i hi; exact absurd hi (Nat.not_lt_zero _)))), (by show List.Nodup [1, 2, 3, 5, 4]; decide), rfl, by repeat' (first | exact trivial | exact hn | exact hn.symm | exact rfl | apply And.intro | exact (fun _ _ _ _ => Cell.le_refl _) | (intro i hi; rfl) | (intro i hi; exact absurd hi (Nat.not_lt_zero _)))⟩⟩
    replace c1 : ¬ h < 1 := of_decide_eq_false (p := h < 1) c1
    refine Ife.mk (fun c2 => ?_) (fun c2 => ?_)
    · have c2 : 1099511627776 < h := of_decide_eq_true (p := 1099511627776 < h) c2
      have e1 : keepE L h tm = 1 := if_pos (by omega)
      have e2 : keepL L h tm S = L := if_neg (by rw [e1]; decide)
      rw [e1, e2]
      exact ⟨[0, 1, 2, 3, 4, 5, 4], ⟨rfl, (by repeat' (first | exact trivial | exact hn | exact hn.symm | exact rfl | apply And.intro | exact (fun _ _ _ _ => Cell.le_refl _) | (intro i hi; rfl) | (intro i hi; exact absurd hi (Nat.not_lt_zero _)))), (by show List.Nodup [1, 2, 3, 5, 4]; decide), rfl, by repeat' (first | exact trivial | exact hn | exact hn.symm | exact rfl | apply And.intro | exact (fun _ _ _ _ => Cell.le_refl _) | (intro i hi; rfl) | (intro i hi; exact absurd hi (Nat.not_lt_zero _)))⟩⟩
    replace c2 : ¬ 1099511627776 < h := of_decide_eq_false (p := 1099511627776 < h) c2
    refine Ife.mk (fun c3 => ?_) (fun c3 => ?_)
    · have c3 : tm < 0 := of_decide_eq_true (p := tm < 0) c3
      have e1 : keepE L h tm = 1 := if_pos (by omega)
      have e2 : keepL L h tm S = L := if_neg (by rw [e1]; decide)
      rw [e1, e2]
      exact ⟨[0, 1, 2, 3, 4, 5, 4], ⟨rfl, (by repeat' (first | exact trivial | exact hn | exact hn.symm | exact rfl | apply And.intro | exact (fun _ _ _ _ => Cell.le_refl _) | (intro i hi; rfl) | (intro i hi; exact absurd hi (Nat.not_lt_zero _)))), (by show List.Nodup [1, 2, 3, 5, 4]; decide), rfl, by repeat' (first | exact trivial | exact hn | exact hn.symm | exact rfl | apply And.intro | exact (fun _ _ _ _ => Cell.le_refl _) | (intro i hi; rfl) | (intro i hi; exact absurd hi (Nat.not_lt_zero _)))⟩⟩
    replace c3 : ¬ tm < 0 := of_decide_eq_false (p := tm < 0) c3
    refine Ife.mk (fun c4 => ?_) (fun c4 => ?_)
    · have c4 : 1099511627776 < tm := of_decide_eq_true (p := 1099511627776 < tm) c4
      have e1 : keepE L h tm = 1 := if_pos (by omega)
      have e2 : keepL L h tm S = L := if_neg (by rw [e1]; decide)
      rw [e1, e2]
      exact ⟨[0, 1, 2, 3, 4, 5, 4], ⟨rfl, (by repeat' (first | exact trivial | exact hn | exact hn.symm | exact rfl | apply And.intro | exact (fun _ _ _ _ => Cell.le_refl _) | (intro i hi; rfl) | (intro i hi; exact absurd hi (Nat.not_lt_zero _)))), (by show List.Nodup [1, 2, 3, 5, 4]; decide), rfl, by repeat' (first | exact trivial | exact hn | exact hn.symm | exact rfl | apply And.intro | exact (fun _ _ _ _ => Cell.le_refl _) | (intro i hi; rfl) | (intro i hi; exact absurd hi (Nat.not_lt_zero _)))⟩⟩
    replace c4 : ¬ 1099511627776 < tm := of_decide_eq_false (p := 1099511627776 < tm) c4
    refine Need.mk hpa fun _ => ?_
    simp only [pL_pQ]
    refine Ife.mk (fun c5 => ?_) (fun c5 => ?_)
    · have c5 : h ≤ pLast L := of_decide_eq_true (p := h ≤ pLast L) c5
      have e1 : keepE L h tm = 16 := by unfold keepE; rw [if_neg (by omega), if_pos c5]
      have e2 : keepL L h tm S = L := if_neg (by rw [e1]; decide)
      rw [e1, e2]
      exact ⟨[0, 1, 2, 3, 4, 5, 4], ⟨rfl, (by repeat' (first | exact trivial | exact hn | exact hn.symm | exact rfl | apply And.intro | exact (fun _ _ _ _ => Cell.le_refl _) | (intro i hi; rfl) | (intro i hi; exact absurd hi (Nat.not_lt_zero _)))), (by show List.Nodup [1, 2, 3, 5, 4]; decide), rfl, by repeat' (first | exact trivial | exact hn | exact hn.symm | exact rfl | apply And.intro | exact (fun _ _ _ _ => Cell.le_refl _) | (intro i hi; rfl) | (intro i hi; exact absurd hi (Nat.not_lt_zero _)))⟩⟩
    replace c5 : ¬ h ≤ pLast L := of_decide_eq_false (p := h ≤ pLast L) c5
    have e1 : keepE L h tm = 0 := keepE_ok c1 c2 c3 c4 c5
    have e2 : keepL L h tm S = L ++ [(h, tm, S)] := if_pos e1
    rw [e1, e2]
    have hQ : mqSet (.agg #[.int .i64 h]) ⟨numL (h34 h tm (rootL S)), n2, prG S⟩ (pQ L) = pQ (L ++ [(h, tm, S)]) := by
      subst hPL
      rw [pQ_app]
      exact mqSet_pQ _ (hS.new (by omega))
    have hN1 : L.length + 1 = (L ++ [(h, tm, S)]).length := by simp
    have hP : ∀ i, i < (L ++ [(h, tm, S)]).length → pushG L.length (mkG L) [.int .i64 h] i = mkG (L ++ [(h, tm, S)]) i := fun i hi => mk_push L (h, tm, S) i (by rw [hN1]; exact hi)
    refine Need.mk ⟨ksAt_self, hpp, by rw [ePR]; exact hz⟩ fun _ => Need.mk (by rw [ePR]; exact hpp) fun _ => Need.mk (by show L.length + 1 ≤ maxLen ∧ (L.length + 1) * 8 ≤ 140737488355328; unfold maxLen; omega) fun _ => ?_
    simp only [ePR]
    exact ⟨[0, 1, 2, 3, 4, 5, 10], ⟨rfl, (by repeat' (first | exact trivial | exact hn | exact hn.symm | exact rfl | apply And.intro | exact (fun _ _ _ _ => Cell.le_refl _) | (intro i hi; rfl) | (intro i hi; exact absurd hi (Nat.not_lt_zero _)))), (by show List.Nodup [1, 2, 3, 5, 10]; decide), rfl, by repeat' (first | exact trivial | exact hQ | exact hN1 | exact hP | exact hn | exact hn.symm | exact rfl | apply And.intro | exact (fun _ _ _ _ => Cell.le_refl _) | (intro i hi; rfl) | (intro i hi; exact absurd hi (Nat.not_lt_zero _)))⟩⟩



end Go.Proofs.YtbbpgicoklhheaaDoor.Vx
end

section
/- Acts of the laws over what is kept, by the walker: few. -/
namespace Go.Proofs.YtbbpgicoklhheaaDoor.Vx
open Sha
open Go.RowKit
set_option linter.unusedVariables false
set_option linter.unusedSimpArgs false
abbrev DC := Int × Int × Int × List UInt8 × List UInt8
def adD : DC := (0, 0, 0, [], [])
def adK (L : List DC) (i : Nat) : Int := (L.getD i adD).1
def adN (L : List DC) (i : Nat) : Int := (L.getD i adD).2.1
def adM (L : List DC) (i : Nat) : Int := (L.getD i adD).2.2.1
def adS (L : List DC) (i : Nat) : List UInt8 := (L.getD i adD).2.2.2.1
def adV (L : List DC) (i : Nat) : List UInt8 := (L.getD i adD).2.2.2.2
/-- Acts, as cells. -/
def adGP (zp0 : type_of% @adK) (zp1 : type_of% @adM) (zp2 : type_of% @adN) (zp3 : type_of% @adS) (zp4 : type_of% @adV) (l : List DC) (i : Nat) : List CV := [.int .i64 (zp0 l i), .int .i64 (zp2 l i), .int .i64 (zp1 l i), .str (zp3 l i), .str (zp4 l i)]
@[reducible] def adG := adGP adK adM adN adS adV
def adOf : List CV → DC
  | [.int .i64 k, .int .i64 x, .int .i64 y, .str a, .str b] => (k, x, y, a, b)
  | _ => adD
def adL (n : Nat) (get : Nat → List CV) : List DC := (List.range n).map fun i => adOf (get i)
def AdAt (n : Nat) (get : Nat → List CV) : Prop := ∀ i, i < n → ∃ k x y a b, get i = [.int .i64 k, .int .i64 x, .int .i64 y, .str a, .str b]
theorem adL_len {n : Nat} {get : Nat → List CV} : (adL n get).length = n := by simp [adL]
theorem adL_get {n : Nat} {get : Nat → List CV} {i : Nat} (h : i < n) : (adL n get).getD i adD = adOf (get i) := by simp [adL, List.getD, List.getElem?_map, List.getElem?_range h]
theorem AdAt.eq {n : Nat} {get : Nat → List CV} (h : AdAt n get) {i : Nat} (hi : i < n) : get i = adG (adL n get) i := by
  obtain ⟨k, x, y, a, b, e⟩ := h i hi
  unfold adG adGP adK adN adM adS adV
  rw [adL_get hi, e]
  rfl
theorem adAt_adG (n : Nat) (l : List DC) : AdAt n (adG l) := fun i _ => ⟨_, _, _, _, _, rfl⟩
theorem adL_adG (l : List DC) : adL l.length (adG l) = l := by
  apply List.ext_getElem?
  intro i
  by_cases hi : i < l.length
  · simp [adL, adG, adGP, adOf, adK, adN, adM, adS, adV, List.getElem?_range hi, List.getD, hi]
  · rw [List.getElem?_eq_none (by simp [adL]; omega), List.getElem?_eq_none (by omega)]
def adPre (ty sz n : Nat) (get : Nat → List CV) : Prop := ty = 30 ∧ sz = 5 ∧ AdAt n get
def fewDt (L : List DC) (i : Nat) : Bool := decide ((adS L i).length ≤ 300) && decide ((adV L i).length ≤ 200)
def fewD (L : List DC) : Bool := decide ((L.length : Int) ≤ 40) && (List.range L.length).all (fewDt L)
theorem fewDt_iff {L : List DC} {i : Nat} : fewDt L i = true ↔ (adS L i).length ≤ 300 ∧ (adV L i).length ≤ 200 := by simp [fewDt]
theorem fewD_iff {L : List DC} : fewD L = true ↔ L.length ≤ 40 ∧ ∀ i, i < L.length → (adS L i).length ≤ 300 ∧ (adV L i).length ≤ 200 := by
  unfold fewD
  simp only [Bool.and_eq_true, decide_eq_true_iff, List.all_eq_true, List.mem_range, fewDt_iff]
  constructor
  · rintro ⟨h1, h2⟩; exact ⟨by omega, h2⟩
  · rintro ⟨h1, h2⟩; exact ⟨by omega, h2⟩
structure RunD (R : List PP) (i : Nat) : Prop where
  s : StS R
  z : AllSz R
  l : R.length ≤ i
theorem dropD_sz {L : List PP} {k : List UInt8} (hs : StS L) (h : AllSz L) : AllSz (dropL L k) := fun p hp => h p ((mem_dropL hs p).1 hp).1
theorem RunD.drop {R : List PP} {i : Nat} {k : List UInt8} (h : RunD R i) : RunD (dropL R k) (i + 1) := ⟨dropL_s h.s, dropD_sz h.s h.z, by have := dropL_len (L := R) (k := k); have := h.l; omega⟩
theorem RunD.put {R : List PP} {i : Nat} {k v : List UInt8} (h : RunD R i) : RunD (putS R k v) (i + 1) := ⟨putS_s h.s, put_sz h.z, by have := putS_len (L := R) (k := k) (v := v); have := h.l; omega⟩
theorem RunD.nil : RunD [] 0 := ⟨List.Pairwise.nil, (fun p hp => by cases hp), Nat.le_refl _⟩
def tbAd : Tbl where
  T :=
    (3, ⟨1, false, [.int .i64 (0)], .int .i64, 8⟩) ::
    (4, ⟨1, false, [.ff], .bool, 1⟩) ::
    (9, ⟨1, false, [.str []], .str, 16⟩) ::
    (30, ⟨5, true, [.int .i64 (0), .int .i64 (0), .int .i64 (0), .str [], .str []], .struct [(0, (1, false)), (1, (1, false)), (2, (1, false)), (3, (1, false)), (4, (1, false))], 56⟩) ::
    (22, ⟨1, false, [.val (.slice none 0 0)], .slice 30, 24⟩) ::
    []
  F :=
    []

theorem tbAd_ok : tbAd.Ok Tryd.prog where
  T :=
    TblOk.cons (by kernel_rfl) <|
    TblOk.cons (by kernel_rfl) <|
    TblOk.cons (by kernel_rfl) <|
    TblOk.cons (by kernel_rfl) <|
    TblOk.cons (by kernel_rfl) <|
    TblOk.nil _
  F :=
    FlatsOk.nil _

def sFewD : SpecF
  | [.c (.row 0)], [.elems ty sz n get] => some (adPre ty sz n get, .c (.bool (fewD (adL n get))), [.dead])
  | _, _ => none

set_option maxRecDepth 100000 in
set_option maxHeartbeats 4000000 in
theorem fewDP : Fn Tryd.prog 6 [] [(30, 5)] sFewD := by
  have hC : CtsOk Tryd.prog [] := CtsOk.nil _
  refine Fn.of (E := tbAd) [] 0 [] tbAd_ok hC (by kernel_rfl) Tryd.func6 rfl rfl rfl (by kernel_rfl) (by kernel_rfl) 1 5 1 ?_ ?_
  · intro args h pre r h' hs
    unfold sFewD at hs
    split at hs
    · cases hs; exact ⟨rfl, rfl, Nat.le_of_ble_eq_true rfl⟩
    · cases hs
  · intro args h pre r h' hs hp
    unfold sFewD at hs
    split at hs
    rotate_left
    · cases hs
    rename_i ty sz n get
    cases hs
    obtain ⟨rfl, rfl, hst⟩ := hp
    refine ⟨[.elems 30 5 n (adG (adL n get))], ⟨⟨rfl, rfl, rfl, fun i hi => hst.eq hi⟩, trivial⟩, ?_⟩
    have hL : (adL n get).length = n := adL_len
    generalize adL n get = L at hL ⊢
    generalize hg0 : (List.length : List DC → Nat) = g0
    generalize hL : lft Tryd.prog _ = L
    try unfold adG
    generalize ho0 : @adK = zo0, ho1 : @adN = zo1, ho2 : @adM = zo2, ho3 : @adS = zo3, ho4 : @adV = zo4, ho5 : @adL = zo5, ho6 : @adPre = zo6, ho7 : @fewD = zo7, ho8 : @fewDt = zo8
    generalize hA : Arith.std = A
    cbv
    subst hA hg0 hL ho0 ho1 ho2 ho3 ho4 ho5 ho6 ho7 ho8
    refine Ife.mk (fun h => ?_) (fun h => ?_)
    · have h : 40 < (@Nat.cast Int instNatCastInt n) := of_decide_eq_true (p := 40 < (n : Int)) h
      rw [show fewD L = false by unfold fewD; rw [decide_eq_false (by omega)]; rfl]
      exact ⟨[0], ⟨rfl, by repeat' (first | exact trivial | exact rfl | apply And.intro | exact (fun _ _ _ _ => Cell.le_refl _) | (intro i hi; rfl) | (intro i hi; exact absurd hi (Nat.not_lt_zero _))), by decide, rfl, by repeat' (first | exact trivial | exact rfl | apply And.intro | exact (fun _ _ _ _ => Cell.le_refl _) | (intro i hi; rfl) | (intro i hi; exact absurd hi (Nat.not_lt_zero _)))⟩⟩
    have h : ¬ (40 < (@Nat.cast Int instNatCastInt n)) := of_decide_eq_false (p := 40 < (n : Int)) h
    replace h := And.intro h trivial
    obtain ⟨hc0, _⟩ := h
    show Runs Tryd.prog 1 (.loop _) _ _
    refine loop_ruleR (N := env (lft Tryd.prog 1) 0 .std tbAd [] []) rfl tbAd_ok hC (fun c st K _ h => h) (by kernel_rfl) [] (X := LIx n (fewDt L))
      (S := fun x => ⟨[.c (.row 0), .any, .any, .c (.int .i64 x.i)] ++ List.replicate 25 .any, [.elems 30 5 n (adG L)]⟩) (μ := fun x => n - x.i.toNat) ⟨0, by omega, by omega, fun k hk => absurd hk (by omega)⟩ (by kernel_rfl) [0] ?_ ?_
    · refine ⟨rfl, by decide, ?_, ?_⟩ <;> repeat' (first | exact trivial | exact rfl | apply And.intro | exact (fun _ _ _ _ => Cell.le_refl _) | (intro i hi; rfl) | (intro i hi; exact absurd hi (Nat.not_lt_zero _)))
    rintro ⟨i, hi0, hin, hP⟩
    generalize hg0 : (List.length : List DC → Nat) = g0
    generalize hL : lft Tryd.prog _ = L
    try dsimp only
    try unfold adG
    generalize ho0 : @adK = zo0, ho1 : @adN = zo1, ho2 : @adM = zo2, ho3 : @adS = zo3, ho4 : @adV = zo4, ho5 : @adL = zo5, ho6 : @adPre = zo6, ho7 : @fewD = zo7, ho8 : @fewDt = zo8
    generalize hA : Arith.std = A
    cbv
    subst hA hg0 hL ho0 ho1 ho2 ho3 ho4 ho5 ho6 ho7 ho8
    try replace hc0 : ¬ (40 < (@Nat.cast Int instNatCastInt n)) := hc0
    replace hc0 : ¬ (40 : Int) < @Nat.cast Int instNatCastInt n := hc0
    replace hi0 : 0 ≤ i := hi0
    replace hin : i ≤ @Nat.cast Int instNatCastInt n := hin
    replace hP : ∀ k, k < i.toNat → fewDt L k = true := hP
    refine Ife.mk (fun hlt => ?_) (fun hlt => ?_)
    · replace hlt : i < @Nat.cast Int instNatCastInt n := of_decide_eq_true (p := i < (n : Int)) hlt
      have hiL : i.toNat < L.length := by omega
      have no : ¬ fewDt L i.toNat = true → fewD L = false := fun h => by unfold fewD; rw [all_no hiL h, Bool.and_false]
      refine Need.mk (by show 0 ≤ i ∧ i < (n : Int); omega) fun _ => Need.mk (by show i.toNat < n; omega) fun _ => ?_
      refine Ife.mk (fun h => ?_) (fun h => ?_)
      · have h : (300 : Int) < ((adS L i.toNat).length : Int) := of_decide_eq_true (p := (300 : Int) < ((adS L i.toNat).length : Int)) h
        rw [no fun hh => by have hh := fewDt_iff.1 hh; omega]
        exact ⟨[0], ⟨rfl, by repeat' (first | exact trivial | exact rfl | apply And.intro | exact (fun _ _ _ _ => Cell.le_refl _) | (intro i hi; rfl) | (intro i hi; exact absurd hi (Nat.not_lt_zero _))), by decide, rfl, by repeat' (first | exact trivial | exact rfl | apply And.intro | exact (fun _ _ _ _ => Cell.le_refl _) | (intro i hi; rfl) | (intro i hi; exact absurd hi (Nat.not_lt_zero _)))⟩⟩
      have h1 : ¬ (300 : Int) < ((adS L i.toNat).length : Int) := of_decide_eq_false (p := (300 : Int) < ((adS L i.toNat).length : Int)) h
      refine Need.mk (by show 0 ≤ i ∧ i < (n : Int); omega) fun _ => Need.mk (by show i.toNat < n; omega) fun _ => ?_
      refine Ife.mk (fun h => ?_) (fun h => ?_)
      · have h : (200 : Int) < ((adV L i.toNat).length : Int) := of_decide_eq_true (p := (200 : Int) < ((adV L i.toNat).length : Int)) h
        rw [no fun hh => by have hh := fewDt_iff.1 hh; omega]
        exact ⟨[0], ⟨rfl, by repeat' (first | exact trivial | exact rfl | apply And.intro | exact (fun _ _ _ _ => Cell.le_refl _) | (intro i hi; rfl) | (intro i hi; exact absurd hi (Nat.not_lt_zero _))), by decide, rfl, by repeat' (first | exact trivial | exact rfl | apply And.intro | exact (fun _ _ _ _ => Cell.le_refl _) | (intro i hi; rfl) | (intro i hi; exact absurd hi (Nat.not_lt_zero _)))⟩⟩
      have h2 : ¬ (200 : Int) < ((adV L i.toNat).length : Int) := of_decide_eq_false (p := (200 : Int) < ((adV L i.toNat).length : Int)) h
      refine Need.mk (by show fitStd .i64 (i + 1); unfold fitStd; omega) fun _ => ?_
      refine ⟨⟨i + 1, by omega, by omega, lix_next hi0 hP (fewDt_iff.2 (by omega))⟩, [0], (by show n - (i + 1).toNat < n - i.toNat; omega), ?_⟩
      refine ⟨rfl, by decide, ?_, ?_⟩ <;> repeat' (first | exact trivial | exact rfl | apply And.intro | exact (fun _ _ _ _ => Cell.le_refl _) | (intro i hi; rfl) | (intro i hi; exact absurd hi (Nat.not_lt_zero _)))
    · replace hlt : ¬ i < @Nat.cast Int instNatCastInt n := of_decide_eq_false (p := i < (n : Int)) hlt
      rw [show fewD L = true by unfold fewD; rw [all_yes hP (by omega), decide_eq_true (by omega)]; rfl]
      exact ⟨[0], ⟨rfl, by repeat' (first | exact trivial | exact rfl | apply And.intro | exact (fun _ _ _ _ => Cell.le_refl _) | (intro i hi; rfl) | (intro i hi; exact absurd hi (Nat.not_lt_zero _))), by decide, rfl, by repeat' (first | exact trivial | exact rfl | apply And.intro | exact (fun _ _ _ _ => Cell.le_refl _) | (intro i hi; rfl) | (intro i hi; exact absurd hi (Nat.not_lt_zero _)))⟩⟩

end Go.Proofs.YtbbpgicoklhheaaDoor.Vx
end

section
/- StoreProves, by the walker. -/
namespace Go.Proofs.YtbbpgicoklhheaaDoor.Vx
open Sha
open Go.RowKit
set_option linter.unusedVariables false
set_option linter.unusedSimpArgs false
theorem rootL_range (R : List PP) (j : Nat) : 0 ≤ rootL R j ∧ rootL R j < 256 := by
  unfold rootL rootF
  split
  · exact ⟨Int.le_refl 0, (by decide : (0 : Int) < 256)⟩
  · exact sumI_range _ j
theorem val_own {R : List PP} {k : List UInt8} (hs : StS R) (hz : AllSz R) (h40 : R.length ≤ 40) : valB (hOf (hashC (rootL R))) (mkC R) (mkL R k) k = findB R k ∧ valV (hOf (hashC (rootL R))) (mkC R) (mkL R k) k = getL R k ∧ lackB (hOf (hashC (rootL R))) (mkC R) (mkL R k) k = !findB R k := by
  have hg : goodL R = true := goodL_iff.2 ⟨hs, hz⟩
  have eC : mkC R = (R.length : Int) := by unfold mkC; rw [if_pos hg]
  rw [eC]
  exact ⟨valB_mk hg h40, valV_mk hg h40, lackB_mk hg h40⟩




end Go.Proofs.YtbbpgicoklhheaaDoor.Vx
end

section
/- The first lines of the laws over what is kept; PastProves, by the walker. -/
namespace Go.Proofs.YtbbpgicoklhheaaDoor.Vx
open Sha
open Go.RowKit
set_option linter.unusedVariables false
set_option linter.unusedSimpArgs false
def fPre (gg sz0 n0 : Nat) (get0 : Nat → List CV) (ty one n : Nat) (get : Nat → List CV) : Prop := KsAt gg sz0 n0 get0 ∧ ty = 30 ∧ one = 5 ∧ AdAt n get
/-- A header's root, as cells. -/
def rt34 (f : Nat → Int) : List CV := [.int .u8 (f 2), .int .u8 (f 3), .int .u8 (f 4), .int .u8 (f 5), .int .u8 (f 6), .int .u8 (f 7), .int .u8 (f 8), .int .u8 (f 9), .int .u8 (f 10), .int .u8 (f 11), .int .u8 (f 12), .int .u8 (f 13), .int .u8 (f 14), .int .u8 (f 15), .int .u8 (f 16), .int .u8 (f 17), .int .u8 (f 18), .int .u8 (f 19), .int .u8 (f 20), .int .u8 (f 21), .int .u8 (f 22), .int .u8 (f 23), .int .u8 (f 24), .int .u8 (f 25), .int .u8 (f 26), .int .u8 (f 27), .int .u8 (f 28), .int .u8 (f 29), .int .u8 (f 30), .int .u8 (f 31), .int .u8 (f 32), .int .u8 (f 33)]
theorem rt34_num {P : List PaR} {h : Int} (hh : paHas P h = true) : rt34 (paNum P h) = hashC (rootL (paL P h)) := by
  rw [paNum_yes hh]
  rfl
/-- Heights 1 to i are kept. -/
structure PaQ (P : List PaR) (i : Nat) : Prop where
  s : PaS P
  l : P.length = i
  last : pLast P = (i : Int)
  has : ∀ h : Nat, 1 ≤ h → h ≤ i → paHas P (h : Int) = true
  short : ∀ r ∈ P, r.2.2.length ≤ 40
theorem paHas_app {P : List PaR} {r : PaR} {h : Int} : paHas (P ++ [r]) h = (paHas P h || decide (r.1 = h)) := by
  induction P with
  | nil =>
    show (if r.1 = h then true else false) = (false || decide (r.1 = h))
    by_cases e : r.1 = h <;> simp [e]
  | cons q P ih =>
    show (if q.1 = h then true else paHas (P ++ [r]) h) = ((if q.1 = h then true else paHas P h) || decide (r.1 = h))
    rw [ih]
    by_cases e : q.1 = h <;> simp [e]
theorem pLast_app {P : List PaR} {r : PaR} : pLast (P ++ [r]) = r.1 := by
  unfold pLast pH
  rw [if_neg (by simp)]
  simp [List.getD]
theorem PaQ.nil : PaQ [] 0 := ⟨pas_nil, rfl, rfl, (fun h h1 h2 => by omega), (fun r h => by cases h)⟩
theorem PaQ.ke {P : List PaR} {i : Nat} (h : PaQ P i) (hi : i < 40) : keepE P ((i : Int) + 1) 0 = 0 := keepE_ok (by omega) (by omega) (by omega) (by omega) (by rw [h.last]; omega)
theorem PaQ.next {P : List PaR} {i : Nat} (h : PaQ P i) {R : List PP} (hR : RunD R (i + 1)) (hi : i < 40) : PaQ (keepL P ((i : Int) + 1) 0 R) (i + 1) := by
  have hk := keepL_ok (h := (i : Int) + 1) (t := 0) h.s ⟨hR.s, hR.z, by have := hR.l; omega⟩ (by rw [h.l]; omega)
  have e : keepL P ((i : Int) + 1) 0 R = P ++ [((i : Int) + 1, 0, R)] := if_pos (h.ke hi)
  rw [e] at hk ⊢
  refine ⟨hk, by simp [h.l], ?_, fun j h1 h2 => ?_, fun r hr => ?_⟩
  · rw [pLast_app]
    show (i : Int) + 1 = ((i + 1 : Nat) : Int)
    omega
  · rw [paHas_app]
    rcases Nat.lt_or_ge i j with h3 | h3
    · have : decide (((i : Int) + 1, (0 : Int), R).1 = (j : Int)) = true := decide_eq_true (by show (i : Int) + 1 = (j : Int); omega)
      rw [this, Bool.or_true]
    · rw [h.has j h1 h3, Bool.true_or]
  · rcases List.mem_append.1 hr with h3 | h3
    · exact h.short r h3
    · rw [List.mem_singleton.1 h3]
      have := hR.l
      show R.length ≤ 40
      omega
structure LPp1 (n : Nat) where
  i : Nat
  R : List PP
  P : List PaR
  h1 : i ≤ n
  hO : RunD R i
  hP : PaQ P i
structure LPp2 (n : Nat) where
  h : Nat
  h1 : 1 ≤ h
  h2 : h ≤ n + 1
theorem valD_own {P : List PaR} {h : Int} {k : List UInt8} (hh : paHas P h = true) (hs : PaS P) (h40 : (paL P h).length ≤ 40) : valB (hOf (rt34 (paNum P h))) (mkC (paL P h)) (mkL (paL P h) k) k = findB (paL P h) k ∧ valV (hOf (rt34 (paNum P h))) (mkC (paL P h)) (mkL (paL P h) k) k = getL (paL P h) k ∧ lackB (hOf (rt34 (paNum P h))) (mkC (paL P h)) (mkL (paL P h) k) k = !findB (paL P h) k := by
  rw [rt34_num hh]
  obtain ⟨q1, q2, q3⟩ := hs.at h
  exact val_own q1 q2 h40
def tbPd : Tbl where
  T :=
    (3, ⟨1, false, [.int .i64 (0)], .int .i64, 8⟩) ::
    (4, ⟨1, false, [.ff], .bool, 1⟩) ::
    (9, ⟨1, false, [.str []], .str, 16⟩) ::
    (5, ⟨1, false, [.int .u8 (0)], .int .u8, 1⟩) ::
    (73, ⟨1, true, [.int .i64 (0)], .struct [(0, (1, false))], 8⟩) ::
    (61, ⟨1, false, [.val (.slice none 0 0)], .slice 73, 24⟩) ::
    (75, ⟨35, true, [.int .i64 (0), .int .i64 (0), .int .u8 (0), .int .u8 (0), .int .u8 (0), .int .u8 (0), .int .u8 (0), .int .u8 (0), .int .u8 (0), .int .u8 (0), .int .u8 (0), .int .u8 (0), .int .u8 (0), .int .u8 (0), .int .u8 (0), .int .u8 (0), .int .u8 (0), .int .u8 (0), .int .u8 (0), .int .u8 (0), .int .u8 (0), .int .u8 (0), .int .u8 (0), .int .u8 (0), .int .u8 (0), .int .u8 (0), .int .u8 (0), .int .u8 (0), .int .u8 (0), .int .u8 (0), .int .u8 (0), .int .u8 (0), .int .u8 (0), .int .u8 (0), .val (.pointer none)], .struct [(0, (34, true)), (34, (1, false))], 56⟩) ::
    (63, ⟨2, true, [.val (.map none), .val (.slice none 0 0)], .struct [(0, (1, false)), (1, (1, false))], 32⟩) ::
    (25, ⟨1, false, [.val (.pointer none)], .ptr 63, 8⟩) ::
    (60, ⟨1, false, [.val (.map none)], .map 73 75, 8⟩) ::
    (44, ⟨2, true, [.str [], .str []], .struct [(0, (1, false)), (1, (1, false))], 32⟩) ::
    (41, ⟨1, false, [.val (.slice none 0 0)], .slice 44, 24⟩) ::
    (65, ⟨1, true, [.val (.slice none 0 0)], .struct [(0, (1, false))], 24⟩) ::
    (27, ⟨1, false, [.val (.pointer none)], .ptr 65, 8⟩) ::
    (36, ⟨32, true, [.int .u8 (0), .int .u8 (0), .int .u8 (0), .int .u8 (0), .int .u8 (0), .int .u8 (0), .int .u8 (0), .int .u8 (0), .int .u8 (0), .int .u8 (0), .int .u8 (0), .int .u8 (0), .int .u8 (0), .int .u8 (0), .int .u8 (0), .int .u8 (0), .int .u8 (0), .int .u8 (0), .int .u8 (0), .int .u8 (0), .int .u8 (0), .int .u8 (0), .int .u8 (0), .int .u8 (0), .int .u8 (0), .int .u8 (0), .int .u8 (0), .int .u8 (0), .int .u8 (0), .int .u8 (0), .int .u8 (0), .int .u8 (0)], .array 32 5, 32⟩) ::
    (38, ⟨34, true, [.int .i64 (0), .int .i64 (0), .int .u8 (0), .int .u8 (0), .int .u8 (0), .int .u8 (0), .int .u8 (0), .int .u8 (0), .int .u8 (0), .int .u8 (0), .int .u8 (0), .int .u8 (0), .int .u8 (0), .int .u8 (0), .int .u8 (0), .int .u8 (0), .int .u8 (0), .int .u8 (0), .int .u8 (0), .int .u8 (0), .int .u8 (0), .int .u8 (0), .int .u8 (0), .int .u8 (0), .int .u8 (0), .int .u8 (0), .int .u8 (0), .int .u8 (0), .int .u8 (0), .int .u8 (0), .int .u8 (0), .int .u8 (0), .int .u8 (0), .int .u8 (0)], .struct [(0, (1, false)), (1, (1, false)), (2, (32, true))], 48⟩) ::
    (47, ⟨1, false, [.val (.slice none 0 0)], .slice 38, 24⟩) ::
    (54, ⟨2, true, [.int .i64 (0), .val (.slice none 0 0)], .struct [(0, (1, false)), (1, (1, false))], 32⟩) ::
    (87, ⟨4, true, [.str [], .str [], .int .i64 (0), .val (.slice none 0 0)], .struct [(0, (1, false)), (1, (1, false)), (2, (1, false)), (3, (1, false))], 64⟩) ::
    (52, ⟨1, false, [.val (.slice none 0 0)], .slice 87, 24⟩) ::
    (30, ⟨5, true, [.int .i64 (0), .int .i64 (0), .int .i64 (0), .str [], .str []], .struct [(0, (1, false)), (1, (1, false)), (2, (1, false)), (3, (1, false)), (4, (1, false))], 56⟩) ::
    (22, ⟨1, false, [.val (.slice none 0 0)], .slice 30, 24⟩) ::
    (32, ⟨1, false, [.int .i64 (0)], .int .i64, 8⟩) ::
    (85, ⟨1, false, [.val (.slice none 0 0)], .slice 36, 24⟩) ::
    []
  F :=
    (73, [0]) ::
    (36, [0, 0, 0, 0, 0, 0, 0, 0, 0, 0, 0, 0, 0, 0, 0, 0, 0, 0, 0, 0, 0, 0, 0, 0, 0, 0, 0, 0, 0, 0, 0, 0]) ::
    (44, [1, 1]) ::
    (38, [0, 0, 0, 0, 0, 0, 0, 0, 0, 0, 0, 0, 0, 0, 0, 0, 0, 0, 0, 0, 0, 0, 0, 0, 0, 0, 0, 0, 0, 0, 0, 0, 0, 0]) ::
    []
  Q := [(60, (65, 44, 2))]

theorem tbPd_ok : tbPd.Ok Tryd.prog where
  T :=
    TblOk.cons (by kernel_rfl) <|
    TblOk.cons (by kernel_rfl) <|
    TblOk.cons (by kernel_rfl) <|
    TblOk.cons (by kernel_rfl) <|
    TblOk.cons (by kernel_rfl) <|
    TblOk.cons (by kernel_rfl) <|
    TblOk.cons (by kernel_rfl) <|
    TblOk.cons (by kernel_rfl) <|
    TblOk.cons (by kernel_rfl) <|
    TblOk.cons (by kernel_rfl) <|
    TblOk.cons (by kernel_rfl) <|
    TblOk.cons (by kernel_rfl) <|
    TblOk.cons (by kernel_rfl) <|
    TblOk.cons (by kernel_rfl) <|
    TblOk.cons (by kernel_rfl) <|
    TblOk.cons (by kernel_rfl) <|
    TblOk.cons (by kernel_rfl) <|
    TblOk.cons (by kernel_rfl) <|
    TblOk.cons (by kernel_rfl) <|
    TblOk.cons (by kernel_rfl) <|
    TblOk.cons (by kernel_rfl) <|
    TblOk.cons (by kernel_rfl) <|
    TblOk.cons (by kernel_rfl) <|
    TblOk.cons (by kernel_rfl) <|
    TblOk.nil _
  F :=
    FlatsOk.cons (FlatOk.of (D := .struct (Tryd.prog.fieldsOf 73)) 6 (by decide) (by kernel_rfl) (by kernel_rfl) rfl (by kernel_rfl)) <|
    FlatsOk.cons (FlatOk.of (D := .array 32 5) 6 (by decide) (by kernel_rfl) (by kernel_rfl) rfl (by kernel_rfl)) <|
    FlatsOk.cons (FlatOk.of (D := .struct (Tryd.prog.fieldsOf 44)) 6 (by decide) (by kernel_rfl) (by kernel_rfl) rfl (by kernel_rfl)) <|
    FlatsOk.cons (FlatOk.of (D := .struct (Tryd.prog.fieldsOf 38)) 6 (by decide) (by kernel_rfl) (by kernel_rfl) rfl (by kernel_rfl)) <|
    FlatsOk.nil _

def sFirst13 : SpecF
  | [], [.glob gg sz0 n0 get0] => some (KsAt gg sz0 n0 get0, .c .tt, [.dead])
  | _, _ => none

set_option maxRecDepth 100000 in
set_option maxHeartbeats 8000000 in
theorem first13P : Fn Tryd.prog 5 [1] [] sFirst13 := by
  have hC : CtsOk Tryd.prog [(7, appFn [] [] sPNew), (8, appFn [] [] sNewS), (11, appFn [1] [] sPKeep), (10, appFn [] [] sSet), (17, appFn [] [] sPGet), (15, appFn [] [] sPLast)] := CtsOk.cons (Fn.ct newPP) <| CtsOk.cons (Fn.ct newSP) <| CtsOk.cons (Fn.ct keepPP) <| CtsOk.cons (Fn.ct setSP) <| CtsOk.cons (Fn.ct getPP) <| CtsOk.cons (Fn.ct lastPP) <| CtsOk.nil _
  refine Fn.of (E := tbPd) [0] 0 [] tbPd_ok hC (by kernel_rfl) Tryd.func5 rfl rfl rfl (by kernel_rfl) (by kernel_rfl) 1 5 1 ?_ ?_
  · intro args h pre r h' hs
    unfold sFirst13 at hs
    split at hs
    · cases hs; exact ⟨rfl, rfl, Nat.le_of_ble_eq_true rfl⟩
    · cases hs
  · intro args h pre r h' hs hp
    unfold sFirst13 at hs
    split at hs
    rotate_left
    · cases hs
    rename_i gg sz0 n0 get0
    cases hs
    refine ⟨[.glob 1 1 64 (fun i => [.int .u32 (kOf i)])], ⟨hp.same.1, trivial⟩, ?_⟩
    clear hp
    unfold sPNew sNewS sPKeep sSet sPGet sPLast
    generalize hg0 : (List.length : List PP → Nat) = g0
    generalize hg1 : (List.length : List PaR → Nat) = g1
    try unfold prG
    try unfold mkG
    generalize ho0 : @prK = zo0, ho1 : @prV = zo1, ho2 : @prL = zo2, ho3 : @findB = zo3, ho4 : @szB = zo4, ho5 : @putS = zo5, ho6 : @getL = zo6, ho7 : @prPre = zo7, ho8 : @KsAt = zo8, ho9 : @kOf = zo9, ho10 : @StS = zo10, ho11 : @pQ = zo11, ho12 : @pL = zo12, ho13 : @pH = zo13, ho14 : @paL = zo14, ho15 : @keepE = zo15, ho16 : @keepL = zo16, ho17 : @pLast = zo17, ho18 : @paPre = zo18, ho19 : @keepPre = zo19
    generalize hA : Arith.std = A
    cbv
    subst hA hg0 hg1 ho0 ho1 ho2 ho3 ho4 ho5 ho6 ho7 ho8 ho9 ho10 ho11 ho12 ho13 ho14 ho15 ho16 ho17 ho18 ho19
    try simp only [← mqHas.eq_def, ← mqRec.eq_def, ← mqSet.eq_def]
    have p1 : putS [] [97] [49] = [([97], [49])] := by decide
    have k1 : keepL [] 1 0 [] = [((1 : Int), (0 : Int), ([] : List PP))] := rfl
    have k2 : keepL [((1 : Int), (0 : Int), ([] : List PP))] 3 5 [([97], [49])] = [(1, 0, []), (3, 5, [([97], [49])])] := rfl
    have eK1 : keepE [] 1 0 = 0 := rfl
    have eK2 : keepE [((1 : Int), (0 : Int), ([] : List PP))] 3 5 = 0 := rfl
    have s0 : StS [] := List.Pairwise.nil
    have z0 : AllSz [] := fun p hp => by cases hp
    have s1 : StS [([97], [49])] := List.pairwise_singleton _ _
    have z1 : AllSz [([97], [49])] := fun p hp => by rw [List.mem_singleton.1 hp]; decide
    have hP1 : PaS [((1 : Int), (0 : Int), ([] : List PP))] := by
      have := keepL_ok (h := 1) (t := 0) (S := []) pas_nil ⟨s0, z0, by decide⟩ (by decide)
      rwa [k1] at this
    have hP2 : PaS [((1 : Int), (0 : Int), ([] : List PP)), (3, 5, [([97], [49])])] := by
      have := keepL_ok (h := 3) (t := 5) (S := [([97], [49])]) hP1 ⟨s1, z1, by decide⟩ (by decide)
      rwa [k2] at this
    simp only [pL_pQ, prL_zero, k1, p1, prL_prG, k2, eK1, eK2]
    refine Need.mk trivial fun _ => Need.mk trivial fun _ => Need.mk ⟨ksAt_self, paPre_mk pas_nil, by decide, rfl, ⟨rfl, rfl, prAt_prG _ _, by decide⟩, s0, z0⟩ fun _ => ?_
    refine Need.mk ⟨⟨rfl, rfl, prAt_prG _ _, by decide⟩, s0, trivial⟩ fun _ => Need.mk ⟨ksAt_self, paPre_mk hP1, by decide, rfl, ⟨rfl, rfl, prAt_prG _ _, by decide⟩, s1, z1⟩ fun _ => ?_
    refine Need.mk (paPre_mk hP2) fun _ => ?_
    have hb1 : findB (paL [((1 : Int), (0 : Int), ([] : List PP)), (3, 5, [([97], [49])])] 1) [97] = false := by decide
    have hb3 : findB (paL [((1 : Int), (0 : Int), ([] : List PP)), (3, 5, [([97], [49])])] 3) [97] = true := by decide
    have hg3 : getL (paL [((1 : Int), (0 : Int), ([] : List PP)), (3, 5, [([97], [49])])] 3) [97] = [49] := by decide
    have hT : decide (pLast [((1 : Int), (0 : Int), ([] : List PP)), (3, 5, [([97], [49])])] = 3) = true := by decide
    rw [hb1, hb3, hg3]
    refine Need.mk (paPre_mk hP2) fun _ => ?_
    refine Ife.mk (fun _ => ?_) (fun h => absurd h (by show ¬ decide ((0 : Int) = 0) = false; decide))
    refine Ife.mk (fun _ => ?_) (fun h => absurd h (by show ¬ decide ((0 : Int) = 0) = false; decide))
    refine Ife.mk (fun _ => ?_) (fun h => absurd h (by show ¬ (!false) = false; decide))
    refine Ife.mk (fun _ => ?_) (fun h => absurd h (by show ¬ decide (([49] : List UInt8) = [49]) = false; decide))
    refine Ife.mk (fun _ => ?_) (fun h => absurd h (by decide))
    refine Need.mk (paPre_mk hP2) fun _ => ?_
    exact ⟨[0], ⟨rfl, (by repeat' (first | exact trivial | exact hT | exact rfl | apply And.intro)), (by show List.Nodup []; exact List.nodup_nil), rfl, by repeat' (first | exact trivial | exact rfl | apply And.intro | exact (fun _ _ _ _ => Cell.le_refl _) | (intro i hi; rfl) | (intro i hi; exact absurd hi (Nat.not_lt_zero _)))⟩⟩

end Go.Proofs.YtbbpgicoklhheaaDoor.Vx
end
