/- The law BlockEvents, by the walker. -/
import Derived.Test.YtpapfokdhmpmjaaOpenBlk
import Derived.Test.YtpapfokdhmpmjaaVBlk5
import Derived.Test.YtpapfokdhmpmjaaVRef2
namespace Go.Proofs.Ytpapfokdhmpmjaa
open Go.RowKit
set_option linter.unusedVariables false
set_option linter.unusedSimpArgs false

theorem mayBl_set {b : Bl} {i : Nat} {x : Ev} (h : mayBl b = true) (hx : mayEv x = true) : mayBl ⟨b.chain, b.height, b.time, b.evs.set i x⟩ = true := by
  unfold mayBl at h ⊢
  simp only [Bool.and_eq_true] at h ⊢
  obtain ⟨⟨⟨⟨h1, h2⟩, h3⟩, h4⟩, h5⟩ := h
  refine ⟨⟨⟨⟨h1, h2⟩, h3⟩, ?_⟩, by simpa using h5⟩
  rw [List.all_eq_true] at h4 ⊢
  intro y hy
  rcases List.mem_or_eq_of_mem_set hy with h | rfl
  · exact h4 y h
  · exact hx
theorem blB_inj {a b : Bl} (ha : mayBl a = true) (hb : mayBl b = true) (h : blB a = blB b) : a = b := by
  have h1 := decBl_back ha
  have h2 := decBl_back hb
  rw [h, h2] at h1
  exact (Prod.mk.inj h1).1.symm

namespace Vx
theorem evsOf_up (n : Nat) (get : Nat → List CV) (i : Nat) (x : Ev) : evsOf n (upG (fun i => evC (evAt (get i))) i 0 (evC x)) = (evsOf n get).set i x := by
  apply List.ext_getElem?
  intro k
  rw [List.getElem?_set]
  by_cases hk : k < n
  · rw [evsOf_get _ _ _ hk, evsOf_get _ _ _ hk, evsOf_len]
    unfold upG
    by_cases hki : i = k
    · subst hki
      rw [if_pos rfl, if_pos hk, show Nat.beq i i = true by simp]
      rfl
    · rw [if_neg hki, show Nat.beq k i = false by rw [Bool.eq_false_iff]; exact fun h => hki (Nat.eq_of_beq_eq_true h).symm]
      rfl
  · rw [List.getElem?_eq_none (by rw [evsOf_len]; omega), List.getElem?_eq_none (by rw [evsOf_len]; omega), evsOf_len]
    simp [hk]
    intro h
    omega
theorem evsAt_up {n : Nat} {get : Nat → List CV} {i : Nat} {x : Ev} (h : EvsAt n get) (hx : x.fits) : EvsAt n (upG (fun i => evC (evAt (get i))) i 0 (evC x)) := fun k hk => by
  unfold upG
  by_cases hki : k = i
  · subst hki
    rw [show Nat.beq k k = true by simp]
    exact ⟨x, rfl, hx⟩
  · rw [show Nat.beq k i = false by rw [Bool.eq_false_iff]; exact fun h => hki (Nat.eq_of_beq_eq_true h)]
    exact ⟨evAt (get k), rfl, h.fits k hk⟩
def sBlEvs : SpecR
  | [.agg [.str c, .int .i64 ht, .int .i64 tm, .row 0], .c (.int .i64 i), .agg [.int .i64 k, .str sp, .int .i64 sc, .str dp, .int .i64 dc, .int .i64 sq, .str da, .int .i64 th, .int .i64 ta, .str ak, .str ep, .int .i64 ec, .int .i64 hh]], [(n, get)] => some ((BlAt c n get ∧ isI64 i ∧ Ev.fits ⟨k, ⟨sp, sc, dp, dc, sq, da, th, ta⟩, ak, ep, ec, hh⟩), .c (.bool true))
  | _, _ => none

set_option maxRecDepth 100000 in
set_option maxHeartbeats 2000000 in
theorem blEvsP : Rds Try.prog 8 13 sBlEvs := by
  have hC : CtsOk Try.prog [(15, appPure sTrue), (16, appRds 13 sLight), (11, appRds 13 sLightB), (17, appRds 13 sMayBl), (18, appRds 13 sEncBl), (21, appBorn 13 sDecBl), (22, appRds 13 sSameBl), (23, appPure sMayEv)] := CtsOk.cons (Pure.ct firstBP) <| CtsOk.cons (Rds.ct lightBlP) <| CtsOk.cons (Rds.ct lightBP) <| CtsOk.cons (Rds.ct mayBlP) <| CtsOk.cons (Rds.ct encBlP) <| CtsOk.cons (Born.ct decBlP) <| CtsOk.cons (Rds.ct sameBlP) <| CtsOk.cons (Pure.ct refMayEvP) <| CtsOk.nil _
  refine Rds.of (E := tb) [] 0 [(11, [(0, true), (1, true), (2, true), (3, true), (4, true), (5, true), (6, true), (7, true), (8, true), (9, true), (10, true), (11, true), (12, true), (13, true), (14, true), (15, true), (16, true), (17, true), (18, true), (19, true), (20, true), (21, true), (22, true), (23, true), (24, true), (25, true), (26, true), (27, true)]), (13, [(0, true), (1, true), (2, true), (3, true), (4, true), (5, true), (6, true), (7, true), (8, true), (9, true), (10, true), (11, true), (12, true), (13, true), (15, true), (16, true), (17, true), (14, false), (18, true), (19, true), (20, true)])] tb_ok hC (by kernel_rfl) Try.func8 rfl rfl rfl (by kernel_rfl) (by kernel_rfl) 27 1 ?_ ?_
  · intro args vs pre r h
    unfold sBlEvs at h
    split at h
    · cases h; exact ⟨rfl, rfl⟩
    · cases h
  · intro args vs pre r h hp
    unfold sBlEvs at h
    split at h
    rotate_left
    · cases h
    rename_i c ht tm i k sp sc dp dc sq da th ta ak ep ec hh n get
    cases h
    obtain ⟨hp1, hp2, hp3⟩ := hp
    refine ⟨_, hp1.evs.same, ?_⟩
    rw [← exec_assoc, ← exec_assoc]
    refine exec_cut fun K hn hr _ => ?_
    replace hn := Lib.hid hn
    replace hr := Lib.hid hr
    unfold sTrue sLight sLightB sMayBl sEncBl sDecBl sSameBl sMayEv
    generalize hg0 : lightBl = g0
    generalize hg1 : lightEvs = g1
    generalize hg2 : encBl = g2
    generalize hg3 : BlAt = g3
    generalize hg4 : EvsAt = g4
    generalize hg5 : mayBl = g5
    generalize hg6 : mayEv = g6
    generalize hg7 : Ev.fits = g7
    generalize hg8 : evsOf = g8
    generalize hg9 : evAt = g9
    generalize hg10 : decBl = g10
    generalize hg11 : evGet = g11
    generalize hg12 : upG = g12
    generalize hg13 : (List.length : List UInt8 → Nat) = g13
    generalize hg14 : (List.length : List Ev → Nat) = g14
    generalize hg15 : (instDecidableEqBl) = g15
    generalize hA : Arith.std = A
    cbv
    subst hA hg0 hg1 hg2 hg3 hg4 hg5 hg6 hg7 hg8 hg9 hg10 hg11 hg12 hg13 hg14 hg15
    refine Need.mk trivial fun _ => ?_
    refine Need.mk hp1.same fun _ => ?_
    refine Ife.mk (fun _ => Need.mk trivial fun _ => hr.out _ (by rfl)) (fun hli => ?_)
    refine Need.mk hp1.same fun _ => ?_
    refine Ife.mk (fun _ => Need.mk trivial fun _ => hr.out _ (by rfl)) (fun hm => ?_)
    refine Ife.mk (fun _ => Need.mk trivial fun _ => hr.out _ (by rfl)) (fun hi0 => ?_)
    refine Ife.mk (fun _ => Need.mk trivial fun _ => hr.out _ (by rfl)) (fun hi1 => ?_)
    refine Need.mk (evsAt1 rfl hp3) fun _ => ?_
    refine Ife.mk (fun _ => Need.mk trivial fun _ => hr.out _ (by rfl)) (fun _ => ?_)
    refine Need.mk hp3 fun _ => ?_
    refine Ife.mk (fun _ => Need.mk trivial fun _ => hr.out _ (by rfl)) (fun hx => ?_)
    have hli : lightBl c n (fun i => evC (evAt (get i))) = true := of_not_ff hli
    have hm : mayBl (⟨c, ht, tm, evsOf n get⟩ : Bl) = true := of_not_ff hm
    have hi0 : ¬ i < 0 := of_decide_eq_false (p := i < 0) hi0
    have hi1 : ¬ (n : Int) ≤ i := of_decide_eq_false (p := (n : Int) ≤ i) hi1
    have hx : mayEv (⟨k, ⟨sp, sc, dp, dc, sq, da, th, ta⟩, ak, ep, ec, hh⟩ : Ev) = true := of_not_ff hx
    have h60 : n ≤ 60 := by
      unfold lightBl lightEvs at hli
      simp only [Bool.and_eq_true, decide_eq_true_eq] at hli
      exact hli.2.1
    have hk : i.toNat < n := by omega
    have hmY : mayBl (⟨c, ht, tm, (evsOf n get).set i.toNat (⟨k, ⟨sp, sc, dp, dc, sq, da, th, ta⟩, ak, ep, ec, hh⟩ : Ev)⟩ : Bl) = true := mayBl_set hm hx
    refine hn.out _ ?_
    clear hn hr
    rw [← exec_assoc, ← exec_assoc]
    refine exec_cut fun K hn hr _ => ?_
    replace hn := Lib.hid hn
    replace hr := Lib.hid hr
    unfold sTrue sLight sLightB sMayBl sEncBl sDecBl sSameBl sMayEv
    generalize hg0 : lightBl = g0
    generalize hg1 : lightEvs = g1
    generalize hg2 : encBl = g2
    generalize hg3 : BlAt = g3
    generalize hg4 : EvsAt = g4
    generalize hg5 : mayBl = g5
    generalize hg6 : mayEv = g6
    generalize hg7 : Ev.fits = g7
    generalize hg8 : evsOf = g8
    generalize hg9 : evAt = g9
    generalize hg10 : decBl = g10
    generalize hg11 : evGet = g11
    generalize hg12 : upG = g12
    generalize hg13 : (List.length : List UInt8 → Nat) = g13
    generalize hg14 : (List.length : List Ev → Nat) = g14
    generalize hg15 : (instDecidableEqBl) = g15
    generalize hA : Arith.std = A
    cbv
    subst hA hg0 hg1 hg2 hg3 hg4 hg5 hg6 hg7 hg8 hg9 hg10 hg11 hg12 hg13 hg14 hg15
    refine Need.mk ⟨⟨by unfold maxLen; omega, by omega⟩, fun i hi => rfl⟩ fun _ => ?_
    refine Need.mk (show 0 ≤ i ∧ i < (n : Int) from ⟨by omega, by omega⟩) fun _ => ?_
    refine Need.mk (show i.toNat < n from hk) fun _ => ?_
    refine hn.out _ ?_
    clear hn hr
    rw [← exec_assoc, ← exec_assoc]
    have hW : (⟨c, ht, tm, evsOf n (upG (fun i => evC (evAt (get i))) i.toNat 0 (evC (⟨k, ⟨sp, sc, dp, dc, sq, da, th, ta⟩, ak, ep, ec, hh⟩ : Ev)))⟩ : Bl) = (⟨c, ht, tm, (evsOf n get).set i.toNat (⟨k, ⟨sp, sc, dp, dc, sq, da, th, ta⟩, ak, ep, ec, hh⟩ : Ev)⟩ : Bl) := by rw [evsOf_up]
    have hEX : encBl (⟨c, ht, tm, evsOf n (fun i => evC (evAt (get i)))⟩ : Bl) = (blB (⟨c, ht, tm, evsOf n get⟩ : Bl), 0) := by rw [evsOf_same]; exact enc_mayBl hm
    have hEW : encBl (⟨c, ht, tm, evsOf n (upG (fun i => evC (evAt (get i))) i.toNat 0 (evC (⟨k, ⟨sp, sc, dp, dc, sq, da, th, ta⟩, ak, ep, ec, hh⟩ : Ev)))⟩ : Bl) = (blB (⟨c, ht, tm, (evsOf n get).set i.toNat (⟨k, ⟨sp, sc, dp, dc, sq, da, th, ta⟩, ak, ep, ec, hh⟩ : Ev)⟩ : Bl), 0) := by rw [hW]; exact enc_mayBl hmY
    have hDW : decBl (encBl (⟨c, ht, tm, evsOf n (upG (fun i => evC (evAt (get i))) i.toNat 0 (evC (⟨k, ⟨sp, sc, dp, dc, sq, da, th, ta⟩, ak, ep, ec, hh⟩ : Ev)))⟩ : Bl)).1 = ((⟨c, ht, tm, (evsOf n get).set i.toNat (⟨k, ⟨sp, sc, dp, dc, sq, da, th, ta⟩, ak, ep, ec, hh⟩ : Ev)⟩ : Bl), 0) := by rw [hEW]; exact decBl_back hmY
    have hl : (encBl (⟨c, ht, tm, evsOf n (upG (fun i => evC (evAt (get i))) i.toNat 0 (evC (⟨k, ⟨sp, sc, dp, dc, sq, da, th, ta⟩, ak, ep, ec, hh⟩ : Ev)))⟩ : Bl)).1.length ≤ 140737488351232 := by
      rw [hEW]
      have := blB_len hmY (by simp [evsOf_len]; exact h60)
      exact Nat.le_trans this (by decide)
    refine exec_cut fun K hn hr _ => ?_
    replace hn := Lib.hid hn
    replace hr := Lib.hid hr
    unfold sTrue sLight sLightB sMayBl sEncBl sDecBl sSameBl sMayEv
    generalize hg0 : lightBl = g0
    generalize hg1 : lightEvs = g1
    generalize hg2 : encBl = g2
    generalize hg3 : BlAt = g3
    generalize hg4 : EvsAt = g4
    generalize hg5 : mayBl = g5
    generalize hg6 : mayEv = g6
    generalize hg7 : Ev.fits = g7
    generalize hg8 : evsOf = g8
    generalize hg9 : evAt = g9
    generalize hg10 : decBl = g10
    generalize hg11 : evGet = g11
    generalize hg12 : upG = g12
    generalize hg13 : (List.length : List UInt8 → Nat) = g13
    generalize hg14 : (List.length : List Ev → Nat) = g14
    generalize hg15 : (instDecidableEqBl) = g15
    generalize hA : Arith.std = A
    cbv
    subst hA hg0 hg1 hg2 hg3 hg4 hg5 hg6 hg7 hg8 hg9 hg10 hg11 hg12 hg13 hg14 hg15
    refine Need.mk hp1.same fun _ => ?_
    refine Need.mk ⟨hp1.c, evsAt_up hp1.evs hp3, hp1.n⟩ fun _ => ?_
    refine Need.mk hl fun _ => ?_
    refine hn.out _ ?_
    clear hn hr
    have hD2 : (decBl (encBl (⟨c, ht, tm, evsOf n (upG (fun i => evC (evAt (get i))) i.toNat 0 (evC (⟨k, ⟨sp, sc, dp, dc, sq, da, th, ta⟩, ak, ep, ec, hh⟩ : Ev)))⟩ : Bl)).1).1.evs = (evsOf n get).set i.toNat (⟨k, ⟨sp, sc, dp, dc, sq, da, th, ta⟩, ak, ep, ec, hh⟩ : Ev) := by rw [hDW]
    have hDl : (decBl (encBl (⟨c, ht, tm, evsOf n (upG (fun i => evC (evAt (get i))) i.toNat 0 (evC (⟨k, ⟨sp, sc, dp, dc, sq, da, th, ta⟩, ak, ep, ec, hh⟩ : Ev)))⟩ : Bl)).1).1.evs.length = n := by rw [hD2, List.length_set, evsOf_len]
    have hDi : (decBl (encBl (⟨c, ht, tm, evsOf n (upG (fun i => evC (evAt (get i))) i.toNat 0 (evC (⟨k, ⟨sp, sc, dp, dc, sq, da, th, ta⟩, ak, ep, ec, hh⟩ : Ev)))⟩ : Bl)).1).1.evs.getD i.toNat zeroEv = (⟨k, ⟨sp, sc, dp, dc, sq, da, th, ta⟩, ak, ep, ec, hh⟩ : Ev) := by
      rw [hD2]
      simp [List.getD, evsOf_len, hk]
    unfold sTrue sLight sLightB sMayBl sEncBl sDecBl sSameBl sMayEv
    delta evGet
    generalize hg0 : lightBl = g0
    generalize hg1 : lightEvs = g1
    generalize hg2 : encBl = g2
    generalize hg3 : BlAt = g3
    generalize hg4 : EvsAt = g4
    generalize hg5 : mayBl = g5
    generalize hg6 : mayEv = g6
    generalize hg7 : Ev.fits = g7
    generalize hg8 : evsOf = g8
    generalize hg9 : evAt = g9
    generalize hg10 : decBl = g10
    generalize hg11 : upG = g11
    generalize hg12 : (List.length : List UInt8 → Nat) = g12
    generalize hg13 : (List.length : List Ev → Nat) = g13
    generalize hg14 : (instDecidableEqBl) = g14
    generalize hg15 : (List.getD : List Ev → Nat → Ev → Ev) = g15
    generalize hA : Arith.std = A
    cbv
    subst hA hg0 hg1 hg2 hg3 hg4 hg5 hg6 hg7 hg8 hg9 hg10 hg11 hg12 hg13 hg14 hg15
    refine Ife.mk (fun h => ?_) (fun _ => ?_)
    · have h : (!decide ((encBl (⟨c, ht, tm, evsOf n (fun i => evC (evAt (get i)))⟩ : Bl)).2 = 0)) = true := h
      rw [hEX] at h
      cases h
    refine Ife.mk (fun h => ?_) (fun _ => ?_)
    · have h : (!decide ((encBl (⟨c, ht, tm, evsOf n (upG (fun i => evC (evAt (get i))) i.toNat 0 (evC (⟨k, ⟨sp, sc, dp, dc, sq, da, th, ta⟩, ak, ep, ec, hh⟩ : Ev)))⟩ : Bl)).2 = 0)) = true := h
      rw [hEW] at h
      cases h
    refine Ife.mk (fun h => ?_) (fun _ => ?_)
    · have h : (!decide ((decBl (encBl (⟨c, ht, tm, evsOf n (upG (fun i => evC (evAt (get i))) i.toNat 0 (evC (⟨k, ⟨sp, sc, dp, dc, sq, da, th, ta⟩, ak, ep, ec, hh⟩ : Ev)))⟩ : Bl)).1).2 = 0)) = true := h
      rw [hDW] at h
      cases h
    refine Ife.mk (fun h => ?_) (fun _ => ?_)
    · have h : (!decide (((decBl (encBl (⟨c, ht, tm, evsOf n (upG (fun i => evC (evAt (get i))) i.toNat 0 (evC (⟨k, ⟨sp, sc, dp, dc, sq, da, th, ta⟩, ak, ep, ec, hh⟩ : Ev)))⟩ : Bl)).1).1.evs.length : Int) = n)) = true := h
      rw [hDl] at h
      simp at h
    have hkl : i.toNat < (decBl (encBl (⟨c, ht, tm, evsOf n (upG (fun i => evC (evAt (get i))) i.toNat 0 (evC (⟨k, ⟨sp, sc, dp, dc, sq, da, th, ta⟩, ak, ep, ec, hh⟩ : Ev)))⟩ : Bl)).1).1.evs.length := by rw [hDl]; exact hk
    refine Need.mk (show 0 ≤ i ∧ i < ((decBl (encBl (⟨c, ht, tm, evsOf n (upG (fun i => evC (evAt (get i))) i.toNat 0 (evC (⟨k, ⟨sp, sc, dp, dc, sq, da, th, ta⟩, ak, ep, ec, hh⟩ : Ev)))⟩ : Bl)).1).1.evs.length : Int) from ⟨by omega, by omega⟩) fun _ => ?_
    refine Need.mk hkl fun _ => ?_
    refine Ife.mk (fun h => ?_) (fun _ => ?_)
    · have h : (!decide ((decBl (encBl (⟨c, ht, tm, evsOf n (upG (fun i => evC (evAt (get i))) i.toNat 0 (evC (⟨k, ⟨sp, sc, dp, dc, sq, da, th, ta⟩, ak, ep, ec, hh⟩ : Ev)))⟩ : Bl)).1).1.evs.getD i.toNat zeroEv = (⟨k, ⟨sp, sc, dp, dc, sq, da, th, ta⟩, ak, ep, ec, hh⟩ : Ev))) = true := by rw [← ev_chain]; exact h
      rw [hDi] at h
      simp at h
    refine Need.mk (show 0 ≤ i ∧ i < (n : Int) from ⟨by omega, by omega⟩) fun _ => ?_
    refine Need.mk (show i.toNat < n from hk) fun _ => ?_
    have hset : (evsOf n get).set i.toNat (evAt (get i.toNat)) = evsOf n get := by
      have h2 := evsOf_get n get i.toNat hk
      obtain ⟨hlt, hg⟩ := List.getElem?_eq_some_iff.1 h2
      rw [← hg, List.set_getElem_self]
    have hiff : (⟨c, ht, tm, evsOf n get⟩ : Bl) = (⟨c, ht, tm, (evsOf n get).set i.toNat (⟨k, ⟨sp, sc, dp, dc, sq, da, th, ta⟩, ak, ep, ec, hh⟩ : Ev)⟩ : Bl) ↔ (⟨k, ⟨sp, sc, dp, dc, sq, da, th, ta⟩, ak, ep, ec, hh⟩ : Ev) = evAt (get i.toNat) := by
      constructor
      · intro h
        have h1 : evsOf n get = (evsOf n get).set i.toNat (⟨k, ⟨sp, sc, dp, dc, sq, da, th, ta⟩, ak, ep, ec, hh⟩ : Ev) := congrArg Bl.evs h
        have h2 := congrArg (fun l => l[i.toNat]?) h1
        simp only [evsOf_get n get i.toNat hk, List.getElem?_set, evsOf_len] at h2
        rw [if_pos hk] at h2
        simpa using h2.symm
      · intro h
        rw [h, hset]
    have hstr : ((encBl (⟨c, ht, tm, evsOf n (fun i => evC (evAt (get i)))⟩ : Bl)).1 = (encBl (⟨c, ht, tm, evsOf n (upG (fun i => evC (evAt (get i))) i.toNat 0 (evC (⟨k, ⟨sp, sc, dp, dc, sq, da, th, ta⟩, ak, ep, ec, hh⟩ : Ev)))⟩ : Bl)).1) ↔ (⟨k, ⟨sp, sc, dp, dc, sq, da, th, ta⟩, ak, ep, ec, hh⟩ : Ev) = evAt (get i.toNat) := by
      rw [hEX, hEW, ← hiff]
      exact ⟨fun h => blB_inj hm hmY h, fun h => by rw [h]⟩
    have hblk : ((⟨c, ht, tm, evsOf n (fun i => evC (evAt (get i)))⟩ : Bl) = (⟨c, ht, tm, evsOf n (upG (fun i => evC (evAt (get i))) i.toNat 0 (evC (⟨k, ⟨sp, sc, dp, dc, sq, da, th, ta⟩, ak, ep, ec, hh⟩ : Ev)))⟩ : Bl)) ↔ (⟨k, ⟨sp, sc, dp, dc, sq, da, th, ta⟩, ak, ep, ec, hh⟩ : Ev) = evAt (get i.toNat) := by
      rw [evsOf_same, hW, hiff]
    refine Ife.mk (fun _ => ?_) (fun h => ?_)
    · refine Need.mk ⟨hp1.same.evs, evsAt_up hp1.evs hp3, hp1.n, hp1.n⟩ fun _ => ?_
      show (decide ((⟨c, ht, tm, evsOf n (fun i => evC (evAt (get i)))⟩ : Bl) = (⟨c, ht, tm, evsOf n (upG (fun i => evC (evAt (get i))) i.toNat 0 (evC (⟨k, ⟨sp, sc, dp, dc, sq, da, th, ta⟩, ak, ep, ec, hh⟩ : Ev)))⟩ : Bl)) == decide ((encBl (⟨c, ht, tm, evsOf n (fun i => evC (evAt (get i)))⟩ : Bl)).1 = (encBl (⟨c, ht, tm, evsOf n (upG (fun i => evC (evAt (get i))) i.toNat 0 (evC (⟨k, ⟨sp, sc, dp, dc, sq, da, th, ta⟩, ak, ep, ec, hh⟩ : Ev)))⟩ : Bl)).1)) = true
      rw [beq_iff_eq]
      exact decide_eq_decide.2 (hblk.trans hstr.symm)
    · have h : (decide ((encBl (⟨c, ht, tm, evsOf n (fun i => evC (evAt (get i)))⟩ : Bl)).1 = (encBl (⟨c, ht, tm, evsOf n (upG (fun i => evC (evAt (get i))) i.toNat 0 (evC (⟨k, ⟨sp, sc, dp, dc, sq, da, th, ta⟩, ak, ep, ec, hh⟩ : Ev)))⟩ : Bl)).1) == decide ((⟨k, ⟨sp, sc, dp, dc, sq, da, th, ta⟩, ak, ep, ec, hh⟩ : Ev) = evAt (get i.toNat))) = false := by rw [← ev_chain]; exact h
      exfalso
      rw [beq_eq_false_iff_ne] at h
      exact h (decide_eq_decide.2 hstr)

end Vx
open Go.ChangeShapes Go.WideShapes Go.ChangeAt
theorem blockEventsWalk (w : World) {v : Value} (b : BlIn w v) (i : Int) (hi : -9223372036854775808 ≤ i ∧ i ≤ 9223372036854775807) (x : Ev) (hx : x.fits) :
    Calls Try.prog 8 #[v, .int .i64 i, .agg (evCells x).toArray] w fun e w' => e = .returned (.bool true) ∧ Below w.heap.size w w' := by
  obtain ⟨c, ht, tm, a, cap, xs, rfl, hc, hn, hE⟩ := b
  obtain ⟨p, hp, g⟩ := Vx.EvsIn.good (cap := cap) hE
  rw [← hp]
  refine Calls.mono (Vx.blEvsP.run [.agg [.str c, .int .i64 ht, .int .i64 tm, .row 0], .c (.int .i64 i), .agg (Vx.evC x)] [(xs.length, fun i => Vx.evC (xs.getD i zeroEv))] _ _ rfl ⟨⟨hc, hE.at_, hn⟩, hi, hx⟩ w [p] _ (Vx.GoodL.cons g (Vx.GoodL.nil _ _))
    ⟨_, _, rfl, ⟨[.string ⟨c.toArray⟩, .int .i64 ht, .int .i64 tm, p.v], by
      obtain ⟨a', cap', e, _⟩ := g.sl
      simp [Vx.IsL, Vx.CV.den, e, Vx.one], rfl⟩, _, _, rfl, rfl, _, _, rfl, ⟨_, by simpa using (evC_is x).app_ρ [p], rfl⟩, rfl⟩) fun e W' he => ?_
  obtain ⟨u, rfl, h, hb⟩ := he
  obtain rfl : .bool true = u := Option.some.inj h
  exact ⟨rfl, hb⟩
end Go.Proofs.Ytpapfokdhmpmjaa
