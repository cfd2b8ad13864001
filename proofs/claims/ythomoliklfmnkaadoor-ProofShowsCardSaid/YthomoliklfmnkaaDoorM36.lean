/- ProofShows, by the walker. -/
import Derived.Test.YthomoliklfmnkaaDoorM35
import Derived.Test.YthomoliklfmnkaaDoorM24
import Derived.Test.YthomoliklfmnkaaDoorM18
section
namespace Go.Proofs.YthomoliklfmnkaaDoor.Vx
open Sha
open Go.RowKit
set_option linter.unusedVariables false
set_option linter.unusedSimpArgs false
/-- Is the key among the first pairs? -/
def amongB (L : List PP) (i : Nat) (k : List UInt8) : Bool := (List.range i).any fun j => decide (prK L j = k)
theorem among_next {L : List PP} {i : Nat} {k : List UInt8} : amongB L (i + 1) k = (amongB L i k || decide (prK L i = k)) := by
  unfold amongB
  rw [List.range_succ, List.any_append]
  simp
theorem among_all {L : List PP} {k : List UInt8} (hs : StS L) : amongB L L.length k = findB L k := by
  rw [Bool.eq_iff_iff]
  unfold amongB
  rw [List.any_eq_true]
  constructor
  · rintro ⟨j, hj, h⟩
    have hj := List.mem_range.1 hj
    have h := of_decide_eq_true h
    have := (mem_findB hs (List.getElem_mem hj)).1
    rwa [← prK_eq hj, h] at this
  · intro h
    obtain ⟨h1, h2⟩ := findB_eq h
    exact ⟨findI L k, List.mem_range.2 h1, decide_eq_true h2⟩
theorem find_at {L : List PP} (hs : StS L) {i : Nat} (hi : i < L.length) : findB L (prK L i) = true ∧ getL L (prK L i) = prV L i := by
  have h := mem_findB hs (List.getElem_mem hi)
  rw [← prK_eq hi] at h
  refine ⟨h.1, ?_⟩
  unfold getL
  rw [if_pos h.1]
  have e : findI L (prK L i) = i := findI_uniq hs (by omega) (fun j hj => hs.at hj hi) fun j h1 h2 => by
    rcases Nat.eq_or_lt_of_le h1 with h3 | h3
    · subst h3; exact lt_irr _
    · exact lt_asym (hs.at h3 h2)
  rw [e]
structure LSh (L : List PP) (k : List UInt8) (n : Nat) where
  i : Nat
  h1 : i ≤ n
attribute [local cbv_opaque] prK prV prL ltB findI findB szB setL putS getL Lib.compareBytes prPre goodAt goodL prPreR riseL KsAt leafF leafPre topG topPre0 rootF rootPre sumI hOf HashC kOf u8s lfG rootL sumsPre lK lV lI lP lN pG leafL leafOf leavesPre mayAt mayL lightAt lightL deep leavesAt0 hNm wyL mkLeaf mkL mkC mkFrom mkTo wayG hashesG wayPre0 mkPre lenL stX stAt underB valB valV lackE lackB unPre fdB fdH fdPre eqH vlPre sizedB ltPrAt ltPrB ltPre pr0 orderPre amongB
def sShows : SpecF
  | [.c (.row 1), .c (.str key)], [.glob gg sz0 n0 get0, .elems ty one n get] => some (orderPre gg sz0 n0 get0 ty one n get, .c .tt, [.dead, .dead])
  | _, _ => none

set_option maxRecDepth 100000 in
set_option maxHeartbeats 32000000 in
theorem proofShowsP : Fn Tryd.prog 4 [0] [(46, 2)] sShows := by
  have hC : CtsOk Tryd.prog [(13, appFn [0] [] sFirst7), (30, appFn [] [(46, 2)] sRise), (14, appFn [] [(46, 2)] sLtPr), (16, appFn [] [(46, 2)] sOwn), (19, appFn [0] [(63, 2)] sPRoot), (22, appFn [0] [(63, 2)] sMake), (24, appFn [0] [(115, 204)] sVal), (26, appFn [0] [(115, 204)] sHas), (28, appFn [0] [(115, 204)] sLacks), (31, appFn [] [(115, 204)] sMayPr)] := CtsOk.cons (Fn.ct first7P) <| CtsOk.cons (Fn.ct riseP) <| CtsOk.cons (Fn.ct ltPrP) <| CtsOk.cons (Fn.ct ownPrP) <| CtsOk.cons (Fn.ct pRootP) <| CtsOk.cons (Fn.ct makeP) <| CtsOk.cons (Fn.ct valPrP) <| CtsOk.cons (Fn.ct hasPrP) <| CtsOk.cons (Fn.ct lacksPrP) <| CtsOk.cons (Fn.ct mayPrP) <| CtsOk.nil _
  refine Fn.of (E := tbPf) [0] 0 [(13, [(0, true), (1, true), (2, true), (3, true), (4, true), (5, true), (6, true), (7, false), (8, true), (9, true), (10, true), (11, true), (12, true)]), (14, [(0, true), (1, true), (2, true), (3, true), (4, true), (5, true), (6, true), (7, true), (8, true), (9, true), (10, true), (11, true), (12, true), (13, true), (14, true), (15, true), (16, true), (17, true), (18, true), (19, true), (20, false), (21, true), (22, true), (23, true), (24, true), (25, true), (26, true), (27, true), (28, true), (29, true), (30, true), (31, true), (32, true), (33, false), (34, true), (35, true), (36, true), (37, true), (38, true), (39, true), (40, true), (41, true), (42, true), (43, false), (44, true), (45, true), (46, true), (47, false), (48, true), (49, true)])] tbPf_ok hC (by kernel_rfl) Tryd.func4 rfl rfl rfl (by kernel_rfl) (by kernel_rfl) 2 5 1 ?_ ?_
  · intro args h pre r h' hs
    unfold sShows at hs
    split at hs
    · cases hs; exact ⟨rfl, rfl, Nat.le_of_ble_eq_true rfl⟩
    · cases hs
  · intro args h pre r h' hs hp
    unfold sShows at hs
    split at hs
    rotate_left
    · cases hs
    rename_i key gg sz0 n0 get0 ty one n get
    cases hs
    obtain ⟨hK, rfl, rfl, hst⟩ := hp
    refine ⟨[.glob 0 1 64 (fun i => [.int .u32 (kOf i)]), .elems 46 2 n (prG (prL n get))], ⟨hK.same.1, ⟨rfl, rfl, rfl, fun i hi => hst.eq hi⟩, trivial⟩, ?_⟩
    clear hK
    have hL : (prL n get).length = n := prL_len
    generalize prL n get = L at hL ⊢
    unfold sFirst7 sRise sLtPr sOwn sPRoot sMake sVal sHas sLacks sMayPr
    generalize hg0 : (List.length : List PP → Nat) = g0
    generalize hg1 : (List.length : List UInt8 → Nat) = g1
    generalize hL : lft Tryd.prog _ = L
    generalize hA : Arith.std = A
    set_option cbv.maxSteps 16000000 in cbv
    subst hA hg0 hg1 hL
    have hmn : ((min (n : Int) 41) - 0).toNat ≤ 41 := by omega
    refine Need.mk ksAt_self fun _ => Need.mk (by show (0 : Int) ≤ 0 ∧ (0 : Int) ≤ min (n : Int) 41 ∧ min (n : Int) 41 ≤ (n : Int); omega) fun _ => ?_
    refine Need.mk ⟨rfl, rfl, fun i hi => ⟨_, _, rfl⟩, (by show ((min (n : Int) 41) - 0).toNat ≤ 1000000; omega)⟩ fun _ => ?_
    simp only [Arith.std, Int.ofNat_eq_natCast, Int.toNat_natCast, prL_prG]
    generalize hR : riseL (prL _ _) = R
    have hRs : StS R := hR ▸ rise_s
    have hRz : AllSz R := hR ▸ rise_sz
    obtain ⟨N, hN⟩ : ∃ N, R.length = N := ⟨_, rfl⟩
    have hg : goodL R = true := goodL_iff.2 ⟨hRs, hRz⟩
    refine Need.mk ⟨rfl, rfl, prAt_prG _ R⟩ fun _ => ?_
    refine Ife.mk (fun h => ?_) (fun h => ?_)
    · refine Need.mk ksAt_self fun _ => ?_
      exact ⟨[0, 1], ⟨rfl, (by repeat' (first | exact trivial | exact hR1 | exact hR2 | exact hR3 | exact hR4 | exact hA1 | exact hA2 | exact hB1 | exact hB2 | exact rfl | apply And.intro | exact (fun _ _ _ _ => Cell.le_refl _) | (intro i hi; rfl) | (intro i hi; exact absurd hi (Nat.not_lt_zero _)))), (by show List.Nodup []; exact List.nodup_nil), rfl, by repeat' (first | exact trivial | exact hR1 | exact hR2 | exact hR3 | exact hR4 | exact hA1 | exact hA2 | exact hB1 | exact hB2 | exact rfl | apply And.intro | exact (fun _ _ _ _ => Cell.le_refl _) | (intro i hi; rfl) | (intro i hi; exact absurd hi (Nat.not_lt_zero _)))⟩⟩
    have hlt : ltPrB R = true := by simpa using h
    clear h
    obtain ⟨hR40, _⟩ := ltPrB_iff.1 hlt
    have hPR : prPre 63 2 R.length (prG R) := ⟨rfl, rfl, prAt_prG _ R, by omega⟩
    have hPRR : prPreR 46 2 R.length (prG R) := ⟨rfl, rfl, prAt_prG _ R, by omega⟩
    have hPRN : prPre 63 2 N (prG R) := ⟨rfl, rfl, prAt_prG _ R, by omega⟩
    refine Ife.mk (fun h => ?_) (fun c1 => ?_)
    · refine Need.mk ksAt_self fun _ => ?_
      exact ⟨[0, 1], ⟨rfl, (by repeat' (first | exact trivial | exact hR1 | exact hR2 | exact hR3 | exact hR4 | exact hA1 | exact hA2 | exact hB1 | exact hB2 | exact rfl | apply And.intro | exact (fun _ _ _ _ => Cell.le_refl _) | (intro i hi; rfl) | (intro i hi; exact absurd hi (Nat.not_lt_zero _)))), (by show List.Nodup []; exact List.nodup_nil), rfl, by repeat' (first | exact trivial | exact hR1 | exact hR2 | exact hR3 | exact hR4 | exact hA1 | exact hA2 | exact hB1 | exact hB2 | exact rfl | apply And.intro | exact (fun _ _ _ _ => Cell.le_refl _) | (intro i hi; rfl) | (intro i hi; exact absurd hi (Nat.not_lt_zero _)))⟩⟩
    refine Ife.mk (fun h => ?_) (fun c2 => ?_)
    · refine Need.mk ksAt_self fun _ => ?_
      exact ⟨[0, 1], ⟨rfl, (by repeat' (first | exact trivial | exact hR1 | exact hR2 | exact hR3 | exact hR4 | exact hA1 | exact hA2 | exact hB1 | exact hB2 | exact rfl | apply And.intro | exact (fun _ _ _ _ => Cell.le_refl _) | (intro i hi; rfl) | (intro i hi; exact absurd hi (Nat.not_lt_zero _)))), (by show List.Nodup []; exact List.nodup_nil), rfl, by repeat' (first | exact trivial | exact hR1 | exact hR2 | exact hR3 | exact hR4 | exact hA1 | exact hA2 | exact hB1 | exact hB2 | exact rfl | apply And.intro | exact (fun _ _ _ _ => Cell.le_refl _) | (intro i hi; rfl) | (intro i hi; exact absurd hi (Nat.not_lt_zero _)))⟩⟩
    refine Need.mk hPRR fun _ => Need.mk ⟨ksAt_self, hPR, by rw [prL_prG]; exact hRz⟩ fun _ => ?_
    have hA2 : R.length = N := hN
    have eN : prL N (prG R) = R := by rw [← hN]; exact prL_prG R
    have hok : ∀ k, ∀ x ∈ mkL R k, x.ok := fun k => mkL_ok (by omega)
    have hkl := fun k => mkL_len (L := R) (k := k)
    have eD : ∀ k, leafL (lenL (mkL R k)) (fun i j => (leafG true (mkL R k) i j).old) = mkL R k := fun k => leaves_old (hok k)
    have q3 : ∀ k, leavesPre 115 4 (lenL (mkL R k)) (fun i j => (leafG true (mkL R k) i j).old) := fun k => leavesPre_old (hok k) (by have := hkl k; omega)
    have hPv : ∀ k, vlPre 0 1 64 (fun i => [.int .u32 (kOf i)]) (hashC (rootL R)) 115 4 (lenL (mkL R k)) (fun i j => (leafG true (mkL R k) i j).old) := fun k => ⟨ksAt_self, ⟨rootL R, rfl, rootL_range R⟩, q3 k⟩
    have v1 : ∀ k, valB (hOf (hashC (rootL R))) (mkC R) (mkL R k) k = findB R k := fun k => (val_own hRs hRz hR40).1
    have v2 : ∀ k, valV (hOf (hashC (rootL R))) (mkC R) (mkL R k) k = getL R k := fun k => (val_own hRs hRz hR40).2.1
    have v3 : ∀ k, lackB (hOf (hashC (rootL R))) (mkC R) (mkL R k) k = !findB R k := fun k => (val_own hRs hRz hR40).2.2
    have eC : mkC R = (R.length : Int) := by unfold mkC; rw [if_pos hg]
    have v4 : ∀ k, mayL (mkC R) (mkL R k) = true := fun k => by rw [eC]; exact may_mk (by omega)
    unfold hashC at v1 v2 v3
    show Runs Tryd.prog 2 (.loop _) _ _
    refine loop_ruleR (N := env (lft Tryd.prog 2) 0 .std tbPf [(13, appFn [0] [] sFirst7), (30, appFn [] [(46, 2)] sRise), (14, appFn [] [(46, 2)] sLtPr), (16, appFn [] [(46, 2)] sOwn), (19, appFn [0] [(63, 2)] sPRoot), (22, appFn [0] [(63, 2)] sMake), (24, appFn [0] [(115, 204)] sVal), (26, appFn [0] [(115, 204)] sHas), (28, appFn [0] [(115, 204)] sLacks), (31, appFn [] [(115, 204)] sMayPr)] [(13, [(0, true), (1, true), (2, true), (3, true), (4, true), (5, true), (6, true), (7, false), (8, true), (9, true), (10, true), (11, true), (12, true)]), (14, [(0, true), (1, true), (2, true), (3, true), (4, true), (5, true), (6, true), (7, true), (8, true), (9, true), (10, true), (11, true), (12, true), (13, true), (14, true), (15, true), (16, true), (17, true), (18, true), (19, true), (20, false), (21, true), (22, true), (23, true), (24, true), (25, true), (26, true), (27, true), (28, true), (29, true), (30, true), (31, true), (32, true), (33, false), (34, true), (35, true), (36, true), (37, true), (38, true), (39, true), (40, true), (41, true), (42, true), (43, false), (44, true), (45, true), (46, true), (47, false), (48, true), (49, true)])]) rfl tbPf_ok hC (fun c st K _ h => h) (by kernel_rfl) [0] (X := LSh R key N)
      (S := fun x => ⟨[.c (.row 2), .c (.str key), .any, .any, .any, .c (.row 3), .c (.ptr 4 0), .c (.bool (amongB R x.i key)), .c (.int .i64 (x.i : Int))] ++ List.replicate 149 .any, [.glob 0 1 64 (fun i => [.int .u32 (kOf i)]), .elems 46 2 n (prG L), .row 46 2 N (prG R), .row 63 2 N (prG R), .cells 24 (hashC (rootL R))]⟩) (μ := fun x => N - x.i) ⟨0, Nat.zero_le _⟩ (by kernel_rfl) [0, 1, 3, 6, 8] ?h0 ?rd
    case h0 =>
      refine ⟨rfl, by decide, ?_, ?_⟩ <;> repeat' (first | exact trivial | exact hR1 | exact hR2 | exact hR3 | exact hR4 | exact hA1 | exact hA2 | exact hB1 | exact hB2 | exact rfl | apply And.intro | exact (fun _ _ _ _ => Cell.le_refl _) | (intro i hi; rfl) | (intro i hi; exact absurd hi (Nat.not_lt_zero _)))
    case rd =>
      rintro ⟨i, hi⟩
      unfold sFirst7 sRise sLtPr sOwn sPRoot sMake sVal sHas sLacks sMayPr
      generalize hg0 : (List.length : List PP → Nat) = g0
      generalize hg1 : (List.length : List UInt8 → Nat) = g1
      generalize hL : lft Tryd.prog _ = L
      generalize hA : Arith.std = A
      set_option cbv.maxSteps 16000000 in cbv
      subst hA hg0 hg1 hL
      simp only [Arith.std, Int.ofNat_eq_natCast, Int.toNat_natCast, eN, eD, v1, v2, v3, v4]
      refine Ife.mk (fun h => ?_) (fun h => ?_)
      · have h : (i : Int) < (N : Int) := of_decide_eq_true (p := (i : Int) < (N : Int)) h
        have hiN : i < N := Int.ofNat_lt.mp h
        have q1 : 0 ≤ (i : Int) ∧ (i : Int) < (N : Int) := by omega
        have q2 : (i : Int).toNat < N := by omega
        obtain ⟨fa, ga⟩ := find_at hRs (i := i) (by omega)
        have hsz := szB_iff.1 (hRz.at (i := i) (by omega))
        have fl : fitStd .i64 ((i : Int) + 1) := by unfold fitStd; omega
        simp only [fa, ga]
        refine Need.mk q1 fun _ => Need.mk q2 fun _ => Need.mk ⟨ksAt_self, hPRN⟩ fun _ => Need.mk q1 fun _ => Need.mk q2 fun _ => Need.mk (hPv (prK R i)) fun _ => ?_
        refine Ife.mk (fun h5 => absurd h5 (by simp)) (fun _ => ?_)
        refine Need.mk q1 fun _ => Need.mk q2 fun _ => ?_
        refine Ife.mk (fun h5 => absurd h5 (by simp)) (fun _ => ?_)
        refine Need.mk q1 fun _ => Need.mk q2 fun _ => Need.mk (hPv (prK R i)) fun _ => ?_
        refine Ife.mk (fun h5 => absurd h5 (by simp)) (fun _ => ?_)
        refine Need.mk q1 fun _ => Need.mk q2 fun _ => Need.mk (by show ((prV R i).length : Int) + 1 ≤ 9223372036854775807; omega) fun _ => Need.mk (hPv (prK R i)) fun _ => ?_
        refine Ife.mk (fun h5 => absurd h5 (by simp)) (fun _ => ?_)
        refine Need.mk q1 fun _ => Need.mk q2 fun _ => Need.mk (hPv (prK R i)) fun _ => ?_
        refine Ife.mk (fun h5 => absurd h5 (by simp)) (fun _ => ?_)
        refine Need.mk (q3 (prK R i)) fun _ => ?_
        refine Ife.mk (fun h5 => absurd h5 (by simp)) (fun _ => ?_)
        have hn1 := among_next (L := R) (i := i) (k := key)
        refine Ife.mk (fun h2 => ?_) (fun h2 => ?_)
        · have h2 : amongB R i key = true := h2
          rw [h2, Bool.true_or] at hn1
          have hB1 : amongB R (i + 1) key = true := hn1
          have hB2 : true = amongB R (i + 1) key := hn1.symm
          refine Need.mk fl fun _ => ?_
          refine ⟨⟨i + 1, by omega⟩, [0, 1, 2, 3, 4], (by show N - (i + 1) < N - i; omega), ?_⟩
          refine ⟨rfl, (by show List.Nodup [0, 1, 2, 3, 4]; decide), ?_, ?_⟩ <;> repeat' (first | exact trivial | exact hR1 | exact hR2 | exact hR3 | exact hR4 | exact hA1 | exact hA2 | exact hB1 | exact hB2 | exact rfl | apply And.intro | exact (fun _ _ _ _ => Cell.le_refl _) | (intro i hi; rfl) | (intro i hi; exact absurd hi (Nat.not_lt_zero _)))
        · have h2 : amongB R i key = false := h2
          rw [h2, Bool.false_or] at hn1
          have hB1 : decide (prK R i = key) = amongB R (i + 1) key := hn1.symm
          refine Need.mk q1 fun _ => Need.mk q2 fun _ => Need.mk fl fun _ => ?_
          refine ⟨⟨i + 1, by omega⟩, [0, 1, 2, 3, 4], (by show N - (i + 1) < N - i; omega), ?_⟩
          refine ⟨rfl, (by show List.Nodup [0, 1, 2, 3, 4]; decide), ?_, ?_⟩ <;> repeat' (first | exact trivial | exact hR1 | exact hR2 | exact hR3 | exact hR4 | exact hA1 | exact hA2 | exact hB1 | exact hB2 | exact rfl | apply And.intro | exact (fun _ _ _ _ => Cell.le_refl _) | (intro i hi; rfl) | (intro i hi; exact absurd hi (Nat.not_lt_zero _)))
      have h : ¬ (i : Int) < (N : Int) := of_decide_eq_false (p := (i : Int) < (N : Int)) h
      have ei : i = R.length := by omega
      have ham : amongB R i key = findB R key := by rw [ei]; exact among_all hRs
      simp only [ham]
      have eCN : mkC R = (N : Int) := by rw [eC, hN]
      refine Need.mk ⟨ksAt_self, hPRN⟩ fun _ => Need.mk (hPv key) fun _ => ?_
      refine Ife.mk (fun _ => ?_) (fun h5 => absurd h5 (by simp))
      refine Need.mk (hPv key) fun _ => ?_
      refine Ife.mk (fun _ => ?_) (fun h5 => absurd h5 (by cases findB R key <;> simp))
      refine Ife.mk (fun _ => ?_) (fun h5 => absurd h5 (by simp [eCN]))
      refine Need.mk (q3 key) fun _ => ?_
      exact ⟨[0, 1], ⟨rfl, (by repeat' (first | exact trivial | exact hR1 | exact hR2 | exact hR3 | exact hR4 | exact hA1 | exact hA2 | exact hB1 | exact hB2 | exact rfl | apply And.intro | exact (fun _ _ _ _ => Cell.le_refl _) | (intro i hi; rfl) | (intro i hi; exact absurd hi (Nat.not_lt_zero _)))), (by show List.Nodup []; exact List.nodup_nil), rfl, by repeat' (first | exact trivial | exact hR1 | exact hR2 | exact hR3 | exact hR4 | exact hA1 | exact hA2 | exact hB1 | exact hB2 | exact rfl | apply And.intro | exact (fun _ _ _ _ => Cell.le_refl _) | (intro i hi; rfl) | (intro i hi; exact absurd hi (Nat.not_lt_zero _)))⟩⟩

end Go.Proofs.YthomoliklfmnkaaDoor.Vx
end

section
/- ProofShows: what a law's call answers. -/
namespace Go.Proofs.YthomoliklfmnkaaDoor
open Go.RowKit
set_option linter.unusedVariables false
theorem proofShowsWalk (w : World) (hk : ∀ i, i < 64 → w.cell? ⟨0, i, none⟩ = some (.int .u32 (Sha.kOf i))) (p : Option Addr) (cap : Nat) (ls : List Vx.PP) (hs : SlIn w p 2 cap (ls.map Vx.prVals)) (s : ByteArray) (hs2 : s.size ≤ maxLen) :
    Calls Tryd.prog 4 #[.slice p ls.length cap, .string s] w fun e w' => e = .returned (.bool true) ∧ Below w.heap.size w w' := by
  obtain ⟨b, rfl, hl⟩ := bytesOf s hs2
  obtain ⟨q, hq, gd⟩ := prs_good hs
  rw [← hq]
  refine Calls.mono (Vx.proofShowsP.run [.c (.row 1), .c (.str b)] [.glob 0 1 64 (fun i => [.int .u32 (Sha.kOf i)]), .elems 46 2 ls.length (Vx.prG ls)] _ _ _ rfl ⟨Vx.ksAt_self, rfl, rfl, Vx.prAt_prG _ _⟩ [⟨0, undef, 0⟩, q] w _ (Vx.Rel.addV (Vx.relGlob hk) 46 gd)
    ⟨_, _, rfl, (by obtain ⟨a', cap', e, _⟩ := gd.sl; simp [Vx.SV.is, Vx.CV.den, e, Vx.one] : Vx.SV.is [⟨0, undef, 0⟩, q] (.c (.row 1)) q.v), _, _, rfl, rfl, rfl⟩) fun e W' he => ?_
  obtain ⟨u, ρ', rfl, hu, hr⟩ := he
  obtain rfl : .bool true = u := Option.some.inj hu
  exact ⟨rfl, Vx.Rel.toBelow hr⟩
end Go.Proofs.YthomoliklfmnkaaDoor
end
