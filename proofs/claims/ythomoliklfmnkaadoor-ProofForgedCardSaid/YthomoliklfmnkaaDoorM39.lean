/- ProofTells, by the walker. -/
import Derived.Test.YthomoliklfmnkaaDoorM37
import Derived.Test.YthomoliklfmnkaaDoorM38
import Derived.Test.YthomoliklfmnkaaDoorM28
import Derived.Test.YthomoliklfmnkaaDoorM27
import Derived.Test.YthomoliklfmnkaaDoorM11
import Derived.Test.YthomoliklfmnkaaDoorM12
section
namespace Go.Proofs.YthomoliklfmnkaaDoor.Vx
open Sha
open Go.RowKit
set_option linter.unusedVariables false
set_option linter.unusedSimpArgs false
/-- The sums of a proof that comes in. -/
def RawP (K : List PLeaf) : Prop := ∀ x ∈ K, ∀ h ∈ x.p, h.length = 32 ∧ ∀ b ∈ h, 0 ≤ b ∧ b < 256
theorem light_ok {K : List PLeaf} (h : lightL K = true) (hr : RawP K) : K.length ≤ 5 ∧ ∀ x ∈ K, x.ok := by
  unfold lightL at h
  rw [Bool.and_eq_true, decide_eq_true_iff, List.all_eq_true] at h
  refine ⟨h.1, fun x hx => ?_⟩
  obtain ⟨i, hi, rfl⟩ := List.getElem_of_mem hx
  have hl := lightAt_iff.1 (h.2 i (List.mem_range.2 hi))
  have e : K.getD i .none = K[i] := by simp [List.getD, hi]
  unfold lK lV lN lP at hl
  rw [e] at hl
  exact ⟨by omega, by omega, by omega, hr _ hx⟩


end Go.Proofs.YthomoliklfmnkaaDoor.Vx
end

section
/- Proofs that are accepted at the root of a list are those that are made, or two unlike texts have one sum: joined, plainly. -/
namespace Go.Proofs.YthomoliklfmnkaaDoor.Vx
open Sha
open Go.RowKit
set_option linter.unusedVariables false
set_option linter.unusedSimpArgs false
/-- The texts whose sums are taken for the root of a list. -/
def inpT (R : List PP) : List (List UInt8) := (List.range R.length).map (fun i => tLeaf (prK R i) (prV R i)) ++ topT (fun i => hOf (lfG R i)) 0 R.length ++ [tRoot R.length (topG (lfG R) R.length)]
/-- The texts whose sums are taken for a leaf of a proof. -/
def leafT (c : Int) (x : PLeaf) : List (List UInt8) := [tLeaf x.k x.v] ++ wayT (fun j => hOf (pG x.p j)) (hOf (hashC (leafF x.k x.v))) x.p.length c x.i ++ [tRoot c (foldG (pG x.p) (hashC (leafF x.k x.v)) x.p.length c x.i)]
/-- The texts whose sums are taken for a proof. -/
def shwT (c : Int) (K : List PLeaf) : List (List UInt8) := [tRoot 0 fun _ => 0] ++ (if mayL c K = true then K.flatMap (leafT c) else [])
theorem pG_at {p : List (List Int)} {j m : Nat} (hm : m < 32) : hOf (pG p j) m = (p.getD j []).getD m 0 := by
  have e : pG p j = hashC fun m => (p.getD j []).getD m 0 := rfl
  rw [e, hOf_at, if_pos hm]
theorem forged_leaf {T : List (List UInt8)} (hT : NoClash T) {R : List PP} {c : Int} {x : PLeaf} (hz : AllSz R) (hm : R.length ≤ 1000000) (hi : ∀ t ∈ inpT R, t ∈ T) (hs : ∀ t ∈ leafT c x, t ∈ T) (hsz : x.k.length ≤ 1000) (hr : ∀ h ∈ x.p, h.length = 32 ∧ ∀ b ∈ h, 0 ≤ b ∧ b < 256) (hst : stX (rootL R) c x = true) : c = R.length ∧ ∃ i, i < R.length ∧ x = mkLeaf R i := by
  unfold stX at hst
  rw [Bool.and_eq_true] at hst
  obtain ⟨hB, hE⟩ := hst
  obtain ⟨⟨hc1, hx0, hx1⟩, hdp⟩ := fdB_iff.1 hB
  have eF : fdH (pG x.p) (hashC (leafF x.k x.v)) x.p.length c x.i = foldG (pG x.p) (hashC (leafF x.k x.v)) x.p.length c x.i := by unfold fdH; rw [if_pos hB]
  have eR : rootL R = rootF R.length (hashB (topG (lfG R) R.length)) := rfl
  rw [eF, eR, rootF_t _ (by omega), rootF_t _ (by omega)] at hE
  have hin : tRoot R.length (topG (lfG R) R.length) ∈ T := hi _ (by unfold inpT; simp)
  have e1 := hT _ (hs _ (by unfold leafT; simp)) _ hin hE
  obtain ⟨e2, e3⟩ := tRoot_inj e1
  have hcn := be8_inj ⟨by omega, hc1⟩ ⟨by omega, by omega⟩ e2
  subst hcn
  refine ⟨rfl, ?_⟩
  obtain ⟨i1, i2, i3⟩ := descend hT (h := fun i => hOf (lfG R i)) (W := fun j => hOf (pG x.p j)) (leaf := hOf (hashC (leafF x.k x.v))) x.p.length R.length 0 x.i hdp hx0 hx1 (by omega) (fun t ht => hs _ (by unfold leafT; simp [ht])) (fun t ht => hi _ (by unfold inpT; simp [ht])) e3
  rw [Nat.zero_add] at i1
  have hiR : x.i.toNat < R.length := by omega
  have hiI : ((x.i.toNat : Nat) : Int) = x.i := by omega
  refine ⟨x.i.toNat, hiR, ?_⟩
  have j1 : hashB (sumI (tLeaf x.k x.v)) = hashB (sumI (tLeaf (prK R x.i.toNat) (prV R x.i.toNat))) := by
    have h1 : hashB (hOf (hashC (leafF x.k x.v))) = hashB (hOf (hashC (leafF (prK R x.i.toNat) (prV R x.i.toNat)))) := i1
    rw [hashB_hOf, hashB_hOf] at h1
    exact h1
  have e4 := hT.use (hs _ (by unfold leafT; simp)) (hi _ (by
    unfold inpT
    refine List.mem_append_left _ (List.mem_append_left _ ?_)
    exact List.mem_map.2 ⟨x.i.toNat, List.mem_range.2 hiR, rfl⟩)) j1
  have hzR := szB_iff.1 (hz.at hiR)
  obtain ⟨ek, ev⟩ := tLeaf_inj hsz (by omega) e4
  have hway : wayG (lfG R) R.length ((x.i.toNat : Nat) : Int) = wayR (fun i => hOf (lfG R i)) 0 R.length x.i := by rw [hiI]; rfl
  have ep : x.p = wyL R x.i.toNat := by
    unfold wyL
    rw [hway]
    apply List.ext_getElem
    · rw [List.length_map, i2]
    · intro j hj hj2
      rw [List.length_map] at hj2
      have i4 := i3 j hj
      have hmem : (wayR (fun i => hOf (lfG R i)) 0 R.length x.i)[j] ∈ wayG (lfG R) R.length ((x.i.toNat : Nat) : Int) := by rw [hway]; exact List.getElem_mem hj2
      have hg : (wayR (fun i => hOf (lfG R i)) 0 R.length x.i).getD j (fun _ => 0) = (wayR (fun i => hOf (lfG R i)) 0 R.length x.i)[j] := by simp [List.getD, hj2]
      have hpj : x.p.getD j [] = x.p[j] := by simp [List.getD, hj]
      have hrj := hr _ (List.getElem_mem hj)
      rw [hg] at i4
      have hrange : ∀ m, m < 32 → 0 ≤ hOf (pG x.p j) m ∧ hOf (pG x.p j) m < 256 := fun m hm => by
        rw [pG_at hm, hpj, List.getD_eq_getElem?_getD, List.getElem?_eq_getElem (by omega)]
        exact hrj.2 _ (List.getElem_mem (by omega))
      have i5 := eqH_iff.1 (hashB_inj hrange (wayG_mem hmem) i4)
      rw [List.getElem_map]
      apply List.ext_getElem
      · rw [hrj.1, hNm_len]
      · intro m hm1 hm2
        have i6 := i5 m (by omega)
        rw [pG_at (by omega), hpj, List.getD_eq_getElem?_getD, List.getElem?_eq_getElem hm1] at i6
        have i7 : x.p[j][m] = (wayR (fun i => hOf (lfG R i)) 0 R.length x.i)[j] m := i6
        rw [i7]
        simp [hNm]
  show x = ⟨prK R x.i.toNat, prV R x.i.toNat, ((x.i.toNat : Nat) : Int), wyL R x.i.toNat⟩
  rw [← ek, ← ev, ← ep, hiI]
end Go.Proofs.YthomoliklfmnkaaDoor.Vx
end

section
/- The texts whose sums are taken for the root of a list, by the walker. -/
namespace Go.Proofs.YthomoliklfmnkaaDoor.Vx
open Sha
open Go.RowKit
set_option linter.unusedVariables false
set_option linter.unusedSimpArgs false
/-- The texts of the leaves, as cells. -/
def tlG (R : List PP) (i : Nat) : List CV := [.str (tLeaf (prK R i) (prV R i))]
theorem tl_push (R : List PP) (j i : Nat) (h : i < j + 1) : pushG j (tlG R) [.str ([0] ++ be8 ((prK R j).length : Int) ++ prK R j ++ prV R j)] i = tlG R i := by
  unfold pushG
  by_cases hi : i < j
  · rw [show Nat.blt i j = true by rw [Nat.blt_eq]; exact hi]
  · rw [show Nat.blt i j = false by rw [Bool.eq_false_iff]; intro h2; rw [Nat.blt_eq] at h2; exact hi h2]
    obtain rfl : i = j := by omega
    rfl
theorem tl_st (R : List PP) (i : Nat) (h : i < R.length) : tlG R i = stG ((List.range R.length).map fun i => tLeaf (prK R i) (prV R i)) i := by
  unfold tlG stG
  simp [List.getD, h]
def inpPre (ty one n : Nat) (get : Nat → List CV) : Prop := prPreR ty one n get ∧ AllSz (prL n get) ∧ n ≤ 1000
def inpN (R : List PP) : Nat := (inpT R).length
def sInp : SpecF
  | [.c (.row 0)], [.elems ty one n get] => some (inpPre ty one n get, .c (.row 1), [.dead, .row 9 1 (inpN (prL n get)) (stG (inpT (prL n get)))])
  | _, _ => none

set_option maxRecDepth 100000 in
set_option maxHeartbeats 16000000 in
theorem inpP : Fn Tryd.prog 34 [] [(46, 2)] sInp := by
  have hC : CtsOk Tryd.prog [(94, appPure sRLeaf), (93, appPure sREight), (95, appFn [] [(24, 32)] sTpT), (96, appPure sText)] := CtsOk.cons (Pure.ct rleafP) <| CtsOk.cons (Pure.ct eightP) <| CtsOk.cons (Fn.ct tpTP) <| CtsOk.cons (Pure.ct rtextP) <| CtsOk.nil _
  refine Fn.of (E := tbFg) [] 0 [(6, [(2001, false), (0, true), (1, true), (2, true), (3, true), (4, true), (5, true), (6, true), (9, true), (10, true), (11, true), (12, true), (13, true), (15, true), (16, true), (17, true), (18, true), (19, true), (7, false), (8, true), (14, true), (20, true), (21, false), (22, false), (23, true)]), (7, [(2002, false), (0, true), (1, true), (2, true), (3, true), (4, true), (5, true), (6, true), (7, true), (8, true), (9, true), (10, true), (11, false), (12, false), (13, false), (14, true)]), (9, [(2001, false), (0, true), (1, true), (3, true), (4, true), (7, true), (2, false), (5, false), (6, true), (8, false), (9, true), (10, false), (11, false), (12, true)])] tbFg_ok hC (by kernel_rfl) Tryd.func34 rfl rfl rfl (by kernel_rfl) (by kernel_rfl) 1 9 1 ?_ ?_
  · intro args h pre r h' hs
    unfold sInp at hs
    split at hs
    · cases hs; exact ⟨rfl, rfl, Nat.le_of_ble_eq_true rfl⟩
    · cases hs
  · intro args h pre r h' hs hp
    unfold sInp at hs
    split at hs
    rotate_left
    · cases hs
    rename_i ty one n get
    cases hs
    obtain ⟨⟨rfl, rfl, hst, hm⟩, hz, hn⟩ := hp
    refine ⟨[.elems 46 2 n (prG (prL n get))], ⟨⟨rfl, rfl, rfl, fun i hi => hst.eq hi⟩, trivial⟩, ?_⟩
    have hL : (prL n get).length = n := prL_len
    have ePR : prL n (prG (prL n get)) = prL n get := by
      have := prL_prG (prL n get)
      rwa [hL] at this
    generalize prL n get = L at hL hz ePR ⊢
    generalize hg0 : (List.length : List PP → Nat) = g0
    generalize hL : lft Tryd.prog _ = L
    try unfold prG
    generalize ho0 : @prK = zo0, ho1 : @prV = zo1, ho2 : @prL = zo2, ho3 : @leafF = zo3, ho4 : @topG = zo4, ho5 : @HashC = zo5, ho6 : @u8s = zo6, ho7 : @lfG = zo7, ho8 : @rleafPre = zo8, ho9 : @hashB = zo9, ho10 : @tpT = zo10, ho11 : @tpN = zo11, ho12 : @be8 = zo12, ho13 : @eightPre = zo13, ho14 : @tlG = zo14, ho15 : @inpPre = zo15, ho16 : @inpN = zo16, ho17 : @inpT = zo17, ho18 : @rtpPre0 = zo18
    generalize hA : Arith.std = A
    cbv
    subst hA hg0 hL ho0 ho1 ho2 ho3 ho4 ho5 ho6 ho7 ho8 ho9 ho10 ho11 ho12 ho13 ho14 ho15 ho16 ho17 ho18
    refine Runs.nilTmp 3 9 1 (tlG L) rfl ?_
    refine Runs.nilTmp 4 24 32 (lfG L) rfl ?_
    refine Runs.absK fun Q0 hQ0 => ?_
    replace hQ0 := Lib.hid hQ0
    show Runs Tryd.prog 1 (.loop _) _ _
    refine loop_ruleR (N := env (lft Tryd.prog 1) 0 .std tbFg [(94, appPure sRLeaf), (93, appPure sREight), (95, appFn [] [(24, 32)] sTpT), (96, appPure sText)] [(6, [(2001, false), (0, true), (1, true), (2, true), (3, true), (4, true), (5, true), (6, true), (9, true), (10, true), (11, true), (12, true), (13, true), (15, true), (16, true), (17, true), (18, true), (19, true), (7, false), (8, true), (14, true), (20, true), (21, false), (22, false), (23, true)]), (7, [(2002, false), (0, true), (1, true), (2, true), (3, true), (4, true), (5, true), (6, true), (7, true), (8, true), (9, true), (10, true), (11, false), (12, false), (13, false), (14, true)]), (9, [(2001, false), (0, true), (1, true), (3, true), (4, true), (7, true), (2, false), (5, false), (6, true), (8, false), (9, true), (10, false), (11, false), (12, true)])]) rfl tbFg_ok hC (fun c st K _ h => h) (by kernel_rfl) [] (X := LSm n)
      (S := fun x => ⟨[.c (.row 0), .any, .any, .c (.row 1), .c (.row 2), .c (.int .i64 (x.j : Int))] ++ List.replicate 62 .any, [.elems 46 2 n (prG L), .row 9 1 x.j (tlG L), .row 24 32 x.j (lfG L)]⟩) (μ := fun x => n - x.j) ⟨0, Nat.zero_le _⟩ (by kernel_rfl) [0, 1, 2] ?_ ?_
    · refine ⟨rfl, by decide, ?_, ?_⟩ <;> repeat' (first | exact trivial | exact rfl | apply And.intro | exact (fun _ _ _ _ => Cell.le_refl _) | (intro i hi; rfl) | (intro i hi; exact absurd hi (Nat.not_lt_zero _)))
    rintro ⟨j, hjn⟩
    generalize hg0 : (List.length : List PP → Nat) = g0
    generalize hL : lft Tryd.prog _ = L
    try dsimp only
    try unfold prG
    generalize ho0 : @prK = zo0, ho1 : @prV = zo1, ho2 : @prL = zo2, ho3 : @leafF = zo3, ho4 : @topG = zo4, ho5 : @HashC = zo5, ho6 : @u8s = zo6, ho7 : @lfG = zo7, ho8 : @rleafPre = zo8, ho9 : @hashB = zo9, ho10 : @tpT = zo10, ho11 : @tpN = zo11, ho12 : @be8 = zo12, ho13 : @eightPre = zo13, ho14 : @tlG = zo14, ho15 : @inpPre = zo15, ho16 : @inpN = zo16, ho17 : @inpT = zo17, ho18 : @rtpPre0 = zo18
    generalize hs0 : @sREight = zs0, hs1 : @sRLeaf = zs1
    generalize hA : Arith.std = A
    cbv
    subst hA hg0 hL ho0 ho1 ho2 ho3 ho4 ho5 ho6 ho7 ho8 ho9 ho10 ho11 ho12 ho13 ho14 ho15 ho16 ho17 ho18 hs0 hs1
    unfold sREight
    generalize hg0 : (List.length : List PP → Nat) = g0
    generalize hL : lft Tryd.prog _ = L
    try unfold prG
    generalize ho0 : @prK = zo0, ho1 : @prV = zo1, ho2 : @prL = zo2, ho3 : @leafF = zo3, ho4 : @topG = zo4, ho5 : @HashC = zo5, ho6 : @u8s = zo6, ho7 : @lfG = zo7, ho8 : @rleafPre = zo8, ho9 : @hashB = zo9, ho10 : @tpT = zo10, ho11 : @tpN = zo11, ho12 : @be8 = zo12, ho13 : @eightPre = zo13, ho14 : @tlG = zo14, ho15 : @inpPre = zo15, ho16 : @inpN = zo16, ho17 : @inpT = zo17, ho18 : @rtpPre0 = zo18
    generalize hs0 : @sRLeaf = zs0
    generalize hA : Arith.std = A
    cbv
    subst hA hg0 hL ho0 ho1 ho2 ho3 ho4 ho5 ho6 ho7 ho8 ho9 ho10 ho11 ho12 ho13 ho14 ho15 ho16 ho17 ho18 hs0
    unfold sRLeaf
    generalize hg0 : (List.length : List PP → Nat) = g0
    generalize hL : lft Tryd.prog _ = L
    try unfold prG
    generalize ho0 : @prK = zo0, ho1 : @prV = zo1, ho2 : @prL = zo2, ho3 : @leafF = zo3, ho4 : @topG = zo4, ho5 : @HashC = zo5, ho6 : @u8s = zo6, ho7 : @lfG = zo7, ho8 : @rleafPre = zo8, ho9 : @hashB = zo9, ho10 : @tpT = zo10, ho11 : @tpN = zo11, ho12 : @be8 = zo12, ho13 : @eightPre = zo13, ho14 : @tlG = zo14, ho15 : @inpPre = zo15, ho16 : @inpN = zo16, ho17 : @inpT = zo17, ho18 : @rtpPre0 = zo18
    generalize hA : Arith.std = A
    cbv
    subst hA hg0 hL ho0 ho1 ho2 ho3 ho4 ho5 ho6 ho7 ho8 ho9 ho10 ho11 ho12 ho13 ho14 ho15 ho16 ho17 ho18
    refine Ife.mk (fun h => ?_) (fun h => ?_)
    · have h : (j : Int) < (@Nat.cast Int instNatCastInt n) := of_decide_eq_true (p := (j : Int) < (n : Int)) h
      have hj2 : j < n := Int.ofNat_lt.mp h
      have hsz := szB_iff.1 (hz.at (i := j) (by omega))
      have b1 : 0 ≤ (j : Int) ∧ (j : Int) < (n : Int) := by omega
      have b2 : (j : Int).toNat < n := by omega
      have f0 : ([0] ++ be8 ((prK L j).length : Int)).length = 9 := rfl
      have f1 : ([0] ++ be8 ((prK L j).length : Int) ++ prK L j).length = 9 + (prK L j).length := by rw [List.length_append, f0]
      refine Need.mk b1 fun _ => Need.mk b2 fun _ => Need.mk b1 fun _ => Need.mk b2 fun _ => Need.mk b1 fun _ => Need.mk b2 fun _ => ?_
      refine Need.mk (show eightPre ((prK L j).length : Int) from ⟨by omega, by omega⟩) fun _ => Need.mk (by show (1 : Int) + 8 ≤ 9223372036854775807; decide) fun _ => Need.mk (by show ((([0] ++ be8 ((prK L j).length : Int)).length : Nat) : Int) + ((prK L j).length : Nat) ≤ 9223372036854775807; rw [f0]; omega) fun _ => Need.mk (by show ((([0] ++ be8 ((prK L j).length : Int) ++ prK L j).length : Nat) : Int) + ((prV L j).length : Nat) ≤ 9223372036854775807; rw [f1]; omega) fun _ => ?_
      refine Need.mk (by show j + 1 ≤ maxLen ∧ (j + 1) * 16 ≤ 140737488355328; unfold maxLen; omega) fun _ => Need.mk b1 fun _ => Need.mk b2 fun _ => Need.mk b1 fun _ => Need.mk b2 fun _ => ?_
      refine Need.mk ⟨by show (prK L j).length ≤ 1000000000; omega, by show (prV L j).length ≤ 1000000000; omega⟩ fun _ => ?_
      refine Need.mk (by show j + 1 ≤ maxLen ∧ (j + 1) * 32 ≤ 140737488355328; unfold maxLen; omega) fun _ => Need.mk (by show fitStd .i64 ((j : Int) + 1); unfold fitStd; omega) fun _ => ?_
      have hp1 := tl_push L j
      have hp2 := lf_push (L := L) (m := j)
      refine ⟨⟨j + 1, by omega⟩, [0, 4, 6], (by show n - (j + 1) < n - j; omega), ?_⟩
      refine ⟨rfl, (by decide), ?_, ?_⟩ <;> repeat' (first | exact trivial | exact hp1 | exact hp2 | exact rfl | apply And.intro | exact (fun _ _ _ _ => Cell.le_refl _) | (intro i hi; rfl) | (intro i hi; exact absurd hi (Nat.not_lt_zero _)))
    · have h : ¬ (j : Int) < (@Nat.cast Int instNatCastInt n) := of_decide_eq_false (p := (j : Int) < (n : Int)) h
      obtain rfl : j = n := by have : ¬ j < n := fun q => h (Int.ofNat_lt.mpr q)
                               omega
      have hle : tpN (lfG L) j ≤ j - 1 := topT_len _ _ _
      have hML : maxLen = 9223372036854775807 := rfl
      refine hQ0.out _ _ _ ?_
      unfold sTpT
      generalize hg0 : (List.length : List PP → Nat) = g0
      generalize hL : lft Tryd.prog _ = L
      try unfold prG
      generalize ho0 : @prK = zo0, ho1 : @prV = zo1, ho2 : @prL = zo2, ho3 : @leafF = zo3, ho4 : @topG = zo4, ho5 : @HashC = zo5, ho6 : @u8s = zo6, ho7 : @lfG = zo7, ho8 : @rleafPre = zo8, ho9 : @hashB = zo9, ho10 : @tpT = zo10, ho11 : @tpN = zo11, ho12 : @be8 = zo12, ho13 : @eightPre = zo13, ho14 : @tlG = zo14, ho15 : @inpPre = zo15, ho16 : @inpN = zo16, ho17 : @inpT = zo17, ho18 : @rtpPre0 = zo18
      generalize hs0 : @sREight = zs0, hs1 : @sText = zs1
      generalize hA : Arith.std = A
      cbv
      subst hA hg0 hL ho0 ho1 ho2 ho3 ho4 ho5 ho6 ho7 ho8 ho9 ho10 ho11 ho12 ho13 ho14 ho15 ho16 ho17 ho18 hs0 hs1
      unfold sREight
      generalize hg0 : (List.length : List PP → Nat) = g0
      generalize hL : lft Tryd.prog _ = L
      try unfold prG
      generalize ho0 : @prK = zo0, ho1 : @prV = zo1, ho2 : @prL = zo2, ho3 : @leafF = zo3, ho4 : @topG = zo4, ho5 : @HashC = zo5, ho6 : @u8s = zo6, ho7 : @lfG = zo7, ho8 : @rleafPre = zo8, ho9 : @hashB = zo9, ho10 : @tpT = zo10, ho11 : @tpN = zo11, ho12 : @be8 = zo12, ho13 : @eightPre = zo13, ho14 : @tlG = zo14, ho15 : @inpPre = zo15, ho16 : @inpN = zo16, ho17 : @inpT = zo17, ho18 : @rtpPre0 = zo18
      generalize hs0 : @sText = zs0
      generalize hA : Arith.std = A
      cbv
      subst hA hg0 hL ho0 ho1 ho2 ho3 ho4 ho5 ho6 ho7 ho8 ho9 ho10 ho11 ho12 ho13 ho14 ho15 ho16 ho17 ho18 hs0
      unfold sText
      generalize hg0 : (List.length : List PP → Nat) = g0
      generalize hL : lft Tryd.prog _ = L
      try unfold prG
      generalize ho0 : @prK = zo0, ho1 : @prV = zo1, ho2 : @prL = zo2, ho3 : @leafF = zo3, ho4 : @topG = zo4, ho5 : @HashC = zo5, ho6 : @u8s = zo6, ho7 : @lfG = zo7, ho8 : @rleafPre = zo8, ho9 : @hashB = zo9, ho10 : @tpT = zo10, ho11 : @tpN = zo11, ho12 : @be8 = zo12, ho13 : @eightPre = zo13, ho14 : @tlG = zo14, ho15 : @inpPre = zo15, ho16 : @inpN = zo16, ho17 : @inpT = zo17, ho18 : @rtpPre0 = zo18
      generalize hA : Arith.std = A
      cbv
      subst hA hg0 hL ho0 ho1 ho2 ho3 ho4 ho5 ho6 ho7 ho8 ho9 ho10 ho11 ho12 ho13 ho14 ho15 ho16 ho17 ho18
      refine Need.mk ⟨rfl, rfl, lfG_hash L j, hn⟩ fun _ => ?_
      have hT : inpT L = ((List.range L.length).map fun i => tLeaf (prK L i) (prV L i)) ++ tpT (lfG L) j ++ [tRoot (j : Int) (topG (lfG L) j)] := by rw [← hL]; rfl
      have hQ : (tpT (lfG L) j).length = tpN (lfG L) j := rfl
      generalize tpN (lfG L) j = Q at hle hQ ⊢
      have hPQ := natM j Q
      refine Need.mk ⟨⟨by show j + Q ≤ maxLen; omega, by show (j + Q) * 16 ≤ _; omega⟩, fun _ _ => rfl⟩ fun _ => ?_
      refine Need.mk (show eightPre (j : Int) from ⟨by omega, by omega⟩) fun _ => Need.mk (by show (1 : Int) + 8 ≤ 9223372036854775807; decide) fun _ => Need.mk (topG_hash (lfG_hash L j) 0 j (by omega)) fun _ => Need.mk (by show (9 : Int) + 32 ≤ 9223372036854775807; decide) fun _ => ?_
      refine Need.mk ⟨Nat.le_trans (Nat.le_of_eq (congrArg (· + 1) hPQ)) (by show j + Q + 1 ≤ _; omega), Nat.le_trans (Nat.le_of_eq (congrArg (fun x => (x + 1) * 16) hPQ)) (by show (j + Q + 1) * 16 ≤ _; omega)⟩ fun _ => ?_
      have hA : ((List.range L.length).map fun i => tLeaf (prK L i) (prV L i)).length = j := by simp [hL]
      have hN : inpN L = j + Q + 1 := by
        show (inpT L).length = _
        rw [hT, List.length_append, List.length_append, hA, hQ]; rfl
      have hO1 := (congrArg Nat.succ hPQ).trans hN.symm
      have hO2 : ∀ i, i < inpN L → pushG (match (generalizing := false) j, Q with
        | a, Nat.zero => a
        | a, Nat.succ b => Nat.succ (Nat.add a b)) (catG j (tlG L) (stG (tpT (lfG L) j))) [.str ([2] ++ be8 (j : Int) ++ u8s (hashC (topG (lfG L) j)))] i = stG (inpT L) i := fun i hi => by
        refine (congrArg (fun x => pushG x _ _ i) (natM j Q)).trans ?_
        show pushG (j + Q) _ _ i = _
        rw [u8s_hash, hT]
        have e := stG_push (((List.range L.length).map fun i => tLeaf (prK L i) (prV L i)) ++ tpT (lfG L) j) (tRoot (j : Int) (topG (lfG L) j)) i (by rw [List.length_append, hA, hQ]; omega)
        rw [List.length_append, hA, hQ] at e
        rw [← e]
        unfold pushG
        cases hb : Nat.blt i (j + Q)
        · rfl
        · rw [← stG_cat, hA]
          show catG j _ _ i = catG j _ _ i
          unfold catG
          cases hb2 : Nat.blt i j
          · rfl
          · exact tl_st L i (by rw [hL]; rw [Nat.blt_eq] at hb2; exact hb2)
      exact ⟨[0, 8], ⟨rfl, (by repeat' (first | exact trivial | exact rfl | apply And.intro | exact (fun _ _ _ _ => Cell.le_refl _) | (intro i hi; rfl) | (intro i hi; exact absurd hi (Nat.not_lt_zero _)))), (by show List.Nodup [8]; decide), rfl, by repeat' (first | exact trivial | exact hO1 | exact hO2 | exact rfl | apply And.intro | exact (fun _ _ _ _ => Cell.le_refl _) | (intro i hi; exact absurd hi (Nat.not_lt_zero _)))⟩⟩

end Go.Proofs.YthomoliklfmnkaaDoor.Vx
end

section
/- The texts whose sums are taken for a proof, by the walker. -/
namespace Go.Proofs.YthomoliklfmnkaaDoor.Vx
open Sha
open Go.RowKit
set_option linter.unusedVariables false
set_option linter.unusedSimpArgs false
/-- The texts for the first leaves. -/
def shJ (c : Int) (L : List PLeaf) (j : Nat) : List (List UInt8) := [tRoot 0 fun _ => 0] ++ (L.take j).flatMap (leafT c)
def shJN (c : Int) (L : List PLeaf) (j : Nat) : Nat := (shJ c L j).length
def shwN (c : Int) (L : List PLeaf) : Nat := (shwT c L).length
def shwPre (ty sz n : Nat) (get : Nat → Nat → Cell) : Prop := leavesPre ty sz n get
theorem leafT_len (c : Int) (x : PLeaf) : (leafT c x).length = x.p.length + 2 := by
  unfold leafT
  rw [List.length_append, List.length_append, wayT_len]
  simp only [List.length_cons, List.length_nil]
  omega
theorem shJ_next {c : Int} {L : List PLeaf} {j : Nat} (h : j < L.length) : shJ c L (j + 1) = shJ c L j ++ leafT c (L.getD j .none) := by
  unfold shJ
  rw [List.take_add_one, List.flatMap_append, List.getElem?_eq_getElem h, List.append_assoc]
  simp [List.getD, h]
theorem shJ_all {c : Int} {L : List PLeaf} (h : mayL c L = true) : shJ c L L.length = shwT c L := by
  unfold shJ shwT
  rw [List.take_length, if_pos h]
theorem pushG_cong {n : Nat} {g g' : Nat → List CV} (x : List CV) (i : Nat) (h : ∀ i, i < n → g i = g' i) : pushG n g x i = pushG n g' x i := by
  unfold pushG
  cases hb : Nat.blt i n
  · rfl
  · exact h i (by rwa [Nat.blt_eq] at hb)
theorem catG_cong {n : Nat} {g g' : Nat → List CV} (b : Nat → List CV) (i : Nat) (h : ∀ i, i < n → g i = g' i) : catG n g b i = catG n g' b i := by
  unfold catG
  cases hb : Nat.blt i n
  · rfl
  · exact h i (by rwa [Nat.blt_eq] at hb)
/-- How far the leaves are gone through. -/
structure LShw (c : Int) (L : List PLeaf) (n : Nat) where
  j : Nat
  h1 : j ≤ n
  h2 : shJN c L j ≤ 1 + 40 * j
def sShw : SpecF
  | [.agg [.int .i64 c, .row 0]], [.data fr ty sz n get] => some (shwPre ty sz n get, .c (.row 1), [.dead, .row 9 1 (shwN c (leafL n get)) (stG (shwT c (leafL n get)))])
  | _, _ => none

set_option maxRecDepth 100000 in
set_option maxHeartbeats 16000000 in
theorem shwP : Fn Tryd.prog 35 [] [(115, 204)] sShw := by
  have hC : CtsOk Tryd.prog [(62, appFn [] [(115, 204)] sMayPr), (94, appPure sRLeaf), (93, appPure sREight), (97, appFn [] [(24, 32)] sTwy), (96, appPure sText)] := CtsOk.cons (Fn.ct rmayPrP) <| CtsOk.cons (Pure.ct rleafP) <| CtsOk.cons (Pure.ct eightP) <| CtsOk.cons (Fn.ct twyP) <| CtsOk.cons (Pure.ct rtextP) <| CtsOk.nil _
  refine Fn.ofLR (E := tbFg) [] 0 [(8, [(2002, false), (0, true), (1, true), (2, true), (3, true), (6, true), (7, true), (9, true), (10, true), (4, false), (5, true), (8, true), (11, true), (12, false), (13, false), (14, true)]), (9, [(9999, true), (0, true), (1, true), (2, true), (3, true), (4, true), (5, true), (6, true), (7, true), (9, true), (10, true), (3008, false), (3011, false), (12, true), (13, true), (14, true), (15, false), (16, true), (17, false), (2999, false), (15, false), (11, false), (12, true), (13, true), (14, true), (16, true), (17, false), (2999, false), (15, false), (8, false), (11, false), (12, true), (13, true), (14, true), (16, true), (17, false), (2999, false)]), (10, [(2006, false), (0, true), (1, true), (3, true), (4, true), (7, true), (2, false), (5, false), (6, true), (8, false), (9, true), (10, false), (11, false), (12, true)])] tbFg_ok hC (by kernel_rfl) Tryd.func35 rfl rfl rfl (by kernel_rfl) (by kernel_rfl) 1 9 1 ?_ ?_
  · intro args h pre r h' hs
    unfold sShw at hs
    split at hs
    · cases hs; exact ⟨rfl, rfl, Nat.le_of_ble_eq_true rfl⟩
    · cases hs
  · intro args h pre r h' hs hp
    unfold sShw at hs
    split at hs
    rotate_left
    · cases hs
    rename_i c fr ty sz n get
    cases hs
    obtain ⟨rfl, rfl, hst, hok, hm⟩ := hp
    refine ⟨[.data fr 115 4 n (leafG false (leafL n get))], ⟨⟨rfl, rfl, rfl, rfl, fun i j hi hj => by rw [hst i j hi hj]; exact Cell.le_refl _⟩, trivial⟩, ?_⟩
    have hL : (leafL n get).length = n := leafL_len
    generalize leafL n get = L at hL hok ⊢
    have q1 : leavesPre 115 4 n (fun i j => (leafG false L i j).old) := by rw [← hL]; exact leavesPre_old hok (by omega)
    have e1 : leafL n (fun i j => (leafG false L i j).old) = L := by rw [← hL]; exact leaves_old hok
    unfold sMayPr sREight sText
    generalize hg0 : (List.length : List UInt8 → Nat) = g0
    generalize hL : lft Tryd.prog _ = L
    try unfold leafG
    generalize ho0 : @leafF = zo0, ho1 : @HashC = zo1, ho2 : @u8s = zo2, ho3 : @lK = zo3, ho4 : @lV = zo4, ho5 : @lI = zo5, ho6 : @lP = zo6, ho7 : @lN = zo7, ho8 : @pG = zo8, ho9 : @leafL = zo9, ho10 : @leavesPre = zo10, ho11 : @mayL = zo11, ho12 : @rleafPre = zo12, ho13 : @hashB = zo13, ho14 : @wyT = zo14, ho15 : @wyN = zo15, ho16 : @foldG = zo16, ho17 : @be8 = zo17, ho18 : @eightPre = zo18, ho19 : @rwyPre0 = zo19, ho20 : @shJ = zo20, ho21 : @shJN = zo21, ho22 : @shwN = zo22, ho23 : @shwT = zo23, ho24 : @shwPre = zo24, ho25 : @stG = zo25
    generalize hA : Arith.std = A
    cbv
    subst hA hg0 hL ho0 ho1 ho2 ho3 ho4 ho5 ho6 ho7 ho8 ho9 ho10 ho11 ho12 ho13 ho14 ho15 ho16 ho17 ho18 ho19 ho20 ho21 ho22 ho23 ho24 ho25
    have hZ : HashC (hashC fun _ => 0) := ⟨fun _ => 0, rfl, fun _ => ⟨Int.le_refl 0, (by decide : (0 : Int) < 256)⟩⟩
    refine Need.mk (show eightPre 0 from ⟨by omega, by omega⟩) fun _ => Need.mk (by show (1 : Int) + 8 ≤ 9223372036854775807; decide) fun _ => Need.mk hZ fun _ => Need.mk (by show (9 : Int) + 32 ≤ 9223372036854775807; decide) fun _ => Need.mk q1 fun _ => ?_
    simp only [e1]
    refine Ife.mk (fun h => ?_) (fun h => ?_)
    · have h : mayL c L = false := by simpa using (show (!mayL c L) = true from h)
      have hsh : shwT c L = [tRoot 0 fun _ => 0] := by unfold shwT; rw [h]; rfl
      have hN : shwN c L = 1 := by unfold shwN; rw [hsh]; rfl
      have hO : ∀ i, i < 1 → [CV.str ([2] ++ be8 0 ++ u8s (hashC fun _ => 0))] = stG [tRoot 0 fun _ => 0] i := fun i hi => by
        obtain rfl : i = 0 := by omega
        rfl
      rw [hN, hsh]
      refine Or.inr ⟨2, [0, 4], ⟨⟨_, _, rfl, rfl, rfl, (by repeat' (first | exact trivial | exact rfl | apply And.intro | exact (fun _ _ _ _ => Cell.le_refl _) | (intro i hi; rfl) | (intro i hi; exact absurd hi (Nat.not_lt_zero _)))), ?_⟩, rfl, (by show List.Nodup [4]; decide), rfl⟩⟩
      repeat' (first | exact trivial | exact hO | exact rfl | apply And.intro | exact (fun _ _ _ _ => Cell.le_refl _) | (intro i hi; exact absurd hi (Nat.not_lt_zero _)))
    have hmay : mayL c L = true := by simpa using (show (!mayL c L) = false from h)
    clear h
    obtain ⟨⟨hc0, hc1, hn2⟩, hma⟩ := mayL_all hmay
    refine Runs.litTmp 3 2 rfl rfl rfl ?_
    have hz1 : 1 = shJN c L 0 := rfl
    have hz2 : ∀ i, i < shJN c L 0 → [CV.str ([2] ++ be8 0 ++ u8s (hashC fun _ => 0))] = stG (shJ c L 0) i := fun i hi => by
      have hi : i < 1 := hi
      obtain rfl : i = 0 := by omega
      rfl
    have h00 : shJN c L 0 ≤ 1 + 40 * 0 := Nat.le_refl 1
    show Runs Tryd.prog 1 (.loop _) _ _
    refine loop_ruleR (N := env (lft Tryd.prog 1) 0 .std tbFg [(62, appFn [] [(115, 204)] sMayPr), (94, appPure sRLeaf), (93, appPure sREight), (97, appFn [] [(24, 32)] sTwy), (96, appPure sText)] [(8, [(2002, false), (0, true), (1, true), (2, true), (3, true), (6, true), (7, true), (9, true), (10, true), (4, false), (5, true), (8, true), (11, true), (12, false), (13, false), (14, true)]), (9, [(9999, true), (0, true), (1, true), (2, true), (3, true), (4, true), (5, true), (6, true), (7, true), (9, true), (10, true), (3008, false), (3011, false), (12, true), (13, true), (14, true), (15, false), (16, true), (17, false), (2999, false), (15, false), (11, false), (12, true), (13, true), (14, true), (16, true), (17, false), (2999, false), (15, false), (8, false), (11, false), (12, true), (13, true), (14, true), (16, true), (17, false), (2999, false)]), (10, [(2006, false), (0, true), (1, true), (3, true), (4, true), (7, true), (2, false), (5, false), (6, true), (8, false), (9, true), (10, false), (11, false), (12, true)])]) rfl tbFg_ok hC (fun c st K _ h => h) (by kernel_rfl) [] (X := LShw c L n)
      (S := fun x => ⟨[.any, .c (.ptr 1 0), .any, .c (.row 2), .c (.int .i64 (x.j : Int))] ++ List.replicate 67 .any, [.data fr 115 4 n (leafG false L), .cells 27 [.int .i64 c, .row 0], .row 9 1 (shJN c L x.j) (stG (shJ c L x.j))]⟩) (μ := fun x => n - x.j) ⟨0, Nat.zero_le _, h00⟩ (by kernel_rfl) [0, 1, 4] ?h0 ?rd
    case h0 =>
      refine ⟨rfl, by decide, ?_, ?_⟩ <;> repeat' (first | exact trivial | exact hz1 | exact hz2 | exact rfl | apply And.intro | exact (fun _ _ _ _ => Cell.le_refl _) | (intro i hi; rfl) | (intro i hi; exact absurd hi (Nat.not_lt_zero _)))
    case rd =>
      rintro ⟨j, hjn, hle⟩
      unfold sMayPr sREight sText sRLeaf sTwy
      generalize hg0 : (List.length : List UInt8 → Nat) = g0
      generalize hL : lft Tryd.prog _ = L
      try dsimp only
      try unfold leafG
      generalize ho0 : @leafF = zo0, ho1 : @HashC = zo1, ho2 : @u8s = zo2, ho3 : @lK = zo3, ho4 : @lV = zo4, ho5 : @lI = zo5, ho6 : @lP = zo6, ho7 : @lN = zo7, ho8 : @pG = zo8, ho9 : @leafL = zo9, ho10 : @leavesPre = zo10, ho11 : @mayL = zo11, ho12 : @rleafPre = zo12, ho13 : @hashB = zo13, ho14 : @wyT = zo14, ho15 : @wyN = zo15, ho16 : @foldG = zo16, ho17 : @be8 = zo17, ho18 : @eightPre = zo18, ho19 : @rwyPre0 = zo19, ho20 : @shJ = zo20, ho21 : @shJN = zo21, ho22 : @shwN = zo22, ho23 : @shwT = zo23, ho24 : @shwPre = zo24, ho25 : @stG = zo25
      generalize hA : Arith.std = A
      cbv
      subst hA hg0 hL ho0 ho1 ho2 ho3 ho4 ho5 ho6 ho7 ho8 ho9 ho10 ho11 ho12 ho13 ho14 ho15 ho16 ho17 ho18 ho19 ho20 ho21 ho22 ho23 ho24 ho25
      simp only [Arith.std, Int.ofNat_eq_natCast, Int.toNat_natCast]
      refine Ife.mk (fun h => ?_) (fun h => ?_)
      · have h : (j : Int) < (@Nat.cast Int instNatCastInt n) := of_decide_eq_true (p := (j : Int) < (n : Int)) h
        have hj2 : j < n := Int.ofNat_lt.mp h
        have hA := mayAt_iff.1 (hma j (by omega))
        have hd30 := deep_30 c (lI L j)
        have f0 : ([0] ++ be8 ((lK L j).length : Int)).length = 9 := rfl
        have f1 : ([0] ++ be8 ((lK L j).length : Int) ++ lK L j).length = 9 + (lK L j).length := by rw [List.length_append, f0]
        have hML : maxLen = 9223372036854775807 := rfl
        have r1 : rleafPre (lK L j) (lV L j) := ⟨by omega, by omega⟩
        have q2 : rwyPre0 24 32 (lN L j) (pG (lP L j)) (hashC (leafF (lK L j) (lV L j))) c (lI L j) := ⟨rfl, rfl, pG_hashes hok (by omega), ⟨_, rfl, fun m => sumI_range _ m⟩, by omega, fdB_iff.2 ⟨⟨hc1, by omega, by omega⟩, by omega⟩⟩
        have hWn : wyN (pG (lP L j)) (hashC (leafF (lK L j) (lV L j))) (lN L j) c (lI L j) = lN L j := wayT_len _ _ _ _ _
        have hT : (wyT (pG (lP L j)) (hashC (leafF (lK L j) (lV L j))) (lN L j) c (lI L j)).length = wyN (pG (lP L j)) (hashC (leafF (lK L j) (lV L j))) (lN L j) c (lI L j) := rfl
        have hFo : HashC (hashC (foldG (pG (lP L j)) (hashC (leafF (lK L j) (lV L j))) (lN L j) c (lI L j))) := ⟨_, rfl, fun m => foldR_range (fun m => hOf_range (cs := (hashC (leafF (lK L j) (lV L j)))) ⟨_, rfl, fun m => sumI_range _ m⟩ m) _ _ _ m⟩
        have hnext : shJ c L (j + 1) = shJ c L j ++ [tLeaf (lK L j) (lV L j)] ++ wyT (pG (lP L j)) (hashC (leafF (lK L j) (lV L j))) (lN L j) c (lI L j) ++ [tRoot c (foldG (pG (lP L j)) (hashC (leafF (lK L j) (lV L j))) (lN L j) c (lI L j))] := by
          rw [shJ_next (by omega)]
          show shJ c L j ++ ([tLeaf (lK L j) (lV L j)] ++ wyT (pG (lP L j)) (hashC (leafF (lK L j) (lV L j))) (lN L j) c (lI L j) ++ [tRoot c (foldG (pG (lP L j)) (hashC (leafF (lK L j) (lV L j))) (lN L j) c (lI L j))]) = _
          simp only [List.append_assoc]
        have hXl : (shJ c L j).length = shJN c L j := rfl
        have hX1 : shJN c L (j + 1) = (shJN c L j).succ + wyN (pG (lP L j)) (hashC (leafF (lK L j) (lV L j))) (lN L j) c (lI L j) + 1 := by
          show (shJ c L (j + 1)).length = _
          rw [hnext, List.length_append, List.length_append, List.length_append, hXl, hT]
          rfl
        have hPQ := natM (shJN c L j).succ (wyN (pG (lP L j)) (hashC (leafF (lK L j) (lV L j))) (lN L j) c (lI L j))
        have hl1 : (shJ c L j ++ [tLeaf (lK L j) (lV L j)]).length = (shJN c L j).succ := by rw [List.length_append, hXl]; rfl
        have hl2 : (shJ c L j ++ [tLeaf (lK L j) (lV L j)] ++ wyT (pG (lP L j)) (hashC (leafF (lK L j) (lV L j))) (lN L j) c (lI L j)).length = (shJN c L j).succ + wyN (pG (lP L j)) (hashC (leafF (lK L j) (lV L j))) (lN L j) c (lI L j) := by rw [List.length_append, hl1, hT]
        have hO1 := (congrArg Nat.succ hPQ).trans hX1.symm
        have hO2 : ∀ i, i < shJN c L (j + 1) → pushG (match (generalizing := false) (shJN c L j).succ, wyN (pG (lP L j)) (hashC (leafF (lK L j) (lV L j))) (lN L j) c (lI L j) with
          | a, Nat.zero => a
          | a, Nat.succ b => Nat.succ (Nat.add a b)) (catG (shJN c L j).succ (pushG (shJN c L j) (stG (shJ c L j)) [.str ([0] ++ be8 ((lK L j).length : Int) ++ lK L j ++ lV L j)]) (stG (wyT (pG (lP L j)) (hashC (leafF (lK L j) (lV L j))) (lN L j) c (lI L j)))) [.str ([2] ++ be8 c ++ u8s (hashC (foldG (pG (lP L j)) (hashC (leafF (lK L j) (lV L j))) (lN L j) c (lI L j))))] i = stG (shJ c L (j + 1)) i := fun i hi => by
          refine (congrArg (fun x => pushG x _ _ i) hPQ).trans ?_
          show pushG ((shJN c L j).succ + wyN (pG (lP L j)) (hashC (leafF (lK L j) (lV L j))) (lN L j) c (lI L j)) _ _ i = _
          rw [u8s_hash, hnext]
          refine (pushG_cong (g' := stG (shJ c L j ++ [tLeaf (lK L j) (lV L j)] ++ wyT (pG (lP L j)) (hashC (leafF (lK L j) (lV L j))) (lN L j) c (lI L j))) _ i fun i hi => ?_).trans ?_
          · refine (catG_cong _ i fun i hi => stG_push (shJ c L j) (tLeaf (lK L j) (lV L j)) i hi).trans ?_
            have := stG_cat (shJ c L j ++ [tLeaf (lK L j) (lV L j)]) (wyT (pG (lP L j)) (hashC (leafF (lK L j) (lV L j))) (lN L j) c (lI L j)) i
            rw [hl1] at this
            exact this
          · have := stG_push (shJ c L j ++ [tLeaf (lK L j) (lV L j)] ++ wyT (pG (lP L j)) (hashC (leafF (lK L j) (lV L j))) (lN L j) c (lI L j)) (tRoot c (foldG (pG (lP L j)) (hashC (leafF (lK L j) (lV L j))) (lN L j) c (lI L j))) i (by rw [hl2]; omega)
            rw [hl2] at this
            exact this
        have hle2 : shJN c L (j + 1) ≤ 1 + 40 * (j + 1) := by rw [hX1, hWn]; omega
        refine Need.mk (by omega) fun _ => Need.mk hj2 fun _ => Need.mk (show eightPre ((lK L j).length : Int) from ⟨by omega, by omega⟩) fun _ => Need.mk (by show (1 : Int) + 8 ≤ 9223372036854775807; decide) fun _ => Need.mk (by rw [f0]; omega) fun _ => Need.mk (by rw [f1]; omega) fun _ => Need.mk (by omega) fun _ => Both.mk (Need.mk r1 fun _ => Both.mk ?_ ?_) (Need.mk r1 fun _ => ?_)
        all_goals
          refine Need.mk q2 fun _ => ?_
          refine Need.mk (show ((shJN c L j).succ + wyN (pG (lP L j)) (hashC (leafF (lK L j) (lV L j))) (lN L j) c (lI L j) ≤ maxLen ∧ ((shJN c L j).succ + wyN (pG (lP L j)) (hashC (leafF (lK L j) (lV L j))) (lN L j) c (lI L j)) * 16 ≤ 140737488355328) ∧ ∀ i, i < wyN (pG (lP L j)) (hashC (leafF (lK L j) (lV L j))) (lN L j) c (lI L j) → (stG (wyT (pG (lP L j)) (hashC (leafF (lK L j) (lV L j))) (lN L j) c (lI L j)) i).length = 1 from ⟨by rw [hWn]; omega, fun _ _ => rfl⟩) fun _ => ?_
          refine Need.mk (show eightPre c from ⟨by omega, by omega⟩) fun _ => Need.mk (by show (1 : Int) + 8 ≤ 9223372036854775807; decide) fun _ => Need.mk hFo fun _ => Need.mk (by show (9 : Int) + 32 ≤ 9223372036854775807; decide) fun _ => ?_
          refine Need.mk ⟨Nat.le_trans (Nat.le_of_eq (congrArg (· + 1) hPQ)) (by show (shJN c L j).succ + wyN (pG (lP L j)) (hashC (leafF (lK L j) (lV L j))) (lN L j) c (lI L j) + 1 ≤ _; rw [hWn]; omega), Nat.le_trans (Nat.le_of_eq (congrArg (fun x => (x + 1) * 16) hPQ)) (by show ((shJN c L j).succ + wyN (pG (lP L j)) (hashC (leafF (lK L j) (lV L j))) (lN L j) c (lI L j) + 1) * 16 ≤ _; rw [hWn]; omega)⟩ fun _ => ?_
          refine Need.mk (by unfold fitStd; omega) fun _ => ?_
          refine ⟨⟨j + 1, by omega, hle2⟩, [0, 1, 12], (by show n - (j + 1) < n - j; omega), ?_⟩
          refine ⟨rfl, (by decide), ?_, ?_⟩ <;> repeat' (first | exact trivial | exact hO1 | exact hO2 | exact rfl | apply And.intro | exact (fun _ _ _ _ => Cell.le_refl _) | (intro i hi; rfl) | (intro i hi; exact absurd hi (Nat.not_lt_zero _)))
      · have h : ¬ (j : Int) < (@Nat.cast Int instNatCastInt n) := of_decide_eq_false (p := (j : Int) < (n : Int)) h
        obtain rfl : j = n := by have : ¬ j < n := fun q => h (Int.ofNat_lt.mpr q)
                                 omega
        have hE : shJ c L j = shwT c L := by rw [← hL]; exact shJ_all hmay
        have hEn : shwN c L = shJN c L j := by unfold shwN shJN; rw [hE]
        rw [hEn, ← hE]
        exact Or.inl ⟨[0, 2], ⟨rfl, (by repeat' (first | exact trivial | exact rfl | apply And.intro | exact (fun _ _ _ _ => Cell.le_refl _) | (intro i hi; rfl) | (intro i hi; exact absurd hi (Nat.not_lt_zero _)))), (by show List.Nodup [2]; decide), rfl, by repeat' (first | exact trivial | exact rfl | apply And.intro | exact (fun _ _ _ _ => Cell.le_refl _) | (intro i hi; rfl) | (intro i hi; exact absurd hi (Nat.not_lt_zero _)))⟩⟩

end Go.Proofs.YthomoliklfmnkaaDoor.Vx
end
