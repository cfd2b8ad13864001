/- Proofs copied, by the walker. -/
import Derived.Test.YthomoliklfmnkaaDoorM26
section
namespace Go.Proofs.YthomoliklfmnkaaDoor.Vx
open Go.RowKit
set_option linter.unusedVariables false
set_option linter.unusedSimpArgs false
theorem four {j : Nat} (h : j < 4) : j = 0 ∨ j = 1 ∨ j = 2 ∨ j = 3 := by omega


end Go.Proofs.YthomoliklfmnkaaDoor.Vx
end

section
/- What the proof of a key shows, plainly. -/
namespace Go.Proofs.YthomoliklfmnkaaDoor.Vx
open Sha
open Go.RowKit
set_option linter.unusedVariables false
set_option linter.unusedSimpArgs false
/-- Does a leaf of a proof stand under a root? -/
def stX (f : Nat → Int) (c : Int) (x : PLeaf) : Bool := fdB x.p.length c x.i && eqH (rootF c (hashB (fdH (pG x.p) (hashC (leafF x.k x.v)) x.p.length c x.i))) f
def stAt (f : Nat → Int) (c : Int) (L : List PLeaf) (i : Nat) : Bool := stX f c (L.getD i .none)
def underB (f : Nat → Int) (c : Int) (L : List PLeaf) : Bool := (List.range L.length).all (stAt f c L)
def valB (f : Nat → Int) (c : Int) (L : List PLeaf) (k : List UInt8) : Bool := mayL c L && (decide (L.length = 1) && (decide (lK L 0 = k) && underB f c L))
def valV (f : Nat → Int) (c : Int) (L : List PLeaf) (k : List UInt8) : List UInt8 := if valB f c L k = true then lV L 0 else []
def lackE (f : Nat → Int) (c : Int) (L : List PLeaf) (k : List UInt8) : Bool :=
  if L.length = 0 then decide (c = 0) && eqH f (rootF 0 (hashB fun _ => 0))
  else if L.length = 1 then (decide (lI L 0 = 0) && ltB k (lK L 0)) || (decide (lI L 0 = c - 1) && ltB (lK L 0) k)
  else decide (lI L 1 - lI L 0 = 1) && (ltB (lK L 0) k && ltB k (lK L 1))
def lackB (f : Nat → Int) (c : Int) (L : List PLeaf) (k : List UInt8) : Bool := mayL c L && (underB f c L && lackE f c L k)
theorem hashB_eqH {f g : Nat → Int} (h : eqH f g = true) : hashB f = hashB g := by
  unfold hashB
  exact List.map_congr_left fun j hj => by rw [eqH_iff.1 h j (List.mem_range.1 hj)]
theorem fdH_way {L : List PP} {i : Nat} {leaf : List CV} {c j : Int} : fdH (pG (wyL L i)) leaf (wyL L i).length c j = fdH (hashesG (wayG (lfG L) L.length (i : Int))) leaf (wayG (lfG L) L.length (i : Int)).length c j := by
  rw [wyL_len]
  unfold fdH
  split
  · unfold foldG
    exact foldR_congr _ _ _ _ fun m hm => by rw [pG_way hm]
  · rfl
theorem lfG_hOf (L : List PP) : (fun i => hashC (hOf (lfG L i))) = lfG L := rfl
/-- A leaf that was made stands under the root. -/
theorem stX_mk {L : List PP} (h40 : L.length ≤ 40) {i : Nat} (hi : i < L.length) : stX (rootL L) L.length (mkLeaf L i) = true := by
  obtain ⟨q1, _, _, _, _, _, hB, _⟩ := foldsFacts (m := L.length) (gets := lfG L) (i := (i : Int)) (f := fun _ => 0) (U := fun j => if j = i then hashC (fun _ => 0) else hashC (hOf (lfG L j))) (lfG_hash L L.length) (fun _ => by omega) (by omega) (by omega) h40 (fun j _ => by rw [Int.toNat_natCast])
  rw [lfG_hOf] at q1 hB
  unfold stX
  rw [Bool.and_eq_true]
  refine ⟨by show fdB (wyL L i).length _ _ = true; rw [wyL_len]; exact hB, eqH_of ?_⟩
  show rootF _ (hashB (fdH (pG (wyL L i)) (hashC (leafF (prK L i) (prV L i))) (wyL L i).length _ _)) = _
  rw [fdH_way]
  have e : hashB (fdH (hashesG (wayG (lfG L) L.length (i : Int))) (hashC (leafF (prK L i) (prV L i))) (wayG (lfG L) L.length (i : Int)).length L.length (i : Int)) = hashB (topG (lfG L) L.length) := hashB_eqH q1
  exact (congrArg (rootF L.length) e).trans rfl
theorem mkL_leaves {L : List PP} {k : List UInt8} {j : Nat} (hj : j < (mkL L k).length) : ∃ i, i < L.length ∧ (mkL L k).getD j .none = mkLeaf L i := by
  obtain ⟨_, i, hi, e⟩ := mkL_mem (List.getElem_mem hj)
  exact ⟨i, hi, by rw [List.getD_eq_getElem?_getD, List.getElem?_eq_getElem hj]; exact e⟩
theorem under_mk {L : List PP} {k : List UInt8} (h40 : L.length ≤ 40) : underB (rootL L) L.length (mkL L k) = true := by
  unfold underB
  rw [List.all_eq_true]
  intro j hj
  obtain ⟨i, hi, e⟩ := mkL_leaves (List.mem_range.1 hj)
  unfold stAt
  rw [e]
  exact stX_mk h40 hi
theorem wyL_deep {L : List PP} {i : Nat} (hm : L.length ≤ 1000000) : ((wyL L i).length : Int) = deep L.length i := by
  rw [wyL_len]
  exact way_len _ _ 0 _ (by omega)
theorem may_mk {L : List PP} {k : List UInt8} (hm : L.length ≤ 1000000) : mayL L.length (mkL L k) = true := by
  refine mayL_yes (j := (mkL L k).length) ⟨by omega, by omega, mkL_len⟩ (fun j hj => ?_) (Nat.le_refl _)
  obtain ⟨i, hi, e⟩ := mkL_leaves hj
  have hz := (goodL_iff.1 (mkL_mem (List.getElem_mem hj)).1).2
  have hsz := szB_iff.1 (hz.at hi)
  have e1 : lK (mkL L k) j = prK L i := by unfold lK; rw [e]; rfl
  have e2 : lV (mkL L k) j = prV L i := by unfold lV; rw [e]; rfl
  have e3 : lI (mkL L k) j = (i : Int) := by unfold lI; rw [e]; rfl
  have e4 : lN (mkL L k) j = (wyL L i).length := by unfold lN lP; rw [e]; rfl
  refine mayAt_iff.2 ?_
  rw [e1, e2, e3, e4, wyL_deep hm]
  exact ⟨hsz, by omega, by omega, rfl⟩
theorem valB_mk {L : List PP} {k : List UInt8} (hg : goodL L = true) (h40 : L.length ≤ 40) : valB (rootL L) L.length (mkL L k) k = findB L k := by
  unfold valB
  rw [may_mk (by omega), under_mk h40, Bool.true_and, Bool.and_true]
  cases hf : findB L k with
  | true =>
    have e : mkL L k = [mkLeaf L (findI L k)] := by unfold mkL; rw [if_pos hg, if_pos hf]
    rw [e]
    have h2 := (findB_eq hf).2
    show (decide (1 = 1) && decide (prK L (findI L k) = k)) = true
    rw [h2]
    simp
  | false =>
    rw [Bool.and_eq_false_iff]
    by_cases h1 : (mkL L k).length = 1
    · refine Or.inr (decide_eq_false ?_)
      intro h3
      have hle := findI_le (L := L) (k := k)
      have key : ∀ i, i < L.length → prK L i ≠ k := fun i hi hk => by
        have hmem := mem_findB (goodL_iff.1 hg).1 (List.getElem_mem hi)
        rw [← prK_eq hi, hk, hf] at hmem
        cases hmem.1
      obtain ⟨i, hi, e⟩ := mkL_leaves (L := L) (k := k) (j := 0) (by omega)
      have e1 : lK (mkL L k) 0 = prK L i := by unfold lK; rw [e]; rfl
      exact key i hi (e1 ▸ h3)
    · exact Or.inl (decide_eq_false h1)
theorem valV_mk {L : List PP} {k : List UInt8} (hg : goodL L = true) (h40 : L.length ≤ 40) : valV (rootL L) L.length (mkL L k) k = getL L k := by
  unfold valV getL
  rw [valB_mk hg h40]
  cases hf : findB L k with
  | true =>
    have e : mkL L k = [mkLeaf L (findI L k)] := by unfold mkL; rw [if_pos hg, if_pos hf]
    rw [e]
    rfl
  | false => rfl
theorem lackB_mk {L : List PP} {k : List UInt8} (hg : goodL L = true) (h40 : L.length ≤ 40) : lackB (rootL L) L.length (mkL L k) k = !findB L k := by
  have hle := findI_le (L := L) (k := k)
  unfold lackB
  rw [may_mk (by omega), under_mk h40, Bool.true_and, Bool.true_and]
  cases hf : findB L k with
  | true =>
    have e : mkL L k = [mkLeaf L (findI L k)] := by unfold mkL; rw [if_pos hg, if_pos hf]
    have h2 := (findB_eq hf).2
    rw [e]
    unfold lackE
    rw [if_neg (show ¬ [mkLeaf L (findI L k)].length = 0 from Nat.one_ne_zero), if_pos (show [mkLeaf L (findI L k)].length = 1 from rfl)]
    show (decide ((findI L k : Int) = 0) && ltB k (prK L (findI L k)) || decide ((findI L k : Int) = L.length - 1) && ltB (prK L (findI L k)) k) = false
    rw [h2, lt_irr]
    simp
  | false =>
    have hst : findI L k < L.length → ltB k (prK L (findI L k)) = true := fun hi => by
      cases h : ltB k (prK L (findI L k)) with
      | true => rfl
      | false =>
        have h2 := lt_total h (findI_stop hi)
        unfold findB at hf
        rw [decide_eq_true hi, decide_eq_true h2.symm] at hf
        cases hf
    show lackE _ _ _ _ = true
    unfold mkL
    rw [if_pos hg, hf, if_neg (by simp)]
    by_cases h0 : 0 < findI L k
    · rw [if_pos h0]
      have hlo := findI_lt (L := L) (k := k) (i := findI L k - 1) (by omega)
      by_cases h1 : findI L k < L.length
      · rw [if_pos h1]
        unfold lackE
        rw [if_neg (by simp), if_neg (by simp)]
        show (decide ((findI L k : Int) - ((findI L k - 1 : Nat) : Int) = 1) && (ltB (prK L (findI L k - 1)) k && ltB k (prK L (findI L k)))) = true
        rw [hlo, hst h1, decide_eq_true (by omega)]
        rfl
      · rw [if_neg h1]
        unfold lackE
        rw [if_neg (by simp), if_pos (by simp)]
        show (decide (((findI L k - 1 : Nat) : Int) = 0) && ltB k (prK L (findI L k - 1)) || decide (((findI L k - 1 : Nat) : Int) = L.length - 1) && ltB (prK L (findI L k - 1)) k) = true
        rw [hlo, decide_eq_true (p := ((findI L k - 1 : Nat) : Int) = L.length - 1) (by omega)]
        simp
    · rw [if_neg h0]
      have e0 : findI L k = 0 := by omega
      by_cases h1 : findI L k < L.length
      · rw [if_pos h1]
        unfold lackE
        rw [if_neg (by simp), if_pos (by simp)]
        show (decide ((findI L k : Int) = 0) && ltB k (prK L (findI L k)) || decide ((findI L k : Int) = L.length - 1) && ltB (prK L (findI L k)) k) = true
        rw [hst h1, decide_eq_true (p := (findI L k : Int) = 0) (by omega)]
        simp
      · rw [if_neg h1]
        unfold lackE
        have hn : L.length = 0 := by omega
        rw [if_pos (by simp), decide_eq_true (by omega), Bool.true_and]
        refine eqH_of ?_
        unfold rootL
        rw [hn, u8s_hash, topG_zero]
        rfl
end Go.Proofs.YthomoliklfmnkaaDoor.Vx
end
