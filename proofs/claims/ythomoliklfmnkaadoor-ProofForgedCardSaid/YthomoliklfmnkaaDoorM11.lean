/- Pairs of texts in order, plainly. -/
import Derived.Test.YthomoliklfmnkaaDoorM1
import Derived.Lib.Bytealg
import Derived.Test.YthomoliklfmnkaaDoorVxLive
import Derived.Test.YthomoliklfmnkaaDoorM10
import Derived.Test.YthomoliklfmnkaaDoorM8
section
namespace Go.Proofs.YthomoliklfmnkaaDoor.Vx
open Go.RowKit
set_option linter.unusedVariables false
set_option linter.unusedSimpArgs false
abbrev PP := List UInt8 × List UInt8
def prK (L : List PP) (i : Nat) : List UInt8 := (L.getD i ([], [])).1
def prV (L : List PP) (i : Nat) : List UInt8 := (L.getD i ([], [])).2
theorem prK_eq {L : List PP} {i : Nat} (h : i < L.length) : prK L i = L[i].1 := by simp [prK, List.getD, h]
theorem prV_eq {L : List PP} {i : Nat} (h : i < L.length) : prV L i = L[i].2 := by simp [prV, List.getD, h]
/-- One text ahead of another. -/
def ltB (a b : List UInt8) : Bool := Op.bytesLess a b
theorem lt_irr (l : List UInt8) : ltB l l = false := by
  unfold ltB
  induction l with
  | nil => rfl
  | cons a l ih => simp [Op.bytesLess, UInt8.lt_irrefl, ih]
theorem lt_trans : ∀ {l m k : List UInt8}, ltB l m = true → ltB m k = true → ltB l k = true
  | [], m, [], h1, h2 => by
    unfold ltB at h1 h2
    cases m <;> simp [Op.bytesLess] at h1 h2
  | [], _, _ :: _, _, _ => rfl
  | _ :: _, [], _, h1, _ => by simp [ltB, Op.bytesLess] at h1
  | _ :: _, _ :: _, [], _, h2 => by simp [ltB, Op.bytesLess] at h2
  | a :: x, b :: y, c :: z, h1, h2 => by
    have ih := @lt_trans x y z
    unfold ltB at h1 h2 ih ⊢
    simp only [Op.bytesLess, Bool.or_eq_true, Bool.and_eq_true, decide_eq_true_iff, beq_iff_eq] at h1 h2 ⊢
    rcases h1 with h1 | ⟨rfl, h1⟩
    · rcases h2 with h2 | ⟨rfl, h2⟩
      · exact Or.inl (UInt8.lt_trans h1 h2)
      · exact Or.inl h1
    · rcases h2 with h2 | ⟨rfl, h2⟩
      · exact Or.inl h2
      · exact Or.inr ⟨rfl, ih h1 h2⟩
theorem lt_total {l m : List UInt8} (h1 : ltB l m = false) (h2 : ltB m l = false) : l = m := by
  have := bytesLess_total l m
  unfold ltB at h1 h2
  rw [h1, h2] at this
  simpa using this
theorem lt_asym {l m : List UInt8} (h : ltB l m = true) : ltB m l = false := by
  cases h2 : ltB m l
  · rfl
  · have := lt_trans h h2
    rw [lt_irr] at this
    cases this
/-- The keys rise. -/
def StS (L : List PP) : Prop := L.Pairwise fun a b => ltB a.1 b.1 = true
theorem StS.at {L : List PP} (h : StS L) {i j : Nat} (hij : i < j) (hj : j < L.length) : ltB (prK L i) (prK L j) = true := by
  rw [prK_eq (by omega), prK_eq hj]
  exact List.pairwise_iff_getElem.1 h i j (by omega) hj hij
/-- Where a key stands, or would. -/
def findI (L : List PP) (k : List UInt8) : Nat := (L.takeWhile fun p => ltB p.1 k).length
def findB (L : List PP) (k : List UInt8) : Bool := decide (findI L k < L.length) && decide (prK L (findI L k) = k)
theorem findI_le {L : List PP} {k : List UInt8} : findI L k ≤ L.length := (List.takeWhile_sublist _).length_le
theorem findI_lt : ∀ {L : List PP} {k : List UInt8} {i : Nat}, i < findI L k → ltB (prK L i) k = true
  | [], k, i, h => by simp [findI] at h
  | p :: L, k, i, h => by
    unfold findI at h
    rw [List.takeWhile_cons] at h
    split at h
    · rename_i hp
      cases i with
      | zero => exact hp
      | succ i => exact findI_lt (L := L) (k := k) (i := i) (by simpa [findI] using h)
    · simp at h
theorem findI_stop : ∀ {L : List PP} {k : List UInt8}, findI L k < L.length → ltB (prK L (findI L k)) k = false
  | [], k, h => by simp at h
  | p :: L, k, h => by
    have e : findI (p :: L) k = if ltB p.1 k = true then findI L k + 1 else 0 := by
      unfold findI
      rw [List.takeWhile_cons]
      split <;> simp
    by_cases hp : ltB p.1 k = true
    · rw [if_pos hp] at e
      rw [e] at h ⊢
      exact findI_stop (L := L) (k := k) (by simpa using h)
    · rw [if_neg hp] at e
      rw [e]
      show ltB p.1 k = false
      simpa using hp
/-- What lies behind is not ahead of the key. -/
theorem findI_ge {L : List PP} {k : List UInt8} (hs : StS L) {i : Nat} (h1 : findI L k ≤ i) (h2 : i < L.length) : ltB (prK L i) k = false := by
  rcases Nat.eq_or_lt_of_le h1 with h3 | h3
  · rw [← h3]
    exact findI_stop (by omega)
  · have h4 := findI_stop (L := L) (k := k) (by omega)
    cases h5 : ltB (prK L i) k
    · rfl
    · have h6 := lt_trans (hs.at h3 h2) h5
      rw [h6] at h4
      cases h4
theorem findI_uniq {L : List PP} {k : List UInt8} (hs : StS L) {i : Nat} (h0 : i ≤ L.length) (h1 : ∀ j, j < i → ltB (prK L j) k = true) (h2 : ∀ j, i ≤ j → j < L.length → ltB (prK L j) k = false) : findI L k = i := by
  rcases Nat.lt_trichotomy (findI L k) i with h | h | h
  · have := h1 _ h
    rw [findI_stop (by omega)] at this
    cases this
  · exact h
  · have := findI_lt h
    have h3 : i < L.length := Nat.lt_of_lt_of_le h findI_le
    rw [h2 i (Nat.le_refl _) h3] at this
    cases this
def szB (k v : List UInt8) : Bool := decide (1 ≤ k.length) && decide (k.length ≤ 160) && (decide (1 ≤ v.length) && decide (v.length ≤ 64))
def setL (L : List PP) (k v : List UInt8) : List PP := if findB L k = true then L.set (findI L k) (k, v) else L.take (findI L k) ++ (k, v) :: L.drop (findI L k)
def putS (L : List PP) (k v : List UInt8) : List PP := if szB k v = true then setL L k v else L
def getL (L : List PP) (k : List UInt8) : List UInt8 := if findB L k = true then prV L (findI L k) else []
theorem findB_eq {L : List PP} {k : List UInt8} (h : findB L k = true) : findI L k < L.length ∧ prK L (findI L k) = k := by
  unfold findB at h
  simpa using h
theorem setL_len {L : List PP} {k v : List UInt8} : (setL L k v).length = if findB L k = true then L.length else L.length + 1 := by
  unfold setL
  split
  · simp
  · have := findI_le (L := L) (k := k)
    simp
    omega
theorem sts_ins {L : List PP} {k v : List UInt8} (hs : StS L) (h : findB L k ≠ true) : StS (L.take (findI L k) ++ (k, v) :: L.drop (findI L k)) := by
  have hle := findI_le (L := L) (k := k)
  unfold StS
  rw [List.pairwise_append]
  refine ⟨hs.sublist (List.take_sublist _ _), ?_, ?_⟩
  · rw [List.pairwise_cons]
    refine ⟨fun b hb => ?_, hs.sublist (List.drop_sublist _ _)⟩
    obtain ⟨j, hj, rfl⟩ := List.getElem_of_mem hb
    rw [List.length_drop] at hj
    rw [List.getElem_drop, ← prK_eq (by omega)]
    have h1 := findI_ge hs (k := k) (i := findI L k + j) (by omega) (by omega)
    cases h2 : ltB k (prK L (findI L k + j))
    · have e := lt_total h1 h2
      exfalso
      cases j with
      | zero =>
        rw [Nat.add_zero] at e
        exact h (by unfold findB; rw [decide_eq_true (by omega : findI L k < L.length), decide_eq_true e]; rfl)
      | succ j =>
        have h3 := hs.at (i := findI L k) (j := findI L k + (j + 1)) (by omega) (by omega)
        rw [e] at h3
        rw [findI_stop (by omega)] at h3
        cases h3
    · rfl
  · intro a ha b hb
    obtain ⟨i, hi, rfl⟩ := List.getElem_of_mem ha
    rw [List.length_take] at hi
    rw [List.getElem_take, ← prK_eq (by omega)]
    have h1 := findI_lt (L := L) (k := k) (i := i) (by omega)
    rcases List.mem_cons.1 hb with rfl | hb
    · exact h1
    · obtain ⟨j, hj, rfl⟩ := List.getElem_of_mem hb
      rw [List.length_drop] at hj
      rw [List.getElem_drop, ← prK_eq (by omega)]
      exact hs.at (by omega) (by omega)
theorem sts_set {L : List PP} {k v : List UInt8} (hs : StS L) (h : findB L k = true) : StS (L.set (findI L k) (k, v)) := by
  obtain ⟨h1, h2⟩ := findB_eq h
  unfold StS
  rw [List.pairwise_iff_getElem]
  intro i j hi hj hij
  rw [List.length_set] at hi hj
  have key : ∀ m (hm : m < L.length), ((L.set (findI L k) (k, v))[m]'(by rw [List.length_set]; exact hm)).1 = prK L m := fun m hm => by
    rw [List.getElem_set]
    split
    · rename_i e
      rw [← e, h2]
    · exact (prK_eq hm).symm
  rw [key i hi, key j hj]
  exact hs.at hij hj
theorem setL_s {L : List PP} {k v : List UInt8} (hs : StS L) : StS (setL L k v) := by
  unfold setL
  split
  · rename_i h; exact sts_set hs h
  · rename_i h; exact sts_ins hs h
theorem putS_s {L : List PP} {k v : List UInt8} (hs : StS L) : StS (putS L k v) := by
  unfold putS
  split
  · exact setL_s hs
  · exact hs
end Go.Proofs.YthomoliklfmnkaaDoor.Vx
end

section
/- Cuts at which the entries get new numbers: what comes behind is walked once, from a state that is told. -/
namespace Go.Proofs.YthomoliklfmnkaaDoor.Vx
open Go.RowKit
set_option linter.unusedVariables false
set_option linter.unusedSimpArgs false

end Go.Proofs.YthomoliklfmnkaaDoor.Vx
end

section
/- Contracts of functions whose code is walked in parts (Runs.cut). -/
namespace Go.Proofs.YthomoliklfmnkaaDoor.Vx
open Go.RowKit
set_option linter.unusedVariables false
set_option linter.unusedSimpArgs false
end Go.Proofs.YthomoliklfmnkaaDoor.Vx
end

section
/- A state said in other words: what is said of it holds in every world and at every place; loops whose rounds end so. -/
namespace Go.Proofs.YthomoliklfmnkaaDoor.Vx
open Go.RowKit
set_option linter.unusedVariables false
set_option linter.unusedSimpArgs false
end Go.Proofs.YthomoliklfmnkaaDoor.Vx
end

section
/- Contracts of methods on a struct that holds a slice of bytes and a bool (a writer). -/
namespace Go.Proofs.YthomoliklfmnkaaDoor.Vx
open Go.RowKit
set_option linter.unusedVariables false
set_option linter.unusedSimpArgs false














end Go.Proofs.YthomoliklfmnkaaDoor.Vx
end

section
/- A function's walk whose result holds a slice literal of one element with slices: it is handed out as data. -/
namespace Go.Proofs.YthomoliklfmnkaaDoor.Vx
open Go.RowKit
set_option linter.unusedVariables false
set_option linter.unusedSimpArgs false
end Go.Proofs.YthomoliklfmnkaaDoor.Vx
end
