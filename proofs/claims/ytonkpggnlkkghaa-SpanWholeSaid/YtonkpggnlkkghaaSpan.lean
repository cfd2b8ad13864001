/- Ranges of numbers, plainly. -/
import Derived.WalkKit
namespace Go.Proofs.Ytonkpggnlkkghaa
set_option linter.unusedVariables false
set_option linter.unusedSimpArgs false
namespace Span
abbrev Rg := Int × Int
def mayN (n : Int) : Bool := decide (0 ≤ n) && decide (n ≤ 72057594037927935)
theorem mayN_iff {n : Int} : mayN n = true ↔ 0 ≤ n ∧ n ≤ 72057594037927935 := by simp [mayN]
/-- Whether the range at a place is as it must be behind the one ahead of it. -/
def okAt (l : List Rg) (i : Nat) : Bool := mayN (l.getD i (0, 0)).1 && mayN (l.getD i (0, 0)).2 && decide ((l.getD i (0, 0)).1 ≤ (l.getD i (0, 0)).2) && (decide (i = 0) || decide (2 ≤ (l.getD i (0, 0)).1 - (l.getD (i - 1) (0, 0)).2))
def good (l : List Rg) : Bool := (List.range l.length).all (okAt l)
theorem good_iff {l : List Rg} : good l = true ↔ ∀ i, i < l.length → okAt l i = true := by simp [good, List.all_eq_true]
theorem good_at {l : List Rg} {i : Nat} (hi : i < l.length) (h : okAt l i = false) : good l = false := by
  rw [Bool.eq_false_iff]
  intro h2
  rw [good_iff.1 h2 i hi] at h
  cases h
theorem okAt_iff {l : List Rg} {i : Nat} : okAt l i = true ↔ (0 ≤ (l.getD i (0, 0)).1 ∧ (l.getD i (0, 0)).1 ≤ (l.getD i (0, 0)).2 ∧ (l.getD i (0, 0)).2 ≤ 72057594037927935) ∧ (i = 0 ∨ 2 ≤ (l.getD i (0, 0)).1 - (l.getD (i - 1) (0, 0)).2) := by
  simp only [okAt, Bool.and_eq_true, mayN_iff, decide_eq_true_iff, Bool.or_eq_true]
  omega
/-- One more number. -/
def step (l : List Rg) (n : Int) : List Rg :=
  if mayN n then
    if 0 < l.length ∧ n - (l.getD (l.length - 1) (0, 0)).2 < 2 then l.set (l.length - 1) ((l.getD (l.length - 1) (0, 0)).1, n) else l ++ [(n, n)]
  else l
def ofL (s : List Int) : List Rg := s.foldl step []
def runR (r : Rg) : List Int := (List.range (r.2 + 1 - r.1).toNat).map fun i => r.1 + ((i : Nat) : Int)
def runs (l : List Rg) : List Int := l.flatMap runR
def count (l : List Rg) : Int := (l.map fun r => r.2 - r.1 + 1).sum
theorem runs_app (l m : List Rg) : runs (l ++ m) = runs l ++ runs m := by simp [runs]
theorem runs_one (r : Rg) : runs [r] = runR r := by simp [runs]
theorem mem_runR {r : Rg} {n : Int} : n ∈ runR r ↔ r.1 ≤ n ∧ n ≤ r.2 := by
  simp only [runR, List.mem_map, List.mem_range]
  constructor
  · rintro ⟨i, hi, rfl⟩; omega
  · intro h; exact ⟨(n - r.1).toNat, by omega, by omega⟩
theorem runR_succ {a b : Int} (h : a ≤ b) : runR (a, b + 1) = runR (a, b) ++ [b + 1] := by
  have e : (b + 1 + 1 - a).toNat = (b + 1 - a).toNat + 1 := by omega
  unfold runR
  simp only [e, List.range_succ, List.map_append, List.map_cons, List.map_nil]
  congr 2
  omega
theorem runR_self (a : Int) : runR (a, a) = [a] := by
  have e : (a + 1 - a).toNat = 1 := by omega
  unfold runR
  simp [e, List.range_succ]
theorem runR_len {r : Rg} (h : r.1 ≤ r.2) : ((runR r).length : Int) = r.2 - r.1 + 1 := by
  simp only [runR, List.length_map, List.length_range]
  omega
theorem count_len {l : List Rg} (h : ∀ r ∈ l, r.1 ≤ r.2) : count l = ((runs l).length : Int) := by
  induction l with
  | nil => rfl
  | cons r l ih =>
    have h1 := runR_len (h r (by simp))
    have h2 := ih fun x hx => h x (by simp [hx])
    simp only [count, List.map_cons, List.sum_cons] at h2 ⊢
    rw [h2]
    simp only [runs, List.flatMap_cons, List.length_append] at h1 ⊢
    omega
/-- What stands when the numbers of p, which rise, have been taken. -/
structure Inv (l : List Rg) (p : List Int) : Prop where
  ok : ∀ r ∈ l, 0 ≤ r.1 ∧ r.1 ≤ r.2 ∧ r.2 ≤ 72057594037927935
  gap : ∀ i, i + 1 < l.length → 2 ≤ (l.getD (i + 1) (0, 0)).1 - (l.getD i (0, 0)).2
  mem : ∀ n, n ∈ runs l ↔ n ∈ p ∧ mayN n = true
  up : (runs l).Pairwise (· < ·)
  last : 0 < l.length → ∀ n ∈ runs l, n ≤ (l.getD (l.length - 1) (0, 0)).2
  len : (runs l).length ≤ p.length
theorem Inv.nil : Inv [] [] := ⟨fun r h => by simp at h, fun i h => by simp at h, fun n => by simp [runs], by simp [runs], fun h => by simp at h, by simp [runs]⟩
theorem getD_snoc {l : List Rg} {r : Rg} {i : Nat} : (l ++ [r]).getD i (0, 0) = if i < l.length then l.getD i (0, 0) else if i = l.length then r else (0, 0) := by
  rcases Nat.lt_trichotomy i l.length with h | h | h
  · rw [if_pos h]; simp [List.getD, List.getElem?_append_left h]
  · subst h; simp [List.getD]
  · rw [if_neg (by omega), if_neg (by omega), List.getD_eq_getElem?_getD, List.getElem?_eq_none (by simp; omega)]; rfl
theorem last_of {l : List Rg} (h : 0 < l.length) : ∃ m a b, l = m ++ [(a, b)] ∧ l.getD (l.length - 1) (0, 0) = (a, b) ∧ l.length = m.length + 1 := by
  rcases List.eq_nil_or_concat l with e | ⟨m, r, e⟩
  · subst e; simp at h
  · obtain ⟨a, b⟩ := r
    have e2 : l = m ++ [(a, b)] := by rw [e, List.concat_eq_append]
    refine ⟨m, a, b, e2, ?_, by rw [e2]; simp⟩
    rw [e2, getD_snoc]
    simp
theorem Inv.push {l : List Rg} {p : List Int} (h : Inv l p) (n : Int) (hn : mayN n = true) (hp : ∀ x ∈ p, x ≤ n) (hg : 0 < l.length → 2 ≤ n - (l.getD (l.length - 1) (0, 0)).2) : Inv (l ++ [(n, n)]) (p ++ [n]) := by
  have hb := mayN_iff.1 hn
  have er : runs (l ++ [(n, n)]) = runs l ++ [n] := by rw [runs_app, runs_one, runR_self]
  have hlt : ∀ x ∈ runs l, x < n := fun x hx => by
    by_cases h0 : 0 < l.length
    · have := h.last h0 x hx; have := hg h0; omega
    · have : l = [] := List.eq_nil_of_length_eq_zero (by omega)
      subst this; simp [runs] at hx
  refine ⟨fun r hr => ?_, fun i hi => ?_, fun x => ?_, ?_, fun _ x hx => ?_, ?_⟩
  · rcases List.mem_append.1 hr with h1 | h1
    · exact h.ok r h1
    · rw [List.mem_singleton.1 h1]; simp only; omega
  · rw [getD_snoc, getD_snoc]
    simp only [List.length_append, List.length_singleton] at hi
    rw [if_pos (show i < l.length by omega)]
    by_cases h1 : i + 1 < l.length
    · rw [if_pos h1]; exact h.gap i h1
    · have e : i + 1 = l.length := by omega
      rw [if_neg h1, if_pos e]
      have := hg (by omega)
      rw [show l.length - 1 = i by omega] at this
      exact this
  · rw [er, List.mem_append, List.mem_append, h.mem x, List.mem_singleton]
    constructor
    · rintro (⟨a, b⟩ | rfl)
      · exact ⟨Or.inl a, b⟩
      · exact ⟨Or.inr rfl, hn⟩
    · rintro ⟨a | rfl, b⟩
      · exact Or.inl ⟨a, b⟩
      · exact Or.inr rfl
  · rw [er, List.pairwise_append]
    exact ⟨h.up, by simp, fun a ha b hb => by rw [List.mem_singleton.1 hb]; exact hlt a ha⟩
  · rw [er] at hx
    rw [getD_snoc]
    simp only [List.length_append, List.length_singleton, Nat.add_sub_cancel, Nat.lt_irrefl, if_false, if_true]
    rcases List.mem_append.1 hx with h1 | h1
    · have := hlt x h1; omega
    · rw [List.mem_singleton.1 h1]; exact Int.le_refl _
  · rw [er, List.length_append, List.length_append]; have := h.len; simp; omega
theorem Inv.skip {l : List Rg} {p : List Int} (h : Inv l p) (n : Int) (hn : mayN n = false) : Inv l (p ++ [n]) := by
  refine ⟨h.ok, h.gap, fun x => ?_, h.up, h.last, by have := h.len; simp; omega⟩
  rw [h.mem x, List.mem_append, List.mem_singleton]
  constructor
  · rintro ⟨a, b⟩; exact ⟨Or.inl a, b⟩
  · rintro ⟨a | rfl, b⟩
    · exact ⟨a, b⟩
    · rw [hn] at b; cases b
theorem Inv.step {l : List Rg} {p : List Int} (h : Inv l p) (n : Int) (hp : ∀ x ∈ p, x ≤ n) : Inv (Span.step l n) (p ++ [n]) := by
  unfold Span.step
  by_cases hn : mayN n = true
  · rw [if_pos hn]
    by_cases hc : 0 < l.length ∧ n - (l.getD (l.length - 1) (0, 0)).2 < 2
    · rw [if_pos hc]
      obtain ⟨m, a, b, rfl, e2, e3⟩ := last_of hc.1
      rw [e2] at hc ⊢
      have hab := h.ok (a, b) (by simp)
      simp only at hab hc
      have hb := mayN_iff.1 hn
      have hbm : b ∈ runs (m ++ [(a, b)]) := by rw [runs_app, runs_one]; exact List.mem_append.2 (Or.inr (mem_runR.2 ⟨hab.2.1, Int.le_refl _⟩))
      have hbn : b ≤ n := hp b ((h.mem b).1 hbm).1
      have es : (m ++ [(a, b)]).set ((m ++ [(a, b)]).length - 1) (a, n) = m ++ [(a, n)] := by simp [List.set_append_right]
      rw [es]
      by_cases hbe : n = b
      · subst hbe
        refine ⟨h.ok, h.gap, fun x => ?_, h.up, h.last, by have := h.len; rw [List.length_append]; simp at this ⊢; omega⟩
        rw [h.mem x, List.mem_append, List.mem_singleton]
        constructor
        · rintro ⟨a, b⟩; exact ⟨Or.inl a, b⟩
        · rintro ⟨a | rfl, b⟩
          · exact ⟨a, b⟩
          · exact (h.mem _).1 hbm
      · obtain rfl : n = b + 1 := by omega
        have er : runs (m ++ [(a, b + 1)]) = runs (m ++ [(a, b)]) ++ [b + 1] := by rw [runs_app, runs_app, runs_one, runs_one, runR_succ hab.2.1, List.append_assoc]
        have hlast := h.last (by simp)
        rw [e2] at hlast
        simp only at hlast
        refine ⟨fun r hr => ?_, fun i hi => ?_, fun x => ?_, ?_, fun _ x hx => ?_, ?_⟩
        · rcases List.mem_append.1 hr with h1 | h1
          · exact h.ok r (List.mem_append.2 (Or.inl h1))
          · rw [List.mem_singleton.1 h1]; simp only; omega
        · have := h.gap i (by simpa using hi)
          rw [getD_snoc, getD_snoc] at this ⊢
          simp only [List.length_append, List.length_singleton] at hi
          rw [if_pos (show i < m.length by omega)] at this ⊢
          by_cases h1 : i + 1 < m.length
          · rw [if_pos h1] at this ⊢; exact this
          · rw [if_neg h1, if_pos (show i + 1 = m.length by omega)] at this ⊢; exact this
        · rw [er, List.mem_append, List.mem_append, h.mem x, List.mem_singleton]
          constructor
          · rintro (⟨a, b⟩ | rfl)
            · exact ⟨Or.inl a, b⟩
            · exact ⟨Or.inr rfl, hn⟩
          · rintro ⟨a | rfl, b⟩
            · exact Or.inl ⟨a, b⟩
            · exact Or.inr rfl
        · rw [er, List.pairwise_append]
          exact ⟨h.up, by simp, fun x hx y hy => by rw [List.mem_singleton.1 hy]; have := hlast x hx; omega⟩
        · rw [er] at hx
          rw [getD_snoc]
          simp only [List.length_append, List.length_singleton, Nat.add_sub_cancel, Nat.lt_irrefl, if_false, if_true]
          rcases List.mem_append.1 hx with h1 | h1
          · have := hlast x h1; omega
          · rw [List.mem_singleton.1 h1]; exact Int.le_refl _
        · rw [er, List.length_append, List.length_append]; have := h.len; simp at this ⊢; omega
    · rw [if_neg hc]
      exact h.push n hn hp fun h0 => by omega
  · rw [if_neg hn]
    exact h.skip n (by simpa using hn)
theorem Inv.foldl {l : List Rg} {p s : List Int} (h : Inv l p) (hs : (p ++ s).Pairwise (· ≤ ·)) : Inv (s.foldl Span.step l) (p ++ s) := by
  induction s generalizing l p with
  | nil => simpa using h
  | cons n s ih =>
    rw [List.foldl_cons, show p ++ n :: s = (p ++ [n]) ++ s by simp]
    refine ih (h.step n fun x hx => ?_) (by simpa using hs)
    rw [List.pairwise_append] at hs
    exact hs.2.2 x hx n (by simp)
theorem ofL_inv {s : List Int} (hs : s.Pairwise (· ≤ ·)) : Inv (ofL s) s := by
  have := Inv.foldl (l := []) (p := []) (s := s) Inv.nil (by simpa using hs)
  simpa [ofL] using this
theorem Inv.good {l : List Rg} {p : List Int} (h : Inv l p) : Span.good l = true := by
  rw [good_iff]
  intro i hi
  rw [okAt_iff]
  have hm : l.getD i (0, 0) ∈ l := by rw [List.getD_eq_getElem?_getD, List.getElem?_eq_getElem hi]; exact List.getElem_mem hi
  have := h.ok _ hm
  refine ⟨by omega, ?_⟩
  rcases Nat.eq_zero_or_pos i with h0 | h0
  · exact Or.inl h0
  · have := h.gap (i - 1) (by omega)
    rw [show i - 1 + 1 = i by omega] at this
    exact Or.inr this
end Span
end Go.Proofs.Ytonkpggnlkkghaa
