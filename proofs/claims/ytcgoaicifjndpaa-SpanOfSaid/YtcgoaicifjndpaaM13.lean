/- Ranges of numbers, plainly. -/
import Derived.WalkKit
import Derived.Test.YtcgoaicifjndpaaVxLive
section
namespace Go.Proofs.Ytcgoaicifjndpaa
set_option linter.unusedVariables false
set_option linter.unusedSimpArgs false
namespace Span
abbrev Rg := Int × Int
def mayN (n : Int) : Bool := decide (0 ≤ n) && decide (n ≤ 72057594037927935)
theorem mayN_iff {n : Int} : mayN n = true ↔ 0 ≤ n ∧ n ≤ 72057594037927935 := by simp [mayN]
/-- Whether the range at a place is as it must be behind the one ahead of it. -/
def okAt (l : List Rg) (i : Nat) : Bool := mayN (l.getD i (0, 0)).1 && mayN (l.getD i (0, 0)).2 && decide ((l.getD i (0, 0)).1 ≤ (l.getD i (0, 0)).2) && (decide (i = 0) || decide (2 ≤ (l.getD i (0, 0)).1 - (l.getD (i - 1) (0, 0)).2))
def good (l : List Rg) : Bool := (List.range l.length).all (okAt l)
theorem good_iff {l : List Rg} : good l = true ↔ ∀ i, i < l.length → okAt l i = true := by simp [good, List.all_eq_true]
theorem good_at {l : List Rg} {i : Nat} (hi : i < l.length) (h : okAt l i = false) : good l = false := by
  rw [Bool.eq_false_iff]
  intro h2
  rw [good_iff.1 h2 i hi] at h
  cases h
theorem okAt_iff {l : List Rg} {i : Nat} : okAt l i = true ↔ (0 ≤ (l.getD i (0, 0)).1 ∧ (l.getD i (0, 0)).1 ≤ (l.getD i (0, 0)).2 ∧ (l.getD i (0, 0)).2 ≤ 72057594037927935) ∧ (i = 0 ∨ 2 ≤ (l.getD i (0, 0)).1 - (l.getD (i - 1) (0, 0)).2) := by
  simp only [okAt, Bool.and_eq_true, mayN_iff, decide_eq_true_iff, Bool.or_eq_true]
  omega
/-- One more number. -/
def step (l : List Rg) (n : Int) : List Rg :=
  if mayN n then
    if 0 < l.length ∧ n - (l.getD (l.length - 1) (0, 0)).2 < 2 then l.set (l.length - 1) ((l.getD (l.length - 1) (0, 0)).1, n) else l ++ [(n, n)]
  else l
def ofL (s : List Int) : List Rg := s.foldl step []
def runR (r : Rg) : List Int := (List.range (r.2 + 1 - r.1).toNat).map fun i => r.1 + ((i : Nat) : Int)
def runs (l : List Rg) : List Int := l.flatMap runR
def count (l : List Rg) : Int := (l.map fun r => r.2 - r.1 + 1).sum
theorem runs_app (l m : List Rg) : runs (l ++ m) = runs l ++ runs m := by simp [runs]
theorem runs_one (r : Rg) : runs [r] = runR r := by simp [runs]
theorem mem_runR {r : Rg} {n : Int} : n ∈ runR r ↔ r.1 ≤ n ∧ n ≤ r.2 := by
  simp only [runR, List.mem_map, List.mem_range]
  constructor
  · rintro ⟨i, hi, rfl⟩; omega
  · intro h; exact ⟨(n - r.1).toNat, by omega, by omega⟩
theorem runR_succ {a b : Int} (h : a ≤ b) : runR (a, b + 1) = runR (a, b) ++ [b + 1] := by
  have e : (b + 1 + 1 - a).toNat = (b + 1 - a).toNat + 1 := by omega
  unfold runR
  simp only [e, List.range_succ, List.map_append, List.map_cons, List.map_nil]
  congr 2
  omega
theorem runR_self (a : Int) : runR (a, a) = [a] := by
  have e : (a + 1 - a).toNat = 1 := by omega
  unfold runR
  simp [e, List.range_succ]
theorem runR_len {r : Rg} (h : r.1 ≤ r.2) : ((runR r).length : Int) = r.2 - r.1 + 1 := by
  simp only [runR, List.length_map, List.length_range]
  omega
theorem count_len {l : List Rg} (h : ∀ r ∈ l, r.1 ≤ r.2) : count l = ((runs l).length : Int) := by
  induction l with
  | nil => rfl
  | cons r l ih =>
    have h1 := runR_len (h r (by simp))
    have h2 := ih fun x hx => h x (by simp [hx])
    simp only [count, List.map_cons, List.sum_cons] at h2 ⊢
    rw [h2]
    simp only [runs, List.flatMap_cons, List.length_append] at h1 ⊢
    omega
/-- What stands when the numbers of p, which rise, have been taken. -/
structure Inv (l : List Rg) (p : List Int) : Prop where
  ok : ∀ r ∈ l, 0 ≤ r.1 ∧ r.1 ≤ r.2 ∧ r.2 ≤ 72057594037927935
  gap : ∀ i, i + 1 < l.length → 2 ≤ (l.getD (i + 1) (0, 0)).1 - (l.getD i (0, 0)).2
  mem : ∀ n, n ∈ runs l ↔ n ∈ p ∧ mayN n = true
  up : (runs l).Pairwise (· < ·)
  last : 0 < l.length → ∀ n ∈ runs l, n ≤ (l.getD (l.length - 1) (0, 0)).2
  len : (runs l).length ≤ p.length
theorem Inv.nil : Inv [] [] := ⟨fun r h => by simp at h, fun i h => by simp at h, fun n => by simp [runs], by simp [runs], fun h => by simp at h, by simp [runs]⟩
theorem getD_snoc {l : List Rg} {r : Rg} {i : Nat} : (l ++ [r]).getD i (0, 0) = if i < l.length then l.getD i (0, 0) else if i = l.length then r else (0, 0) := by
  rcases Nat.lt_trichotomy i l.length with h | h | h
  · rw [if_pos h]; simp [List.getD, List.getElem?_append_left h]
  · subst h; simp [List.getD]
  · rw [if_neg (by omega), if_neg (by omega), List.getD_eq_getElem?_getD, List.getElem?_eq_none (by simp; omega)]; rfl
theorem last_of {l : List Rg} (h : 0 < l.length) : ∃ m a b, l = m ++ [(a, b)] ∧ l.getD (l.length - 1) (0, 0) = (a, b) ∧ l.length = m.length + 1 := by
  rcases List.eq_nil_or_concat l with e | ⟨m, r, e⟩
  · subst e; simp at h
  · obtain ⟨a, b⟩ := r
    have e2 : l = m ++ [(a, b)] := by rw [e, List.concat_eq_append]
    refine ⟨m, a, b, e2, ?_, by rw [e2]; simp⟩
    rw [e2, getD_snoc]
    simp
theorem Inv.push {l : List Rg} {p : List Int} (h : Inv l p) (n : Int) (hn : mayN n = true) (hp : ∀ x ∈ p, x ≤ n) (hg : 0 < l.length → 2 ≤ n - (l.getD (l.length - 1) (0, 0)).2) : Inv (l ++ [(n, n)]) (p ++ [n]) := by
  have hb := mayN_iff.1 hn
  have er : runs (l ++ [(n, n)]) = runs l ++ [n] := by rw [runs_app, runs_one, runR_self]
  have hlt : ∀ x ∈ runs l, x < n := fun x hx => by
    by_cases h0 : 0 < l.length
    · have := h.last h0 x hx; have := hg h0; omega
    · have : l = [] := List.eq_nil_of_length_eq_zero (by omega)
      subst this; simp [runs] at hx
  refine ⟨fun r hr => ?_, fun i hi => ?_, fun x => ?_, ?_, fun _ x hx => ?_, ?_⟩
  · rcases List.mem_append.1 hr with h1 | h1
    · exact h.ok r h1
    · rw [List.mem_singleton.1 h1]; simp only; omega
  · rw [getD_snoc, getD_snoc]
    simp only [List.length_append, List.length_singleton] at hi
    rw [if_pos (show i < l.length by omega)]
    by_cases h1 : i + 1 < l.length
    · rw [if_pos h1]; exact h.gap i h1
    · have e : i + 1 = l.length := by omega
      rw [if_neg h1, if_pos e]
      have := hg (by omega)
      rw [show l.length - 1 = i by omega] at this
      exact this
  · rw [er, List.mem_append, List.mem_append, h.mem x, List.mem_singleton]
    constructor
    · rintro (⟨a, b⟩ | rfl)
      · exact ⟨Or.inl a, b⟩
      · exact ⟨Or.inr rfl, hn⟩
    · rintro ⟨a | rfl, b⟩
      · exact Or.inl ⟨a, b⟩
      · exact Or.inr rfl
  · rw [er, List.pairwise_append]
    exact ⟨h.up, by simp, fun a ha b hb => by rw [List.mem_singleton.1 hb]; exact hlt a ha⟩
  · rw [er] at hx
    rw [getD_snoc]
    simp only [List.length_append, List.length_singleton, Nat.add_sub_cancel, Nat.lt_irrefl, if_false, if_true]
    rcases List.mem_append.1 hx with h1 | h1
    · have := hlt x h1; omega
    · rw [List.mem_singleton.1 h1]; exact Int.le_refl _
  · rw [er, List.length_append, List.length_append]; have := h.len; simp; omega
theorem Inv.skip {l : List Rg} {p : List Int} (h : Inv l p) (n : Int) (hn : mayN n = false) : Inv l (p ++ [n]) := by
  refine ⟨h.ok, h.gap, fun x => ?_, h.up, h.last, by have := h.len; simp; omega⟩
  rw [h.mem x, List.mem_append, List.mem_singleton]
  constructor
  · rintro ⟨a, b⟩; exact ⟨Or.inl a, b⟩
  · rintro ⟨a | rfl, b⟩
    · exact ⟨a, b⟩
    · rw [hn] at b; cases b
theorem Inv.step {l : List Rg} {p : List Int} (h : Inv l p) (n : Int) (hp : ∀ x ∈ p, x ≤ n) : Inv (Span.step l n) (p ++ [n]) := by
  unfold Span.step
  by_cases hn : mayN n = true
  · rw [if_pos hn]
    by_cases hc : 0 < l.length ∧ n - (l.getD (l.length - 1) (0, 0)).2 < 2
    · rw [if_pos hc]
      obtain ⟨m, a, b, rfl, e2, e3⟩ := last_of hc.1
      rw [e2] at hc ⊢
      have hab := h.ok (a, b) (by simp)
      simp only at hab hc
      have hb := mayN_iff.1 hn
      have hbm : b ∈ runs (m ++ [(a, b)]) := by rw [runs_app, runs_one]; exact List.mem_append.2 (Or.inr (mem_runR.2 ⟨hab.2.1, Int.le_refl _⟩))
      have hbn : b ≤ n := hp b ((h.mem b).1 hbm).1
      have es : (m ++ [(a, b)]).set ((m ++ [(a, b)]).length - 1) (a, n) = m ++ [(a, n)] := by simp [List.set_append_right]
      rw [es]
      by_cases hbe : n = b
      · subst hbe
        refine ⟨h.ok, h.gap, fun x => ?_, h.up, h.last, by have := h.len; rw [List.length_append]; simp at this ⊢; omega⟩
        rw [h.mem x, List.mem_append, List.mem_singleton]
        constructor
        · rintro ⟨a, b⟩; exact ⟨Or.inl a, b⟩
        · rintro ⟨a | rfl, b⟩
          · exact ⟨a, b⟩
          · exact (h.mem _).1 hbm
      · obtain rfl : n = b + 1 := by omega
        have er : runs (m ++ [(a, b + 1)]) = runs (m ++ [(a, b)]) ++ [b + 1] := by rw [runs_app, runs_app, runs_one, runs_one, runR_succ hab.2.1, List.append_assoc]
        have hlast := h.last (by simp)
        rw [e2] at hlast
        simp only at hlast
        refine ⟨fun r hr => ?_, fun i hi => ?_, fun x => ?_, ?_, fun _ x hx => ?_, ?_⟩
        · rcases List.mem_append.1 hr with h1 | h1
          · exact h.ok r (List.mem_append.2 (Or.inl h1))
          · rw [List.mem_singleton.1 h1]; simp only; omega
        · have := h.gap i (by simpa using hi)
          rw [getD_snoc, getD_snoc] at this ⊢
          simp only [List.length_append, List.length_singleton] at hi
          rw [if_pos (show i < m.length by omega)] at this ⊢
          by_cases h1 : i + 1 < m.length
          · rw [if_pos h1] at this ⊢; exact this
          · rw [if_neg h1, if_pos (show i + 1 = m.length by omega)] at this ⊢; exact this
        · rw [er, List.mem_append, List.mem_append, h.mem x, List.mem_singleton]
          constructor
          · rintro (⟨a, b⟩ | rfl)
            · exact ⟨Or.inl a, b⟩
            · exact ⟨Or.inr rfl, hn⟩
          · rintro ⟨a | rfl, b⟩
            · exact Or.inl ⟨a, b⟩
            · exact Or.inr rfl
        · rw [er, List.pairwise_append]
          exact ⟨h.up, by simp, fun x hx y hy => by rw [List.mem_singleton.1 hy]; have := hlast x hx; omega⟩
        · rw [er] at hx
          rw [getD_snoc]
          simp only [List.length_append, List.length_singleton, Nat.add_sub_cancel, Nat.lt_irrefl, if_false, if_true]
          rcases List.mem_append.1 hx with h1 | h1
          · have := hlast x h1; omega
          · rw [List.mem_singleton.1 h1]; exact Int.le_refl _
        · rw [er, List.length_append, List.length_append]; have := h.len; simp at this ⊢; omega
    · rw [if_neg hc]
      exact h.push n hn hp fun h0 => by omega
  · rw [if_neg hn]
    exact h.skip n (by simpa using hn)
theorem Inv.foldl {l : List Rg} {p s : List Int} (h : Inv l p) (hs : (p ++ s).Pairwise (· ≤ ·)) : Inv (s.foldl Span.step l) (p ++ s) := by
  induction s generalizing l p with
  | nil => simpa using h
  | cons n s ih =>
    rw [List.foldl_cons, show p ++ n :: s = (p ++ [n]) ++ s by simp]
    refine ih (h.step n fun x hx => ?_) (by simpa using hs)
    rw [List.pairwise_append] at hs
    exact hs.2.2 x hx n (by simp)
theorem ofL_inv {s : List Int} (hs : s.Pairwise (· ≤ ·)) : Inv (ofL s) s := by
  have := Inv.foldl (l := []) (p := []) (s := s) Inv.nil (by simpa using hs)
  simpa [ofL] using this
theorem Inv.good {l : List Rg} {p : List Int} (h : Inv l p) : Span.good l = true := by
  rw [good_iff]
  intro i hi
  rw [okAt_iff]
  have hm : l.getD i (0, 0) ∈ l := by rw [List.getD_eq_getElem?_getD, List.getElem?_eq_getElem hi]; exact List.getElem_mem hi
  have := h.ok _ hm
  refine ⟨by omega, ?_⟩
  rcases Nat.eq_zero_or_pos i with h0 | h0
  · exact Or.inl h0
  · have := h.gap (i - 1) (by omega)
    rw [show i - 1 + 1 = i by omega] at this
    exact Or.inr this
end Span
end Go.Proofs.Ytcgoaicifjndpaa
end

section
/- Ranges of numbers, plainly: one more number among them. -/
namespace Go.Proofs.Ytcgoaicifjndpaa
set_option linter.unusedVariables false
set_option linter.unusedSimpArgs false
namespace Span
/-- Ranges as they must be. -/
structure GP (l : List Rg) : Prop where
  ok : ∀ r ∈ l, 0 ≤ r.1 ∧ r.1 ≤ r.2 ∧ r.2 ≤ 72057594037927935
  up : l.Pairwise fun r s => r.2 + 2 ≤ s.1
theorem good_GP {l : List Rg} (h : good l = true) : GP l := by
  have hat := good_iff.1 h
  have ok : ∀ i (hi : i < l.length), 0 ≤ l[i].1 ∧ l[i].1 ≤ l[i].2 ∧ l[i].2 ≤ 72057594037927935 := fun i hi => by
    have := (okAt_iff.1 (hat i hi)).1
    simpa [List.getD, hi] using this
  have gap : ∀ i (hi : i + 1 < l.length), l[i].2 + 2 ≤ l[i + 1].1 := fun i hi => by
    have := (okAt_iff.1 (hat (i + 1) hi)).2
    have hi' : i < l.length := by omega
    simp [List.getD, hi, hi'] at this
    omega
  refine ⟨fun r hr => ?_, List.pairwise_iff_getElem.2 fun i j hi hj hij => ?_⟩
  · obtain ⟨i, hi, rfl⟩ := List.mem_iff_getElem.1 hr
    exact ok i hi
  · obtain ⟨d, rfl⟩ : ∃ d, j = i + 1 + d := ⟨j - (i + 1), by omega⟩
    clear hij
    induction d with
    | zero => exact gap i hj
    | succ d ih =>
      have h1 := ih (by omega)
      have h2 := gap (i + 1 + d) (by omega)
      have h3 := ok (i + 1 + d) (by omega)
      have e : i + 1 + (d + 1) = i + 1 + d + 1 := by omega
      simp only [e]
      omega
theorem GP.good {l : List Rg} (h : GP l) : Span.good l = true := by
  rw [good_iff]
  intro i hi
  rw [okAt_iff]
  have e : ∀ j (hj : j < l.length), l.getD j (0, 0) = l[j] := fun j hj => by simp [List.getD, hj]
  rw [e i hi]
  refine ⟨h.ok _ (List.getElem_mem hi), ?_⟩
  rcases Nat.eq_zero_or_pos i with h0 | h0
  · exact Or.inl h0
  · right
    rw [e (i - 1) (by omega)]
    have := List.pairwise_iff_getElem.1 h.up (i - 1) i (by omega) hi (by omega)
    omega
theorem mem_runs {l : List Rg} {n : Int} : n ∈ runs l ↔ ∃ r ∈ l, r.1 ≤ n ∧ n ≤ r.2 := by
  simp only [runs, List.mem_flatMap, mem_runR]
theorem GP.cons {r : Rg} {l : List Rg} (h : GP (r :: l)) : GP l := ⟨fun s hs => h.ok s (by simp [hs]), (List.pairwise_cons.1 h.up).2⟩
/-- What they hold says which ranges they are. -/
theorem GP.ext : ∀ {l m : List Rg}, GP l → GP m → (∀ n, n ∈ runs l ↔ n ∈ runs m) → l = m
  | [], [], _, _, _ => rfl
  | [], (c, d) :: m, _, h2, h => by
    have := h2.ok (c, d) (by simp)
    have := (h c).2 (mem_runs.2 ⟨(c, d), by simp, by simp only; omega, by simp only at this ⊢; omega⟩)
    simp [runs] at this
  | (a, b) :: l, [], h1, _, h => by
    have := h1.ok (a, b) (by simp)
    have := (h a).1 (mem_runs.2 ⟨(a, b), by simp, by simp only; omega, by simp only at this ⊢; omega⟩)
    simp [runs] at this
  | (a, b) :: l, (c, d) :: m, h1, h2, h => by
    have o1 := h1.ok (a, b) (by simp)
    have o2 := h2.ok (c, d) (by simp)
    simp only at o1 o2
    have u1 : ∀ s ∈ l, b + 2 ≤ s.1 := (List.pairwise_cons.1 h1.up).1
    have u2 : ∀ s ∈ m, d + 2 ≤ s.1 := (List.pairwise_cons.1 h2.up).1
    have inl : ∀ n, n ∈ runs ((a, b) :: l) ↔ (a ≤ n ∧ n ≤ b) ∨ n ∈ runs l := fun n => by
      rw [mem_runs, mem_runs]; simp
    have inm : ∀ n, n ∈ runs ((c, d) :: m) ↔ (c ≤ n ∧ n ≤ d) ∨ n ∈ runs m := fun n => by
      rw [mem_runs, mem_runs]; simp
    have lol : ∀ n, n ∈ runs l → b + 2 ≤ n := fun n hn => by
      obtain ⟨r, hr, h3, h4⟩ := mem_runs.1 hn
      have := u1 r hr; omega
    have lom : ∀ n, n ∈ runs m → d + 2 ≤ n := fun n hn => by
      obtain ⟨r, hr, h3, h4⟩ := mem_runs.1 hn
      have := u2 r hr; omega
    have k : ∀ n, ((a ≤ n ∧ n ≤ b) ∨ n ∈ runs l) ↔ ((c ≤ n ∧ n ≤ d) ∨ n ∈ runs m) := fun n => by rw [← inl, ← inm]; exact h n
    have e1 : a = c := by
      have k1 := (k a).1 (Or.inl ⟨Int.le_refl _, o1.2.1⟩)
      have k2 := (k c).2 (Or.inl ⟨Int.le_refl _, o2.2.1⟩)
      rcases k1 with k1 | k1
      · rcases k2 with k2 | k2
        · omega
        · have := lol _ k2; omega
      · have := lom _ k1
        rcases k2 with k2 | k2
        · omega
        · have := lol _ k2; omega
    subst e1
    have e2 : b = d := by
      rcases Int.lt_trichotomy b d with h3 | h3 | h3
      · rcases (k (b + 1)).2 (Or.inl ⟨by omega, by omega⟩) with k1 | k1
        · omega
        · have := lol _ k1; omega
      · exact h3
      · rcases (k (d + 1)).1 (Or.inl ⟨by omega, by omega⟩) with k1 | k1
        · omega
        · have := lom _ k1; omega
    subst e2
    rw [GP.ext h1.cons h2.cons fun n => ?_]
    constructor
    · intro hn
      have := lol _ hn
      rcases (k n).1 (Or.inr hn) with k1 | k1
      · omega
      · exact k1
    · intro hn
      have := lom _ hn
      rcases (k n).2 (Or.inr hn) with k1 | k1
      · omega
      · exact k1

/-- A run n .. m behind the ranges P, ahead of the ranges R. -/
def glue (P : List Rg) (n m : Int) (R : List Rg) : List Rg :=
  if 0 < P.length ∧ (P.getD (P.length - 1) (0, 0)).2 = n - 1 then P.set (P.length - 1) ((P.getD (P.length - 1) (0, 0)).1, m) ++ R else P ++ (n, m) :: R
/-- One more number, behind the ranges P, ahead of the ranges R. -/
def addM (P : List Rg) (n : Int) : List Rg → List Rg
  | [] => glue P n n []
  | (c, d) :: R => if c = n + 1 then glue P n d R else glue P n n ((c, d) :: R)
theorem addM_cons {P R : List Rg} {c d n : Int} : addM P n ((c, d) :: R) = if c = n + 1 then glue P n d R else glue P n n ((c, d) :: R) := rfl
theorem glue_snoc {P : List Rg} {a b n m : Int} {R : List Rg} : glue (P ++ [(a, b)]) n m R = if b = n - 1 then P ++ (a, m) :: R else P ++ (a, b) :: (n, m) :: R := by
  unfold glue
  have e : (P ++ [(a, b)]).getD ((P ++ [(a, b)]).length - 1) (0, 0) = (a, b) := by
    rw [getD_snoc]; simp
  rw [e]
  by_cases h : b = n - 1
  · rw [if_pos ⟨by simp, h⟩, if_pos h]
    simp [List.set_append_right]
  · rw [if_neg (fun h2 => h h2.2), if_neg h]
    simp
theorem GP.app {P R : List Rg} : GP (P ++ R) ↔ GP P ∧ GP R ∧ ∀ r ∈ P, ∀ s ∈ R, r.2 + 2 ≤ s.1 := by
  constructor
  · intro h
    have := List.pairwise_append.1 h.up
    exact ⟨⟨fun r hr => h.ok r (by simp [hr]), this.1⟩, ⟨fun r hr => h.ok r (by simp [hr]), this.2.1⟩, this.2.2⟩
  · rintro ⟨h1, h2, h3⟩
    exact ⟨fun r hr => by rcases List.mem_append.1 hr with h | h; exact h1.ok r h; exact h2.ok r h, List.pairwise_append.2 ⟨h1.up, h2.up, h3⟩⟩
theorem GP.cons' {r : Rg} {l : List Rg} (h0 : 0 ≤ r.1 ∧ r.1 ≤ r.2 ∧ r.2 ≤ 72057594037927935) (h : GP l) (hu : ∀ s ∈ l, r.2 + 2 ≤ s.1) : GP (r :: l) :=
  ⟨fun s hs => by rcases List.mem_cons.1 hs with rfl | h2; exact h0; exact h.ok s h2, List.pairwise_cons.2 ⟨hu, h.up⟩⟩
theorem glue_ok {P R : List Rg} {n m : Int} (hP : GP P) (hR : GP R) (hn : 0 ≤ n ∧ n ≤ m ∧ m ≤ 72057594037927935) (h1 : ∀ r ∈ P, r.2 < n) (h2 : ∀ s ∈ R, m + 2 ≤ s.1) :
    GP (glue P n m R) ∧ ∀ v, v ∈ runs (glue P n m R) ↔ v ∈ runs P ∨ (n ≤ v ∧ v ≤ m) ∨ v ∈ runs R := by
  rcases List.eq_nil_or_concat P with rfl | ⟨Q, ⟨a, b⟩, rfl⟩
  · refine ⟨?_, fun v => ?_⟩
    · show GP (_ ++ _)
      exact GP.cons' hn hR h2
    · show v ∈ runs ((n, m) :: R) ↔ _
      rw [mem_runs, mem_runs, mem_runs]; simp
  · rw [List.concat_eq_append] at hP h1 ⊢
    obtain ⟨hQ, hab, hqa⟩ := GP.app.1 hP
    have oab := hab.ok (a, b) (by simp)
    have hbn := h1 (a, b) (by simp)
    simp only at oab hbn
    rw [glue_snoc]
    split
    · rename_i hb
      refine ⟨GP.app.2 ⟨hQ, GP.cons' ⟨oab.1, by simp only; omega, hn.2.2⟩ hR h2, fun r hr s hs => ?_⟩, fun v => ?_⟩
      · have hq := hqa r hr (a, b) (by simp)
        rcases List.mem_cons.1 hs with rfl | hs
        · exact hq
        · have := h2 s hs
          simp only at hq
          omega
      · rw [mem_runs, mem_runs, mem_runs]
        constructor
        · rintro ⟨r, hr, h3, h4⟩
          rcases List.mem_append.1 hr with hr | hr
          · exact Or.inl ⟨r, by simp [hr], h3, h4⟩
          · rcases List.mem_cons.1 hr with rfl | hr
            · by_cases hv : v ≤ b
              · exact Or.inl ⟨(a, b), by simp, h3, hv⟩
              · exact Or.inr (Or.inl ⟨by omega, h4⟩)
            · exact Or.inr (Or.inr ⟨r, hr, h3, h4⟩)
        · rintro (⟨r, hr, h3, h4⟩ | ⟨h3, h4⟩ | ⟨r, hr, h3, h4⟩)
          · rcases List.mem_append.1 hr with hr | hr
            · exact ⟨r, by simp [hr], h3, h4⟩
            · rw [List.mem_singleton.1 hr] at h3 h4
              exact ⟨(a, m), by simp, h3, by simp only at h4 ⊢; omega⟩
          · exact ⟨(a, m), by simp, by simp only; omega, h4⟩
          · exact ⟨r, by simp [hr], h3, h4⟩
    · rename_i hb
      refine ⟨GP.app.2 ⟨hQ, GP.cons' oab (GP.cons' hn hR h2) fun s hs => ?_, fun r hr s hs => ?_⟩, fun v => ?_⟩
      · rcases List.mem_cons.1 hs with rfl | hs
        · simp only; omega
        · have := h2 s hs
          simp only at this ⊢
          omega
      · have hq := hqa r hr (a, b) (by simp)
        simp only at hq
        rcases List.mem_cons.1 hs with rfl | hs
        · exact hq
        · rcases List.mem_cons.1 hs with rfl | hs
          · simp only; omega
          · have := h2 s hs
            omega
      · rw [mem_runs, mem_runs, mem_runs]
        constructor
        · rintro ⟨r, hr, h3, h4⟩
          rcases List.mem_append.1 hr with hr | hr
          · exact Or.inl ⟨r, by simp [hr], h3, h4⟩
          · rcases List.mem_cons.1 hr with rfl | hr
            · exact Or.inl ⟨(a, b), by simp, h3, h4⟩
            · rcases List.mem_cons.1 hr with rfl | hr
              · exact Or.inr (Or.inl ⟨h3, h4⟩)
              · exact Or.inr (Or.inr ⟨r, hr, h3, h4⟩)
        · rintro (⟨r, hr, h3, h4⟩ | ⟨h3, h4⟩ | ⟨r, hr, h3, h4⟩)
          · rcases List.mem_append.1 hr with hr | hr
            · exact ⟨r, by simp [hr], h3, h4⟩
            · rw [List.mem_singleton.1 hr] at h3 h4
              exact ⟨(a, b), by simp, h3, h4⟩
          · exact ⟨(n, m), by simp, h3, h4⟩
          · exact ⟨r, by simp [hr], h3, h4⟩
theorem addM_ok {P R : List Rg} {n : Int} (h : GP (P ++ R)) (hn : mayN n = true) (h1 : ∀ r ∈ P, r.2 < n) (h2 : ∀ s ∈ R, n < s.1) :
    GP (addM P n R) ∧ ∀ v, v ∈ runs (addM P n R) ↔ v ∈ runs (P ++ R) ∨ v = n := by
  obtain ⟨hP, hR, hPR⟩ := GP.app.1 h
  have hb := mayN_iff.1 hn
  cases R with
  | nil =>
    obtain ⟨g1, g2⟩ := glue_ok (m := n) hP hR ⟨hb.1, Int.le_refl _, hb.2⟩ h1 (fun s hs => by simp at hs)
    refine ⟨g1, fun v => ?_⟩
    show v ∈ runs (glue P n n []) ↔ _
    rw [g2 v, List.append_nil]
    have : ¬ v ∈ runs ([] : List Rg) := by simp [runs]
    constructor
    · rintro (h | h | h)
      · exact Or.inl h
      · exact Or.inr (by omega)
      · exact absurd h this
    · rintro (h | h)
      · exact Or.inl h
      · exact Or.inr (Or.inl (by omega))
  | cons r R =>
    obtain ⟨c, d⟩ := r
    have ocd := hR.ok (c, d) (by simp)
    have hcn := h2 (c, d) (by simp)
    simp only at ocd hcn
    have hup := (List.pairwise_cons.1 hR.up).1
    simp only at hup
    rw [addM_cons]
    split
    · rename_i hc
      obtain ⟨g1, g2⟩ := glue_ok (m := d) hP hR.cons ⟨hb.1, by omega, ocd.2.2⟩ h1 (fun s hs => hup s hs)
      refine ⟨g1, fun v => ?_⟩
      rw [g2 v, runs_app]
      have e : v ∈ runs ((c, d) :: R) ↔ (c ≤ v ∧ v ≤ d) ∨ v ∈ runs R := by rw [mem_runs, mem_runs]; simp
      rw [List.mem_append, e]
      constructor
      · rintro (h | h | h)
        · exact Or.inl (Or.inl h)
        · by_cases hv : v = n
          · exact Or.inr hv
          · exact Or.inl (Or.inr (Or.inl (by omega)))
        · exact Or.inl (Or.inr (Or.inr h))
      · rintro ((h | h | h) | h)
        · exact Or.inl h
        · exact Or.inr (Or.inl (by omega))
        · exact Or.inr (Or.inr h)
        · exact Or.inr (Or.inl (by omega))
    · rename_i hc
      obtain ⟨g1, g2⟩ := glue_ok (m := n) hP hR ⟨hb.1, Int.le_refl _, hb.2⟩ h1 (fun s hs => by
        rcases List.mem_cons.1 hs with rfl | hs
        · simp only; omega
        · have := hup s hs; omega)
      refine ⟨g1, fun v => ?_⟩
      rw [g2 v, runs_app, List.mem_append]
      constructor
      · rintro (h | h | h)
        · exact Or.inl (Or.inl h)
        · exact Or.inr (by omega)
        · exact Or.inl (Or.inr h)
      · rintro ((h | h) | h)
        · exact Or.inl h
        · exact Or.inr (Or.inr h)
        · exact Or.inr (Or.inl (by omega))
theorem addM_len {P R : List Rg} {n : Int} : (addM P n R).length ≤ P.length + R.length + 1 := by
  have hg : ∀ m S, (glue P n m S).length ≤ P.length + S.length + 1 := fun m S => by
    unfold glue; split <;> simp <;> omega
  cases R with
  | nil => exact hg n []
  | cons r R =>
    obtain ⟨c, d⟩ := r
    rw [addM_cons]
    split
    · have := hg d R; simp; omega
    · exact hg n _

/-- A range behind ranges, as the program lays it. -/
def putL (l : List Rg) (r : Rg) : List Rg := if 0 < l.length ∧ r.1 - (l.getD (l.length - 1) (0, 0)).2 < 2 then l.set (l.length - 1) ((l.getD (l.length - 1) (0, 0)).1, r.2) else l ++ [r]
theorem putL_snoc {P : List Rg} {a b : Int} {r : Rg} : putL (P ++ [(a, b)]) r = if r.1 - b < 2 then P ++ [(a, r.2)] else P ++ [(a, b), r] := by
  unfold putL
  have e : (P ++ [(a, b)]).getD ((P ++ [(a, b)]).length - 1) (0, 0) = (a, b) := by
    rw [getD_snoc]; simp
  rw [e]
  by_cases h : r.1 - b < 2
  · rw [if_pos ⟨by simp, h⟩, if_pos h]
    simp [List.set_append_right]
  · rw [if_neg (fun h2 => h h2.2), if_neg h]
    simp
theorem putL_nil {r : Rg} : putL [] r = [r] := by simp [putL]
theorem putL_push {l : List Rg} {r : Rg} (h : ∀ s ∈ l, s.2 + 2 ≤ r.1) : putL l r = l ++ [r] := by
  rcases List.eq_nil_or_concat l with rfl | ⟨Q, ⟨a, b⟩, rfl⟩
  · simp [putL]
  · rw [List.concat_eq_append] at h ⊢
    have := h (a, b) (by simp)
    simp only at this
    rw [putL_snoc, if_neg (by omega)]
    simp
theorem foldl_putL {R : List Rg} : ∀ {l : List Rg}, GP R → (∀ r ∈ l, ∀ s ∈ R, r.2 + 2 ≤ s.1) → R.foldl putL l = l ++ R := by
  induction R with
  | nil => intro l _ _; simp
  | cons r R ih =>
    intro l hR h
    rw [List.foldl_cons, putL_push fun s hs => h s hs r (by simp), ih hR.cons]
    · simp
    · intro s hs t ht
      rcases List.mem_append.1 hs with hs | hs
      · exact h s hs t (by simp [ht])
      · rw [List.mem_singleton.1 hs]
        exact (List.pairwise_cons.1 hR.up).1 t ht
/-- What the program comes to. -/
theorem put_addM {P R : List Rg} {n : Int} (h : GP (P ++ R)) (h1 : ∀ r ∈ P, r.2 < n) (h2 : ∀ s ∈ R, n < s.1) : R.foldl putL (putL P (n, n)) = addM P n R := by
  obtain ⟨hP, hR, hPR⟩ := GP.app.1 h
  have tail : ∀ {Q : List Rg} {a m : Int} {S : List Rg}, GP S → (∀ r ∈ Q, ∀ s ∈ S, r.2 + 2 ≤ s.1) → (∀ s ∈ S, m + 2 ≤ s.1) → S.foldl putL (Q ++ [(a, m)]) = Q ++ (a, m) :: S := fun {Q a m S} h3 h4 h5 => by
    rw [foldl_putL h3]
    · simp
    · intro r hr s hs
      rcases List.mem_append.1 hr with hr | hr
      · exact h4 r hr s hs
      · rw [List.mem_singleton.1 hr]; exact h5 s hs
  -- the ranges with the number, and what stands behind them
  have key : ∀ {Q : List Rg} {a : Int}, (∀ r ∈ Q, ∀ s ∈ R, r.2 + 2 ≤ s.1) → R.foldl putL (Q ++ [(a, n)]) = match R with
      | [] => Q ++ [(a, n)]
      | (c, d) :: S => if c = n + 1 then Q ++ (a, d) :: S else Q ++ (a, n) :: (c, d) :: S := fun {Q a} hQ => by
    cases R with
    | nil => rfl
    | cons r S =>
      obtain ⟨c, d⟩ := r
      have hcn := h2 (c, d) (by simp)
      have hup := (List.pairwise_cons.1 hR.up).1
      simp only at hcn hup ⊢
      rw [List.foldl_cons, putL_snoc]
      by_cases hc : c = n + 1
      · rw [if_pos hc, if_pos (by simp only; omega)]
        exact tail hR.cons (fun r hr s hs => hQ r hr s (by simp [hs])) hup
      · rw [if_neg hc, if_neg (by simp only; omega)]
        rw [show Q ++ [(a, n), (c, d)] = (Q ++ [(a, n)]) ++ [(c, d)] by simp]
        rw [tail hR.cons (fun r hr s hs => ?_) hup]
        · simp
        · rcases List.mem_append.1 hr with hr | hr
          · exact hQ r hr s (by simp [hs])
          · rw [List.mem_singleton.1 hr]
            have := hup s hs
            have ocd := hR.ok (c, d) (by simp)
            simp only at ocd ⊢
            omega
  rcases List.eq_nil_or_concat P with rfl | ⟨Q, ⟨a, b⟩, rfl⟩
  · rw [putL_nil]
    have := key (Q := []) (a := n) (fun r hr => by simp at hr)
    rw [show [(n, n)] = [] ++ [(n, n)] from rfl, this]
    cases R with
    | nil => simp [addM, glue]
    | cons r S =>
      obtain ⟨c, d⟩ := r
      simp only [addM, glue]
      split <;> simp
  · rw [List.concat_eq_append] at hP h1 hPR ⊢
    have hbn := h1 (a, b) (by simp)
    simp only at hbn
    rw [putL_snoc]
    by_cases hb : b = n - 1
    · rw [if_pos (by simp only; omega)]
      simp only
      rw [key fun r hr s hs => hPR r (by simp [hr]) s hs]
      cases R with
      | nil => simp [addM, glue_snoc, hb]
      | cons r S =>
        obtain ⟨c, d⟩ := r
        simp only [addM, glue_snoc, if_pos hb]
    · rw [if_neg (by simp only; omega)]
      rw [show Q ++ [(a, b), (n, n)] = (Q ++ [(a, b)]) ++ [(n, n)] by simp, key fun r hr s hs => hPR r hr s hs]
      cases R with
      | nil => simp [addM, glue_snoc, hb]
      | cons r S =>
        obtain ⟨c, d⟩ := r
        simp only [addM, glue_snoc, if_neg hb]
        split <;> simp
/-- The first range that ends behind the number. -/
def cutN (l : List Rg) (n : Int) : Nat := (l.takeWhile fun r => decide (r.2 < n)).length
theorem cut_lt {l : List Rg} {n : Int} : ∀ r ∈ l.take (cutN l n), r.2 < n := fun r hr => by
  unfold cutN at hr
  rw [← List.prefix_iff_eq_take.1 (List.takeWhile_prefix _)] at hr
  have := List.all_takeWhile (p := fun r : Rg => decide (r.2 < n)) (l := l)
  simpa using List.all_eq_true.1 this r hr
theorem drop_takeWhile {α : Type} (p : α → Bool) : ∀ l : List α, l.drop (l.takeWhile p).length = l.dropWhile p
  | [] => rfl
  | x :: l => by
    rw [List.takeWhile_cons, List.dropWhile_cons]
    split
    · simp [drop_takeWhile p l]
    · simp
theorem cut_ge {l : List Rg} {n : Int} (h : GP l) (hn : ¬ n ∈ runs l) : ∀ s ∈ l.drop (cutN l n), n < s.1 := by
  have e : l.drop (cutN l n) = l.dropWhile fun r => decide (r.2 < n) := by
    exact drop_takeWhile _ l
  rw [e]
  intro s hs
  have hsuf : ∀ r ∈ l.dropWhile fun r => decide (r.2 < n), r ∈ l := fun r hr => (List.dropWhile_suffix _).subset hr
  have hg : GP (l.dropWhile fun r => decide (r.2 < n)) := ⟨fun r hr => h.ok r (hsuf r hr), h.up.sublist (List.dropWhile_suffix _).sublist⟩
  cases hd : l.dropWhile fun r => decide (r.2 < n) with
  | nil => rw [hd] at hs; simp at hs
  | cons t m =>
    rw [hd] at hs hg hsuf
    have ht : ¬ t.2 < n := by
      have := List.head?_dropWhile_not (fun r : Rg => decide (r.2 < n)) l
      rw [hd] at this
      simpa using this
    have htn : n < t.1 := by
      rcases Int.lt_or_le n t.1 with h1 | h1
      · exact h1
      · exact absurd (mem_runs.2 ⟨t, hsuf t (by simp), h1, by omega⟩) hn
    rcases List.mem_cons.1 hs with rfl | hs
    · exact htn
    · have := (List.pairwise_cons.1 hg.up).1 s hs
      have := hg.ok t (by simp)
      omega
/-- One more number among ranges. -/
def addL (l : List Rg) (n : Int) : List Rg := if mayN n ∧ ¬ n ∈ runs l then addM (l.take (cutN l n)) n (l.drop (cutN l n)) else l
theorem addL_ok {l : List Rg} {n : Int} (h : GP l) : GP (addL l n) ∧ ∀ v, v ∈ runs (addL l n) ↔ v ∈ runs l ∨ (v = n ∧ mayN n = true) := by
  unfold addL
  split
  · rename_i hc
    have h2 : GP (l.take (cutN l n) ++ l.drop (cutN l n)) := by rw [List.take_append_drop]; exact h
    obtain ⟨g1, g2⟩ := addM_ok h2 hc.1 cut_lt (cut_ge h hc.2)
    refine ⟨g1, fun v => ?_⟩
    rw [g2 v, List.take_append_drop]
    simp [hc.1]
  · rename_i hc
    refine ⟨h, fun v => ?_⟩
    constructor
    · exact Or.inl
    · rintro (h1 | ⟨rfl, h2⟩)
      · exact h1
      · rcases Classical.em (v ∈ runs l) with h3 | h3
        · exact h3
        · exact absurd ⟨h2, h3⟩ hc
theorem addL_len {l : List Rg} {n : Int} : (addL l n).length ≤ l.length + 1 := by
  unfold addL
  split
  · have := addM_len (P := l.take (cutN l n)) (R := l.drop (cutN l n)) (n := n)
    rw [← List.length_append, List.take_append_drop] at this
    exact this
  · omega
theorem cutN_eq {l : List Rg} {n : Int} {i : Nat} (hi : i ≤ l.length) (h1 : ∀ j, j < i → (l.getD j (0, 0)).2 < n) (h2 : i < l.length → ¬ (l.getD i (0, 0)).2 < n) : cutN l n = i := by
  unfold cutN
  have e : l = l.take i ++ l.drop i := (List.take_append_drop i l).symm
  have ht : ∀ r ∈ l.take i, decide (r.2 < n) = true := fun r hr => by
    obtain ⟨j, hj, rfl⟩ := List.mem_iff_getElem.1 hr
    have hj' : j < i := by rw [List.length_take] at hj; omega
    have := h1 j hj'
    have hjl : j < l.length := by omega
    simpa [List.getD, hjl] using this
  rw [e, List.takeWhile_append_of_pos ht, List.length_append]
  have : (l.drop i).takeWhile (fun r => decide (r.2 < n)) = [] := by
    cases hd : l.drop i with
    | nil => rfl
    | cons t m =>
      have hil : i < l.length := by
        rcases Nat.lt_or_ge i l.length with h | h
        · exact h
        · rw [List.drop_eq_nil_of_le h] at hd; cases hd
      have ht : l[i] = t := by
        have := List.getElem_cons_drop hil
        rw [hd] at this
        exact (List.cons.inj this).1
      have h3 := h2 hil
      simp [List.getD, hil, ht] at h3
      simp [List.takeWhile_cons, ht]
      omega
  rw [this]
  simp
  omega
end Span
end Go.Proofs.Ytcgoaicifjndpaa
end

section
/- Cuts at which the entries get new numbers: what comes behind is walked once, from a state that is told. -/
namespace Go.Proofs.Ytcgoaicifjndpaa.Vx
open Go.RowKit
set_option linter.unusedVariables false
set_option linter.unusedSimpArgs false

theorem Runs.pickL {P : Program} {m : Nat} {c : Code} {st s : St} {K : Ex → St → Prop} (σ : List Nat) (h : StLeL σ m st s) (k : Runs P m c s K) : Runs P m c st K := by
  refine ⟨fun w0 G ρb ρ1 a W hρ r hs hd => ?_⟩
  obtain ⟨c1, hc1⟩ := pick_split (b := ρ1) hρ h.m
  exact k.run w0 G ρb c1 a W hρ (by rw [← hc1]; exact r.pickL h.h h.d) (by rw [← hc1]; exact t_pick h.t hs) hd
theorem Runs.mono {P : Program} {m : Nat} {c : Code} {st : St} {K K' : Ex → St → Prop} (h : ∀ e st', K e st' → K' e st') (k : Runs P m c st K) : Runs P m c st K' := by
  refine ⟨fun w0 G ρb ρ1 a W hρ r hs hd => Code.wp_mono (fun e a W hq => ?_) (k.run w0 G ρb ρ1 a W hρ r hs hd)⟩
  obtain ⟨ex, st', ρ', he, r', hs', hd', hk⟩ := hq
  exact ⟨ex, st', ρ', he, r', hs', hd', h _ _ hk⟩
theorem Runs.seq {P : Program} {m : Nat} {x y : Code} {st : St} {K : Ex → St → Prop} (h : Runs P m x st fun e st' => match e with
      | .normal => Runs P m y st' K
      | e => K e st') : Runs P m (.seq x y) st K := by
  refine ⟨fun w0 G ρb ρ1 a W hρ r hs hd => wp_seq (Code.wp_mono (fun e a W hq => ?_) (h.run w0 G ρb ρ1 a W hρ r hs hd))⟩
  obtain ⟨ex, st', ρ', he, r', hs', hd', hk⟩ := hq
  cases ex with
  | normal =>
    cases e <;> try exact (show False from he).elim
    exact hk.run w0 G ρb ρ' a W hρ r' hs' hd'
  | exit i =>
    cases e <;> try exact (show False from he).elim
    exact ⟨.exit i, st', ρ', he, r', hs', hd', hk⟩
  | ret =>
    cases e <;> try exact (show False from he).elim
    exact ⟨.ret, st', ρ', he, r', hs', hd', hk⟩
/-- Behind x the state is s, but for the numbers of the entries, and q holds. -/
theorem Runs.cut {P : Program} {m : Nat} {x y : Code} {st : St} {K : Ex → St → Prop} (s : St) (q : Prop) (h : Runs P m x st fun e st' => match e with
      | .normal => (∃ σ, StLeL σ m st' s) ∧ q
      | e => K e st') (k : q → Runs P m y s K) : Runs P m (.seq x y) st K := by
  refine Runs.seq (Runs.mono (fun e st' he => ?_) h)
  cases e with
  | normal =>
    obtain ⟨⟨σ, hσ⟩, hq⟩ := he
    exact Runs.pickL σ hσ (k hq)
  | exit i => exact he
  | ret => exact he
end Go.Proofs.Ytcgoaicifjndpaa.Vx
end
