/- What readers answer, plainly. -/
import Derived.Test.YtfchejgohegbgaaLebPlain
namespace Go.Proofs.Ytfchejgohegbgaa
set_option linter.unusedVariables false

/-- A text in bytes. -/
def textB (m : List UInt8) : List UInt8 := Leb.put m.length ++ m
/-! What a reader of the bytes l at the place a with the error b answers: a value, the new place, the new error. -/
def failS (b e : Int) : Int := if b = 0 then e else b
def nextS (l : List UInt8) (a b : Int) : Int × Int × Int := if b = 0 then Leb.next l a else (0, a, b)
def withinS (l : List UInt8) (a b least most below above : Int) : Int × Int × Int :=
  let n := nextS l a b
  let b1 := if n.1 < least then failS n.2.2 below else n.2.2
  let b2 := if most < n.1 then failS b1 above else b1
  if b2 = 0 then (n.1, n.2.1, 0) else (0, a, b2)
def numS (l : List UInt8) (a b least most : Int) : Int × Int × Int :=
  if b ≠ 0 then (0, a, b) else if (Leb.next l a).2.2 ≠ 0 then (0, a, (Leb.next l a).2.2)
  else if (Leb.next l a).1 < least ∨ most < (Leb.next l a).1 then (0, a, 1) else ((Leb.next l a).1, (Leb.next l a).2.1, 0)
def countS (l : List UInt8) (a b most : Int) : Int × Int × Int :=
  if b ≠ 0 then (0, a, b) else if (Leb.next l a).2.2 ≠ 0 then (0, a, (Leb.next l a).2.2)
  else if most < (Leb.next l a).1 then (0, a, 4) else ((Leb.next l a).1, (Leb.next l a).2.1, 0)
def cut (l : List UInt8) (a n : Int) : List UInt8 := (l.drop a.toNat).take n.toNat
def textS (l : List UInt8) (a b most : Int) : List UInt8 × Int × Int :=
  if b ≠ 0 then ([], a, b) else if (Leb.next l a).2.2 ≠ 0 then ([], a, (Leb.next l a).2.2)
  else if most < (Leb.next l a).1 then ([], a, 4) else if (l.length : Int) - (Leb.next l a).2.1 < (Leb.next l a).1 then ([], a, 2)
  else (cut l (Leb.next l a).2.1 (Leb.next l a).1, (Leb.next l a).2.1 + (Leb.next l a).1, 0)
def hashS (l : List UInt8) (a b : Int) : List UInt8 × Int × Int :=
  if b ≠ 0 then (List.replicate 32 0, a, b) else if (l.length : Int) - a < 32 then (List.replicate 32 0, a, 2) else (cut l a 32, a + 32, 0)
def endS (l : List UInt8) (a b : Int) : Int := if b = 0 ∧ a < (l.length : Int) then 3 else b

theorem within_num (l : List UInt8) (a b least most : Int) : withinS l a b least most 1 1 = numS l a b least most := by
  unfold withinS numS nextS failS
  by_cases hb : b = 0
  · simp only [hb, if_true, ne_eq, not_true_eq_false, if_false]
    generalize Leb.next l a = r
    obtain ⟨v, p, e⟩ := r
    by_cases he : e = 0
    · simp only [he, if_true, not_true_eq_false, if_false]
      by_cases h1 : v < least <;> by_cases h2 : most < v <;> simp [h1, h2]
    · simp only [he, if_false, not_false_eq_true, if_true]
      by_cases h1 : v < least <;> by_cases h2 : most < v <;> simp [h1, h2, he]
  · simp only [hb, if_false, ne_eq, not_false_eq_true, if_true]
    by_cases h1 : (0 : Int) < least <;> by_cases h2 : most < (0 : Int) <;> simp [h1, h2, hb]

theorem within_count (l : List UInt8) (a b most : Int) : withinS l a b 0 most 0 4 = countS l a b most := by
  unfold withinS countS nextS failS
  by_cases hb : b = 0
  · simp only [hb, if_true, ne_eq, not_true_eq_false, if_false]
    have hv := (Leb.next_range l a).1
    generalize Leb.next l a = r at *
    obtain ⟨v, p, e⟩ := r
    have hv' : ¬ v < 0 := by have : 0 ≤ v := hv; omega
    by_cases he : e = 0
    · simp only [he, if_true, not_true_eq_false, if_false]
      by_cases h2 : most < v <;> simp [hv', h2]
    · simp only [he, if_false, not_false_eq_true, if_true]
      by_cases h2 : most < v <;> simp [hv', h2, he]
  · simp only [hb, if_false, ne_eq, not_false_eq_true, if_true]
    by_cases h2 : most < (0 : Int) <;> simp [h2, hb]

/-- The place is in the bytes, the error is a small number. -/
def okRd (l : List UInt8) (a b : Int) : Prop := 0 ≤ a ∧ a ≤ l.length ∧ l.length ≤ 140737488351232 ∧ 0 ≤ b ∧ b ≤ 100

theorem next_le (l : List UInt8) (a b : Int) (ho : okRd l a b) : 0 ≤ (nextS l a b).1 ∧ (nextS l a b).1 ≤ 72057594037927935 ∧ 0 ≤ (nextS l a b).2.1 ∧ (nextS l a b).2.1 ≤ l.length := by
  unfold nextS
  obtain ⟨h1, h2, h3, h4, h5⟩ := ho
  split
  · have := Leb.next_range l a; omega
  · simp; omega

theorem text_bad (l : List UInt8) (a b most : Int) (h : (nextS l a b).2.2 ≠ 0) : textS l a b most = ([], a, (nextS l a b).2.2) ∧ (nextS l a b).1 = 0 := by
  unfold nextS at h ⊢
  unfold textS
  by_cases hb : b = 0
  · simp only [hb, if_true, ne_eq, not_true_eq_false, if_false] at h ⊢
    have := (Leb.next_bad l a h).1
    exact ⟨by rw [if_pos h], by rw [this]⟩
  · simp [hb]

theorem text_ok (l : List UInt8) (a b most : Int) (h : (nextS l a b).2.2 = 0) :
    textS l a b most = if most < (nextS l a b).1 then ([], a, 4) else if (l.length : Int) - (nextS l a b).2.1 < (nextS l a b).1 then ([], a, 2) else (cut l (nextS l a b).2.1 (nextS l a b).1, (nextS l a b).2.1 + (nextS l a b).1, 0) := by
  unfold nextS at h ⊢
  unfold textS
  by_cases hb : b = 0
  · simp only [hb, if_true, ne_eq, not_true_eq_false, if_false] at h ⊢
    rw [if_neg (by simp [h])]
  · simp only [hb, if_false] at h

theorem text_eq (l : List UInt8) (a b hi : Int) : textS l a b hi = if (nextS l a b).2.2 ≠ 0 then ([], a, (nextS l a b).2.2) else if hi < (nextS l a b).1 then ([], a, 4) else if (l.length : Int) - (nextS l a b).2.1 < (nextS l a b).1 then ([], a, 2) else (cut l (nextS l a b).2.1 (nextS l a b).1, (nextS l a b).2.1 + (nextS l a b).1, 0) := by
  by_cases h : (nextS l a b).2.2 = 0
  · rw [if_neg (by simp [h]), text_ok l a b hi h]
  · rw [if_pos h, (text_bad l a b hi h).1]

theorem ok_num {l : List UInt8} {a b lo hi : Int} (h : okRd l a b) : okRd l (numS l a b lo hi).2.1 (numS l a b lo hi).2.2 := by
  obtain ⟨h1, h2, h3, h4, h5⟩ := h
  have := Leb.next_range l a
  unfold numS okRd
  split
  · exact ⟨h1, h2, h3, h4, h5⟩
  · split
    · dsimp only; omega
    · split
      · dsimp only; omega
      · dsimp only; omega
theorem ok_count {l : List UInt8} {a b hi : Int} (h : okRd l a b) : okRd l (countS l a b hi).2.1 (countS l a b hi).2.2 := by
  obtain ⟨h1, h2, h3, h4, h5⟩ := h
  have := Leb.next_range l a
  unfold countS okRd
  split
  · exact ⟨h1, h2, h3, h4, h5⟩
  · split
    · dsimp only; omega
    · split
      · dsimp only; omega
      · dsimp only; omega
theorem ok_text {l : List UInt8} {a b hi : Int} (h : okRd l a b) : okRd l (textS l a b hi).2.1 (textS l a b hi).2.2 := by
  obtain ⟨h1, h2, h3, h4, h5⟩ := h
  have := Leb.next_range l a
  unfold textS okRd
  split
  · exact ⟨h1, h2, h3, h4, h5⟩
  · split
    · dsimp only; omega
    · split
      · dsimp only; omega
      · split
        · dsimp only; omega
        · dsimp only; omega
theorem ok_start {l : List UInt8} (h : l.length ≤ 140737488351232) : okRd l 0 0 := ⟨by omega, by omega, h, by omega, by omega⟩
end Go.Proofs.Ytfchejgohegbgaa
