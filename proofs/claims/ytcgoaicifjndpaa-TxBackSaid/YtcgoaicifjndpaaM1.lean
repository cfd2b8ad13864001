/- Numbers in groups of seven bits, and in eight bytes: what they are, and the plain laws on them. No program in sight. -/
import Derived.Below
import GoSem.Op.String
section
namespace Go.Proofs.Ytcgoaicifjndpaa.Leb
set_option linter.unusedVariables false

/-- Groups of seven bits, the lowest first; at most f + 1 of them. -/
def putF : Nat → Nat → List UInt8
  | 0, n => [UInt8.ofNat n]
  | f + 1, n => if n < 128 then [UInt8.ofNat n] else UInt8.ofNat (n % 128 + 128) :: putF f (n / 128)

def put (v : Int) : List UInt8 := if 0 ≤ v ∧ v ≤ 72057594037927935 then putF 7 v.toNat else []

/-- The number at the head of bytes: its value, how many bytes it has, the error. -/
def nextF : Nat → Bool → List UInt8 → Nat × Nat × Int
  | 0, _, _ => (0, 0, 4)
  | _ + 1, _, [] => (0, 0, 2)
  | f + 1, first, c :: l =>
    if c.toNat < 128 then (if c.toNat = 0 ∧ first = false then (0, 0, 3) else (c.toNat, 1, 0))
    else if (nextF f false l).2.2 = 0 then (c.toNat - 128 + 128 * (nextF f false l).1, (nextF f false l).2.1 + 1, 0) else (0, 0, (nextF f false l).2.2)

def next (s : List UInt8) (at_ : Int) : Int × Int × Int :=
  if at_ < 0 ∨ (s.length : Int) < at_ then (0, 0, 1)
  else if (nextF 8 true (s.drop at_.toNat)).2.2 = 0 then ((nextF 8 true (s.drop at_.toNat)).1, at_ + (nextF 8 true (s.drop at_.toNat)).2.1, 0)
  else (0, 0, (nextF 8 true (s.drop at_.toNat)).2.2)

/-- What a reader that has k groups behind it, which say A, comes to. -/
def fin (s : List UInt8) (p k A : Nat) : Int × Int × Int :=
  if (nextF (8 - k) (k == 0) (s.drop (p + k))).2.2 = 0 then ((A + 128 ^ k * (nextF (8 - k) (k == 0) (s.drop (p + k))).1 : Nat), (p + k + (nextF (8 - k) (k == 0) (s.drop (p + k))).2.1 : Nat), 0)
  else (0, 0, (nextF (8 - k) (k == 0) (s.drop (p + k))).2.2)

theorem fin_start (s : List UInt8) (p : Nat) (h : p ≤ s.length) : fin s p 0 0 = next s p := by
  unfold fin next
  rw [if_neg (show ¬ ((p : Int) < 0 ∨ (s.length : Int) < (p : Int)) by omega)]
  simp

theorem fin_short (s : List UInt8) (p k A : Nat) (hk : k < 8) (h : s.length ≤ p + k) : fin s p k A = (0, 0, 2) := by
  unfold fin
  rw [List.drop_eq_nil_of_le h, show 8 - k = (7 - k) + 1 by omega]
  simp [nextF]

theorem fin_long (s : List UInt8) (p A : Nat) : fin s p 8 A = (0, 0, 4) := by
  unfold fin
  simp [nextF]

theorem fin_more (s : List UInt8) (p k A : Nat) (hk : k < 8) (h : p + k < s.length) (hc : 128 ≤ s[p + k].toNat) :
    fin s p (k + 1) (A + 128 ^ k * (s[p + k].toNat - 128)) = fin s p k A := by
  unfold fin
  rw [List.drop_eq_getElem_cons h, show 8 - k = (8 - (k + 1)) + 1 by omega, show (k + 1 == 0) = false by simp, show p + (k + 1) = p + k + 1 by omega]
  have hx : nextF (8 - (k + 1) + 1) (k == 0) (s[p + k] :: s.drop (p + k + 1)) =
      if (nextF (8 - (k + 1)) false (s.drop (p + k + 1))).2.2 = 0 then (s[p + k].toNat - 128 + 128 * (nextF (8 - (k + 1)) false (s.drop (p + k + 1))).1, (nextF (8 - (k + 1)) false (s.drop (p + k + 1))).2.1 + 1, 0) else (0, 0, (nextF (8 - (k + 1)) false (s.drop (p + k + 1))).2.2) := by
    rw [nextF, if_neg (by omega)]
  rw [hx]
  generalize nextF (8 - (k + 1)) false (s.drop (p + k + 1)) = r
  by_cases hr : r.2.2 = 0
  · simp only [hr, if_true]
    rw [Nat.pow_succ]
    refine Prod.ext ?_ (Prod.ext ?_ rfl)
    · simp only [Nat.mul_add, Nat.mul_assoc, Nat.add_assoc]
    · simp only; omega
  · simp only [hr, if_false]

theorem fin_form (s : List UInt8) (p k A : Nat) (hk : k < 8) (h : p + k < s.length) (hc : s[p + k].toNat = 0) (h0 : 0 < k) : fin s p k A = (0, 0, 3) := by
  unfold fin
  rw [List.drop_eq_getElem_cons h, show 8 - k = (7 - k) + 1 by omega, show (k == 0) = false by simp; omega]
  simp [nextF, hc]

theorem fin_done (s : List UInt8) (p k A : Nat) (hk : k < 8) (h : p + k < s.length) (hc : s[p + k].toNat < 128) (h0 : s[p + k].toNat ≠ 0 ∨ k = 0) :
    fin s p k A = (((A + 128 ^ k * s[p + k].toNat : Nat) : Int), ((p + k + 1 : Nat) : Int), 0) := by
  unfold fin
  rw [List.drop_eq_getElem_cons h, show 8 - k = (7 - k) + 1 by omega, nextF]
  rw [if_pos hc, if_neg (show ¬ (s[p + k].toNat = 0 ∧ (k == 0) = false) by simp; omega)]
  simp

theorem putF_length (f n : Nat) : 1 ≤ (putF f n).length ∧ (putF f n).length ≤ f + 1 := by
  induction f generalizing n with
  | zero => simp [putF]
  | succ f ih =>
    rw [putF]
    split
    · simp
    · have := ih (n / 128); simp; omega

theorem toNat_ofNat {n : Nat} (h : n < 256) : (UInt8.ofNat n).toNat = n := by
  rw [UInt8.toNat_ofNat']; omega

theorem nextF_put (f n : Nat) (first : Bool) (rest : List UInt8) (hn : n < 128 ^ (f + 1)) (h : first = true ∨ 0 < n) :
    nextF (f + 1) first (putF f n ++ rest) = (n, (putF f n).length, 0) := by
  induction f generalizing n first with
  | zero =>
    have hn' : n < 128 := by simpa using hn
    simp only [putF, List.cons_append, List.nil_append, nextF, toNat_ofNat (show n < 256 by omega)]
    rw [if_pos hn', if_neg (by rcases h with h | h <;> simp [h]; omega)]
    rfl
  | succ f ih =>
    rw [putF]
    by_cases hs : n < 128
    · rw [if_pos hs]
      simp only [List.cons_append, List.nil_append, nextF, toNat_ofNat (show n < 256 by omega)]
      rw [if_pos hs, if_neg (by rcases h with h | h <;> simp [h]; omega)]
      rfl
    · rw [if_neg hs]
      have := ih (n / 128) false (by rw [Nat.pow_succ] at hn; exact Nat.div_lt_of_lt_mul (by omega)) (.inr (by omega))
      rw [List.cons_append, nextF, this, toNat_ofNat (show n % 128 + 128 < 256 by omega)]
      rw [if_neg (by omega)]
      simp only [if_true]
      simp
      omega

/-- Reading back what was put. -/
theorem next_put (a : List UInt8) (v : Int) (b : List UInt8) (h0 : 0 ≤ v) (h1 : v ≤ 72057594037927935) :
    next (a ++ put v ++ b) a.length = (v, (a.length : Int) + (put v).length, 0) := by
  have hp : put v = putF 7 v.toNat := by unfold put; rw [if_pos ⟨h0, h1⟩]
  rw [hp]
  unfold next
  rw [if_neg (by simp; omega)]
  have : (List.drop ((a.length : Int)).toNat (a ++ putF 7 v.toNat ++ b)) = putF 7 v.toNat ++ b := by simp
  rw [this, nextF_put 7 v.toNat true b (by simp; omega) (.inl rfl)]
  simp
  omega

theorem nextF_one (f : Nat) (first : Bool) (l : List UInt8) (v n : Nat) (h : nextF (f + 1) first l = (v, n, 0)) :
    1 ≤ n ∧ n ≤ l.length ∧ v < 128 ^ (f + 1) ∧ (first = false → 0 < v) ∧ putF f v = l.take n ∧ ∀ j, j < n → nextF (f + 1) first (l.take j) = (0, 0, 2) := by
  induction f generalizing first l v n with
  | zero =>
    match l, h with
    | [], h => simp [nextF] at h
    | c :: t, h =>
      rw [nextF] at h
      by_cases hc : c.toNat < 128
      · rw [if_pos hc] at h
        by_cases hz : c.toNat = 0 ∧ first = false
        · rw [if_pos hz] at h; simp at h
        · rw [if_neg hz] at h
          simp only [Prod.mk.injEq, and_true] at h
          obtain ⟨rfl, rfl⟩ := h
          refine ⟨by omega, by simp, by omega, fun hf => ?_, by simp [putF], fun j hj => ?_⟩
          · have : ¬ c.toNat = 0 := fun h0 => hz ⟨h0, hf⟩
            omega
          · obtain rfl : j = 0 := by omega
            simp [nextF]
      · rw [if_neg hc] at h
        simp [nextF] at h
  | succ f ih =>
    match l, h with
    | [], h => simp [nextF] at h
    | c :: t, h =>
      rw [nextF] at h
      by_cases hc : c.toNat < 128
      · rw [if_pos hc] at h
        by_cases hz : c.toNat = 0 ∧ first = false
        · rw [if_pos hz] at h; simp at h
        · rw [if_neg hz] at h
          simp only [Prod.mk.injEq, and_true] at h
          obtain ⟨rfl, rfl⟩ := h
          refine ⟨by omega, by simp, ?_, fun hf => ?_, by rw [putF, if_pos hc]; simp, fun j hj => ?_⟩
          · have : 128 ≤ 128 ^ (f + 1 + 1) := by rw [Nat.pow_succ]; have := Nat.pow_pos (n := f + 1) (show 0 < 128 by decide); omega
            omega
          · have : ¬ c.toNat = 0 := fun h0 => hz ⟨h0, hf⟩
            omega
          · obtain rfl : j = 0 := by omega
            simp [nextF]
      · rw [if_neg hc] at h
        generalize hr : nextF (f + 1) false t = r at h
        obtain ⟨v', n', e'⟩ := r
        simp only at h
        by_cases he : e' = 0
        · subst he
          rw [if_pos rfl] at h
          simp only [Prod.mk.injEq, and_true] at h
          obtain ⟨rfl, rfl⟩ := h
          obtain ⟨h1, h2, h3, h4, h5, h6⟩ := ih false t v' n' hr
          have h4 := h4 rfl
          have hb : c.toNat < 256 := c.toNat_lt
          refine ⟨by omega, by simp; omega, ?_, fun _ => by omega, ?_, fun j hj => ?_⟩
          · rw [Nat.pow_succ]; omega
          · rw [putF, if_neg (by omega), show (c.toNat - 128 + 128 * v') % 128 + 128 = c.toNat by omega, show (c.toNat - 128 + 128 * v') / 128 = v' by omega, h5]
            simp
          · match j with
            | 0 => simp [nextF]
            | j + 1 =>
              rw [List.take_succ_cons, nextF, if_neg hc, h6 j (by omega)]
              simp
        · rw [if_neg he] at h
          simp at h
          exact absurd h.2.2 he

theorem put_len (v : Int) (h0 : 0 ≤ v) (h1 : v ≤ 72057594037927935) : 1 ≤ (put v).length ∧ (put v).length ≤ 8 := by
  unfold put
  rw [if_pos ⟨h0, h1⟩]
  have := putF_length 7 v.toNat
  omega

theorem put_len_le (v : Int) : (put v).length ≤ 8 := by
  unfold put
  split
  · have := putF_length 7 v.toNat; omega
  · simp



/-- What is read is the Put of what it says, and no front of it is read. -/
theorem next_one (s : List UInt8) (at_ v end_ : Int) (h : next s at_ = (v, end_, 0)) :
    0 ≤ at_ ∧ at_ < end_ ∧ end_ ≤ s.length ∧ 0 ≤ v ∧ v ≤ 72057594037927935 ∧ put v = (s.drop at_.toNat).take (end_.toNat - at_.toNat) ∧
      ∀ k : Nat, at_ ≤ k → (k : Int) < end_ → next (s.take k) at_ = (0, 0, 2) := by
  unfold next at h
  by_cases hr : at_ < 0 ∨ (s.length : Int) < at_
  · rw [if_pos hr] at h; simp at h
  · rw [if_neg hr] at h
    generalize hx : nextF 8 true (s.drop at_.toNat) = r at h
    obtain ⟨v', n', e'⟩ := r
    simp only at h
    by_cases he : e' = 0
    · subst he
      rw [if_pos rfl] at h
      simp only [Prod.mk.injEq, and_true] at h
      obtain ⟨rfl, rfl⟩ := h
      obtain ⟨h1, h2, h3, h4, h5, h6⟩ := nextF_one 7 true _ _ _ hx
      rw [List.length_drop] at h2
      refine ⟨by omega, by omega, by omega, by omega, by omega, ?_, fun k hk hk' => ?_⟩
      · unfold put
        rw [if_pos (by omega), show ((v' : Int)).toNat = v' by omega, h5]
        congr 1
        omega
      · unfold next
        rw [if_neg (by rw [List.length_take]; omega)]
        have := h6 (k - at_.toNat) (by omega)
        rw [show (s.take k).drop at_.toNat = (s.drop at_.toNat).take (k - at_.toNat) from List.drop_take, this]
        simp
    · rw [if_neg he] at h
      simp at h
      exact absurd h.2.2 he

theorem nextF_err (f : Nat) (first : Bool) (l : List UInt8) : (nextF f first l).2.2 = 0 ∨ (nextF f first l).2.2 = 2 ∨ (nextF f first l).2.2 = 3 ∨ (nextF f first l).2.2 = 4 := by
  induction f generalizing first l with
  | zero => simp [nextF]
  | succ f ih =>
    match l with
    | [] => simp [nextF]
    | c :: t =>
      rw [nextF]
      split
      · split <;> simp
      · split
        · simp
        · exact ih false t

theorem next_bad (s : List UInt8) (at_ : Int) (h : (next s at_).2.2 ≠ 0) :
    next s at_ = (0, 0, (next s at_).2.2) ∧ ((next s at_).2.2 = 1 ↔ at_ < 0 ∨ (s.length : Int) < at_) := by
  unfold next at h ⊢
  by_cases hr : at_ < 0 ∨ (s.length : Int) < at_
  · simp only [if_pos hr]; simp [hr]
  · simp only [if_neg hr] at h ⊢
    have := nextF_err 8 true (s.drop at_.toNat)
    by_cases he : (nextF 8 true (s.drop at_.toNat)).2.2 = 0
    · rw [if_pos he] at h; simp at h
    · simp only [if_neg he]
      refine ⟨trivial, ?_⟩
      simp only [hr, iff_false]
      intro h1
      have h1' : (nextF 8 true (s.drop at_.toNat)).2.2 = 1 := h1
      omega

theorem next_range (s : List UInt8) (at_ : Int) : 0 ≤ (next s at_).1 ∧ (next s at_).1 ≤ 72057594037927935 ∧ 0 ≤ (next s at_).2.1 ∧ (next s at_).2.1 ≤ s.length ∧ 0 ≤ (next s at_).2.2 ∧ (next s at_).2.2 ≤ 4 := by
  by_cases h : (next s at_).2.2 = 0
  · have := next_one s at_ (next s at_).1 (next s at_).2.1 (by rw [← h])
    omega
  · have hb := (next_bad s at_ h).1
    have h1 : (next s at_).1 = 0 := by rw [hb]
    have h2 : (next s at_).2.1 = 0 := by rw [hb]
    have h3 : (next s at_).2.2 = 0 ∨ (next s at_).2.2 = 1 ∨ (next s at_).2.2 = 2 ∨ (next s at_).2.2 = 3 ∨ (next s at_).2.2 = 4 := by
      unfold next
      split
      · simp
      · have := nextF_err 8 true (s.drop at_.toNat)
        split
        · simp
        · show (nextF 8 true (s.drop at_.toNat)).2.2 = 0 ∨ (nextF 8 true (s.drop at_.toNat)).2.2 = 1 ∨ (nextF 8 true (s.drop at_.toNat)).2.2 = 2 ∨ (nextF 8 true (s.drop at_.toNat)).2.2 = 3 ∨ (nextF 8 true (s.drop at_.toNat)).2.2 = 4
          omega
    omega















end Go.Proofs.Ytcgoaicifjndpaa.Leb
end

section
/- What readers answer, plainly. -/
namespace Go.Proofs.Ytcgoaicifjndpaa
set_option linter.unusedVariables false

/-- A text in bytes. -/
def textB (m : List UInt8) : List UInt8 := Leb.put m.length ++ m
/-! What a reader of the bytes l at the place a with the error b answers: a value, the new place, the new error. -/
def failS (b e : Int) : Int := if b = 0 then e else b
def nextS (l : List UInt8) (a b : Int) : Int × Int × Int := if b = 0 then Leb.next l a else (0, a, b)
def withinS (l : List UInt8) (a b least most below above : Int) : Int × Int × Int :=
  let n := nextS l a b
  let b1 := if n.1 < least then failS n.2.2 below else n.2.2
  let b2 := if most < n.1 then failS b1 above else b1
  if b2 = 0 then (n.1, n.2.1, 0) else (0, a, b2)
def numS (l : List UInt8) (a b least most : Int) : Int × Int × Int :=
  if b ≠ 0 then (0, a, b) else if (Leb.next l a).2.2 ≠ 0 then (0, a, (Leb.next l a).2.2)
  else if (Leb.next l a).1 < least ∨ most < (Leb.next l a).1 then (0, a, 1) else ((Leb.next l a).1, (Leb.next l a).2.1, 0)
def countS (l : List UInt8) (a b most : Int) : Int × Int × Int :=
  if b ≠ 0 then (0, a, b) else if (Leb.next l a).2.2 ≠ 0 then (0, a, (Leb.next l a).2.2)
  else if most < (Leb.next l a).1 then (0, a, 4) else ((Leb.next l a).1, (Leb.next l a).2.1, 0)
def cut (l : List UInt8) (a n : Int) : List UInt8 := (l.drop a.toNat).take n.toNat
def textS (l : List UInt8) (a b most : Int) : List UInt8 × Int × Int :=
  if b ≠ 0 then ([], a, b) else if (Leb.next l a).2.2 ≠ 0 then ([], a, (Leb.next l a).2.2)
  else if most < (Leb.next l a).1 then ([], a, 4) else if (l.length : Int) - (Leb.next l a).2.1 < (Leb.next l a).1 then ([], a, 2)
  else (cut l (Leb.next l a).2.1 (Leb.next l a).1, (Leb.next l a).2.1 + (Leb.next l a).1, 0)
def hashS (l : List UInt8) (a b : Int) : List UInt8 × Int × Int :=
  if b ≠ 0 then (List.replicate 32 0, a, b) else if (l.length : Int) - a < 32 then (List.replicate 32 0, a, 2) else (cut l a 32, a + 32, 0)
def endS (l : List UInt8) (a b : Int) : Int := if b = 0 ∧ a < (l.length : Int) then 3 else b

theorem within_num (l : List UInt8) (a b least most : Int) : withinS l a b least most 1 1 = numS l a b least most := by
  unfold withinS numS nextS failS
  by_cases hb : b = 0
  · simp only [hb, if_true, ne_eq, not_true_eq_false, if_false]
    generalize Leb.next l a = r
    obtain ⟨v, p, e⟩ := r
    by_cases he : e = 0
    · simp only [he, if_true, not_true_eq_false, if_false]
      by_cases h1 : v < least <;> by_cases h2 : most < v <;> simp [h1, h2]
    · simp only [he, if_false, not_false_eq_true, if_true]
      by_cases h1 : v < least <;> by_cases h2 : most < v <;> simp [h1, h2, he]
  · simp only [hb, if_false, ne_eq, not_false_eq_true, if_true]
    by_cases h1 : (0 : Int) < least <;> by_cases h2 : most < (0 : Int) <;> simp [h1, h2, hb]

theorem within_count (l : List UInt8) (a b most : Int) : withinS l a b 0 most 0 4 = countS l a b most := by
  unfold withinS countS nextS failS
  by_cases hb : b = 0
  · simp only [hb, if_true, ne_eq, not_true_eq_false, if_false]
    have hv := (Leb.next_range l a).1
    generalize Leb.next l a = r at *
    obtain ⟨v, p, e⟩ := r
    have hv' : ¬ v < 0 := by have : 0 ≤ v := hv; omega
    by_cases he : e = 0
    · simp only [he, if_true, not_true_eq_false, if_false]
      by_cases h2 : most < v <;> simp [hv', h2]
    · simp only [he, if_false, not_false_eq_true, if_true]
      by_cases h2 : most < v <;> simp [hv', h2, he]
  · simp only [hb, if_false, ne_eq, not_false_eq_true, if_true]
    by_cases h2 : most < (0 : Int) <;> simp [h2, hb]

/-- The place is in the bytes, the error is a small number. -/
def okRd (l : List UInt8) (a b : Int) : Prop := 0 ≤ a ∧ a ≤ l.length ∧ l.length ≤ 140737488351232 ∧ 0 ≤ b ∧ b ≤ 100

theorem next_le (l : List UInt8) (a b : Int) (ho : okRd l a b) : 0 ≤ (nextS l a b).1 ∧ (nextS l a b).1 ≤ 72057594037927935 ∧ 0 ≤ (nextS l a b).2.1 ∧ (nextS l a b).2.1 ≤ l.length := by
  unfold nextS
  obtain ⟨h1, h2, h3, h4, h5⟩ := ho
  split
  · have := Leb.next_range l a; omega
  · simp; omega

theorem text_bad (l : List UInt8) (a b most : Int) (h : (nextS l a b).2.2 ≠ 0) : textS l a b most = ([], a, (nextS l a b).2.2) ∧ (nextS l a b).1 = 0 := by
  unfold nextS at h ⊢
  unfold textS
  by_cases hb : b = 0
  · simp only [hb, if_true, ne_eq, not_true_eq_false, if_false] at h ⊢
    have := (Leb.next_bad l a h).1
    exact ⟨by rw [if_pos h], by rw [this]⟩
  · simp [hb]

theorem text_ok (l : List UInt8) (a b most : Int) (h : (nextS l a b).2.2 = 0) :
    textS l a b most = if most < (nextS l a b).1 then ([], a, 4) else if (l.length : Int) - (nextS l a b).2.1 < (nextS l a b).1 then ([], a, 2) else (cut l (nextS l a b).2.1 (nextS l a b).1, (nextS l a b).2.1 + (nextS l a b).1, 0) := by
  unfold nextS at h ⊢
  unfold textS
  by_cases hb : b = 0
  · simp only [hb, if_true, ne_eq, not_true_eq_false, if_false] at h ⊢
    rw [if_neg (by simp [h])]
  · simp only [hb, if_false] at h

theorem text_eq (l : List UInt8) (a b hi : Int) : textS l a b hi = if (nextS l a b).2.2 ≠ 0 then ([], a, (nextS l a b).2.2) else if hi < (nextS l a b).1 then ([], a, 4) else if (l.length : Int) - (nextS l a b).2.1 < (nextS l a b).1 then ([], a, 2) else (cut l (nextS l a b).2.1 (nextS l a b).1, (nextS l a b).2.1 + (nextS l a b).1, 0) := by
  by_cases h : (nextS l a b).2.2 = 0
  · rw [if_neg (by simp [h]), text_ok l a b hi h]
  · rw [if_pos h, (text_bad l a b hi h).1]

theorem ok_num {l : List UInt8} {a b lo hi : Int} (h : okRd l a b) : okRd l (numS l a b lo hi).2.1 (numS l a b lo hi).2.2 := by
  obtain ⟨h1, h2, h3, h4, h5⟩ := h
  have := Leb.next_range l a
  unfold numS okRd
  split
  · exact ⟨h1, h2, h3, h4, h5⟩
  · split
    · dsimp only; omega
    · split
      · dsimp only; omega
      · dsimp only; omega
theorem ok_count {l : List UInt8} {a b hi : Int} (h : okRd l a b) : okRd l (countS l a b hi).2.1 (countS l a b hi).2.2 := by
  obtain ⟨h1, h2, h3, h4, h5⟩ := h
  have := Leb.next_range l a
  unfold countS okRd
  split
  · exact ⟨h1, h2, h3, h4, h5⟩
  · split
    · dsimp only; omega
    · split
      · dsimp only; omega
      · dsimp only; omega
theorem ok_text {l : List UInt8} {a b hi : Int} (h : okRd l a b) : okRd l (textS l a b hi).2.1 (textS l a b hi).2.2 := by
  obtain ⟨h1, h2, h3, h4, h5⟩ := h
  have := Leb.next_range l a
  unfold textS okRd
  split
  · exact ⟨h1, h2, h3, h4, h5⟩
  · split
    · dsimp only; omega
    · split
      · dsimp only; omega
      · split
        · dsimp only; omega
        · dsimp only; omega
theorem ok_start {l : List UInt8} (h : l.length ≤ 140737488351232) : okRd l 0 0 := ⟨by omega, by omega, h, by omega, by omega⟩
end Go.Proofs.Ytcgoaicifjndpaa
end

section
/- Readers and what they read back, plainly: one law for each way of putting readers together. -/
namespace Go.Proofs.Ytcgoaicifjndpaa
set_option linter.unusedVariables false
set_option linter.unusedSimpArgs false

def rNum (lo hi : Int) (l : List UInt8) (s : Int × Int) : Int × Int × Int := numS l s.1 s.2 lo hi
def rText (hi : Int) (l : List UInt8) (s : Int × Int) : List UInt8 × Int × Int := textS l s.1 s.2 hi
def rIf {α : Type} (c : Bool) (d : α) (r : List UInt8 → Int × Int → α × Int × Int) (l : List UInt8) (s : Int × Int) : α × Int × Int := if c then r l s else (d, s)
/-- r reads back what E writes of the values that V allows, reads nothing else, and says that too few bytes are too few. -/
structure Codec {α : Type} (r : List UInt8 → Int × Int → α × Int × Int) (E : α → List UInt8) (V : α → Prop) : Prop where
  stick : ∀ l s, s.2 ≠ 0 → (r l s).2 = s
  back : ∀ p x q, V x → r (p ++ E x ++ q) ((p.length : Int), 0) = (x, (((p ++ E x).length : Nat) : Int), 0)
  one : ∀ l (a : Nat) x a', a ≤ l.length → r l ((a : Int), 0) = (x, a', 0) → V x ∧ ∃ p q, l = p ++ E x ++ q ∧ p.length = a ∧ a' = (((p ++ E x).length : Nat) : Int)
  short : ∀ p x (k : Nat), V x → k < (E x).length → (r (p ++ (E x).take k) ((p.length : Int), 0)).2.2 = 2

theorem Codec.bind {α β : Type} {r : List UInt8 → Int × Int → α × Int × Int} {E : α → List UInt8} {V : α → Prop} {f : α → List UInt8 → Int × Int → β × Int × Int} {F : α → β → List UInt8} {U : α → β → Prop}
    (h : Codec r E V) (hf : ∀ x, Codec (f x) (F x) (U x)) :
    Codec (fun l s => (((r l s).1, (f (r l s).1 l (r l s).2).1), (f (r l s).1 l (r l s).2).2)) (fun z => E z.1 ++ F z.1 z.2) (fun z => V z.1 ∧ U z.1 z.2) where
  stick := fun l s hs => by
    have h1 := h.stick l s hs
    show (f (r l s).1 l (r l s).2).2 = s
    rw [h1]
    exact (hf _).stick l s hs
  back := fun p x q hx => by
    obtain ⟨x, y⟩ := x
    have h1 := h.back p x (F x y ++ q) hx.1
    have h2 := (hf x).back (p ++ E x) y q hx.2
    have e : p ++ (E x ++ F x y) ++ q = p ++ E x ++ (F x y ++ q) := by simp
    have e2 : p ++ E x ++ (F x y ++ q) = p ++ E x ++ F x y ++ q := by simp
    show (((r (p ++ (E x ++ F x y) ++ q) _).1, (f (r (p ++ (E x ++ F x y) ++ q) _).1 (p ++ (E x ++ F x y) ++ q) (r (p ++ (E x ++ F x y) ++ q) _).2).1), (f (r (p ++ (E x ++ F x y) ++ q) _).1 (p ++ (E x ++ F x y) ++ q) (r (p ++ (E x ++ F x y) ++ q) _).2).2) = _
    rw [e, h1]
    dsimp only
    rw [e2, h2]
    simp
  one := fun l a x a' ha hx => by
    obtain ⟨x, y⟩ := x
    simp only [Prod.mk.injEq] at hx
    obtain ⟨⟨hx1, hx2⟩, hx3⟩ := hx
    have hb : (r l ((a : Int), 0)).2.2 = 0 := by
      refine Decidable.byContradiction fun hb => ?_
      have := (hf (r l ((a : Int), 0)).1).stick l _ hb
      rw [hx3] at this
      rw [← this] at hb
      exact hb rfl
    obtain ⟨v1, p, q, rfl, hp, hq⟩ := h.one l a x (r l ((a : Int), 0)).2.1 ha (Prod.ext hx1 (Prod.ext rfl hb))
    have hs : (r (p ++ E x ++ q) ((a : Int), 0)).2 = ((((p ++ E x).length : Nat) : Int), 0) := Prod.ext hq hb
    rw [hx1, hs] at hx2 hx3
    obtain ⟨v2, p', q', e, hp', hq'⟩ := (hf x).one (p ++ E x ++ q) (p ++ E x).length y a' (by simp) (Prod.ext hx2 hx3)
    have e1 : p ++ E x ++ q = p' ++ (F x y ++ q') := by rw [e]; simp
    have e3 : p' = p ++ E x := ((List.append_inj' e1 (by
      have := congrArg List.length e1
      simp only [List.length_append] at this hp' ⊢
      omega)).1).symm
    subst e3
    exact ⟨⟨v1, v2⟩, p, q', by rw [e]; simp, hp, by rw [hq']; simp⟩
  short := fun p x k hx hk => by
    obtain ⟨x, y⟩ := x
    simp only [List.length_append] at hk
    show (f (r (p ++ (E x ++ F x y).take k) _).1 (p ++ (E x ++ F x y).take k) (r (p ++ (E x ++ F x y).take k) _).2).2.2 = 2
    by_cases hk1 : k < (E x).length
    · rw [List.take_append_of_le_length (by omega)]
      have h1 := h.short p x k hx.1 hk1
      have := (hf (r (p ++ (E x).take k) ((p.length : Int), 0)).1).stick (p ++ (E x).take k) (r (p ++ (E x).take k) ((p.length : Int), 0)).2 (by rw [h1]; decide)
      rw [this, h1]
    · have e : (E x ++ F x y).take k = E x ++ (F x y).take (k - (E x).length) := by
        rw [List.take_append, List.take_of_length_le (by omega)]
      rw [e]
      have h1 := h.back p x ((F x y).take (k - (E x).length)) hx.1
      rw [← List.append_assoc, h1]
      exact (hf x).short (p ++ E x) y (k - (E x).length) hx.2 (by omega)

theorem Codec.ite {α : Type} {r : List UInt8 → Int × Int → α × Int × Int} {E : α → List UInt8} {V : α → Prop} (h : Codec r E V) (c : Bool) (d : α) :
    Codec (rIf c d r) (fun x => if c then E x else []) (fun x => if c then V x else x = d) := by
  cases c
  · exact {
      stick := fun l s hs => rfl
      back := fun p x q hx => by
        obtain rfl : x = d := by simpa using hx
        simp [rIf]
      one := fun l a x a' ha hx => by
        simp only [rIf, Prod.mk.injEq] at hx
        obtain ⟨h1, h2, _⟩ := (by simpa using hx : d = x ∧ (a : Int) = a' ∧ True)
        refine ⟨by simp [h1], l.take a, l.drop a, by simp, by simp; omega, ?_⟩
        simp
        omega
      short := fun p x k hx hk => by simp at hk }
  · exact h

theorem Codec.map {α β : Type} {r : List UInt8 → Int × Int → α × Int × Int} {E : α → List UInt8} {V : α → Prop} (h : Codec r E V) (f : α → β) (g : β → α) (gf : ∀ x, g (f x) = x) (fg : ∀ y, f (g y) = y) :
    Codec (fun l s => (f (r l s).1, (r l s).2)) (fun y => E (g y)) (fun y => V (g y)) where
  stick := fun l s hs => h.stick l s hs
  back := fun p x q hx => by
    show (f (r (p ++ E (g x) ++ q) _).1, (r (p ++ E (g x) ++ q) _).2) = _
    rw [h.back p (g x) q hx, fg]
  one := fun l a x a' ha hx => by
    simp only [Prod.mk.injEq] at hx
    obtain ⟨h1, h2⟩ := hx
    subst h1
    rw [gf]
    exact h.one l a _ a' ha (Prod.ext rfl h2)
  short := fun p x k hx hk => h.short p (g x) k hx hk

theorem take_put (p : List UInt8) (v : Int) (k : Nat) (h0 : 0 ≤ v) (h1 : v ≤ 72057594037927935) (hk : k < (Leb.put v).length) : Leb.next (p ++ (Leb.put v).take k) p.length = (0, 0, 2) := by
  have h := Leb.next_put p v [] h0 h1
  have := (Leb.next_one _ _ _ _ h).2.2.2.2.2.2 (p.length + k) (by omega) (by omega)
  rw [List.append_nil] at this
  have e : (p ++ Leb.put v).take (p.length + k) = p ++ (Leb.put v).take k := by
    rw [List.take_append, List.take_of_length_le (by omega)]
    congr 2
    omega
  rw [e] at this
  exact this

theorem Codec.num (lo hi : Int) (h0 : 0 ≤ lo) (h1 : hi ≤ 72057594037927935) : Codec (rNum lo hi) Leb.put (fun v => lo ≤ v ∧ v ≤ hi) where
  stick := fun l s hs => by
    unfold rNum numS
    rw [if_pos hs]
  back := fun p v q hv => by
    unfold rNum numS
    rw [Leb.next_put p v q (by omega) (by omega)]
    dsimp only
    rw [if_neg (by simp), if_neg (by simp), if_neg (by omega)]
    simp
  one := fun l a v a' ha hv => by
    unfold rNum numS at hv
    dsimp only at hv
    rw [if_neg (by simp)] at hv
    by_cases he : (Leb.next l a).2.2 = 0
    · rw [if_neg (by simp [he])] at hv
      by_cases hr : (Leb.next l a).1 < lo ∨ hi < (Leb.next l a).1
      · rw [if_pos hr] at hv
        simp at hv
      · rw [if_neg hr] at hv
        simp only [Prod.mk.injEq] at hv
        obtain ⟨e1, e2, _⟩ := hv
        obtain ⟨g1, g2, g3, g4, g5, g6, _⟩ := Leb.next_one l a v a' (by rw [← e1, ← e2, ← he])
        have hl : (Leb.put v).length = a'.toNat - a := by
          rw [g6, List.length_take, List.length_drop]
          have : (a : Int).toNat = a := by omega
          omega
        refine ⟨by omega, l.take a, (l.drop a).drop (a'.toNat - a), ?_, by simp; omega, ?_⟩
        · have e : Leb.put v = (l.drop a).take (a'.toNat - a) := by rw [g6]; congr 1
          rw [e, List.append_assoc, List.take_append_drop, List.take_append_drop]
        · rw [List.length_append, List.length_take, hl]
          omega
    · rw [if_pos he] at hv
      simp only [Prod.mk.injEq] at hv
      exact absurd hv.2.2 he
  short := fun p v k hv hk => by
    unfold rNum numS
    dsimp only
    rw [take_put p v k (by omega) (by omega) hk]
    simp

theorem Codec.text (hi : Int) (h1 : hi ≤ 72057594037927935) : Codec (rText hi) (fun m => Leb.put m.length ++ m) (fun m => (m.length : Int) ≤ hi) where
  stick := fun l s hs => by
    unfold rText textS
    rw [if_pos hs]
  back := fun p m q hm => by
    have e : p ++ (Leb.put m.length ++ m) ++ q = p ++ Leb.put m.length ++ (m ++ q) := by simp
    rw [e]
    unfold rText textS
    dsimp only
    rw [Leb.next_put p m.length (m ++ q) (by omega) (by omega)]
    dsimp only
    rw [if_neg (by simp), if_neg (by simp), if_neg (by omega), if_neg (by simp; omega)]
    have hc : cut (p ++ Leb.put m.length ++ (m ++ q)) ((p.length : Int) + (Leb.put m.length).length) m.length = m := by
      unfold cut
      have : ((p.length : Int) + (Leb.put m.length).length).toNat = (p ++ Leb.put m.length).length := by simp; omega
      rw [this, List.drop_left]
      simp
    rw [hc]
    simp
    omega
  one := fun l a m a' ha hm => by
    unfold rText textS at hm
    dsimp only at hm
    rw [if_neg (by simp)] at hm
    by_cases he : (Leb.next l a).2.2 = 0
    · rw [if_neg (by simp [he])] at hm
      by_cases hr : hi < (Leb.next l a).1
      · rw [if_pos hr] at hm
        simp at hm
      · rw [if_neg hr] at hm
        by_cases hs : (l.length : Int) - (Leb.next l a).2.1 < (Leb.next l a).1
        · rw [if_pos hs] at hm
          simp at hm
        · rw [if_neg hs] at hm
          simp only [Prod.mk.injEq] at hm
          obtain ⟨e1, e2, _⟩ := hm
          obtain ⟨g1, g2, g3, g4, g5, g6, _⟩ := Leb.next_one l a (Leb.next l a).1 (Leb.next l a).2.1 (by rw [← he])
          generalize (Leb.next l a).1 = n at *
          generalize (Leb.next l a).2.1 = z at *
          have hn : m.length = n.toNat := by
            rw [← e1]
            unfold cut
            rw [List.length_take, List.length_drop]
            omega
          have hn' : n = (m.length : Int) := by omega
          subst hn'
          have ep : Leb.put m.length = (l.drop a).take (z.toNat - a) := by rw [g6]; congr 1
          have hl : (Leb.put m.length).length = z.toNat - a := by
            rw [ep, List.length_take, List.length_drop]
            omega
          have em : m = (l.drop z.toNat).take m.length := by
            conv => lhs; rw [← e1]
            unfold cut
            simp
          refine ⟨by omega, l.take a, (l.drop z.toNat).drop m.length, ?_, by simp; omega, ?_⟩
          · have e3 : l.take a ++ (Leb.put m.length ++ m) ++ (l.drop z.toNat).drop m.length = l.take a ++ ((l.drop a).take (z.toNat - a) ++ ((l.drop z.toNat).take m.length ++ (l.drop z.toNat).drop m.length)) := by
              rw [← ep, ← em]
              simp
            rw [e3, List.take_append_drop]
            have e4 : l.drop z.toNat = (l.drop a).drop (z.toNat - a) := by
              rw [List.drop_drop]
              congr 1
              omega
            rw [e4, List.take_append_drop, List.take_append_drop]
          · rw [List.length_append, List.length_append, List.length_take, hl]
            omega
    · rw [if_pos he] at hm
      simp only [Prod.mk.injEq] at hm
      exact absurd hm.2.2 he
  short := fun p m k hm hk => by
    simp only [List.length_append] at hk
    unfold rText textS
    dsimp only
    by_cases hk1 : k < (Leb.put m.length).length
    · rw [List.take_append_of_le_length (by omega), take_put p m.length k (by omega) (by omega) hk1]
      simp
    · have e : (Leb.put m.length ++ m).take k = Leb.put m.length ++ m.take (k - (Leb.put m.length).length) := by
        rw [List.take_append, List.take_of_length_le (by omega)]
      rw [e, ← List.append_assoc, Leb.next_put p m.length _ (by omega) (by omega)]
      dsimp only
      rw [if_neg (by simp), if_neg (by simp), if_neg (by omega), if_pos (by simp; omega)]
end Go.Proofs.Ytcgoaicifjndpaa
end
