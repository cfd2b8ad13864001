/- Numbers in groups of seven bits, and in eight bytes: what they are, and the plain laws on them. No program in sight. -/
import Derived.Below
import GoSem.Op.String
namespace Go.Proofs.Ytfchejgohegbgaa.Leb
set_option linter.unusedVariables false

/-- Groups of seven bits, the lowest first; at most f + 1 of them. -/
def putF : Nat → Nat → List UInt8
  | 0, n => [UInt8.ofNat n]
  | f + 1, n => if n < 128 then [UInt8.ofNat n] else UInt8.ofNat (n % 128 + 128) :: putF f (n / 128)

def put (v : Int) : List UInt8 := if 0 ≤ v ∧ v ≤ 72057594037927935 then putF 7 v.toNat else []

/-- The number at the head of bytes: its value, how many bytes it has, the error. -/
def nextF : Nat → Bool → List UInt8 → Nat × Nat × Int
  | 0, _, _ => (0, 0, 4)
  | _ + 1, _, [] => (0, 0, 2)
  | f + 1, first, c :: l =>
    if c.toNat < 128 then (if c.toNat = 0 ∧ first = false then (0, 0, 3) else (c.toNat, 1, 0))
    else if (nextF f false l).2.2 = 0 then (c.toNat - 128 + 128 * (nextF f false l).1, (nextF f false l).2.1 + 1, 0) else (0, 0, (nextF f false l).2.2)

def next (s : List UInt8) (at_ : Int) : Int × Int × Int :=
  if at_ < 0 ∨ (s.length : Int) < at_ then (0, 0, 1)
  else if (nextF 8 true (s.drop at_.toNat)).2.2 = 0 then ((nextF 8 true (s.drop at_.toNat)).1, at_ + (nextF 8 true (s.drop at_.toNat)).2.1, 0)
  else (0, 0, (nextF 8 true (s.drop at_.toNat)).2.2)

/-- What a reader that has k groups behind it, which say A, comes to. -/
def fin (s : List UInt8) (p k A : Nat) : Int × Int × Int :=
  if (nextF (8 - k) (k == 0) (s.drop (p + k))).2.2 = 0 then ((A + 128 ^ k * (nextF (8 - k) (k == 0) (s.drop (p + k))).1 : Nat), (p + k + (nextF (8 - k) (k == 0) (s.drop (p + k))).2.1 : Nat), 0)
  else (0, 0, (nextF (8 - k) (k == 0) (s.drop (p + k))).2.2)

theorem fin_start (s : List UInt8) (p : Nat) (h : p ≤ s.length) : fin s p 0 0 = next s p := by
  unfold fin next
  rw [if_neg (show ¬ ((p : Int) < 0 ∨ (s.length : Int) < (p : Int)) by omega)]
  simp

theorem fin_short (s : List UInt8) (p k A : Nat) (hk : k < 8) (h : s.length ≤ p + k) : fin s p k A = (0, 0, 2) := by
  unfold fin
  rw [List.drop_eq_nil_of_le h, show 8 - k = (7 - k) + 1 by omega]
  simp [nextF]

theorem fin_long (s : List UInt8) (p A : Nat) : fin s p 8 A = (0, 0, 4) := by
  unfold fin
  simp [nextF]

theorem fin_more (s : List UInt8) (p k A : Nat) (hk : k < 8) (h : p + k < s.length) (hc : 128 ≤ s[p + k].toNat) :
    fin s p (k + 1) (A + 128 ^ k * (s[p + k].toNat - 128)) = fin s p k A := by
  unfold fin
  rw [List.drop_eq_getElem_cons h, show 8 - k = (8 - (k + 1)) + 1 by omega, show (k + 1 == 0) = false by simp, show p + (k + 1) = p + k + 1 by omega]
  have hx : nextF (8 - (k + 1) + 1) (k == 0) (s[p + k] :: s.drop (p + k + 1)) =
      if (nextF (8 - (k + 1)) false (s.drop (p + k + 1))).2.2 = 0 then (s[p + k].toNat - 128 + 128 * (nextF (8 - (k + 1)) false (s.drop (p + k + 1))).1, (nextF (8 - (k + 1)) false (s.drop (p + k + 1))).2.1 + 1, 0) else (0, 0, (nextF (8 - (k + 1)) false (s.drop (p + k + 1))).2.2) := by
    rw [nextF, if_neg (by omega)]
  rw [hx]
  generalize nextF (8 - (k + 1)) false (s.drop (p + k + 1)) = r
  by_cases hr : r.2.2 = 0
  · simp only [hr, if_true]
    rw [Nat.pow_succ]
    refine Prod.ext ?_ (Prod.ext ?_ rfl)
    · simp only [Nat.mul_add, Nat.mul_assoc, Nat.add_assoc]
    · simp only; omega
  · simp only [hr, if_false]

theorem fin_form (s : List UInt8) (p k A : Nat) (hk : k < 8) (h : p + k < s.length) (hc : s[p + k].toNat = 0) (h0 : 0 < k) : fin s p k A = (0, 0, 3) := by
  unfold fin
  rw [List.drop_eq_getElem_cons h, show 8 - k = (7 - k) + 1 by omega, show (k == 0) = false by simp; omega]
  simp [nextF, hc]

theorem fin_done (s : List UInt8) (p k A : Nat) (hk : k < 8) (h : p + k < s.length) (hc : s[p + k].toNat < 128) (h0 : s[p + k].toNat ≠ 0 ∨ k = 0) :
    fin s p k A = (((A + 128 ^ k * s[p + k].toNat : Nat) : Int), ((p + k + 1 : Nat) : Int), 0) := by
  unfold fin
  rw [List.drop_eq_getElem_cons h, show 8 - k = (7 - k) + 1 by omega, nextF]
  rw [if_pos hc, if_neg (show ¬ (s[p + k].toNat = 0 ∧ (k == 0) = false) by simp; omega)]
  simp

theorem putF_length (f n : Nat) : 1 ≤ (putF f n).length ∧ (putF f n).length ≤ f + 1 := by
  induction f generalizing n with
  | zero => simp [putF]
  | succ f ih =>
    rw [putF]
    split
    · simp
    · have := ih (n / 128); simp; omega

theorem toNat_ofNat {n : Nat} (h : n < 256) : (UInt8.ofNat n).toNat = n := by
  rw [UInt8.toNat_ofNat']; omega

theorem nextF_put (f n : Nat) (first : Bool) (rest : List UInt8) (hn : n < 128 ^ (f + 1)) (h : first = true ∨ 0 < n) :
    nextF (f + 1) first (putF f n ++ rest) = (n, (putF f n).length, 0) := by
  induction f generalizing n first with
  | zero =>
    have hn' : n < 128 := by simpa using hn
    simp only [putF, List.cons_append, List.nil_append, nextF, toNat_ofNat (show n < 256 by omega)]
    rw [if_pos hn', if_neg (by rcases h with h | h <;> simp [h]; omega)]
    rfl
  | succ f ih =>
    rw [putF]
    by_cases hs : n < 128
    · rw [if_pos hs]
      simp only [List.cons_append, List.nil_append, nextF, toNat_ofNat (show n < 256 by omega)]
      rw [if_pos hs, if_neg (by rcases h with h | h <;> simp [h]; omega)]
      rfl
    · rw [if_neg hs]
      have := ih (n / 128) false (by rw [Nat.pow_succ] at hn; exact Nat.div_lt_of_lt_mul (by omega)) (.inr (by omega))
      rw [List.cons_append, nextF, this, toNat_ofNat (show n % 128 + 128 < 256 by omega)]
      rw [if_neg (by omega)]
      simp only [if_true]
      simp
      omega

/-- Reading back what was put. -/
theorem next_put (a : List UInt8) (v : Int) (b : List UInt8) (h0 : 0 ≤ v) (h1 : v ≤ 72057594037927935) :
    next (a ++ put v ++ b) a.length = (v, (a.length : Int) + (put v).length, 0) := by
  have hp : put v = putF 7 v.toNat := by unfold put; rw [if_pos ⟨h0, h1⟩]
  rw [hp]
  unfold next
  rw [if_neg (by simp; omega)]
  have : (List.drop ((a.length : Int)).toNat (a ++ putF 7 v.toNat ++ b)) = putF 7 v.toNat ++ b := by simp
  rw [this, nextF_put 7 v.toNat true b (by simp; omega) (.inl rfl)]
  simp
  omega

theorem nextF_one (f : Nat) (first : Bool) (l : List UInt8) (v n : Nat) (h : nextF (f + 1) first l = (v, n, 0)) :
    1 ≤ n ∧ n ≤ l.length ∧ v < 128 ^ (f + 1) ∧ (first = false → 0 < v) ∧ putF f v = l.take n ∧ ∀ j, j < n → nextF (f + 1) first (l.take j) = (0, 0, 2) := by
  induction f generalizing first l v n with
  | zero =>
    match l, h with
    | [], h => simp [nextF] at h
    | c :: t, h =>
      rw [nextF] at h
      by_cases hc : c.toNat < 128
      · rw [if_pos hc] at h
        by_cases hz : c.toNat = 0 ∧ first = false
        · rw [if_pos hz] at h; simp at h
        · rw [if_neg hz] at h
          simp only [Prod.mk.injEq, and_true] at h
          obtain ⟨rfl, rfl⟩ := h
          refine ⟨by omega, by simp, by omega, fun hf => ?_, by simp [putF], fun j hj => ?_⟩
          · have : ¬ c.toNat = 0 := fun h0 => hz ⟨h0, hf⟩
            omega
          · obtain rfl : j = 0 := by omega
            simp [nextF]
      · rw [if_neg hc] at h
        simp [nextF] at h
  | succ f ih =>
    match l, h with
    | [], h => simp [nextF] at h
    | c :: t, h =>
      rw [nextF] at h
      by_cases hc : c.toNat < 128
      · rw [if_pos hc] at h
        by_cases hz : c.toNat = 0 ∧ first = false
        · rw [if_pos hz] at h; simp at h
        · rw [if_neg hz] at h
          simp only [Prod.mk.injEq, and_true] at h
          obtain ⟨rfl, rfl⟩ := h
          refine ⟨by omega, by simp, ?_, fun hf => ?_, by rw [putF, if_pos hc]; simp, fun j hj => ?_⟩
          · have : 128 ≤ 128 ^ (f + 1 + 1) := by rw [Nat.pow_succ]; have := Nat.pow_pos (n := f + 1) (show 0 < 128 by decide); omega
            omega
          · have : ¬ c.toNat = 0 := fun h0 => hz ⟨h0, hf⟩
            omega
          · obtain rfl : j = 0 := by omega
            simp [nextF]
      · rw [if_neg hc] at h
        generalize hr : nextF (f + 1) false t = r at h
        obtain ⟨v', n', e'⟩ := r
        simp only at h
        by_cases he : e' = 0
        · subst he
          rw [if_pos rfl] at h
          simp only [Prod.mk.injEq, and_true] at h
          obtain ⟨rfl, rfl⟩ := h
          obtain ⟨h1, h2, h3, h4, h5, h6⟩ := ih false t v' n' hr
          have h4 := h4 rfl
          have hb : c.toNat < 256 := c.toNat_lt
          refine ⟨by omega, by simp; omega, ?_, fun _ => by omega, ?_, fun j hj => ?_⟩
          · rw [Nat.pow_succ]; omega
          · rw [putF, if_neg (by omega), show (c.toNat - 128 + 128 * v') % 128 + 128 = c.toNat by omega, show (c.toNat - 128 + 128 * v') / 128 = v' by omega, h5]
            simp
          · match j with
            | 0 => simp [nextF]
            | j + 1 =>
              rw [List.take_succ_cons, nextF, if_neg hc, h6 j (by omega)]
              simp
        · rw [if_neg he] at h
          simp at h
          exact absurd h.2.2 he

theorem put_len (v : Int) (h0 : 0 ≤ v) (h1 : v ≤ 72057594037927935) : 1 ≤ (put v).length ∧ (put v).length ≤ 8 := by
  unfold put
  rw [if_pos ⟨h0, h1⟩]
  have := putF_length 7 v.toNat
  omega

theorem put_len_le (v : Int) : (put v).length ≤ 8 := by
  unfold put
  split
  · have := putF_length 7 v.toNat; omega
  · simp

theorem putF_mono (f a b : Nat) (h : a ≤ b) : (putF f a).length ≤ (putF f b).length := by
  induction f generalizing a b with
  | zero => simp [putF]
  | succ f ih =>
    rw [putF, putF]
    by_cases hb : b < 128
    · rw [if_pos (by omega), if_pos hb]; simp
    · rw [if_neg hb]
      split
      · simp
      · have := ih (a / 128) (b / 128) (by omega); simpa using this

theorem put_inj (a b : Int) (ha : 0 ≤ a ∧ a ≤ 72057594037927935) (hb : 0 ≤ b ∧ b ≤ 72057594037927935) (h : put a = put b) : a = b := by
  have h1 := next_put [] a [] ha.1 ha.2
  have h2 := next_put [] b [] hb.1 hb.2
  rw [h] at h1
  rw [h1] at h2
  simpa using h2

/-- What is read is the Put of what it says, and no front of it is read. -/
theorem next_one (s : List UInt8) (at_ v end_ : Int) (h : next s at_ = (v, end_, 0)) :
    0 ≤ at_ ∧ at_ < end_ ∧ end_ ≤ s.length ∧ 0 ≤ v ∧ v ≤ 72057594037927935 ∧ put v = (s.drop at_.toNat).take (end_.toNat - at_.toNat) ∧
      ∀ k : Nat, at_ ≤ k → (k : Int) < end_ → next (s.take k) at_ = (0, 0, 2) := by
  unfold next at h
  by_cases hr : at_ < 0 ∨ (s.length : Int) < at_
  · rw [if_pos hr] at h; simp at h
  · rw [if_neg hr] at h
    generalize hx : nextF 8 true (s.drop at_.toNat) = r at h
    obtain ⟨v', n', e'⟩ := r
    simp only at h
    by_cases he : e' = 0
    · subst he
      rw [if_pos rfl] at h
      simp only [Prod.mk.injEq, and_true] at h
      obtain ⟨rfl, rfl⟩ := h
      obtain ⟨h1, h2, h3, h4, h5, h6⟩ := nextF_one 7 true _ _ _ hx
      rw [List.length_drop] at h2
      refine ⟨by omega, by omega, by omega, by omega, by omega, ?_, fun k hk hk' => ?_⟩
      · unfold put
        rw [if_pos (by omega), show ((v' : Int)).toNat = v' by omega, h5]
        congr 1
        omega
      · unfold next
        rw [if_neg (by rw [List.length_take]; omega)]
        have := h6 (k - at_.toNat) (by omega)
        rw [show (s.take k).drop at_.toNat = (s.drop at_.toNat).take (k - at_.toNat) from List.drop_take, this]
        simp
    · rw [if_neg he] at h
      simp at h
      exact absurd h.2.2 he

theorem nextF_err (f : Nat) (first : Bool) (l : List UInt8) : (nextF f first l).2.2 = 0 ∨ (nextF f first l).2.2 = 2 ∨ (nextF f first l).2.2 = 3 ∨ (nextF f first l).2.2 = 4 := by
  induction f generalizing first l with
  | zero => simp [nextF]
  | succ f ih =>
    match l with
    | [] => simp [nextF]
    | c :: t =>
      rw [nextF]
      split
      · split <;> simp
      · split
        · simp
        · exact ih false t

theorem next_bad (s : List UInt8) (at_ : Int) (h : (next s at_).2.2 ≠ 0) :
    next s at_ = (0, 0, (next s at_).2.2) ∧ ((next s at_).2.2 = 1 ↔ at_ < 0 ∨ (s.length : Int) < at_) := by
  unfold next at h ⊢
  by_cases hr : at_ < 0 ∨ (s.length : Int) < at_
  · simp only [if_pos hr]; simp [hr]
  · simp only [if_neg hr] at h ⊢
    have := nextF_err 8 true (s.drop at_.toNat)
    by_cases he : (nextF 8 true (s.drop at_.toNat)).2.2 = 0
    · rw [if_pos he] at h; simp at h
    · simp only [if_neg he]
      refine ⟨trivial, ?_⟩
      simp only [hr, iff_false]
      intro h1
      have h1' : (nextF 8 true (s.drop at_.toNat)).2.2 = 1 := h1
      omega

theorem next_range (s : List UInt8) (at_ : Int) : 0 ≤ (next s at_).1 ∧ (next s at_).1 ≤ 72057594037927935 ∧ 0 ≤ (next s at_).2.1 ∧ (next s at_).2.1 ≤ s.length ∧ 0 ≤ (next s at_).2.2 ∧ (next s at_).2.2 ≤ 4 := by
  by_cases h : (next s at_).2.2 = 0
  · have := next_one s at_ (next s at_).1 (next s at_).2.1 (by rw [← h])
    omega
  · have hb := (next_bad s at_ h).1
    have h1 : (next s at_).1 = 0 := by rw [hb]
    have h2 : (next s at_).2.1 = 0 := by rw [hb]
    have h3 : (next s at_).2.2 = 0 ∨ (next s at_).2.2 = 1 ∨ (next s at_).2.2 = 2 ∨ (next s at_).2.2 = 3 ∨ (next s at_).2.2 = 4 := by
      unfold next
      split
      · simp
      · have := nextF_err 8 true (s.drop at_.toNat)
        split
        · simp
        · show (nextF 8 true (s.drop at_.toNat)).2.2 = 0 ∨ (nextF 8 true (s.drop at_.toNat)).2.2 = 1 ∨ (nextF 8 true (s.drop at_.toNat)).2.2 = 2 ∨ (nextF 8 true (s.drop at_.toNat)).2.2 = 3 ∨ (nextF 8 true (s.drop at_.toNat)).2.2 = 4
          omega
    omega

/-- The eight bytes of a number, the highest first. -/
def eightN (n : Nat) : List UInt8 := [UInt8.ofNat (n / 256 ^ 7 % 256), UInt8.ofNat (n / 256 ^ 6 % 256), UInt8.ofNat (n / 256 ^ 5 % 256), UInt8.ofNat (n / 256 ^ 4 % 256),
  UInt8.ofNat (n / 256 ^ 3 % 256), UInt8.ofNat (n / 256 ^ 2 % 256), UInt8.ofNat (n / 256 % 256), UInt8.ofNat (n % 256)]

def eight (v : Int) : List UInt8 := if 0 ≤ v ∧ v ≤ 72057594037927935 then eightN v.toNat else []

def val (l : List UInt8) : Nat := l.foldl (fun a c => a * 256 + c.toNat) 0

def fromEight (l : List UInt8) : Int × Int :=
  if l.length < 8 then (0, 2) else if 8 < l.length then (0, 4) else if (l.headD 0).toNat ≠ 0 then (0, 3) else ((val l : Int), 0)

theorem val_snoc (l : List UInt8) (c : UInt8) : val (l ++ [c]) = val l * 256 + c.toNat := by simp [val, List.foldl_append]

theorem foldl_val (l : List UInt8) (a : Nat) : l.foldl (fun a c => a * 256 + c.toNat) a = a * 256 ^ l.length + val l := by
  induction l generalizing a with
  | nil => simp [val]
  | cons c l ih =>
    simp only [List.foldl_cons, List.length_cons, val]
    rw [ih, ih (0 * 256 + c.toNat), Nat.pow_succ]
    simp only [Nat.add_mul, Nat.zero_mul, Nat.zero_add]
    rw [Nat.mul_assoc, Nat.mul_comm 256, Nat.add_assoc]

theorem val_cons (c : UInt8) (l : List UInt8) : val (c :: l) = c.toNat * 256 ^ l.length + val l := by
  have := foldl_val l (0 * 256 + c.toNat)
  simpa [val] using this

theorem val_lt (l : List UInt8) : val l < 256 ^ l.length := by
  induction l with
  | nil => simp [val]
  | cons c l ih =>
    rw [val_cons, List.length_cons, Nat.pow_succ]
    have := c.toNat_lt
    have h : c.toNat * 256 ^ l.length ≤ 255 * 256 ^ l.length := Nat.mul_le_mul_right _ (by omega)
    omega

theorem val_eightN (n : Nat) (h : n ≤ 72057594037927935) : val (eightN n) = n := by
  simp only [val, eightN, List.foldl_cons, List.foldl_nil]
  rw [toNat_ofNat (Nat.mod_lt _ (by decide)), toNat_ofNat (Nat.mod_lt _ (by decide)), toNat_ofNat (Nat.mod_lt _ (by decide)), toNat_ofNat (Nat.mod_lt _ (by decide)),
    toNat_ofNat (Nat.mod_lt _ (by decide)), toNat_ofNat (Nat.mod_lt _ (by decide)), toNat_ofNat (Nat.mod_lt _ (by decide)), toNat_ofNat (Nat.mod_lt _ (by decide))]
  omega

theorem fromEight_eight (v : Int) (h0 : 0 ≤ v) (h1 : v ≤ 72057594037927935) : fromEight (eight v) = (v, 0) := by
  have he : eight v = eightN v.toNat := by unfold eight; rw [if_pos ⟨h0, h1⟩]
  rw [he]
  unfold fromEight
  have hl : (eightN v.toNat).length = 8 := rfl
  have hh : ((eightN v.toNat).headD 0).toNat = 0 := by
    show (UInt8.ofNat (v.toNat / 256 ^ 7 % 256)).toNat = 0
    rw [toNat_ofNat (Nat.mod_lt _ (by decide))]
    omega
  rw [if_neg (by omega), if_neg (by omega), if_neg (by omega), val_eightN _ (by omega)]
  simp; omega

/-- Lists of one length are ordered as their numbers are. -/
theorem less_val : ∀ (a b : List UInt8), a.length = b.length → Op.bytesLess a b = decide (val a < val b)
  | [], [], _ => by simp [Op.bytesLess]
  | x :: a, y :: b, h => by
    have hl : a.length = b.length := by simpa using h
    have ih := less_val a b hl
    have ha := val_lt a
    have hb := val_lt b
    rw [hl] at ha
    rw [Op.bytesLess, ih, val_cons, val_cons, hl]
    generalize 256 ^ b.length = U at *
    have hxy : (x < y) ↔ x.toNat < y.toNat := UInt8.lt_iff_toNat_lt
    have hx2 : (x = y) ↔ x.toNat = y.toNat := UInt8.toNat_inj.symm
    rw [Bool.eq_iff_iff]
    simp only [Bool.or_eq_true, Bool.and_eq_true, decide_eq_true_eq, beq_iff_eq, hxy, hx2]
    generalize x.toNat = p
    generalize y.toNat = q
    rcases Nat.lt_trichotomy p q with hpq | hpq | hpq
    · have : p * U + U ≤ q * U := by rw [← Nat.succ_mul]; exact Nat.mul_le_mul_right _ hpq
      constructor
      · intro _; omega
      · intro _; exact .inl hpq
    · subst hpq
      constructor
      · rintro (h | ⟨_, h⟩) <;> omega
      · intro h; exact .inr ⟨rfl, by omega⟩
    · have : q * U + U ≤ p * U := by rw [← Nat.succ_mul]; exact Nat.mul_le_mul_right _ hpq
      constructor
      · rintro (h | ⟨h, _⟩) <;> omega
      · intro h; omega

theorem eight_less (a b : Int) (h0 : 0 ≤ a) (hab : a < b) (hb : b ≤ 72057594037927935) : Op.bytesLess (eight a) (eight b) = true := by
  have ha : eight a = eightN a.toNat := by unfold eight; rw [if_pos (by omega)]
  have hb' : eight b = eightN b.toNat := by unfold eight; rw [if_pos (by omega)]
  rw [ha, hb', less_val (eightN a.toNat) (eightN b.toNat) rfl, val_eightN _ (by omega), val_eightN _ (by omega)]
  simp; omega

theorem val_take (l : List UInt8) (k : Nat) (hk : k < l.length) : val (l.take (k + 1)) = val (l.take k) * 256 + l[k].toNat := by
  rw [List.take_succ_eq_append_getElem hk, val_snoc]

theorem val_take_lt (l : List UInt8) (k : Nat) (hk : k ≤ l.length) : val (l.take k) < 256 ^ k := by
  have := val_lt (l.take k)
  rwa [List.length_take, Nat.min_eq_left hk] at this

/-- The value of eight bytes exceeds the greatest number exactly if the first byte is not 0. -/
theorem val_big (l : List UInt8) (h : l.length = 8) : (72057594037927935 < val l) ↔ (l.headD 0).toNat ≠ 0 := by
  match l, h with
  | c :: t, h =>
    have ht : t.length = 7 := by simpa using h
    rw [val_cons, ht]
    have := val_lt t
    rw [ht] at this
    simp only [List.headD_cons]
    constructor
    · intro h1 h2; rw [h2] at h1; omega
    · intro h1
      have : 1 * 256 ^ 7 ≤ c.toNat * 256 ^ 7 := Nat.mul_le_mul_right _ (by omega)
      omega
end Go.Proofs.Ytfchejgohegbgaa.Leb
