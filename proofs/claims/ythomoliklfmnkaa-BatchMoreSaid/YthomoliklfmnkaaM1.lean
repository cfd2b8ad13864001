/- Numbers in groups of seven bits, and in eight bytes: what they are, and the plain laws on them. No program in sight. -/
import Derived.Below
import GoSem.Op.String
section
namespace Go.Proofs.Ythomoliklfmnkaa.Leb
set_option linter.unusedVariables false

/-- Groups of seven bits, the lowest first; at most f + 1 of them. -/
def putF : Nat → Nat → List UInt8
  | 0, n => [UInt8.ofNat n]
  | f + 1, n => if n < 128 then [UInt8.ofNat n] else UInt8.ofNat (n % 128 + 128) :: putF f (n / 128)

def put (v : Int) : List UInt8 := if 0 ≤ v ∧ v ≤ 72057594037927935 then putF 7 v.toNat else []

/-- The number at the head of bytes: its value, how many bytes it has, the error. -/
def nextF : Nat → Bool → List UInt8 → Nat × Nat × Int
  | 0, _, _ => (0, 0, 4)
  | _ + 1, _, [] => (0, 0, 2)
  | f + 1, first, c :: l =>
    if c.toNat < 128 then (if c.toNat = 0 ∧ first = false then (0, 0, 3) else (c.toNat, 1, 0))
    else if (nextF f false l).2.2 = 0 then (c.toNat - 128 + 128 * (nextF f false l).1, (nextF f false l).2.1 + 1, 0) else (0, 0, (nextF f false l).2.2)

def next (s : List UInt8) (at_ : Int) : Int × Int × Int :=
  if at_ < 0 ∨ (s.length : Int) < at_ then (0, 0, 1)
  else if (nextF 8 true (s.drop at_.toNat)).2.2 = 0 then ((nextF 8 true (s.drop at_.toNat)).1, at_ + (nextF 8 true (s.drop at_.toNat)).2.1, 0)
  else (0, 0, (nextF 8 true (s.drop at_.toNat)).2.2)

/-- What a reader that has k groups behind it, which say A, comes to. -/
def fin (s : List UInt8) (p k A : Nat) : Int × Int × Int :=
  if (nextF (8 - k) (k == 0) (s.drop (p + k))).2.2 = 0 then ((A + 128 ^ k * (nextF (8 - k) (k == 0) (s.drop (p + k))).1 : Nat), (p + k + (nextF (8 - k) (k == 0) (s.drop (p + k))).2.1 : Nat), 0)
  else (0, 0, (nextF (8 - k) (k == 0) (s.drop (p + k))).2.2)

theorem putF_length (f n : Nat) : 1 ≤ (putF f n).length ∧ (putF f n).length ≤ f + 1 := by
  induction f generalizing n with
  | zero => simp [putF]
  | succ f ih =>
    rw [putF]
    split
    · simp
    · have := ih (n / 128); simp; omega

theorem toNat_ofNat {n : Nat} (h : n < 256) : (UInt8.ofNat n).toNat = n := by
  rw [UInt8.toNat_ofNat']; omega

theorem put_len (v : Int) (h0 : 0 ≤ v) (h1 : v ≤ 72057594037927935) : 1 ≤ (put v).length ∧ (put v).length ≤ 8 := by
  unfold put
  rw [if_pos ⟨h0, h1⟩]
  have := putF_length 7 v.toNat
  omega

theorem put_len_le (v : Int) : (put v).length ≤ 8 := by
  unfold put
  split
  · have := putF_length 7 v.toNat; omega
  · simp

def val (l : List UInt8) : Nat := l.foldl (fun a c => a * 256 + c.toNat) 0

end Go.Proofs.Ythomoliklfmnkaa.Leb
end

section
/- What readers answer, plainly. -/
namespace Go.Proofs.Ythomoliklfmnkaa
set_option linter.unusedVariables false

/-- A text in bytes. -/
def textB (m : List UInt8) : List UInt8 := Leb.put m.length ++ m
/-! What a reader of the bytes l at the place a with the error b answers: a value, the new place, the new error. -/
end Go.Proofs.Ythomoliklfmnkaa
end

section
/- Readers and what they read back, plainly: one law for each way of putting readers together. -/
namespace Go.Proofs.Ythomoliklfmnkaa
set_option linter.unusedVariables false
set_option linter.unusedSimpArgs false

/-- r reads back what E writes of the values that V allows, reads nothing else, and says that too few bytes are too few. -/
structure Codec {α : Type} (r : List UInt8 → Int × Int → α × Int × Int) (E : α → List UInt8) (V : α → Prop) : Prop where
  stick : ∀ l s, s.2 ≠ 0 → (r l s).2 = s
  back : ∀ p x q, V x → r (p ++ E x ++ q) ((p.length : Int), 0) = (x, (((p ++ E x).length : Nat) : Int), 0)
  one : ∀ l (a : Nat) x a', a ≤ l.length → r l ((a : Int), 0) = (x, a', 0) → V x ∧ ∃ p q, l = p ++ E x ++ q ∧ p.length = a ∧ a' = (((p ++ E x).length : Nat) : Int)
  short : ∀ p x (k : Nat), V x → k < (E x).length → (r (p ++ (E x).take k) ((p.length : Int), 0)).2.2 = 2

theorem Codec.bind {α β : Type} {r : List UInt8 → Int × Int → α × Int × Int} {E : α → List UInt8} {V : α → Prop} {f : α → List UInt8 → Int × Int → β × Int × Int} {F : α → β → List UInt8} {U : α → β → Prop}
    (h : Codec r E V) (hf : ∀ x, Codec (f x) (F x) (U x)) :
    Codec (fun l s => (((r l s).1, (f (r l s).1 l (r l s).2).1), (f (r l s).1 l (r l s).2).2)) (fun z => E z.1 ++ F z.1 z.2) (fun z => V z.1 ∧ U z.1 z.2) where
  stick := fun l s hs => by
    have h1 := h.stick l s hs
    show (f (r l s).1 l (r l s).2).2 = s
    rw [h1]
    exact (hf _).stick l s hs
  back := fun p x q hx => by
    obtain ⟨x, y⟩ := x
    have h1 := h.back p x (F x y ++ q) hx.1
    have h2 := (hf x).back (p ++ E x) y q hx.2
    have e : p ++ (E x ++ F x y) ++ q = p ++ E x ++ (F x y ++ q) := by simp
    have e2 : p ++ E x ++ (F x y ++ q) = p ++ E x ++ F x y ++ q := by simp
    show (((r (p ++ (E x ++ F x y) ++ q) _).1, (f (r (p ++ (E x ++ F x y) ++ q) _).1 (p ++ (E x ++ F x y) ++ q) (r (p ++ (E x ++ F x y) ++ q) _).2).1), (f (r (p ++ (E x ++ F x y) ++ q) _).1 (p ++ (E x ++ F x y) ++ q) (r (p ++ (E x ++ F x y) ++ q) _).2).2) = _
    rw [e, h1]
    dsimp only
    rw [e2, h2]
    simp
  one := fun l a x a' ha hx => by
    obtain ⟨x, y⟩ := x
    simp only [Prod.mk.injEq] at hx
    obtain ⟨⟨hx1, hx2⟩, hx3⟩ := hx
    have hb : (r l ((a : Int), 0)).2.2 = 0 := by
      refine Decidable.byContradiction fun hb => ?_
      have := (hf (r l ((a : Int), 0)).1).stick l _ hb
      rw [hx3] at this
      rw [← this] at hb
      exact hb rfl
    obtain ⟨v1, p, q, rfl, hp, hq⟩ := h.one l a x (r l ((a : Int), 0)).2.1 ha (Prod.ext hx1 (Prod.ext rfl hb))
    have hs : (r (p ++ E x ++ q) ((a : Int), 0)).2 = ((((p ++ E x).length : Nat) : Int), 0) := Prod.ext hq hb
    rw [hx1, hs] at hx2 hx3
    obtain ⟨v2, p', q', e, hp', hq'⟩ := (hf x).one (p ++ E x ++ q) (p ++ E x).length y a' (by simp) (Prod.ext hx2 hx3)
    have e1 : p ++ E x ++ q = p' ++ (F x y ++ q') := by rw [e]; simp
    have e3 : p' = p ++ E x := ((List.append_inj' e1 (by
      have := congrArg List.length e1
      simp only [List.length_append] at this hp' ⊢
      omega)).1).symm
    subst e3
    exact ⟨⟨v1, v2⟩, p, q', by rw [e]; simp, hp, by rw [hq']; simp⟩
  short := fun p x k hx hk => by
    obtain ⟨x, y⟩ := x
    simp only [List.length_append] at hk
    show (f (r (p ++ (E x ++ F x y).take k) _).1 (p ++ (E x ++ F x y).take k) (r (p ++ (E x ++ F x y).take k) _).2).2.2 = 2
    by_cases hk1 : k < (E x).length
    · rw [List.take_append_of_le_length (by omega)]
      have h1 := h.short p x k hx.1 hk1
      have := (hf (r (p ++ (E x).take k) ((p.length : Int), 0)).1).stick (p ++ (E x).take k) (r (p ++ (E x).take k) ((p.length : Int), 0)).2 (by rw [h1]; decide)
      rw [this, h1]
    · have e : (E x ++ F x y).take k = E x ++ (F x y).take (k - (E x).length) := by
        rw [List.take_append, List.take_of_length_le (by omega)]
      rw [e]
      have h1 := h.back p x ((F x y).take (k - (E x).length)) hx.1
      rw [← List.append_assoc, h1]
      exact (hf x).short (p ++ E x) y (k - (E x).length) hx.2 (by omega)

theorem Codec.map {α β : Type} {r : List UInt8 → Int × Int → α × Int × Int} {E : α → List UInt8} {V : α → Prop} (h : Codec r E V) (f : α → β) (g : β → α) (gf : ∀ x, g (f x) = x) (fg : ∀ y, f (g y) = y) :
    Codec (fun l s => (f (r l s).1, (r l s).2)) (fun y => E (g y)) (fun y => V (g y)) where
  stick := fun l s hs => h.stick l s hs
  back := fun p x q hx => by
    show (f (r (p ++ E (g x) ++ q) _).1, (r (p ++ E (g x) ++ q) _).2) = _
    rw [h.back p (g x) q hx, fg]
  one := fun l a x a' ha hx => by
    simp only [Prod.mk.injEq] at hx
    obtain ⟨h1, h2⟩ := hx
    subst h1
    rw [gf]
    exact h.one l a _ a' ha (Prod.ext rfl h2)
  short := fun p x k hx hk => h.short p (g x) k hx hk

end Go.Proofs.Ythomoliklfmnkaa
end

section
/- Lists that are read back; texts that are decoded whole. -/
namespace Go.Proofs.Ythomoliklfmnkaa
set_option linter.unusedVariables false
set_option linter.unusedSimpArgs false

theorem Codec.nil {α : Type} (x : α) : Codec (fun _ s => (x, s)) (fun _ => []) (fun y => y = x) where
  stick := fun l s hs => rfl
  back := fun p y q hy => by subst hy; simp
  one := fun l a y a' ha h => by
    simp only [Prod.mk.injEq] at h
    refine ⟨h.1.symm, l.take a, l.drop a, by simp, by simp; omega, ?_⟩
    have := h.2.1
    simp
    omega
  short := fun p y k hy hk => by simp at hk

def flatE {α : Type} (E : α → List UInt8) (xs : List α) : List UInt8 := (xs.map E).flatten
/-! ### A text, decoded whole -/
section
variable {α : Type} {r : List UInt8 → Int × Int → α × Int × Int} {E : α → List UInt8} {V : α → Prop} {z : α} {may : α → Bool}
end

/-! ### Readers that stop at an error -/
/-- r' leaves the state that r leaves, and the value too, if there is no error. -/
structure Agree {α : Type} (r r' : List UInt8 → Int × Int → α × Int × Int) : Prop where
  st : ∀ l s, (r' l s).2 = (r l s).2
  val : ∀ l s, (r l s).2.2 = 0 → (r' l s).1 = (r l s).1
theorem Agree.map {α β : Type} {r r' : List UInt8 → Int × Int → α × Int × Int} (a : Agree r r') (f : α → β) : Agree (fun l s => (f (r l s).1, (r l s).2)) (fun l s => (f (r' l s).1, (r' l s).2)) :=
  ⟨a.st, fun l s h => congrArg f (a.val l s h)⟩
theorem Agree.bind {α β : Type} {r r' : List UInt8 → Int × Int → α × Int × Int} {f f' : α → List UInt8 → Int × Int → β × Int × Int} {F : α → β → List UInt8} {U : α → β → Prop} (a : Agree r r') (c : ∀ x, Codec (f x) (F x) (U x)) (b : ∀ x, Agree (f x) (f' x)) (hs : ∀ x l s, s.2 ≠ 0 → (f' x l s).2 = s) :
    Agree (fun l s => (((r l s).1, (f (r l s).1 l (r l s).2).1), (f (r l s).1 l (r l s).2).2)) (fun l s => (((r' l s).1, (f' (r' l s).1 l (r' l s).2).1), (f' (r' l s).1 l (r' l s).2).2)) := by
  refine ⟨fun l s => ?_, fun l s h => ?_⟩
  · show (f' (r' l s).1 l (r' l s).2).2 = (f (r l s).1 l (r l s).2).2
    rw [a.st]
    by_cases h : (r l s).2.2 = 0
    · rw [a.val l s h, (b _).st]
    · rw [hs _ l _ h, (c _).stick l _ h]
  · have h2 : (f (r l s).1 l (r l s).2).2.2 = 0 := h
    have h1 : (r l s).2.2 = 0 := Decidable.byContradiction fun hb => hb (by rw [← (c (r l s).1).stick l _ hb]; exact h2)
    show ((r' l s).1, (f' (r' l s).1 l (r' l s).2).1) = ((r l s).1, (f (r l s).1 l (r l s).2).1)
    rw [a.st, a.val l s h1, (b _).val l _ h2]
end Go.Proofs.Ythomoliklfmnkaa
end
