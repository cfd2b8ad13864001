/- Lists that are read back; texts that are decoded whole. -/
import Derived.Test.YtcgoaicifjndpaaM1
namespace Go.Proofs.Ytcgoaicifjndpaa
set_option linter.unusedVariables false
set_option linter.unusedSimpArgs false

theorem Codec.nil {α : Type} (x : α) : Codec (fun _ s => (x, s)) (fun _ => []) (fun y => y = x) where
  stick := fun l s hs => rfl
  back := fun p y q hy => by subst hy; simp
  one := fun l a y a' ha h => by
    simp only [Prod.mk.injEq] at h
    refine ⟨h.1.symm, l.take a, l.drop a, by simp, by simp; omega, ?_⟩
    have := h.2.1
    simp
    omega
  short := fun p y k hy hk => by simp at hk

theorem Codec.mapI {α β : Type} {r : List UInt8 → Int × Int → α × Int × Int} {E : α → List UInt8} {V : α → Prop} (h : Codec r E V) (f : α → β) {E' : β → List UInt8} {V' : β → Prop} (hE : ∀ x, V x → E' (f x) = E x) (hV : ∀ y, V' y → ∃ x, y = f x ∧ V x) (hV' : ∀ x, V x → V' (f x)) :
    Codec (fun l s => (f (r l s).1, (r l s).2)) E' V' where
  stick := fun l s hs => h.stick l s hs
  back := fun p y q hy => by
    obtain ⟨x, rfl, hx⟩ := hV y hy
    rw [hE x hx]
    show (f (r (p ++ E x ++ q) _).1, (r (p ++ E x ++ q) _).2) = _
    rw [h.back p x q hx]
  one := fun l a y a' ha hy => by
    simp only [Prod.mk.injEq] at hy
    obtain ⟨h1, h2⟩ := hy
    subst h1
    obtain ⟨g1, g2⟩ := h.one l a _ a' ha (Prod.ext rfl h2)
    rw [hE _ g1]
    exact ⟨hV' _ g1, g2⟩
  short := fun p y k hy hk => by
    obtain ⟨x, rfl, hx⟩ := hV y hy
    rw [hE x hx] at hk ⊢
    exact h.short p x k hx hk

/-- n things, one behind the other. -/
def repR {α : Type} (r : List UInt8 → Int × Int → α × Int × Int) : Nat → List UInt8 → Int × Int → List α × Int × Int
  | 0, _, s => ([], s)
  | n + 1, l, s => ((r l s).1 :: (repR r n l (r l s).2).1, (repR r n l (r l s).2).2)
def flatE {α : Type} (E : α → List UInt8) (xs : List α) : List UInt8 := (xs.map E).flatten
theorem Codec.rep {α : Type} {r : List UInt8 → Int × Int → α × Int × Int} {E : α → List UInt8} {V : α → Prop} (h : Codec r E V) : ∀ n : Nat, Codec (repR r n) (flatE E) (fun xs => xs.length = n ∧ ∀ x ∈ xs, V x)
  | 0 => (Codec.nil ()).mapI (fun _ => []) (fun _ _ => rfl) (fun y hy => ⟨(), List.length_eq_zero_iff.mp hy.1, rfl⟩) (fun x hx => ⟨rfl, by simp⟩)
  | n + 1 => (h.bind fun _ => Codec.rep h n).mapI (fun z => z.1 :: z.2) (fun z _ => by simp [flatE]) (fun y hy => by
      cases y with
      | nil => exact absurd hy.1 (by simp)
      | cons a b => exact ⟨(a, b), rfl, hy.2 a (by simp), by simpa using hy.1, fun x hx => hy.2 x (by simp [hx])⟩) (fun z hz => ⟨by simp [hz.2.1], fun x hx => by
      rcases List.mem_cons.1 hx with rfl | hx
      · exact hz.1
      · exact hz.2.2 x hx⟩)

/-! ### A text, decoded whole -/
def decOf {α : Type} (r : List UInt8 → Int × Int → α × Int × Int) (z : α) (may : α → Bool) (l : List UInt8) : α × Int :=
  if endS l (r l (0, 0)).2.1 (r l (0, 0)).2.2 ≠ 0 then (z, endS l (r l (0, 0)).2.1 (r l (0, 0)).2.2) else if may (r l (0, 0)).1 then ((r l (0, 0)).1, 0) else (z, 1)
section
variable {α : Type} {r : List UInt8 → Int × Int → α × Int × Int} {E : α → List UInt8} {V : α → Prop} {z : α} {may : α → Bool}
theorem decOf_back (h : Codec r E V) {x : α} (hV : V x) (hx : may x = true) : decOf r z may (E x) = (x, 0) := by
  have := h.back [] x [] hV
  simp only [List.nil_append, List.append_nil] at this
  have e : ((([] : List UInt8).length : Nat) : Int) = 0 := rfl
  rw [e] at this
  unfold decOf
  rw [this]
  simp [endS, hx]
theorem decOf_one (h : Codec r E V) {l : List UInt8} (h0 : (decOf r z may l).2 = 0) : may (decOf r z may l).1 = true ∧ E (decOf r z may l).1 = l := by
  unfold decOf at h0 ⊢
  by_cases h1 : endS l (r l (0, 0)).2.1 (r l (0, 0)).2.2 = 0
  · rw [if_neg (by simp [h1])] at h0 ⊢
    by_cases h2 : may (r l (0, 0)).1 = true
    · rw [if_pos h2] at h0 ⊢
      refine ⟨h2, ?_⟩
      have hb : (r l (0, 0)).2.2 = 0 ∧ (l.length : Int) ≤ (r l (0, 0)).2.1 := by
        unfold endS at h1
        split at h1
        · exact absurd h1 (by decide)
        · rename_i hn
          refine ⟨h1, ?_⟩
          have : ¬ (r l (0, 0)).2.1 < (l.length : Int) := fun hc => hn ⟨h1, hc⟩
          omega
      obtain ⟨_, p, q, e1, e2, e3⟩ := h.one l 0 (r l (0, 0)).1 (r l (0, 0)).2.1 (by omega) (Prod.ext rfl (Prod.ext rfl hb.1))
      obtain rfl : p = [] := List.length_eq_zero_iff.mp e2
      rw [e3] at hb
      have hl := congrArg List.length e1
      simp only [List.nil_append, List.length_append] at hl e1 hb
      have hq : q = [] := List.length_eq_zero_iff.mp (by omega)
      subst hq
      simpa using e1.symm
    · rw [if_neg h2] at h0
      simp at h0
  · rw [if_pos h1] at h0
    exact absurd h0 h1
theorem decOf_zero {l : List UInt8} (h : (decOf r z may l).2 ≠ 0) : (decOf r z may l).1 = z := by
  unfold decOf at h ⊢
  split at h
  · rename_i h1
    rw [if_pos h1]
  · rename_i h1
    rw [if_neg h1]
    split at h
    · exact absurd rfl h
    · rename_i h2
      rw [if_neg h2]
end

/-- A count: as a number, but for the error. -/
def rCount (hi : Int) (l : List UInt8) (s : Int × Int) : Int × Int × Int := countS l s.1 s.2 hi
theorem count_num {l : List UInt8} {s : Int × Int} {hi : Int} (h : (countS l s.1 s.2 hi).2.2 = 0 ∨ (numS l s.1 s.2 0 hi).2.2 = 0 ∨ (numS l s.1 s.2 0 hi).2.2 = 2) (hs : s.2 = 0) : countS l s.1 s.2 hi = numS l s.1 s.2 0 hi := by
  have hr := Leb.next_range l s.1
  unfold countS numS at *
  by_cases h1 : s.2 ≠ 0
  · exact absurd hs h1
  · simp only [if_neg h1] at h ⊢
    by_cases h2 : (Leb.next l s.1).2.2 ≠ 0
    · simp [h2]
    · simp only [if_neg h2] at h ⊢
      by_cases h3 : hi < (Leb.next l s.1).1
      · exfalso
        have h4 : (Leb.next l s.1).1 < 0 ∨ hi < (Leb.next l s.1).1 := Or.inr h3
        simp only [if_pos h3, if_pos h4] at h
        revert h
        decide
      · have h4 : ¬ ((Leb.next l s.1).1 < 0 ∨ hi < (Leb.next l s.1).1) := by omega
        simp only [if_neg h3, if_neg h4]
theorem Codec.count (hi : Int) (h1 : hi ≤ 72057594037927935) : Codec (rCount hi) Leb.put (fun v => 0 ≤ v ∧ v ≤ hi) where
  stick := fun l s hs => by
    unfold rCount countS
    rw [if_pos hs]
  back := fun p v q hv => by
    have h := (Codec.num 0 hi (by decide) h1).back p v q hv
    unfold rNum at h
    unfold rCount
    rw [count_num (Or.inr (Or.inl (by rw [h]))) rfl]
    exact h
  one := fun l a v a' ha hv => by
    unfold rCount at hv
    rw [count_num (Or.inl (by rw [hv])) rfl] at hv
    exact (Codec.num 0 hi (by decide) h1).one l a v a' ha hv
  short := fun p v k hv hk => by
    have h := (Codec.num 0 hi (by decide) h1).short p v k hv hk
    unfold rNum at h
    unfold rCount
    rw [count_num (Or.inr (Or.inr h)) rfl]
    exact h

/-! ### Readers that stop at an error -/
end Go.Proofs.Ytcgoaicifjndpaa
