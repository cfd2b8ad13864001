/- Readers and what they read back, plainly: one law for each way of putting readers together. -/
import Derived.Test.YtfchejgohegbgaaRdPlain
namespace Go.Proofs.Ytfchejgohegbgaa
set_option linter.unusedVariables false
set_option linter.unusedSimpArgs false

def rNum (lo hi : Int) (l : List UInt8) (s : Int × Int) : Int × Int × Int := numS l s.1 s.2 lo hi
def rText (hi : Int) (l : List UInt8) (s : Int × Int) : List UInt8 × Int × Int := textS l s.1 s.2 hi
def rIf {α : Type} (c : Bool) (d : α) (r : List UInt8 → Int × Int → α × Int × Int) (l : List UInt8) (s : Int × Int) : α × Int × Int := if c then r l s else (d, s)
/-- r reads back what E writes of the values that V allows, reads nothing else, and says that too few bytes are too few. -/
structure Codec {α : Type} (r : List UInt8 → Int × Int → α × Int × Int) (E : α → List UInt8) (V : α → Prop) : Prop where
  stick : ∀ l s, s.2 ≠ 0 → (r l s).2 = s
  back : ∀ p x q, V x → r (p ++ E x ++ q) ((p.length : Int), 0) = (x, (((p ++ E x).length : Nat) : Int), 0)
  one : ∀ l (a : Nat) x a', a ≤ l.length → r l ((a : Int), 0) = (x, a', 0) → V x ∧ ∃ p q, l = p ++ E x ++ q ∧ p.length = a ∧ a' = (((p ++ E x).length : Nat) : Int)
  short : ∀ p x (k : Nat), V x → k < (E x).length → (r (p ++ (E x).take k) ((p.length : Int), 0)).2.2 = 2

theorem Codec.bind {α β : Type} {r : List UInt8 → Int × Int → α × Int × Int} {E : α → List UInt8} {V : α → Prop} {f : α → List UInt8 → Int × Int → β × Int × Int} {F : α → β → List UInt8} {U : α → β → Prop}
    (h : Codec r E V) (hf : ∀ x, Codec (f x) (F x) (U x)) :
    Codec (fun l s => (((r l s).1, (f (r l s).1 l (r l s).2).1), (f (r l s).1 l (r l s).2).2)) (fun z => E z.1 ++ F z.1 z.2) (fun z => V z.1 ∧ U z.1 z.2) where
  stick := fun l s hs => by
    have h1 := h.stick l s hs
    show (f (r l s).1 l (r l s).2).2 = s
    rw [h1]
    exact (hf _).stick l s hs
  back := fun p x q hx => by
    obtain ⟨x, y⟩ := x
    have h1 := h.back p x (F x y ++ q) hx.1
    have h2 := (hf x).back (p ++ E x) y q hx.2
    have e : p ++ (E x ++ F x y) ++ q = p ++ E x ++ (F x y ++ q) := by simp
    have e2 : p ++ E x ++ (F x y ++ q) = p ++ E x ++ F x y ++ q := by simp
    show (((r (p ++ (E x ++ F x y) ++ q) _).1, (f (r (p ++ (E x ++ F x y) ++ q) _).1 (p ++ (E x ++ F x y) ++ q) (r (p ++ (E x ++ F x y) ++ q) _).2).1), (f (r (p ++ (E x ++ F x y) ++ q) _).1 (p ++ (E x ++ F x y) ++ q) (r (p ++ (E x ++ F x y) ++ q) _).2).2) = _
    rw [e, h1]
    dsimp only
    rw [e2, h2]
    simp
  one := fun l a x a' ha hx => by
    obtain ⟨x, y⟩ := x
    simp only [Prod.mk.injEq] at hx
    obtain ⟨⟨hx1, hx2⟩, hx3⟩ := hx
    have hb : (r l ((a : Int), 0)).2.2 = 0 := by
      refine Decidable.byContradiction fun hb => ?_
      have := (hf (r l ((a : Int), 0)).1).stick l _ hb
      rw [hx3] at this
      rw [← this] at hb
      exact hb rfl
    obtain ⟨v1, p, q, rfl, hp, hq⟩ := h.one l a x (r l ((a : Int), 0)).2.1 ha (Prod.ext hx1 (Prod.ext rfl hb))
    have hs : (r (p ++ E x ++ q) ((a : Int), 0)).2 = ((((p ++ E x).length : Nat) : Int), 0) := Prod.ext hq hb
    rw [hx1, hs] at hx2 hx3
    obtain ⟨v2, p', q', e, hp', hq'⟩ := (hf x).one (p ++ E x ++ q) (p ++ E x).length y a' (by simp) (Prod.ext hx2 hx3)
    have e1 : p ++ E x ++ q = p' ++ (F x y ++ q') := by rw [e]; simp
    have e3 : p' = p ++ E x := ((List.append_inj' e1 (by
      have := congrArg List.length e1
      simp only [List.length_append] at this hp' ⊢
      omega)).1).symm
    subst e3
    exact ⟨⟨v1, v2⟩, p, q', by rw [e]; simp, hp, by rw [hq']; simp⟩
  short := fun p x k hx hk => by
    obtain ⟨x, y⟩ := x
    simp only [List.length_append] at hk
    show (f (r (p ++ (E x ++ F x y).take k) _).1 (p ++ (E x ++ F x y).take k) (r (p ++ (E x ++ F x y).take k) _).2).2.2 = 2
    by_cases hk1 : k < (E x).length
    · rw [List.take_append_of_le_length (by omega)]
      have h1 := h.short p x k hx.1 hk1
      have := (hf (r (p ++ (E x).take k) ((p.length : Int), 0)).1).stick (p ++ (E x).take k) (r (p ++ (E x).take k) ((p.length : Int), 0)).2 (by rw [h1]; decide)
      rw [this, h1]
    · have e : (E x ++ F x y).take k = E x ++ (F x y).take (k - (E x).length) := by
        rw [List.take_append, List.take_of_length_le (by omega)]
      rw [e]
      have h1 := h.back p x ((F x y).take (k - (E x).length)) hx.1
      rw [← List.append_assoc, h1]
      exact (hf x).short (p ++ E x) y (k - (E x).length) hx.2 (by omega)

theorem Codec.ite {α : Type} {r : List UInt8 → Int × Int → α × Int × Int} {E : α → List UInt8} {V : α → Prop} (h : Codec r E V) (c : Bool) (d : α) :
    Codec (rIf c d r) (fun x => if c then E x else []) (fun x => if c then V x else x = d) := by
  cases c
  · exact {
      stick := fun l s hs => rfl
      back := fun p x q hx => by
        obtain rfl : x = d := by simpa using hx
        simp [rIf]
      one := fun l a x a' ha hx => by
        simp only [rIf, Prod.mk.injEq] at hx
        obtain ⟨h1, h2, _⟩ := (by simpa using hx : d = x ∧ (a : Int) = a' ∧ True)
        refine ⟨by simp [h1], l.take a, l.drop a, by simp, by simp; omega, ?_⟩
        simp
        omega
      short := fun p x k hx hk => by simp at hk }
  · exact h

theorem Codec.map {α β : Type} {r : List UInt8 → Int × Int → α × Int × Int} {E : α → List UInt8} {V : α → Prop} (h : Codec r E V) (f : α → β) (g : β → α) (gf : ∀ x, g (f x) = x) (fg : ∀ y, f (g y) = y) :
    Codec (fun l s => (f (r l s).1, (r l s).2)) (fun y => E (g y)) (fun y => V (g y)) where
  stick := fun l s hs => h.stick l s hs
  back := fun p x q hx => by
    show (f (r (p ++ E (g x) ++ q) _).1, (r (p ++ E (g x) ++ q) _).2) = _
    rw [h.back p (g x) q hx, fg]
  one := fun l a x a' ha hx => by
    simp only [Prod.mk.injEq] at hx
    obtain ⟨h1, h2⟩ := hx
    subst h1
    rw [gf]
    exact h.one l a _ a' ha (Prod.ext rfl h2)
  short := fun p x k hx hk => h.short p (g x) k hx hk

theorem take_put (p : List UInt8) (v : Int) (k : Nat) (h0 : 0 ≤ v) (h1 : v ≤ 72057594037927935) (hk : k < (Leb.put v).length) : Leb.next (p ++ (Leb.put v).take k) p.length = (0, 0, 2) := by
  have h := Leb.next_put p v [] h0 h1
  have := (Leb.next_one _ _ _ _ h).2.2.2.2.2.2 (p.length + k) (by omega) (by omega)
  rw [List.append_nil] at this
  have e : (p ++ Leb.put v).take (p.length + k) = p ++ (Leb.put v).take k := by
    rw [List.take_append, List.take_of_length_le (by omega)]
    congr 2
    omega
  rw [e] at this
  exact this

theorem Codec.num (lo hi : Int) (h0 : 0 ≤ lo) (h1 : hi ≤ 72057594037927935) : Codec (rNum lo hi) Leb.put (fun v => lo ≤ v ∧ v ≤ hi) where
  stick := fun l s hs => by
    unfold rNum numS
    rw [if_pos hs]
  back := fun p v q hv => by
    unfold rNum numS
    rw [Leb.next_put p v q (by omega) (by omega)]
    dsimp only
    rw [if_neg (by simp), if_neg (by simp), if_neg (by omega)]
    simp
  one := fun l a v a' ha hv => by
    unfold rNum numS at hv
    dsimp only at hv
    rw [if_neg (by simp)] at hv
    by_cases he : (Leb.next l a).2.2 = 0
    · rw [if_neg (by simp [he])] at hv
      by_cases hr : (Leb.next l a).1 < lo ∨ hi < (Leb.next l a).1
      · rw [if_pos hr] at hv
        simp at hv
      · rw [if_neg hr] at hv
        simp only [Prod.mk.injEq] at hv
        obtain ⟨e1, e2, _⟩ := hv
        obtain ⟨g1, g2, g3, g4, g5, g6, _⟩ := Leb.next_one l a v a' (by rw [← e1, ← e2, ← he])
        have hl : (Leb.put v).length = a'.toNat - a := by
          rw [g6, List.length_take, List.length_drop]
          have : (a : Int).toNat = a := by omega
          omega
        refine ⟨by omega, l.take a, (l.drop a).drop (a'.toNat - a), ?_, by simp; omega, ?_⟩
        · have e : Leb.put v = (l.drop a).take (a'.toNat - a) := by rw [g6]; congr 1
          rw [e, List.append_assoc, List.take_append_drop, List.take_append_drop]
        · rw [List.length_append, List.length_take, hl]
          omega
    · rw [if_pos he] at hv
      simp only [Prod.mk.injEq] at hv
      exact absurd hv.2.2 he
  short := fun p v k hv hk => by
    unfold rNum numS
    dsimp only
    rw [take_put p v k (by omega) (by omega) hk]
    simp

theorem Codec.text (hi : Int) (h1 : hi ≤ 72057594037927935) : Codec (rText hi) (fun m => Leb.put m.length ++ m) (fun m => (m.length : Int) ≤ hi) where
  stick := fun l s hs => by
    unfold rText textS
    rw [if_pos hs]
  back := fun p m q hm => by
    have e : p ++ (Leb.put m.length ++ m) ++ q = p ++ Leb.put m.length ++ (m ++ q) := by simp
    rw [e]
    unfold rText textS
    dsimp only
    rw [Leb.next_put p m.length (m ++ q) (by omega) (by omega)]
    dsimp only
    rw [if_neg (by simp), if_neg (by simp), if_neg (by omega), if_neg (by simp; omega)]
    have hc : cut (p ++ Leb.put m.length ++ (m ++ q)) ((p.length : Int) + (Leb.put m.length).length) m.length = m := by
      unfold cut
      have : ((p.length : Int) + (Leb.put m.length).length).toNat = (p ++ Leb.put m.length).length := by simp; omega
      rw [this, List.drop_left]
      simp
    rw [hc]
    simp
    omega
  one := fun l a m a' ha hm => by
    unfold rText textS at hm
    dsimp only at hm
    rw [if_neg (by simp)] at hm
    by_cases he : (Leb.next l a).2.2 = 0
    · rw [if_neg (by simp [he])] at hm
      by_cases hr : hi < (Leb.next l a).1
      · rw [if_pos hr] at hm
        simp at hm
      · rw [if_neg hr] at hm
        by_cases hs : (l.length : Int) - (Leb.next l a).2.1 < (Leb.next l a).1
        · rw [if_pos hs] at hm
          simp at hm
        · rw [if_neg hs] at hm
          simp only [Prod.mk.injEq] at hm
          obtain ⟨e1, e2, _⟩ := hm
          obtain ⟨g1, g2, g3, g4, g5, g6, _⟩ := Leb.next_one l a (Leb.next l a).1 (Leb.next l a).2.1 (by rw [← he])
          generalize (Leb.next l a).1 = n at *
          generalize (Leb.next l a).2.1 = z at *
          have hn : m.length = n.toNat := by
            rw [← e1]
            unfold cut
            rw [List.length_take, List.length_drop]
            omega
          have hn' : n = (m.length : Int) := by omega
          subst hn'
          have ep : Leb.put m.length = (l.drop a).take (z.toNat - a) := by rw [g6]; congr 1
          have hl : (Leb.put m.length).length = z.toNat - a := by
            rw [ep, List.length_take, List.length_drop]
            omega
          have em : m = (l.drop z.toNat).take m.length := by
            conv => lhs; rw [← e1]
            unfold cut
            simp
          refine ⟨by omega, l.take a, (l.drop z.toNat).drop m.length, ?_, by simp; omega, ?_⟩
          · have e3 : l.take a ++ (Leb.put m.length ++ m) ++ (l.drop z.toNat).drop m.length = l.take a ++ ((l.drop a).take (z.toNat - a) ++ ((l.drop z.toNat).take m.length ++ (l.drop z.toNat).drop m.length)) := by
              rw [← ep, ← em]
              simp
            rw [e3, List.take_append_drop]
            have e4 : l.drop z.toNat = (l.drop a).drop (z.toNat - a) := by
              rw [List.drop_drop]
              congr 1
              omega
            rw [e4, List.take_append_drop, List.take_append_drop]
          · rw [List.length_append, List.length_append, List.length_take, hl]
            omega
    · rw [if_pos he] at hm
      simp only [Prod.mk.injEq] at hm
      exact absurd hm.2.2 he
  short := fun p m k hm hk => by
    simp only [List.length_append] at hk
    unfold rText textS
    dsimp only
    by_cases hk1 : k < (Leb.put m.length).length
    · rw [List.take_append_of_le_length (by omega), take_put p m.length k (by omega) (by omega) hk1]
      simp
    · have e : (Leb.put m.length ++ m).take k = Leb.put m.length ++ m.take (k - (Leb.put m.length).length) := by
        rw [List.take_append, List.take_of_length_le (by omega)]
      rw [e, ← List.append_assoc, Leb.next_put p m.length _ (by omega) (by omega)]
      dsimp only
      rw [if_neg (by simp), if_neg (by simp), if_neg (by omega), if_pos (by simp; omega)]
end Go.Proofs.Ytfchejgohegbgaa
