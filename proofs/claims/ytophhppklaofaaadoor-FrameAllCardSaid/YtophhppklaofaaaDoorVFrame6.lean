/- Records: what is read of what was written, cut, turned, or laid one behind the other: plain laws. -/
import Derived.Test.YtophhppklaofaaaDoorVFrame5
namespace Go.Proofs.YtophhppklaofaaaDoor.Vx
open Go.RowKit Sha
set_option linter.unusedVariables false
set_option linter.unusedSimpArgs false
theorem beN_four (p q r t : UInt8) : beN [p, q, r, t] = (((p.toNat : Int) * 256 + (q.toNat : Int)) * 256 + (r.toNat : Int)) * 256 + (t.toNat : Int) := by
  show (((0 * 256 + (p.toNat : Int)) * 256 + (q.toNat : Int)) * 256 + (r.toNat : Int)) * 256 + (t.toNat : Int) = _
  omega
theorem d8_nat (n : Int) (j : Nat) : (((UInt8.ofNat (d8 n j).toNat).toNat : Nat) : Int) = d8 n j := by
  have := d8_range n j
  rw [UInt8.toNat_ofNat_of_lt' (by show _ < 256; omega)]
  omega
theorem beN_be4 (n : Int) (h0 : 0 ≤ n) (h1 : n ≤ 2147483647) : beN (be4 n) = n := by
  unfold be4
  rw [beN_four, d8_nat, d8_nat, d8_nat, d8_nat]
  unfold d8
  rw [show (256 : Int) ^ (7 - 4) = 16777216 by decide, show (256 : Int) ^ (7 - 5) = 65536 by decide, show (256 : Int) ^ (7 - 6) = 256 by decide, show (256 : Int) ^ (7 - 7) = 1 by decide]
  omega
theorem next_head (pre : List UInt8) (p q r t x y z w : UInt8) (B : List UInt8) : nextF (pre ++ p :: q :: r :: t :: x :: y :: z :: w :: B) (pre.length : Int) =
    if 2147483647 < beN [p, q, r, t] then ([], 0, 4) else if (B.length : Int) < beN [p, q, r, t] then ([], 0, 2) else
    if sum4 (B.take (beN [p, q, r, t]).toNat) = [x, y, z, w] then (B.take (beN [p, q, r, t]).toNat, (pre.length : Int) + 8 + beN [p, q, r, t], 0) else ([], 0, 5) := by
  have hd : (pre ++ p :: q :: r :: t :: x :: y :: z :: w :: B).drop ((pre.length : Int)).toNat = p :: q :: r :: t :: x :: y :: z :: w :: B := by
    rw [show ((pre.length : Int)).toNat = pre.length by omega, List.drop_left]
  have hl : ((pre ++ p :: q :: r :: t :: x :: y :: z :: w :: B).length : Int) = (pre.length : Int) + 8 + (B.length : Int) := by
    simp only [List.length_append, List.length_cons]; omega
  have hn : nxL (pre ++ p :: q :: r :: t :: x :: y :: z :: w :: B) (pre.length : Int) = beN [p, q, r, t] := by unfold nxL; rw [hd]; rfl
  have hb : nxBody (pre ++ p :: q :: r :: t :: x :: y :: z :: w :: B) (pre.length : Int) = B.take (beN [p, q, r, t]).toNat := by unfold nxBody; rw [hn, hd]; rfl
  unfold nextF
  rw [hb, hn, hl, hd, if_neg (by omega), if_neg (by omega)]
  by_cases h1 : 2147483647 < beN [p, q, r, t]
  · rw [if_pos h1, if_pos h1]
  · rw [if_neg h1, if_neg h1]
    by_cases h2 : (B.length : Int) < beN [p, q, r, t]
    · rw [if_pos h2, if_pos (by omega)]
    · rw [if_neg h2, if_neg (by omega)]
      rfl
/-- A record's head, byte by byte. -/
theorem put_head (b : List UInt8) (h : b.length ≤ 2147483647) : ∃ p q r t x y z w : UInt8, putF b = p :: q :: r :: t :: x :: y :: z :: w :: b ∧ beN [p, q, r, t] = (b.length : Int) ∧ sum4 b = [x, y, z, w] := by
  have hl := sum4_len b
  obtain ⟨x, y, z, w, hs⟩ : ∃ x y z w : UInt8, sum4 b = [x, y, z, w] := by
    generalize sum4 b = l at hl
    match l, hl with
    | [x, y, z, w], _ => exact ⟨x, y, z, w, rfl⟩
  refine ⟨_, _, _, _, x, y, z, w, ?_, beN_be4 (b.length : Int) (by omega) (by omega), hs⟩
  unfold putF
  rw [if_neg (by omega), hs]
  rfl
theorem next_put (pre b rest : List UInt8) (h : b.length ≤ 2147483647) : nextF (pre ++ (putF b ++ rest)) (pre.length : Int) = (b, (pre.length : Int) + 8 + (b.length : Int), 0) := by
  obtain ⟨p, q, r, t, x, y, z, w, e, hn, hs⟩ := put_head b h
  rw [e]
  show nextF (pre ++ p :: q :: r :: t :: x :: y :: z :: w :: (b ++ rest)) _ = _
  rw [next_head, hn, if_neg (by omega), if_neg (by rw [List.length_append]; omega), show ((b.length : Int)).toNat = b.length by omega, List.take_left, if_pos hs]
theorem next0_put (b rest : List UInt8) (h : b.length ≤ 2147483647) : nextF (putF b ++ rest) 0 = (b, 8 + (b.length : Int), 0) := by
  have := next_put [] b rest h
  simpa using this
theorem put_len (b : List UInt8) (h : b.length ≤ 2147483647) : (putF b).length = 8 + b.length ∧ putE b = 0 := by
  obtain ⟨p, q, r, t, x, y, z, w, e, _, _⟩ := put_head b h
  refine ⟨by rw [e]; simp only [List.length_cons]; omega, ?_⟩
  unfold putE
  rw [if_neg (by omega)]
theorem open_put (b : List UInt8) (h : b.length ≤ 2147483647) : openF (putF b) = (b, 0) := by
  have e := next0_put b [] h
  have l := (put_len b h).1
  rw [List.append_nil] at e
  unfold openF
  rw [e, if_neg (fun h => h rfl), if_neg (by rw [l]; show ¬ (8 + (b.length : Int) < _); omega)]
theorem open_more (b m : List UInt8) (h : b.length ≤ 2147483647) (hm : m ≠ []) : openF (putF b ++ m) = ([], 3) := by
  have e := next0_put b m h
  have l := (put_len b h).1
  have hm2 : 0 < m.length := List.length_pos_iff.2 hm
  unfold openF
  rw [e, if_neg (fun h => h rfl), if_pos (by rw [List.length_append, l]; show 8 + (b.length : Int) < _; omega)]
theorem open_of_next {s : List UInt8} {e : Int} (h : nextF s 0 = ([], 0, e)) (he : e ≠ 0) : openF s = ([], e) := by
  unfold openF
  rw [h, if_pos he]
theorem open_cut (b : List UInt8) (c : Nat) (h : b.length ≤ 2147483647) (hc : c < 8 + b.length) : openF ((putF b).take c) = ([], 2) := by
  refine open_of_next ?_ (by decide)
  obtain ⟨p, q, r, t, x, y, z, w, e, hn, hs⟩ := put_head b h
  have l := (put_len b h).1
  by_cases h8 : c < 8
  · exact next_short (by rw [List.length_take]; omega) (by rw [List.length_take]; omega)
  · obtain ⟨d, rfl⟩ : ∃ d, c = d + 8 := ⟨c - 8, by omega⟩
    rw [e]
    show nextF ([] ++ p :: q :: r :: t :: x :: y :: z :: w :: b.take d) (([] : List UInt8).length : Int) = _
    rw [next_head, hn, if_neg (by omega), if_pos (by rw [List.length_take]; omega)]
theorem take4_ne {p q r t p' q' r' t' : UInt8} (h : ¬ (p = p' ∧ q = q' ∧ r = r' ∧ t = t')) : beN [p, q, r, t] ≠ beN [p', q', r', t'] := by
  rw [beN_four, beN_four]
  intro e
  refine h ⟨?_, ?_, ?_, ?_⟩ <;> apply UInt8.toNat_inj.1 <;>
  · have h1 := p.toNat_lt; have h2 := q.toNat_lt; have h3 := r.toNat_lt; have h4 := t.toNat_lt
    have g1 := p'.toNat_lt; have g2 := q'.toNat_lt; have g3 := r'.toNat_lt; have g4 := t'.toNat_lt
    omega
/-- Another head: refused. -/
theorem open_size (b : List UInt8) (p q r t x y z w : UInt8) (h : b.length ≤ 2147483647) (hn : beN [p, q, r, t] ≠ (b.length : Int)) : (openF (p :: q :: r :: t :: x :: y :: z :: w :: b)).2 ≠ 0 := by
  have e : nextF (p :: q :: r :: t :: x :: y :: z :: w :: b) 0 = _ := next_head [] p q r t x y z w b
  have hr := (beN_range [p, q, r, t]).1
  unfold openF
  rw [e]
  by_cases h1 : 2147483647 < beN [p, q, r, t]
  · rw [if_pos h1]; simp
  · rw [if_neg h1]
    by_cases h2 : (b.length : Int) < beN [p, q, r, t]
    · rw [if_pos h2]; simp
    · rw [if_neg h2]
      by_cases h3 : sum4 (b.take (beN [p, q, r, t]).toNat) = [x, y, z, w]
      · rw [if_pos h3, if_neg (fun h => h rfl), if_pos (by show (((([] : List UInt8).length : Nat) : Int) + 8 + beN [p, q, r, t] : Int) < _; simp only [List.length_cons, List.length_nil]; omega)]
        decide
      · rw [if_neg h3]; simp
theorem open_sum (b : List UInt8) (p q r t x y z w : UInt8) (h : b.length ≤ 2147483647) (hn : beN [p, q, r, t] = (b.length : Int)) (hs : sum4 b ≠ [x, y, z, w]) : openF (p :: q :: r :: t :: x :: y :: z :: w :: b) = ([], 5) := by
  have e : nextF (p :: q :: r :: t :: x :: y :: z :: w :: b) 0 = _ := next_head [] p q r t x y z w b
  refine open_of_next ?_ (by decide)
  rw [e, hn, if_neg (by omega), if_neg (by omega), show ((b.length : Int)).toNat = b.length by omega, List.take_length, if_neg hs]
/-- A byte of the head turned. -/
theorem open_turned (b : List UInt8) (a : Nat) (v : UInt8) (h : b.length ≤ 2147483647) (ha : a < 8) (hv : v ≠ (putF b).getD a 0) : (openF ((putF b).set a v)).2 ≠ 0 ∧ (4 ≤ a → (openF ((putF b).set a v)).2 = 5) := by
  obtain ⟨p, q, r, t, x, y, z, w, e, hn, hs⟩ := put_head b h
  rw [e] at hv ⊢
  have lo : ∀ p' q' r' t' : UInt8, ¬ (p' = p ∧ q' = q ∧ r' = r ∧ t' = t) → (openF (p' :: q' :: r' :: t' :: x :: y :: z :: w :: b)).2 ≠ 0 := fun p' q' r' t' h1 => open_size b p' q' r' t' x y z w h (by rw [← hn]; exact take4_ne h1)
  have hi : ∀ x' y' z' w' : UInt8, ¬ (x = x' ∧ y = y' ∧ z = z' ∧ w = w') → (openF (p :: q :: r :: t :: x' :: y' :: z' :: w' :: b)).2 = 5 := fun x' y' z' w' h1 => by
    rw [open_sum b p q r t x' y' z' w' h hn (by rw [hs]; intro h2; simp only [List.cons.injEq, and_true] at h2; exact h1 h2)]
  have hc : a = 0 ∨ a = 1 ∨ a = 2 ∨ a = 3 ∨ a = 4 ∨ a = 5 ∨ a = 6 ∨ a = 7 := by omega
  rcases hc with rfl | rfl | rfl | rfl | rfl | rfl | rfl | rfl
  · exact ⟨lo v q r t (fun h => hv h.1), fun h => absurd h (by decide)⟩
  · exact ⟨lo p v r t (fun h => hv h.2.1), fun h => absurd h (by decide)⟩
  · exact ⟨lo p q v t (fun h => hv h.2.2.1), fun h => absurd h (by decide)⟩
  · exact ⟨lo p q r v (fun h => hv h.2.2.2), fun h => absurd h (by decide)⟩
  · have k := hi v y z w (fun h => hv h.1.symm)
    exact ⟨fun h0 => absurd (k.symm.trans h0) (by decide), fun _ => k⟩
  · have k := hi x v z w (fun h => hv h.2.1.symm)
    exact ⟨fun h0 => absurd (k.symm.trans h0) (by decide), fun _ => k⟩
  · have k := hi x y v w (fun h => hv h.2.2.1.symm)
    exact ⟨fun h0 => absurd (k.symm.trans h0) (by decide), fun _ => k⟩
  · have k := hi x y z v (fun h => hv h.2.2.2.symm)
    exact ⟨fun h0 => absurd (k.symm.trans h0) (by decide), fun _ => k⟩
theorem all_puts (tail : List UInt8) (ht : tail.length ≤ 7) : ∀ (ls : List (List UInt8)) (pre : List UInt8) (f : Nat), (∀ b ∈ ls, b.length ≤ 2147483647) → (ls.flatMap putF).length + tail.length ≤ f →
    allR f (pre ++ (ls.flatMap putF ++ tail)) (pre.length : Int) = (ls, (pre.length : Int) + ((ls.flatMap putF).length : Int), if tail = [] then 0 else 2)
  | [], pre, f, _, hf => by
    have hl : ((pre ++ (([] : List (List UInt8)).flatMap putF ++ tail)).length : Int) = (pre.length : Int) + (tail.length : Int) := by simp
    by_cases h0 : tail = []
    · subst h0
      rw [if_pos rfl]
      cases f with
      | zero => simp [allR]
      | succ f =>
        unfold allR
        rw [if_neg (by rw [hl]; simp)]
        simp
    · have hp : 0 < tail.length := List.length_pos_iff.2 h0
      rw [if_neg h0]
      obtain ⟨k, rfl⟩ : ∃ k, f = k + 1 := ⟨f - 1, by simp at hf; omega⟩
      have e := next_short (s := pre ++ (([] : List (List UInt8)).flatMap putF ++ tail)) (a := (pre.length : Int)) (by omega) (by omega)
      unfold allR
      rw [if_pos (by omega), e, if_neg (by decide)]
      simp
  | b :: ls, pre, f, hb, hf => by
    have h0 := hb b (List.mem_cons_self)
    have l0 := (put_len b h0).1
    have hfl : ((b :: ls).flatMap putF) = putF b ++ ls.flatMap putF := by simp
    rw [hfl] at hf ⊢
    rw [List.length_append] at hf
    obtain ⟨k, rfl⟩ : ∃ k, f = k + 1 := ⟨f - 1, by omega⟩
    have e := next_put pre b (ls.flatMap putF ++ tail) h0
    have ih := all_puts tail ht ls (pre ++ putF b) k (fun x hx => hb x (List.mem_cons_of_mem _ hx)) (by omega)
    rw [List.append_assoc] at ih ⊢
    have hp : (((pre ++ putF b).length : Nat) : Int) = (pre.length : Int) + 8 + (b.length : Int) := by rw [List.length_append, l0]; omega
    rw [hp] at ih
    unfold allR
    rw [if_pos (by rw [List.length_append, List.length_append, l0]; omega), e, if_pos rfl, ih]
    simp only [Prod.mk.injEq, true_and, and_true]
    rw [List.length_append, l0]
    omega
end Go.Proofs.YtophhppklaofaaaDoor.Vx
