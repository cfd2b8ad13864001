/- The law WireBack: what was written is read back. -/
import Derived.Test.YtfchejgohegbgaaVWPut
import Derived.Test.YtfchejgohegbgaaCodecA
namespace Go.Proofs.Ytfchejgohegbgaa
open Go.RowKit
set_option linter.unusedVariables false
set_option linter.unusedSimpArgs false

namespace Vx
def sameH (u v : List UInt8) : Bool := (decide (byteI u 0 = byteI v 0) && (decide (byteI u 1 = byteI v 1) && (decide (byteI u 2 = byteI v 2) && (decide (byteI u 3 = byteI v 3) && (decide (byteI u 4 = byteI v 4) && (decide (byteI u 5 = byteI v 5) && (decide (byteI u 6 = byteI v 6) && (decide (byteI u 7 = byteI v 7) && (decide (byteI u 8 = byteI v 8) && (decide (byteI u 9 = byteI v 9) && (decide (byteI u 10 = byteI v 10) && (decide (byteI u 11 = byteI v 11) && (decide (byteI u 12 = byteI v 12) && (decide (byteI u 13 = byteI v 13) && (decide (byteI u 14 = byteI v 14) && (decide (byteI u 15 = byteI v 15) && (decide (byteI u 16 = byteI v 16) && (decide (byteI u 17 = byteI v 17) && (decide (byteI u 18 = byteI v 18) && (decide (byteI u 19 = byteI v 19) && (decide (byteI u 20 = byteI v 20) && (decide (byteI u 21 = byteI v 21) && (decide (byteI u 22 = byteI v 22) && (decide (byteI u 23 = byteI v 23) && (decide (byteI u 24 = byteI v 24) && (decide (byteI u 25 = byteI v 25) && (decide (byteI u 26 = byteI v 26) && (decide (byteI u 27 = byteI v 27) && (decide (byteI u 28 = byteI v 28) && (decide (byteI u 29 = byteI v 29) && (decide (byteI u 30 = byteI v 30) && (decide (byteI u 31 = byteI v 31) && true))))))))))))))))))))))))))))))))
theorem sameH_refl (u : List UInt8) : sameH u u = true := by simp [sameH]
theorem byteI_lt (l : List UInt8) (i : Nat) : UInt8.ofNat (byteI l i).toNat = l.getD i 0 := by
  unfold byteI
  simp
theorem sumB_eq {x : Pu} (h : x.h.length = 32) : sumB x = x.h := by
  have e : sumB x = (List.range 32).map (fun i => UInt8.ofNat (byteI x.h i).toNat) := rfl
  rw [e]
  apply List.ext_getElem
  · simp [h]
  · intro i h1 h2
    simp only [List.getElem_map, List.getElem_range, byteI_lt]
    simp [List.getD, h2]
/-- Reading one thing: is it the same, and where the reader then is. -/
def rdX (x : Pu) (l : List UInt8) (s : Int × Int) : Bool × Int × Int :=
  if x.k = 0 then (decide ((numS l s.1 s.2 0 72057594037927935).1 = x.n), (numS l s.1 s.2 0 72057594037927935).2)
  else if x.k = 1 then (decide ((textS l s.1 s.2 300).1 = x.s), (textS l s.1 s.2 300).2)
  else (sameH (hashS l s.1 s.2).1 x.h, (hashS l s.1 s.2).2)
def backR : List Pu → List UInt8 → Int × Int → Option (Int × Int)
  | [], l, s => some s
  | x :: xs, l, s => if s.2 ≠ 0 then some s else if (rdX x l s).1 = false ∧ (rdX x l s).2.2 = 0 then none else backR xs l (rdX x l s).2
def backB (l : List UInt8) (xs : List Pu) (e : Int) : Bool := match backR xs l (0, 0) with
  | none => false
  | some s => decide (endS l s.1 s.2 = e)
structure PuFine (x : Pu) : Prop where
  bad : isBad x = false
  s : x.s.length ≤ 300
  h : x.h.length = 32
theorem rd_back {x : Pu} (h : PuFine x) (p q : List UInt8) : rdX x (p ++ pieceR x ++ q) ((p.length : Int), 0) = (true, (((p ++ pieceR x).length : Nat) : Int), 0) := by
  unfold rdX pieceR
  by_cases k0 : x.k = 0
  · rw [if_pos k0, if_pos k0]
    have hb : ¬ (x.k = 0 ∧ (x.n < 0 ∨ 72057594037927935 < x.n)) := of_decide_eq_false h.bad
    have := (Codec.num 0 72057594037927935 (by omega) (by omega)).back p x.n q (by omega)
    unfold rNum at this
    dsimp only at this
    rw [this]
    simp
  · rw [if_neg k0, if_neg k0]
    by_cases k1 : x.k = 1
    · rw [if_pos k1, if_pos k1]
      have := (Codec.text 300 (by omega)).back p x.s q (by have := h.s; omega)
      unfold rText at this
      dsimp only at this
      unfold textB
      rw [this]
      simp
    · rw [if_neg k1, if_neg k1, sumB_eq h.h]
      have hh : hashS (p ++ x.h ++ q) (p.length : Int) 0 = (x.h, (p.length : Int) + 32, 0) := by
        unfold hashS
        rw [if_neg (by simp), if_neg (by simp [h.h]; omega)]
        have : cut (p ++ x.h ++ q) (p.length : Int) 32 = x.h := by
          unfold cut
          rw [List.append_assoc, Int.toNat_natCast, List.drop_left]
          have : (32 : Int).toNat = x.h.length := by rw [h.h]; rfl
          rw [this, List.take_left]
        rw [this]
      dsimp only
      rw [hh]
      simp [sameH_refl, h.h]
theorem rd_short {x : Pu} (h : PuFine x) (p : List UInt8) (k : Nat) (hk : k < (pieceR x).length) : (rdX x (p ++ (pieceR x).take k) ((p.length : Int), 0)).2.2 = 2 := by
  unfold rdX
  unfold pieceR at hk ⊢
  by_cases k0 : x.k = 0
  · rw [if_pos k0] at hk ⊢
    rw [if_pos k0]
    have hb : ¬ (x.k = 0 ∧ (x.n < 0 ∨ 72057594037927935 < x.n)) := of_decide_eq_false h.bad
    exact (Codec.num 0 72057594037927935 (by omega) (by omega)).short p x.n k (by omega) hk
  · rw [if_neg k0] at hk ⊢
    rw [if_neg k0]
    by_cases k1 : x.k = 1
    · rw [if_pos k1] at hk ⊢
      rw [if_pos k1]
      exact (Codec.text 300 (by omega)).short p x.s k (by have := h.s; omega) hk
    · rw [if_neg k1] at hk ⊢
      rw [if_neg k1]
      rw [sumB_eq h.h] at hk ⊢
      have hl := h.h
      show (hashS (p ++ x.h.take k) (p.length : Int) 0).2.2 = 2
      unfold hashS
      rw [if_neg (by simp), if_pos (by simp; omega)]
theorem piece_pos {x : Pu} (h : PuFine x) : 1 ≤ (pieceR x).length := by
  unfold pieceR
  split
  · rename_i k0
    have hb : ¬ (x.k = 0 ∧ (x.n < 0 ∨ 72057594037927935 < x.n)) := of_decide_eq_false h.bad
    exact (Leb.put_len x.n (by omega) (by omega)).1
  · split
    · unfold textB
      have := h.s
      have := (Leb.put_len (x.s.length : Int) (by omega) (by omega)).1
      simp; omega
    · rw [len_sumB]; omega
theorem back_full : ∀ (xs : List Pu) (p q : List UInt8), (∀ x ∈ xs, PuFine x) → backR xs (p ++ catR xs ++ q) ((p.length : Int), 0) = some ((((p ++ catR xs).length : Nat) : Int), 0)
  | [], p, q, _ => by simp [backR, catR]
  | x :: xs, p, q, h => by
    have e : p ++ catR (x :: xs) ++ q = p ++ pieceR x ++ (catR xs ++ q) := by simp [catR]
    have e2 : p ++ pieceR x ++ (catR xs ++ q) = (p ++ pieceR x) ++ catR xs ++ q := by simp
    rw [backR, if_neg (by simp), e, rd_back (h x (by simp))]
    rw [if_neg (by simp), e2, back_full xs _ q fun y hy => h y (by simp [hy])]
    simp [catR]
theorem back_short : ∀ (xs : List Pu) (p : List UInt8), xs ≠ [] → (∀ x ∈ xs, PuFine x) → ∃ a, backR xs (p ++ (catR xs).take ((catR xs).length - 1)) ((p.length : Int), 0) = some (a, 2)
  | [], p, h, _ => absurd rfl h
  | [x], p, _, h => by
    have hp := piece_pos (h x (by simp))
    have e : catR [x] = pieceR x := by simp [catR]
    rw [e]
    have hs := rd_short (h x (by simp)) p ((pieceR x).length - 1) (by omega)
    rw [backR, if_neg (by simp), if_neg (by rw [hs]; simp), backR]
    exact ⟨(rdX x (p ++ (pieceR x).take ((pieceR x).length - 1)) ((p.length : Int), 0)).2.1, by rw [← hs]⟩
  | x :: y :: xs, p, _, h => by
    have hp := piece_pos (h y (by simp))
    have e : catR (x :: y :: xs) = pieceR x ++ catR (y :: xs) := by simp [catR]
    have hl : 1 ≤ (catR (y :: xs)).length := by
      have : catR (y :: xs) = pieceR y ++ catR xs := by simp [catR]
      rw [this, List.length_append]; omega
    have e2 : (pieceR x ++ catR (y :: xs)).take ((pieceR x ++ catR (y :: xs)).length - 1) = pieceR x ++ (catR (y :: xs)).take ((catR (y :: xs)).length - 1) := by
      rw [List.take_append, List.take_of_length_le (by rw [List.length_append]; omega)]
      congr 2
      rw [List.length_append]; omega
    obtain ⟨a, ih⟩ := back_short (y :: xs) (p ++ pieceR x) (by simp) fun z hz => h z (by simp [List.mem_cons.1 hz])
    refine ⟨a, ?_⟩
    rw [e, e2, ← List.append_assoc, backR, if_neg (by simp), rd_back (h x (by simp)), if_neg (by simp)]
    exact ih
theorem backB_full {xs : List Pu} (h : ∀ x ∈ xs, PuFine x) : backB (catR xs) xs 0 = true := by
  have := back_full xs [] [] h
  simp only [List.nil_append, List.append_nil, List.length_nil] at this
  unfold backB
  have e : ((0 : Nat) : Int) = 0 := rfl
  rw [e] at this
  rw [this]
  simp [endS]
theorem backB_more {xs : List Pu} {m : List UInt8} (h : ∀ x ∈ xs, PuFine x) (hm : m ≠ []) : backB (catR xs ++ m) xs 3 = true := by
  have := back_full xs [] m h
  simp only [List.nil_append, List.length_nil] at this
  unfold backB
  have e : ((0 : Nat) : Int) = 0 := rfl
  rw [e] at this
  rw [this]
  have : 0 < m.length := List.length_pos_iff.2 hm
  show decide (endS (catR xs ++ m) ((catR xs).length : Int) 0 = 3) = true
  unfold endS
  rw [List.length_append, if_pos ⟨rfl, by omega⟩]
  rfl
theorem backB_less {xs : List Pu} (h : ∀ x ∈ xs, PuFine x) (hx : xs ≠ []) : backB ((catR xs).take ((catR xs).length - 1)) xs 2 = true := by
  obtain ⟨a, this⟩ := back_short xs [] hx h
  simp only [List.nil_append, List.length_nil] at this
  unfold backB
  have e : ((0 : Nat) : Int) = 0 := rfl
  rw [e] at this
  rw [this]
  simp [endS]
theorem cat_pos {xs : List Pu} (h : ∀ x ∈ xs, PuFine x) (hx : xs ≠ []) : 1 ≤ (catR xs).length := by
  cases xs with
  | nil => exact absurd rfl hx
  | cons x xs =>
    have := piece_pos (h x (by simp))
    have e : catR (x :: xs) = pieceR x ++ catR xs := by simp [catR]
    rw [e, List.length_append]; omega
theorem rdX_ok {x : Pu} {l : List UInt8} {a b : Int} (h : okRd l a b) : okRd l (rdX x l (a, b)).2.1 (rdX x l (a, b)).2.2 := by
  unfold rdX
  split
  · exact ok_num h
  · split
    · exact ok_text h
    · exact ok_hash h
end Vx
end Go.Proofs.Ytfchejgohegbgaa
