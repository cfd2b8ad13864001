/- What leaves, proofs and messages are read as, and written as, plainly. -/
import Derived.Test.YthomoliklfmnkaaDoorM29
import Derived.Test.YthomoliklfmnkaaDoorM31
import Derived.Test.YthomoliklfmnkaaDoorM34
section
namespace Go.Proofs.YthomoliklfmnkaaDoor.Vx
set_option linter.unusedVariables false
set_option linter.unusedSimpArgs false
/-- The numbers of a sum's bytes. -/
def numsOf (l : List UInt8) : List Int := (List.range 32).map (byteI l)
def hashV (h : List Int) : Prop := h.length = 32 ∧ ∀ b ∈ h, 0 ≤ b ∧ b < 256
def rHash (l : List UInt8) (s : Int × Int) : List Int × Int × Int := (numsOf (hashS l s.1 s.2).1, (hashS l s.1 s.2).2)
theorem nums_ok (l : List UInt8) : hashV (numsOf l) := by
  refine ⟨by simp [numsOf], fun b hb => ?_⟩
  simp only [numsOf, List.mem_map] at hb
  obtain ⟨i, _, rfl⟩ := hb
  exact byteI_range l i
theorem nums_get (l : List UInt8) {j : Nat} (hj : j < 32) : (numsOf l).getD j 0 = byteI l j := by
  simp [numsOf, List.getD, hj]
theorem nums_hash {h : List Int} (hv : hashV h) : numsOf (hashOf h) = h := by
  apply List.ext_getElem (by simp [numsOf, hv.1])
  intro j h1 h2
  have hb := hv.2 _ (List.getElem_mem h2)
  have hl : j < (hashOf h).length := by simp [hashOf]; exact h2
  simp only [numsOf, List.getElem_map, List.getElem_range, byteI]
  rw [show (hashOf h).getD j 0 = (hashOf h)[j] by simp [List.getD, hl]]
  simp only [hashOf, List.getElem_map]
  have : (UInt8.ofNat h[j].toNat).toNat = h[j].toNat := by
    rw [UInt8.toNat_ofNat']
    omega
  rw [this]
  omega
theorem hash_nums {l : List UInt8} (h : l.length = 32) : hashOf (numsOf l) = l := by
  apply List.ext_getElem (by simp [hashOf, numsOf, h])
  intro j h1 h2
  simp only [hashOf, numsOf, List.getElem_map, List.getElem_range, byteI]
  rw [show l.getD j 0 = l[j] by simp [List.getD, h2]]
  simp
theorem hashOf_len (h : List Int) : (hashOf h).length = h.length := by simp [hashOf]
theorem codecHash : Codec rHash hashOf hashV where
  stick := fun l s hs => by
    unfold rHash hashS
    rw [if_pos hs]
  back := fun p h q hv => by
    have hl : (hashOf h).length = 32 := by rw [hashOf_len, hv.1]
    have hh : hashS (p ++ hashOf h ++ q) (p.length : Int) 0 = (hashOf h, (p.length : Int) + 32, 0) := by
      unfold hashS
      rw [if_neg (by simp), if_neg (by simp [hl]; omega)]
      have : cut (p ++ hashOf h ++ q) (p.length : Int) 32 = hashOf h := by
        unfold cut
        rw [List.append_assoc, Int.toNat_natCast, List.drop_left]
        have : (32 : Int).toNat = (hashOf h).length := by rw [hl]; rfl
        rw [this, List.take_left]
      rw [this]
    unfold rHash
    dsimp only
    rw [hh]
    dsimp only
    rw [nums_hash hv]
    simp [hl]
  one := fun l a x a' ha h => by
    unfold rHash at h
    dsimp only at h
    unfold hashS at h
    rw [if_neg (by simp)] at h
    split at h
    · simp at h
    · rename_i hn
      simp only [Prod.mk.injEq] at h
      obtain ⟨h1, h2, -⟩ := h
      have hc : (cut l (a : Int) 32).length = 32 := by
        unfold cut
        rw [List.length_take, List.length_drop]
        omega
      subst h1
      refine ⟨nums_ok _, l.take a, (l.drop a).drop 32, ?_, by simp; omega, ?_⟩
      · rw [hash_nums hc]
        have : cut l (a : Int) 32 = (l.drop a).take 32 := rfl
        rw [this, List.append_assoc, List.take_append_drop, List.take_append_drop]
      · rw [hash_nums hc, List.length_append, hc, List.length_take]
        omega
  short := fun p x k hx hk => by
    rw [hashOf_len, hx.1] at hk
    show (hashS (p ++ (hashOf x).take k) (p.length : Int) 0).2.2 = 2
    unfold hashS
    rw [if_neg (by simp), if_pos (by simp; omega)]

/-! ### Leaves -/
def rLeaf (l : List UInt8) (s : Int × Int) : PLeaf × Int × Int :=
  let k := rText 160 l s
  let v := rText 64 l k.2
  let i := rNum 0 1073741824 l v.2
  let n := rCount 30 l i.2
  let p := repR rHash n.1.toNat l n.2
  (⟨k.1, v.1, i.1, p.1⟩, p.2)
def leafB (x : PLeaf) : List UInt8 := textB x.k ++ (textB x.v ++ (Leb.put x.i ++ (Leb.put (x.p.length : Int) ++ flatE hashOf x.p)))
def leafV (x : PLeaf) : Prop := (x.k.length : Int) ≤ 160 ∧ (x.v.length : Int) ≤ 64 ∧ (0 ≤ x.i ∧ x.i ≤ 1073741824) ∧ (0 ≤ (x.p.length : Int) ∧ (x.p.length : Int) ≤ 30) ∧ ∀ h ∈ x.p, hashV h
theorem codecLeaf : Codec rLeaf leafB leafV :=
  ((Codec.text 160 (by decide)).bind fun _ => (Codec.text 64 (by decide)).bind fun _ => (Codec.num 0 1073741824 (by decide) (by decide)).bind fun _ => (Codec.count 30 (by decide)).bind fun n => codecHash.rep n.toNat).mapI
    (fun z => (⟨z.1, z.2.1, z.2.2.1, z.2.2.2.2⟩ : PLeaf))
    (fun z hz => by
      obtain ⟨k, v, i, n, p⟩ := z
      obtain ⟨h1, h2, h3, h4, h5, h6⟩ := hz
      dsimp only at h1 h2 h3 h4 h5
      have e : (p.length : Int) = n := by omega
      simp only [leafB, e]
      rfl)
    (fun y hy => ⟨(y.k, y.v, y.i, (y.p.length : Int), y.p), rfl, hy.1, hy.2.1, hy.2.2.1, hy.2.2.2.1, by simp, hy.2.2.2.2⟩)
    (fun z hz => by
      obtain ⟨k, v, i, n, p⟩ := z
      obtain ⟨h1, h2, h3, h4, h5, h6⟩ := hz
      dsimp only at h1 h2 h3 h4 h5
      have e : (p.length : Int) = n := by omega
      exact ⟨h1, h2, h3, by rw [e]; exact h4, h6⟩)

/-! ### Proofs -/
def rProof (l : List UInt8) (s : Int × Int) : (Int × List PLeaf) × Int × Int :=
  let c := rNum 0 1073741824 l s
  let n := rCount 2 l c.2
  let p := repR rLeaf n.1.toNat l n.2
  ((c.1, p.1), p.2)
def proofB (p : Int × List PLeaf) : List UInt8 := Leb.put p.1 ++ (Leb.put (p.2.length : Int) ++ flatE leafB p.2)
def proofV (p : Int × List PLeaf) : Prop := (0 ≤ p.1 ∧ p.1 ≤ 1073741824) ∧ (0 ≤ (p.2.length : Int) ∧ (p.2.length : Int) ≤ 2) ∧ ∀ x ∈ p.2, leafV x
theorem codecProof : Codec rProof proofB proofV :=
  ((Codec.num 0 1073741824 (by decide) (by decide)).bind fun _ => (Codec.count 2 (by decide)).bind fun n => codecLeaf.rep n.toNat).mapI
    (fun z => (z.1, z.2.2))
    (fun z hz => by
      obtain ⟨c, n, p⟩ := z
      obtain ⟨h1, h2, h3, h4⟩ := hz
      dsimp only at h1 h2 h3
      have e : (p.length : Int) = n := by omega
      simp only [proofB, e])
    (fun y hy => ⟨(y.1, (y.2.length : Int), y.2), rfl, hy.1, hy.2.1, by simp, hy.2.2⟩)
    (fun z hz => by
      obtain ⟨c, n, p⟩ := z
      obtain ⟨h1, h2, h3, h4⟩ := hz
      dsimp only at h1 h2 h3
      have e : (p.length : Int) = n := by omega
      exact ⟨h1, by rw [e]; exact h2, h4⟩)

/-! ### Messages -/

/-! ### Messages that may be are read back -/
theorem leafV_ok {x : PLeaf} (h : leafV x) : x.ok := ⟨by have := h.1; omega, by have := h.2.1; omega, by have := h.2.2.2.1.2; omega, h.2.2.2.2⟩
theorem proofV_ok {p : Int × List PLeaf} (h : proofV p) : (∀ x ∈ p.2, x.ok) ∧ p.2.length ≤ 2 := ⟨fun x hx => leafV_ok (h.2.2 x hx), by have := h.2.1.2; omega⟩
end Go.Proofs.YthomoliklfmnkaaDoor.Vx
end

section
/- Leaves and proofs read, by the walker. -/
namespace Go.Proofs.YthomoliklfmnkaaDoor.Vx
open Go.RowKit
set_option linter.unusedVariables false
set_option linter.unusedSimpArgs false
def tbR : Tbl where
  T :=
    (3, ⟨1, false, [.int .i64 (0)], .int .i64, 8⟩) ::
    (4, ⟨1, false, [.ff], .bool, 1⟩) ::
    (9, ⟨1, false, [.str []], .str, 16⟩) ::
    (5, ⟨1, false, [.int .u8 (0)], .int .u8, 1⟩) ::
    (158, ⟨1, false, [.val (.slice none 0 0)], .slice 5, 24⟩) ::
    (55, ⟨1, false, [.int .i64 (0)], .int .i64, 8⟩) ::
    (115, ⟨4, true, [.str [], .str [], .int .i64 (0), .val (.slice none 0 0)], .struct [(0, (1, false)), (1, (1, false)), (2, (1, false)), (3, (1, false))], 64⟩) ::
    (25, ⟨1, false, [.val (.slice none 0 0)], .slice 115, 24⟩) ::
    (27, ⟨2, true, [.int .i64 (0), .val (.slice none 0 0)], .struct [(0, (1, false)), (1, (1, false))], 32⟩) ::
    (24, ⟨32, true, [.int .u8 (0), .int .u8 (0), .int .u8 (0), .int .u8 (0), .int .u8 (0), .int .u8 (0), .int .u8 (0), .int .u8 (0), .int .u8 (0), .int .u8 (0), .int .u8 (0), .int .u8 (0), .int .u8 (0), .int .u8 (0), .int .u8 (0), .int .u8 (0), .int .u8 (0), .int .u8 (0), .int .u8 (0), .int .u8 (0), .int .u8 (0), .int .u8 (0), .int .u8 (0), .int .u8 (0), .int .u8 (0), .int .u8 (0), .int .u8 (0), .int .u8 (0), .int .u8 (0), .int .u8 (0), .int .u8 (0), .int .u8 (0)], .array 32 5, 32⟩) ::
    (113, ⟨1, false, [.val (.slice none 0 0)], .slice 24, 24⟩) ::
    (85, ⟨34, true, [.int .i64 (0), .int .i64 (0), .int .u8 (0), .int .u8 (0), .int .u8 (0), .int .u8 (0), .int .u8 (0), .int .u8 (0), .int .u8 (0), .int .u8 (0), .int .u8 (0), .int .u8 (0), .int .u8 (0), .int .u8 (0), .int .u8 (0), .int .u8 (0), .int .u8 (0), .int .u8 (0), .int .u8 (0), .int .u8 (0), .int .u8 (0), .int .u8 (0), .int .u8 (0), .int .u8 (0), .int .u8 (0), .int .u8 (0), .int .u8 (0), .int .u8 (0), .int .u8 (0), .int .u8 (0), .int .u8 (0), .int .u8 (0), .int .u8 (0), .int .u8 (0)], .struct [(0, (1, false)), (1, (1, false)), (2, (32, true))], 48⟩) ::
    (155, ⟨3, true, [.str [], .int .i64 (0), .int .i64 (0)], .struct [(0, (1, false)), (1, (1, false)), (2, (1, false))], 32⟩) ::
    (160, ⟨2, true, [.val (.slice none 0 0), .ff], .struct [(0, (1, false)), (1, (1, false))], 32⟩) ::
    (97, ⟨3, true, [.str [], .int .i64 (0), .int .i64 (0)], .struct [(0, (1, false)), (1, (1, false)), (2, (1, false))], 32⟩) ::
    (93, ⟨1, false, [.val (.pointer none)], .ptr 155, 8⟩) ::
    (101, ⟨1, false, [.val (.pointer none)], .ptr 160, 8⟩) ::
    []
  F :=
    (24, [0, 0, 0, 0, 0, 0, 0, 0, 0, 0, 0, 0, 0, 0, 0, 0, 0, 0, 0, 0, 0, 0, 0, 0, 0, 0, 0, 0, 0, 0, 0, 0]) ::
    (85, [0, 0, 0, 0, 0, 0, 0, 0, 0, 0, 0, 0, 0, 0, 0, 0, 0, 0, 0, 0, 0, 0, 0, 0, 0, 0, 0, 0, 0, 0, 0, 0, 0, 0]) ::
    []

theorem tbR_ok : tbR.Ok Tryd.prog where
  T :=
    TblOk.cons (by kernel_rfl) <|
    TblOk.cons (by kernel_rfl) <|
    TblOk.cons (by kernel_rfl) <|
    TblOk.cons (by kernel_rfl) <|
    TblOk.cons (by kernel_rfl) <|
    TblOk.cons (by kernel_rfl) <|
    TblOk.cons (by kernel_rfl) <|
    TblOk.cons (by kernel_rfl) <|
    TblOk.cons (by kernel_rfl) <|
    TblOk.cons (by kernel_rfl) <|
    TblOk.cons (by kernel_rfl) <|
    TblOk.cons (by kernel_rfl) <|
    TblOk.cons (by kernel_rfl) <|
    TblOk.cons (by kernel_rfl) <|
    TblOk.cons (by kernel_rfl) <|
    TblOk.cons (by kernel_rfl) <|
    TblOk.cons (by kernel_rfl) <|
    TblOk.nil _
  F :=
    FlatsOk.cons (FlatOk.of (D := .array 32 5) 6 (by decide) (by kernel_rfl) (by kernel_rfl) rfl (by kernel_rfl)) <|
    FlatsOk.cons (FlatOk.of (D := .struct (Tryd.prog.fieldsOf 85)) 6 (by decide) (by kernel_rfl) (by kernel_rfl) rfl (by kernel_rfl)) <|
    FlatsOk.nil _

/-- How many sums there are; the evaluation does not go into it. -/
def lenH (p : List (List Int)) : Nat := p.length
theorem okS_hash {l : List UInt8} {s : Int × Int} (h : okS l s) : okS l (rHash l s).2 := ok_hash h
theorem okS_count {l : List UInt8} {s : Int × Int} {hi : Int} (h : okS l s) : okS l (rCount hi l s).2 := ok_count h
theorem cnt_rng (l : List UInt8) (a b hi : Int) (h : 0 ≤ hi) : 0 ≤ (countS l a b hi).1 ∧ (countS l a b hi).1 ≤ hi := by
  have := Leb.next_range l a
  unfold countS
  split
  · exact ⟨by dsimp only; omega, by dsimp only; omega⟩
  · split
    · exact ⟨by dsimp only; omega, by dsimp only; omega⟩
    · split
      · exact ⟨by dsimp only; omega, by dsimp only; omega⟩
      · dsimp only; omega
theorem repR_succ {α : Type} {r : List UInt8 → Int × Int → α × Int × Int} {n : Nat} {l : List UInt8} {s : Int × Int} : repR r (n + 1) l s = ((r l s).1 :: (repR r n l (r l s).2).1, (repR r n l (r l s).2).2) := rfl
/-- n things are being read; the first of them are. -/
structure LRep {α : Type} (r : List UInt8 → Int × Int → α × Int × Int) (l : List UInt8) (N : Nat) (s0 : Int × Int) where
  i : Int
  n : Nat
  a : Int
  b : Int
  p : List α
  hn : i = (n : Int)
  h1 : n ≤ N
  hp : p.length = n
  ok : okRd l a b
  he : repR r N l s0 = (p ++ (repR r (N - n) l (a, b)).1, (repR r (N - n) l (a, b)).2)
theorem rep_next {α : Type} {r : List UInt8 → Int × Int → α × Int × Int} {l : List UInt8} {N : Nat} {s0 : Int × Int} {n : Nat} {a b : Int} {p : List α} (h1 : n < N) (he : repR r N l s0 = (p ++ (repR r (N - n) l (a, b)).1, (repR r (N - n) l (a, b)).2)) : repR r N l s0 = ((p ++ [(r l (a, b)).1]) ++ (repR r (N - (n + 1)) l (r l (a, b)).2).1, (repR r (N - (n + 1)) l (r l (a, b)).2).2) := by
  obtain ⟨m, hm⟩ : ∃ m, N - n = m + 1 := ⟨N - n - 1, by omega⟩
  rw [hm, repR_succ] at he
  rw [show N - (n + 1) = m by omega, he]
  simp
theorem rep_end {α : Type} {r : List UInt8 → Int × Int → α × Int × Int} {l : List UInt8} {N : Nat} {s0 : Int × Int} {n : Nat} {a b : Int} {p : List α} (h1 : N ≤ n) (he : repR r N l s0 = (p ++ (repR r (N - n) l (a, b)).1, (repR r (N - n) l (a, b)).2)) : repR r N l s0 = (p, (a, b)) := by
  rw [show N - n = 0 by omega] at he
  rw [he]
  simp [repR]
theorem pG_push {p : List (List Int)} {n : Nat} (hn : p.length = n) (m : List UInt8) : ∀ i, i < n + 1 → pushG n (pG p) (h32 (byteI m)) i = pG (p ++ [numsOf m]) i := fun i hi => by
  subst hn
  unfold pushG
  cases hb : Nat.blt i p.length with
  | true =>
    rw [Nat.blt_eq] at hb
    show pG p i = _
    unfold pG
    rw [List.getD_eq_getElem?_getD, List.getD_eq_getElem?_getD, List.getElem?_append_left hb]
  | false =>
    have hb : ¬ i < p.length := fun h => by rw [← Nat.blt_eq, hb] at h; cases h
    obtain rfl : i = p.length := by omega
    show h32 (byteI m) = pG (p ++ [numsOf m]) p.length
    unfold pG
    rw [show (p ++ [numsOf m]).getD p.length [] = numsOf m by simp [List.getD]]
    simp only [h32, nums_get m (show 0 < 32 by decide), nums_get m (show 1 < 32 by decide), nums_get m (show 2 < 32 by decide), nums_get m (show 3 < 32 by decide), nums_get m (show 4 < 32 by decide), nums_get m (show 5 < 32 by decide), nums_get m (show 6 < 32 by decide), nums_get m (show 7 < 32 by decide), nums_get m (show 8 < 32 by decide), nums_get m (show 9 < 32 by decide), nums_get m (show 10 < 32 by decide), nums_get m (show 11 < 32 by decide), nums_get m (show 12 < 32 by decide), nums_get m (show 13 < 32 by decide), nums_get m (show 14 < 32 by decide), nums_get m (show 15 < 32 by decide), nums_get m (show 16 < 32 by decide), nums_get m (show 17 < 32 by decide), nums_get m (show 18 < 32 by decide), nums_get m (show 19 < 32 by decide), nums_get m (show 20 < 32 by decide), nums_get m (show 21 < 32 by decide), nums_get m (show 22 < 32 by decide), nums_get m (show 23 < 32 by decide), nums_get m (show 24 < 32 by decide), nums_get m (show 25 < 32 by decide), nums_get m (show 26 < 32 by decide), nums_get m (show 27 < 32 by decide), nums_get m (show 28 < 32 by decide), nums_get m (show 29 < 32 by decide), nums_get m (show 30 < 32 by decide), nums_get m (show 31 < 32 by decide)]
def sRdLf : SpecF
  | [.c (.ptr 0 0)], [.cells t [.str l, .int .i64 a, .int .i64 b]] => some (t = 155 ∧ okRd l a b, .agg [.str (rLeaf l (a, b)).1.k, .str (rLeaf l (a, b)).1.v, .int .i64 (rLeaf l (a, b)).1.i, .row 1], [.cells 155 [.str l, .int .i64 (rLeaf l (a, b)).2.1, .int .i64 (rLeaf l (a, b)).2.2], .row 24 32 (lenH (rLeaf l (a, b)).1.p) (pG (rLeaf l (a, b)).1.p)])
  | _, _ => none

set_option maxRecDepth 100000 in
set_option maxHeartbeats 8000000 in
theorem rLeafP : Fn Tryd.prog 108 [] [] sRdLf := by
  have hC : CtsOk Tryd.prog [(141, appMeth 155 sRdText), (106, appMeth 155 sRdNum), (107, appMeth 155 sCount), (142, appMeth 155 sHash)] := CtsOk.cons (Meth.ct rdTextP) <| CtsOk.cons (Meth.ct rdNumP) <| CtsOk.cons (Meth.ct rdCountP) <| CtsOk.cons (Meth.ct rdHashP) <| CtsOk.nil _
  refine Fn.of (E := tbR) [] 0 [(7, [(2000, false), (2003, false), (0, true), (1, true), (2, true), (3, false), (4, false), (5, false), (6, true), (1007, false), (7, false)])] tbR_ok hC (by kernel_rfl) Tryd.func108 rfl rfl rfl (by kernel_rfl) (by kernel_rfl) 1 24 32 ?_ ?_
  · intro args h pre r h' hs
    unfold sRdLf at hs
    split at hs
    · cases hs; exact ⟨rfl, rfl, Nat.le_of_ble_eq_true rfl⟩
    · cases hs
  · intro args h pre r h' hs hp
    unfold sRdLf at hs
    split at hs
    rotate_left
    · cases hs
    rename_i t l a b
    cases hs
    obtain ⟨rfl, hok⟩ := hp
    refine ⟨[.cells 155 [.str l, .int .i64 a, .int .i64 b]], ⟨rfl, trivial⟩, ?_⟩
    unfold sRdText sRdNum sCount sHash
    generalize hL : lft Tryd.prog _ = L
    generalize ho0 : @pG = zo0, ho1 : @rHash = zo1, ho2 : @rLeaf = zo2, ho3 : @hashS = zo3, ho4 : @byteI = zo4, ho5 : @okRd = zo5, ho6 : @textS = zo6, ho7 : @numS = zo7, ho8 : @countS = zo8, ho9 : @lenH = zo9
    generalize hA : Arith.std = A
    cbv
    subst hA hL ho0 ho1 ho2 ho3 ho4 ho5 ho6 ho7 ho8 ho9
    have h1 := ok_text (hi := 160) hok
    have h2 := ok_text (hi := 64) h1
    have h3 := ok_num (lo := 0) (hi := 1073741824) h2
    have h4 := ok_count (hi := 30) h3
    refine Need.mk hok fun _ => ?_
    refine Need.mk h1 fun _ => ?_
    refine Need.mk h2 fun _ => ?_
    refine Need.mk h3 fun _ => ?_
    have hR : rLeaf l (a, b) = (⟨(textS l a b 160).1, (textS l (textS l a b 160).2.1 (textS l a b 160).2.2 64).1, (numS l (textS l (textS l a b 160).2.1 (textS l a b 160).2.2 64).2.1 (textS l (textS l a b 160).2.1 (textS l a b 160).2.2 64).2.2 0 1073741824).1, (repR rHash (countS l (numS l (textS l (textS l a b 160).2.1 (textS l a b 160).2.2 64).2.1 (textS l (textS l a b 160).2.1 (textS l a b 160).2.2 64).2.2 0 1073741824).2.1 (numS l (textS l (textS l a b 160).2.1 (textS l a b 160).2.2 64).2.1 (textS l (textS l a b 160).2.1 (textS l a b 160).2.2 64).2.2 0 1073741824).2.2 30).1.toNat l (countS l (numS l (textS l (textS l a b 160).2.1 (textS l a b 160).2.2 64).2.1 (textS l (textS l a b 160).2.1 (textS l a b 160).2.2 64).2.2 0 1073741824).2.1 (numS l (textS l (textS l a b 160).2.1 (textS l a b 160).2.2 64).2.1 (textS l (textS l a b 160).2.1 (textS l a b 160).2.2 64).2.2 0 1073741824).2.2 30).2).1⟩,
        (repR rHash (countS l (numS l (textS l (textS l a b 160).2.1 (textS l a b 160).2.2 64).2.1 (textS l (textS l a b 160).2.1 (textS l a b 160).2.2 64).2.2 0 1073741824).2.1 (numS l (textS l (textS l a b 160).2.1 (textS l a b 160).2.2 64).2.1 (textS l (textS l a b 160).2.1 (textS l a b 160).2.2 64).2.2 0 1073741824).2.2 30).1.toNat l (countS l (numS l (textS l (textS l a b 160).2.1 (textS l a b 160).2.2 64).2.1 (textS l (textS l a b 160).2.1 (textS l a b 160).2.2 64).2.2 0 1073741824).2.1 (numS l (textS l (textS l a b 160).2.1 (textS l a b 160).2.2 64).2.1 (textS l (textS l a b 160).2.1 (textS l a b 160).2.2 64).2.2 0 1073741824).2.2 30).2).2) := rfl
    clear h1 h2 h3
    generalize textS l a b 160 = t1 at *
    generalize textS l t1.2.1 t1.2.2 64 = t2 at *
    generalize numS l t2.2.1 t2.2.2 0 1073741824 = t3 at *
    have hrg := cnt_rng l t3.2.1 t3.2.2 30 (by decide)
    generalize countS l t3.2.1 t3.2.2 30 = t4 at *
    obtain ⟨N, A0, B0⟩ := t4
    dsimp only at *
    refine Runs.nilCell 2 3 24 32 (pG []) rfl rfl ?_
    show Runs Tryd.prog 1 (.loop _) _ _
    refine loop_ruleR (N := env (lft Tryd.prog 1) 0 .std tbR [(141, appMeth 155 sRdText), (106, appMeth 155 sRdNum), (107, appMeth 155 sCount), (142, appMeth 155 sHash)] [(7, [(2000, false), (2003, false), (0, true), (1, true), (2, true), (3, false), (4, false), (5, false), (6, true), (1007, false), (7, false)])]) rfl tbR_ok hC (fun c st K _ h => h) (by kernel_rfl) [] (X := LRep rHash l N.toNat (A0, B0))
      (S := fun x => ⟨[.c (.ptr 0 0), .any, .c (.ptr 1 0), .c (.ptr 2 0), .any, .any, .any, .any, .any, .any, .any, .any, .any, .any, .c (.int .i64 N), .c (.int .i64 x.i)] ++ List.replicate 10 .any, [.cells 155 [.str l, .int .i64 x.a, .int .i64 x.b], .cells 115 [.str [], .str [], .int .i64 0, .val (.slice none 0 0)], .cells 115 [.str t1.1, .str t2.1, .int .i64 t3.1, .row 3], .row 24 32 x.n (pG x.p)]⟩) (μ := fun x => N.toNat - x.n) ⟨0, 0, A0, B0, [], rfl, by omega, rfl, h4, rfl⟩ (by kernel_rfl) [0, 1, 2, 3] ?_ ?_
    · refine ⟨rfl, by decide, ?_, ?_⟩ <;> repeat' (first | exact trivial | exact rfl | apply And.intro | exact (fun _ _ _ _ => Cell.le_refl _) | (intro i hi; rfl) | (intro i hi; exact absurd hi (Nat.not_lt_zero _)))
    rintro ⟨i, n, a, b, p, hn, hnN, hp, hok, he⟩
    unfold sRdText sRdNum sCount sHash
    generalize hL : lft Tryd.prog _ = L
    try dsimp only
    generalize ho0 : @pG = zo0, ho1 : @rHash = zo1, ho2 : @rLeaf = zo2, ho3 : @hashS = zo3, ho4 : @byteI = zo4, ho5 : @okRd = zo5, ho6 : @textS = zo6, ho7 : @numS = zo7, ho8 : @countS = zo8, ho9 : @lenH = zo9
    generalize hA : Arith.std = A
    cbv
    subst hA hL ho0 ho1 ho2 ho3 ho4 ho5 ho6 ho7 ho8 ho9
    replace hn : i = @Nat.cast Int instNatCastInt n := hn
    replace hok : okRd l a b := hok
    refine Ife.mk (fun hlt => ?_) (fun hlt => ?_)
    · replace hlt : i < N := of_decide_eq_true (p := i < N) hlt
      refine Need.mk hok fun _ => ?_
      refine Need.mk (show n + 1 ≤ maxLen ∧ (n + 1) * 32 ≤ 140737488355328 from ⟨by unfold maxLen; omega, by omega⟩) fun _ => ?_
      refine Need.mk (by show fitStd .i64 (i + 1); unfold fitStd; omega) fun _ => ?_
      refine ⟨⟨i + 1, n + 1, (rHash l (a, b)).2.1, (rHash l (a, b)).2.2, p ++ [(rHash l (a, b)).1], by omega, by omega, by simp; omega, ok_hash hok, rep_next (by omega) he⟩, [0, 1, 2, 5], (by show N.toNat - (n + 1) < N.toNat - n; omega), ?_⟩
      refine ⟨rfl, by decide, by repeat' (first | exact trivial | exact rfl | apply And.intro | exact (fun _ _ _ _ => Cell.le_refl _) | (intro i hi; rfl) | (intro i hi; exact absurd hi (Nat.not_lt_zero _))), ?_⟩
      repeat' (first | exact trivial | exact rfl | apply And.intro)
      exact pG_push hp _
    · replace hlt : ¬ i < N := of_decide_eq_false (p := i < N) hlt
      have hE := rep_end (by omega) he
      rw [hE] at hR
      rw [hR]
      refine ⟨[0, 3], ⟨rfl, (by repeat' (first | exact trivial | exact rfl | apply And.intro | exact (fun _ _ _ _ => Cell.le_refl _) | (intro i hi; rfl) | (intro i hi; exact absurd hi (Nat.not_lt_zero _)))), (by show [0, 3].Nodup; decide), rfl, ?_⟩⟩
      repeat' (first | exact trivial | exact rfl | apply And.intro)
      · exact hp.symm
      · exact fun i hi => rfl

end Go.Proofs.YthomoliklfmnkaaDoor.Vx
end

section
/- Proofs and messages read, by the walker. -/
namespace Go.Proofs.YthomoliklfmnkaaDoor.Vx
open Go.RowKit
set_option linter.unusedVariables false
set_option linter.unusedSimpArgs false
theorem okS_rep {α : Type} {r : List UInt8 → Int × Int → α × Int × Int} {l : List UInt8} (h : ∀ s, okS l s → okS l (r l s).2) : ∀ (n : Nat) (s : Int × Int), okS l s → okS l (repR r n l s).2
  | 0, s, hs => hs
  | n + 1, s, hs => okS_rep h n _ (h s hs)
theorem okS_leaf {l : List UInt8} {s : Int × Int} (h : okS l s) : okS l (rLeaf l s).2 := okS_rep (fun _ => okS_hash) _ _ (okS_count (okS_num (okS_text (okS_text h))))
theorem ok_leaf {l : List UInt8} {a b : Int} (h : okRd l a b) : okRd l (rLeaf l (a, b)).2.1 (rLeaf l (a, b)).2.2 := okS_leaf (s := (a, b)) h
theorem leafG_left {fr : Bool} {p : List PLeaf} {x : PLeaf} {i j : Nat} (h : i < p.length) : leafG fr (p ++ [x]) i j = leafG fr p i j := by
  have e : (p ++ [x]).getD i .none = p.getD i .none := by
    rw [List.getD_eq_getElem?_getD, List.getD_eq_getElem?_getD, List.getElem?_append_left h]
  unfold leafG leafGP lK lV lI lN lP
  rw [e]
theorem leafG_last {fr : Bool} {p : List PLeaf} {x : PLeaf} {j : Nat} : leafG fr (p ++ [x]) p.length j = match j with
    | 0 => .pl (.str x.k)
    | 1 => .pl (.str x.v)
    | 2 => .pl (.int .i64 x.i)
    | _ => .es fr 24 32 x.p.length (pG x.p) := by
  have e : (p ++ [x]).getD p.length .none = x := by simp [List.getD]
  unfold leafG leafGP lK lV lI lN lP
  rw [e]
  cases j with
  | zero => rfl
  | succ j => cases j with
    | zero => rfl
    | succ j => cases j with
      | zero => rfl
      | succ j => rfl
theorem leafG_push {p : List PLeaf} {n : Nat} (hn : p.length = n) (x : PLeaf) : ∀ i j, i < n + 1 → j < 4 → Cell.le (pushC n (leafG true p) [.pl (.str x.k), .pl (.str x.v), .pl (.int .i64 x.i), .es true 24 32 (lenH x.p) (pG x.p)] i j) (leafG true (p ++ [x]) i j) := fun i j hi hj => by
  subst hn
  unfold pushC
  cases hb : Nat.blt i p.length with
  | true =>
    rw [Nat.blt_eq] at hb
    rw [leafG_left hb]
    exact Cell.le_refl _
  | false =>
    have hb : ¬ i < p.length := fun h => by rw [← Nat.blt_eq, hb] at h; cases h
    obtain rfl : i = p.length := by omega
    rw [leafG_last]
    rcases four hj with rfl | rfl | rfl | rfl <;> exact Cell.le_refl _
def sRProof : SpecF
  | [.c (.ptr 0 0)], [.cells t [.str l, .int .i64 a, .int .i64 b]] => some (t = 155 ∧ okRd l a b, .agg [.int .i64 (rProof l (a, b)).1.1, .row 1], [.cells 155 [.str l, .int .i64 (rProof l (a, b)).2.1, .int .i64 (rProof l (a, b)).2.2], .data true 115 4 (lenL (rProof l (a, b)).1.2) (leafG true (rProof l (a, b)).1.2)])
  | _, _ => none

set_option maxRecDepth 100000 in
set_option maxHeartbeats 8000000 in
theorem rProofP : Fn Tryd.prog 66 [] [] sRProof := by
  have hC : CtsOk Tryd.prog [(106, appMeth 155 sRdNum), (107, appMeth 155 sCount), (108, appFn [] [] sRdLf)] := CtsOk.cons (Meth.ct rdNumP) <| CtsOk.cons (Meth.ct rdCountP) <| CtsOk.cons (Fn.ct rLeafP) <| CtsOk.nil _
  refine Fn.ofZ (E := tbR) [] 0 [(4, [(2000, false), (2003, false), (0, true), (1, true), (2, true), (3, false), (4, false), (5, false), (6, true), (1007, false), (7, false)])] tbR_ok hC (by kernel_rfl) Tryd.func66 rfl rfl rfl (by kernel_rfl) (by kernel_rfl) 1 (.data true 115 4 0 fun _ _ => .pl .tt) rfl ?_ ?_
  · intro args h pre r h' hs
    unfold sRProof at hs
    split at hs
    · cases hs; exact ⟨rfl, rfl, Nat.le_of_ble_eq_true rfl⟩
    · cases hs
  · intro args h pre r h' hs hp
    unfold sRProof at hs
    split at hs
    rotate_left
    · cases hs
    rename_i t l a b
    cases hs
    obtain ⟨rfl, hok⟩ := hp
    refine ⟨[.cells 155 [.str l, .int .i64 a, .int .i64 b]], ⟨rfl, trivial⟩, ?_⟩
    unfold sRdNum sCount sRdLf
    generalize hL : lft Tryd.prog _ = L
    try unfold leafG
    generalize ho0 : @lK = zo0, ho1 : @lV = zo1, ho2 : @lI = zo2, ho3 : @lP = zo3, ho4 : @lN = zo4, ho5 : @pG = zo5, ho6 : @rLeaf = zo6, ho7 : @rProof = zo7, ho8 : @okRd = zo8, ho9 : @numS = zo9, ho10 : @countS = zo10, ho11 : @lenH = zo11, ho12 : @lenL = zo12
    generalize hA : Arith.std = A
    cbv
    subst hA hL ho0 ho1 ho2 ho3 ho4 ho5 ho6 ho7 ho8 ho9 ho10 ho11 ho12
    have h3 := ok_num (lo := 0) (hi := 1073741824) hok
    have h4 := ok_count (hi := 2) h3
    refine Need.mk hok fun _ => ?_
    refine Need.mk h3 fun _ => ?_
    have hR : rProof l (a, b) = (((numS l a b 0 1073741824).1, (repR rLeaf (countS l (numS l a b 0 1073741824).2.1 (numS l a b 0 1073741824).2.2 2).1.toNat l (countS l (numS l a b 0 1073741824).2.1 (numS l a b 0 1073741824).2.2 2).2).1), (repR rLeaf (countS l (numS l a b 0 1073741824).2.1 (numS l a b 0 1073741824).2.2 2).1.toNat l (countS l (numS l a b 0 1073741824).2.1 (numS l a b 0 1073741824).2.2 2).2).2) := rfl
    clear h3
    generalize numS l a b 0 1073741824 = t3 at *
    have hrg := cnt_rng l t3.2.1 t3.2.2 2 (by decide)
    generalize countS l t3.2.1 t3.2.2 2 = t4 at *
    obtain ⟨N, A0, B0⟩ := t4
    dsimp only at *
    refine Runs.nilCellE 2 1 (.orow 115 4 0 (leafG true [])) rfl rfl rfl ?_
    show Runs Tryd.prog 1 (.loop _) _ _
    refine loop_ruleR (N := env (lft Tryd.prog 1) 0 .std tbR [(106, appMeth 155 sRdNum), (107, appMeth 155 sCount), (108, appFn [] [] sRdLf)] [(4, [(2000, false), (2003, false), (0, true), (1, true), (2, true), (3, false), (4, false), (5, false), (6, true), (1007, false), (7, false)])]) rfl tbR_ok hC (fun c st K _ h => h) (by kernel_rfl) [] (X := LRep rLeaf l N.toNat (A0, B0))
      (S := fun x => ⟨[.c (.ptr 0 0), .any, .c (.ptr 1 0), .c (.ptr 2 0), .any, .any, .any, .any, .c (.int .i64 N), .c (.int .i64 x.i)] ++ List.replicate 10 .any, [.cells 155 [.str l, .int .i64 x.a, .int .i64 x.b], .cells 27 [.int .i64 0, .val (.slice none 0 0)], .cells 27 [.int .i64 t3.1, .row 3], .orow 115 4 x.n (leafG true x.p)]⟩) (μ := fun x => N.toNat - x.n) ⟨0, 0, A0, B0, [], rfl, by omega, rfl, h4, rfl⟩ (by kernel_rfl) [0, 1, 2, 3] ?_ ?_
    · refine ⟨rfl, by decide, ?_, ?_⟩ <;> repeat' (first | exact trivial | exact rfl | apply And.intro | exact (fun _ _ _ _ => Cell.le_refl _) | (intro i hi; rfl) | (intro i hi; exact absurd hi (Nat.not_lt_zero _)))
    rintro ⟨i, n, a, b, p, hn, hnN, hp, hok, he⟩
    unfold sRdNum sCount sRdLf
    generalize hL : lft Tryd.prog _ = L
    try dsimp only
    try unfold leafG
    generalize ho0 : @lK = zo0, ho1 : @lV = zo1, ho2 : @lI = zo2, ho3 : @lP = zo3, ho4 : @lN = zo4, ho5 : @pG = zo5, ho6 : @rLeaf = zo6, ho7 : @rProof = zo7, ho8 : @okRd = zo8, ho9 : @numS = zo9, ho10 : @countS = zo10, ho11 : @lenH = zo11, ho12 : @lenL = zo12
    generalize hA : Arith.std = A
    cbv
    subst hA hL ho0 ho1 ho2 ho3 ho4 ho5 ho6 ho7 ho8 ho9 ho10 ho11 ho12
    replace hn : i = @Nat.cast Int instNatCastInt n := hn
    replace hok : okRd l a b := hok
    refine Ife.mk (fun hlt => ?_) (fun hlt => ?_)
    · replace hlt : i < N := of_decide_eq_true (p := i < N) hlt
      refine Need.mk hok fun _ => ?_
      refine Need.mk ⟨show n + 1 ≤ maxLen ∧ (n + 1) * 64 ≤ 140737488355328 from ⟨by unfold maxLen; omega, by omega⟩, trivial⟩ fun _ => ?_
      refine Need.mk (by show fitStd .i64 (i + 1); unfold fitStd; omega) fun _ => ?_
      refine ⟨⟨i + 1, n + 1, (rLeaf l (a, b)).2.1, (rLeaf l (a, b)).2.2, p ++ [(rLeaf l (a, b)).1], by omega, by omega, by simp; omega, ok_leaf hok, rep_next (by omega) he⟩, [0, 1, 2, 6], (by show N.toNat - (n + 1) < N.toNat - n; omega), ?_⟩
      refine ⟨rfl, by decide, by repeat' (first | exact trivial | exact rfl | apply And.intro | exact (fun _ _ _ _ => Cell.le_refl _) | (intro i hi; rfl) | (intro i hi; exact absurd hi (Nat.not_lt_zero _))), ?_⟩
      repeat' (first | exact trivial | exact rfl | apply And.intro)
      exact leafG_push hp (rLeaf l (a, b)).1
    · replace hlt : ¬ i < N := of_decide_eq_false (p := i < N) hlt
      have hE := rep_end (by omega) he
      rw [hE] at hR
      rw [hR]
      refine ⟨[3], [0, 3], ⟨?fz, rfl, (by repeat' (first | exact trivial | exact rfl | apply And.intro | exact (fun _ _ _ _ => Cell.le_refl _) | (intro i hi; rfl) | (intro i hi; exact absurd hi (Nat.not_lt_zero _)))), (by show [0].Nodup; decide), rfl, ?hh⟩⟩
      case fz =>
        refine ⟨fun i j hi hj => ?_, trivial⟩
        rcases four hj with rfl | rfl | rfl | rfl
        · trivial
        · trivial
        · trivial
        · exact rfl
      case hh =>
        repeat' (first | exact trivial | exact rfl | apply And.intro)
        · exact hp.symm
        · exact fun _ _ _ _ => Cell.le_refl _

end Go.Proofs.YthomoliklfmnkaaDoor.Vx
end
