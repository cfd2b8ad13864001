/- What leaves, proofs and messages are read as, and written as, plainly. -/
import Derived.Test.YthomoliklfmnkaaDoorM28
import Derived.Test.YthomoliklfmnkaaDoorM30
import Derived.Test.YthomoliklfmnkaaDoorM33
import Derived.Test.YthomoliklfmnkaaDoorM26
section
namespace Go.Proofs.YthomoliklfmnkaaDoor.Vx
set_option linter.unusedVariables false
set_option linter.unusedSimpArgs false
/-- The numbers of a sum's bytes. -/
def numsOf (l : List UInt8) : List Int := (List.range 32).map (byteI l)
def hashV (h : List Int) : Prop := h.length = 32 ∧ ∀ b ∈ h, 0 ≤ b ∧ b < 256
def rHash (l : List UInt8) (s : Int × Int) : List Int × Int × Int := (numsOf (hashS l s.1 s.2).1, (hashS l s.1 s.2).2)
theorem nums_ok (l : List UInt8) : hashV (numsOf l) := by
  refine ⟨by simp [numsOf], fun b hb => ?_⟩
  simp only [numsOf, List.mem_map] at hb
  obtain ⟨i, _, rfl⟩ := hb
  exact byteI_range l i
theorem nums_get (l : List UInt8) {j : Nat} (hj : j < 32) : (numsOf l).getD j 0 = byteI l j := by
  simp [numsOf, List.getD, hj]
theorem nums_hash {h : List Int} (hv : hashV h) : numsOf (hashOf h) = h := by
  apply List.ext_getElem (by simp [numsOf, hv.1])
  intro j h1 h2
  have hb := hv.2 _ (List.getElem_mem h2)
  have hl : j < (hashOf h).length := by simp [hashOf]; exact h2
  simp only [numsOf, List.getElem_map, List.getElem_range, byteI]
  rw [show (hashOf h).getD j 0 = (hashOf h)[j] by simp [List.getD, hl]]
  simp only [hashOf, List.getElem_map]
  have : (UInt8.ofNat h[j].toNat).toNat = h[j].toNat := by
    rw [UInt8.toNat_ofNat']
    omega
  rw [this]
  omega
theorem hash_nums {l : List UInt8} (h : l.length = 32) : hashOf (numsOf l) = l := by
  apply List.ext_getElem (by simp [hashOf, numsOf, h])
  intro j h1 h2
  simp only [hashOf, numsOf, List.getElem_map, List.getElem_range, byteI]
  rw [show l.getD j 0 = l[j] by simp [List.getD, h2]]
  simp
theorem hashOf_len (h : List Int) : (hashOf h).length = h.length := by simp [hashOf]
theorem codecHash : Codec rHash hashOf hashV where
  stick := fun l s hs => by
    unfold rHash hashS
    rw [if_pos hs]
  back := fun p h q hv => by
    have hl : (hashOf h).length = 32 := by rw [hashOf_len, hv.1]
    have hh : hashS (p ++ hashOf h ++ q) (p.length : Int) 0 = (hashOf h, (p.length : Int) + 32, 0) := by
      unfold hashS
      rw [if_neg (by simp), if_neg (by simp [hl]; omega)]
      have : cut (p ++ hashOf h ++ q) (p.length : Int) 32 = hashOf h := by
        unfold cut
        rw [List.append_assoc, Int.toNat_natCast, List.drop_left]
        have : (32 : Int).toNat = (hashOf h).length := by rw [hl]; rfl
        rw [this, List.take_left]
      rw [this]
    unfold rHash
    dsimp only
    rw [hh]
    dsimp only
    rw [nums_hash hv]
    simp [hl]
  one := fun l a x a' ha h => by
    unfold rHash at h
    dsimp only at h
    unfold hashS at h
    rw [if_neg (by simp)] at h
    split at h
    · simp at h
    · rename_i hn
      simp only [Prod.mk.injEq] at h
      obtain ⟨h1, h2, -⟩ := h
      have hc : (cut l (a : Int) 32).length = 32 := by
        unfold cut
        rw [List.length_take, List.length_drop]
        omega
      subst h1
      refine ⟨nums_ok _, l.take a, (l.drop a).drop 32, ?_, by simp; omega, ?_⟩
      · rw [hash_nums hc]
        have : cut l (a : Int) 32 = (l.drop a).take 32 := rfl
        rw [this, List.append_assoc, List.take_append_drop, List.take_append_drop]
      · rw [hash_nums hc, List.length_append, hc, List.length_take]
        omega
  short := fun p x k hx hk => by
    rw [hashOf_len, hx.1] at hk
    show (hashS (p ++ (hashOf x).take k) (p.length : Int) 0).2.2 = 2
    unfold hashS
    rw [if_neg (by simp), if_pos (by simp; omega)]

/-! ### Leaves -/
def rLeaf (l : List UInt8) (s : Int × Int) : PLeaf × Int × Int :=
  let k := rText 160 l s
  let v := rText 64 l k.2
  let i := rNum 0 1073741824 l v.2
  let n := rCount 30 l i.2
  let p := repR rHash n.1.toNat l n.2
  (⟨k.1, v.1, i.1, p.1⟩, p.2)
def leafB (x : PLeaf) : List UInt8 := textB x.k ++ (textB x.v ++ (Leb.put x.i ++ (Leb.put (x.p.length : Int) ++ flatE hashOf x.p)))
def leafV (x : PLeaf) : Prop := (x.k.length : Int) ≤ 160 ∧ (x.v.length : Int) ≤ 64 ∧ (0 ≤ x.i ∧ x.i ≤ 1073741824) ∧ (0 ≤ (x.p.length : Int) ∧ (x.p.length : Int) ≤ 30) ∧ ∀ h ∈ x.p, hashV h
theorem codecLeaf : Codec rLeaf leafB leafV :=
  ((Codec.text 160 (by decide)).bind fun _ => (Codec.text 64 (by decide)).bind fun _ => (Codec.num 0 1073741824 (by decide) (by decide)).bind fun _ => (Codec.count 30 (by decide)).bind fun n => codecHash.rep n.toNat).mapI
    (fun z => (⟨z.1, z.2.1, z.2.2.1, z.2.2.2.2⟩ : PLeaf))
    (fun z hz => by
      obtain ⟨k, v, i, n, p⟩ := z
      obtain ⟨h1, h2, h3, h4, h5, h6⟩ := hz
      dsimp only at h1 h2 h3 h4 h5
      have e : (p.length : Int) = n := by omega
      simp only [leafB, e]
      rfl)
    (fun y hy => ⟨(y.k, y.v, y.i, (y.p.length : Int), y.p), rfl, hy.1, hy.2.1, hy.2.2.1, hy.2.2.2.1, by simp, hy.2.2.2.2⟩)
    (fun z hz => by
      obtain ⟨k, v, i, n, p⟩ := z
      obtain ⟨h1, h2, h3, h4, h5, h6⟩ := hz
      dsimp only at h1 h2 h3 h4 h5
      have e : (p.length : Int) = n := by omega
      exact ⟨h1, h2, h3, by rw [e]; exact h4, h6⟩)

/-! ### Proofs -/
def rProof (l : List UInt8) (s : Int × Int) : (Int × List PLeaf) × Int × Int :=
  let c := rNum 0 1073741824 l s
  let n := rCount 2 l c.2
  let p := repR rLeaf n.1.toNat l n.2
  ((c.1, p.1), p.2)
def proofB (p : Int × List PLeaf) : List UInt8 := Leb.put p.1 ++ (Leb.put (p.2.length : Int) ++ flatE leafB p.2)
def proofV (p : Int × List PLeaf) : Prop := (0 ≤ p.1 ∧ p.1 ≤ 1073741824) ∧ (0 ≤ (p.2.length : Int) ∧ (p.2.length : Int) ≤ 2) ∧ ∀ x ∈ p.2, leafV x
theorem codecProof : Codec rProof proofB proofV :=
  ((Codec.num 0 1073741824 (by decide) (by decide)).bind fun _ => (Codec.count 2 (by decide)).bind fun n => codecLeaf.rep n.toNat).mapI
    (fun z => (z.1, z.2.2))
    (fun z hz => by
      obtain ⟨c, n, p⟩ := z
      obtain ⟨h1, h2, h3, h4⟩ := hz
      dsimp only at h1 h2 h3
      have e : (p.length : Int) = n := by omega
      simp only [proofB, e])
    (fun y hy => ⟨(y.1, (y.2.length : Int), y.2), rfl, hy.1, hy.2.1, by simp, hy.2.2⟩)
    (fun z hz => by
      obtain ⟨c, n, p⟩ := z
      obtain ⟨h1, h2, h3, h4⟩ := hz
      dsimp only at h1 h2 h3
      have e : (p.length : Int) = n := by omega
      exact ⟨h1, by rw [e]; exact h2, h4⟩)

/-! ### Messages -/

/-! ### Messages that may be are read back -/
theorem leafV_ok {x : PLeaf} (h : leafV x) : x.ok := ⟨by have := h.1; omega, by have := h.2.1; omega, by have := h.2.2.2.1.2; omega, h.2.2.2.2⟩
theorem proofV_ok {p : Int × List PLeaf} (h : proofV p) : (∀ x ∈ p.2, x.ok) ∧ p.2.length ≤ 2 := ⟨fun x hx => leafV_ok (h.2.2 x hx), by have := h.2.1.2; omega⟩
end Go.Proofs.YthomoliklfmnkaaDoor.Vx
end

section
/- Leaves and proofs read, by the walker. -/
namespace Go.Proofs.YthomoliklfmnkaaDoor.Vx
open Go.RowKit
set_option linter.unusedVariables false
set_option linter.unusedSimpArgs false
def tbR : Tbl where
  T :=
    (3, ⟨1, false, [.int .i64 (0)], .int .i64, 8⟩) ::
    (4, ⟨1, false, [.ff], .bool, 1⟩) ::
    (9, ⟨1, false, [.str []], .str, 16⟩) ::
    (5, ⟨1, false, [.int .u8 (0)], .int .u8, 1⟩) ::
    (158, ⟨1, false, [.val (.slice none 0 0)], .slice 5, 24⟩) ::
    (55, ⟨1, false, [.int .i64 (0)], .int .i64, 8⟩) ::
    (115, ⟨4, true, [.str [], .str [], .int .i64 (0), .val (.slice none 0 0)], .struct [(0, (1, false)), (1, (1, false)), (2, (1, false)), (3, (1, false))], 64⟩) ::
    (25, ⟨1, false, [.val (.slice none 0 0)], .slice 115, 24⟩) ::
    (27, ⟨2, true, [.int .i64 (0), .val (.slice none 0 0)], .struct [(0, (1, false)), (1, (1, false))], 32⟩) ::
    (24, ⟨32, true, [.int .u8 (0), .int .u8 (0), .int .u8 (0), .int .u8 (0), .int .u8 (0), .int .u8 (0), .int .u8 (0), .int .u8 (0), .int .u8 (0), .int .u8 (0), .int .u8 (0), .int .u8 (0), .int .u8 (0), .int .u8 (0), .int .u8 (0), .int .u8 (0), .int .u8 (0), .int .u8 (0), .int .u8 (0), .int .u8 (0), .int .u8 (0), .int .u8 (0), .int .u8 (0), .int .u8 (0), .int .u8 (0), .int .u8 (0), .int .u8 (0), .int .u8 (0), .int .u8 (0), .int .u8 (0), .int .u8 (0), .int .u8 (0)], .array 32 5, 32⟩) ::
    (113, ⟨1, false, [.val (.slice none 0 0)], .slice 24, 24⟩) ::
    (85, ⟨34, true, [.int .i64 (0), .int .i64 (0), .int .u8 (0), .int .u8 (0), .int .u8 (0), .int .u8 (0), .int .u8 (0), .int .u8 (0), .int .u8 (0), .int .u8 (0), .int .u8 (0), .int .u8 (0), .int .u8 (0), .int .u8 (0), .int .u8 (0), .int .u8 (0), .int .u8 (0), .int .u8 (0), .int .u8 (0), .int .u8 (0), .int .u8 (0), .int .u8 (0), .int .u8 (0), .int .u8 (0), .int .u8 (0), .int .u8 (0), .int .u8 (0), .int .u8 (0), .int .u8 (0), .int .u8 (0), .int .u8 (0), .int .u8 (0), .int .u8 (0), .int .u8 (0)], .struct [(0, (1, false)), (1, (1, false)), (2, (32, true))], 48⟩) ::
    (155, ⟨3, true, [.str [], .int .i64 (0), .int .i64 (0)], .struct [(0, (1, false)), (1, (1, false)), (2, (1, false))], 32⟩) ::
    (160, ⟨2, true, [.val (.slice none 0 0), .ff], .struct [(0, (1, false)), (1, (1, false))], 32⟩) ::
    (97, ⟨3, true, [.str [], .int .i64 (0), .int .i64 (0)], .struct [(0, (1, false)), (1, (1, false)), (2, (1, false))], 32⟩) ::
    (93, ⟨1, false, [.val (.pointer none)], .ptr 155, 8⟩) ::
    (101, ⟨1, false, [.val (.pointer none)], .ptr 160, 8⟩) ::
    []
  F :=
    (24, [0, 0, 0, 0, 0, 0, 0, 0, 0, 0, 0, 0, 0, 0, 0, 0, 0, 0, 0, 0, 0, 0, 0, 0, 0, 0, 0, 0, 0, 0, 0, 0]) ::
    (85, [0, 0, 0, 0, 0, 0, 0, 0, 0, 0, 0, 0, 0, 0, 0, 0, 0, 0, 0, 0, 0, 0, 0, 0, 0, 0, 0, 0, 0, 0, 0, 0, 0, 0]) ::
    []

theorem tbR_ok : tbR.Ok Tryd.prog where
  T :=
    TblOk.cons (by kernel_rfl) <|
    TblOk.cons (by kernel_rfl) <|
    TblOk.cons (by kernel_rfl) <|
    TblOk.cons (by kernel_rfl) <|
    TblOk.cons (by kernel_rfl) <|
    TblOk.cons (by kernel_rfl) <|
    TblOk.cons (by kernel_rfl) <|
    TblOk.cons (by kernel_rfl) <|
    TblOk.cons (by kernel_rfl) <|
    TblOk.cons (by kernel_rfl) <|
    TblOk.cons (by kernel_rfl) <|
    TblOk.cons (by kernel_rfl) <|
    TblOk.cons (by kernel_rfl) <|
    TblOk.cons (by kernel_rfl) <|
    TblOk.cons (by kernel_rfl) <|
    TblOk.cons (by kernel_rfl) <|
    TblOk.cons (by kernel_rfl) <|
    TblOk.nil _
  F :=
    FlatsOk.cons (FlatOk.of (D := .array 32 5) 6 (by decide) (by kernel_rfl) (by kernel_rfl) rfl (by kernel_rfl)) <|
    FlatsOk.cons (FlatOk.of (D := .struct (Tryd.prog.fieldsOf 85)) 6 (by decide) (by kernel_rfl) (by kernel_rfl) rfl (by kernel_rfl)) <|
    FlatsOk.nil _

/-- How many sums there are; the evaluation does not go into it. -/
def lenH (p : List (List Int)) : Nat := p.length
theorem okS_hash {l : List UInt8} {s : Int × Int} (h : okS l s) : okS l (rHash l s).2 := ok_hash h
theorem okS_count {l : List UInt8} {s : Int × Int} {hi : Int} (h : okS l s) : okS l (rCount hi l s).2 := ok_count h
theorem cnt_rng (l : List UInt8) (a b hi : Int) (h : 0 ≤ hi) : 0 ≤ (countS l a b hi).1 ∧ (countS l a b hi).1 ≤ hi := by
  have := Leb.next_range l a
  unfold countS
  split
  · exact ⟨by dsimp only; omega, by dsimp only; omega⟩
  · split
    · exact ⟨by dsimp only; omega, by dsimp only; omega⟩
    · split
      · exact ⟨by dsimp only; omega, by dsimp only; omega⟩
      · dsimp only; omega
theorem repR_succ {α : Type} {r : List UInt8 → Int × Int → α × Int × Int} {n : Nat} {l : List UInt8} {s : Int × Int} : repR r (n + 1) l s = ((r l s).1 :: (repR r n l (r l s).2).1, (repR r n l (r l s).2).2) := rfl
/-- n things are being read; the first of them are. -/
structure LRep {α : Type} (r : List UInt8 → Int × Int → α × Int × Int) (l : List UInt8) (N : Nat) (s0 : Int × Int) where
  i : Int
  n : Nat
  a : Int
  b : Int
  p : List α
  hn : i = (n : Int)
  h1 : n ≤ N
  hp : p.length = n
  ok : okRd l a b
  he : repR r N l s0 = (p ++ (repR r (N - n) l (a, b)).1, (repR r (N - n) l (a, b)).2)
theorem rep_next {α : Type} {r : List UInt8 → Int × Int → α × Int × Int} {l : List UInt8} {N : Nat} {s0 : Int × Int} {n : Nat} {a b : Int} {p : List α} (h1 : n < N) (he : repR r N l s0 = (p ++ (repR r (N - n) l (a, b)).1, (repR r (N - n) l (a, b)).2)) : repR r N l s0 = ((p ++ [(r l (a, b)).1]) ++ (repR r (N - (n + 1)) l (r l (a, b)).2).1, (repR r (N - (n + 1)) l (r l (a, b)).2).2) := by
  obtain ⟨m, hm⟩ : ∃ m, N - n = m + 1 := ⟨N - n - 1, by omega⟩
  rw [hm, repR_succ] at he
  rw [show N - (n + 1) = m by omega, he]
  simp
theorem rep_end {α : Type} {r : List UInt8 → Int × Int → α × Int × Int} {l : List UInt8} {N : Nat} {s0 : Int × Int} {n : Nat} {a b : Int} {p : List α} (h1 : N ≤ n) (he : repR r N l s0 = (p ++ (repR r (N - n) l (a, b)).1, (repR r (N - n) l (a, b)).2)) : repR r N l s0 = (p, (a, b)) := by
  rw [show N - n = 0 by omega] at he
  rw [he]
  simp [repR]
theorem pG_push {p : List (List Int)} {n : Nat} (hn : p.length = n) (m : List UInt8) : ∀ i, i < n + 1 → pushG n (pG p) (h32 (byteI m)) i = pG (p ++ [numsOf m]) i := fun i hi => by
  subst hn
  unfold pushG
  cases hb : Nat.blt i p.length with
  | true =>
    rw [Nat.blt_eq] at hb
    show pG p i = _
    unfold pG
    rw [List.getD_eq_getElem?_getD, List.getD_eq_getElem?_getD, List.getElem?_append_left hb]
  | false =>
    have hb : ¬ i < p.length := fun h => by rw [← Nat.blt_eq, hb] at h; cases h
    obtain rfl : i = p.length := by omega
    show h32 (byteI m) = pG (p ++ [numsOf m]) p.length
    unfold pG
    rw [show (p ++ [numsOf m]).getD p.length [] = numsOf m by simp [List.getD]]
    simp only [h32, nums_get m (show 0 < 32 by decide), nums_get m (show 1 < 32 by decide), nums_get m (show 2 < 32 by decide), nums_get m (show 3 < 32 by decide), nums_get m (show 4 < 32 by decide), nums_get m (show 5 < 32 by decide), nums_get m (show 6 < 32 by decide), nums_get m (show 7 < 32 by decide), nums_get m (show 8 < 32 by decide), nums_get m (show 9 < 32 by decide), nums_get m (show 10 < 32 by decide), nums_get m (show 11 < 32 by decide), nums_get m (show 12 < 32 by decide), nums_get m (show 13 < 32 by decide), nums_get m (show 14 < 32 by decide), nums_get m (show 15 < 32 by decide), nums_get m (show 16 < 32 by decide), nums_get m (show 17 < 32 by decide), nums_get m (show 18 < 32 by decide), nums_get m (show 19 < 32 by decide), nums_get m (show 20 < 32 by decide), nums_get m (show 21 < 32 by decide), nums_get m (show 22 < 32 by decide), nums_get m (show 23 < 32 by decide), nums_get m (show 24 < 32 by decide), nums_get m (show 25 < 32 by decide), nums_get m (show 26 < 32 by decide), nums_get m (show 27 < 32 by decide), nums_get m (show 28 < 32 by decide), nums_get m (show 29 < 32 by decide), nums_get m (show 30 < 32 by decide), nums_get m (show 31 < 32 by decide)]
attribute [local cbv_opaque] lK lV lI lP lN pG leafL leafOf leavesPre hsL rHash rLeaf rProof numsOf hashS byteI okRd textS numS countS endS lenH lenL
def sRdLf : SpecF
  | [.c (.ptr 0 0)], [.cells t [.str l, .int .i64 a, .int .i64 b]] => some (t = 155 ∧ okRd l a b, .agg [.str (rLeaf l (a, b)).1.k, .str (rLeaf l (a, b)).1.v, .int .i64 (rLeaf l (a, b)).1.i, .row 1], [.cells 155 [.str l, .int .i64 (rLeaf l (a, b)).2.1, .int .i64 (rLeaf l (a, b)).2.2], .row 24 32 (lenH (rLeaf l (a, b)).1.p) (pG (rLeaf l (a, b)).1.p)])
  | _, _ => none

set_option maxRecDepth 100000 in
set_option maxHeartbeats 8000000 in
theorem rLeafP : Fn Tryd.prog 108 [] [] sRdLf := by
  have hC : CtsOk Tryd.prog [(141, appMeth 155 sRdText), (106, appMeth 155 sRdNum), (107, appMeth 155 sCount), (142, appMeth 155 sHash)] := CtsOk.cons (Meth.ct rdTextP) <| CtsOk.cons (Meth.ct rdNumP) <| CtsOk.cons (Meth.ct rdCountP) <| CtsOk.cons (Meth.ct rdHashP) <| CtsOk.nil _
  refine Fn.of (E := tbR) [] 0 [(7, [(2000, false), (2003, false), (0, true), (1, true), (2, true), (3, false), (4, false), (5, false), (6, true), (1007, false), (7, false)])] tbR_ok hC (by kernel_rfl) Tryd.func108 rfl rfl rfl (by kernel_rfl) (by kernel_rfl) 1 24 32 ?_ ?_
  · intro args h pre r h' hs
    unfold sRdLf at hs
    split at hs
    · cases hs; exact ⟨rfl, rfl, Nat.le_of_ble_eq_true rfl⟩
    · cases hs
  · intro args h pre r h' hs hp
    unfold sRdLf at hs
    split at hs
    rotate_left
    · cases hs
    rename_i t l a b
    cases hs
    obtain ⟨rfl, hok⟩ := hp
    refine ⟨[.cells 155 [.str l, .int .i64 a, .int .i64 b]], ⟨rfl, trivial⟩, ?_⟩
    unfold sRdText sRdNum sCount sHash
    generalize hL : lft Tryd.prog _ = L
    generalize hA : Arith.std = A
    set_option cbv.maxSteps 2000000 in cbv
    subst hA hL
    have h1 := ok_text (hi := 160) hok
    have h2 := ok_text (hi := 64) h1
    have h3 := ok_num (lo := 0) (hi := 1073741824) h2
    have h4 := ok_count (hi := 30) h3
    refine Need.mk hok fun _ => ?_
    refine Need.mk h1 fun _ => ?_
    refine Need.mk h2 fun _ => ?_
    refine Need.mk h3 fun _ => ?_
    have hR : rLeaf l (a, b) = (⟨(textS l a b 160).1, (textS l (textS l a b 160).2.1 (textS l a b 160).2.2 64).1, (numS l (textS l (textS l a b 160).2.1 (textS l a b 160).2.2 64).2.1 (textS l (textS l a b 160).2.1 (textS l a b 160).2.2 64).2.2 0 1073741824).1, (repR rHash (countS l (numS l (textS l (textS l a b 160).2.1 (textS l a b 160).2.2 64).2.1 (textS l (textS l a b 160).2.1 (textS l a b 160).2.2 64).2.2 0 1073741824).2.1 (numS l (textS l (textS l a b 160).2.1 (textS l a b 160).2.2 64).2.1 (textS l (textS l a b 160).2.1 (textS l a b 160).2.2 64).2.2 0 1073741824).2.2 30).1.toNat l (countS l (numS l (textS l (textS l a b 160).2.1 (textS l a b 160).2.2 64).2.1 (textS l (textS l a b 160).2.1 (textS l a b 160).2.2 64).2.2 0 1073741824).2.1 (numS l (textS l (textS l a b 160).2.1 (textS l a b 160).2.2 64).2.1 (textS l (textS l a b 160).2.1 (textS l a b 160).2.2 64).2.2 0 1073741824).2.2 30).2).1⟩,
        (repR rHash (countS l (numS l (textS l (textS l a b 160).2.1 (textS l a b 160).2.2 64).2.1 (textS l (textS l a b 160).2.1 (textS l a b 160).2.2 64).2.2 0 1073741824).2.1 (numS l (textS l (textS l a b 160).2.1 (textS l a b 160).2.2 64).2.1 (textS l (textS l a b 160).2.1 (textS l a b 160).2.2 64).2.2 0 1073741824).2.2 30).1.toNat l (countS l (numS l (textS l (textS l a b 160).2.1 (textS l a b 160).2.2 64).2.1 (textS l (textS l a b 160).2.1 (textS l a b 160).2.2 64).2.2 0 1073741824).2.1 (numS l (textS l (textS l a b 160).2.1 (textS l a b 160).2.2 64).2.1 (textS l (textS l a b 160).2.1 (textS l a b 160).2.2 64).2.2 0 1073741824).2.2 30).2).2) := rfl
    clear h1 h2 h3
    generalize textS l a b 160 = t1 at *
    generalize textS l t1.2.1 t1.2.2 64 = t2 at *
    generalize numS l t2.2.1 t2.2.2 0 1073741824 = t3 at *
    have hrg := cnt_rng l t3.2.1 t3.2.2 30 (by decide)
    generalize countS l t3.2.1 t3.2.2 30 = t4 at *
    obtain ⟨N, A0, B0⟩ := t4
    dsimp only at *
    refine Runs.nilCell 2 3 24 32 (pG []) rfl rfl ?_
    show Runs Tryd.prog 1 (.loop _) _ _
    refine loop_ruleR (N := env (lft Tryd.prog 1) 0 .std tbR [(141, appMeth 155 sRdText), (106, appMeth 155 sRdNum), (107, appMeth 155 sCount), (142, appMeth 155 sHash)] [(7, [(2000, false), (2003, false), (0, true), (1, true), (2, true), (3, false), (4, false), (5, false), (6, true), (1007, false), (7, false)])]) rfl tbR_ok hC (fun c st K _ h => h) (by kernel_rfl) [] (X := LRep rHash l N.toNat (A0, B0))
      (S := fun x => ⟨[.c (.ptr 0 0), .any, .c (.ptr 1 0), .c (.ptr 2 0), .any, .any, .any, .any, .any, .any, .any, .any, .any, .any, .c (.int .i64 N), .c (.int .i64 x.i)] ++ List.replicate 10 .any, [.cells 155 [.str l, .int .i64 x.a, .int .i64 x.b], .cells 115 [.str [], .str [], .int .i64 0, .val (.slice none 0 0)], .cells 115 [.str t1.1, .str t2.1, .int .i64 t3.1, .row 3], .row 24 32 x.n (pG x.p)]⟩) (μ := fun x => N.toNat - x.n) ⟨0, 0, A0, B0, [], rfl, by omega, rfl, h4, rfl⟩ (by kernel_rfl) [0, 1, 2, 3] ?_ ?_
    · refine ⟨rfl, by decide, ?_, ?_⟩ <;> repeat' (first | exact trivial | exact rfl | apply And.intro | exact (fun _ _ _ _ => Cell.le_refl _) | (intro i hi; rfl) | (intro i hi; exact absurd hi (Nat.not_lt_zero _)))
    rintro ⟨i, n, a, b, p, hn, hnN, hp, hok, he⟩
    unfold sRdText sRdNum sCount sHash
    generalize hL : lft Tryd.prog _ = L
    generalize hA : Arith.std = A
    set_option cbv.maxSteps 2000000 in cbv
    subst hA hL
    replace hn : i = @Nat.cast Int instNatCastInt n := hn
    replace hok : okRd l a b := hok
    refine Ife.mk (fun hlt => ?_) (fun hlt => ?_)
    · replace hlt : i < N := of_decide_eq_true (p := i < N) hlt
      refine Need.mk hok fun _ => ?_
      refine Need.mk (show n + 1 ≤ maxLen ∧ (n + 1) * 32 ≤ 140737488355328 from ⟨by unfold maxLen; omega, by omega⟩) fun _ => ?_
      refine Need.mk (by show fitStd .i64 (i + 1); unfold fitStd; omega) fun _ => ?_
      refine ⟨⟨i + 1, n + 1, (rHash l (a, b)).2.1, (rHash l (a, b)).2.2, p ++ [(rHash l (a, b)).1], by omega, by omega, by simp; omega, ok_hash hok, rep_next (by omega) he⟩, [0, 1, 2, 5], (by show N.toNat - (n + 1) < N.toNat - n; omega), ?_⟩
      refine ⟨rfl, by decide, by repeat' (first | exact trivial | exact rfl | apply And.intro | exact (fun _ _ _ _ => Cell.le_refl _) | (intro i hi; rfl) | (intro i hi; exact absurd hi (Nat.not_lt_zero _))), ?_⟩
      repeat' (first | exact trivial | exact rfl | apply And.intro)
      exact pG_push hp _
    · replace hlt : ¬ i < N := of_decide_eq_false (p := i < N) hlt
      have hE := rep_end (by omega) he
      rw [hE] at hR
      rw [hR]
      refine ⟨[0, 3], ⟨rfl, (by repeat' (first | exact trivial | exact rfl | apply And.intro | exact (fun _ _ _ _ => Cell.le_refl _) | (intro i hi; rfl) | (intro i hi; exact absurd hi (Nat.not_lt_zero _)))), (by show [0, 3].Nodup; decide), rfl, ?_⟩⟩
      repeat' (first | exact trivial | exact rfl | apply And.intro)
      · exact hp.symm
      · exact fun i hi => rfl

end Go.Proofs.YthomoliklfmnkaaDoor.Vx
end

section
/- Proofs and messages read, by the walker. -/
namespace Go.Proofs.YthomoliklfmnkaaDoor.Vx
open Go.RowKit
set_option linter.unusedVariables false
set_option linter.unusedSimpArgs false
theorem okS_rep {α : Type} {r : List UInt8 → Int × Int → α × Int × Int} {l : List UInt8} (h : ∀ s, okS l s → okS l (r l s).2) : ∀ (n : Nat) (s : Int × Int), okS l s → okS l (repR r n l s).2
  | 0, s, hs => hs
  | n + 1, s, hs => okS_rep h n _ (h s hs)
theorem okS_leaf {l : List UInt8} {s : Int × Int} (h : okS l s) : okS l (rLeaf l s).2 := okS_rep (fun _ => okS_hash) _ _ (okS_count (okS_num (okS_text (okS_text h))))
theorem ok_leaf {l : List UInt8} {a b : Int} (h : okRd l a b) : okRd l (rLeaf l (a, b)).2.1 (rLeaf l (a, b)).2.2 := okS_leaf (s := (a, b)) h
theorem leafG_left {fr : Bool} {p : List PLeaf} {x : PLeaf} {i j : Nat} (h : i < p.length) : leafG fr (p ++ [x]) i j = leafG fr p i j := by
  have e : (p ++ [x]).getD i .none = p.getD i .none := by
    rw [List.getD_eq_getElem?_getD, List.getD_eq_getElem?_getD, List.getElem?_append_left h]
  unfold leafG lK lV lI lN lP
  rw [e]
theorem leafG_last {fr : Bool} {p : List PLeaf} {x : PLeaf} {j : Nat} : leafG fr (p ++ [x]) p.length j = match j with
    | 0 => .pl (.str x.k)
    | 1 => .pl (.str x.v)
    | 2 => .pl (.int .i64 x.i)
    | _ => .es fr 24 32 x.p.length (pG x.p) := by
  have e : (p ++ [x]).getD p.length .none = x := by simp [List.getD]
  unfold leafG lK lV lI lN lP
  rw [e]
  cases j with
  | zero => rfl
  | succ j => cases j with
    | zero => rfl
    | succ j => cases j with
      | zero => rfl
      | succ j => rfl
theorem leafG_push {p : List PLeaf} {n : Nat} (hn : p.length = n) (x : PLeaf) : ∀ i j, i < n + 1 → j < 4 → Cell.le (pushC n (leafG true p) [.pl (.str x.k), .pl (.str x.v), .pl (.int .i64 x.i), .es true 24 32 (lenH x.p) (pG x.p)] i j) (leafG true (p ++ [x]) i j) := fun i j hi hj => by
  subst hn
  unfold pushC
  cases hb : Nat.blt i p.length with
  | true =>
    rw [Nat.blt_eq] at hb
    rw [leafG_left hb]
    exact Cell.le_refl _
  | false =>
    have hb : ¬ i < p.length := fun h => by rw [← Nat.blt_eq, hb] at h; cases h
    obtain rfl : i = p.length := by omega
    rw [leafG_last]
    rcases four hj with rfl | rfl | rfl | rfl <;> exact Cell.le_refl _
attribute [local cbv_opaque] lK lV lI lP lN pG leafL leafOf leavesPre hsL rHash rLeaf rProof numsOf hashS byteI okRd textS numS countS endS lenH lenL
def sRProof : SpecF
  | [.c (.ptr 0 0)], [.cells t [.str l, .int .i64 a, .int .i64 b]] => some (t = 155 ∧ okRd l a b, .agg [.int .i64 (rProof l (a, b)).1.1, .row 1], [.cells 155 [.str l, .int .i64 (rProof l (a, b)).2.1, .int .i64 (rProof l (a, b)).2.2], .data true 115 4 (lenL (rProof l (a, b)).1.2) (leafG true (rProof l (a, b)).1.2)])
  | _, _ => none

set_option maxRecDepth 100000 in
set_option maxHeartbeats 8000000 in
theorem rProofP : Fn Tryd.prog 66 [] [] sRProof := by
  have hC : CtsOk Tryd.prog [(106, appMeth 155 sRdNum), (107, appMeth 155 sCount), (108, appFn [] [] sRdLf)] := CtsOk.cons (Meth.ct rdNumP) <| CtsOk.cons (Meth.ct rdCountP) <| CtsOk.cons (Fn.ct rLeafP) <| CtsOk.nil _
  refine Fn.ofZ (E := tbR) [] 0 [(4, [(2000, false), (2003, false), (0, true), (1, true), (2, true), (3, false), (4, false), (5, false), (6, true), (1007, false), (7, false)])] tbR_ok hC (by kernel_rfl) Tryd.func66 rfl rfl rfl (by kernel_rfl) (by kernel_rfl) 1 (.data true 115 4 0 fun _ _ => .pl .tt) rfl ?_ ?_
  · intro args h pre r h' hs
    unfold sRProof at hs
    split at hs
    · cases hs; exact ⟨rfl, rfl, Nat.le_of_ble_eq_true rfl⟩
    · cases hs
  · intro args h pre r h' hs hp
    unfold sRProof at hs
    split at hs
    rotate_left
    · cases hs
    rename_i t l a b
    cases hs
    obtain ⟨rfl, hok⟩ := hp
    refine ⟨[.cells 155 [.str l, .int .i64 a, .int .i64 b]], ⟨rfl, trivial⟩, ?_⟩
    unfold sRdNum sCount sRdLf
    generalize hL : lft Tryd.prog _ = L
    generalize hA : Arith.std = A
    set_option cbv.maxSteps 2000000 in cbv
    subst hA hL
    have h3 := ok_num (lo := 0) (hi := 1073741824) hok
    have h4 := ok_count (hi := 2) h3
    refine Need.mk hok fun _ => ?_
    refine Need.mk h3 fun _ => ?_
    have hR : rProof l (a, b) = (((numS l a b 0 1073741824).1, (repR rLeaf (countS l (numS l a b 0 1073741824).2.1 (numS l a b 0 1073741824).2.2 2).1.toNat l (countS l (numS l a b 0 1073741824).2.1 (numS l a b 0 1073741824).2.2 2).2).1), (repR rLeaf (countS l (numS l a b 0 1073741824).2.1 (numS l a b 0 1073741824).2.2 2).1.toNat l (countS l (numS l a b 0 1073741824).2.1 (numS l a b 0 1073741824).2.2 2).2).2) := rfl
    clear h3
    generalize numS l a b 0 1073741824 = t3 at *
    have hrg := cnt_rng l t3.2.1 t3.2.2 2 (by decide)
    generalize countS l t3.2.1 t3.2.2 2 = t4 at *
    obtain ⟨N, A0, B0⟩ := t4
    dsimp only at *
    refine Runs.nilCellE 2 1 (.orow 115 4 0 (leafG true [])) rfl rfl rfl ?_
    show Runs Tryd.prog 1 (.loop _) _ _
    refine loop_ruleR (N := env (lft Tryd.prog 1) 0 .std tbR [(106, appMeth 155 sRdNum), (107, appMeth 155 sCount), (108, appFn [] [] sRdLf)] [(4, [(2000, false), (2003, false), (0, true), (1, true), (2, true), (3, false), (4, false), (5, false), (6, true), (1007, false), (7, false)])]) rfl tbR_ok hC (fun c st K _ h => h) (by kernel_rfl) [] (X := LRep rLeaf l N.toNat (A0, B0))
      (S := fun x => ⟨[.c (.ptr 0 0), .any, .c (.ptr 1 0), .c (.ptr 2 0), .any, .any, .any, .any, .c (.int .i64 N), .c (.int .i64 x.i)] ++ List.replicate 10 .any, [.cells 155 [.str l, .int .i64 x.a, .int .i64 x.b], .cells 27 [.int .i64 0, .val (.slice none 0 0)], .cells 27 [.int .i64 t3.1, .row 3], .orow 115 4 x.n (leafG true x.p)]⟩) (μ := fun x => N.toNat - x.n) ⟨0, 0, A0, B0, [], rfl, by omega, rfl, h4, rfl⟩ (by kernel_rfl) [0, 1, 2, 3] ?_ ?_
    · refine ⟨rfl, by decide, ?_, ?_⟩ <;> repeat' (first | exact trivial | exact rfl | apply And.intro | exact (fun _ _ _ _ => Cell.le_refl _) | (intro i hi; rfl) | (intro i hi; exact absurd hi (Nat.not_lt_zero _)))
    rintro ⟨i, n, a, b, p, hn, hnN, hp, hok, he⟩
    unfold sRdNum sCount sRdLf
    generalize hL : lft Tryd.prog _ = L
    generalize hA : Arith.std = A
    set_option cbv.maxSteps 2000000 in cbv
    subst hA hL
    replace hn : i = @Nat.cast Int instNatCastInt n := hn
    replace hok : okRd l a b := hok
    refine Ife.mk (fun hlt => ?_) (fun hlt => ?_)
    · replace hlt : i < N := of_decide_eq_true (p := i < N) hlt
      refine Need.mk hok fun _ => ?_
      refine Need.mk ⟨show n + 1 ≤ maxLen ∧ (n + 1) * 64 ≤ 140737488355328 from ⟨by unfold maxLen; omega, by omega⟩, trivial⟩ fun _ => ?_
      refine Need.mk (by show fitStd .i64 (i + 1); unfold fitStd; omega) fun _ => ?_
      refine ⟨⟨i + 1, n + 1, (rLeaf l (a, b)).2.1, (rLeaf l (a, b)).2.2, p ++ [(rLeaf l (a, b)).1], by omega, by omega, by simp; omega, ok_leaf hok, rep_next (by omega) he⟩, [0, 1, 2, 6], (by show N.toNat - (n + 1) < N.toNat - n; omega), ?_⟩
      refine ⟨rfl, by decide, by repeat' (first | exact trivial | exact rfl | apply And.intro | exact (fun _ _ _ _ => Cell.le_refl _) | (intro i hi; rfl) | (intro i hi; exact absurd hi (Nat.not_lt_zero _))), ?_⟩
      repeat' (first | exact trivial | exact rfl | apply And.intro)
      exact leafG_push hp (rLeaf l (a, b)).1
    · replace hlt : ¬ i < N := of_decide_eq_false (p := i < N) hlt
      have hE := rep_end (by omega) he
      rw [hE] at hR
      rw [hR]
      refine ⟨[3], [0, 3], ⟨?fz, rfl, (by repeat' (first | exact trivial | exact rfl | apply And.intro | exact (fun _ _ _ _ => Cell.le_refl _) | (intro i hi; rfl) | (intro i hi; exact absurd hi (Nat.not_lt_zero _)))), (by show [0].Nodup; decide), rfl, ?hh⟩⟩
      case fz =>
        refine ⟨fun i j hi hj => ?_, trivial⟩
        rcases four hj with rfl | rfl | rfl | rfl
        · trivial
        · trivial
        · trivial
        · exact rfl
      case hh =>
        repeat' (first | exact trivial | exact rfl | apply And.intro)
        · exact hp.symm
        · exact fun _ _ _ _ => Cell.le_refl _

end Go.Proofs.YthomoliklfmnkaaDoor.Vx
end

section
/- Make, by the walker. -/
namespace Go.Proofs.YthomoliklfmnkaaDoor.Vx
open Sha
open Go.RowKit
set_option linter.unusedVariables false
set_option linter.unusedSimpArgs false
def mkPre (gg sz0 n0 : Nat) (get0 : Nat → List CV) (ty one n : Nat) (get : Nat → List CV) : Prop := KsAt gg sz0 n0 get0 ∧ prPre ty one n get
theorem es_leq {fr : Bool} {ty sz n n' : Nat} {g g' : Nat → List CV} (hn : n = n') (h : ∀ i, i < n → g i = g' i) : Cell.le (.es fr ty sz n g) (.es fr ty sz n' g') := by
  subst hn
  rintro W D u ⟨a, cap, h1, h2, h3⟩
  refine ⟨a, cap, h1, h2, fun h0 => ?_⟩
  obtain ⟨b, o, h4, h5, h6⟩ := h3 h0
  refine ⟨b, o, h4, h5, fun i hi => ?_⟩
  rw [← h i hi]
  exact h6 i hi
theorem leafG_way {L : List PP} {i : Nat} {P : List PLeaf} {m : Nat} (hn : P.length = m) (hi : i < L.length) : ∀ a j, a < m + 1 → j < 4 → Cell.le (pushC m (leafG true P) [.pl (.str (prK L i)), .pl (.str (prV L i)), .pl (.int .i64 (i : Int)), .es true 24 32 (wayG (lfG L) L.length (i : Int)).length (hashesG (wayG (lfG L) L.length (i : Int)))] a j) (leafG true (P ++ [mkLeaf L i]) a j) := fun a j ha hj => by
  have h := leafG_push (p := P) hn (mkLeaf L i) a j ha hj
  subst hn
  unfold pushC at h ⊢
  cases hb : Nat.blt a P.length with
  | true => rw [hb] at h; exact h
  | false =>
    have hb : ¬ a < P.length := fun h => by rw [← Nat.blt_eq, hb] at h; cases h
    obtain rfl : a = P.length := by omega
    rw [leafG_last]
    rcases four hj with rfl | rfl | rfl | rfl
    · exact Cell.le_refl _
    · exact Cell.le_refl _
    · exact Cell.le_refl _
    · exact es_leq (wyL_len L i).symm fun j hj => (pG_way hj).symm
structure LMk (L : List PP) (a b : Nat) where
  i : Nat
  P : List PLeaf
  m : Nat
  h0 : a ≤ i
  h1 : i ≤ b
  hm : P.length = m
  h2 : P = (List.range' a (i - a)).map (mkLeaf L)
theorem lmk_next {L : List PP} {a i : Nat} {P : List PLeaf} (h0 : a ≤ i) (h2 : P = (List.range' a (i - a)).map (mkLeaf L)) : P ++ [mkLeaf L i] = (List.range' a (i + 1 - a)).map (mkLeaf L) := by
  rw [h2, show i + 1 - a = (i - a) + 1 by omega, List.range'_concat, List.map_append]
  rw [show a + 1 * (i - a) = i by omega]
  rfl
attribute [local cbv_opaque] prK prV prL ltB findI findB szB Lib.compareBytes prPre goodAt goodL KsAt leafF leafPre topG topPre0 sumI hOf HashC kOf u8s lfG sumsPre lK lV lI lP lN pG leafL leafOf leavesPre mayAt mayL lightAt lightL deep leavesAt0 hNm wyL mkLeaf mkL mkC goodL mkFrom mkTo wayG hashesG wayPre0 mkPre lenL
def sMake : SpecF
  | [.c (.row 1), .c (.str k)], [.glob gg sz0 n0 get0, .elems ty one n get] => some (mkPre gg sz0 n0 get0 ty one n get, .agg [.int .i64 (mkC (prL n get)), .row 2], [.dead, .dead, .data true 115 4 (lenL (mkL (prL n get) k)) (leafG true (mkL (prL n get) k))])
  | _, _ => none

set_option maxRecDepth 100000 in
set_option maxHeartbeats 32000000 in
theorem makeP : Fn Tryd.prog 22 [0] [(63, 2)] sMake := by
  have hC : CtsOk Tryd.prog [(18, appFn [] [(63, 2)] sGood), (83, appFn [] [] sSea), (79, appFn [0] [(63, 2)] sSums), (85, appFn [0] [(24, 32)] sWay)] := CtsOk.cons (Fn.ct goodP) <| CtsOk.cons (Fn.ct seaP) <| CtsOk.cons (Fn.ct sumsP) <| CtsOk.cons (Fn.ct wayP) <| CtsOk.nil _
  refine Fn.ofZ (E := tbMk) [0] 0 [(4, [(0, true), (1, true), (2, true), (3, true), (4, true), (5, true), (6, true), (7, true), (8, true), (9, true)]), (5, [(0, true), (1, true), (2, true), (3, true), (4, true), (5, true), (6, true), (7, true), (8, true), (9, true), (10, true), (11, true), (12, true)]), (7, [(9999, true), (0, true), (1, true), (2, true), (3, true), (3004, false), (5, false), (6, false), (7, true), (2999, false), (5, false), (4, false), (6, false), (7, true), (2999, false)]), (11, [(2007, false), (0, true), (1, true), (2, true), (3, true), (4, true), (5, true), (6, true), (7, true), (8, true), (9, true), (10, true), (11, true), (12, true), (13, true), (14, true), (15, false), (16, true), (17, false), (18, false), (1019, false), (19, true), (20, false)])] tbMk_ok hC (by kernel_rfl) Tryd.func22 rfl rfl rfl (by kernel_rfl) (by kernel_rfl) 2 (.data true 115 4 0 fun _ _ => .pl .tt) rfl ?_ ?_
  · intro args h pre r h' hs
    unfold sMake at hs
    split at hs
    · cases hs; exact ⟨rfl, rfl, Nat.le_of_ble_eq_true rfl⟩
    · cases hs
  · intro args h pre r h' hs hp
    unfold sMake at hs
    split at hs
    rotate_left
    · cases hs
    rename_i k gg sz0 n0 get0 ty one n get
    cases hs
    obtain ⟨hK, rfl, rfl, hst, hm⟩ := hp
    refine ⟨[.glob 0 1 64 (fun i => [.int .u32 (kOf i)]), .elems 63 2 n (prG (prL n get))], ⟨hK.same.1, ⟨rfl, rfl, rfl, fun i hi => hst.eq hi⟩, trivial⟩, ?_⟩
    clear hK
    have hL : (prL n get).length = n := prL_len
    have ePR : prL n (prG (prL n get)) = prL n get := by
      have := prL_prG (prL n get)
      rwa [hL] at this
    generalize prL n get = L at hL ePR ⊢
    unfold sGood sSea sSums sWay
    generalize hg0 : (List.length : List PP → Nat) = g0
    generalize hg1 : (List.length : List (Nat → Int) → Nat) = g1
    generalize hL : lft Tryd.prog _ = L
    generalize hA : Arith.std = A
    set_option cbv.maxSteps 4000000 in cbv
    subst hA hg0 hg1 hL
    have hle := findI_le (L := L) (k := k)
    have hPr : prPre 63 2 n (prG L) := ⟨rfl, rfl, prAt_prG n L, hm⟩
    refine Need.mk hPr fun _ => ?_
    simp only [ePR]
    refine Ife.mk (fun h => ?_) (fun h => ?_)
    · have h : goodL L = false := by simpa using (show (!goodL L) = true from h)
      have e1 : mkL L k = [] := by unfold mkL; rw [if_neg (by rw [h]; simp)]
      have e2 : mkC L = 0 := by unfold mkC; rw [if_neg (by rw [h]; simp)]
      rw [e1, e2]
      have hZ : ∀ (i j : Nat), i < lenL [] → j < 4 → Cell.le (.pl .tt) (leafG true [] i j) := fun i j hi => absurd hi (Nat.not_lt_zero i)
      exact ⟨[], [0, 1, 6], ⟨trivial, rfl, by repeat' (first | exact trivial | exact rfl | apply And.intro | exact (fun _ _ _ _ => Cell.le_refl _) | (intro i hi; rfl) | (intro i hi; exact absurd hi (Nat.not_lt_zero _))), (by show List.Nodup []; exact List.nodup_nil), rfl, by repeat' (first | exact trivial | exact rfl | exact hZ | apply And.intro)⟩⟩
    have hg : goodL L = true := by simpa using (show (!goodL L) = false from h)
    clear h
    obtain ⟨hs, hz⟩ := goodL_iff.1 hg
    have eC : mkC L = (n : Int) := by unfold mkC; rw [if_pos hg, hL]
    have hT : min ((findI L k : Int) + 1) (n : Int) = ((mkTo L k : Nat) : Int) := by unfold mkTo; rw [hL]; omega
    have hft := mkFrom_le (L := L) (k := k)
    have eM := mkL_range (L := L) (k := k) hg
    refine Need.mk ⟨rfl, hPr, hs⟩ fun _ => ?_
    refine Need.mk (by show fitStd .i64 ((findI L k : Int) - 1); unfold fitStd; omega) fun _ => Need.mk (by show fitStd .i64 ((findI L k : Int) + 1); unfold fitStd; omega) fun _ => ?_
    refine Ife.mk (fun h => ?_) (fun h => ?_)
    · have h : (findI L k : Int) < (n : Int) := of_decide_eq_true (p := (findI L k : Int) < (n : Int)) h
      refine Need.mk (by show 0 ≤ (findI L k : Int) ∧ (findI L k : Int) < (n : Int); omega) fun _ => Need.mk (by show (findI L k : Int).toNat < n; omega) fun _ => ?_
      refine Ife.mk (fun h2 => ?_) (fun h2 => ?_)
      · have h2 : prK L (findI L k) = k := of_decide_eq_true (p := prK L (findI L k) = k) h2
        have hfb : findB L k = true := by unfold findB; rw [decide_eq_true h2, decide_eq_true (by omega)]; rfl
        have hF : (findI L k : Int) = ((mkFrom L k : Nat) : Int) := by unfold mkFrom; rw [if_pos hfb]
        have hSm : sumsPre 0 1 64 (fun i => [.int .u32 (kOf i)]) 63 2 n (prG L) := ⟨ksAt_self, ⟨rfl, rfl, prAt_prG n L, hm⟩, by rw [ePR]; exact hz⟩
        refine Both.mk ?_ ?_
        · refine Need.mk hSm fun _ => ?_
          refine Runs.nilCellE 8 1 (.orow 115 4 0 (leafG true [])) rfl rfl rfl ?_
          show Runs Tryd.prog 2 (.loop _) _ _
          refine loop_ruleR (N := env (lft Tryd.prog 2) 0 .std tbMk [(18, appFn [] [(63, 2)] sGood), (83, appFn [] [] sSea), (79, appFn [0] [(63, 2)] sSums), (85, appFn [0] [(24, 32)] sWay)] [(4, [(0, true), (1, true), (2, true), (3, true), (4, true), (5, true), (6, true), (7, true), (8, true), (9, true)]), (5, [(0, true), (1, true), (2, true), (3, true), (4, true), (5, true), (6, true), (7, true), (8, true), (9, true), (10, true), (11, true), (12, true)]), (7, [(9999, true), (0, true), (1, true), (2, true), (3, true), (3004, false), (5, false), (6, false), (7, true), (2999, false), (5, false), (4, false), (6, false), (7, true), (2999, false)]), (11, [(2007, false), (0, true), (1, true), (2, true), (3, true), (4, true), (5, true), (6, true), (7, true), (8, true), (9, true), (10, true), (11, true), (12, true), (13, true), (14, true), (15, false), (16, true), (17, false), (18, false), (1019, false), (19, true), (20, false)])]) rfl tbMk_ok hC (fun c st K _ h => h) (by kernel_rfl) [0] (X := LMk L (mkFrom L k) (mkTo L k))
            (S := fun x => ⟨[.c (.row 1), .c (.str k), .c (.ptr 2 0), .c (.ptr 3 0), .c (.ptr 4 0), .any, .any, .c (.int .i64 ((mkTo L k : Nat) : Int)), .c (.ptr 5 0), .c (.row 6), .c (.int .i64 (x.i : Int))] ++ List.replicate 62 .any, [.glob 0 1 64 (fun i => [.int .u32 (kOf i)]), .elems 63 2 n (prG L), .cells 31 [.row 1], .cells 9 [.str k], .cells 27 [.int .i64 0, .val (.slice none 0 0)], .cells 27 [.int .i64 (n : Int), .row 7], .row 24 32 n (lfG L), .orow 115 4 x.m (leafG true x.P)]⟩) (μ := fun x => mkTo L k - x.i) ⟨mkFrom L k, [], 0, Nat.le_refl _, mkFrom_le.1, rfl, by rw [Nat.sub_self]; rfl⟩ (by kernel_rfl) [0, 1, 2, 3, 4, 8, 7, 9] ?h0XA ?rdXA
          case h0XA =>
            refine ⟨rfl, by decide, ?_, ?_⟩ <;> repeat' (first | exact trivial | exact hF | exact hT | exact congrArg (CV.int .i64) hF | exact congrArg (CV.int .i64) hT | exact hW | exact rfl | apply And.intro | exact (fun _ _ _ _ => Cell.le_refl _) | (intro i hi; rfl) | (intro i hi; exact absurd hi (Nat.not_lt_zero _)))
          case rdXA =>
            rintro ⟨i, P, m, h0, h1, hmm, hP⟩
            unfold sGood sSea sSums sWay
            generalize hg0 : (List.length : List PP → Nat) = g0
            generalize hg1 : (List.length : List (Nat → Int) → Nat) = g1
            generalize hL : lft Tryd.prog _ = L
            generalize hA : Arith.std = A
            set_option cbv.maxSteps 4000000 in cbv
            subst hA hg0 hg1 hL
            refine Ife.mk (fun h => ?_) (fun h => ?_)
            · have h : (i : Int) < ((mkTo L k : Nat) : Int) := of_decide_eq_true (p := (i : Int) < ((mkTo L k : Nat) : Int)) h
              have hib : i < mkTo L k := Int.ofNat_lt.mp h
              have q1 : 0 ≤ (i : Int) ∧ (i : Int) < (n : Int) := by omega
              have q2 : (i : Int).toNat < n := by omega
              have hml : m ≤ n := by
                have := congrArg List.length hP
                rw [List.length_map, List.length_range'] at this
                omega
              refine Need.mk q1 fun _ => Need.mk q2 fun _ => Need.mk q1 fun _ => Need.mk q2 fun _ => ?_
              refine Need.mk ⟨ksAt_self, rfl, rfl, lfG_hash L n, by omega⟩ fun _ => ?_
              refine Need.mk ⟨show m + 1 ≤ maxLen ∧ (m + 1) * 64 ≤ 140737488355328 from ⟨by unfold maxLen; omega, by omega⟩, trivial⟩ fun _ => ?_
              refine Need.mk (by show fitStd .i64 ((i : Int) + 1); unfold fitStd; omega) fun _ => ?_
              have hW := leafG_way (L := L) (i := i) hmm (by omega)
              rw [hL] at hW
              refine ⟨⟨i + 1, P ++ [mkLeaf L i], m + 1, by omega, by omega, by rw [List.length_append, hmm]; rfl, lmk_next h0 hP⟩, [0, 1, 2, 3, 4, 5, 6, 11], (by show mkTo L k - (i + 1) < mkTo L k - i; omega), ?_⟩
              refine ⟨rfl, by decide, by repeat' (first | exact trivial | exact hF | exact hT | exact congrArg (CV.int .i64) hF | exact congrArg (CV.int .i64) hT | exact hW | exact rfl | apply And.intro | exact (fun _ _ _ _ => Cell.le_refl _) | (intro i hi; rfl) | (intro i hi; exact absurd hi (Nat.not_lt_zero _))), ?_⟩
              repeat' (first | exact trivial | exact hF | exact hT | exact congrArg (CV.int .i64) hF | exact congrArg (CV.int .i64) hT | exact hW | exact rfl | apply And.intro | exact (fun _ _ _ _ => Cell.le_refl _) | (intro i hi; rfl) | (intro i hi; exact absurd hi (Nat.not_lt_zero _)))
            · have h : ¬ (i : Int) < ((mkTo L k : Nat) : Int) := of_decide_eq_false (p := (i : Int) < ((mkTo L k : Nat) : Int)) h
              have ei : i = mkTo L k := by omega
              have hPm : P = mkL L k := by rw [hP, ei]; exact eM.symm
              rw [eC, ← hPm]
              refine ⟨[7], [0, 1, 7], ⟨?fzXA, rfl, (by repeat' (first | exact trivial | exact rfl | apply And.intro | exact (fun _ _ _ _ => Cell.le_refl _) | (intro i hi; rfl) | (intro i hi; exact absurd hi (Nat.not_lt_zero _)))), (by show List.Nodup []; exact List.nodup_nil), rfl, ?hhXA⟩⟩
              case fzXA =>
                refine ⟨fun i j hi hj => ?_, trivial⟩
                rcases four hj with rfl | rfl | rfl | rfl
                · trivial
                · trivial
                · trivial
                · exact rfl
              case hhXA =>
                repeat' (first | exact trivial | exact rfl | apply And.intro)
                · exact hmm.symm
                · exact fun _ _ _ _ => Cell.le_refl _
        · refine Need.mk hSm fun _ => ?_
          refine Runs.nilCellE 6 1 (.orow 115 4 0 (leafG true [])) rfl rfl rfl ?_
          show Runs Tryd.prog 2 (.loop _) _ _
          refine loop_ruleR (N := env (lft Tryd.prog 2) 0 .std tbMk [(18, appFn [] [(63, 2)] sGood), (83, appFn [] [] sSea), (79, appFn [0] [(63, 2)] sSums), (85, appFn [0] [(24, 32)] sWay)] [(4, [(0, true), (1, true), (2, true), (3, true), (4, true), (5, true), (6, true), (7, true), (8, true), (9, true)]), (5, [(0, true), (1, true), (2, true), (3, true), (4, true), (5, true), (6, true), (7, true), (8, true), (9, true), (10, true), (11, true), (12, true)]), (7, [(9999, true), (0, true), (1, true), (2, true), (3, true), (3004, false), (5, false), (6, false), (7, true), (2999, false), (5, false), (4, false), (6, false), (7, true), (2999, false)]), (11, [(2007, false), (0, true), (1, true), (2, true), (3, true), (4, true), (5, true), (6, true), (7, true), (8, true), (9, true), (10, true), (11, true), (12, true), (13, true), (14, true), (15, false), (16, true), (17, false), (18, false), (1019, false), (19, true), (20, false)])]) rfl tbMk_ok hC (fun c st K _ h => h) (by kernel_rfl) [0] (X := LMk L (mkFrom L k) (mkTo L k))
            (S := fun x => ⟨[.c (.row 1), .c (.str k), .c (.ptr 2 0), .c (.ptr 3 0), .c (.ptr 4 0), .any, .any, .c (.int .i64 ((mkTo L k : Nat) : Int)), .c (.ptr 5 0), .c (.row 6), .c (.int .i64 (x.i : Int))] ++ List.replicate 62 .any, [.glob 0 1 64 (fun i => [.int .u32 (kOf i)]), .elems 63 2 n (prG L), .cells 31 [.row 1], .cells 9 [.str k], .cells 27 [.int .i64 0, .val (.slice none 0 0)], .cells 27 [.int .i64 (n : Int), .row 7], .row 24 32 n (lfG L), .orow 115 4 x.m (leafG true x.P)]⟩) (μ := fun x => mkTo L k - x.i) ⟨mkFrom L k, [], 0, Nat.le_refl _, mkFrom_le.1, rfl, by rw [Nat.sub_self]; rfl⟩ (by kernel_rfl) [0, 1, 2, 3, 4, 6, 8, 9] ?h0XB ?rdXB
          case h0XB =>
            refine ⟨rfl, by decide, ?_, ?_⟩ <;> repeat' (first | exact trivial | exact hF | exact hT | exact congrArg (CV.int .i64) hF | exact congrArg (CV.int .i64) hT | exact hW | exact rfl | apply And.intro | exact (fun _ _ _ _ => Cell.le_refl _) | (intro i hi; rfl) | (intro i hi; exact absurd hi (Nat.not_lt_zero _)))
          case rdXB =>
            rintro ⟨i, P, m, h0, h1, hmm, hP⟩
            unfold sGood sSea sSums sWay
            generalize hg0 : (List.length : List PP → Nat) = g0
            generalize hg1 : (List.length : List (Nat → Int) → Nat) = g1
            generalize hL : lft Tryd.prog _ = L
            generalize hA : Arith.std = A
            set_option cbv.maxSteps 4000000 in cbv
            subst hA hg0 hg1 hL
            refine Ife.mk (fun h => ?_) (fun h => ?_)
            · have h : (i : Int) < ((mkTo L k : Nat) : Int) := of_decide_eq_true (p := (i : Int) < ((mkTo L k : Nat) : Int)) h
              have hib : i < mkTo L k := Int.ofNat_lt.mp h
              have q1 : 0 ≤ (i : Int) ∧ (i : Int) < (n : Int) := by omega
              have q2 : (i : Int).toNat < n := by omega
              have hml : m ≤ n := by
                have := congrArg List.length hP
                rw [List.length_map, List.length_range'] at this
                omega
              refine Need.mk q1 fun _ => Need.mk q2 fun _ => Need.mk q1 fun _ => Need.mk q2 fun _ => ?_
              refine Need.mk ⟨ksAt_self, rfl, rfl, lfG_hash L n, by omega⟩ fun _ => ?_
              refine Need.mk ⟨show m + 1 ≤ maxLen ∧ (m + 1) * 64 ≤ 140737488355328 from ⟨by unfold maxLen; omega, by omega⟩, trivial⟩ fun _ => ?_
              refine Need.mk (by show fitStd .i64 ((i : Int) + 1); unfold fitStd; omega) fun _ => ?_
              have hW := leafG_way (L := L) (i := i) hmm (by omega)
              rw [hL] at hW
              refine ⟨⟨i + 1, P ++ [mkLeaf L i], m + 1, by omega, by omega, by rw [List.length_append, hmm]; rfl, lmk_next h0 hP⟩, [0, 1, 2, 3, 4, 5, 6, 11], (by show mkTo L k - (i + 1) < mkTo L k - i; omega), ?_⟩
              refine ⟨rfl, by decide, by repeat' (first | exact trivial | exact hF | exact hT | exact congrArg (CV.int .i64) hF | exact congrArg (CV.int .i64) hT | exact hW | exact rfl | apply And.intro | exact (fun _ _ _ _ => Cell.le_refl _) | (intro i hi; rfl) | (intro i hi; exact absurd hi (Nat.not_lt_zero _))), ?_⟩
              repeat' (first | exact trivial | exact hF | exact hT | exact congrArg (CV.int .i64) hF | exact congrArg (CV.int .i64) hT | exact hW | exact rfl | apply And.intro | exact (fun _ _ _ _ => Cell.le_refl _) | (intro i hi; rfl) | (intro i hi; exact absurd hi (Nat.not_lt_zero _)))
            · have h : ¬ (i : Int) < ((mkTo L k : Nat) : Int) := of_decide_eq_false (p := (i : Int) < ((mkTo L k : Nat) : Int)) h
              have ei : i = mkTo L k := by omega
              have hPm : P = mkL L k := by rw [hP, ei]; exact eM.symm
              rw [eC, ← hPm]
              refine ⟨[7], [0, 1, 7], ⟨?fzXB, rfl, (by repeat' (first | exact trivial | exact rfl | apply And.intro | exact (fun _ _ _ _ => Cell.le_refl _) | (intro i hi; rfl) | (intro i hi; exact absurd hi (Nat.not_lt_zero _)))), (by show List.Nodup []; exact List.nodup_nil), rfl, ?hhXB⟩⟩
              case fzXB =>
                refine ⟨fun i j hi hj => ?_, trivial⟩
                rcases four hj with rfl | rfl | rfl | rfl
                · trivial
                · trivial
                · trivial
                · exact rfl
              case hhXB =>
                repeat' (first | exact trivial | exact rfl | apply And.intro)
                · exact hmm.symm
                · exact fun _ _ _ _ => Cell.le_refl _
      · have h2 : ¬ prK L (findI L k) = k := of_decide_eq_false (p := prK L (findI L k) = k) h2
        have hfb : ¬ findB L k = true := fun q => h2 (findB_eq q).2
        have hF : max ((findI L k : Int) - 1) 0 = ((mkFrom L k : Nat) : Int) := by unfold mkFrom; rw [if_neg hfb]; omega
        have hSm : sumsPre 0 1 64 (fun i => [.int .u32 (kOf i)]) 63 2 n (prG L) := ⟨ksAt_self, ⟨rfl, rfl, prAt_prG n L, hm⟩, by rw [ePR]; exact hz⟩
        refine Both.mk ?_ ?_
        · refine Need.mk hSm fun _ => ?_
          refine Runs.nilCellE 8 1 (.orow 115 4 0 (leafG true [])) rfl rfl rfl ?_
          show Runs Tryd.prog 2 (.loop _) _ _
          refine loop_ruleR (N := env (lft Tryd.prog 2) 0 .std tbMk [(18, appFn [] [(63, 2)] sGood), (83, appFn [] [] sSea), (79, appFn [0] [(63, 2)] sSums), (85, appFn [0] [(24, 32)] sWay)] [(4, [(0, true), (1, true), (2, true), (3, true), (4, true), (5, true), (6, true), (7, true), (8, true), (9, true)]), (5, [(0, true), (1, true), (2, true), (3, true), (4, true), (5, true), (6, true), (7, true), (8, true), (9, true), (10, true), (11, true), (12, true)]), (7, [(9999, true), (0, true), (1, true), (2, true), (3, true), (3004, false), (5, false), (6, false), (7, true), (2999, false), (5, false), (4, false), (6, false), (7, true), (2999, false)]), (11, [(2007, false), (0, true), (1, true), (2, true), (3, true), (4, true), (5, true), (6, true), (7, true), (8, true), (9, true), (10, true), (11, true), (12, true), (13, true), (14, true), (15, false), (16, true), (17, false), (18, false), (1019, false), (19, true), (20, false)])]) rfl tbMk_ok hC (fun c st K _ h => h) (by kernel_rfl) [0] (X := LMk L (mkFrom L k) (mkTo L k))
            (S := fun x => ⟨[.c (.row 1), .c (.str k), .c (.ptr 2 0), .c (.ptr 3 0), .c (.ptr 4 0), .any, .any, .c (.int .i64 ((mkTo L k : Nat) : Int)), .c (.ptr 5 0), .c (.row 6), .c (.int .i64 (x.i : Int))] ++ List.replicate 62 .any, [.glob 0 1 64 (fun i => [.int .u32 (kOf i)]), .elems 63 2 n (prG L), .cells 31 [.row 1], .cells 9 [.str k], .cells 27 [.int .i64 0, .val (.slice none 0 0)], .cells 27 [.int .i64 (n : Int), .row 7], .row 24 32 n (lfG L), .orow 115 4 x.m (leafG true x.P)]⟩) (μ := fun x => mkTo L k - x.i) ⟨mkFrom L k, [], 0, Nat.le_refl _, mkFrom_le.1, rfl, by rw [Nat.sub_self]; rfl⟩ (by kernel_rfl) [0, 1, 2, 3, 4, 8, 7, 9] ?h0YA ?rdYA
          case h0YA =>
            refine ⟨rfl, by decide, ?_, ?_⟩ <;> repeat' (first | exact trivial | exact hF | exact hT | exact congrArg (CV.int .i64) hF | exact congrArg (CV.int .i64) hT | exact hW | exact rfl | apply And.intro | exact (fun _ _ _ _ => Cell.le_refl _) | (intro i hi; rfl) | (intro i hi; exact absurd hi (Nat.not_lt_zero _)))
          case rdYA =>
            rintro ⟨i, P, m, h0, h1, hmm, hP⟩
            unfold sGood sSea sSums sWay
            generalize hg0 : (List.length : List PP → Nat) = g0
            generalize hg1 : (List.length : List (Nat → Int) → Nat) = g1
            generalize hL : lft Tryd.prog _ = L
            generalize hA : Arith.std = A
            set_option cbv.maxSteps 4000000 in cbv
            subst hA hg0 hg1 hL
            refine Ife.mk (fun h => ?_) (fun h => ?_)
            · have h : (i : Int) < ((mkTo L k : Nat) : Int) := of_decide_eq_true (p := (i : Int) < ((mkTo L k : Nat) : Int)) h
              have hib : i < mkTo L k := Int.ofNat_lt.mp h
              have q1 : 0 ≤ (i : Int) ∧ (i : Int) < (n : Int) := by omega
              have q2 : (i : Int).toNat < n := by omega
              have hml : m ≤ n := by
                have := congrArg List.length hP
                rw [List.length_map, List.length_range'] at this
                omega
              refine Need.mk q1 fun _ => Need.mk q2 fun _ => Need.mk q1 fun _ => Need.mk q2 fun _ => ?_
              refine Need.mk ⟨ksAt_self, rfl, rfl, lfG_hash L n, by omega⟩ fun _ => ?_
              refine Need.mk ⟨show m + 1 ≤ maxLen ∧ (m + 1) * 64 ≤ 140737488355328 from ⟨by unfold maxLen; omega, by omega⟩, trivial⟩ fun _ => ?_
              refine Need.mk (by show fitStd .i64 ((i : Int) + 1); unfold fitStd; omega) fun _ => ?_
              have hW := leafG_way (L := L) (i := i) hmm (by omega)
              rw [hL] at hW
              refine ⟨⟨i + 1, P ++ [mkLeaf L i], m + 1, by omega, by omega, by rw [List.length_append, hmm]; rfl, lmk_next h0 hP⟩, [0, 1, 2, 3, 4, 5, 6, 11], (by show mkTo L k - (i + 1) < mkTo L k - i; omega), ?_⟩
              refine ⟨rfl, by decide, by repeat' (first | exact trivial | exact hF | exact hT | exact congrArg (CV.int .i64) hF | exact congrArg (CV.int .i64) hT | exact hW | exact rfl | apply And.intro | exact (fun _ _ _ _ => Cell.le_refl _) | (intro i hi; rfl) | (intro i hi; exact absurd hi (Nat.not_lt_zero _))), ?_⟩
              repeat' (first | exact trivial | exact hF | exact hT | exact congrArg (CV.int .i64) hF | exact congrArg (CV.int .i64) hT | exact hW | exact rfl | apply And.intro | exact (fun _ _ _ _ => Cell.le_refl _) | (intro i hi; rfl) | (intro i hi; exact absurd hi (Nat.not_lt_zero _)))
            · have h : ¬ (i : Int) < ((mkTo L k : Nat) : Int) := of_decide_eq_false (p := (i : Int) < ((mkTo L k : Nat) : Int)) h
              have ei : i = mkTo L k := by omega
              have hPm : P = mkL L k := by rw [hP, ei]; exact eM.symm
              rw [eC, ← hPm]
              refine ⟨[7], [0, 1, 7], ⟨?fzYA, rfl, (by repeat' (first | exact trivial | exact rfl | apply And.intro | exact (fun _ _ _ _ => Cell.le_refl _) | (intro i hi; rfl) | (intro i hi; exact absurd hi (Nat.not_lt_zero _)))), (by show List.Nodup []; exact List.nodup_nil), rfl, ?hhYA⟩⟩
              case fzYA =>
                refine ⟨fun i j hi hj => ?_, trivial⟩
                rcases four hj with rfl | rfl | rfl | rfl
                · trivial
                · trivial
                · trivial
                · exact rfl
              case hhYA =>
                repeat' (first | exact trivial | exact rfl | apply And.intro)
                · exact hmm.symm
                · exact fun _ _ _ _ => Cell.le_refl _
        · refine Need.mk hSm fun _ => ?_
          refine Runs.nilCellE 6 1 (.orow 115 4 0 (leafG true [])) rfl rfl rfl ?_
          show Runs Tryd.prog 2 (.loop _) _ _
          refine loop_ruleR (N := env (lft Tryd.prog 2) 0 .std tbMk [(18, appFn [] [(63, 2)] sGood), (83, appFn [] [] sSea), (79, appFn [0] [(63, 2)] sSums), (85, appFn [0] [(24, 32)] sWay)] [(4, [(0, true), (1, true), (2, true), (3, true), (4, true), (5, true), (6, true), (7, true), (8, true), (9, true)]), (5, [(0, true), (1, true), (2, true), (3, true), (4, true), (5, true), (6, true), (7, true), (8, true), (9, true), (10, true), (11, true), (12, true)]), (7, [(9999, true), (0, true), (1, true), (2, true), (3, true), (3004, false), (5, false), (6, false), (7, true), (2999, false), (5, false), (4, false), (6, false), (7, true), (2999, false)]), (11, [(2007, false), (0, true), (1, true), (2, true), (3, true), (4, true), (5, true), (6, true), (7, true), (8, true), (9, true), (10, true), (11, true), (12, true), (13, true), (14, true), (15, false), (16, true), (17, false), (18, false), (1019, false), (19, true), (20, false)])]) rfl tbMk_ok hC (fun c st K _ h => h) (by kernel_rfl) [0] (X := LMk L (mkFrom L k) (mkTo L k))
            (S := fun x => ⟨[.c (.row 1), .c (.str k), .c (.ptr 2 0), .c (.ptr 3 0), .c (.ptr 4 0), .any, .any, .c (.int .i64 ((mkTo L k : Nat) : Int)), .c (.ptr 5 0), .c (.row 6), .c (.int .i64 (x.i : Int))] ++ List.replicate 62 .any, [.glob 0 1 64 (fun i => [.int .u32 (kOf i)]), .elems 63 2 n (prG L), .cells 31 [.row 1], .cells 9 [.str k], .cells 27 [.int .i64 0, .val (.slice none 0 0)], .cells 27 [.int .i64 (n : Int), .row 7], .row 24 32 n (lfG L), .orow 115 4 x.m (leafG true x.P)]⟩) (μ := fun x => mkTo L k - x.i) ⟨mkFrom L k, [], 0, Nat.le_refl _, mkFrom_le.1, rfl, by rw [Nat.sub_self]; rfl⟩ (by kernel_rfl) [0, 1, 2, 3, 4, 6, 8, 9] ?h0YB ?rdYB
          case h0YB =>
            refine ⟨rfl, by decide, ?_, ?_⟩ <;> repeat' (first | exact trivial | exact hF | exact hT | exact congrArg (CV.int .i64) hF | exact congrArg (CV.int .i64) hT | exact hW | exact rfl | apply And.intro | exact (fun _ _ _ _ => Cell.le_refl _) | (intro i hi; rfl) | (intro i hi; exact absurd hi (Nat.not_lt_zero _)))
          case rdYB =>
            rintro ⟨i, P, m, h0, h1, hmm, hP⟩
            unfold sGood sSea sSums sWay
            generalize hg0 : (List.length : List PP → Nat) = g0
            generalize hg1 : (List.length : List (Nat → Int) → Nat) = g1
            generalize hL : lft Tryd.prog _ = L
            generalize hA : Arith.std = A
            set_option cbv.maxSteps 4000000 in cbv
            subst hA hg0 hg1 hL
            refine Ife.mk (fun h => ?_) (fun h => ?_)
            · have h : (i : Int) < ((mkTo L k : Nat) : Int) := of_decide_eq_true (p := (i : Int) < ((mkTo L k : Nat) : Int)) h
              have hib : i < mkTo L k := Int.ofNat_lt.mp h
              have q1 : 0 ≤ (i : Int) ∧ (i : Int) < (n : Int) := by omega
              have q2 : (i : Int).toNat < n := by omega
              have hml : m ≤ n := by
                have := congrArg List.length hP
                rw [List.length_map, List.length_range'] at this
                omega
              refine Need.mk q1 fun _ => Need.mk q2 fun _ => Need.mk q1 fun _ => Need.mk q2 fun _ => ?_
              refine Need.mk ⟨ksAt_self, rfl, rfl, lfG_hash L n, by omega⟩ fun _ => ?_
              refine Need.mk ⟨show m + 1 ≤ maxLen ∧ (m + 1) * 64 ≤ 140737488355328 from ⟨by unfold maxLen; omega, by omega⟩, trivial⟩ fun _ => ?_
              refine Need.mk (by show fitStd .i64 ((i : Int) + 1); unfold fitStd; omega) fun _ => ?_
              have hW := leafG_way (L := L) (i := i) hmm (by omega)
              rw [hL] at hW
              refine ⟨⟨i + 1, P ++ [mkLeaf L i], m + 1, by omega, by omega, by rw [List.length_append, hmm]; rfl, lmk_next h0 hP⟩, [0, 1, 2, 3, 4, 5, 6, 11], (by show mkTo L k - (i + 1) < mkTo L k - i; omega), ?_⟩
              refine ⟨rfl, by decide, by repeat' (first | exact trivial | exact hF | exact hT | exact congrArg (CV.int .i64) hF | exact congrArg (CV.int .i64) hT | exact hW | exact rfl | apply And.intro | exact (fun _ _ _ _ => Cell.le_refl _) | (intro i hi; rfl) | (intro i hi; exact absurd hi (Nat.not_lt_zero _))), ?_⟩
              repeat' (first | exact trivial | exact hF | exact hT | exact congrArg (CV.int .i64) hF | exact congrArg (CV.int .i64) hT | exact hW | exact rfl | apply And.intro | exact (fun _ _ _ _ => Cell.le_refl _) | (intro i hi; rfl) | (intro i hi; exact absurd hi (Nat.not_lt_zero _)))
            · have h : ¬ (i : Int) < ((mkTo L k : Nat) : Int) := of_decide_eq_false (p := (i : Int) < ((mkTo L k : Nat) : Int)) h
              have ei : i = mkTo L k := by omega
              have hPm : P = mkL L k := by rw [hP, ei]; exact eM.symm
              rw [eC, ← hPm]
              refine ⟨[7], [0, 1, 7], ⟨?fzYB, rfl, (by repeat' (first | exact trivial | exact rfl | apply And.intro | exact (fun _ _ _ _ => Cell.le_refl _) | (intro i hi; rfl) | (intro i hi; exact absurd hi (Nat.not_lt_zero _)))), (by show List.Nodup []; exact List.nodup_nil), rfl, ?hhYB⟩⟩
              case fzYB =>
                refine ⟨fun i j hi hj => ?_, trivial⟩
                rcases four hj with rfl | rfl | rfl | rfl
                · trivial
                · trivial
                · trivial
                · exact rfl
              case hhYB =>
                repeat' (first | exact trivial | exact rfl | apply And.intro)
                · exact hmm.symm
                · exact fun _ _ _ _ => Cell.le_refl _
    · have h : ¬ (findI L k : Int) < (n : Int) := of_decide_eq_false (p := (findI L k : Int) < (n : Int)) h
      have hfb : ¬ findB L k = true := fun q => by have := (findB_eq q).1; omega
      have hF : max ((findI L k : Int) - 1) 0 = ((mkFrom L k : Nat) : Int) := by unfold mkFrom; rw [if_neg hfb]; omega
      have hSm : sumsPre 0 1 64 (fun i => [.int .u32 (kOf i)]) 63 2 n (prG L) := ⟨ksAt_self, ⟨rfl, rfl, prAt_prG n L, hm⟩, by rw [ePR]; exact hz⟩
      refine Both.mk ?_ ?_
      · refine Need.mk hSm fun _ => ?_
        refine Runs.nilCellE 8 1 (.orow 115 4 0 (leafG true [])) rfl rfl rfl ?_
        show Runs Tryd.prog 2 (.loop _) _ _
        refine loop_ruleR (N := env (lft Tryd.prog 2) 0 .std tbMk [(18, appFn [] [(63, 2)] sGood), (83, appFn [] [] sSea), (79, appFn [0] [(63, 2)] sSums), (85, appFn [0] [(24, 32)] sWay)] [(4, [(0, true), (1, true), (2, true), (3, true), (4, true), (5, true), (6, true), (7, true), (8, true), (9, true)]), (5, [(0, true), (1, true), (2, true), (3, true), (4, true), (5, true), (6, true), (7, true), (8, true), (9, true), (10, true), (11, true), (12, true)]), (7, [(9999, true), (0, true), (1, true), (2, true), (3, true), (3004, false), (5, false), (6, false), (7, true), (2999, false), (5, false), (4, false), (6, false), (7, true), (2999, false)]), (11, [(2007, false), (0, true), (1, true), (2, true), (3, true), (4, true), (5, true), (6, true), (7, true), (8, true), (9, true), (10, true), (11, true), (12, true), (13, true), (14, true), (15, false), (16, true), (17, false), (18, false), (1019, false), (19, true), (20, false)])]) rfl tbMk_ok hC (fun c st K _ h => h) (by kernel_rfl) [0] (X := LMk L (mkFrom L k) (mkTo L k))
          (S := fun x => ⟨[.c (.row 1), .c (.str k), .c (.ptr 2 0), .c (.ptr 3 0), .c (.ptr 4 0), .any, .any, .c (.int .i64 ((mkTo L k : Nat) : Int)), .c (.ptr 5 0), .c (.row 6), .c (.int .i64 (x.i : Int))] ++ List.replicate 62 .any, [.glob 0 1 64 (fun i => [.int .u32 (kOf i)]), .elems 63 2 n (prG L), .cells 31 [.row 1], .cells 9 [.str k], .cells 27 [.int .i64 0, .val (.slice none 0 0)], .cells 27 [.int .i64 (n : Int), .row 7], .row 24 32 n (lfG L), .orow 115 4 x.m (leafG true x.P)]⟩) (μ := fun x => mkTo L k - x.i) ⟨mkFrom L k, [], 0, Nat.le_refl _, mkFrom_le.1, rfl, by rw [Nat.sub_self]; rfl⟩ (by kernel_rfl) [0, 1, 2, 3, 4, 8, 7, 9] ?h0ZA ?rdZA
        case h0ZA =>
          refine ⟨rfl, by decide, ?_, ?_⟩ <;> repeat' (first | exact trivial | exact hF | exact hT | exact congrArg (CV.int .i64) hF | exact congrArg (CV.int .i64) hT | exact hW | exact rfl | apply And.intro | exact (fun _ _ _ _ => Cell.le_refl _) | (intro i hi; rfl) | (intro i hi; exact absurd hi (Nat.not_lt_zero _)))
        case rdZA =>
          rintro ⟨i, P, m, h0, h1, hmm, hP⟩
          unfold sGood sSea sSums sWay
          generalize hg0 : (List.length : List PP → Nat) = g0
          generalize hg1 : (List.length : List (Nat → Int) → Nat) = g1
          generalize hL : lft Tryd.prog _ = L
          generalize hA : Arith.std = A
          set_option cbv.maxSteps 4000000 in cbv
          subst hA hg0 hg1 hL
          refine Ife.mk (fun h => ?_) (fun h => ?_)
          · have h : (i : Int) < ((mkTo L k : Nat) : Int) := of_decide_eq_true (p := (i : Int) < ((mkTo L k : Nat) : Int)) h
            have hib : i < mkTo L k := Int.ofNat_lt.mp h
            have q1 : 0 ≤ (i : Int) ∧ (i : Int) < (n : Int) := by omega
            have q2 : (i : Int).toNat < n := by omega
            have hml : m ≤ n := by
              have := congrArg List.length hP
              rw [List.length_map, List.length_range'] at this
              omega
            refine Need.mk q1 fun _ => Need.mk q2 fun _ => Need.mk q1 fun _ => Need.mk q2 fun _ => ?_
            refine Need.mk ⟨ksAt_self, rfl, rfl, lfG_hash L n, by omega⟩ fun _ => ?_
            refine Need.mk ⟨show m + 1 ≤ maxLen ∧ (m + 1) * 64 ≤ 140737488355328 from ⟨by unfold maxLen; omega, by omega⟩, trivial⟩ fun _ => ?_
            refine Need.mk (by show fitStd .i64 ((i : Int) + 1); unfold fitStd; omega) fun _ => ?_
            have hW := leafG_way (L := L) (i := i) hmm (by omega)
            rw [hL] at hW
            refine ⟨⟨i + 1, P ++ [mkLeaf L i], m + 1, by omega, by omega, by rw [List.length_append, hmm]; rfl, lmk_next h0 hP⟩, [0, 1, 2, 3, 4, 5, 6, 11], (by show mkTo L k - (i + 1) < mkTo L k - i; omega), ?_⟩
            refine ⟨rfl, by decide, by repeat' (first | exact trivial | exact hF | exact hT | exact congrArg (CV.int .i64) hF | exact congrArg (CV.int .i64) hT | exact hW | exact rfl | apply And.intro | exact (fun _ _ _ _ => Cell.le_refl _) | (intro i hi; rfl) | (intro i hi; exact absurd hi (Nat.not_lt_zero _))), ?_⟩
            repeat' (first | exact trivial | exact hF | exact hT | exact congrArg (CV.int .i64) hF | exact congrArg (CV.int .i64) hT | exact hW | exact rfl | apply And.intro | exact (fun _ _ _ _ => Cell.le_refl _) | (intro i hi; rfl) | (intro i hi; exact absurd hi (Nat.not_lt_zero _)))
          · have h : ¬ (i : Int) < ((mkTo L k : Nat) : Int) := of_decide_eq_false (p := (i : Int) < ((mkTo L k : Nat) : Int)) h
            have ei : i = mkTo L k := by omega
            have hPm : P = mkL L k := by rw [hP, ei]; exact eM.symm
            rw [eC, ← hPm]
            refine ⟨[7], [0, 1, 7], ⟨?fzZA, rfl, (by repeat' (first | exact trivial | exact rfl | apply And.intro | exact (fun _ _ _ _ => Cell.le_refl _) | (intro i hi; rfl) | (intro i hi; exact absurd hi (Nat.not_lt_zero _)))), (by show List.Nodup []; exact List.nodup_nil), rfl, ?hhZA⟩⟩
            case fzZA =>
              refine ⟨fun i j hi hj => ?_, trivial⟩
              rcases four hj with rfl | rfl | rfl | rfl
              · trivial
              · trivial
              · trivial
              · exact rfl
            case hhZA =>
              repeat' (first | exact trivial | exact rfl | apply And.intro)
              · exact hmm.symm
              · exact fun _ _ _ _ => Cell.le_refl _
      · refine Need.mk hSm fun _ => ?_
        refine Runs.nilCellE 6 1 (.orow 115 4 0 (leafG true [])) rfl rfl rfl ?_
        show Runs Tryd.prog 2 (.loop _) _ _
        refine loop_ruleR (N := env (lft Tryd.prog 2) 0 .std tbMk [(18, appFn [] [(63, 2)] sGood), (83, appFn [] [] sSea), (79, appFn [0] [(63, 2)] sSums), (85, appFn [0] [(24, 32)] sWay)] [(4, [(0, true), (1, true), (2, true), (3, true), (4, true), (5, true), (6, true), (7, true), (8, true), (9, true)]), (5, [(0, true), (1, true), (2, true), (3, true), (4, true), (5, true), (6, true), (7, true), (8, true), (9, true), (10, true), (11, true), (12, true)]), (7, [(9999, true), (0, true), (1, true), (2, true), (3, true), (3004, false), (5, false), (6, false), (7, true), (2999, false), (5, false), (4, false), (6, false), (7, true), (2999, false)]), (11, [(2007, false), (0, true), (1, true), (2, true), (3, true), (4, true), (5, true), (6, true), (7, true), (8, true), (9, true), (10, true), (11, true), (12, true), (13, true), (14, true), (15, false), (16, true), (17, false), (18, false), (1019, false), (19, true), (20, false)])]) rfl tbMk_ok hC (fun c st K _ h => h) (by kernel_rfl) [0] (X := LMk L (mkFrom L k) (mkTo L k))
          (S := fun x => ⟨[.c (.row 1), .c (.str k), .c (.ptr 2 0), .c (.ptr 3 0), .c (.ptr 4 0), .any, .any, .c (.int .i64 ((mkTo L k : Nat) : Int)), .c (.ptr 5 0), .c (.row 6), .c (.int .i64 (x.i : Int))] ++ List.replicate 62 .any, [.glob 0 1 64 (fun i => [.int .u32 (kOf i)]), .elems 63 2 n (prG L), .cells 31 [.row 1], .cells 9 [.str k], .cells 27 [.int .i64 0, .val (.slice none 0 0)], .cells 27 [.int .i64 (n : Int), .row 7], .row 24 32 n (lfG L), .orow 115 4 x.m (leafG true x.P)]⟩) (μ := fun x => mkTo L k - x.i) ⟨mkFrom L k, [], 0, Nat.le_refl _, mkFrom_le.1, rfl, by rw [Nat.sub_self]; rfl⟩ (by kernel_rfl) [0, 1, 2, 3, 4, 6, 8, 9] ?h0ZB ?rdZB
        case h0ZB =>
          refine ⟨rfl, by decide, ?_, ?_⟩ <;> repeat' (first | exact trivial | exact hF | exact hT | exact congrArg (CV.int .i64) hF | exact congrArg (CV.int .i64) hT | exact hW | exact rfl | apply And.intro | exact (fun _ _ _ _ => Cell.le_refl _) | (intro i hi; rfl) | (intro i hi; exact absurd hi (Nat.not_lt_zero _)))
        case rdZB =>
          rintro ⟨i, P, m, h0, h1, hmm, hP⟩
          unfold sGood sSea sSums sWay
          generalize hg0 : (List.length : List PP → Nat) = g0
          generalize hg1 : (List.length : List (Nat → Int) → Nat) = g1
          generalize hL : lft Tryd.prog _ = L
          generalize hA : Arith.std = A
          set_option cbv.maxSteps 4000000 in cbv
          subst hA hg0 hg1 hL
          refine Ife.mk (fun h => ?_) (fun h => ?_)
          · have h : (i : Int) < ((mkTo L k : Nat) : Int) := of_decide_eq_true (p := (i : Int) < ((mkTo L k : Nat) : Int)) h
            have hib : i < mkTo L k := Int.ofNat_lt.mp h
            have q1 : 0 ≤ (i : Int) ∧ (i : Int) < (n : Int) := by omega
            have q2 : (i : Int).toNat < n := by omega
            have hml : m ≤ n := by
              have := congrArg List.length hP
              rw [List.length_map, List.length_range'] at this
              omega
            refine Need.mk q1 fun _ => Need.mk q2 fun _ => Need.mk q1 fun _ => Need.mk q2 fun _ => ?_
            refine Need.mk ⟨ksAt_self, rfl, rfl, lfG_hash L n, by omega⟩ fun _ => ?_
            refine Need.mk ⟨show m + 1 ≤ maxLen ∧ (m + 1) * 64 ≤ 140737488355328 from ⟨by unfold maxLen; omega, by omega⟩, trivial⟩ fun _ => ?_
            refine Need.mk (by show fitStd .i64 ((i : Int) + 1); unfold fitStd; omega) fun _ => ?_
            have hW := leafG_way (L := L) (i := i) hmm (by omega)
            rw [hL] at hW
            refine ⟨⟨i + 1, P ++ [mkLeaf L i], m + 1, by omega, by omega, by rw [List.length_append, hmm]; rfl, lmk_next h0 hP⟩, [0, 1, 2, 3, 4, 5, 6, 11], (by show mkTo L k - (i + 1) < mkTo L k - i; omega), ?_⟩
            refine ⟨rfl, by decide, by repeat' (first | exact trivial | exact hF | exact hT | exact congrArg (CV.int .i64) hF | exact congrArg (CV.int .i64) hT | exact hW | exact rfl | apply And.intro | exact (fun _ _ _ _ => Cell.le_refl _) | (intro i hi; rfl) | (intro i hi; exact absurd hi (Nat.not_lt_zero _))), ?_⟩
            repeat' (first | exact trivial | exact hF | exact hT | exact congrArg (CV.int .i64) hF | exact congrArg (CV.int .i64) hT | exact hW | exact rfl | apply And.intro | exact (fun _ _ _ _ => Cell.le_refl _) | (intro i hi; rfl) | (intro i hi; exact absurd hi (Nat.not_lt_zero _)))
          · have h : ¬ (i : Int) < ((mkTo L k : Nat) : Int) := of_decide_eq_false (p := (i : Int) < ((mkTo L k : Nat) : Int)) h
            have ei : i = mkTo L k := by omega
            have hPm : P = mkL L k := by rw [hP, ei]; exact eM.symm
            rw [eC, ← hPm]
            refine ⟨[7], [0, 1, 7], ⟨?fzZB, rfl, (by repeat' (first | exact trivial | exact rfl | apply And.intro | exact (fun _ _ _ _ => Cell.le_refl _) | (intro i hi; rfl) | (intro i hi; exact absurd hi (Nat.not_lt_zero _)))), (by show List.Nodup []; exact List.nodup_nil), rfl, ?hhZB⟩⟩
            case fzZB =>
              refine ⟨fun i j hi hj => ?_, trivial⟩
              rcases four hj with rfl | rfl | rfl | rfl
              · trivial
              · trivial
              · trivial
              · exact rfl
            case hhZB =>
              repeat' (first | exact trivial | exact rfl | apply And.intro)
              · exact hmm.symm
              · exact fun _ _ _ _ => Cell.le_refl _

end Go.Proofs.YthomoliklfmnkaaDoor.Vx
end
