/- Leaves and proofs read, by the walker. -/
import Derived.Test.YtcgoaicifjndpaaM20
import Derived.Test.YtcgoaicifjndpaaM12
section
namespace Go.Proofs.Ytcgoaicifjndpaa.Vx
open Go.RowKit
set_option linter.unusedVariables false
set_option linter.unusedSimpArgs false
def tbR : Tbl where
  T :=
    (3, ⟨1, false, [.int .i64 (0)], .int .i64, 8⟩) ::
    (4, ⟨1, false, [.ff], .bool, 1⟩) ::
    (9, ⟨1, false, [.str []], .str, 16⟩) ::
    (5, ⟨1, false, [.int .u8 (0)], .int .u8, 1⟩) ::
    (188, ⟨1, false, [.val (.slice none 0 0)], .slice 5, 24⟩) ::
    (50, ⟨1, false, [.int .i64 (0)], .int .i64, 8⟩) ::
    (140, ⟨4, true, [.str [], .str [], .int .i64 (0), .val (.slice none 0 0)], .struct [(0, (1, false)), (1, (1, false)), (2, (1, false)), (3, (1, false))], 64⟩) ::
    (70, ⟨1, false, [.val (.slice none 0 0)], .slice 140, 24⟩) ::
    (72, ⟨2, true, [.int .i64 (0), .val (.slice none 0 0)], .struct [(0, (1, false)), (1, (1, false))], 32⟩) ::
    (63, ⟨32, true, [.int .u8 (0), .int .u8 (0), .int .u8 (0), .int .u8 (0), .int .u8 (0), .int .u8 (0), .int .u8 (0), .int .u8 (0), .int .u8 (0), .int .u8 (0), .int .u8 (0), .int .u8 (0), .int .u8 (0), .int .u8 (0), .int .u8 (0), .int .u8 (0), .int .u8 (0), .int .u8 (0), .int .u8 (0), .int .u8 (0), .int .u8 (0), .int .u8 (0), .int .u8 (0), .int .u8 (0), .int .u8 (0), .int .u8 (0), .int .u8 (0), .int .u8 (0), .int .u8 (0), .int .u8 (0), .int .u8 (0), .int .u8 (0)], .array 32 5, 32⟩) ::
    (138, ⟨1, false, [.val (.slice none 0 0)], .slice 63, 24⟩) ::
    (74, ⟨50, true, [.int .i64 (0), .int .i64 (0), .int .i64 (0), .int .u8 (0), .int .u8 (0), .int .u8 (0), .int .u8 (0), .int .u8 (0), .int .u8 (0), .int .u8 (0), .int .u8 (0), .int .u8 (0), .int .u8 (0), .int .u8 (0), .int .u8 (0), .int .u8 (0), .int .u8 (0), .int .u8 (0), .int .u8 (0), .int .u8 (0), .int .u8 (0), .int .u8 (0), .int .u8 (0), .int .u8 (0), .int .u8 (0), .int .u8 (0), .int .u8 (0), .int .u8 (0), .int .u8 (0), .int .u8 (0), .int .u8 (0), .int .u8 (0), .int .u8 (0), .int .u8 (0), .int .u8 (0), .str [], .int .i64 (0), .str [], .int .i64 (0), .int .i64 (0), .str [], .int .i64 (0), .int .i64 (0), .str [], .int .i64 (0), .int .i64 (0), .int .i64 (0), .val (.slice none 0 0), .int .i64 (0), .val (.slice none 0 0)], .struct [(0, (1, false)), (1, (34, true)), (35, (8, true)), (43, (1, false)), (44, (1, false)), (45, (1, false)), (46, (2, true)), (48, (2, true))], 240⟩) ::
    (59, ⟨1, false, [.val (.slice none 0 0)], .slice 74, 24⟩) ::
    (65, ⟨34, true, [.int .i64 (0), .int .i64 (0), .int .u8 (0), .int .u8 (0), .int .u8 (0), .int .u8 (0), .int .u8 (0), .int .u8 (0), .int .u8 (0), .int .u8 (0), .int .u8 (0), .int .u8 (0), .int .u8 (0), .int .u8 (0), .int .u8 (0), .int .u8 (0), .int .u8 (0), .int .u8 (0), .int .u8 (0), .int .u8 (0), .int .u8 (0), .int .u8 (0), .int .u8 (0), .int .u8 (0), .int .u8 (0), .int .u8 (0), .int .u8 (0), .int .u8 (0), .int .u8 (0), .int .u8 (0), .int .u8 (0), .int .u8 (0), .int .u8 (0), .int .u8 (0)], .struct [(0, (1, false)), (1, (1, false)), (2, (32, true))], 48⟩) ::
    (69, ⟨8, true, [.str [], .int .i64 (0), .str [], .int .i64 (0), .int .i64 (0), .str [], .int .i64 (0), .int .i64 (0)], .struct [(0, (2, true)), (2, (2, true)), (4, (1, false)), (5, (1, false)), (6, (1, false)), (7, (1, false))], 88⟩) ::
    (67, ⟨2, true, [.str [], .int .i64 (0)], .struct [(0, (1, false)), (1, (1, false))], 24⟩) ::
    (196, ⟨3, true, [.str [], .int .i64 (0), .int .i64 (0)], .struct [(0, (1, false)), (1, (1, false)), (2, (1, false))], 32⟩) ::
    (190, ⟨2, true, [.val (.slice none 0 0), .ff], .struct [(0, (1, false)), (1, (1, false))], 32⟩) ::
    (166, ⟨3, true, [.str [], .int .i64 (0), .int .i64 (0)], .struct [(0, (1, false)), (1, (1, false)), (2, (1, false))], 32⟩) ::
    (153, ⟨1, false, [.val (.pointer none)], .ptr 196, 8⟩) ::
    (147, ⟨1, false, [.val (.pointer none)], .ptr 190, 8⟩) ::
    []
  F :=
    (63, [0, 0, 0, 0, 0, 0, 0, 0, 0, 0, 0, 0, 0, 0, 0, 0, 0, 0, 0, 0, 0, 0, 0, 0, 0, 0, 0, 0, 0, 0, 0, 0]) ::
    (69, [1, 0, 1, 0, 0, 1, 0, 0]) ::
    (65, [0, 0, 0, 0, 0, 0, 0, 0, 0, 0, 0, 0, 0, 0, 0, 0, 0, 0, 0, 0, 0, 0, 0, 0, 0, 0, 0, 0, 0, 0, 0, 0, 0, 0]) ::
    []

theorem tbR_ok : tbR.Ok Try.prog where
  T :=
    TblOk.cons (by kernel_rfl) <|
    TblOk.cons (by kernel_rfl) <|
    TblOk.cons (by kernel_rfl) <|
    TblOk.cons (by kernel_rfl) <|
    TblOk.cons (by kernel_rfl) <|
    TblOk.cons (by kernel_rfl) <|
    TblOk.cons (by kernel_rfl) <|
    TblOk.cons (by kernel_rfl) <|
    TblOk.cons (by kernel_rfl) <|
    TblOk.cons (by kernel_rfl) <|
    TblOk.cons (by kernel_rfl) <|
    TblOk.cons (by kernel_rfl) <|
    TblOk.cons (by kernel_rfl) <|
    TblOk.cons (by kernel_rfl) <|
    TblOk.cons (by kernel_rfl) <|
    TblOk.cons (by kernel_rfl) <|
    TblOk.cons (by kernel_rfl) <|
    TblOk.cons (by kernel_rfl) <|
    TblOk.cons (by kernel_rfl) <|
    TblOk.cons (by kernel_rfl) <|
    TblOk.cons (by kernel_rfl) <|
    TblOk.nil _
  F :=
    FlatsOk.cons (FlatOk.of (D := .array 32 5) 6 (by decide) (by kernel_rfl) (by kernel_rfl) rfl (by kernel_rfl)) <|
    FlatsOk.cons (FlatOk.of (D := .struct (Try.prog.fieldsOf 69)) 6 (by decide) (by kernel_rfl) (by kernel_rfl) rfl (by kernel_rfl)) <|
    FlatsOk.cons (FlatOk.of (D := .struct (Try.prog.fieldsOf 65)) 6 (by decide) (by kernel_rfl) (by kernel_rfl) rfl (by kernel_rfl)) <|
    FlatsOk.nil _

/-- How many sums there are; the evaluation does not go into it. -/
def lenH (p : List (List Int)) : Nat := p.length
theorem okS_hash {l : List UInt8} {s : Int × Int} (h : okS l s) : okS l (rHash l s).2 := ok_hash h
theorem okS_count {l : List UInt8} {s : Int × Int} {hi : Int} (h : okS l s) : okS l (rCount hi l s).2 := ok_count h
theorem cnt_rng (l : List UInt8) (a b hi : Int) (h : 0 ≤ hi) : 0 ≤ (countS l a b hi).1 ∧ (countS l a b hi).1 ≤ hi := by
  have := Leb.next_range l a
  unfold countS
  split
  · exact ⟨by dsimp only; omega, by dsimp only; omega⟩
  · split
    · exact ⟨by dsimp only; omega, by dsimp only; omega⟩
    · split
      · exact ⟨by dsimp only; omega, by dsimp only; omega⟩
      · dsimp only; omega
theorem repR_succ {α : Type} {r : List UInt8 → Int × Int → α × Int × Int} {n : Nat} {l : List UInt8} {s : Int × Int} : repR r (n + 1) l s = ((r l s).1 :: (repR r n l (r l s).2).1, (repR r n l (r l s).2).2) := rfl
/-- n things are being read; the first of them are. -/
structure LRep {α : Type} (r : List UInt8 → Int × Int → α × Int × Int) (l : List UInt8) (N : Nat) (s0 : Int × Int) where
  i : Int
  n : Nat
  a : Int
  b : Int
  p : List α
  hn : i = (n : Int)
  h1 : n ≤ N
  hp : p.length = n
  ok : okRd l a b
  he : repR r N l s0 = (p ++ (repR r (N - n) l (a, b)).1, (repR r (N - n) l (a, b)).2)
theorem rep_next {α : Type} {r : List UInt8 → Int × Int → α × Int × Int} {l : List UInt8} {N : Nat} {s0 : Int × Int} {n : Nat} {a b : Int} {p : List α} (h1 : n < N) (he : repR r N l s0 = (p ++ (repR r (N - n) l (a, b)).1, (repR r (N - n) l (a, b)).2)) : repR r N l s0 = ((p ++ [(r l (a, b)).1]) ++ (repR r (N - (n + 1)) l (r l (a, b)).2).1, (repR r (N - (n + 1)) l (r l (a, b)).2).2) := by
  obtain ⟨m, hm⟩ : ∃ m, N - n = m + 1 := ⟨N - n - 1, by omega⟩
  rw [hm, repR_succ] at he
  rw [show N - (n + 1) = m by omega, he]
  simp
theorem rep_end {α : Type} {r : List UInt8 → Int × Int → α × Int × Int} {l : List UInt8} {N : Nat} {s0 : Int × Int} {n : Nat} {a b : Int} {p : List α} (h1 : N ≤ n) (he : repR r N l s0 = (p ++ (repR r (N - n) l (a, b)).1, (repR r (N - n) l (a, b)).2)) : repR r N l s0 = (p, (a, b)) := by
  rw [show N - n = 0 by omega] at he
  rw [he]
  simp [repR]
theorem pG_push {p : List (List Int)} {n : Nat} (hn : p.length = n) (m : List UInt8) : ∀ i, i < n + 1 → pushG n (pG p) (h32 (byteI m)) i = pG (p ++ [numsOf m]) i := fun i hi => by
  subst hn
  unfold pushG
  cases hb : Nat.blt i p.length with
  | true =>
    rw [Nat.blt_eq] at hb
    show pG p i = _
    unfold pG
    rw [List.getD_eq_getElem?_getD, List.getD_eq_getElem?_getD, List.getElem?_append_left hb]
  | false =>
    have hb : ¬ i < p.length := fun h => by rw [← Nat.blt_eq, hb] at h; cases h
    obtain rfl : i = p.length := by omega
    show h32 (byteI m) = pG (p ++ [numsOf m]) p.length
    unfold pG
    rw [show (p ++ [numsOf m]).getD p.length [] = numsOf m by simp [List.getD]]
    simp only [h32, nums_get m (show 0 < 32 by decide), nums_get m (show 1 < 32 by decide), nums_get m (show 2 < 32 by decide), nums_get m (show 3 < 32 by decide), nums_get m (show 4 < 32 by decide), nums_get m (show 5 < 32 by decide), nums_get m (show 6 < 32 by decide), nums_get m (show 7 < 32 by decide), nums_get m (show 8 < 32 by decide), nums_get m (show 9 < 32 by decide), nums_get m (show 10 < 32 by decide), nums_get m (show 11 < 32 by decide), nums_get m (show 12 < 32 by decide), nums_get m (show 13 < 32 by decide), nums_get m (show 14 < 32 by decide), nums_get m (show 15 < 32 by decide), nums_get m (show 16 < 32 by decide), nums_get m (show 17 < 32 by decide), nums_get m (show 18 < 32 by decide), nums_get m (show 19 < 32 by decide), nums_get m (show 20 < 32 by decide), nums_get m (show 21 < 32 by decide), nums_get m (show 22 < 32 by decide), nums_get m (show 23 < 32 by decide), nums_get m (show 24 < 32 by decide), nums_get m (show 25 < 32 by decide), nums_get m (show 26 < 32 by decide), nums_get m (show 27 < 32 by decide), nums_get m (show 28 < 32 by decide), nums_get m (show 29 < 32 by decide), nums_get m (show 30 < 32 by decide), nums_get m (show 31 < 32 by decide)]
def sRdLf : SpecF
  | [.c (.ptr 0 0)], [.cells t [.str l, .int .i64 a, .int .i64 b]] => some (t = 196 ∧ okRd l a b, .agg [.str (rLeaf l (a, b)).1.k, .str (rLeaf l (a, b)).1.v, .int .i64 (rLeaf l (a, b)).1.i, .row 1], [.cells 196 [.str l, .int .i64 (rLeaf l (a, b)).2.1, .int .i64 (rLeaf l (a, b)).2.2], .row 63 32 (lenH (rLeaf l (a, b)).1.p) (pG (rLeaf l (a, b)).1.p)])
  | _, _ => none

set_option maxRecDepth 100000 in
set_option maxHeartbeats 8000000 in
theorem rLeafP : Fn Try.prog 192 [] [] sRdLf := by
  have hC : CtsOk Try.prog [(135, appMeth 196 sRdText), (134, appMeth 196 sRdNum), (191, appMeth 196 sCount), (158, appMeth 196 sHash)] := CtsOk.cons (Meth.ct rdTextP) <| CtsOk.cons (Meth.ct rdNumP) <| CtsOk.cons (Meth.ct rdCountP) <| CtsOk.cons (Meth.ct rdHashP) <| CtsOk.nil _
  refine Fn.of (E := tbR) [] 0 [(7, [(2000, false), (2003, false), (0, true), (1, true), (2, true), (3, false), (4, false), (5, false), (6, true), (1007, false), (7, false)])] tbR_ok hC (by kernel_rfl) Try.func192 rfl rfl rfl (by kernel_rfl) (by kernel_rfl) 1 63 32 ?_ ?_
  · intro args h pre r h' hs
    unfold sRdLf at hs
    split at hs
    · cases hs; exact ⟨rfl, rfl, Nat.le_of_ble_eq_true rfl⟩
    · cases hs
  · intro args h pre r h' hs hp
    unfold sRdLf at hs
    split at hs
    rotate_left
    · cases hs
    rename_i t l a b
    cases hs
    obtain ⟨rfl, hok⟩ := hp
    refine ⟨[.cells 196 [.str l, .int .i64 a, .int .i64 b]], ⟨rfl, trivial⟩, ?_⟩
    unfold sRdText sRdNum sCount sHash
    generalize hL : lft Try.prog _ = L
    generalize ho0 : @pG = zo0, ho1 : @rHash = zo1, ho2 : @rLeaf = zo2, ho3 : @hashS = zo3, ho4 : @byteI = zo4, ho5 : @okRd = zo5, ho6 : @textS = zo6, ho7 : @numS = zo7, ho8 : @countS = zo8, ho9 : @lenH = zo9
    generalize hA : Arith.std = A
    cbv
    subst hA hL ho0 ho1 ho2 ho3 ho4 ho5 ho6 ho7 ho8 ho9
    have h1 := ok_text (hi := 160) hok
    have h2 := ok_text (hi := 64) h1
    have h3 := ok_num (lo := 0) (hi := 1073741824) h2
    have h4 := ok_count (hi := 30) h3
    refine Need.mk hok fun _ => ?_
    refine Need.mk h1 fun _ => ?_
    refine Need.mk h2 fun _ => ?_
    refine Need.mk h3 fun _ => ?_
    have hR : rLeaf l (a, b) = (⟨(textS l a b 160).1, (textS l (textS l a b 160).2.1 (textS l a b 160).2.2 64).1, (numS l (textS l (textS l a b 160).2.1 (textS l a b 160).2.2 64).2.1 (textS l (textS l a b 160).2.1 (textS l a b 160).2.2 64).2.2 0 1073741824).1, (repR rHash (countS l (numS l (textS l (textS l a b 160).2.1 (textS l a b 160).2.2 64).2.1 (textS l (textS l a b 160).2.1 (textS l a b 160).2.2 64).2.2 0 1073741824).2.1 (numS l (textS l (textS l a b 160).2.1 (textS l a b 160).2.2 64).2.1 (textS l (textS l a b 160).2.1 (textS l a b 160).2.2 64).2.2 0 1073741824).2.2 30).1.toNat l (countS l (numS l (textS l (textS l a b 160).2.1 (textS l a b 160).2.2 64).2.1 (textS l (textS l a b 160).2.1 (textS l a b 160).2.2 64).2.2 0 1073741824).2.1 (numS l (textS l (textS l a b 160).2.1 (textS l a b 160).2.2 64).2.1 (textS l (textS l a b 160).2.1 (textS l a b 160).2.2 64).2.2 0 1073741824).2.2 30).2).1⟩,
        (repR rHash (countS l (numS l (textS l (textS l a b 160).2.1 (textS l a b 160).2.2 64).2.1 (textS l (textS l a b 160).2.1 (textS l a b 160).2.2 64).2.2 0 1073741824).2.1 (numS l (textS l (textS l a b 160).2.1 (textS l a b 160).2.2 64).2.1 (textS l (textS l a b 160).2.1 (textS l a b 160).2.2 64).2.2 0 1073741824).2.2 30).1.toNat l (countS l (numS l (textS l (textS l a b 160).2.1 (textS l a b 160).2.2 64).2.1 (textS l (textS l a b 160).2.1 (textS l a b 160).2.2 64).2.2 0 1073741824).2.1 (numS l (textS l (textS l a b 160).2.1 (textS l a b 160).2.2 64).2.1 (textS l (textS l a b 160).2.1 (textS l a b 160).2.2 64).2.2 0 1073741824).2.2 30).2).2) := rfl
    clear h1 h2 h3
    generalize textS l a b 160 = t1 at *
    generalize textS l t1.2.1 t1.2.2 64 = t2 at *
    generalize numS l t2.2.1 t2.2.2 0 1073741824 = t3 at *
    have hrg := cnt_rng l t3.2.1 t3.2.2 30 (by decide)
    generalize countS l t3.2.1 t3.2.2 30 = t4 at *
    obtain ⟨N, A0, B0⟩ := t4
    dsimp only at *
    refine Runs.nilCell 2 3 63 32 (pG []) rfl rfl ?_
    show Runs Try.prog 1 (.loop _) _ _
    refine loop_ruleR (N := env (lft Try.prog 1) 0 .std tbR [(135, appMeth 196 sRdText), (134, appMeth 196 sRdNum), (191, appMeth 196 sCount), (158, appMeth 196 sHash)] [(7, [(2000, false), (2003, false), (0, true), (1, true), (2, true), (3, false), (4, false), (5, false), (6, true), (1007, false), (7, false)])]) rfl tbR_ok hC (fun c st K _ h => h) (by kernel_rfl) [] (X := LRep rHash l N.toNat (A0, B0))
      (S := fun x => ⟨[.c (.ptr 0 0), .any, .c (.ptr 1 0), .c (.ptr 2 0), .any, .any, .any, .any, .any, .any, .any, .any, .any, .any, .c (.int .i64 N), .c (.int .i64 x.i)] ++ List.replicate 10 .any, [.cells 196 [.str l, .int .i64 x.a, .int .i64 x.b], .cells 140 [.str [], .str [], .int .i64 0, .val (.slice none 0 0)], .cells 140 [.str t1.1, .str t2.1, .int .i64 t3.1, .row 3], .row 63 32 x.n (pG x.p)]⟩) (μ := fun x => N.toNat - x.n) ⟨0, 0, A0, B0, [], rfl, by omega, rfl, h4, rfl⟩ (by kernel_rfl) [0, 1, 2, 3] ?_ ?_
    · refine ⟨rfl, by decide, ?_, ?_⟩ <;> repeat' (first | exact trivial | exact rfl | apply And.intro | exact (fun _ _ _ _ => Cell.le_refl _) | (intro i hi; rfl) | (intro i hi; exact absurd hi (Nat.not_lt_zero _)))
    rintro ⟨i, n, a, b, p, hn, hnN, hp, hok, he⟩
    unfold sRdText sRdNum sCount sHash
    generalize hL : lft Try.prog _ = L
    try dsimp only
    generalize ho0 : @pG = zo0, ho1 : @rHash = zo1, ho2 : @rLeaf = zo2, ho3 : @hashS = zo3, ho4 : @byteI = zo4, ho5 : @okRd = zo5, ho6 : @textS = zo6, ho7 : @numS = zo7, ho8 : @countS = zo8, ho9 : @lenH = zo9
    generalize hA : Arith.std = A
    cbv
    subst hA hL ho0 ho1 ho2 ho3 ho4 ho5 ho6 ho7 ho8 ho9
    replace hn : i = @Nat.cast Int instNatCastInt n := hn
    replace hok : okRd l a b := hok
    refine Ife.mk (fun hlt => ?_) (fun hlt => ?_)
    · replace hlt : i < N := of_decide_eq_true (p := i < N) hlt
      refine Need.mk hok fun _ => ?_
      refine Need.mk (show n + 1 ≤ maxLen ∧ (n + 1) * 32 ≤ 140737488355328 from ⟨by unfold maxLen; omega, by omega⟩) fun _ => ?_
      refine Need.mk (by show fitStd .i64 (i + 1); unfold fitStd; omega) fun _ => ?_
      refine ⟨⟨i + 1, n + 1, (rHash l (a, b)).2.1, (rHash l (a, b)).2.2, p ++ [(rHash l (a, b)).1], by omega, by omega, by simp; omega, ok_hash hok, rep_next (by omega) he⟩, [0, 1, 2, 5], (by show N.toNat - (n + 1) < N.toNat - n; omega), ?_⟩
      refine ⟨rfl, by decide, by repeat' (first | exact trivial | exact rfl | apply And.intro | exact (fun _ _ _ _ => Cell.le_refl _) | (intro i hi; rfl) | (intro i hi; exact absurd hi (Nat.not_lt_zero _))), ?_⟩
      repeat' (first | exact trivial | exact rfl | apply And.intro)
      exact pG_push hp _
    · replace hlt : ¬ i < N := of_decide_eq_false (p := i < N) hlt
      have hE := rep_end (by omega) he
      rw [hE] at hR
      rw [hR]
      refine ⟨[0, 3], ⟨rfl, (by repeat' (first | exact trivial | exact rfl | apply And.intro | exact (fun _ _ _ _ => Cell.le_refl _) | (intro i hi; rfl) | (intro i hi; exact absurd hi (Nat.not_lt_zero _)))), (by show [0, 3].Nodup; decide), rfl, ?_⟩⟩
      repeat' (first | exact trivial | exact rfl | apply And.intro)
      · exact hp.symm
      · exact fun i hi => rfl

end Go.Proofs.Ytcgoaicifjndpaa.Vx
end

section
/- What a writer of proofs and messages leaves, plainly. -/
namespace Go.Proofs.Ytcgoaicifjndpaa.Vx
set_option linter.unusedVariables false
set_option linter.unusedSimpArgs false
/-! ### How much room it takes -/
/-! ### What may be is written as its bytes -/
end Go.Proofs.Ytcgoaicifjndpaa.Vx
end

section
/- Proofs written, by the walker. -/
namespace Go.Proofs.Ytcgoaicifjndpaa.Vx
open Go.RowKit
set_option linter.unusedVariables false
set_option linter.unusedSimpArgs false


end Go.Proofs.Ytcgoaicifjndpaa.Vx
end

section
/- Messages written, by the walker. -/
namespace Go.Proofs.Ytcgoaicifjndpaa.Vx
open Go.RowKit
set_option linter.unusedVariables false
set_option linter.unusedSimpArgs false


end Go.Proofs.Ytcgoaicifjndpaa.Vx
end

section
/- Proofs and messages read, by the walker. -/
namespace Go.Proofs.Ytcgoaicifjndpaa.Vx
open Go.RowKit
set_option linter.unusedVariables false
set_option linter.unusedSimpArgs false
theorem okS_rep {α : Type} {r : List UInt8 → Int × Int → α × Int × Int} {l : List UInt8} (h : ∀ s, okS l s → okS l (r l s).2) : ∀ (n : Nat) (s : Int × Int), okS l s → okS l (repR r n l s).2
  | 0, s, hs => hs
  | n + 1, s, hs => okS_rep h n _ (h s hs)
theorem okS_leaf {l : List UInt8} {s : Int × Int} (h : okS l s) : okS l (rLeaf l s).2 := okS_rep (fun _ => okS_hash) _ _ (okS_count (okS_num (okS_text (okS_text h))))
theorem okS_proof {l : List UInt8} {s : Int × Int} (h : okS l s) : okS l (rProof l s).2 := okS_rep (fun _ => okS_leaf) _ _ (okS_count (okS_num h))
theorem ok_leaf {l : List UInt8} {a b : Int} (h : okRd l a b) : okRd l (rLeaf l (a, b)).2.1 (rLeaf l (a, b)).2.2 := okS_leaf (s := (a, b)) h
theorem ok_proof {l : List UInt8} {a b : Int} (h : okRd l a b) : okRd l (rProof l (a, b)).2.1 (rProof l (a, b)).2.2 := okS_proof (s := (a, b)) h
theorem leafG_left {fr : Bool} {p : List PLeaf} {x : PLeaf} {i j : Nat} (h : i < p.length) : leafG fr (p ++ [x]) i j = leafG fr p i j := by
  have e : (p ++ [x]).getD i .none = p.getD i .none := by
    rw [List.getD_eq_getElem?_getD, List.getD_eq_getElem?_getD, List.getElem?_append_left h]
  unfold leafG leafGP lK lV lI lN lP
  rw [e]
theorem leafG_last {fr : Bool} {p : List PLeaf} {x : PLeaf} {j : Nat} : leafG fr (p ++ [x]) p.length j = match j with
    | 0 => .pl (.str x.k)
    | 1 => .pl (.str x.v)
    | 2 => .pl (.int .i64 x.i)
    | _ => .es fr 63 32 x.p.length (pG x.p) := by
  have e : (p ++ [x]).getD p.length .none = x := by simp [List.getD]
  unfold leafG leafGP lK lV lI lN lP
  rw [e]
  cases j with
  | zero => rfl
  | succ j => cases j with
    | zero => rfl
    | succ j => cases j with
      | zero => rfl
      | succ j => rfl
theorem leafG_push {p : List PLeaf} {n : Nat} (hn : p.length = n) (x : PLeaf) : ∀ i j, i < n + 1 → j < 4 → Cell.le (pushC n (leafG true p) [.pl (.str x.k), .pl (.str x.v), .pl (.int .i64 x.i), .es true 63 32 (lenH x.p) (pG x.p)] i j) (leafG true (p ++ [x]) i j) := fun i j hi hj => by
  subst hn
  unfold pushC
  cases hb : Nat.blt i p.length with
  | true =>
    rw [Nat.blt_eq] at hb
    rw [leafG_left hb]
    exact Cell.le_refl _
  | false =>
    have hb : ¬ i < p.length := fun h => by rw [← Nat.blt_eq, hb] at h; cases h
    obtain rfl : i = p.length := by omega
    rw [leafG_last]
    rcases four hj with rfl | rfl | rfl | rfl <;> exact Cell.le_refl _
def sRProof : SpecF
  | [.c (.ptr 0 0)], [.cells t [.str l, .int .i64 a, .int .i64 b]] => some (t = 196 ∧ okRd l a b, .agg [.int .i64 (rProof l (a, b)).1.1, .row 1], [.cells 196 [.str l, .int .i64 (rProof l (a, b)).2.1, .int .i64 (rProof l (a, b)).2.2], .data true 140 4 (lenL (rProof l (a, b)).1.2) (leafG true (rProof l (a, b)).1.2)])
  | _, _ => none

set_option maxRecDepth 100000 in
set_option maxHeartbeats 8000000 in
theorem rProofP : Fn Try.prog 160 [] [] sRProof := by
  have hC : CtsOk Try.prog [(134, appMeth 196 sRdNum), (191, appMeth 196 sCount), (192, appFn [] [] sRdLf)] := CtsOk.cons (Meth.ct rdNumP) <| CtsOk.cons (Meth.ct rdCountP) <| CtsOk.cons (Fn.ct rLeafP) <| CtsOk.nil _
  refine Fn.ofZ (E := tbR) [] 0 [(4, [(2000, false), (2003, false), (0, true), (1, true), (2, true), (3, false), (4, false), (5, false), (6, true), (1007, false), (7, false)])] tbR_ok hC (by kernel_rfl) Try.func160 rfl rfl rfl (by kernel_rfl) (by kernel_rfl) 1 (.data true 140 4 0 fun _ _ => .pl .tt) rfl ?_ ?_
  · intro args h pre r h' hs
    unfold sRProof at hs
    split at hs
    · cases hs; exact ⟨rfl, rfl, Nat.le_of_ble_eq_true rfl⟩
    · cases hs
  · intro args h pre r h' hs hp
    unfold sRProof at hs
    split at hs
    rotate_left
    · cases hs
    rename_i t l a b
    cases hs
    obtain ⟨rfl, hok⟩ := hp
    refine ⟨[.cells 196 [.str l, .int .i64 a, .int .i64 b]], ⟨rfl, trivial⟩, ?_⟩
    unfold sRdNum sCount sRdLf
    generalize hL : lft Try.prog _ = L
    try unfold leafG
    generalize ho0 : @lK = zo0, ho1 : @lV = zo1, ho2 : @lI = zo2, ho3 : @lP = zo3, ho4 : @lN = zo4, ho5 : @pG = zo5, ho6 : @rLeaf = zo6, ho7 : @rProof = zo7, ho8 : @okRd = zo8, ho9 : @numS = zo9, ho10 : @countS = zo10, ho11 : @lenH = zo11, ho12 : @lenL = zo12
    generalize hA : Arith.std = A
    cbv
    subst hA hL ho0 ho1 ho2 ho3 ho4 ho5 ho6 ho7 ho8 ho9 ho10 ho11 ho12
    have h3 := ok_num (lo := 0) (hi := 1073741824) hok
    have h4 := ok_count (hi := 2) h3
    refine Need.mk hok fun _ => ?_
    refine Need.mk h3 fun _ => ?_
    have hR : rProof l (a, b) = (((numS l a b 0 1073741824).1, (repR rLeaf (countS l (numS l a b 0 1073741824).2.1 (numS l a b 0 1073741824).2.2 2).1.toNat l (countS l (numS l a b 0 1073741824).2.1 (numS l a b 0 1073741824).2.2 2).2).1), (repR rLeaf (countS l (numS l a b 0 1073741824).2.1 (numS l a b 0 1073741824).2.2 2).1.toNat l (countS l (numS l a b 0 1073741824).2.1 (numS l a b 0 1073741824).2.2 2).2).2) := rfl
    clear h3
    generalize numS l a b 0 1073741824 = t3 at *
    have hrg := cnt_rng l t3.2.1 t3.2.2 2 (by decide)
    generalize countS l t3.2.1 t3.2.2 2 = t4 at *
    obtain ⟨N, A0, B0⟩ := t4
    dsimp only at *
    refine Runs.nilCellE 2 1 (.orow 140 4 0 (leafG true [])) rfl rfl rfl ?_
    show Runs Try.prog 1 (.loop _) _ _
    refine loop_ruleR (N := env (lft Try.prog 1) 0 .std tbR [(134, appMeth 196 sRdNum), (191, appMeth 196 sCount), (192, appFn [] [] sRdLf)] [(4, [(2000, false), (2003, false), (0, true), (1, true), (2, true), (3, false), (4, false), (5, false), (6, true), (1007, false), (7, false)])]) rfl tbR_ok hC (fun c st K _ h => h) (by kernel_rfl) [] (X := LRep rLeaf l N.toNat (A0, B0))
      (S := fun x => ⟨[.c (.ptr 0 0), .any, .c (.ptr 1 0), .c (.ptr 2 0), .any, .any, .any, .any, .c (.int .i64 N), .c (.int .i64 x.i)] ++ List.replicate 10 .any, [.cells 196 [.str l, .int .i64 x.a, .int .i64 x.b], .cells 72 [.int .i64 0, .val (.slice none 0 0)], .cells 72 [.int .i64 t3.1, .row 3], .orow 140 4 x.n (leafG true x.p)]⟩) (μ := fun x => N.toNat - x.n) ⟨0, 0, A0, B0, [], rfl, by omega, rfl, h4, rfl⟩ (by kernel_rfl) [0, 1, 2, 3] ?_ ?_
    · refine ⟨rfl, by decide, ?_, ?_⟩ <;> repeat' (first | exact trivial | exact rfl | apply And.intro | exact (fun _ _ _ _ => Cell.le_refl _) | (intro i hi; rfl) | (intro i hi; exact absurd hi (Nat.not_lt_zero _)))
    rintro ⟨i, n, a, b, p, hn, hnN, hp, hok, he⟩
    unfold sRdNum sCount sRdLf
    generalize hL : lft Try.prog _ = L
    try dsimp only
    try unfold leafG
    generalize ho0 : @lK = zo0, ho1 : @lV = zo1, ho2 : @lI = zo2, ho3 : @lP = zo3, ho4 : @lN = zo4, ho5 : @pG = zo5, ho6 : @rLeaf = zo6, ho7 : @rProof = zo7, ho8 : @okRd = zo8, ho9 : @numS = zo9, ho10 : @countS = zo10, ho11 : @lenH = zo11, ho12 : @lenL = zo12
    generalize hA : Arith.std = A
    cbv
    subst hA hL ho0 ho1 ho2 ho3 ho4 ho5 ho6 ho7 ho8 ho9 ho10 ho11 ho12
    replace hn : i = @Nat.cast Int instNatCastInt n := hn
    replace hok : okRd l a b := hok
    refine Ife.mk (fun hlt => ?_) (fun hlt => ?_)
    · replace hlt : i < N := of_decide_eq_true (p := i < N) hlt
      refine Need.mk hok fun _ => ?_
      refine Need.mk ⟨show n + 1 ≤ maxLen ∧ (n + 1) * 64 ≤ 140737488355328 from ⟨by unfold maxLen; omega, by omega⟩, trivial⟩ fun _ => ?_
      refine Need.mk (by show fitStd .i64 (i + 1); unfold fitStd; omega) fun _ => ?_
      refine ⟨⟨i + 1, n + 1, (rLeaf l (a, b)).2.1, (rLeaf l (a, b)).2.2, p ++ [(rLeaf l (a, b)).1], by omega, by omega, by simp; omega, ok_leaf hok, rep_next (by omega) he⟩, [0, 1, 2, 6], (by show N.toNat - (n + 1) < N.toNat - n; omega), ?_⟩
      refine ⟨rfl, by decide, by repeat' (first | exact trivial | exact rfl | apply And.intro | exact (fun _ _ _ _ => Cell.le_refl _) | (intro i hi; rfl) | (intro i hi; exact absurd hi (Nat.not_lt_zero _))), ?_⟩
      repeat' (first | exact trivial | exact rfl | apply And.intro)
      exact leafG_push hp (rLeaf l (a, b)).1
    · replace hlt : ¬ i < N := of_decide_eq_false (p := i < N) hlt
      have hE := rep_end (by omega) he
      rw [hE] at hR
      rw [hR]
      refine ⟨[3], [0, 3], ⟨?fz, rfl, (by repeat' (first | exact trivial | exact rfl | apply And.intro | exact (fun _ _ _ _ => Cell.le_refl _) | (intro i hi; rfl) | (intro i hi; exact absurd hi (Nat.not_lt_zero _)))), (by show [0].Nodup; decide), rfl, ?hh⟩⟩
      case fz =>
        refine ⟨fun i j hi hj => ?_, trivial⟩
        rcases four hj with rfl | rfl | rfl | rfl
        · trivial
        · trivial
        · trivial
        · exact rfl
      case hh =>
        repeat' (first | exact trivial | exact rfl | apply And.intro)
        · exact hp.symm
        · exact fun _ _ _ _ => Cell.le_refl _

end Go.Proofs.Ytcgoaicifjndpaa.Vx
end
