/- Leaves and proofs read, by the walker. -/
import Derived.Test.YtcgoaicifjndpaaM29
section
namespace Go.Proofs.Ytcgoaicifjndpaa.Vx
open Go.RowKit
set_option linter.unusedVariables false
set_option linter.unusedSimpArgs false
def tbR : Tbl where
  T :=
    (3, ⟨1, false, [.int .i64 (0)], .int .i64, 8⟩) ::
    (4, ⟨1, false, [.ff], .bool, 1⟩) ::
    (9, ⟨1, false, [.str []], .str, 16⟩) ::
    (5, ⟨1, false, [.int .u8 (0)], .int .u8, 1⟩) ::
    (188, ⟨1, false, [.val (.slice none 0 0)], .slice 5, 24⟩) ::
    (50, ⟨1, false, [.int .i64 (0)], .int .i64, 8⟩) ::
    (140, ⟨4, true, [.str [], .str [], .int .i64 (0), .val (.slice none 0 0)], .struct [(0, (1, false)), (1, (1, false)), (2, (1, false)), (3, (1, false))], 64⟩) ::
    (70, ⟨1, false, [.val (.slice none 0 0)], .slice 140, 24⟩) ::
    (72, ⟨2, true, [.int .i64 (0), .val (.slice none 0 0)], .struct [(0, (1, false)), (1, (1, false))], 32⟩) ::
    (63, ⟨32, true, [.int .u8 (0), .int .u8 (0), .int .u8 (0), .int .u8 (0), .int .u8 (0), .int .u8 (0), .int .u8 (0), .int .u8 (0), .int .u8 (0), .int .u8 (0), .int .u8 (0), .int .u8 (0), .int .u8 (0), .int .u8 (0), .int .u8 (0), .int .u8 (0), .int .u8 (0), .int .u8 (0), .int .u8 (0), .int .u8 (0), .int .u8 (0), .int .u8 (0), .int .u8 (0), .int .u8 (0), .int .u8 (0), .int .u8 (0), .int .u8 (0), .int .u8 (0), .int .u8 (0), .int .u8 (0), .int .u8 (0), .int .u8 (0)], .array 32 5, 32⟩) ::
    (138, ⟨1, false, [.val (.slice none 0 0)], .slice 63, 24⟩) ::
    (74, ⟨50, true, [.int .i64 (0), .int .i64 (0), .int .i64 (0), .int .u8 (0), .int .u8 (0), .int .u8 (0), .int .u8 (0), .int .u8 (0), .int .u8 (0), .int .u8 (0), .int .u8 (0), .int .u8 (0), .int .u8 (0), .int .u8 (0), .int .u8 (0), .int .u8 (0), .int .u8 (0), .int .u8 (0), .int .u8 (0), .int .u8 (0), .int .u8 (0), .int .u8 (0), .int .u8 (0), .int .u8 (0), .int .u8 (0), .int .u8 (0), .int .u8 (0), .int .u8 (0), .int .u8 (0), .int .u8 (0), .int .u8 (0), .int .u8 (0), .int .u8 (0), .int .u8 (0), .int .u8 (0), .str [], .int .i64 (0), .str [], .int .i64 (0), .int .i64 (0), .str [], .int .i64 (0), .int .i64 (0), .str [], .int .i64 (0), .int .i64 (0), .int .i64 (0), .val (.slice none 0 0), .int .i64 (0), .val (.slice none 0 0)], .struct [(0, (1, false)), (1, (34, true)), (35, (8, true)), (43, (1, false)), (44, (1, false)), (45, (1, false)), (46, (2, true)), (48, (2, true))], 240⟩) ::
    (59, ⟨1, false, [.val (.slice none 0 0)], .slice 74, 24⟩) ::
    (65, ⟨34, true, [.int .i64 (0), .int .i64 (0), .int .u8 (0), .int .u8 (0), .int .u8 (0), .int .u8 (0), .int .u8 (0), .int .u8 (0), .int .u8 (0), .int .u8 (0), .int .u8 (0), .int .u8 (0), .int .u8 (0), .int .u8 (0), .int .u8 (0), .int .u8 (0), .int .u8 (0), .int .u8 (0), .int .u8 (0), .int .u8 (0), .int .u8 (0), .int .u8 (0), .int .u8 (0), .int .u8 (0), .int .u8 (0), .int .u8 (0), .int .u8 (0), .int .u8 (0), .int .u8 (0), .int .u8 (0), .int .u8 (0), .int .u8 (0), .int .u8 (0), .int .u8 (0)], .struct [(0, (1, false)), (1, (1, false)), (2, (32, true))], 48⟩) ::
    (69, ⟨8, true, [.str [], .int .i64 (0), .str [], .int .i64 (0), .int .i64 (0), .str [], .int .i64 (0), .int .i64 (0)], .struct [(0, (2, true)), (2, (2, true)), (4, (1, false)), (5, (1, false)), (6, (1, false)), (7, (1, false))], 88⟩) ::
    (67, ⟨2, true, [.str [], .int .i64 (0)], .struct [(0, (1, false)), (1, (1, false))], 24⟩) ::
    (196, ⟨3, true, [.str [], .int .i64 (0), .int .i64 (0)], .struct [(0, (1, false)), (1, (1, false)), (2, (1, false))], 32⟩) ::
    (190, ⟨2, true, [.val (.slice none 0 0), .ff], .struct [(0, (1, false)), (1, (1, false))], 32⟩) ::
    (166, ⟨3, true, [.str [], .int .i64 (0), .int .i64 (0)], .struct [(0, (1, false)), (1, (1, false)), (2, (1, false))], 32⟩) ::
    (153, ⟨1, false, [.val (.pointer none)], .ptr 196, 8⟩) ::
    (147, ⟨1, false, [.val (.pointer none)], .ptr 190, 8⟩) ::
    []
  F :=
    (63, [0, 0, 0, 0, 0, 0, 0, 0, 0, 0, 0, 0, 0, 0, 0, 0, 0, 0, 0, 0, 0, 0, 0, 0, 0, 0, 0, 0, 0, 0, 0, 0]) ::
    (69, [1, 0, 1, 0, 0, 1, 0, 0]) ::
    (65, [0, 0, 0, 0, 0, 0, 0, 0, 0, 0, 0, 0, 0, 0, 0, 0, 0, 0, 0, 0, 0, 0, 0, 0, 0, 0, 0, 0, 0, 0, 0, 0, 0, 0]) ::
    []

theorem tbR_ok : tbR.Ok Try.prog where
  T :=
    TblOk.cons (by kernel_rfl) <|
    TblOk.cons (by kernel_rfl) <|
    TblOk.cons (by kernel_rfl) <|
    TblOk.cons (by kernel_rfl) <|
    TblOk.cons (by kernel_rfl) <|
    TblOk.cons (by kernel_rfl) <|
    TblOk.cons (by kernel_rfl) <|
    TblOk.cons (by kernel_rfl) <|
    TblOk.cons (by kernel_rfl) <|
    TblOk.cons (by kernel_rfl) <|
    TblOk.cons (by kernel_rfl) <|
    TblOk.cons (by kernel_rfl) <|
    TblOk.cons (by kernel_rfl) <|
    TblOk.cons (by kernel_rfl) <|
    TblOk.cons (by kernel_rfl) <|
    TblOk.cons (by kernel_rfl) <|
    TblOk.cons (by kernel_rfl) <|
    TblOk.cons (by kernel_rfl) <|
    TblOk.cons (by kernel_rfl) <|
    TblOk.cons (by kernel_rfl) <|
    TblOk.cons (by kernel_rfl) <|
    TblOk.nil _
  F :=
    FlatsOk.cons (FlatOk.of (D := .array 32 5) 6 (by decide) (by kernel_rfl) (by kernel_rfl) rfl (by kernel_rfl)) <|
    FlatsOk.cons (FlatOk.of (D := .struct (Try.prog.fieldsOf 69)) 6 (by decide) (by kernel_rfl) (by kernel_rfl) rfl (by kernel_rfl)) <|
    FlatsOk.cons (FlatOk.of (D := .struct (Try.prog.fieldsOf 65)) 6 (by decide) (by kernel_rfl) (by kernel_rfl) rfl (by kernel_rfl)) <|
    FlatsOk.nil _

/-- How many sums there are; the evaluation does not go into it. -/
def lenH (p : List (List Int)) : Nat := p.length
theorem okS_hash {l : List UInt8} {s : Int × Int} (h : okS l s) : okS l (rHash l s).2 := ok_hash h
theorem okS_count {l : List UInt8} {s : Int × Int} {hi : Int} (h : okS l s) : okS l (rCount hi l s).2 := ok_count h
theorem cnt_rng (l : List UInt8) (a b hi : Int) (h : 0 ≤ hi) : 0 ≤ (countS l a b hi).1 ∧ (countS l a b hi).1 ≤ hi := by
  have := Leb.next_range l a
  unfold countS
  split
  · exact ⟨by dsimp only; omega, by dsimp only; omega⟩
  · split
    · exact ⟨by dsimp only; omega, by dsimp only; omega⟩
    · split
      · exact ⟨by dsimp only; omega, by dsimp only; omega⟩
      · dsimp only; omega
theorem repR_succ {α : Type} {r : List UInt8 → Int × Int → α × Int × Int} {n : Nat} {l : List UInt8} {s : Int × Int} : repR r (n + 1) l s = ((r l s).1 :: (repR r n l (r l s).2).1, (repR r n l (r l s).2).2) := rfl
/-- n things are being read; the first of them are. -/
structure LRep {α : Type} (r : List UInt8 → Int × Int → α × Int × Int) (l : List UInt8) (N : Nat) (s0 : Int × Int) where
  i : Int
  n : Nat
  a : Int
  b : Int
  p : List α
  hn : i = (n : Int)
  h1 : n ≤ N
  hp : p.length = n
  ok : okRd l a b
  he : repR r N l s0 = (p ++ (repR r (N - n) l (a, b)).1, (repR r (N - n) l (a, b)).2)
theorem rep_next {α : Type} {r : List UInt8 → Int × Int → α × Int × Int} {l : List UInt8} {N : Nat} {s0 : Int × Int} {n : Nat} {a b : Int} {p : List α} (h1 : n < N) (he : repR r N l s0 = (p ++ (repR r (N - n) l (a, b)).1, (repR r (N - n) l (a, b)).2)) : repR r N l s0 = ((p ++ [(r l (a, b)).1]) ++ (repR r (N - (n + 1)) l (r l (a, b)).2).1, (repR r (N - (n + 1)) l (r l (a, b)).2).2) := by
  obtain ⟨m, hm⟩ : ∃ m, N - n = m + 1 := ⟨N - n - 1, by omega⟩
  rw [hm, repR_succ] at he
  rw [show N - (n + 1) = m by omega, he]
  simp
theorem rep_end {α : Type} {r : List UInt8 → Int × Int → α × Int × Int} {l : List UInt8} {N : Nat} {s0 : Int × Int} {n : Nat} {a b : Int} {p : List α} (h1 : N ≤ n) (he : repR r N l s0 = (p ++ (repR r (N - n) l (a, b)).1, (repR r (N - n) l (a, b)).2)) : repR r N l s0 = (p, (a, b)) := by
  rw [show N - n = 0 by omega] at he
  rw [he]
  simp [repR]
theorem pG_push {p : List (List Int)} {n : Nat} (hn : p.length = n) (m : List UInt8) : ∀ i, i < n + 1 → pushG n (pG p) (h32 (byteI m)) i = pG (p ++ [numsOf m]) i := fun i hi => by
  subst hn
  unfold pushG
  cases hb : Nat.blt i p.length with
  | true =>
    rw [Nat.blt_eq] at hb
    show pG p i = _
    unfold pG
    rw [List.getD_eq_getElem?_getD, List.getD_eq_getElem?_getD, List.getElem?_append_left hb]
  | false =>
    have hb : ¬ i < p.length := fun h => by rw [← Nat.blt_eq, hb] at h; cases h
    obtain rfl : i = p.length := by omega
    show h32 (byteI m) = pG (p ++ [numsOf m]) p.length
    unfold pG
    rw [show (p ++ [numsOf m]).getD p.length [] = numsOf m by simp [List.getD]]
    simp only [h32, nums_get m (show 0 < 32 by decide), nums_get m (show 1 < 32 by decide), nums_get m (show 2 < 32 by decide), nums_get m (show 3 < 32 by decide), nums_get m (show 4 < 32 by decide), nums_get m (show 5 < 32 by decide), nums_get m (show 6 < 32 by decide), nums_get m (show 7 < 32 by decide), nums_get m (show 8 < 32 by decide), nums_get m (show 9 < 32 by decide), nums_get m (show 10 < 32 by decide), nums_get m (show 11 < 32 by decide), nums_get m (show 12 < 32 by decide), nums_get m (show 13 < 32 by decide), nums_get m (show 14 < 32 by decide), nums_get m (show 15 < 32 by decide), nums_get m (show 16 < 32 by decide), nums_get m (show 17 < 32 by decide), nums_get m (show 18 < 32 by decide), nums_get m (show 19 < 32 by decide), nums_get m (show 20 < 32 by decide), nums_get m (show 21 < 32 by decide), nums_get m (show 22 < 32 by decide), nums_get m (show 23 < 32 by decide), nums_get m (show 24 < 32 by decide), nums_get m (show 25 < 32 by decide), nums_get m (show 26 < 32 by decide), nums_get m (show 27 < 32 by decide), nums_get m (show 28 < 32 by decide), nums_get m (show 29 < 32 by decide), nums_get m (show 30 < 32 by decide), nums_get m (show 31 < 32 by decide)]
def sRdLf : SpecF
  | [.c (.ptr 0 0)], [.cells t [.str l, .int .i64 a, .int .i64 b]] => some (t = 196 ∧ okRd l a b, .agg [.str (rLeaf l (a, b)).1.k, .str (rLeaf l (a, b)).1.v, .int .i64 (rLeaf l (a, b)).1.i, .row 1], [.cells 196 [.str l, .int .i64 (rLeaf l (a, b)).2.1, .int .i64 (rLeaf l (a, b)).2.2], .row 63 32 (lenH (rLeaf l (a, b)).1.p) (pG (rLeaf l (a, b)).1.p)])
  | _, _ => none

set_option maxRecDepth 100000 in
set_option maxHeartbeats 8000000 in
theorem rLeafP : Fn Try.prog 192 [] [] sRdLf := by
  have hC : CtsOk Try.prog [(135, appMeth 196 sRdText), (134, appMeth 196 sRdNum), (191, appMeth 196 sCount), (158, appMeth 196 sHash)] := CtsOk.cons (Meth.ct rdTextP) <| CtsOk.cons (Meth.ct rdNumP) <| CtsOk.cons (Meth.ct rdCountP) <| CtsOk.cons (Meth.ct rdHashP) <| CtsOk.nil _
  refine Fn.of (E := tbR) [] 0 [(7, [(2000, false), (2003, false), (0, true), (1, true), (2, true), (3, false), (4, false), (5, false), (6, true), (1007, false), (7, false)])] tbR_ok hC (by kernel_rfl) Try.func192 rfl rfl rfl (by kernel_rfl) (by kernel_rfl) 1 63 32 ?_ ?_
  · intro args h pre r h' hs
    unfold sRdLf at hs
    split at hs
    · cases hs; exact ⟨rfl, rfl, Nat.le_of_ble_eq_true rfl⟩
    · cases hs
  · intro args h pre r h' hs hp
    unfold sRdLf at hs
    split at hs
    rotate_left
    · cases hs
    rename_i t l a b
    cases hs
    obtain ⟨rfl, hok⟩ := hp
    refine ⟨[.cells 196 [.str l, .int .i64 a, .int .i64 b]], ⟨rfl, trivial⟩, ?_⟩
    unfold sRdText sRdNum sCount sHash
    generalize hL : lft Try.prog _ = L
    generalize ho0 : @pG = zo0, ho1 : @rHash = zo1, ho2 : @rLeaf = zo2, ho3 : @hashS = zo3, ho4 : @byteI = zo4, ho5 : @okRd = zo5, ho6 : @textS = zo6, ho7 : @numS = zo7, ho8 : @countS = zo8, ho9 : @lenH = zo9
    generalize hA : Arith.std = A
    cbv
    subst hA hL ho0 ho1 ho2 ho3 ho4 ho5 ho6 ho7 ho8 ho9
    have h1 := ok_text (hi := 160) hok
    have h2 := ok_text (hi := 64) h1
    have h3 := ok_num (lo := 0) (hi := 1073741824) h2
    have h4 := ok_count (hi := 30) h3
    refine Need.mk hok fun _ => ?_
    refine Need.mk h1 fun _ => ?_
    refine Need.mk h2 fun _ => ?_
    refine Need.mk h3 fun _ => ?_
    have hR : rLeaf l (a, b) = (⟨(textS l a b 160).1, (textS l (textS l a b 160).2.1 (textS l a b 160).2.2 64).1, (numS l (textS l (textS l a b 160).2.1 (textS l a b 160).2.2 64).2.1 (textS l (textS l a b 160).2.1 (textS l a b 160).2.2 64).2.2 0 1073741824).1, (repR rHash (countS l (numS l (textS l (textS l a b 160).2.1 (textS l a b 160).2.2 64).2.1 (textS l (textS l a b 160).2.1 (textS l a b 160).2.2 64).2.2 0 1073741824).2.1 (numS l (textS l (textS l a b 160).2.1 (textS l a b 160).2.2 64).2.1 (textS l (textS l a b 160).2.1 (textS l a b 160).2.2 64).2.2 0 1073741824).2.2 30).1.toNat l (countS l (numS l (textS l (textS l a b 160).2.1 (textS l a b 160).2.2 64).2.1 (textS l (textS l a b 160).2.1 (textS l a b 160).2.2 64).2.2 0 1073741824).2.1 (numS l (textS l (textS l a b 160).2.1 (textS l a b 160).2.2 64).2.1 (textS l (textS l a b 160).2.1 (textS l a b 160).2.2 64).2.2 0 1073741824).2.2 30).2).1⟩,
        (repR rHash (countS l (numS l (textS l (textS l a b 160).2.1 (textS l a b 160).2.2 64).2.1 (textS l (textS l a b 160).2.1 (textS l a b 160).2.2 64).2.2 0 1073741824).2.1 (numS l (textS l (textS l a b 160).2.1 (textS l a b 160).2.2 64).2.1 (textS l (textS l a b 160).2.1 (textS l a b 160).2.2 64).2.2 0 1073741824).2.2 30).1.toNat l (countS l (numS l (textS l (textS l a b 160).2.1 (textS l a b 160).2.2 64).2.1 (textS l (textS l a b 160).2.1 (textS l a b 160).2.2 64).2.2 0 1073741824).2.1 (numS l (textS l (textS l a b 160).2.1 (textS l a b 160).2.2 64).2.1 (textS l (textS l a b 160).2.1 (textS l a b 160).2.2 64).2.2 0 1073741824).2.2 30).2).2) := rfl
    clear h1 h2 h3
    generalize textS l a b 160 = t1 at *
    generalize textS l t1.2.1 t1.2.2 64 = t2 at *
    generalize numS l t2.2.1 t2.2.2 0 1073741824 = t3 at *
    have hrg := cnt_rng l t3.2.1 t3.2.2 30 (by decide)
    generalize countS l t3.2.1 t3.2.2 30 = t4 at *
    obtain ⟨N, A0, B0⟩ := t4
    dsimp only at *
    refine Runs.nilCell 2 3 63 32 (pG []) rfl rfl ?_
    show Runs Try.prog 1 (.loop _) _ _
    refine loop_ruleR (N := env (lft Try.prog 1) 0 .std tbR [(135, appMeth 196 sRdText), (134, appMeth 196 sRdNum), (191, appMeth 196 sCount), (158, appMeth 196 sHash)] [(7, [(2000, false), (2003, false), (0, true), (1, true), (2, true), (3, false), (4, false), (5, false), (6, true), (1007, false), (7, false)])]) rfl tbR_ok hC (fun c st K _ h => h) (by kernel_rfl) [] (X := LRep rHash l N.toNat (A0, B0))
      (S := fun x => ⟨[.c (.ptr 0 0), .any, .c (.ptr 1 0), .c (.ptr 2 0), .any, .any, .any, .any, .any, .any, .any, .any, .any, .any, .c (.int .i64 N), .c (.int .i64 x.i)] ++ List.replicate 10 .any, [.cells 196 [.str l, .int .i64 x.a, .int .i64 x.b], .cells 140 [.str [], .str [], .int .i64 0, .val (.slice none 0 0)], .cells 140 [.str t1.1, .str t2.1, .int .i64 t3.1, .row 3], .row 63 32 x.n (pG x.p)]⟩) (μ := fun x => N.toNat - x.n) ⟨0, 0, A0, B0, [], rfl, by omega, rfl, h4, rfl⟩ (by kernel_rfl) [0, 1, 2, 3] ?_ ?_
    · refine ⟨rfl, by decide, ?_, ?_⟩ <;> repeat' (first | exact trivial | exact rfl | apply And.intro | exact (fun _ _ _ _ => Cell.le_refl _) | (intro i hi; rfl) | (intro i hi; exact absurd hi (Nat.not_lt_zero _)))
    rintro ⟨i, n, a, b, p, hn, hnN, hp, hok, he⟩
    unfold sRdText sRdNum sCount sHash
    generalize hL : lft Try.prog _ = L
    try dsimp only
    generalize ho0 : @pG = zo0, ho1 : @rHash = zo1, ho2 : @rLeaf = zo2, ho3 : @hashS = zo3, ho4 : @byteI = zo4, ho5 : @okRd = zo5, ho6 : @textS = zo6, ho7 : @numS = zo7, ho8 : @countS = zo8, ho9 : @lenH = zo9
    generalize hA : Arith.std = A
    cbv
    subst hA hL ho0 ho1 ho2 ho3 ho4 ho5 ho6 ho7 ho8 ho9
    replace hn : i = @Nat.cast Int instNatCastInt n := hn
    replace hok : okRd l a b := hok
    refine Ife.mk (fun hlt => ?_) (fun hlt => ?_)
    · replace hlt : i < N := of_decide_eq_true (p := i < N) hlt
      refine Need.mk hok fun _ => ?_
      refine Need.mk (show n + 1 ≤ maxLen ∧ (n + 1) * 32 ≤ 140737488355328 from ⟨by unfold maxLen; omega, by omega⟩) fun _ => ?_
      refine Need.mk (by show fitStd .i64 (i + 1); unfold fitStd; omega) fun _ => ?_
      refine ⟨⟨i + 1, n + 1, (rHash l (a, b)).2.1, (rHash l (a, b)).2.2, p ++ [(rHash l (a, b)).1], by omega, by omega, by simp; omega, ok_hash hok, rep_next (by omega) he⟩, [0, 1, 2, 5], (by show N.toNat - (n + 1) < N.toNat - n; omega), ?_⟩
      refine ⟨rfl, by decide, by repeat' (first | exact trivial | exact rfl | apply And.intro | exact (fun _ _ _ _ => Cell.le_refl _) | (intro i hi; rfl) | (intro i hi; exact absurd hi (Nat.not_lt_zero _))), ?_⟩
      repeat' (first | exact trivial | exact rfl | apply And.intro)
      exact pG_push hp _
    · replace hlt : ¬ i < N := of_decide_eq_false (p := i < N) hlt
      have hE := rep_end (by omega) he
      rw [hE] at hR
      rw [hR]
      refine ⟨[0, 3], ⟨rfl, (by repeat' (first | exact trivial | exact rfl | apply And.intro | exact (fun _ _ _ _ => Cell.le_refl _) | (intro i hi; rfl) | (intro i hi; exact absurd hi (Nat.not_lt_zero _)))), (by show [0, 3].Nodup; decide), rfl, ?_⟩⟩
      repeat' (first | exact trivial | exact rfl | apply And.intro)
      · exact hp.symm
      · exact fun i hi => rfl

end Go.Proofs.Ytcgoaicifjndpaa.Vx
end

section
/- What a writer of proofs and messages leaves, plainly. -/
namespace Go.Proofs.Ytcgoaicifjndpaa.Vx
set_option linter.unusedVariables false
set_option linter.unusedSimpArgs false
def wH (h : List Int) (s : WS) : WS := (putW s.1 (hashOf h) s.2, s.2)
def wPath (p : List (List Int)) (s : WS) : WS := p.foldl (fun s h => wH h s) s
def wLeaf0 (x : PLeaf) (s : WS) : WS := wN (x.p.length : Int) (wN x.i (wT x.v (wT x.k s)))
def wLeaf (x : PLeaf) (s : WS) : WS := wPath x.p (wLeaf0 x s)
def wLeaves (L : List PLeaf) (s : WS) : WS := L.foldl (fun s x => wLeaf x s) s
def wProof (c : Int) (L : List PLeaf) (s : WS) : WS := wLeaves L (wN (L.length : Int) (wN c s))
def wMsg (m : PMsg) (s : WS) : WS :=
  if m.kind = 1 then wH m.hr (wN m.ht (wN m.hh (wN m.kind s)))
  else
    let a := wPk m.pk (wN m.kind s)
    let b := if m.kind = 3 then wT m.ack a else a
    let c := if nextB m.kind then wN m.next b else b
    let d := wProof m.pc m.pl (wN m.height c)
    if m.kind = 5 then wProof m.cc m.cl d else d
theorem wPath_take {p : List (List Int)} {i : Nat} (h : i < p.length) (s : WS) : wPath (p.take (i + 1)) s = wH (p[i]) (wPath (p.take i) s) := by
  unfold wPath
  rw [List.take_add_one, List.getElem?_eq_getElem h, List.foldl_append]
  rfl
theorem wPath_takeD {p : List (List Int)} {i : Nat} (h : i < p.length) (s : WS) : wPath (p.take (i + 1)) s = wH (p.getD i []) (wPath (p.take i) s) := by
  rw [wPath_take h, List.getD_eq_getElem?_getD, List.getElem?_eq_getElem h]
  rfl
theorem getD_32 {p : List (List Int)} {i : Nat} (h : i < p.length) (h32 : ∀ x ∈ p, x.length = 32) : (p.getD i []).length = 32 := by
  rw [List.getD_eq_getElem?_getD, List.getElem?_eq_getElem h]
  exact h32 _ (List.getElem_mem h)
theorem wLeaves_take {L : List PLeaf} {i : Nat} (h : i < L.length) (s : WS) : wLeaves (L.take (i + 1)) s = wLeaf (L[i]) (wLeaves (L.take i) s) := by
  unfold wLeaves
  rw [List.take_add_one, List.getElem?_eq_getElem h, List.foldl_append]
  rfl
/-! ### How much room it takes -/
theorem wN_len (v : Int) (s : WS) : (wN v s).1.length ≤ s.1.length + 9 := num_le s.1 v s.2
theorem wT_len (m : List UInt8) (s : WS) : (wT m s).1.length ≤ s.1.length + m.length + 9 := text_le s.1 m s.2
theorem wH_len {h : List Int} (s : WS) : (wH h s).1.length ≤ s.1.length + h.length := by
  unfold wH putW
  dsimp only
  split
  · omega
  · rw [List.length_append, hashOf_len]; exact Nat.le_refl _
theorem wPath_len : ∀ (p : List (List Int)) (s : WS), (∀ h ∈ p, h.length = 32) → (wPath p s).1.length ≤ s.1.length + 32 * p.length
  | [], s, _ => by simp [wPath]
  | h :: p, s, hp => by
    have ih := wPath_len p (wH h s) fun x hx => hp x (by simp [hx])
    have := wH_len (h := h) s
    rw [hp h (by simp)] at this
    have e : wPath (h :: p) s = wPath p (wH h s) := rfl
    rw [e]
    simp only [List.length_cons]
    omega
structure LeafFit (x : PLeaf) : Prop where
  k : x.k.length ≤ 1000
  v : x.v.length ≤ 1000
  p : x.p.length ≤ 1000
  i : isI64 x.i
  h : ∀ h ∈ x.p, h.length = 32
theorem wLeaf_len {x : PLeaf} (h : LeafFit x) (s : WS) : (wLeaf x s).1.length ≤ s.1.length + 40000 := by
  have h1 := wPath_len x.p (wLeaf0 x s) h.h
  have h2 := wN_len (x.p.length : Int) (wN x.i (wT x.v (wT x.k s)))
  have h3 := wN_len x.i (wT x.v (wT x.k s))
  have h4 := wT_len x.v (wT x.k s)
  have h5 := wT_len x.k s
  have h6 := h.k
  have h7 := h.v
  have h8 := h.p
  unfold wLeaf
  unfold wLeaf0 at h1 ⊢
  omega
theorem wLeaves_len : ∀ (L : List PLeaf) (s : WS), (∀ x ∈ L, LeafFit x) → (wLeaves L s).1.length ≤ s.1.length + 40000 * L.length
  | [], s, _ => by simp [wLeaves]
  | x :: L, s, hp => by
    have ih := wLeaves_len L (wLeaf x s) fun y hy => hp y (by simp [hy])
    have := wLeaf_len (hp x (by simp)) s
    have e : wLeaves (x :: L) s = wLeaves L (wLeaf x s) := rfl
    rw [e]
    simp only [List.length_cons]
    omega
structure PrFit (c : Int) (L : List PLeaf) (l : List UInt8) : Prop where
  c : isI64 c
  n : L.length ≤ 1000
  l : l.length ≤ 1000000000
  x : ∀ x ∈ L, LeafFit x
theorem wProof_len {c : Int} {L : List PLeaf} {s : WS} (h : PrFit c L s.1) : (wProof c L s).1.length ≤ s.1.length + 40001000 := by
  have h1 := wLeaves_len L (wN (L.length : Int) (wN c s)) h.x
  have h2 := wN_len (L.length : Int) (wN c s)
  have h3 := wN_len c s
  have := h.n
  unfold wProof
  omega
/-! ### What may be is written as its bytes -/
theorem wH_ok (h : List Int) (l : List UInt8) : wH h (l, false) = (l ++ hashOf h, false) := by simp [wH, putW]
theorem wPath_ok : ∀ (p : List (List Int)) (l : List UInt8), wPath p (l, false) = (l ++ flatE hashOf p, false)
  | [], l => by simp [wPath, flatE]
  | h :: p, l => by
    have e : wPath (h :: p) (l, false) = wPath p (wH h (l, false)) := rfl
    rw [e, wH_ok, wPath_ok p]
    simp [flatE]
theorem wLeaf_ok {x : PLeaf} (h : leafV x) (l : List UInt8) : wLeaf x (l, false) = (l ++ leafB x, false) := by
  obtain ⟨h1, h2, ⟨h3, h4⟩, ⟨h5, h6⟩, -⟩ := h
  unfold wLeaf wLeaf0
  rw [wT_ok (by omega), wT_ok (by omega), wN_ok h3 (by omega), wN_ok h5 (by omega), wPath_ok]
  simp [leafB]
theorem wLeaves_ok : ∀ (L : List PLeaf) (l : List UInt8), (∀ x ∈ L, leafV x) → wLeaves L (l, false) = (l ++ flatE leafB L, false)
  | [], l, _ => by simp [wLeaves, flatE]
  | x :: L, l, h => by
    have e : wLeaves (x :: L) (l, false) = wLeaves L (wLeaf x (l, false)) := rfl
    rw [e, wLeaf_ok (h x (by simp)), wLeaves_ok L _ fun y hy => h y (by simp [hy])]
    simp [flatE]
theorem wProof_ok {c : Int} {L : List PLeaf} (h : proofV (c, L)) (l : List UInt8) : wProof c L (l, false) = (l ++ proofB (c, L), false) := by
  obtain ⟨⟨h1, h2⟩, ⟨h3, h4⟩, h5⟩ := h
  dsimp only at h1 h2 h3 h4 h5
  unfold wProof
  rw [wN_ok h1 (by omega), wN_ok h3 (by omega), wLeaves_ok L _ h5]
  simp [proofB]
theorem leafV_fit {x : PLeaf} (h : leafV x) : LeafFit x := by
  obtain ⟨h1, h2, ⟨h3, h4⟩, ⟨h5, h6⟩, h7⟩ := h
  exact ⟨by omega, by omega, by omega, by unfold isI64; omega, fun y hy => (h7 y hy).1⟩
theorem proofV_fit {c : Int} {L : List PLeaf} (h : proofV (c, L)) {l : List UInt8} (hl : l.length ≤ 1000000000) : PrFit c L l := by
  obtain ⟨⟨h1, h2⟩, ⟨h3, h4⟩, h5⟩ := h
  dsimp only at h1 h2 h3 h4 h5
  exact ⟨by unfold isI64; omega, by omega, hl, fun x hx => leafV_fit (h5 x hx)⟩
theorem wMsg_ok {m : PMsg} (h : msgV m) (l : List UInt8) : wMsg m (l, false) = (l ++ msgB m, false) := by
  obtain ⟨k, hh, ht, hr, pk, ack, nx, hg, pc, pl, cc, cl⟩ := m
  obtain ⟨hk, h1, h2, h3, h4, h5, h6, h7⟩ := h
  replace hk : 1 ≤ k ∧ k ≤ 5 := hk
  have hk : k = 1 ∨ k = 2 ∨ k = 3 ∨ k = 4 ∨ k = 5 := by omega
  rcases hk with rfl | rfl | rfl | rfl | rfl
  · replace h1 : hdrV (hh, ht, hr) := h1
    obtain ⟨⟨a1, a2⟩, ⟨a3, a4⟩, -⟩ := h1
    dsimp only at a1 a2 a3 a4
    have e : wMsg ⟨1, hh, ht, hr, pk, ack, nx, hg, pc, pl, cc, cl⟩ (l, false) = wH hr (wN ht (wN hh (wN 1 (l, false)))) := rfl
    rw [e, wN_ok (by omega) (by omega), wN_ok (by omega) (by omega), wN_ok (by omega) (by omega), wH_ok]
    simp [msgB, restB, restOf, hdrB, nextB]
  · replace h2 : pkV pk := h2
    replace h5 : 1 ≤ hg ∧ hg ≤ 1099511627776 := h5
    replace h6 : proofV (pc, pl) := h6
    have e : wMsg ⟨2, hh, ht, hr, pk, ack, nx, hg, pc, pl, cc, cl⟩ (l, false) = wProof pc pl (wN hg (wPk pk (wN 2 (l, false)))) := rfl
    rw [e, wN_ok (by omega) (by omega), wPk_ok h2, wN_ok (by omega) (by omega), wProof_ok h6]
    simp [msgB, restB, restOf, hdrB, nextB]
  · replace h2 : pkV pk := h2
    replace h3 : (ack.length : Int) ≤ 32 := h3
    replace h5 : 1 ≤ hg ∧ hg ≤ 1099511627776 := h5
    replace h6 : proofV (pc, pl) := h6
    have e : wMsg ⟨3, hh, ht, hr, pk, ack, nx, hg, pc, pl, cc, cl⟩ (l, false) = wProof pc pl (wN hg (wT ack (wPk pk (wN 3 (l, false))))) := rfl
    rw [e, wN_ok (by omega) (by omega), wPk_ok h2, wT_ok (by omega), wN_ok (by omega) (by omega), wProof_ok h6]
    simp [msgB, restB, restOf, hdrB, nextB]
  · replace h2 : pkV pk := h2
    replace h4 : 0 ≤ nx ∧ nx ≤ 1099511627777 := h4
    replace h5 : 1 ≤ hg ∧ hg ≤ 1099511627776 := h5
    replace h6 : proofV (pc, pl) := h6
    have e : wMsg ⟨4, hh, ht, hr, pk, ack, nx, hg, pc, pl, cc, cl⟩ (l, false) = wProof pc pl (wN hg (wN nx (wPk pk (wN 4 (l, false))))) := rfl
    rw [e, wN_ok (by omega) (by omega), wPk_ok h2, wN_ok (by omega) (by omega), wN_ok (by omega) (by omega), wProof_ok h6]
    simp [msgB, restB, restOf, hdrB, nextB]
  · replace h2 : pkV pk := h2
    replace h4 : 0 ≤ nx ∧ nx ≤ 1099511627777 := h4
    replace h5 : 1 ≤ hg ∧ hg ≤ 1099511627776 := h5
    replace h6 : proofV (pc, pl) := h6
    replace h7 : proofV (cc, cl) := h7
    have e : wMsg ⟨5, hh, ht, hr, pk, ack, nx, hg, pc, pl, cc, cl⟩ (l, false) = wProof cc cl (wProof pc pl (wN hg (wN nx (wPk pk (wN 5 (l, false)))))) := rfl
    rw [e, wN_ok (by omega) (by omega), wPk_ok h2, wN_ok (by omega) (by omega), wN_ok (by omega) (by omega), wProof_ok h6, wProof_ok h7]
    simp [msgB, restB, restOf, hdrB, nextB]
end Go.Proofs.Ytcgoaicifjndpaa.Vx
end

section
/- Proofs written, by the walker. -/
namespace Go.Proofs.Ytcgoaicifjndpaa.Vx
open Go.RowKit
set_option linter.unusedVariables false
set_option linter.unusedSimpArgs false
/-- A number of a sum. -/
def hN (p : List (List Int)) (i j : Nat) : Int := (p.getD i []).getD j 0
theorem list32 {h : List Int} (hl : h.length = 32) : [h.getD 0 0, h.getD 1 0, h.getD 2 0, h.getD 3 0, h.getD 4 0, h.getD 5 0, h.getD 6 0, h.getD 7 0, h.getD 8 0, h.getD 9 0, h.getD 10 0, h.getD 11 0, h.getD 12 0, h.getD 13 0, h.getD 14 0, h.getD 15 0, h.getD 16 0, h.getD 17 0, h.getD 18 0, h.getD 19 0, h.getD 20 0, h.getD 21 0, h.getD 22 0, h.getD 23 0, h.getD 24 0, h.getD 25 0, h.getD 26 0, h.getD 27 0, h.getD 28 0, h.getD 29 0, h.getD 30 0, h.getD 31 0] = h := by
  have e : [h.getD 0 0, h.getD 1 0, h.getD 2 0, h.getD 3 0, h.getD 4 0, h.getD 5 0, h.getD 6 0, h.getD 7 0, h.getD 8 0, h.getD 9 0, h.getD 10 0, h.getD 11 0, h.getD 12 0, h.getD 13 0, h.getD 14 0, h.getD 15 0, h.getD 16 0, h.getD 17 0, h.getD 18 0, h.getD 19 0, h.getD 20 0, h.getD 21 0, h.getD 22 0, h.getD 23 0, h.getD 24 0, h.getD 25 0, h.getD 26 0, h.getD 27 0, h.getD 28 0, h.getD 29 0, h.getD 30 0, h.getD 31 0] = (List.range 32).map fun j => h.getD j 0 := rfl
  rw [e]
  apply List.ext_getElem (by simp [hl])
  intro j h1 h2
  simp [List.getD, h2]
/-- So many leaves are written. -/
structure LWr (L : List PLeaf) (s0 : WS) where
  i : Int
  n : Nat
  l : List UInt8
  b : Bool
  hn : i = (n : Int)
  h1 : n ≤ L.length
  w : wLeaves (L.take n) s0 = (l, b)
/-- So many sums are written. -/
structure LWp (p : List (List Int)) (s0 : WS) where
  i : Int
  n : Nat
  l : List UInt8
  b : Bool
  hn : i = (n : Int)
  h1 : n ≤ p.length
  w : wPath (p.take n) s0 = (l, b)
def prWPre (t e : Nat) (c : Int) (L : List PLeaf) (l : List UInt8) : Prop := t = 190 ∧ e = 5 ∧ PrFit c L l
theorem lN_eq {L : List PLeaf} {n : Nat} (h : n < L.length) : lN L n = L[n].p.length ∧ lP L n = L[n].p ∧ lK L n = L[n].k ∧ lV L n = L[n].v ∧ lI L n = L[n].i := by
  have e : L.getD n .none = L[n] := by simp [List.getD, h]
  unfold lN lP lK lV lI
  rw [e]
  exact ⟨rfl, rfl, rfl, rfl, rfl⟩
theorem wLeaves_tl {c : Int} {L : List PLeaf} {l0 l : List UInt8} {b0 b : Bool} {n : Nat} (h : PrFit c L l0) (hn : n ≤ L.length) (w : wLeaves (L.take n) (wN (L.length : Int) (wN c (l0, b0))) = (l, b)) : l.length ≤ 1100000000 := by
  have h1 := wLeaves_len (L.take n) (wN (L.length : Int) (wN c (l0, b0))) fun x hx => h.x x (List.mem_of_mem_take hx)
  rw [w] at h1
  have h2 := wN_len (L.length : Int) (wN c (l0, b0))
  have h3 := wN_len c (l0, b0)
  have h4 := h.l
  have h5 := h.n
  have h6 : (L.take n).length ≤ 1000 := by rw [List.length_take]; omega
  dsimp only at h1 h3
  omega
def sWProof : SpecF
  | [.c (.ptr 0 0), .agg [.int .i64 c, .row 2]], [.cells t [.row 1, .bool b], .bytes e l, .data fr ty sz n get] => some (prWPre t e c (leafL n get) l ∧ leavesPre ty sz n get, .tup [], [.cells 190 [.row 3, .bool (wProof c (leafL n get) (l, b)).2], .dead, .dead, .bytes 5 (wProof c (leafL n get) (l, b)).1])
  | _, _ => none

set_option maxRecDepth 100000 in
set_option maxHeartbeats 8000000 in
theorem wProofP : Fn Try.prog 157 [] [(140, 204)] sWProof := by
  have hC : CtsOk Try.prog [(132, appW 190 5 sNum), (133, appW 190 5 sWText), (155, appW 190 5 sHashW)] := CtsOk.cons (MethW.ct numP) <| CtsOk.cons (MethW.ct wTextP) <| CtsOk.cons (MethW.ct hashWP) <| CtsOk.nil _
  refine Fn.of (E := tbR) [] 0 [] tbR_ok hC (by kernel_rfl) Try.func157 rfl rfl rfl (by kernel_rfl) (by kernel_rfl) 3 5 1 ?_ ?_
  · intro args h pre r h' hs
    unfold sWProof at hs
    split at hs
    · cases hs; exact ⟨rfl, rfl, Nat.le_of_ble_eq_true rfl⟩
    · cases hs
  · intro args h pre r h' hs hp
    unfold sWProof at hs
    split at hs
    rotate_left
    · cases hs
    rename_i c t b e l fr ty sz n get
    cases hs
    obtain ⟨⟨rfl, rfl, hf⟩, rfl, rfl, hst, hok, hm⟩ := hp
    refine ⟨[.cells 190 [.row 1, .bool b], .bytes 5 l, .data fr 140 4 n (leafG false (leafL n get))], ⟨rfl, rfl, ⟨rfl, rfl, rfl, rfl, fun i j hi hj => by rw [hst i j hi hj]; exact Cell.le_refl _⟩, trivial⟩, ?_⟩
    have hL : (leafL n get).length = n := leafL_len
    generalize leafL n get = L at hL hok hf ⊢
    unfold sNum sWText sHashW
    generalize hg0 : (List.length : List UInt8 → Nat) = g0
    generalize hL : lft Try.prog _ = L
    try unfold leafG
    generalize ho0 : @lK = zo0, ho1 : @lV = zo1, ho2 : @lI = zo2, ho3 : @lP = zo3, ho4 : @lN = zo4, ho5 : @pG = zo5, ho6 : @leafL = zo6, ho7 : @leavesPre = zo7, ho8 : @hN = zo8, ho9 : @wN = zo9, ho10 : @wT = zo10, ho11 : @wH = zo11, ho12 : @wLeaf0 = zo12, ho13 : @wPath = zo13, ho14 : @wProof = zo14, ho15 : @prWPre = zo15, ho16 : @hashOf = zo16, ho17 : @putW = zo17, ho18 : @numW = zo18, ho19 : @numBad = zo19, ho20 : @textW = zo20, ho21 : @fitNum = zo21, ho22 : @fitText = zo22, ho23 : @isI64 = zo23
    generalize hA : Arith.std = A
    cbv
    subst hA hg0 hL ho0 ho1 ho2 ho3 ho4 ho5 ho6 ho7 ho8 ho9 ho10 ho11 ho12 ho13 ho14 ho15 ho16 ho17 ho18 ho19 ho20 ho21 ho22 ho23
    have hn0 : (L.length : Int) = (n : Int) := by omega
    refine Need.mk (⟨hf.c, by have := hf.l; omega⟩ : fitNum l c) fun _ => ?_
    have e1 := wN_len c (l, b)
    refine Need.mk (show fitNum (wN c (l, b)).1 (n : Int) from ⟨by unfold isI64; omega, by have := hf.l; dsimp only at e1; omega⟩) fun _ => ?_
    show Runs Try.prog 3 (.loop _) _ _
    refine loop_ruleL (N := env (lft Try.prog 3) 0 .std tbR [(132, appW 190 5 sNum), (133, appW 190 5 sWText), (155, appW 190 5 sHashW)] []) rfl tbR_ok hC (fun c st K _ h => h) (by kernel_rfl) [] (X := LWr L (wN (n : Int) (wN c (l, b))))
      (S := fun x => ⟨[.c (.ptr 0 0), .any, .any, .c (.ptr 3 0), .any, .any, .any, .any, .any, .any, .any, .any, .any, .any, .any, .any, .any, .any, .c (.row 2), .c (.int .i64 n), .c (.int .i64 x.i)] ++ List.replicate 32 .any, [.cells 190 [.row 4, .bool x.b], .dead, .data fr 140 4 n (leafG false L), .cells 72 [.int .i64 c, .row 2], .bytes 5 x.l]⟩) (μ := fun x => L.length - x.n) ⟨0, 0, (wN (n : Int) (wN c (l, b))).1, (wN (n : Int) (wN c (l, b))).2, rfl, by omega, rfl⟩ (by kernel_rfl) [0, 1, 2, 3, 5] ?_ ?_
    · refine ⟨rfl, by show List.Nodup [0, 3, 5]; decide, ?_, ?_⟩ <;> repeat' (first | exact trivial | exact rfl | apply And.intro | exact (fun _ _ _ _ => Cell.le_refl _) | (intro i hi; rfl) | (intro i hi; exact absurd hi (Nat.not_lt_zero _)))
    rintro ⟨i, k, l', b', hn, h1, w⟩
    replace hn : i = @Nat.cast Int instNatCastInt k := hn
    subst hn
    unfold sNum sWText sHashW
    generalize hg0 : (List.length : List UInt8 → Nat) = g0
    generalize hL : lft Try.prog _ = L
    try dsimp only
    try unfold leafG
    generalize ho0 : @lK = zo0, ho1 : @lV = zo1, ho2 : @lI = zo2, ho3 : @lP = zo3, ho4 : @lN = zo4, ho5 : @pG = zo5, ho6 : @leafL = zo6, ho7 : @leavesPre = zo7, ho8 : @hN = zo8, ho9 : @wN = zo9, ho10 : @wT = zo10, ho11 : @wH = zo11, ho12 : @wLeaf0 = zo12, ho13 : @wPath = zo13, ho14 : @wProof = zo14, ho15 : @prWPre = zo15, ho16 : @hashOf = zo16, ho17 : @putW = zo17, ho18 : @numW = zo18, ho19 : @numBad = zo19, ho20 : @textW = zo20, ho21 : @fitNum = zo21, ho22 : @fitText = zo22, ho23 : @isI64 = zo23
    generalize hA : Arith.std = A
    cbv
    subst hA hg0 hL ho0 ho1 ho2 ho3 ho4 ho5 ho6 ho7 ho8 ho9 ho10 ho11 ho12 ho13 ho14 ho15 ho16 ho17 ho18 ho19 ho20 ho21 ho22 ho23
    refine Ife.mk (fun hlt => ?_) (fun hlt => ?_)
    · replace hlt : (k : Int) < @Nat.cast Int instNatCastInt n := of_decide_eq_true (p := (k : Int) < (n : Int)) hlt
      have hk : k < L.length := by omega
      obtain ⟨q1, q2, q3, q4, q5⟩ := lN_eq hk
      have hx := hf.x _ (List.getElem_mem hk)
      have hl' : l'.length ≤ 1100000000 := wLeaves_tl (b0 := b) (b := b') hf h1 (by rw [hL]; exact w)
      have x1 : (lK L k).length ≤ 1000 := by rw [q3]; exact hx.k
      have x2 : (lV L k).length ≤ 1000 := by rw [q4]; exact hx.v
      have x3 : lN L k ≤ 1000 := by rw [q1]; exact hx.p
      have x4 : isI64 (lI L k) := by rw [q5]; exact hx.i
      have t1 := wT_len (lK L k) (l', b')
      have t2 := wT_len (lV L k) (wT (lK L k) (l', b'))
      have t3 := wN_len (lI L k) (wT (lV L k) (wT (lK L k) (l', b')))
      have t4 := wN_len (lN L k : Int) (wN (lI L k) (wT (lV L k) (wT (lK L k) (l', b'))))
      dsimp only at t1
      refine Need.mk (show 0 ≤ (k : Int) ∧ (k : Int) < (n : Int) by omega) fun _ => Need.mk (show k < n by omega) fun _ => ?_
      refine Need.mk (show fitText l' (lK L k) by unfold fitText; omega) fun _ => ?_
      refine Need.mk (show fitText (wT (lK L k) (l', b')).1 (lV L k) by unfold fitText; omega) fun _ => ?_
      refine Need.mk (show fitNum (wT (lV L k) (wT (lK L k) (l', b'))).1 (lI L k) from ⟨x4, by omega⟩) fun _ => ?_
      refine Need.mk (show fitNum (wN (lI L k) (wT (lV L k) (wT (lK L k) (l', b')))).1 (lN L k : Int) from ⟨by unfold isI64; omega, by omega⟩) fun _ => ?_
      have y2 : (wLeaf0 (⟨lK L k, lV L k, lI L k, lP L k⟩ : PLeaf) (l', b')).1.length ≤ 1100010000 := Nat.le_trans (show _ ≤ _ from t4) (by omega)
      have hy : (⟨lK L k, lV L k, lI L k, lP L k⟩ : PLeaf) = L[k] := by rw [q2, q3, q4, q5]
      show Runs Try.prog 3 (.loop _) _ _
      refine loop_ruleL (N := env (lft Try.prog 3) 0 .std tbR [(132, appW 190 5 sNum), (133, appW 190 5 sWText), (155, appW 190 5 sHashW)] []) rfl tbR_ok hC (fun c st K _ h => h) (by kernel_rfl) [] (X := LWp (lP L k) (wLeaf0 (⟨lK L k, lV L k, lI L k, lP L k⟩ : PLeaf) (l', b')))
        (S := fun x => ⟨[.c (.ptr 0 0), .any, .any, .c (.ptr 3 0), .any, .c (.ptr 6 0), .any, .any, .any, .any, .any, .any, .any, .any, .any, .any, .any, .any, .c (.row 2), .c (.int .i64 n), .c (.int .i64 (k : Int)), .any, .any, .any, .any, .any, .any, .any, .any, .any, .any, .any, .any, .any, .any, .any, .any, .any, .any, .any, .any, .any, .c (.row 5), .c (.int .i64 (lN L k)), .c (.int .i64 x.i)] ++ List.replicate 8 .any, [.cells 190 [.row 7, .bool x.b], .dead, .data fr 140 4 n (leafG false L), .cells 72 [.int .i64 c, .row 2], .dead, .elems 63 32 (lN L k) (fun i => h32 (hN (lP L k) i)), .cells 140 [.str (lK L k), .str (lV L k), .int .i64 (lI L k), .row 5], .bytes 5 x.l]⟩) (μ := fun x => (lP L k).length - x.n) ⟨0, 0, (numW (numW (textW (textW l' (lK L k) b') (lV L k) (numBad ((lK L k).length : Int) b')) (lI L k) (numBad ((lV L k).length : Int) (numBad ((lK L k).length : Int) b'))) (lN L k : Int) (numBad (lI L k) (numBad ((lV L k).length : Int) (numBad ((lK L k).length : Int) b')))), (numBad (lN L k : Int) (numBad (lI L k) (numBad ((lV L k).length : Int) (numBad ((lK L k).length : Int) b')))), rfl, by omega, ?w0⟩ (by kernel_rfl) [0, 1, 2, 3, 4, 5, 6, 10] ?h0 ?rd
      case h0 =>
        refine ⟨rfl, by show List.Nodup [0, 3, 6, 10]; decide, ?_, ?_⟩ <;> repeat' (first | exact trivial | exact rfl | apply And.intro | exact (fun _ _ _ _ => Cell.le_refl _) | (intro i hi; rfl) | (intro i hi; exact absurd hi (Nat.not_lt_zero _)))
      case w0 =>
        show wLeaf0 (⟨lK L k, lV L k, lI L k, lP L k⟩ : PLeaf) (l', b') = _
        simp only [wLeaf0, wN, wT]
        rfl
      rintro ⟨j, m, l2, b2, hm2, h2, w2⟩
      replace hm2 : j = @Nat.cast Int instNatCastInt m := hm2
      subst hm2
      unfold sNum sWText sHashW
      generalize hg0 : (List.length : List UInt8 → Nat) = g0
      generalize hL : lft Try.prog _ = L
      try dsimp only
      try unfold leafG
      generalize ho0 : @lK = zo0, ho1 : @lV = zo1, ho2 : @lI = zo2, ho3 : @lP = zo3, ho4 : @lN = zo4, ho5 : @pG = zo5, ho6 : @leafL = zo6, ho7 : @leavesPre = zo7, ho8 : @hN = zo8, ho9 : @wN = zo9, ho10 : @wT = zo10, ho11 : @wH = zo11, ho12 : @wLeaf0 = zo12, ho13 : @wPath = zo13, ho14 : @wProof = zo14, ho15 : @prWPre = zo15, ho16 : @hashOf = zo16, ho17 : @putW = zo17, ho18 : @numW = zo18, ho19 : @numBad = zo19, ho20 : @textW = zo20, ho21 : @fitNum = zo21, ho22 : @fitText = zo22, ho23 : @isI64 = zo23
      generalize hA : Arith.std = A
      cbv
      subst hA hg0 hL ho0 ho1 ho2 ho3 ho4 ho5 ho6 ho7 ho8 ho9 ho10 ho11 ho12 ho13 ho14 ho15 ho16 ho17 ho18 ho19 ho20 ho21 ho22 ho23
      have hlp : (lP L k).length = lN L k := rfl
      have y1 := wPath_len ((lP L k).take m) (wLeaf0 (⟨lK L k, lV L k, lI L k, lP L k⟩ : PLeaf) (l', b')) fun h hh => hx.h h (by rw [← q2]; exact List.mem_of_mem_take hh)
      rw [w2] at y1
      have y3 : ((lP L k).take m).length ≤ 1000 := by rw [List.length_take]; omega
      dsimp only at y1
      refine Ife.mk (fun hlt2 => ?_) (fun hlt2 => ?_)
      · replace hlt2 : (m : Int) < @Nat.cast Int instNatCastInt (lN L k) := of_decide_eq_true (p := (m : Int) < (lN L k : Int)) hlt2
        have hm3 : m < (lP L k).length := by omega
        refine Need.mk (show 0 ≤ (m : Int) ∧ (m : Int) < (lN L k : Int) by omega) fun _ => Need.mk (show m < lN L k by omega) fun _ => ?_
        refine Need.mk (show l2.length ≤ 140737488355000 by omega) fun _ => Need.mk (by show fitStd .i64 ((m : Int) + 1); unfold fitStd; omega) fun _ => ?_
        refine ⟨⟨(m : Int) + 1, m + 1, putW l2 (hashOf [hN (lP L k) m 0, hN (lP L k) m 1, hN (lP L k) m 2, hN (lP L k) m 3, hN (lP L k) m 4, hN (lP L k) m 5, hN (lP L k) m 6, hN (lP L k) m 7, hN (lP L k) m 8, hN (lP L k) m 9, hN (lP L k) m 10, hN (lP L k) m 11, hN (lP L k) m 12, hN (lP L k) m 13, hN (lP L k) m 14, hN (lP L k) m 15, hN (lP L k) m 16, hN (lP L k) m 17, hN (lP L k) m 18, hN (lP L k) m 19, hN (lP L k) m 20, hN (lP L k) m 21, hN (lP L k) m 22, hN (lP L k) m 23, hN (lP L k) m 24, hN (lP L k) m 25, hN (lP L k) m 26, hN (lP L k) m 27, hN (lP L k) m 28, hN (lP L k) m 29, hN (lP L k) m 30, hN (lP L k) m 31]) b2, b2, by omega, by omega, ?w⟩, [0, 1, 2, 3, 4, 5, 6, 9], (by show (lP L k).length - (m + 1) < (lP L k).length - m; omega), ?st⟩
        case st =>
          refine ⟨rfl, by show List.Nodup [0, 3, 6, 9]; decide, by repeat' (first | exact trivial | exact rfl | apply And.intro | exact (fun _ _ _ _ => Cell.le_refl _) | (intro i hi; rfl) | (intro i hi; exact absurd hi (Nat.not_lt_zero _))), ?_⟩
          repeat' (first | exact trivial | exact rfl | apply And.intro | exact (fun _ _ _ _ => Cell.le_refl _) | (intro i hi; rfl) | (intro i hi; exact absurd hi (Nat.not_lt_zero _)))
        case w =>
          show wPath ((lP L k).take (m + 1)) (wLeaf0 (⟨lK L k, lV L k, lI L k, lP L k⟩ : PLeaf) (l', b')) = (putW l2 (hashOf [hN (lP L k) m 0, hN (lP L k) m 1, hN (lP L k) m 2, hN (lP L k) m 3, hN (lP L k) m 4, hN (lP L k) m 5, hN (lP L k) m 6, hN (lP L k) m 7, hN (lP L k) m 8, hN (lP L k) m 9, hN (lP L k) m 10, hN (lP L k) m 11, hN (lP L k) m 12, hN (lP L k) m 13, hN (lP L k) m 14, hN (lP L k) m 15, hN (lP L k) m 16, hN (lP L k) m 17, hN (lP L k) m 18, hN (lP L k) m 19, hN (lP L k) m 20, hN (lP L k) m 21, hN (lP L k) m 22, hN (lP L k) m 23, hN (lP L k) m 24, hN (lP L k) m 25, hN (lP L k) m 26, hN (lP L k) m 27, hN (lP L k) m 28, hN (lP L k) m 29, hN (lP L k) m 30, hN (lP L k) m 31]) b2, b2)
          rw [wPath_takeD hm3, w2]
          have e1 := list32 (getD_32 hm3 (by rw [q2]; exact hx.h))
          unfold wH
          rw [← e1]
          rfl
      · replace hlt2 : ¬ (m : Int) < @Nat.cast Int instNatCastInt (lN L k) := of_decide_eq_false (p := (m : Int) < (lN L k : Int)) hlt2
        have hm3 : m = (lP L k).length := by omega
        refine Need.mk (by show fitStd .i64 ((k : Int) + 1); unfold fitStd; omega) fun _ => ?_
        refine ⟨⟨(k : Int) + 1, k + 1, l2, b2, by omega, by omega, ?w⟩, [0, 1, 2, 3, 7], (by show L.length - (k + 1) < L.length - k; omega), ?st⟩
        case st =>
          refine ⟨rfl, by show List.Nodup [0, 3, 7]; decide, by repeat' (first | exact trivial | exact rfl | apply And.intro | exact (fun _ _ _ _ => Cell.le_refl _) | (intro i hi; rfl) | (intro i hi; exact absurd hi (Nat.not_lt_zero _))), ?_⟩
          repeat' (first | exact trivial | exact rfl | apply And.intro | exact (fun _ _ _ _ => Cell.le_refl _) | (intro i hi; rfl) | (intro i hi; exact absurd hi (Nat.not_lt_zero _)))
        case w =>
          rw [wLeaves_take hk, w, ← hy]
          show wPath (lP L k) _ = _
          rw [List.take_of_length_le (by omega)] at w2
          exact w2
    · replace hlt : ¬ (k : Int) < @Nat.cast Int instNatCastInt n := of_decide_eq_false (p := (k : Int) < (n : Int)) hlt
      rw [List.take_of_length_le (by omega)] at w
      have hw : wProof c L (l, b) = (l', b') := by
        unfold wProof
        rw [hL]
        exact w
      rw [hw]
      exact ⟨[0, 1, 2, 4], ⟨rfl, by repeat' (first | exact trivial | exact rfl | apply And.intro | exact (fun _ _ _ _ => Cell.le_refl _) | (intro i hi; rfl) | (intro i hi; exact absurd hi (Nat.not_lt_zero _))), (by show List.Nodup [0, 4]; decide), rfl, by repeat' (first | exact trivial | exact rfl | apply And.intro | exact (fun _ _ _ _ => Cell.le_refl _) | (intro i hi; rfl) | (intro i hi; exact absurd hi (Nat.not_lt_zero _)))⟩⟩

end Go.Proofs.Ytcgoaicifjndpaa.Vx
end
