/- Messages encoded and decoded, by the walker. -/
import Derived.Test.YthomoliklfmnkaaDoorM39
import Derived.Test.YthomoliklfmnkaaDoorM35
import Derived.Test.YthomoliklfmnkaaDoorM34
import Derived.Test.YthomoliklfmnkaaDoorM31
import Derived.Test.YthomoliklfmnkaaDoorM25
import Derived.Test.YthomoliklfmnkaaDoorM20
import Derived.Test.YthomoliklfmnkaaDoorM19
section
namespace Go.Proofs.YthomoliklfmnkaaDoor.Vx
open Go.RowKit
set_option linter.unusedVariables false
set_option linter.unusedSimpArgs false


end Go.Proofs.YthomoliklfmnkaaDoor.Vx
end

section
/- Messages decoded, by the walker. -/
namespace Go.Proofs.YthomoliklfmnkaaDoor.Vx
open Go.RowKit
set_option linter.unusedVariables false
set_option linter.unusedSimpArgs false


end Go.Proofs.YthomoliklfmnkaaDoor.Vx
end

section
/- What chapter 8's examples fix, by the walker. -/
namespace Go.Proofs.YthomoliklfmnkaaDoor.Vx
open Go.RowKit
set_option linter.unusedVariables false
set_option linter.unusedSimpArgs false




end Go.Proofs.YthomoliklfmnkaaDoor.Vx
end

section
/- The document's proofs read, by the walker. -/
namespace Go.Proofs.YthomoliklfmnkaaDoor.Vx
open Go.RowKit
set_option linter.unusedVariables false
set_option linter.unusedSimpArgs false
/-- As rLeaf, but the sums are read until an error comes. -/
def rLeafS (l : List UInt8) (s : Int × Int) : PLeaf × Int × Int :=
  let k := rText 160 l s
  let v := rText 64 l k.2
  let i := rNum 0 1073741824 l v.2
  let n := rCount 30 l i.2
  let p := repS rHash n.1.toNat l n.2
  (⟨k.1, v.1, i.1, p.1⟩, p.2)
def rProofS (l : List UInt8) (s : Int × Int) : (Int × List PLeaf) × Int × Int :=
  let c := rNum 0 1073741824 l s
  let n := rCount 2 l c.2
  let p := repS rLeafS n.1.toNat l n.2
  ((c.1, p.1), p.2)
theorem agLeaf : Agree rLeaf rLeafS := by
  have h := fun n => Agree.rep codecHash (Agree.rfl' rHash) n
  refine ⟨fun l s => ?_, fun l s hz => ?_⟩
  · show (repS rHash _ l _).2 = (repR rHash _ l _).2
    exact (h _).st _ _
  · have e := (h (rCount 30 l (rNum 0 1073741824 l (rText 64 l (rText 160 l s).2).2).2).1.toNat).val l (rCount 30 l (rNum 0 1073741824 l (rText 64 l (rText 160 l s).2).2).2).2 hz
    unfold rLeafS rLeaf
    dsimp only
    rw [e]
theorem agProof : Agree rProof rProofS := by
  have h := fun n => Agree.rep codecLeaf agLeaf n
  refine ⟨fun l s => ?_, fun l s hz => ?_⟩
  · show (repS rLeafS _ l _).2 = (repR rLeaf _ l _).2
    exact (h _).st _ _
  · have e := (h (rCount 2 l (rNum 0 1073741824 l s).2).1.toNat).val l (rCount 2 l (rNum 0 1073741824 l s).2).2 hz
    unfold rProofS rProof
    dsimp only
    rw [e]
theorem repS_succ {α : Type} {r : List UInt8 → Int × Int → α × Int × Int} {n : Nat} {l : List UInt8} {s : Int × Int} (h : s.2 = 0) : repS r (n + 1) l s = ((r l s).1 :: (repS r n l (r l s).2).1, (repS r n l (r l s).2).2) := by
  show (if s.2 ≠ 0 then ([], s) else _) = _
  rw [if_neg (by simp [h])]
structure LRepS {α : Type} (r : List UInt8 → Int × Int → α × Int × Int) (l : List UInt8) (N : Nat) (s0 : Int × Int) where
  i : Int
  n : Nat
  a : Int
  b : Int
  p : List α
  hn : i = (n : Int)
  h1 : n ≤ N
  hp : p.length = n
  ok : okRd l a b
  he : repS r N l s0 = (p ++ (repS r (N - n) l (a, b)).1, (repS r (N - n) l (a, b)).2)
theorem repS_next {α : Type} {r : List UInt8 → Int × Int → α × Int × Int} {l : List UInt8} {N : Nat} {s0 : Int × Int} {n : Nat} {a b : Int} {p : List α} (h1 : n < N) (hb : b = 0) (he : repS r N l s0 = (p ++ (repS r (N - n) l (a, b)).1, (repS r (N - n) l (a, b)).2)) : repS r N l s0 = ((p ++ [(r l (a, b)).1]) ++ (repS r (N - (n + 1)) l (r l (a, b)).2).1, (repS r (N - (n + 1)) l (r l (a, b)).2).2) := by
  obtain ⟨m, hm⟩ : ∃ m, N - n = m + 1 := ⟨N - n - 1, by omega⟩
  rw [hm, repS_succ (by exact hb)] at he
  rw [show N - (n + 1) = m by omega, he]
  simp
theorem repS_end {α : Type} {r : List UInt8 → Int × Int → α × Int × Int} {l : List UInt8} {N : Nat} {s0 : Int × Int} {n : Nat} {a b : Int} {p : List α} (h1 : N ≤ n ∨ b ≠ 0) (he : repS r N l s0 = (p ++ (repS r (N - n) l (a, b)).1, (repS r (N - n) l (a, b)).2)) : repS r N l s0 = (p, (a, b)) := by
  rw [he]
  rcases h1 with h1 | h1
  · rw [show N - n = 0 by omega]
    simp [repS]
  · rw [repS_stop r _ l (a, b) h1]
    simp
def sRRProof : SpecF
  | [.c (.ptr 0 0)], [.cells t [.str l, .int .i64 a, .int .i64 b]] => some (t = 97 ∧ okRd l a b, .agg [.int .i64 (rProofS l (a, b)).1.1, .row 1], [.cells 97 [.str l, .int .i64 (rProofS l (a, b)).2.1, .int .i64 (rProofS l (a, b)).2.2], .data true 115 4 (lenL (rProofS l (a, b)).1.2) (leafG true (rProofS l (a, b)).1.2)])
  | _, _ => none

set_option maxRecDepth 100000 in
set_option maxHeartbeats 16000000 in
theorem rrProofP : Fn Tryd.prog 67 [] [] sRRProof := by
  have hC : CtsOk Tryd.prog [(109, appMeth 97 sRdNum), (110, appMeth 97 sCount), (111, appMeth 97 sRdText), (112, appMeth 97 sHash)] := CtsOk.cons (Meth.ct refNumP) <| CtsOk.cons (Meth.ct refCountP) <| CtsOk.cons (Meth.ct refTextP) <| CtsOk.cons (Meth.ct refHashP) <| CtsOk.nil _
  refine Fn.ofZ (E := tbR) [] 0 [(13, [(2000, false), (2005, false), (0, true), (1, true), (2, true), (3, false), (4, false), (5, false), (6, true), (1007, false), (7, false)])] tbR_ok hC (by kernel_rfl) Tryd.func67 rfl rfl rfl (by kernel_rfl) (by kernel_rfl) 1 (.data true 115 4 0 fun _ _ => .pl .tt) rfl ?_ ?_
  · intro args h pre r h' hs
    unfold sRRProof at hs
    split at hs
    · cases hs; exact ⟨rfl, rfl, Nat.le_of_ble_eq_true rfl⟩
    · cases hs
  · intro args h pre r h' hs hp
    unfold sRRProof at hs
    split at hs
    rotate_left
    · cases hs
    rename_i t l a b
    cases hs
    obtain ⟨rfl, hok⟩ := hp
    refine ⟨[.cells 97 [.str l, .int .i64 a, .int .i64 b]], ⟨rfl, trivial⟩, ?_⟩
    unfold sRdText sRdNum sCount sHash
    generalize hL : lft Tryd.prog _ = L
    try unfold leafG
    generalize ho0 : @lK = zo0, ho1 : @lV = zo1, ho2 : @lI = zo2, ho3 : @lP = zo3, ho4 : @lN = zo4, ho5 : @pG = zo5, ho6 : @rHash = zo6, ho7 : @hashS = zo7, ho8 : @byteI = zo8, ho9 : @okRd = zo9, ho10 : @textS = zo10, ho11 : @numS = zo11, ho12 : @countS = zo12, ho13 : @lenH = zo13, ho14 : @lenL = zo14, ho15 : @rLeafS = zo15, ho16 : @rProofS = zo16
    generalize hA : Arith.std = A
    cbv
    subst hA hL ho0 ho1 ho2 ho3 ho4 ho5 ho6 ho7 ho8 ho9 ho10 ho11 ho12 ho13 ho14 ho15 ho16
    have h3 := ok_num (lo := 0) (hi := 1073741824) hok
    have h4 := ok_count (hi := 2) h3
    refine Need.mk hok fun _ => ?_
    refine Need.mk h3 fun _ => ?_
    have hR : rProofS l (a, b) = (((numS l a b 0 1073741824).1, (repS rLeafS (countS l (numS l a b 0 1073741824).2.1 (numS l a b 0 1073741824).2.2 2).1.toNat l (countS l (numS l a b 0 1073741824).2.1 (numS l a b 0 1073741824).2.2 2).2).1), (repS rLeafS (countS l (numS l a b 0 1073741824).2.1 (numS l a b 0 1073741824).2.2 2).1.toNat l (countS l (numS l a b 0 1073741824).2.1 (numS l a b 0 1073741824).2.2 2).2).2) := rfl
    clear h3
    obtain ⟨s00, hs00⟩ : ∃ x, (a, b) = x := ⟨_, rfl⟩
    rw [hs00] at hR ⊢
    generalize numS l a b 0 1073741824 = t3 at *
    have hrg := cnt_rng l t3.2.1 t3.2.2 2 (by decide)
    generalize countS l t3.2.1 t3.2.2 2 = t4 at *
    obtain ⟨N, A0, B0⟩ := t4
    obtain ⟨c, t3s⟩ := t3
    dsimp only at *
    refine Runs.nilCellE 2 1 (.orow 115 4 0 (leafG true [])) rfl rfl rfl ?_
    show Runs Tryd.prog 1 (.loop _) _ _
    refine loop_ruleL (N := env (lft Tryd.prog 1) 0 .std tbR [(109, appMeth 97 sRdNum), (110, appMeth 97 sCount), (111, appMeth 97 sRdText), (112, appMeth 97 sHash)] [(13, [(2000, false), (2005, false), (0, true), (1, true), (2, true), (3, false), (4, false), (5, false), (6, true), (1007, false), (7, false)])]) rfl tbR_ok hC (fun c st K _ h => h) (by kernel_rfl) [] (X := LRepS rLeafS l N.toNat (A0, B0))
      (S := fun x => ⟨[.c (.ptr 0 0), .any, .c (.ptr 1 0), .c (.ptr 2 0), .c (.int .i64 N), .c (.int .i64 x.i)] ++ List.replicate 57 .any, [.cells 97 [.str l, .int .i64 x.a, .int .i64 x.b], .cells 27 [.int .i64 0, .val (.slice none 0 0)], .cells 27 [.int .i64 c, .row 3], .orow 115 4 x.n (leafG true x.p)]⟩) (μ := fun x => N.toNat - x.n) ⟨0, 0, A0, B0, [], rfl, by omega, rfl, h4, rfl⟩ (by kernel_rfl) [0, 1, 2, 3] ?_ ?_
    · refine ⟨rfl, by show List.Nodup [0, 1, 2, 3]; decide, ?_, ?_⟩ <;> repeat' (first | exact trivial | exact rfl | apply And.intro | exact (fun _ _ _ _ => Cell.le_refl _) | (intro i hi; rfl) | (intro i hi; exact absurd hi (Nat.not_lt_zero _)))
    rintro ⟨i, n, a, b, p, hn, hnN, hp, hok, he⟩
    replace hn : i = @Nat.cast Int instNatCastInt n := hn
    subst hn
    unfold sRdText sRdNum sCount sHash
    generalize hL : lft Tryd.prog _ = L
    try dsimp only
    try unfold leafG
    generalize ho0 : @lK = zo0, ho1 : @lV = zo1, ho2 : @lI = zo2, ho3 : @lP = zo3, ho4 : @lN = zo4, ho5 : @pG = zo5, ho6 : @rHash = zo6, ho7 : @hashS = zo7, ho8 : @byteI = zo8, ho9 : @okRd = zo9, ho10 : @textS = zo10, ho11 : @numS = zo11, ho12 : @countS = zo12, ho13 : @lenH = zo13, ho14 : @lenL = zo14, ho15 : @rLeafS = zo15, ho16 : @rProofS = zo16
    generalize hA : Arith.std = A
    cbv
    subst hA hL ho0 ho1 ho2 ho3 ho4 ho5 ho6 ho7 ho8 ho9 ho10 ho11 ho12 ho13 ho14 ho15 ho16
    replace hok : okRd l a b := hok
    have fin : ∀ q, repS rLeafS N.toNat l (A0, B0) = q → rProofS l s00 = ((c, q.1), q.2) := fun q hq => by rw [hR, hq]
    refine Ife.mk (fun hlt => ?_) (fun hlt => ?_)
    · replace hlt : @Nat.cast Int instNatCastInt n < N := of_decide_eq_true (p := (n : Int) < N) hlt
      have hn2 : n < N.toNat := by omega
      have hn3 : n ≤ 1 := by omega
      refine Ife.mk (fun hb => ?_) (fun hb => ?_)
      · replace hb : b = 0 := of_decide_eq_true (p := b = 0) hb
        have g1 := ok_text (hi := 160) hok
        have g2 := ok_text (hi := 64) g1
        have g3 := ok_num (lo := 0) (hi := 1073741824) g2
        have g4 := ok_count (hi := 30) g3
        refine Need.mk hok fun _ => ?_
        refine Need.mk g1 fun _ => ?_
        refine Need.mk g2 fun _ => ?_
        refine Need.mk g3 fun _ => ?_
        have hQ : rLeafS l (a, b) = (⟨(textS l a b 160).1, (textS l (textS l a b 160).2.1 (textS l a b 160).2.2 64).1, (numS l (textS l (textS l a b 160).2.1 (textS l a b 160).2.2 64).2.1 (textS l (textS l a b 160).2.1 (textS l a b 160).2.2 64).2.2 0 1073741824).1, (repS rHash (countS l (numS l (textS l (textS l a b 160).2.1 (textS l a b 160).2.2 64).2.1 (textS l (textS l a b 160).2.1 (textS l a b 160).2.2 64).2.2 0 1073741824).2.1 (numS l (textS l (textS l a b 160).2.1 (textS l a b 160).2.2 64).2.1 (textS l (textS l a b 160).2.1 (textS l a b 160).2.2 64).2.2 0 1073741824).2.2 30).1.toNat l (countS l (numS l (textS l (textS l a b 160).2.1 (textS l a b 160).2.2 64).2.1 (textS l (textS l a b 160).2.1 (textS l a b 160).2.2 64).2.2 0 1073741824).2.1 (numS l (textS l (textS l a b 160).2.1 (textS l a b 160).2.2 64).2.1 (textS l (textS l a b 160).2.1 (textS l a b 160).2.2 64).2.2 0 1073741824).2.2 30).2).1⟩,
          (repS rHash (countS l (numS l (textS l (textS l a b 160).2.1 (textS l a b 160).2.2 64).2.1 (textS l (textS l a b 160).2.1 (textS l a b 160).2.2 64).2.2 0 1073741824).2.1 (numS l (textS l (textS l a b 160).2.1 (textS l a b 160).2.2 64).2.1 (textS l (textS l a b 160).2.1 (textS l a b 160).2.2 64).2.2 0 1073741824).2.2 30).1.toNat l (countS l (numS l (textS l (textS l a b 160).2.1 (textS l a b 160).2.2 64).2.1 (textS l (textS l a b 160).2.1 (textS l a b 160).2.2 64).2.2 0 1073741824).2.1 (numS l (textS l (textS l a b 160).2.1 (textS l a b 160).2.2 64).2.1 (textS l (textS l a b 160).2.1 (textS l a b 160).2.2 64).2.2 0 1073741824).2.2 30).2).2) := rfl
        clear g1 g2 g3
        generalize textS l a b 160 = t1 at *
        generalize textS l t1.2.1 t1.2.2 64 = t2 at *
        generalize numS l t2.2.1 t2.2.2 0 1073741824 = t5 at *
        have hrg2 := cnt_rng l t5.2.1 t5.2.2 30 (by decide)
        generalize countS l t5.2.1 t5.2.2 30 = t6 at *
        obtain ⟨M, C0, D0⟩ := t6
        dsimp only at *
        refine Runs.nilCell 4 3 24 32 (pG []) rfl rfl ?_
        show Runs Tryd.prog 1 (.loop _) _ _
        refine loop_ruleL (N := env (lft Tryd.prog 1) 0 .std tbR [(109, appMeth 97 sRdNum), (110, appMeth 97 sCount), (111, appMeth 97 sRdText), (112, appMeth 97 sHash)] [(13, [(2000, false), (2005, false), (0, true), (1, true), (2, true), (3, false), (4, false), (5, false), (6, true), (1007, false), (7, false)])]) rfl tbR_ok hC (fun c st K _ h => h) (by kernel_rfl) [] (X := LRepS rHash l M.toNat (C0, D0))
          (S := fun x => ⟨[.c (.ptr 0 0), .any, .c (.ptr 1 0), .c (.ptr 2 0), .c (.int .i64 N), .c (.int .i64 (n : Int)), .c (.ptr 4 0), .c (.int .i64 M), .c (.int .i64 x.i)] ++ List.replicate 54 .any, [.cells 97 [.str l, .int .i64 x.a, .int .i64 x.b], .cells 27 [.int .i64 0, .val (.slice none 0 0)], .cells 27 [.int .i64 c, .row 3], .orow 115 4 n (leafG true p), .cells 115 [.str t1.1, .str t2.1, .int .i64 t5.1, .row 5], .row 24 32 x.n (pG x.p)]⟩) (μ := fun x => M.toNat - x.n) ⟨0, 0, C0, D0, [], rfl, by omega, rfl, g4, rfl⟩ (by kernel_rfl) [0, 1, 2, 3, 4, 5] ?_ ?_
        · refine ⟨rfl, by show List.Nodup [0, 1, 2, 3, 4, 5]; decide, ?_, ?_⟩ <;> repeat' (first | exact trivial | exact rfl | apply And.intro | exact (fun _ _ _ _ => Cell.le_refl _) | (intro i hi; rfl) | (intro i hi; exact absurd hi (Nat.not_lt_zero _)))
        rintro ⟨j, m, a2, b2, q, hm, hmN, hq, hok2, he2⟩
        replace hm : j = @Nat.cast Int instNatCastInt m := hm
        subst hm
        unfold sRdText sRdNum sCount sHash
        generalize hL : lft Tryd.prog _ = L
        try dsimp only
        try unfold leafG
        generalize ho0 : @lK = zo0, ho1 : @lV = zo1, ho2 : @lI = zo2, ho3 : @lP = zo3, ho4 : @lN = zo4, ho5 : @pG = zo5, ho6 : @rHash = zo6, ho7 : @hashS = zo7, ho8 : @byteI = zo8, ho9 : @okRd = zo9, ho10 : @textS = zo10, ho11 : @numS = zo11, ho12 : @countS = zo12, ho13 : @lenH = zo13, ho14 : @lenL = zo14, ho15 : @rLeafS = zo15, ho16 : @rProofS = zo16
        generalize hA : Arith.std = A
        cbv
        subst hA hL ho0 ho1 ho2 ho3 ho4 ho5 ho6 ho7 ho8 ho9 ho10 ho11 ho12 ho13 ho14 ho15 ho16
        replace hok2 : okRd l a2 b2 := hok2
        have fin2 : (M.toNat ≤ m ∨ b2 ≠ 0) → rLeafS l (a, b) = (⟨t1.1, t2.1, t5.1, q⟩, (a2, b2)) := fun h => by rw [hQ, repS_end h he2]
        refine Ife.mk (fun hlt2 => ?_) (fun hlt2 => ?_)
        · replace hlt2 : (m : Int) < M := of_decide_eq_true (p := (m : Int) < M) hlt2
          refine Ife.mk (fun hb2 => ?_) (fun hb2 => ?_)
          · replace hb2 : b2 = 0 := of_decide_eq_true (p := b2 = 0) hb2
            refine Need.mk hok2 fun _ => ?_
            refine Need.mk (show m + 1 ≤ maxLen ∧ (m + 1) * 32 ≤ 140737488355328 from ⟨by unfold maxLen; omega, by omega⟩) fun _ => ?_
            refine Need.mk (by show fitStd .i64 ((m : Int) + 1); unfold fitStd; omega) fun _ => ?_
            refine ⟨⟨(m : Int) + 1, m + 1, (rHash l (a2, b2)).2.1, (rHash l (a2, b2)).2.2, q ++ [(rHash l (a2, b2)).1], by omega, by omega, by simp; omega, ok_hash hok2, repS_next (by omega) hb2 he2⟩, [0, 1, 2, 3, 4, 7], (by show M.toNat - (m + 1) < M.toNat - m; omega), ?_⟩
            refine ⟨rfl, by show List.Nodup [0, 1, 2, 3, 4, 7]; decide, by repeat' (first | exact trivial | exact rfl | apply And.intro | exact (fun _ _ _ _ => Cell.le_refl _) | (intro i hi; rfl) | (intro i hi; exact absurd hi (Nat.not_lt_zero _))), ?_⟩
            repeat' (first | exact trivial | exact rfl | apply And.intro | exact (fun _ _ _ _ => Cell.le_refl _))
            exact pG_push hq _
          · replace hb2 : ¬ b2 = 0 := of_decide_eq_false (p := b2 = 0) hb2
            have fq := fin2 (Or.inr hb2)
            refine Need.mk ⟨show n + 1 ≤ maxLen ∧ (n + 1) * 64 ≤ 140737488355328 from ⟨by unfold maxLen; clear hlt hrg; omega, by clear hlt hrg; omega⟩, trivial⟩ fun _ => ?_
            refine Need.mk (show fitStd .i64 (@Nat.cast Int instNatCastInt n + 1) by clear hlt hrg; unfold fitStd; omega) fun _ => ?_
            have nx := repS_next hn2 hb he
            rw [fq] at nx
            refine ⟨⟨(n : Int) + 1, n + 1, a2, b2, p ++ [⟨t1.1, t2.1, t5.1, q⟩], rfl, hn2, by rw [List.length_append, hp]; rfl, hok2, nx⟩, [0, 1, 2, 7], (Nat.sub_succ_lt_self _ _ hn2), ?_⟩
            refine ⟨rfl, by show List.Nodup [0, 1, 2, 7]; decide, by repeat' (first | exact trivial | exact rfl | apply And.intro | exact (fun _ _ _ _ => Cell.le_refl _) | (intro i hi; rfl) | (intro i hi; exact absurd hi (Nat.not_lt_zero _))), ?_⟩
            repeat' (first | exact trivial | exact rfl | apply And.intro)
            have z := leafG_push hp ⟨t1.1, t2.1, t5.1, q⟩
            rw [show lenH q = m from hq] at z
            exact z
        · replace hlt2 : ¬ (m : Int) < M := of_decide_eq_false (p := (m : Int) < M) hlt2
          have fq := fin2 (Or.inl (by omega))
          refine Need.mk ⟨show n + 1 ≤ maxLen ∧ (n + 1) * 64 ≤ 140737488355328 from ⟨by unfold maxLen; clear hlt hrg; omega, by clear hlt hrg; omega⟩, trivial⟩ fun _ => ?_
          refine Need.mk (show fitStd .i64 (@Nat.cast Int instNatCastInt n + 1) by clear hlt hrg; unfold fitStd; omega) fun _ => ?_
          have nx := repS_next hn2 hb he
          rw [fq] at nx
          refine ⟨⟨(n : Int) + 1, n + 1, a2, b2, p ++ [⟨t1.1, t2.1, t5.1, q⟩], rfl, hn2, by rw [List.length_append, hp]; rfl, hok2, nx⟩, [0, 1, 2, 7], (Nat.sub_succ_lt_self _ _ hn2), ?_⟩
          refine ⟨rfl, by show List.Nodup [0, 1, 2, 7]; decide, by repeat' (first | exact trivial | exact rfl | apply And.intro | exact (fun _ _ _ _ => Cell.le_refl _) | (intro i hi; rfl) | (intro i hi; exact absurd hi (Nat.not_lt_zero _))), ?_⟩
          repeat' (first | exact trivial | exact rfl | apply And.intro)
          have z := leafG_push hp ⟨t1.1, t2.1, t5.1, q⟩
          rw [show lenH q = m from hq] at z
          exact z
      · replace hb : ¬ b = 0 := of_decide_eq_false (p := b = 0) hb
        have hE := repS_end (Or.inr hb) he
        rw [fin _ hE]
        refine ⟨[3], [0, 3], ⟨?fz, rfl, (by repeat' (first | exact trivial | exact rfl | apply And.intro | exact (fun _ _ _ _ => Cell.le_refl _) | (intro i hi; rfl) | (intro i hi; exact absurd hi (Nat.not_lt_zero _)))), (by show [0].Nodup; decide), rfl, ?hh⟩⟩
        case fz =>
          refine ⟨fun i j hi hj => ?_, trivial⟩
          rcases four hj with rfl | rfl | rfl | rfl
          · trivial
          · trivial
          · trivial
          · exact rfl
        case hh =>
          repeat' (first | exact trivial | exact rfl | apply And.intro)
          · exact hp.symm
          · exact fun _ _ _ _ => Cell.le_refl _
    · replace hlt : ¬ (n : Int) < N := of_decide_eq_false (p := (n : Int) < N) hlt
      have hE := repS_end (Or.inl (by omega)) he
      rw [fin _ hE]
      refine ⟨[3], [0, 3], ⟨?fz, rfl, (by repeat' (first | exact trivial | exact rfl | apply And.intro | exact (fun _ _ _ _ => Cell.le_refl _) | (intro i hi; rfl) | (intro i hi; exact absurd hi (Nat.not_lt_zero _)))), (by show [0].Nodup; decide), rfl, ?hh⟩⟩
      case fz =>
        refine ⟨fun i j hi hj => ?_, trivial⟩
        rcases four hj with rfl | rfl | rfl | rfl
        · trivial
        · trivial
        · trivial
        · exact rfl
      case hh =>
        repeat' (first | exact trivial | exact rfl | apply And.intro)
        · exact hp.symm
        · exact fun _ _ _ _ => Cell.le_refl _

end Go.Proofs.YthomoliklfmnkaaDoor.Vx
end

section
/- ProofBytes, by the walker. -/
namespace Go.Proofs.YthomoliklfmnkaaDoor.Vx
open Sha
open Go.RowKit
set_option linter.unusedVariables false
set_option linter.unusedSimpArgs false
def pbPre (gg sz0 n0 : Nat) (get0 : Nat → List CV) (ty sz n : Nat) (get : Nat → Nat → Cell) (ty2 sz2 m : Nat) (get2 : Nat → Nat → Cell) : Prop := KsAt gg sz0 n0 get0 ∧ (leavesAt0 ty sz n get ∧ RawP (leafL n get)) ∧ leavesAt0 ty2 sz2 m get2 ∧ RawP (leafL m get2)
theorem may_V {c : Int} {K : List PLeaf} (h : mayL c K = true) (hr : RawP K) : proofV (c, K) := by
  obtain ⟨h1, h2⟩ := mayL_all h
  refine ⟨⟨h1.1, h1.2.1⟩, ⟨by show (0 : Int) ≤ (K.length : Int); omega, by show (K.length : Int) ≤ 2; omega⟩, fun x hx => ?_⟩
  obtain ⟨i, hi, rfl⟩ := List.getElem_of_mem hx
  have hA := mayAt_iff.1 (h2 i hi)
  have e : K.getD i .none = K[i] := by simp [List.getD, hi]
  have hd := deep_30 c (lI K i)
  unfold lK lV lI lN lP at hA
  unfold lI at hd
  rw [e] at hA hd
  have hA' : ((1 ≤ K[i].k.length ∧ K[i].k.length ≤ 160) ∧ 1 ≤ K[i].v.length ∧ K[i].v.length ≤ 64) ∧ 0 ≤ K[i].i ∧ K[i].i < c ∧ (K[i].p.length : Int) = deep c K[i].i := hA
  have hx2 : K[i] ∈ K := hx
  show ((K[i].k.length : Int) ≤ 160 ∧ (K[i].v.length : Int) ≤ 64 ∧ (0 ≤ K[i].i ∧ K[i].i ≤ 1073741824) ∧ (0 ≤ (K[i].p.length : Int) ∧ (K[i].p.length : Int) ≤ 30) ∧ ∀ h ∈ K[i].p, hashV h)
  exact ⟨by omega, by omega, ⟨by omega, by omega⟩, ⟨by omega, by omega⟩, fun h hh => hr _ hx2 h hh⟩
def tbPb : Tbl where
  T :=
    (3, ⟨1, false, [.int .i64 (0)], .int .i64, 8⟩) ::
    (4, ⟨1, false, [.ff], .bool, 1⟩) ::
    (9, ⟨1, false, [.str []], .str, 16⟩) ::
    (5, ⟨1, false, [.int .u8 (0)], .int .u8, 1⟩) ::
    (158, ⟨1, false, [.val (.slice none 0 0)], .slice 5, 24⟩) ::
    (115, ⟨4, true, [.str [], .str [], .int .i64 (0), .val (.slice none 0 0)], .struct [(0, (1, false)), (1, (1, false)), (2, (1, false)), (3, (1, false))], 64⟩) ::
    (25, ⟨1, false, [.val (.slice none 0 0)], .slice 115, 24⟩) ::
    (27, ⟨2, true, [.int .i64 (0), .val (.slice none 0 0)], .struct [(0, (1, false)), (1, (1, false))], 32⟩) ::
    (24, ⟨32, true, [.int .u8 (0), .int .u8 (0), .int .u8 (0), .int .u8 (0), .int .u8 (0), .int .u8 (0), .int .u8 (0), .int .u8 (0), .int .u8 (0), .int .u8 (0), .int .u8 (0), .int .u8 (0), .int .u8 (0), .int .u8 (0), .int .u8 (0), .int .u8 (0), .int .u8 (0), .int .u8 (0), .int .u8 (0), .int .u8 (0), .int .u8 (0), .int .u8 (0), .int .u8 (0), .int .u8 (0), .int .u8 (0), .int .u8 (0), .int .u8 (0), .int .u8 (0), .int .u8 (0), .int .u8 (0), .int .u8 (0), .int .u8 (0)], .array 32 5, 32⟩) ::
    (113, ⟨1, false, [.val (.slice none 0 0)], .slice 24, 24⟩) ::
    (155, ⟨3, true, [.str [], .int .i64 (0), .int .i64 (0)], .struct [(0, (1, false)), (1, (1, false)), (2, (1, false))], 32⟩) ::
    (93, ⟨1, false, [.val (.pointer none)], .ptr 155, 8⟩) ::
    (97, ⟨3, true, [.str [], .int .i64 (0), .int .i64 (0)], .struct [(0, (1, false)), (1, (1, false)), (2, (1, false))], 32⟩) ::
    (160, ⟨2, true, [.val (.slice none 0 0), .ff], .struct [(0, (1, false)), (1, (1, false))], 32⟩) ::
    (101, ⟨1, false, [.val (.pointer none)], .ptr 160, 8⟩) ::
    (55, ⟨1, false, [.int .i64 (0)], .int .i64, 8⟩) ::
    []
  F :=
    (24, [0, 0, 0, 0, 0, 0, 0, 0, 0, 0, 0, 0, 0, 0, 0, 0, 0, 0, 0, 0, 0, 0, 0, 0, 0, 0, 0, 0, 0, 0, 0, 0]) ::
    []

theorem tbPb_ok : tbPb.Ok Tryd.prog where
  T :=
    TblOk.cons (by kernel_rfl) <|
    TblOk.cons (by kernel_rfl) <|
    TblOk.cons (by kernel_rfl) <|
    TblOk.cons (by kernel_rfl) <|
    TblOk.cons (by kernel_rfl) <|
    TblOk.cons (by kernel_rfl) <|
    TblOk.cons (by kernel_rfl) <|
    TblOk.cons (by kernel_rfl) <|
    TblOk.cons (by kernel_rfl) <|
    TblOk.cons (by kernel_rfl) <|
    TblOk.cons (by kernel_rfl) <|
    TblOk.cons (by kernel_rfl) <|
    TblOk.cons (by kernel_rfl) <|
    TblOk.cons (by kernel_rfl) <|
    TblOk.cons (by kernel_rfl) <|
    TblOk.cons (by kernel_rfl) <|
    TblOk.nil _
  F :=
    FlatsOk.cons (FlatOk.of (D := .array 32 5) 6 (by decide) (by kernel_rfl) (by kernel_rfl) rfl (by kernel_rfl)) <|
    FlatsOk.nil _

set_option maxRecDepth 100000 in
set_option maxHeartbeats 400000 in
theorem rdAtPb : Meth Tryd.prog 69 155 sRdAt := by
  refine Meth.of (E := tbPb) (C := []) [] 0 [] tbPb_ok (CtsOk.nil _) (by kernel_rfl) Tryd.func69 rfl rfl rfl (by kernel_rfl) (by kernel_rfl) ?_ ?_
  · intro cs args pre r cs' h
    unfold sRdAt at h
    split at h
    · cases h; first | rfl | exact ⟨rfl, rfl⟩
    · cases h
  · intro cs args pre r cs' h hp
    unfold sRdAt at h
    split at h
    rotate_left
    · cases h
    rename_i l a b
    cases h
    generalize hA : Arith.std = A
    cbv

def sPBytes : SpecF
  | [.agg [.int .i64 c, .row 1], .agg [.int .i64 c', .row 2], .c (.str s)], [.glob gg sz0 n0 get0, .data fr ty sz n get, .data fr' ty2 sz2 m get2] => some (pbPre gg sz0 n0 get0 ty sz n get ty2 sz2 m get2, .c .tt, [.dead, .dead, .dead])
  | _, _ => none

set_option maxRecDepth 100000 in
set_option maxHeartbeats 32000000 in
theorem proofBytesP : Fn Tryd.prog 10 [0] [(115, 204), (115, 204)] sPBytes := by
  have hC : CtsOk Tryd.prog [(13, appFn [0] [] sFirst7), (15, appFn [] [(115, 204)] sLightPr), (31, appFn [] [(115, 204)] sMayPr), (62, appFn [] [(115, 204)] sMayPr), (32, appFn [] [(115, 204), (115, 204)] sSamePr), (21, appFn [] [(115, 204), (115, 204)] sSamePr), (63, appFn [] [(115, 204)] sSteps), (64, appFn [] [(115, 204)] sSteps), (65, appMakes 155 sOf), (66, appFn [] [] sRProof), (67, appFn [] [] sRRProof), (68, appMeth 155 sRdErr), (69, appMeth 155 sRdAt), (70, appMakesW 160 5), (72, appW 160 5 sBytes), (71, appFn [] [(115, 204)] sWProof), (73, appFn [] [(115, 204)] sRPutPr)] := CtsOk.cons (Fn.ct first7P) <| CtsOk.cons (Fn.ct lightPrP) <| CtsOk.cons (Fn.ct mayPrP) <| CtsOk.cons (Fn.ct rmayPrP) <| CtsOk.cons (Fn.ct samePrP) <| CtsOk.cons (Fn.ct rsamePrP) <| CtsOk.cons (Fn.ct stepsP) <| CtsOk.cons (Fn.ct rstepsP) <| CtsOk.cons (Makes.ct ofP) <| CtsOk.cons (Fn.ct rProofP) <| CtsOk.cons (Fn.ct rrProofP) <| CtsOk.cons (Meth.ct rdErrP) <| CtsOk.cons (Meth.ct rdAtPb) <| CtsOk.cons (MakesW.ct newWP) <| CtsOk.cons (MethW.ct bytesP) <| CtsOk.cons (Fn.ct wProofP) <| CtsOk.cons (Fn.ct rputPrP) <| CtsOk.nil _
  refine Fn.of (E := tbPb) [0] 0 [(5, [(0, true), (2, true), (1, false), (3, false), (4, true), (5, true), (6, true), (7, true), (9, true), (10, true), (8, false), (11, false), (12, true), (13, true), (14, true), (15, true), (17, true), (16, false), (18, false), (19, true), (20, true), (21, true), (22, true), (23, true), (24, false), (25, true), (26, true)]), (11, [(2017, false), (0, true), (2, true), (3, true), (4, true), (5, true), (1, false), (6, true), (7, true), (8, true), (10, true), (11, true), (12, true), (13, true), (9, false), (14, true), (15, true), (16, true), (17, true), (18, true), (19, true), (20, true), (21, true), (22, true), (23, true), (24, true), (25, false), (26, true), (27, true), (28, true)])] tbPb_ok hC (by kernel_rfl) Tryd.func10 rfl rfl rfl (by kernel_rfl) (by kernel_rfl) 3 5 1 ?_ ?_
  · intro args h pre r h' hs
    unfold sPBytes at hs
    split at hs
    · cases hs; exact ⟨rfl, rfl, Nat.le_of_ble_eq_true rfl⟩
    · cases hs
  · intro args h pre r h' hs hp
    unfold sPBytes at hs
    split at hs
    rotate_left
    · cases hs
    rename_i c c' s gg sz0 n0 get0 fr ty sz n get fr' ty2 sz2 m get2
    cases hs
    obtain ⟨hK, ⟨⟨rfl, rfl, hst⟩, hraw⟩, ⟨rfl, rfl, hst2⟩, hraw2⟩ := hp
    refine ⟨[.glob 0 1 64 (fun i => [.int .u32 (kOf i)]), .data fr 115 4 n (leafG false (leafL n get)), .data fr' 115 4 m (leafG false (leafL m get2))], ⟨hK.same.1, ⟨rfl, rfl, rfl, rfl, fun i j hi hj => by rw [hst i j hi hj]; exact Cell.le_refl _⟩, ⟨rfl, rfl, rfl, rfl, fun i j hi hj => by rw [hst2 i j hi hj]; exact Cell.le_refl _⟩, trivial⟩, ?_⟩
    clear hK
    have hKm : (leafL n get).length = n := leafL_len
    have eK0 : leafL n (fun i j => (leafG false (leafL n get) i j).old) = leafL n get := leaves0 hst
    have hKm2 : (leafL m get2).length = m := leafL_len
    have eK2 : leafL m (fun i j => (leafG false (leafL m get2) i j).old) = leafL m get2 := leaves0 hst2
    generalize leafL n get = K at hKm hraw eK0 ⊢
    generalize leafL m get2 = J at hKm2 hraw2 eK2 ⊢
    unfold sFirst7 sLightPr sMayPr sSamePr sSteps sOf sRProof sRRProof sRdErr sRdAt sBytes sWProof sRPutPr
    generalize hg0 : (List.length : List UInt8 → Nat) = g0
    generalize hL : lft Tryd.prog _ = L
    try unfold leafG
    generalize ho0 : @KsAt = zo0, ho1 : @kOf = zo1, ho2 : @lK = zo2, ho3 : @lV = zo3, ho4 : @lI = zo4, ho5 : @lP = zo5, ho6 : @lN = zo6, ho7 : @pG = zo7, ho8 : @leafL = zo8, ho9 : @leavesPre = zo9, ho10 : @mayL = zo10, ho11 : @lightL = zo11, ho12 : @leavesAt0 = zo12, ho13 : @lenL = zo13, ho14 : @pbPre = zo14, ho15 : @rProof = zo15, ho16 : @rProofS = zo16, ho17 : @okRd = zo17, ho18 : @rPutPre = zo18, ho19 : @wProof = zo19, ho20 : @prWPre = zo20, ho21 : @proofB = zo21, ho22 : @bytesW = zo22, ho23 : @badW = zo23, ho24 : @stepsL = zo24
    generalize hA : Arith.std = A
    cbv
    subst hA hg0 hL ho0 ho1 ho2 ho3 ho4 ho5 ho6 ho7 ho8 ho9 ho10 ho11 ho12 ho13 ho14 ho15 ho16 ho17 ho18 ho19 ho20 ho21 ho22 ho23 ho24
    refine Need.mk ksAt_self fun _ => Need.mk (leavesAt0_of eK0) fun _ => ?_
    simp only [Arith.std, Int.ofNat_eq_natCast, Int.toNat_natCast, eK0, eK2]
    refine Ife.mk (fun h => ?_) (fun h => ?_)
    · refine Need.mk ksAt_self fun _ => ?_
      exact ⟨[0, 1, 2], ⟨rfl, (by repeat' (first | exact trivial | exact rfl | apply And.intro | exact (fun _ _ _ _ => Cell.le_refl _) | (intro i hi; rfl) | (intro i hi; exact absurd hi (Nat.not_lt_zero _)))), (by show List.Nodup []; exact List.nodup_nil), rfl, by repeat' (first | exact trivial | exact rfl | apply And.intro | exact (fun _ _ _ _ => Cell.le_refl _) | (intro i hi; rfl) | (intro i hi; exact absurd hi (Nat.not_lt_zero _)))⟩⟩
    have hlp : lightL K = true := by simpa using h
    clear h
    obtain ⟨hK5, hKok⟩ := light_ok hlp hraw
    refine Need.mk (leavesAt0_of eK2) fun _ => ?_
    refine Ife.mk (fun h => ?_) (fun h => ?_)
    · refine Need.mk ksAt_self fun _ => ?_
      exact ⟨[0, 1, 2], ⟨rfl, (by repeat' (first | exact trivial | exact rfl | apply And.intro | exact (fun _ _ _ _ => Cell.le_refl _) | (intro i hi; rfl) | (intro i hi; exact absurd hi (Nat.not_lt_zero _)))), (by show List.Nodup []; exact List.nodup_nil), rfl, by repeat' (first | exact trivial | exact rfl | apply And.intro | exact (fun _ _ _ _ => Cell.le_refl _) | (intro i hi; rfl) | (intro i hi; exact absurd hi (Nat.not_lt_zero _)))⟩⟩
    have hlp2 : lightL J = true := by simpa using h
    clear h
    obtain ⟨hJ5, hJok⟩ := light_ok hlp2 hraw2
    refine Ife.mk (fun h => ?_) (fun c1 => ?_)
    · refine Need.mk ksAt_self fun _ => ?_
      exact ⟨[0, 1, 2], ⟨rfl, (by repeat' (first | exact trivial | exact rfl | apply And.intro | exact (fun _ _ _ _ => Cell.le_refl _) | (intro i hi; rfl) | (intro i hi; exact absurd hi (Nat.not_lt_zero _)))), (by show List.Nodup []; exact List.nodup_nil), rfl, by repeat' (first | exact trivial | exact rfl | apply And.intro | exact (fun _ _ _ _ => Cell.le_refl _) | (intro i hi; rfl) | (intro i hi; exact absurd hi (Nat.not_lt_zero _)))⟩⟩
    have q : leavesPre 115 4 n (fun i j => (leafG false K i j).old) := by rw [← hKm]; exact leavesPre_old hKok (by omega)
    have qJ : leavesPre 115 4 m (fun i j => (leafG false J i j).old) := by rw [← hKm2]; exact leavesPre_old hJok (by omega)
    refine Need.mk q fun _ => Need.mk q fun _ => ?_
    refine Ife.mk (fun h5 => absurd h5 (by simp)) (fun _ => ?_)
    refine Need.mk ⟨q, qJ⟩ fun _ => Need.mk ⟨q, qJ⟩ fun _ => ?_
    refine Ife.mk (fun h5 => absurd h5 (by simp)) (fun _ => ?_)
    refine Need.mk q fun _ => Need.mk q fun _ => ?_
    refine Ife.mk (fun h5 => absurd h5 (by simp)) (fun _ => ?_)
    refine Need.mk ⟨q, q⟩ fun _ => ?_
    refine Ife.mk (fun h5 => absurd h5 (by simp)) (fun _ => ?_)
    have c1 : ¬ (3000 : Int) < (s.length : Int) := of_decide_eq_false (p := (3000 : Int) < (s.length : Int)) c1
    have ho : okRd s 0 0 := ⟨Int.le_refl 0, by omega, by omega, Int.le_refl 0, by decide⟩
    refine Need.mk trivial fun _ => Need.mk ho fun _ => Need.mk ho fun _ => ?_
    have hst := agProof.st s (0, 0)
    simp only [hst]
    refine Need.mk trivial fun _ => ?_
    refine Ife.mk (fun h5 => absurd h5 (by simp)) (fun _ => ?_)
    refine Need.mk trivial fun _ => ?_
    refine Ife.mk (fun h5 => absurd h5 (by simp)) (fun _ => ?_)
    refine Ife.mk (fun hz => ?_) (fun hz => ?_)
    · have hz : (rProof s (0, 0)).2.2 = 0 := of_decide_eq_true (p := (rProof s (0, 0)).2.2 = 0) hz
      have hv := agProof.val s (0, 0) hz
      simp only [hv]
      have hV : proofV (rProof s (0, 0)).1 := (codecProof.one s 0 (rProof s (0, 0)).1 (rProof s (0, 0)).2.1 (Nat.zero_le _) (Prod.ext rfl (Prod.ext rfl hz))).1
      obtain ⟨okp, okl⟩ := proofV_ok hV
      have qr : leavesPre 115 4 (lenL (rProof s (0, 0)).1.2) (fun i j => (leafG true (rProof s (0, 0)).1.2 i j).old) := leavesPre_old okp (by omega)
      refine Need.mk ⟨qr, qr⟩ fun _ => ?_
      refine Ife.mk (fun h5 => absurd h5 (by simp)) (fun _ => ?_)
      refine Need.mk q fun _ => ?_
      refine Ife.mk (fun h => ?_) (fun h => ?_)
      · refine Need.mk ksAt_self fun _ => ?_
        exact ⟨[0, 1, 2], ⟨rfl, (by repeat' (first | exact trivial | exact rfl | apply And.intro | exact (fun _ _ _ _ => Cell.le_refl _) | (intro i hi; rfl) | (intro i hi; exact absurd hi (Nat.not_lt_zero _)))), (by show List.Nodup []; exact List.nodup_nil), rfl, by repeat' (first | exact trivial | exact rfl | apply And.intro | exact (fun _ _ _ _ => Cell.le_refl _) | (intro i hi; rfl) | (intro i hi; exact absurd hi (Nat.not_lt_zero _)))⟩⟩
      have hmay : mayL c K = true := by simpa using h
      have hV := may_V hmay hraw
      refine Need.mk trivial fun _ => Need.mk ⟨⟨rfl, rfl, proofV_fit hV (by decide)⟩, q⟩ fun _ => Need.mk trivial fun _ => Need.mk ⟨hV, q⟩ fun _ => ?_
      have hw := wProof_ok hV []
      simp only [hw]
      refine Ife.mk (fun _ => ?_) (fun h5 => absurd h5 (by simp [bytesW]))
      exact ⟨[0, 1, 2], ⟨rfl, (by repeat' (first | exact trivial | exact rfl | (simp [badW]; done) | apply And.intro)), (by show List.Nodup []; exact List.nodup_nil), rfl, by repeat' (first | exact trivial | exact rfl | apply And.intro | exact (fun _ _ _ _ => Cell.le_refl _) | (intro i hi; rfl) | (intro i hi; exact absurd hi (Nat.not_lt_zero _)))⟩⟩
    · skip
      refine Need.mk q fun _ => ?_
      refine Ife.mk (fun h => ?_) (fun h => ?_)
      · refine Need.mk ksAt_self fun _ => ?_
        exact ⟨[0, 1, 2], ⟨rfl, (by repeat' (first | exact trivial | exact rfl | apply And.intro | exact (fun _ _ _ _ => Cell.le_refl _) | (intro i hi; rfl) | (intro i hi; exact absurd hi (Nat.not_lt_zero _)))), (by show List.Nodup []; exact List.nodup_nil), rfl, by repeat' (first | exact trivial | exact rfl | apply And.intro | exact (fun _ _ _ _ => Cell.le_refl _) | (intro i hi; rfl) | (intro i hi; exact absurd hi (Nat.not_lt_zero _)))⟩⟩
      have hmay : mayL c K = true := by simpa using h
      have hV := may_V hmay hraw
      refine Need.mk trivial fun _ => Need.mk ⟨⟨rfl, rfl, proofV_fit hV (by decide)⟩, q⟩ fun _ => Need.mk trivial fun _ => Need.mk ⟨hV, q⟩ fun _ => ?_
      have hw := wProof_ok hV []
      simp only [hw]
      refine Ife.mk (fun _ => ?_) (fun h5 => absurd h5 (by simp [bytesW]))
      exact ⟨[0, 1, 2], ⟨rfl, (by repeat' (first | exact trivial | exact rfl | (simp [badW]; done) | apply And.intro)), (by show List.Nodup []; exact List.nodup_nil), rfl, by repeat' (first | exact trivial | exact rfl | apply And.intro | exact (fun _ _ _ _ => Cell.le_refl _) | (intro i hi; rfl) | (intro i hi; exact absurd hi (Nat.not_lt_zero _)))⟩⟩

end Go.Proofs.YthomoliklfmnkaaDoor.Vx
end

section
/- A proof that comes in, opened; the walk of ProofTells. -/
namespace Go.Proofs.YthomoliklfmnkaaDoor.Vx
open Sha
set_option linter.unusedVariables false
set_option linter.unusedSimpArgs false
theorem leafOf_eq0 {fr : Bool} {l : List PLeaf} {i : Nat} (hi : i < l.length) (hok : ∀ x ∈ l, ∀ h ∈ x.p, h.length = 32) : leafOf (leafG fr l i) = l[i] := by
  have e : l.getD i .none = l[i] := by simp [List.getD, hi]
  have hx := hok l[i] (List.getElem_mem hi)
  have ep : cHs (leafG fr l i 3) = l[i].p := by
    show (List.range (lN l i)).map (fun j => (pG (lP l i) j).map vInt) = _
    unfold lN lP
    rw [e]
    apply List.ext_getElem?
    intro j
    rw [List.getElem?_map]
    by_cases hj : j < l[i].p.length
    · rw [List.getElem?_range hj, List.getElem?_eq_getElem hj, Option.map_some]
      congr 1
      unfold pG
      rw [show l[i].p.getD j [] = l[i].p[j] by simp [List.getD, hj]]
      exact pG_vInt (hx _ (List.getElem_mem hj))
    · rw [List.getElem?_eq_none (by simp; omega), List.getElem?_eq_none (by omega)]; rfl
  unfold leafOf
  rw [ep]
  show PLeaf.mk (lK l i) (lV l i) (lI l i) _ = _
  unfold lK lV lI
  rw [e]
theorem leafL_eq0 {n : Nat} {get : Nat → Nat → Cell} {fr : Bool} {l : List PLeaf} (hn : l.length = n) (hok : ∀ x ∈ l, ∀ h ∈ x.p, h.length = 32) (h : ∀ i j, i < n → j < 4 → get i j = leafG fr l i j) : leafL n get = l := by
  apply List.ext_getElem (by simp [leafL, hn])
  intro i h1 h2
  have : leafOf (get i) = leafOf (leafG fr l i) := by
    unfold leafOf
    rw [h i 0 (by omega) (by omega), h i 1 (by omega) (by omega), h i 2 (by omega) (by omega), h i 3 (by omega) (by omega)]
  simp only [leafL, List.getElem_map, List.getElem_range, this]
  exact leafOf_eq0 h2 hok
theorem leaves_den {w : World} {L : List PLeaf} {v : Value} {ρ : List Pl} {k : Nat} {q : Pl} (hs : (Cell.ns false 115 4 L.length (leafG false L)).shows w (fun _ b => b < w.heap.size) v) (hq : q.v = v) (hk : ρ[k]? = some q := by rfl) : CV.den ρ (.row k) = some v := by
  obtain ⟨a, cap, h1, -⟩ := hs
  simp only [CV.den, hk]
  rw [hq, h1]
  rfl
theorem leafL_in {L : List PLeaf} (h : RawP L) : leafL L.length (leafG false L) = L := leafL_eq0 (fr := false) rfl (fun x hx y hy => (h x hx y hy).1) fun _ _ _ _ => rfl
theorem leavesAt0_in {L : List PLeaf} (h : RawP L) : leavesAt0 115 4 L.length (leafG false L) := ⟨rfl, rfl, fun i j _ _ => by rw [leafL_in h]⟩
end Go.Proofs.YthomoliklfmnkaaDoor.Vx
namespace Go.Proofs.YthomoliklfmnkaaDoor
open Go.ChangeShapes Go.WideShapes Go.ChangeAt Go.RowKit
set_option linter.unusedVariables false
set_option maxRecDepth 100000
/-- A proof that comes in: its leaves as data. -/
structure PfIn (w : World) (l : List Value) (c : Int) (L : List Vx.PLeaf) where
  v : Value
  cells : l = [.int .i64 c, v]
  sh : (Vx.Cell.ns false 115 4 L.length (Vx.leafG false L)).shows w (fun _ b => b < w.heap.size) v
  raw : Vx.RawP L
section
variable {H : Type} {enc : TypeId × Value → H} {w : World} {base : Nat}
theorem open_Pf {v : Value} {d : DataW H} {p : List MemPlace} (hv : Value.okWide Tryd.prog w .any base 27 v) (h : DataW.Trod enc Tryd.prog w 0 (fun _ => true) true 27 v d p) :
    ∃ (l : List Value) (c : Int) (L : List Vx.PLeaf), v = .agg l.toArray ∧ Nonempty (PfIn w l c L) := by
  obtain ⟨cs, rfl, hz⟩ := okWide_struct Tryd.underlying27 hv
  obtain ⟨fuel, hf⟩ := h
  obtain ⟨l, rfl⟩ : ∃ l : List Value, cs = l.toArray := ⟨cs.toList, by simp⟩
  simp only [Value.cells] at hf
  obtain ⟨c, v, L, e, h1, h2, h3⟩ := trod_Proof hf
  exact ⟨l, c, L, rfl, ⟨⟨v, e, h1, fun x hx => (h3 x hx).2.2⟩⟩⟩
end
end Go.Proofs.YthomoliklfmnkaaDoor
end
