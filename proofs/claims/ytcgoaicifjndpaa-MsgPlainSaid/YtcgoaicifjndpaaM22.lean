/- Messages read, by the walker. -/
import Derived.Test.YtcgoaicifjndpaaM21
section
namespace Go.Proofs.Ytcgoaicifjndpaa.Vx
open Go.RowKit
set_option linter.unusedVariables false
set_option linter.unusedSimpArgs false
theorem h32_nums (m : List UInt8) : h32 (rN (numsOf m)) = h32 (byteI m) := by
  unfold h32 rN
  simp only [nums_get m (show 0 < 32 by decide), nums_get m (show 1 < 32 by decide), nums_get m (show 2 < 32 by decide), nums_get m (show 3 < 32 by decide), nums_get m (show 4 < 32 by decide), nums_get m (show 5 < 32 by decide), nums_get m (show 6 < 32 by decide), nums_get m (show 7 < 32 by decide), nums_get m (show 8 < 32 by decide), nums_get m (show 9 < 32 by decide), nums_get m (show 10 < 32 by decide), nums_get m (show 11 < 32 by decide), nums_get m (show 12 < 32 by decide), nums_get m (show 13 < 32 by decide), nums_get m (show 14 < 32 by decide), nums_get m (show 15 < 32 by decide), nums_get m (show 16 < 32 by decide), nums_get m (show 17 < 32 by decide), nums_get m (show 18 < 32 by decide), nums_get m (show 19 < 32 by decide), nums_get m (show 20 < 32 by decide), nums_get m (show 21 < 32 by decide), nums_get m (show 22 < 32 by decide), nums_get m (show 23 < 32 by decide), nums_get m (show 24 < 32 by decide), nums_get m (show 25 < 32 by decide), nums_get m (show 26 < 32 by decide), nums_get m (show 27 < 32 by decide), nums_get m (show 28 < 32 by decide), nums_get m (show 29 < 32 by decide), nums_get m (show 30 < 32 by decide), nums_get m (show 31 < 32 by decide)]
theorem msgC_nums {k x y : Int} {m : List UInt8} {pk : Pkt} {ack : List UInt8} {nx hg pc cc : Int} {pl cl : List PLeaf} {u v : CV} : msgC ⟨k, x, y, numsOf m, pk, ack, nx, hg, pc, pl, cc, cl⟩ u v = .int .i64 k :: .int .i64 x :: .int .i64 y :: (h32 (byteI m) ++ (pkC pk ++ [.str ack, .int .i64 nx, .int .i64 hg, .int .i64 pc, u, .int .i64 cc, v])) := by
  unfold msgC msgCP
  rw [h32_nums]
def sRMsg : SpecF
  | [.c (.ptr 0 0)], [.cells t [.str l, .int .i64 a, .int .i64 b]] => some (t = 196 ∧ okRd l a b, .agg (msgC (rMsg l (a, b)).1 (.row 1) (.row 2)), [.cells 196 [.str l, .int .i64 (rMsg l (a, b)).2.1, .int .i64 (rMsg l (a, b)).2.2], .data true 140 4 (lenL (rMsg l (a, b)).1.pl) (leafG true (rMsg l (a, b)).1.pl), .data true 140 4 (lenL (rMsg l (a, b)).1.cl) (leafG true (rMsg l (a, b)).1.cl)])
  | _, _ => none

set_option maxRecDepth 100000 in
set_option maxHeartbeats 16000000 in
theorem rMsgP : Fn Try.prog 114 [] [] sRMsg := by
  have hC : CtsOk Try.prog [(134, appMeth 196 sRdNum), (135, appMeth 196 sRdText), (158, appMeth 196 sHash), (159, appMeth 196 sRdPk), (160, appFn [] [] sRProof), (119, appPure sNextK)] := CtsOk.cons (Meth.ct rdNumP) <| CtsOk.cons (Meth.ct rdTextP) <| CtsOk.cons (Meth.ct rdHashP) <| CtsOk.cons (Meth.ct rdPkP) <| CtsOk.cons (Fn.ct rProofP) <| CtsOk.cons (Pure.ct nextKP) <| CtsOk.nil _
  refine Fn.ofZ (E := tbR) [] 0 [] tbR_ok hC (by kernel_rfl) Try.func114 rfl rfl rfl (by kernel_rfl) (by kernel_rfl) 1 (.data true 140 4 0 fun _ _ => .pl .tt) rfl ?_ ?_
  · intro args h pre r h' hs
    unfold sRMsg at hs
    split at hs
    · cases hs; exact ⟨rfl, rfl, Nat.le_of_ble_eq_true rfl⟩
    · cases hs
  · intro args h pre r h' hs hp
    unfold sRMsg at hs
    split at hs
    rotate_left
    · cases hs
    rename_i t l a b
    cases hs
    obtain ⟨rfl, hok⟩ := hp
    refine ⟨[.cells 196 [.str l, .int .i64 a, .int .i64 b]], ⟨rfl, trivial⟩, ?_⟩
    unfold sRdNum sRdText sHash sRdPk sRProof sNextK
    try unfold leafG
    try unfold msgC
    generalize ho0 : @lK = zo0, ho1 : @lV = zo1, ho2 : @lI = zo2, ho3 : @lP = zo3, ho4 : @lN = zo4, ho5 : @pG = zo5, ho6 : @rProof = zo6, ho7 : @hashS = zo7, ho8 : @byteI = zo8, ho9 : @okRd = zo9, ho10 : @textS = zo10, ho11 : @numS = zo11, ho12 : @lenL = zo12, ho13 : @rPk = zo13, ho14 : @rN = zo14, ho15 : @nextB = zo15, ho16 : @rMsg = zo16
    generalize hA : Arith.std = A
    cbv
    subst hA ho0 ho1 ho2 ho3 ho4 ho5 ho6 ho7 ho8 ho9 ho10 ho11 ho12 ho13 ho14 ho15 ho16
    have z1 := ok_num (lo := 1) (hi := 5) hok
    generalize e1 : numS l a b 1 5 = t at *
    obtain ⟨k, a1, b1⟩ := t
    dsimp only at *
    refine Need.mk hok fun _ => Ife.mk (fun hk => ?_) (fun hk => ?_)
    · replace hk : k = 1 := of_decide_eq_true (p := k = 1) hk
      subst hk
      have z2 := ok_num (lo := 1) (hi := 1099511627776) z1
      generalize e2 : numS l a1 b1 1 1099511627776 = t at *
      obtain ⟨x, a2, b2⟩ := t
      dsimp only at *
      have z3 := ok_num (lo := 0) (hi := 1099511627776) z2
      generalize e3 : numS l a2 b2 0 1099511627776 = t at *
      obtain ⟨y, a3, b3⟩ := t
      dsimp only at *
      refine Need.mk z1 fun _ => Need.mk z2 fun _ => Need.mk z3 fun _ => ?_
      rw [rMsg_upd (s := (a, b)) (s1 := (a1, b1)) (s2 := (a2, b2)) (s3 := (a3, b3)) e1 e2 e3]
      try dsimp only
      rw [show msgCP rN = msgC from rfl, msgC_nums]
      exact ⟨[], [0, 3, 3], ⟨trivial, rfl, (by repeat' (first | exact (fun i j hi _ => absurd hi (Nat.not_lt_zero _)) | exact trivial | exact rfl | apply And.intro | exact (fun _ _ _ _ => Cell.le_refl _) | (intro i hi; rfl) | (intro i hi; exact absurd hi (Nat.not_lt_zero _)))), (by show List.Nodup [0]; decide), rfl, (by repeat' (first | exact (fun i j hi _ => absurd hi (Nat.not_lt_zero _)) | exact trivial | exact rfl | apply And.intro | exact (fun _ _ _ _ => Cell.le_refl _) | (intro i hi; rfl) | (intro i hi; exact absurd hi (Nat.not_lt_zero _))))⟩⟩
    replace hk : ¬ k = 1 := of_decide_eq_false (p := k = 1) hk
    have z2 := ok_pk' z1
    generalize e2 : rPk l (a1, b1) = t at *
    obtain ⟨⟨sp, sc, dp, dc, sq, da, th, ta⟩, a2, b2⟩ := t
    dsimp only at *
    refine Need.mk z1 fun _ => ?_
    refine Ife.mk (fun h3 => ?_) (fun h3 => ?_)
    · replace h3 : k = 3 := of_decide_eq_true (p := k = 3) h3
      have z3 := ok_text (hi := 32) z2
      generalize e3 : textS l a2 b2 32 = t at *
      obtain ⟨ack, a3, b3⟩ := t
      dsimp only at *
      refine Need.mk z2 fun _ => ?_
      refine Need.mk trivial fun _ => Ife.mk (fun hn => ?_) (fun hn => ?_)
      · replace hn : nextB k = true := hn
        have z4 := ok_num (lo := 0) (hi := 1099511627777) z3
        generalize e4 : numS l a3 b3 0 1099511627777 = t at *
        obtain ⟨nx, a4, b4⟩ := t
        dsimp only at *
        refine Need.mk z3 fun _ => ?_
        have z5 := ok_num (lo := 1) (hi := 1099511627776) z4
        generalize e5 : numS l a4 b4 1 1099511627776 = t at *
        obtain ⟨hg, a5, b5⟩ := t
        dsimp only at *
        have z6 := ok_proof z5
        generalize e6 : rProof l (a5, b5) = t at *
        obtain ⟨⟨pc, pl⟩, a6, b6⟩ := t
        dsimp only at *
        refine Need.mk z4 fun _ => Need.mk z5 fun _ => Ife.mk (fun h5 => ?_) (fun h5 => ?_)
        · replace h5 : k = 5 := of_decide_eq_true (p := k = 5) h5
          have z7 := ok_proof z6
          generalize e7 : rProof l (a6, b6) = t at *
          obtain ⟨⟨cc, cl⟩, a7, b7⟩ := t
          dsimp only at *
          refine Need.mk z6 fun _ => ?_
          rw [rMsg_oth (s := (a, b)) (s1 := (a1, b1)) (p := ⟨sp, sc, dp, dc, sq, da, th, ta⟩) (s2 := (a2, b2)) (a := ack) (s3 := (a3, b3)) (n := nx) (s4 := (a4, b4)) (g := hg) (s5 := (a5, b5)) (q := (pc, pl)) (s6 := (a6, b6)) (c := (cc, cl)) (s7 := (a7, b7)) e1 hk e2 (by rw [decide_eq_true h3]; exact e3) (by rw [hn]; exact e4) e5 e6 (by rw [decide_eq_true h5]; exact e7)]
          try dsimp only
          exact ⟨[], [0, 3, 4], ⟨trivial, rfl, (by repeat' (first | exact (fun i j hi _ => absurd hi (Nat.not_lt_zero _)) | exact trivial | exact rfl | apply And.intro | exact (fun _ _ _ _ => Cell.le_refl _) | (intro i hi; rfl) | (intro i hi; exact absurd hi (Nat.not_lt_zero _)))), (by show List.Nodup [0]; decide), rfl, (by repeat' (first | exact (fun i j hi _ => absurd hi (Nat.not_lt_zero _)) | exact trivial | exact rfl | apply And.intro | exact (fun _ _ _ _ => Cell.le_refl _) | (intro i hi; rfl) | (intro i hi; exact absurd hi (Nat.not_lt_zero _))))⟩⟩
        · replace h5 : ¬ k = 5 := of_decide_eq_false (p := k = 5) h5
          rw [rMsg_oth (s := (a, b)) (s1 := (a1, b1)) (p := ⟨sp, sc, dp, dc, sq, da, th, ta⟩) (s2 := (a2, b2)) (a := ack) (s3 := (a3, b3)) (n := nx) (s4 := (a4, b4)) (g := hg) (s5 := (a5, b5)) (q := (pc, pl)) (s6 := (a6, b6)) (c := (0, [])) (s7 := (a6, b6)) e1 hk e2 (by rw [decide_eq_true h3]; exact e3) (by rw [hn]; exact e4) e5 e6 (by rw [decide_eq_false h5]; rfl)]
          try dsimp only
          exact ⟨[], [0, 3, 4], ⟨trivial, rfl, (by repeat' (first | exact (fun i j hi _ => absurd hi (Nat.not_lt_zero _)) | exact trivial | exact rfl | apply And.intro | exact (fun _ _ _ _ => Cell.le_refl _) | (intro i hi; rfl) | (intro i hi; exact absurd hi (Nat.not_lt_zero _)))), (by show List.Nodup [0]; decide), rfl, (by repeat' (first | exact (fun i j hi _ => absurd hi (Nat.not_lt_zero _)) | exact trivial | exact rfl | apply And.intro | exact (fun _ _ _ _ => Cell.le_refl _) | (intro i hi; rfl) | (intro i hi; exact absurd hi (Nat.not_lt_zero _))))⟩⟩
      · replace hn : nextB k = false := hn
        have z5 := ok_num (lo := 1) (hi := 1099511627776) z3
        generalize e5 : numS l a3 b3 1 1099511627776 = t at *
        obtain ⟨hg, a5, b5⟩ := t
        dsimp only at *
        have z6 := ok_proof z5
        generalize e6 : rProof l (a5, b5) = t at *
        obtain ⟨⟨pc, pl⟩, a6, b6⟩ := t
        dsimp only at *
        refine Need.mk z3 fun _ => Need.mk z5 fun _ => Ife.mk (fun h5 => ?_) (fun h5 => ?_)
        · replace h5 : k = 5 := of_decide_eq_true (p := k = 5) h5
          have z7 := ok_proof z6
          generalize e7 : rProof l (a6, b6) = t at *
          obtain ⟨⟨cc, cl⟩, a7, b7⟩ := t
          dsimp only at *
          refine Need.mk z6 fun _ => ?_
          rw [rMsg_oth (s := (a, b)) (s1 := (a1, b1)) (p := ⟨sp, sc, dp, dc, sq, da, th, ta⟩) (s2 := (a2, b2)) (a := ack) (s3 := (a3, b3)) (n := 0) (s4 := (a3, b3)) (g := hg) (s5 := (a5, b5)) (q := (pc, pl)) (s6 := (a6, b6)) (c := (cc, cl)) (s7 := (a7, b7)) e1 hk e2 (by rw [decide_eq_true h3]; exact e3) (by rw [hn]; rfl) e5 e6 (by rw [decide_eq_true h5]; exact e7)]
          try dsimp only
          exact ⟨[], [0, 3, 4], ⟨trivial, rfl, (by repeat' (first | exact (fun i j hi _ => absurd hi (Nat.not_lt_zero _)) | exact trivial | exact rfl | apply And.intro | exact (fun _ _ _ _ => Cell.le_refl _) | (intro i hi; rfl) | (intro i hi; exact absurd hi (Nat.not_lt_zero _)))), (by show List.Nodup [0]; decide), rfl, (by repeat' (first | exact (fun i j hi _ => absurd hi (Nat.not_lt_zero _)) | exact trivial | exact rfl | apply And.intro | exact (fun _ _ _ _ => Cell.le_refl _) | (intro i hi; rfl) | (intro i hi; exact absurd hi (Nat.not_lt_zero _))))⟩⟩
        · replace h5 : ¬ k = 5 := of_decide_eq_false (p := k = 5) h5
          rw [rMsg_oth (s := (a, b)) (s1 := (a1, b1)) (p := ⟨sp, sc, dp, dc, sq, da, th, ta⟩) (s2 := (a2, b2)) (a := ack) (s3 := (a3, b3)) (n := 0) (s4 := (a3, b3)) (g := hg) (s5 := (a5, b5)) (q := (pc, pl)) (s6 := (a6, b6)) (c := (0, [])) (s7 := (a6, b6)) e1 hk e2 (by rw [decide_eq_true h3]; exact e3) (by rw [hn]; rfl) e5 e6 (by rw [decide_eq_false h5]; rfl)]
          try dsimp only
          exact ⟨[], [0, 3, 4], ⟨trivial, rfl, (by repeat' (first | exact (fun i j hi _ => absurd hi (Nat.not_lt_zero _)) | exact trivial | exact rfl | apply And.intro | exact (fun _ _ _ _ => Cell.le_refl _) | (intro i hi; rfl) | (intro i hi; exact absurd hi (Nat.not_lt_zero _)))), (by show List.Nodup [0]; decide), rfl, (by repeat' (first | exact (fun i j hi _ => absurd hi (Nat.not_lt_zero _)) | exact trivial | exact rfl | apply And.intro | exact (fun _ _ _ _ => Cell.le_refl _) | (intro i hi; rfl) | (intro i hi; exact absurd hi (Nat.not_lt_zero _))))⟩⟩
    · replace h3 : ¬ k = 3 := of_decide_eq_false (p := k = 3) h3
      refine Need.mk trivial fun _ => Ife.mk (fun hn => ?_) (fun hn => ?_)
      · replace hn : nextB k = true := hn
        have z4 := ok_num (lo := 0) (hi := 1099511627777) z2
        generalize e4 : numS l a2 b2 0 1099511627777 = t at *
        obtain ⟨nx, a4, b4⟩ := t
        dsimp only at *
        refine Need.mk z2 fun _ => ?_
        have z5 := ok_num (lo := 1) (hi := 1099511627776) z4
        generalize e5 : numS l a4 b4 1 1099511627776 = t at *
        obtain ⟨hg, a5, b5⟩ := t
        dsimp only at *
        have z6 := ok_proof z5
        generalize e6 : rProof l (a5, b5) = t at *
        obtain ⟨⟨pc, pl⟩, a6, b6⟩ := t
        dsimp only at *
        refine Need.mk z4 fun _ => Need.mk z5 fun _ => Ife.mk (fun h5 => ?_) (fun h5 => ?_)
        · replace h5 : k = 5 := of_decide_eq_true (p := k = 5) h5
          have z7 := ok_proof z6
          generalize e7 : rProof l (a6, b6) = t at *
          obtain ⟨⟨cc, cl⟩, a7, b7⟩ := t
          dsimp only at *
          refine Need.mk z6 fun _ => ?_
          rw [rMsg_oth (s := (a, b)) (s1 := (a1, b1)) (p := ⟨sp, sc, dp, dc, sq, da, th, ta⟩) (s2 := (a2, b2)) (a := []) (s3 := (a2, b2)) (n := nx) (s4 := (a4, b4)) (g := hg) (s5 := (a5, b5)) (q := (pc, pl)) (s6 := (a6, b6)) (c := (cc, cl)) (s7 := (a7, b7)) e1 hk e2 (by rw [decide_eq_false h3]; rfl) (by rw [hn]; exact e4) e5 e6 (by rw [decide_eq_true h5]; exact e7)]
          try dsimp only
          exact ⟨[], [0, 3, 4], ⟨trivial, rfl, (by repeat' (first | exact (fun i j hi _ => absurd hi (Nat.not_lt_zero _)) | exact trivial | exact rfl | apply And.intro | exact (fun _ _ _ _ => Cell.le_refl _) | (intro i hi; rfl) | (intro i hi; exact absurd hi (Nat.not_lt_zero _)))), (by show List.Nodup [0]; decide), rfl, (by repeat' (first | exact (fun i j hi _ => absurd hi (Nat.not_lt_zero _)) | exact trivial | exact rfl | apply And.intro | exact (fun _ _ _ _ => Cell.le_refl _) | (intro i hi; rfl) | (intro i hi; exact absurd hi (Nat.not_lt_zero _))))⟩⟩
        · replace h5 : ¬ k = 5 := of_decide_eq_false (p := k = 5) h5
          rw [rMsg_oth (s := (a, b)) (s1 := (a1, b1)) (p := ⟨sp, sc, dp, dc, sq, da, th, ta⟩) (s2 := (a2, b2)) (a := []) (s3 := (a2, b2)) (n := nx) (s4 := (a4, b4)) (g := hg) (s5 := (a5, b5)) (q := (pc, pl)) (s6 := (a6, b6)) (c := (0, [])) (s7 := (a6, b6)) e1 hk e2 (by rw [decide_eq_false h3]; rfl) (by rw [hn]; exact e4) e5 e6 (by rw [decide_eq_false h5]; rfl)]
          try dsimp only
          exact ⟨[], [0, 3, 4], ⟨trivial, rfl, (by repeat' (first | exact (fun i j hi _ => absurd hi (Nat.not_lt_zero _)) | exact trivial | exact rfl | apply And.intro | exact (fun _ _ _ _ => Cell.le_refl _) | (intro i hi; rfl) | (intro i hi; exact absurd hi (Nat.not_lt_zero _)))), (by show List.Nodup [0]; decide), rfl, (by repeat' (first | exact (fun i j hi _ => absurd hi (Nat.not_lt_zero _)) | exact trivial | exact rfl | apply And.intro | exact (fun _ _ _ _ => Cell.le_refl _) | (intro i hi; rfl) | (intro i hi; exact absurd hi (Nat.not_lt_zero _))))⟩⟩
      · replace hn : nextB k = false := hn
        have z5 := ok_num (lo := 1) (hi := 1099511627776) z2
        generalize e5 : numS l a2 b2 1 1099511627776 = t at *
        obtain ⟨hg, a5, b5⟩ := t
        dsimp only at *
        have z6 := ok_proof z5
        generalize e6 : rProof l (a5, b5) = t at *
        obtain ⟨⟨pc, pl⟩, a6, b6⟩ := t
        dsimp only at *
        refine Need.mk z2 fun _ => Need.mk z5 fun _ => Ife.mk (fun h5 => ?_) (fun h5 => ?_)
        · replace h5 : k = 5 := of_decide_eq_true (p := k = 5) h5
          have z7 := ok_proof z6
          generalize e7 : rProof l (a6, b6) = t at *
          obtain ⟨⟨cc, cl⟩, a7, b7⟩ := t
          dsimp only at *
          refine Need.mk z6 fun _ => ?_
          rw [rMsg_oth (s := (a, b)) (s1 := (a1, b1)) (p := ⟨sp, sc, dp, dc, sq, da, th, ta⟩) (s2 := (a2, b2)) (a := []) (s3 := (a2, b2)) (n := 0) (s4 := (a2, b2)) (g := hg) (s5 := (a5, b5)) (q := (pc, pl)) (s6 := (a6, b6)) (c := (cc, cl)) (s7 := (a7, b7)) e1 hk e2 (by rw [decide_eq_false h3]; rfl) (by rw [hn]; rfl) e5 e6 (by rw [decide_eq_true h5]; exact e7)]
          try dsimp only
          exact ⟨[], [0, 3, 4], ⟨trivial, rfl, (by repeat' (first | exact (fun i j hi _ => absurd hi (Nat.not_lt_zero _)) | exact trivial | exact rfl | apply And.intro | exact (fun _ _ _ _ => Cell.le_refl _) | (intro i hi; rfl) | (intro i hi; exact absurd hi (Nat.not_lt_zero _)))), (by show List.Nodup [0]; decide), rfl, (by repeat' (first | exact (fun i j hi _ => absurd hi (Nat.not_lt_zero _)) | exact trivial | exact rfl | apply And.intro | exact (fun _ _ _ _ => Cell.le_refl _) | (intro i hi; rfl) | (intro i hi; exact absurd hi (Nat.not_lt_zero _))))⟩⟩
        · replace h5 : ¬ k = 5 := of_decide_eq_false (p := k = 5) h5
          rw [rMsg_oth (s := (a, b)) (s1 := (a1, b1)) (p := ⟨sp, sc, dp, dc, sq, da, th, ta⟩) (s2 := (a2, b2)) (a := []) (s3 := (a2, b2)) (n := 0) (s4 := (a2, b2)) (g := hg) (s5 := (a5, b5)) (q := (pc, pl)) (s6 := (a6, b6)) (c := (0, [])) (s7 := (a6, b6)) e1 hk e2 (by rw [decide_eq_false h3]; rfl) (by rw [hn]; rfl) e5 e6 (by rw [decide_eq_false h5]; rfl)]
          try dsimp only
          exact ⟨[], [0, 3, 4], ⟨trivial, rfl, (by repeat' (first | exact (fun i j hi _ => absurd hi (Nat.not_lt_zero _)) | exact trivial | exact rfl | apply And.intro | exact (fun _ _ _ _ => Cell.le_refl _) | (intro i hi; rfl) | (intro i hi; exact absurd hi (Nat.not_lt_zero _)))), (by show List.Nodup [0]; decide), rfl, (by repeat' (first | exact (fun i j hi _ => absurd hi (Nat.not_lt_zero _)) | exact trivial | exact rfl | apply And.intro | exact (fun _ _ _ _ => Cell.le_refl _) | (intro i hi; rfl) | (intro i hi; exact absurd hi (Nat.not_lt_zero _))))⟩⟩

end Go.Proofs.Ytcgoaicifjndpaa.Vx
end

section
/- Messages encoded and decoded, by the walker. -/
namespace Go.Proofs.Ytcgoaicifjndpaa.Vx
open Go.RowKit
set_option linter.unusedVariables false
set_option linter.unusedSimpArgs false
theorem decMsg_eq (l : List UInt8) : decMsg l = if endS l (rMsg l (0, 0)).2.1 (rMsg l (0, 0)).2.2 ≠ 0 then (zeroMsg, endS l (rMsg l (0, 0)).2.1 (rMsg l (0, 0)).2.2) else if mayM (rMsg l (0, 0)).1 then ((rMsg l (0, 0)).1, 0) else (zeroMsg, 1) := rfl
theorem ok_msg {l : List UInt8} {a b : Int} (h : okRd l a b) : okRd l (rMsg l (a, b)).2.1 (rMsg l (a, b)).2.2 := by
  have aux : ∀ (k : Int) (s : Int × Int), okS l s → okS l (rRest k l s).2 := fun k s h => by
    have hdr : ∀ s, okS l s → okS l (rHdr l s).2 := fun s h => okS_hash (okS_num (okS_num h))
    have step : ∀ {α : Type} (c : Bool) (d : α) (r : List UInt8 → Int × Int → α × Int × Int) (s : Int × Int), (∀ s, okS l s → okS l (r l s).2) → okS l s → okS l (rIf c d r l s).2 := fun c d r s hr h => by
      unfold rIf
      split
      · exact hr s h
      · exact h
    unfold rRest
    dsimp only
    exact step _ _ _ _ (fun _ => okS_proof) (step _ _ _ _ (fun _ => okS_proof) (step _ _ _ _ (fun _ => okS_num) (step _ _ _ _ (fun _ => okS_num) (step _ _ _ _ (fun _ => okS_text) (step _ _ _ _ (fun _ => okS_pk) (step _ _ _ _ hdr h))))))
  exact aux _ _ (okS_num (s := (a, b)) h)


end Go.Proofs.Ytcgoaicifjndpaa.Vx
end

section
/- Messages decoded, by the walker. -/
namespace Go.Proofs.Ytcgoaicifjndpaa.Vx
open Go.RowKit
set_option linter.unusedVariables false
set_option linter.unusedSimpArgs false
def sDecM : SpecF
  | [.c (.str l)], [] => some (l.length ≤ 140737488351232, .tup [(none, msgC (decMsg l).1 (.row 0) (.row 1)), (some (.int .i64 (decMsg l).2), [])], [.data true 140 4 (lenL (decMsg l).1.pl) (leafG true (decMsg l).1.pl), .data true 140 4 (lenL (decMsg l).1.cl) (leafG true (decMsg l).1.cl)])
  | _, _ => none

set_option maxRecDepth 100000 in
set_option maxHeartbeats 16000000 in
theorem decMP : Fn Try.prog 62 [] [] sDecM := by
  have hC : CtsOk Try.prog [(112, appPure sLebNext), (113, appMakes 196 sOf), (114, appFn [] [] sRMsg), (115, appMeth 196 sRdEnd), (50, appFn [] [(140, 204), (140, 204)] sMayM)] := CtsOk.cons (Pure.ct lebNextP) <| CtsOk.cons (Makes.ct ofP) <| CtsOk.cons (Fn.ct rMsgP) <| CtsOk.cons (Meth.ct rdEndP) <| CtsOk.cons (Fn.ct mayMP) <| CtsOk.nil _
  refine Fn.ofZ (E := tbR) [] 0 [] tbR_ok hC (by kernel_rfl) Try.func62 rfl rfl rfl (by kernel_rfl) (by kernel_rfl) 0 (.data true 140 4 0 fun _ _ => .pl .tt) rfl ?_ ?_
  · intro args h pre r h' hs
    unfold sDecM at hs
    split at hs
    · cases hs; exact ⟨rfl, rfl, Nat.le_of_ble_eq_true rfl⟩
    · cases hs
  · intro args h pre r h' hs hp
    unfold sDecM at hs
    split at hs
    rotate_left
    · cases hs
    rename_i l
    cases hs
    refine ⟨[], trivial, ?_⟩
    unfold sLebNext sOf sRMsg sRdEnd sMayM
    generalize hg0 : (List.length : List UInt8 → Nat) = g0
    try unfold leafG
    try unfold msgC
    generalize ho0 : @lK = zo0, ho1 : @lV = zo1, ho2 : @lI = zo2, ho3 : @lP = zo3, ho4 : @lN = zo4, ho5 : @pG = zo5, ho6 : @rN = zo6, ho7 : @msgPre = zo7, ho8 : @lenL = zo8, ho9 : @mayM = zo9, ho10 : @msgOf = zo10, ho11 : @isI64 = zo11, ho12 : @rMsg = zo12, ho13 : @decMsg = zo13, ho14 : @Leb.next = zo14, ho15 : @okRd = zo15, ho16 : @endS = zo16
    generalize hA : Arith.std = A
    cbv
    subst hA hg0 ho0 ho1 ho2 ho3 ho4 ho5 ho6 ho7 ho8 ho9 ho10 ho11 ho12 ho13 ho14 ho15 ho16
    refine Need.mk ⟨hp, by unfold isI64; omega⟩ fun _ => Ife.mk (fun h1 => ?_) (fun h1 => ?_)
    · have h1 : (Leb.next l 0).2.2 ≠ 0 := by simpa [Arith.std] using h1
      rw [decMsg_bad h1]
      exact ⟨[], [1, 1], ⟨trivial, rfl, (by repeat' (first | exact (fun i j hi _ => absurd hi (Nat.not_lt_zero _)) | exact trivial | exact rfl | apply And.intro | exact (fun _ _ _ _ => Cell.le_refl _) | (intro i hi; rfl) | (intro i hi; exact absurd hi (Nat.not_lt_zero _)))), (by show List.Nodup []; exact List.nodup_nil), rfl, (by repeat' (first | exact (fun i j hi _ => absurd hi (Nat.not_lt_zero _)) | exact trivial | exact rfl | apply And.intro | exact (fun _ _ _ _ => Cell.le_refl _) | (intro i hi; rfl) | (intro i hi; exact absurd hi (Nat.not_lt_zero _))))⟩⟩
    have h0 : okRd l 0 0 := ok_start hp
    have h2 := ok_msg h0
    have hdec := decMsg_eq l
    have hV0 := fun h => rMsg_V (l := l) h
    refine Need.mk trivial fun _ => Need.mk h0 fun _ => ?_
    generalize rMsg l (0, 0) = M at *
    obtain ⟨⟨k, hh, ht, hr, ⟨sp, sc, dp, dc, sq, da, th, ta⟩, ack, nx, hg, pc, pl, cc, cl⟩, a1, b1⟩ := M
    dsimp only at *
    refine Need.mk h2 fun _ => Ife.mk (fun h3 => ?_) (fun h3 => ?_)
    · have h3 : endS l a1 b1 ≠ 0 := by simpa [Arith.std] using h3
      rw [hdec, if_pos h3]
      exact ⟨[], [5, 5], ⟨trivial, rfl, (by repeat' (first | exact (fun i j hi _ => absurd hi (Nat.not_lt_zero _)) | exact trivial | exact rfl | apply And.intro | exact (fun _ _ _ _ => Cell.le_refl _) | (intro i hi; rfl) | (intro i hi; exact absurd hi (Nat.not_lt_zero _)))), (by show List.Nodup []; exact List.nodup_nil), rfl, (by repeat' (first | exact (fun i j hi _ => absurd hi (Nat.not_lt_zero _)) | exact trivial | exact rfl | apply And.intro | exact (fun _ _ _ _ => Cell.le_refl _) | (intro i hi; rfl) | (intro i hi; exact absurd hi (Nat.not_lt_zero _))))⟩⟩
    have h3 : endS l a1 b1 = 0 := by simpa [Arith.std] using h3
    rw [if_neg (by simp [h3])] at hdec
    have hok0 := msgV_ok (hV0 h3)
    refine Need.mk (msgPre_n (m := ⟨k, hh, ht, hr, ⟨sp, sc, dp, dc, sq, da, th, ta⟩, ack, nx, hg, pc, pl, cc, cl⟩) (a := .row 0) (b := .row 1) hok0 rfl rfl) fun _ => ?_
    have z := msgOf_n (m := ⟨k, hh, ht, hr, ⟨sp, sc, dp, dc, sq, da, th, ta⟩, ack, nx, hg, pc, pl, cc, cl⟩) (a := .row 0) (b := .row 1) (n := lenL pl) (n' := lenL cl) (fr := true) (fr' := true) hok0 rfl rfl
    simp only [msgC, msgCP, h32, pkC, List.cons_append, List.nil_append] at z
    rw [z]
    refine Ife.mk (fun hm => ?_) (fun hm => ?_)
    · replace hm : (!mayM ⟨k, hh, ht, hr, ⟨sp, sc, dp, dc, sq, da, th, ta⟩, ack, nx, hg, pc, pl, cc, cl⟩) = true := hm
      rw [Bool.not_eq_true'] at hm
      rw [hdec, if_neg (by rw [hm]; decide)]
      exact ⟨[], [7, 7], ⟨trivial, rfl, (by repeat' (first | exact (fun i j hi _ => absurd hi (Nat.not_lt_zero _)) | exact trivial | exact rfl | apply And.intro | exact (fun _ _ _ _ => Cell.le_refl _) | (intro i hi; rfl) | (intro i hi; exact absurd hi (Nat.not_lt_zero _)))), (by show List.Nodup []; exact List.nodup_nil), rfl, (by repeat' (first | exact (fun i j hi _ => absurd hi (Nat.not_lt_zero _)) | exact trivial | exact rfl | apply And.intro | exact (fun _ _ _ _ => Cell.le_refl _) | (intro i hi; rfl) | (intro i hi; exact absurd hi (Nat.not_lt_zero _))))⟩⟩
    replace hm : (!mayM ⟨k, hh, ht, hr, ⟨sp, sc, dp, dc, sq, da, th, ta⟩, ack, nx, hg, pc, pl, cc, cl⟩) = false := hm
    rw [Bool.not_eq_false'] at hm
    rw [hdec, if_pos hm]
    exact ⟨[], [2, 3], ⟨trivial, rfl, (by repeat' (first | exact (fun i j hi _ => absurd hi (Nat.not_lt_zero _)) | exact trivial | exact rfl | apply And.intro | exact (fun _ _ _ _ => Cell.le_refl _) | (intro i hi; rfl) | (intro i hi; exact absurd hi (Nat.not_lt_zero _)))), (by show List.Nodup []; exact List.nodup_nil), rfl, (by repeat' (first | exact (fun i j hi _ => absurd hi (Nat.not_lt_zero _)) | exact trivial | exact rfl | apply And.intro | exact (fun _ _ _ _ => Cell.le_refl _) | (intro i hi; rfl) | (intro i hi; exact absurd hi (Nat.not_lt_zero _))))⟩⟩

end Go.Proofs.Ytcgoaicifjndpaa.Vx
end

section
/- What chapter 8's examples fix, by the walker. -/
namespace Go.Proofs.Ytcgoaicifjndpaa.Vx
open Go.RowKit
set_option linter.unusedVariables false
set_option linter.unusedSimpArgs false
theorem dec_nil : (decMsg []).2 = 2 := by
  rw [decMsg_bad (by decide)]
  show (Leb.next [] 0).2.2 = 2
  decide
theorem decMsg_st {l : List UInt8} {a e : Int} (h : (rMsg l (0, 0)).2 = (a, e)) (he : e ≠ 0) : decMsg l = (zeroMsg, e) := by
  have : endS l (rMsg l (0, 0)).2.1 (rMsg l (0, 0)).2.2 = e := by
    rw [h]
    unfold endS
    rw [if_neg (by simp [he])]
  unfold decMsg decOf
  rw [this, if_pos he]
theorem next_nine : Leb.next [9] 0 = (9, 1, 0) := by decide
theorem num_nine : rNum 1 5 [9] (0, 0) = (0, 0, 1) := by
  unfold rNum numS
  rw [next_nine]
  rfl
theorem rMsg_num {l : List UInt8} {k : Int} {s1 : Int × Int} (h : rNum 1 5 l (0, 0) = (k, s1)) (hs : s1.2 ≠ 0) : (rMsg l (0, 0)).2 = s1 := by
  show (rRest (rNum 1 5 l (0, 0)).1 l (rNum 1 5 l (0, 0)).2).2 = _
  rw [h]
  exact (codecRest k).stick l s1 hs
theorem decMsg_num {l : List UInt8} {k a e : Int} (h : rNum 1 5 l (0, 0) = (k, a, e)) (he : e ≠ 0) : (decMsg l).2 = e := by
  rw [decMsg_st (rMsg_num h he) he]
theorem dec_nine : (decMsg [9]).2 = 1 := decMsg_num num_nine (by decide)
def sTx0 : SpecF
  | [.c (.row 0)], [.data fr ty sz n get] => some (ty = 74 ∧ sz = 50 ∧ n = 0, .tup [(some (.str [0]), []), (some (.int .i64 0), [])], [.dead])
  | _, _ => none

set_option maxRecDepth 100000 in
set_option maxHeartbeats 2000000 in
theorem tx0P : Fn Try.prog 69 [] [(74, 250)] sTx0 := by
  have hC : CtsOk Try.prog [(109, appMakesW 190 5), (132, appW 190 5 sNum), (111, appW 190 5 sBytes)] := CtsOk.cons (MakesW.ct newWP) <| CtsOk.cons (MethW.ct numP) <| CtsOk.cons (MethW.ct bytesP) <| CtsOk.nil _
  refine Fn.of (E := tbR) [] 1 [] tbR_ok hC (by kernel_rfl) Try.func69 rfl rfl rfl (by kernel_rfl) (by kernel_rfl) 1 5 1 ?_ ?_
  · intro args h pre r h' hs
    unfold sTx0 at hs
    split at hs
    · cases hs; exact ⟨rfl, rfl, Nat.le_of_ble_eq_true rfl⟩
    · cases hs
  · intro args h pre r h' hs hp
    unfold sTx0 at hs
    split at hs
    rotate_left
    · cases hs
    rename_i fr ty sz n get
    cases hs
    obtain ⟨rfl, rfl, rfl⟩ := hp
    refine ⟨[.data fr 74 50 0 get], ⟨⟨rfl, rfl, rfl, rfl, fun i j hi hj => Cell.le_refl _⟩, trivial⟩, ?_⟩
    unfold sNum sBytes
    generalize hg0 : (List.length : List UInt8 → Nat) = g0
    generalize ho0 : @numW = zo0, ho1 : @numBad = zo1, ho2 : @fitNum = zo2, ho3 : @isI64 = zo3, ho4 : @bytesW = zo4, ho5 : @badW = zo5
    generalize hA : Arith.std = A
    cbv
    subst hA hg0 ho0 ho1 ho2 ho3 ho4 ho5
    refine Ife.mk (fun h => absurd (of_decide_eq_true (p := (64 : Int) < ((0 : Nat) : Int)) h) (by decide)) (fun _ => ?_)
    refine Need.mk trivial fun _ => Need.mk (show fitNum [] 0 from ⟨by unfold isI64; omega, by decide⟩) fun _ => ?_
    refine Ife.mk (fun h => absurd (of_decide_eq_true (p := (0 : Int) < ((0 : Nat) : Int)) h) (by decide)) (fun _ => ?_)
    refine Need.mk trivial fun _ => ?_
    exact ⟨[0], ⟨rfl, by repeat' (first | exact trivial | exact rfl | apply And.intro | exact (fun _ _ _ _ => Cell.le_refl _) | (intro i hi; rfl) | (intro i hi; exact absurd hi (Nat.not_lt_zero _))), by decide, rfl, by repeat' (first | exact trivial | exact rfl | apply And.intro | exact (fun _ _ _ _ => Cell.le_refl _) | (intro i hi; rfl) | (intro i hi; exact absurd hi (Nat.not_lt_zero _)))⟩⟩

def sTrue8 : List SV → Option (Prop × SV)
  | [] => some (True, .c .tt)
  | _ => none

set_option maxRecDepth 100000 in
set_option maxHeartbeats 2000000 in
theorem first8P : Pure Try.prog 60 sTrue8 := by
  have hC : CtsOk Try.prog [(69, appFn [] [(74, 250)] sTx0), (62, appFn [] [] sDecM)] := CtsOk.cons (Fn.ct tx0P) <| CtsOk.cons (Fn.ct decMP) <| CtsOk.nil _
  refine Pure.of (E := tbR) (C := [(69, appFn [] [(74, 250)] sTx0), (62, appFn [] [] sDecM)]) [] 0 [] tbR_ok hC (by kernel_rfl) Try.func60 rfl rfl rfl (by kernel_rfl) (by kernel_rfl) ?_ ?_
  · intro args pre r h
    unfold sTrue8 at h
    split at h
    · cases h; rfl
    · cases h
  · intro args pre r h hp
    unfold sTrue8 at h
    split at h
    rotate_left
    · cases h
    cases h
    unfold sTx0 sDecM
    generalize hg0 : (List.length : List UInt8 → Nat) = g0
    try unfold leafG
    try unfold msgC
    generalize ho0 : @lK = zo0, ho1 : @lV = zo1, ho2 : @lI = zo2, ho3 : @lP = zo3, ho4 : @lN = zo4, ho5 : @pG = zo5, ho6 : @rN = zo6, ho7 : @lenL = zo7, ho8 : @decMsg = zo8
    generalize hA : Arith.std = A
    cbv
    subst hA hg0 ho0 ho1 ho2 ho3 ho4 ho5 ho6 ho7 ho8
    refine Need.mk trivial fun _ => Need.mk (Nat.zero_le _) fun _ => Need.mk (show 1 ≤ 140737488351232 by decide) fun _ => ?_
    refine Ife.mk (fun _ => ?_) (fun h => absurd h (by decide))
    refine Ife.mk (fun _ => ?_) (fun h => absurd h (by decide))
    refine Ife.mk (fun _ => ?_) (fun h => absurd (decide_eq_true dec_nil) (by rw [show decide ((decMsg []).2 = 2) = false from h]; decide))
    exact decide_eq_true dec_nine

end Go.Proofs.Ytcgoaicifjndpaa.Vx
end
