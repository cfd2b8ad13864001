/- Messages read, by the walker. -/
import Derived.Test.YtcgoaicifjndpaaM23
import Derived.Test.YtcgoaicifjndpaaM22
section
namespace Go.Proofs.Ytcgoaicifjndpaa.Vx
open Go.RowKit
set_option linter.unusedVariables false
set_option linter.unusedSimpArgs false
theorem h32_nums (m : List UInt8) : h32 (rN (numsOf m)) = h32 (byteI m) := by
  unfold h32 rN
  simp only [nums_get m (show 0 < 32 by decide), nums_get m (show 1 < 32 by decide), nums_get m (show 2 < 32 by decide), nums_get m (show 3 < 32 by decide), nums_get m (show 4 < 32 by decide), nums_get m (show 5 < 32 by decide), nums_get m (show 6 < 32 by decide), nums_get m (show 7 < 32 by decide), nums_get m (show 8 < 32 by decide), nums_get m (show 9 < 32 by decide), nums_get m (show 10 < 32 by decide), nums_get m (show 11 < 32 by decide), nums_get m (show 12 < 32 by decide), nums_get m (show 13 < 32 by decide), nums_get m (show 14 < 32 by decide), nums_get m (show 15 < 32 by decide), nums_get m (show 16 < 32 by decide), nums_get m (show 17 < 32 by decide), nums_get m (show 18 < 32 by decide), nums_get m (show 19 < 32 by decide), nums_get m (show 20 < 32 by decide), nums_get m (show 21 < 32 by decide), nums_get m (show 22 < 32 by decide), nums_get m (show 23 < 32 by decide), nums_get m (show 24 < 32 by decide), nums_get m (show 25 < 32 by decide), nums_get m (show 26 < 32 by decide), nums_get m (show 27 < 32 by decide), nums_get m (show 28 < 32 by decide), nums_get m (show 29 < 32 by decide), nums_get m (show 30 < 32 by decide), nums_get m (show 31 < 32 by decide)]
theorem msgC_nums {k x y : Int} {m : List UInt8} {pk : Pkt} {ack : List UInt8} {nx hg pc cc : Int} {pl cl : List PLeaf} {u v : CV} : msgC ⟨k, x, y, numsOf m, pk, ack, nx, hg, pc, pl, cc, cl⟩ u v = .int .i64 k :: .int .i64 x :: .int .i64 y :: (h32 (byteI m) ++ (pkC pk ++ [.str ack, .int .i64 nx, .int .i64 hg, .int .i64 pc, u, .int .i64 cc, v])) := by
  unfold msgC msgCP
  rw [h32_nums]
def sRMsg : SpecF
  | [.c (.ptr 0 0)], [.cells t [.str l, .int .i64 a, .int .i64 b]] => some (t = 196 ∧ okRd l a b, .agg (msgC (rMsg l (a, b)).1 (.row 1) (.row 2)), [.cells 196 [.str l, .int .i64 (rMsg l (a, b)).2.1, .int .i64 (rMsg l (a, b)).2.2], .data true 140 4 (lenL (rMsg l (a, b)).1.pl) (leafG true (rMsg l (a, b)).1.pl), .data true 140 4 (lenL (rMsg l (a, b)).1.cl) (leafG true (rMsg l (a, b)).1.cl)])
  | _, _ => none

set_option maxRecDepth 100000 in
set_option maxHeartbeats 16000000 in
theorem rMsgP : Fn Try.prog 114 [] [] sRMsg := by
  have hC : CtsOk Try.prog [(134, appMeth 196 sRdNum), (135, appMeth 196 sRdText), (158, appMeth 196 sHash), (159, appMeth 196 sRdPk), (160, appFn [] [] sRProof), (119, appPure sNextK)] := CtsOk.cons (Meth.ct rdNumP) <| CtsOk.cons (Meth.ct rdTextP) <| CtsOk.cons (Meth.ct rdHashP) <| CtsOk.cons (Meth.ct rdPkP) <| CtsOk.cons (Fn.ct rProofP) <| CtsOk.cons (Pure.ct nextKP) <| CtsOk.nil _
  refine Fn.ofZ (E := tbR) [] 0 [] tbR_ok hC (by kernel_rfl) Try.func114 rfl rfl rfl (by kernel_rfl) (by kernel_rfl) 1 (.data true 140 4 0 fun _ _ => .pl .tt) rfl ?_ ?_
  · intro args h pre r h' hs
    unfold sRMsg at hs
    split at hs
    · cases hs; exact ⟨rfl, rfl, Nat.le_of_ble_eq_true rfl⟩
    · cases hs
  · intro args h pre r h' hs hp
    unfold sRMsg at hs
    split at hs
    rotate_left
    · cases hs
    rename_i t l a b
    cases hs
    obtain ⟨rfl, hok⟩ := hp
    refine ⟨[.cells 196 [.str l, .int .i64 a, .int .i64 b]], ⟨rfl, trivial⟩, ?_⟩
    unfold sRdNum sRdText sHash sRdPk sRProof sNextK
    try unfold leafG
    try unfold msgC
    generalize ho0 : @lK = zo0, ho1 : @lV = zo1, ho2 : @lI = zo2, ho3 : @lP = zo3, ho4 : @lN = zo4, ho5 : @pG = zo5, ho6 : @rProof = zo6, ho7 : @hashS = zo7, ho8 : @byteI = zo8, ho9 : @okRd = zo9, ho10 : @textS = zo10, ho11 : @numS = zo11, ho12 : @lenL = zo12, ho13 : @rPk = zo13, ho14 : @rN = zo14, ho15 : @nextB = zo15, ho16 : @rMsg = zo16
    generalize hA : Arith.std = A
    cbv
    subst hA ho0 ho1 ho2 ho3 ho4 ho5 ho6 ho7 ho8 ho9 ho10 ho11 ho12 ho13 ho14 ho15 ho16
    have z1 := ok_num (lo := 1) (hi := 5) hok
    generalize e1 : numS l a b 1 5 = t at *
    obtain ⟨k, a1, b1⟩ := t
    dsimp only at *
    refine Need.mk hok fun _ => Ife.mk (fun hk => ?_) (fun hk => ?_)
    · replace hk : k = 1 := of_decide_eq_true (p := k = 1) hk
      subst hk
      have z2 := ok_num (lo := 1) (hi := 1099511627776) z1
      generalize e2 : numS l a1 b1 1 1099511627776 = t at *
      obtain ⟨x, a2, b2⟩ := t
      dsimp only at *
      have z3 := ok_num (lo := 0) (hi := 1099511627776) z2
      generalize e3 : numS l a2 b2 0 1099511627776 = t at *
      obtain ⟨y, a3, b3⟩ := t
      dsimp only at *
      refine Need.mk z1 fun _ => Need.mk z2 fun _ => Need.mk z3 fun _ => ?_
      rw [rMsg_upd (s := (a, b)) (s1 := (a1, b1)) (s2 := (a2, b2)) (s3 := (a3, b3)) e1 e2 e3]
      try dsimp only
      rw [show msgCP rN = msgC from rfl, msgC_nums]
      exact ⟨[], [0, 3, 3], ⟨trivial, rfl, (by repeat' (first | exact (fun i j hi _ => absurd hi (Nat.not_lt_zero _)) | exact trivial | exact rfl | apply And.intro | exact (fun _ _ _ _ => Cell.le_refl _) | (intro i hi; rfl) | (intro i hi; exact absurd hi (Nat.not_lt_zero _)))), (by show List.Nodup [0]; decide), rfl, (by repeat' (first | exact (fun i j hi _ => absurd hi (Nat.not_lt_zero _)) | exact trivial | exact rfl | apply And.intro | exact (fun _ _ _ _ => Cell.le_refl _) | (intro i hi; rfl) | (intro i hi; exact absurd hi (Nat.not_lt_zero _))))⟩⟩
    replace hk : ¬ k = 1 := of_decide_eq_false (p := k = 1) hk
    have z2 := ok_pk' z1
    generalize e2 : rPk l (a1, b1) = t at *
    obtain ⟨⟨sp, sc, dp, dc, sq, da, th, ta⟩, a2, b2⟩ := t
    dsimp only at *
    refine Need.mk z1 fun _ => ?_
    refine Ife.mk (fun h3 => ?_) (fun h3 => ?_)
    · replace h3 : k = 3 := of_decide_eq_true (p := k = 3) h3
      have z3 := ok_text (hi := 32) z2
      generalize e3 : textS l a2 b2 32 = t at *
      obtain ⟨ack, a3, b3⟩ := t
      dsimp only at *
      refine Need.mk z2 fun _ => ?_
      refine Need.mk trivial fun _ => Ife.mk (fun hn => ?_) (fun hn => ?_)
      · replace hn : nextB k = true := hn
        have z4 := ok_num (lo := 0) (hi := 1099511627777) z3
        generalize e4 : numS l a3 b3 0 1099511627777 = t at *
        obtain ⟨nx, a4, b4⟩ := t
        dsimp only at *
        refine Need.mk z3 fun _ => ?_
        have z5 := ok_num (lo := 1) (hi := 1099511627776) z4
        generalize e5 : numS l a4 b4 1 1099511627776 = t at *
        obtain ⟨hg, a5, b5⟩ := t
        dsimp only at *
        have z6 := ok_proof z5
        generalize e6 : rProof l (a5, b5) = t at *
        obtain ⟨⟨pc, pl⟩, a6, b6⟩ := t
        dsimp only at *
        refine Need.mk z4 fun _ => Need.mk z5 fun _ => Ife.mk (fun h5 => ?_) (fun h5 => ?_)
        · replace h5 : k = 5 := of_decide_eq_true (p := k = 5) h5
          have z7 := ok_proof z6
          generalize e7 : rProof l (a6, b6) = t at *
          obtain ⟨⟨cc, cl⟩, a7, b7⟩ := t
          dsimp only at *
          refine Need.mk z6 fun _ => ?_
          rw [rMsg_oth (s := (a, b)) (s1 := (a1, b1)) (p := ⟨sp, sc, dp, dc, sq, da, th, ta⟩) (s2 := (a2, b2)) (a := ack) (s3 := (a3, b3)) (n := nx) (s4 := (a4, b4)) (g := hg) (s5 := (a5, b5)) (q := (pc, pl)) (s6 := (a6, b6)) (c := (cc, cl)) (s7 := (a7, b7)) e1 hk e2 (by rw [decide_eq_true h3]; exact e3) (by rw [hn]; exact e4) e5 e6 (by rw [decide_eq_true h5]; exact e7)]
          try dsimp only
          exact ⟨[], [0, 3, 4], ⟨trivial, rfl, (by repeat' (first | exact (fun i j hi _ => absurd hi (Nat.not_lt_zero _)) | exact trivial | exact rfl | apply And.intro | exact (fun _ _ _ _ => Cell.le_refl _) | (intro i hi; rfl) | (intro i hi; exact absurd hi (Nat.not_lt_zero _)))), (by show List.Nodup [0]; decide), rfl, (by repeat' (first | exact (fun i j hi _ => absurd hi (Nat.not_lt_zero _)) | exact trivial | exact rfl | apply And.intro | exact (fun _ _ _ _ => Cell.le_refl _) | (intro i hi; rfl) | (intro i hi; exact absurd hi (Nat.not_lt_zero _))))⟩⟩
        · replace h5 : ¬ k = 5 := of_decide_eq_false (p := k = 5) h5
          rw [rMsg_oth (s := (a, b)) (s1 := (a1, b1)) (p := ⟨sp, sc, dp, dc, sq, da, th, ta⟩) (s2 := (a2, b2)) (a := ack) (s3 := (a3, b3)) (n := nx) (s4 := (a4, b4)) (g := hg) (s5 := (a5, b5)) (q := (pc, pl)) (s6 := (a6, b6)) (c := (0, [])) (s7 := (a6, b6)) e1 hk e2 (by rw [decide_eq_true h3]; exact e3) (by rw [hn]; exact e4) e5 e6 (by rw [decide_eq_false h5]; rfl)]
          try dsimp only
          exact ⟨[], [0, 3, 4], ⟨trivial, rfl, (by repeat' (first | exact (fun i j hi _ => absurd hi (Nat.not_lt_zero _)) | exact trivial | exact rfl | apply And.intro | exact (fun _ _ _ _ => Cell.le_refl _) | (intro i hi; rfl) | (intro i hi; exact absurd hi (Nat.not_lt_zero _)))), (by show List.Nodup [0]; decide), rfl, (by repeat' (first | exact (fun i j hi _ => absurd hi (Nat.not_lt_zero _)) | exact trivial | exact rfl | apply And.intro | exact (fun _ _ _ _ => Cell.le_refl _) | (intro i hi; rfl) | (intro i hi; exact absurd hi (Nat.not_lt_zero _))))⟩⟩
      · replace hn : nextB k = false := hn
        have z5 := ok_num (lo := 1) (hi := 1099511627776) z3
        generalize e5 : numS l a3 b3 1 1099511627776 = t at *
        obtain ⟨hg, a5, b5⟩ := t
        dsimp only at *
        have z6 := ok_proof z5
        generalize e6 : rProof l (a5, b5) = t at *
        obtain ⟨⟨pc, pl⟩, a6, b6⟩ := t
        dsimp only at *
        refine Need.mk z3 fun _ => Need.mk z5 fun _ => Ife.mk (fun h5 => ?_) (fun h5 => ?_)
        · replace h5 : k = 5 := of_decide_eq_true (p := k = 5) h5
          have z7 := ok_proof z6
          generalize e7 : rProof l (a6, b6) = t at *
          obtain ⟨⟨cc, cl⟩, a7, b7⟩ := t
          dsimp only at *
          refine Need.mk z6 fun _ => ?_
          rw [rMsg_oth (s := (a, b)) (s1 := (a1, b1)) (p := ⟨sp, sc, dp, dc, sq, da, th, ta⟩) (s2 := (a2, b2)) (a := ack) (s3 := (a3, b3)) (n := 0) (s4 := (a3, b3)) (g := hg) (s5 := (a5, b5)) (q := (pc, pl)) (s6 := (a6, b6)) (c := (cc, cl)) (s7 := (a7, b7)) e1 hk e2 (by rw [decide_eq_true h3]; exact e3) (by rw [hn]; rfl) e5 e6 (by rw [decide_eq_true h5]; exact e7)]
          try dsimp only
          exact ⟨[], [0, 3, 4], ⟨trivial, rfl, (by repeat' (first | exact (fun i j hi _ => absurd hi (Nat.not_lt_zero _)) | exact trivial | exact rfl | apply And.intro | exact (fun _ _ _ _ => Cell.le_refl _) | (intro i hi; rfl) | (intro i hi; exact absurd hi (Nat.not_lt_zero _)))), (by show List.Nodup [0]; decide), rfl, (by repeat' (first | exact (fun i j hi _ => absurd hi (Nat.not_lt_zero _)) | exact trivial | exact rfl | apply And.intro | exact (fun _ _ _ _ => Cell.le_refl _) | (intro i hi; rfl) | (intro i hi; exact absurd hi (Nat.not_lt_zero _))))⟩⟩
        · replace h5 : ¬ k = 5 := of_decide_eq_false (p := k = 5) h5
          rw [rMsg_oth (s := (a, b)) (s1 := (a1, b1)) (p := ⟨sp, sc, dp, dc, sq, da, th, ta⟩) (s2 := (a2, b2)) (a := ack) (s3 := (a3, b3)) (n := 0) (s4 := (a3, b3)) (g := hg) (s5 := (a5, b5)) (q := (pc, pl)) (s6 := (a6, b6)) (c := (0, [])) (s7 := (a6, b6)) e1 hk e2 (by rw [decide_eq_true h3]; exact e3) (by rw [hn]; rfl) e5 e6 (by rw [decide_eq_false h5]; rfl)]
          try dsimp only
          exact ⟨[], [0, 3, 4], ⟨trivial, rfl, (by repeat' (first | exact (fun i j hi _ => absurd hi (Nat.not_lt_zero _)) | exact trivial | exact rfl | apply And.intro | exact (fun _ _ _ _ => Cell.le_refl _) | (intro i hi; rfl) | (intro i hi; exact absurd hi (Nat.not_lt_zero _)))), (by show List.Nodup [0]; decide), rfl, (by repeat' (first | exact (fun i j hi _ => absurd hi (Nat.not_lt_zero _)) | exact trivial | exact rfl | apply And.intro | exact (fun _ _ _ _ => Cell.le_refl _) | (intro i hi; rfl) | (intro i hi; exact absurd hi (Nat.not_lt_zero _))))⟩⟩
    · replace h3 : ¬ k = 3 := of_decide_eq_false (p := k = 3) h3
      refine Need.mk trivial fun _ => Ife.mk (fun hn => ?_) (fun hn => ?_)
      · replace hn : nextB k = true := hn
        have z4 := ok_num (lo := 0) (hi := 1099511627777) z2
        generalize e4 : numS l a2 b2 0 1099511627777 = t at *
        obtain ⟨nx, a4, b4⟩ := t
        dsimp only at *
        refine Need.mk z2 fun _ => ?_
        have z5 := ok_num (lo := 1) (hi := 1099511627776) z4
        generalize e5 : numS l a4 b4 1 1099511627776 = t at *
        obtain ⟨hg, a5, b5⟩ := t
        dsimp only at *
        have z6 := ok_proof z5
        generalize e6 : rProof l (a5, b5) = t at *
        obtain ⟨⟨pc, pl⟩, a6, b6⟩ := t
        dsimp only at *
        refine Need.mk z4 fun _ => Need.mk z5 fun _ => Ife.mk (fun h5 => ?_) (fun h5 => ?_)
        · replace h5 : k = 5 := of_decide_eq_true (p := k = 5) h5
          have z7 := ok_proof z6
          generalize e7 : rProof l (a6, b6) = t at *
          obtain ⟨⟨cc, cl⟩, a7, b7⟩ := t
          dsimp only at *
          refine Need.mk z6 fun _ => ?_
          rw [rMsg_oth (s := (a, b)) (s1 := (a1, b1)) (p := ⟨sp, sc, dp, dc, sq, da, th, ta⟩) (s2 := (a2, b2)) (a := []) (s3 := (a2, b2)) (n := nx) (s4 := (a4, b4)) (g := hg) (s5 := (a5, b5)) (q := (pc, pl)) (s6 := (a6, b6)) (c := (cc, cl)) (s7 := (a7, b7)) e1 hk e2 (by rw [decide_eq_false h3]; rfl) (by rw [hn]; exact e4) e5 e6 (by rw [decide_eq_true h5]; exact e7)]
          try dsimp only
          exact ⟨[], [0, 3, 4], ⟨trivial, rfl, (by repeat' (first | exact (fun i j hi _ => absurd hi (Nat.not_lt_zero _)) | exact trivial | exact rfl | apply And.intro | exact (fun _ _ _ _ => Cell.le_refl _) | (intro i hi; rfl) | (intro i hi; exact absurd hi (Nat.not_lt_zero _)))), (by show List.Nodup [0]; decide), rfl, (by repeat' (first | exact (fun i j hi _ => absurd hi (Nat.not_lt_zero _)) | exact trivial | exact rfl | apply And.intro | exact (fun _ _ _ _ => Cell.le_refl _) | (intro i hi; rfl) | (intro i hi; exact absurd hi (Nat.not_lt_zero _))))⟩⟩
        · replace h5 : ¬ k = 5 := of_decide_eq_false (p := k = 5) h5
          rw [rMsg_oth (s := (a, b)) (s1 := (a1, b1)) (p := ⟨sp, sc, dp, dc, sq, da, th, ta⟩) (s2 := (a2, b2)) (a := []) (s3 := (a2, b2)) (n := nx) (s4 := (a4, b4)) (g := hg) (s5 := (a5, b5)) (q := (pc, pl)) (s6 := (a6, b6)) (c := (0, [])) (s7 := (a6, b6)) e1 hk e2 (by rw [decide_eq_false h3]; rfl) (by rw [hn]; exact e4) e5 e6 (by rw [decide_eq_false h5]; rfl)]
          try dsimp only
          exact ⟨[], [0, 3, 4], ⟨trivial, rfl, (by repeat' (first | exact (fun i j hi _ => absurd hi (Nat.not_lt_zero _)) | exact trivial | exact rfl | apply And.intro | exact (fun _ _ _ _ => Cell.le_refl _) | (intro i hi; rfl) | (intro i hi; exact absurd hi (Nat.not_lt_zero _)))), (by show List.Nodup [0]; decide), rfl, (by repeat' (first | exact (fun i j hi _ => absurd hi (Nat.not_lt_zero _)) | exact trivial | exact rfl | apply And.intro | exact (fun _ _ _ _ => Cell.le_refl _) | (intro i hi; rfl) | (intro i hi; exact absurd hi (Nat.not_lt_zero _))))⟩⟩
      · replace hn : nextB k = false := hn
        have z5 := ok_num (lo := 1) (hi := 1099511627776) z2
        generalize e5 : numS l a2 b2 1 1099511627776 = t at *
        obtain ⟨hg, a5, b5⟩ := t
        dsimp only at *
        have z6 := ok_proof z5
        generalize e6 : rProof l (a5, b5) = t at *
        obtain ⟨⟨pc, pl⟩, a6, b6⟩ := t
        dsimp only at *
        refine Need.mk z2 fun _ => Need.mk z5 fun _ => Ife.mk (fun h5 => ?_) (fun h5 => ?_)
        · replace h5 : k = 5 := of_decide_eq_true (p := k = 5) h5
          have z7 := ok_proof z6
          generalize e7 : rProof l (a6, b6) = t at *
          obtain ⟨⟨cc, cl⟩, a7, b7⟩ := t
          dsimp only at *
          refine Need.mk z6 fun _ => ?_
          rw [rMsg_oth (s := (a, b)) (s1 := (a1, b1)) (p := ⟨sp, sc, dp, dc, sq, da, th, ta⟩) (s2 := (a2, b2)) (a := []) (s3 := (a2, b2)) (n := 0) (s4 := (a2, b2)) (g := hg) (s5 := (a5, b5)) (q := (pc, pl)) (s6 := (a6, b6)) (c := (cc, cl)) (s7 := (a7, b7)) e1 hk e2 (by rw [decide_eq_false h3]; rfl) (by rw [hn]; rfl) e5 e6 (by rw [decide_eq_true h5]; exact e7)]
          try dsimp only
          exact ⟨[], [0, 3, 4], ⟨trivial, rfl, (by repeat' (first | exact (fun i j hi _ => absurd hi (Nat.not_lt_zero _)) | exact trivial | exact rfl | apply And.intro | exact (fun _ _ _ _ => Cell.le_refl _) | (intro i hi; rfl) | (intro i hi; exact absurd hi (Nat.not_lt_zero _)))), (by show List.Nodup [0]; decide), rfl, (by repeat' (first | exact (fun i j hi _ => absurd hi (Nat.not_lt_zero _)) | exact trivial | exact rfl | apply And.intro | exact (fun _ _ _ _ => Cell.le_refl _) | (intro i hi; rfl) | (intro i hi; exact absurd hi (Nat.not_lt_zero _))))⟩⟩
        · replace h5 : ¬ k = 5 := of_decide_eq_false (p := k = 5) h5
          rw [rMsg_oth (s := (a, b)) (s1 := (a1, b1)) (p := ⟨sp, sc, dp, dc, sq, da, th, ta⟩) (s2 := (a2, b2)) (a := []) (s3 := (a2, b2)) (n := 0) (s4 := (a2, b2)) (g := hg) (s5 := (a5, b5)) (q := (pc, pl)) (s6 := (a6, b6)) (c := (0, [])) (s7 := (a6, b6)) e1 hk e2 (by rw [decide_eq_false h3]; rfl) (by rw [hn]; rfl) e5 e6 (by rw [decide_eq_false h5]; rfl)]
          try dsimp only
          exact ⟨[], [0, 3, 4], ⟨trivial, rfl, (by repeat' (first | exact (fun i j hi _ => absurd hi (Nat.not_lt_zero _)) | exact trivial | exact rfl | apply And.intro | exact (fun _ _ _ _ => Cell.le_refl _) | (intro i hi; rfl) | (intro i hi; exact absurd hi (Nat.not_lt_zero _)))), (by show List.Nodup [0]; decide), rfl, (by repeat' (first | exact (fun i j hi _ => absurd hi (Nat.not_lt_zero _)) | exact trivial | exact rfl | apply And.intro | exact (fun _ _ _ _ => Cell.le_refl _) | (intro i hi; rfl) | (intro i hi; exact absurd hi (Nat.not_lt_zero _))))⟩⟩

end Go.Proofs.Ytcgoaicifjndpaa.Vx
end

section
/- Messages encoded and decoded, by the walker. -/
namespace Go.Proofs.Ytcgoaicifjndpaa.Vx
open Go.RowKit
set_option linter.unusedVariables false
set_option linter.unusedSimpArgs false
theorem encMsg_yes {m : PMsg} (h : mayM m = true) : encMsg m = (msgB m, 0) := by unfold encMsg; rw [if_pos h]
theorem encMsg_no {m : PMsg} (h : mayM m = false) : encMsg m = ([], 1) := by unfold encMsg; rw [h]; rfl
theorem decMsg_eq (l : List UInt8) : decMsg l = if endS l (rMsg l (0, 0)).2.1 (rMsg l (0, 0)).2.2 ≠ 0 then (zeroMsg, endS l (rMsg l (0, 0)).2.1 (rMsg l (0, 0)).2.2) else if mayM (rMsg l (0, 0)).1 then ((rMsg l (0, 0)).1, 0) else (zeroMsg, 1) := rfl
theorem ok_msg {l : List UInt8} {a b : Int} (h : okRd l a b) : okRd l (rMsg l (a, b)).2.1 (rMsg l (a, b)).2.2 := by
  have aux : ∀ (k : Int) (s : Int × Int), okS l s → okS l (rRest k l s).2 := fun k s h => by
    have hdr : ∀ s, okS l s → okS l (rHdr l s).2 := fun s h => okS_hash (okS_num (okS_num h))
    have step : ∀ {α : Type} (c : Bool) (d : α) (r : List UInt8 → Int × Int → α × Int × Int) (s : Int × Int), (∀ s, okS l s → okS l (r l s).2) → okS l s → okS l (rIf c d r l s).2 := fun c d r s hr h => by
      unfold rIf
      split
      · exact hr s h
      · exact h
    unfold rRest
    dsimp only
    exact step _ _ _ _ (fun _ => okS_proof) (step _ _ _ _ (fun _ => okS_proof) (step _ _ _ _ (fun _ => okS_num) (step _ _ _ _ (fun _ => okS_num) (step _ _ _ _ (fun _ => okS_text) (step _ _ _ _ (fun _ => okS_pk) (step _ _ _ _ hdr h))))))
  exact aux _ _ (okS_num (s := (a, b)) h)
def sEncM : SpecF
  | [.agg cs], [.data fr ty sz n get, .data fr' ty' sz' n' get'] => some (msgPre cs (.row 0) (.row 1) ty sz n get ty' sz' n' get', .tup [(some (.str (encMsg (msgOf cs n get n' get')).1), []), (some (.int .i64 (encMsg (msgOf cs n get n' get')).2), [])], [.dead, .dead])
  | _, _ => none

set_option maxRecDepth 100000 in
set_option maxHeartbeats 16000000 in
theorem encMP : Fn Try.prog 61 [] [(140, 204), (140, 204)] sEncM := by
  have hC : CtsOk Try.prog [(50, appFn [] [(140, 204), (140, 204)] sMayM), (109, appMakesW 190 5), (110, appFn [] [(140, 204), (140, 204)] sWMsg), (111, appW 190 5 sBytes)] := CtsOk.cons (Fn.ct mayMP) <| CtsOk.cons (MakesW.ct newWP) <| CtsOk.cons (Fn.ct wMsgP) <| CtsOk.cons (MethW.ct bytesP) <| CtsOk.nil _
  refine Fn.of (E := tbR) [] 0 [] tbR_ok hC (by kernel_rfl) Try.func61 rfl rfl rfl (by kernel_rfl) (by kernel_rfl) 2 5 1 ?_ ?_
  · intro args h pre r h' hs
    unfold sEncM at hs
    split at hs
    · cases hs; exact ⟨rfl, rfl, Nat.le_of_ble_eq_true rfl⟩
    · cases hs
  · intro args h pre r h' hs hp
    unfold sEncM at hs
    split at hs
    rotate_left
    · cases hs
    rename_i cs fr ty sz n get fr' ty' sz' n' get'
    cases hs
    obtain ⟨hcs, ⟨rfl, rfl, hst, hok, hm⟩, ⟨rfl, rfl, hst', hok', hm'⟩, hfit⟩ := hp
    refine ⟨[.data fr 140 4 n (leafG false (leafL n get)), .data fr' 140 4 n' (leafG false (leafL n' get'))], ⟨⟨rfl, rfl, rfl, rfl, fun i j hi hj => by rw [hst i j hi hj]; exact Cell.le_refl _⟩, ⟨rfl, rfl, rfl, rfl, fun i j hi hj => by rw [hst' i j hi hj]; exact Cell.le_refl _⟩, trivial⟩, ?_⟩
    have hL : (leafL n get).length = n := leafL_len
    have hL' : (leafL n' get').length = n' := leafL_len
    have e1 : (msgOf cs n get n' get').pl = leafL n get := rfl
    have e2 : (msgOf cs n get n' get').cl = leafL n' get' := rfl
    generalize msgOf cs n get n' get' = m at *
    subst hcs
    obtain ⟨k, hh, ht, hr, ⟨sp, sc, dp, dc, sq, da, th, ta⟩, ack, nx, hg, pc, pl, cc, cl⟩ := m
    replace e1 : pl = leafL n get := e1
    replace e2 : cl = leafL n' get' := e2
    clear hst hst'
    subst e1 e2
    generalize leafL n get = pl at *
    generalize leafL n' get' = cl at *
    have hok0 : MsgOk ⟨k, hh, ht, hr, ⟨sp, sc, dp, dc, sq, da, th, ta⟩, ack, nx, hg, pc, pl, cc, cl⟩ := ⟨hfit, hok, hok', by show pl.length ≤ _; omega, by show cl.length ≤ _; omega⟩
    obtain ⟨hpk, hack, hrl, hrb⟩ := hfit
    replace hack : ack.length ≤ 1000000000 := hack
    replace hrl : hr.length = 32 := hrl
    replace hrb : ∀ b ∈ hr, 0 ≤ b ∧ b < 256 := hrb
    unfold sMayM sWMsg sBytes
    generalize hg0 : (List.length : List UInt8 → Nat) = g0
    try unfold leafG
    try unfold msgC
    generalize ho0 : @lK = zo0, ho1 : @lV = zo1, ho2 : @lI = zo2, ho3 : @lP = zo3, ho4 : @lN = zo4, ho5 : @pG = zo5, ho6 : @leafL = zo6, ho7 : @rN = zo7, ho8 : @msgPre = zo8, ho9 : @mayM = zo9, ho10 : @msgOf = zo10, ho11 : @wMsg = zo11, ho12 : @wMsgPre = zo12, ho13 : @encMsg = zo13, ho14 : @bytesW = zo14, ho15 : @badW = zo15
    generalize hA : Arith.std = A
    cbv
    subst hA hg0 ho0 ho1 ho2 ho3 ho4 ho5 ho6 ho7 ho8 ho9 ho10 ho11 ho12 ho13 ho14 ho15
    refine Need.mk (msgPre_n (m := ⟨k, hh, ht, hr, ⟨sp, sc, dp, dc, sq, da, th, ta⟩, ack, nx, hg, pc, pl, cc, cl⟩) hok0 hL hL') fun _ => ?_
    have z := msgOf_n (m := ⟨k, hh, ht, hr, ⟨sp, sc, dp, dc, sq, da, th, ta⟩, ack, nx, hg, pc, pl, cc, cl⟩) (a := .row 0) (b := .row 1) (fr := false) (fr' := false) hok0 hL hL'
    simp only [msgC, msgCP, h32, pkC, List.cons_append, List.nil_append] at z
    rw [z]
    refine Ife.mk (fun hm => ?_) (fun hm => ?_)
    · replace hm : (!mayM ⟨k, hh, ht, hr, ⟨sp, sc, dp, dc, sq, da, th, ta⟩, ack, nx, hg, pc, pl, cc, cl⟩) = true := hm
      rw [Bool.not_eq_true'] at hm
      rw [encMsg_no hm]
      exact ⟨[0, 1], ⟨rfl, by repeat' (first | exact trivial | exact rfl | apply And.intro | exact (fun _ _ _ _ => Cell.le_refl _) | (intro i hi; rfl) | (intro i hi; exact absurd hi (Nat.not_lt_zero _))), by decide, rfl, by repeat' (first | exact trivial | exact rfl | apply And.intro | exact (fun _ _ _ _ => Cell.le_refl _) | (intro i hi; rfl) | (intro i hi; exact absurd hi (Nat.not_lt_zero _)))⟩⟩
    replace hm : (!mayM ⟨k, hh, ht, hr, ⟨sp, sc, dp, dc, sq, da, th, ta⟩, ack, nx, hg, pc, pl, cc, cl⟩) = false := hm
    rw [Bool.not_eq_false'] at hm
    have hV := mayM_V hm hok0
    have z2 := msgOf_n (m := ⟨k, hh, ht, hr, ⟨sp, sc, dp, dc, sq, da, th, ta⟩, ack, nx, hg, pc, pl, cc, cl⟩) (a := .row 2) (b := .row 3) (fr := false) (fr' := false) hok0 hL hL'
    simp only [msgC, msgCP, h32, pkC, List.cons_append, List.nil_append] at z2
    rw [z2]
    refine Need.mk trivial fun _ => Need.mk ⟨⟨rfl, rfl, hV, by decide⟩, msgPre_n (m := ⟨k, hh, ht, hr, ⟨sp, sc, dp, dc, sq, da, th, ta⟩, ack, nx, hg, pc, pl, cc, cl⟩) (a := .row 2) (b := .row 3) hok0 hL hL'⟩ fun _ => ?_
    rw [wMsg_ok hV [], encMsg_yes hm]
    refine Need.mk trivial fun _ => ?_
    exact ⟨[0, 1], ⟨rfl, by repeat' (first | exact trivial | exact rfl | apply And.intro | exact (fun _ _ _ _ => Cell.le_refl _) | (intro i hi; rfl) | (intro i hi; exact absurd hi (Nat.not_lt_zero _))), by decide, rfl, by repeat' (first | exact trivial | exact rfl | apply And.intro | exact (fun _ _ _ _ => Cell.le_refl _) | (intro i hi; rfl) | (intro i hi; exact absurd hi (Nat.not_lt_zero _)))⟩⟩

end Go.Proofs.Ytcgoaicifjndpaa.Vx
end

section
/- Messages decoded, by the walker. -/
namespace Go.Proofs.Ytcgoaicifjndpaa.Vx
open Go.RowKit
set_option linter.unusedVariables false
set_option linter.unusedSimpArgs false
def sDecM : SpecF
  | [.c (.str l)], [] => some (l.length ≤ 140737488351232, .tup [(none, msgC (decMsg l).1 (.row 0) (.row 1)), (some (.int .i64 (decMsg l).2), [])], [.data true 140 4 (lenL (decMsg l).1.pl) (leafG true (decMsg l).1.pl), .data true 140 4 (lenL (decMsg l).1.cl) (leafG true (decMsg l).1.cl)])
  | _, _ => none

set_option maxRecDepth 100000 in
set_option maxHeartbeats 16000000 in
theorem decMP : Fn Try.prog 62 [] [] sDecM := by
  have hC : CtsOk Try.prog [(112, appPure sLebNext), (113, appMakes 196 sOf), (114, appFn [] [] sRMsg), (115, appMeth 196 sRdEnd), (50, appFn [] [(140, 204), (140, 204)] sMayM)] := CtsOk.cons (Pure.ct lebNextP) <| CtsOk.cons (Makes.ct ofP) <| CtsOk.cons (Fn.ct rMsgP) <| CtsOk.cons (Meth.ct rdEndP) <| CtsOk.cons (Fn.ct mayMP) <| CtsOk.nil _
  refine Fn.ofZ (E := tbR) [] 0 [] tbR_ok hC (by kernel_rfl) Try.func62 rfl rfl rfl (by kernel_rfl) (by kernel_rfl) 0 (.data true 140 4 0 fun _ _ => .pl .tt) rfl ?_ ?_
  · intro args h pre r h' hs
    unfold sDecM at hs
    split at hs
    · cases hs; exact ⟨rfl, rfl, Nat.le_of_ble_eq_true rfl⟩
    · cases hs
  · intro args h pre r h' hs hp
    unfold sDecM at hs
    split at hs
    rotate_left
    · cases hs
    rename_i l
    cases hs
    refine ⟨[], trivial, ?_⟩
    unfold sLebNext sOf sRMsg sRdEnd sMayM
    generalize hg0 : (List.length : List UInt8 → Nat) = g0
    try unfold leafG
    try unfold msgC
    generalize ho0 : @lK = zo0, ho1 : @lV = zo1, ho2 : @lI = zo2, ho3 : @lP = zo3, ho4 : @lN = zo4, ho5 : @pG = zo5, ho6 : @rN = zo6, ho7 : @msgPre = zo7, ho8 : @lenL = zo8, ho9 : @mayM = zo9, ho10 : @msgOf = zo10, ho11 : @isI64 = zo11, ho12 : @rMsg = zo12, ho13 : @decMsg = zo13, ho14 : @Leb.next = zo14, ho15 : @okRd = zo15, ho16 : @endS = zo16
    generalize hA : Arith.std = A
    cbv
    subst hA hg0 ho0 ho1 ho2 ho3 ho4 ho5 ho6 ho7 ho8 ho9 ho10 ho11 ho12 ho13 ho14 ho15 ho16
    refine Need.mk ⟨hp, by unfold isI64; omega⟩ fun _ => Ife.mk (fun h1 => ?_) (fun h1 => ?_)
    · have h1 : (Leb.next l 0).2.2 ≠ 0 := by simpa [Arith.std] using h1
      rw [decMsg_bad h1]
      exact ⟨[], [1, 1], ⟨trivial, rfl, (by repeat' (first | exact (fun i j hi _ => absurd hi (Nat.not_lt_zero _)) | exact trivial | exact rfl | apply And.intro | exact (fun _ _ _ _ => Cell.le_refl _) | (intro i hi; rfl) | (intro i hi; exact absurd hi (Nat.not_lt_zero _)))), (by show List.Nodup []; exact List.nodup_nil), rfl, (by repeat' (first | exact (fun i j hi _ => absurd hi (Nat.not_lt_zero _)) | exact trivial | exact rfl | apply And.intro | exact (fun _ _ _ _ => Cell.le_refl _) | (intro i hi; rfl) | (intro i hi; exact absurd hi (Nat.not_lt_zero _))))⟩⟩
    have h0 : okRd l 0 0 := ok_start hp
    have h2 := ok_msg h0
    have hdec := decMsg_eq l
    have hV0 := fun h => rMsg_V (l := l) h
    refine Need.mk trivial fun _ => Need.mk h0 fun _ => ?_
    generalize rMsg l (0, 0) = M at *
    obtain ⟨⟨k, hh, ht, hr, ⟨sp, sc, dp, dc, sq, da, th, ta⟩, ack, nx, hg, pc, pl, cc, cl⟩, a1, b1⟩ := M
    dsimp only at *
    refine Need.mk h2 fun _ => Ife.mk (fun h3 => ?_) (fun h3 => ?_)
    · have h3 : endS l a1 b1 ≠ 0 := by simpa [Arith.std] using h3
      rw [hdec, if_pos h3]
      exact ⟨[], [5, 5], ⟨trivial, rfl, (by repeat' (first | exact (fun i j hi _ => absurd hi (Nat.not_lt_zero _)) | exact trivial | exact rfl | apply And.intro | exact (fun _ _ _ _ => Cell.le_refl _) | (intro i hi; rfl) | (intro i hi; exact absurd hi (Nat.not_lt_zero _)))), (by show List.Nodup []; exact List.nodup_nil), rfl, (by repeat' (first | exact (fun i j hi _ => absurd hi (Nat.not_lt_zero _)) | exact trivial | exact rfl | apply And.intro | exact (fun _ _ _ _ => Cell.le_refl _) | (intro i hi; rfl) | (intro i hi; exact absurd hi (Nat.not_lt_zero _))))⟩⟩
    have h3 : endS l a1 b1 = 0 := by simpa [Arith.std] using h3
    rw [if_neg (by simp [h3])] at hdec
    have hok0 := msgV_ok (hV0 h3)
    refine Need.mk (msgPre_n (m := ⟨k, hh, ht, hr, ⟨sp, sc, dp, dc, sq, da, th, ta⟩, ack, nx, hg, pc, pl, cc, cl⟩) (a := .row 0) (b := .row 1) hok0 rfl rfl) fun _ => ?_
    have z := msgOf_n (m := ⟨k, hh, ht, hr, ⟨sp, sc, dp, dc, sq, da, th, ta⟩, ack, nx, hg, pc, pl, cc, cl⟩) (a := .row 0) (b := .row 1) (n := lenL pl) (n' := lenL cl) (fr := true) (fr' := true) hok0 rfl rfl
    simp only [msgC, msgCP, h32, pkC, List.cons_append, List.nil_append] at z
    rw [z]
    refine Ife.mk (fun hm => ?_) (fun hm => ?_)
    · replace hm : (!mayM ⟨k, hh, ht, hr, ⟨sp, sc, dp, dc, sq, da, th, ta⟩, ack, nx, hg, pc, pl, cc, cl⟩) = true := hm
      rw [Bool.not_eq_true'] at hm
      rw [hdec, if_neg (by rw [hm]; decide)]
      exact ⟨[], [7, 7], ⟨trivial, rfl, (by repeat' (first | exact (fun i j hi _ => absurd hi (Nat.not_lt_zero _)) | exact trivial | exact rfl | apply And.intro | exact (fun _ _ _ _ => Cell.le_refl _) | (intro i hi; rfl) | (intro i hi; exact absurd hi (Nat.not_lt_zero _)))), (by show List.Nodup []; exact List.nodup_nil), rfl, (by repeat' (first | exact (fun i j hi _ => absurd hi (Nat.not_lt_zero _)) | exact trivial | exact rfl | apply And.intro | exact (fun _ _ _ _ => Cell.le_refl _) | (intro i hi; rfl) | (intro i hi; exact absurd hi (Nat.not_lt_zero _))))⟩⟩
    replace hm : (!mayM ⟨k, hh, ht, hr, ⟨sp, sc, dp, dc, sq, da, th, ta⟩, ack, nx, hg, pc, pl, cc, cl⟩) = false := hm
    rw [Bool.not_eq_false'] at hm
    rw [hdec, if_pos hm]
    exact ⟨[], [2, 3], ⟨trivial, rfl, (by repeat' (first | exact (fun i j hi _ => absurd hi (Nat.not_lt_zero _)) | exact trivial | exact rfl | apply And.intro | exact (fun _ _ _ _ => Cell.le_refl _) | (intro i hi; rfl) | (intro i hi; exact absurd hi (Nat.not_lt_zero _)))), (by show List.Nodup []; exact List.nodup_nil), rfl, (by repeat' (first | exact (fun i j hi _ => absurd hi (Nat.not_lt_zero _)) | exact trivial | exact rfl | apply And.intro | exact (fun _ _ _ _ => Cell.le_refl _) | (intro i hi; rfl) | (intro i hi; exact absurd hi (Nat.not_lt_zero _))))⟩⟩

end Go.Proofs.Ytcgoaicifjndpaa.Vx
end

section
/- What chapter 8's examples fix, by the walker. -/
namespace Go.Proofs.Ytcgoaicifjndpaa.Vx
open Go.RowKit
set_option linter.unusedVariables false
set_option linter.unusedSimpArgs false
theorem dec_nil : (decMsg []).2 = 2 := by
  rw [decMsg_bad (by decide)]
  show (Leb.next [] 0).2.2 = 2
  decide
theorem decMsg_st {l : List UInt8} {a e : Int} (h : (rMsg l (0, 0)).2 = (a, e)) (he : e ≠ 0) : decMsg l = (zeroMsg, e) := by
  have : endS l (rMsg l (0, 0)).2.1 (rMsg l (0, 0)).2.2 = e := by
    rw [h]
    unfold endS
    rw [if_neg (by simp [he])]
  unfold decMsg decOf
  rw [this, if_pos he]
theorem next_nine : Leb.next [9] 0 = (9, 1, 0) := by decide
theorem num_nine : rNum 1 5 [9] (0, 0) = (0, 0, 1) := by
  unfold rNum numS
  rw [next_nine]
  rfl
theorem rMsg_num {l : List UInt8} {k : Int} {s1 : Int × Int} (h : rNum 1 5 l (0, 0) = (k, s1)) (hs : s1.2 ≠ 0) : (rMsg l (0, 0)).2 = s1 := by
  show (rRest (rNum 1 5 l (0, 0)).1 l (rNum 1 5 l (0, 0)).2).2 = _
  rw [h]
  exact (codecRest k).stick l s1 hs
theorem decMsg_num {l : List UInt8} {k a e : Int} (h : rNum 1 5 l (0, 0) = (k, a, e)) (he : e ≠ 0) : (decMsg l).2 = e := by
  rw [decMsg_st (rMsg_num h he) he]
theorem dec_nine : (decMsg [9]).2 = 1 := decMsg_num num_nine (by decide)
def sTx0 : SpecF
  | [.c (.row 0)], [.data fr ty sz n get] => some (ty = 74 ∧ sz = 50 ∧ n = 0, .tup [(some (.str [0]), []), (some (.int .i64 0), [])], [.dead])
  | _, _ => none

set_option maxRecDepth 100000 in
set_option maxHeartbeats 2000000 in
theorem tx0P : Fn Try.prog 69 [] [(74, 250)] sTx0 := by
  have hC : CtsOk Try.prog [(109, appMakesW 190 5), (132, appW 190 5 sNum), (111, appW 190 5 sBytes)] := CtsOk.cons (MakesW.ct newWP) <| CtsOk.cons (MethW.ct numP) <| CtsOk.cons (MethW.ct bytesP) <| CtsOk.nil _
  refine Fn.of (E := tbR) [] 1 [] tbR_ok hC (by kernel_rfl) Try.func69 rfl rfl rfl (by kernel_rfl) (by kernel_rfl) 1 5 1 ?_ ?_
  · intro args h pre r h' hs
    unfold sTx0 at hs
    split at hs
    · cases hs; exact ⟨rfl, rfl, Nat.le_of_ble_eq_true rfl⟩
    · cases hs
  · intro args h pre r h' hs hp
    unfold sTx0 at hs
    split at hs
    rotate_left
    · cases hs
    rename_i fr ty sz n get
    cases hs
    obtain ⟨rfl, rfl, rfl⟩ := hp
    refine ⟨[.data fr 74 50 0 get], ⟨⟨rfl, rfl, rfl, rfl, fun i j hi hj => Cell.le_refl _⟩, trivial⟩, ?_⟩
    unfold sNum sBytes
    generalize hg0 : (List.length : List UInt8 → Nat) = g0
    generalize ho0 : @numW = zo0, ho1 : @numBad = zo1, ho2 : @fitNum = zo2, ho3 : @isI64 = zo3, ho4 : @bytesW = zo4, ho5 : @badW = zo5
    generalize hA : Arith.std = A
    cbv
    subst hA hg0 ho0 ho1 ho2 ho3 ho4 ho5
    refine Ife.mk (fun h => absurd (of_decide_eq_true (p := (64 : Int) < ((0 : Nat) : Int)) h) (by decide)) (fun _ => ?_)
    refine Need.mk trivial fun _ => Need.mk (show fitNum [] 0 from ⟨by unfold isI64; omega, by decide⟩) fun _ => ?_
    refine Ife.mk (fun h => absurd (of_decide_eq_true (p := (0 : Int) < ((0 : Nat) : Int)) h) (by decide)) (fun _ => ?_)
    refine Need.mk trivial fun _ => ?_
    exact ⟨[0], ⟨rfl, by repeat' (first | exact trivial | exact rfl | apply And.intro | exact (fun _ _ _ _ => Cell.le_refl _) | (intro i hi; rfl) | (intro i hi; exact absurd hi (Nat.not_lt_zero _))), by decide, rfl, by repeat' (first | exact trivial | exact rfl | apply And.intro | exact (fun _ _ _ _ => Cell.le_refl _) | (intro i hi; rfl) | (intro i hi; exact absurd hi (Nat.not_lt_zero _)))⟩⟩

def sTrue8 : List SV → Option (Prop × SV)
  | [] => some (True, .c .tt)
  | _ => none

set_option maxRecDepth 100000 in
set_option maxHeartbeats 2000000 in
theorem first8P : Pure Try.prog 60 sTrue8 := by
  have hC : CtsOk Try.prog [(69, appFn [] [(74, 250)] sTx0), (62, appFn [] [] sDecM)] := CtsOk.cons (Fn.ct tx0P) <| CtsOk.cons (Fn.ct decMP) <| CtsOk.nil _
  refine Pure.of (E := tbR) (C := [(69, appFn [] [(74, 250)] sTx0), (62, appFn [] [] sDecM)]) [] 0 [] tbR_ok hC (by kernel_rfl) Try.func60 rfl rfl rfl (by kernel_rfl) (by kernel_rfl) ?_ ?_
  · intro args pre r h
    unfold sTrue8 at h
    split at h
    · cases h; rfl
    · cases h
  · intro args pre r h hp
    unfold sTrue8 at h
    split at h
    rotate_left
    · cases h
    cases h
    unfold sTx0 sDecM
    generalize hg0 : (List.length : List UInt8 → Nat) = g0
    try unfold leafG
    try unfold msgC
    generalize ho0 : @lK = zo0, ho1 : @lV = zo1, ho2 : @lI = zo2, ho3 : @lP = zo3, ho4 : @lN = zo4, ho5 : @pG = zo5, ho6 : @rN = zo6, ho7 : @lenL = zo7, ho8 : @decMsg = zo8
    generalize hA : Arith.std = A
    cbv
    subst hA hg0 ho0 ho1 ho2 ho3 ho4 ho5 ho6 ho7 ho8
    refine Need.mk trivial fun _ => Need.mk (Nat.zero_le _) fun _ => Need.mk (show 1 ≤ 140737488351232 by decide) fun _ => ?_
    refine Ife.mk (fun _ => ?_) (fun h => absurd h (by decide))
    refine Ife.mk (fun _ => ?_) (fun h => absurd h (by decide))
    refine Ife.mk (fun _ => ?_) (fun h => absurd (decide_eq_true dec_nil) (by rw [show decide ((decMsg []).2 = 2) = false from h]; decide))
    exact decide_eq_true dec_nine

end Go.Proofs.Ytcgoaicifjndpaa.Vx
end

section
/- The document's proofs as bytes, by the walker. -/
namespace Go.Proofs.Ytcgoaicifjndpaa.Vx
open Go.RowKit
set_option linter.unusedVariables false
set_option linter.unusedSimpArgs false
theorem leavesB_len {L : List PLeaf} (h : ∀ x ∈ L, leafV x) : (flatE leafB L).length ≤ 40000 * L.length := by
  have e := wLeaves_ok L [] h
  have l := wLeaves_len L ([], false) fun x hx => leafV_fit (h x hx)
  rw [e] at l
  simpa using l
theorem sumsB_len {p : List (List Int)} (h : ∀ x ∈ p, x.length = 32) : (flatE hashOf p).length ≤ 32 * p.length := by
  have e := wPath_ok p []
  have l := wPath_len p ([], false) h
  rw [e] at l
  simpa using l
theorem flatE_take {α : Type} (E : α → List UInt8) {p : List α} {i : Nat} (h : i < p.length) : flatE E (p.take (i + 1)) = flatE E (p.take i) ++ E p[i] := by
  unfold flatE
  rw [List.take_add_one, List.getElem?_eq_getElem h, List.map_append, List.flatten_append]
  simp
theorem hashOf_lenL (h : List Int) : (hashOf h).length = h.length := by simp [hashOf]
/-- The bytes of the first leaves. -/
structure LPp (L : List PLeaf) (s0 : List UInt8) where
  i : Int
  n : Nat
  l : List UInt8
  hn : i = (n : Int)
  h1 : n ≤ L.length
  w : l = s0 ++ flatE leafB (L.take n)
/-- The bytes of the first sums. -/
structure LPq (p : List (List Int)) (s0 : List UInt8) where
  i : Int
  n : Nat
  l : List UInt8
  hn : i = (n : Int)
  h1 : n ≤ p.length
  w : l = s0 ++ flatE hashOf (p.take n)
def rPutPre (c : Int) (L : List PLeaf) : Prop := proofV (c, L)
def sRPutPr : SpecF
  | [.agg [.int .i64 c, .row 0]], [.data fr ty sz n get] => some (rPutPre c (leafL n get) ∧ leavesPre ty sz n get, .c (.str (proofB (c, leafL n get))), [.dead])
  | _, _ => none

set_option maxRecDepth 100000 in
set_option maxHeartbeats 8000000 in
theorem rputPrP : Fn Try.prog 124 [] [(140, 204)] sRPutPr := by
  have hC : CtsOk Try.prog [(120, appPure sLebPut), (123, appPure sPutText), (121, appPure sHText)] := CtsOk.cons (Pure.ct refPutP) <| CtsOk.cons (Pure.ct refPutTextP) <| CtsOk.cons (Pure.ct refHTextP) <| CtsOk.nil _
  refine Fn.of (E := tbR) [] 0 [(1, [(0, true), (1, true), (3, true), (4, true), (5, true), (2, false), (6, false), (7, true), (8, true)]), (6, [(0, true), (1, true), (2, true), (4, true), (5, true), (8, true), (9, true), (12, true), (13, true), (14, true), (3, false), (6, false), (7, true), (10, false), (11, true), (15, false), (16, true), (17, true), (18, true)])] tbR_ok hC (by kernel_rfl) Try.func124 rfl rfl rfl (by kernel_rfl) (by kernel_rfl) 1 5 1 ?_ ?_
  · intro args h pre r h' hs
    unfold sRPutPr at hs
    split at hs
    · cases hs; exact ⟨rfl, rfl, Nat.le_of_ble_eq_true rfl⟩
    · cases hs
  · intro args h pre r h' hs hp
    unfold sRPutPr at hs
    split at hs
    rotate_left
    · cases hs
    rename_i c fr ty sz n get
    cases hs
    obtain ⟨hV, rfl, rfl, hst, hok, hm⟩ := hp
    refine ⟨[.data fr 140 4 n (leafG false (leafL n get))], ⟨⟨rfl, rfl, rfl, rfl, fun i j hi hj => by rw [hst i j hi hj]; exact Cell.le_refl _⟩, trivial⟩, ?_⟩
    have hL : (leafL n get).length = n := leafL_len
    generalize leafL n get = L at hL hok hV ⊢
    unfold sLebPut sPutText sHText
    generalize hg0 : (List.length : List UInt8 → Nat) = g0
    generalize hL : lft Try.prog _ = L
    try unfold leafG
    generalize ho0 : @lK = zo0, ho1 : @lV = zo1, ho2 : @lI = zo2, ho3 : @lP = zo3, ho4 : @lN = zo4, ho5 : @pG = zo5, ho6 : @leafL = zo6, ho7 : @leavesPre = zo7, ho8 : @hN = zo8, ho9 : @textB = zo9, ho10 : @Leb.put = zo10, ho11 : @hashOf = zo11, ho12 : @flatE = zo12, ho13 : @leafB = zo13, ho14 : @proofB = zo14, ho15 : @isI64 = zo15, ho16 : @rPutPre = zo16
    generalize hA : Arith.std = A
    cbv
    subst hA hg0 hL ho0 ho1 ho2 ho3 ho4 ho5 ho6 ho7 ho8 ho9 ho10 ho11 ho12 ho13 ho14 ho15 ho16
    have hn0 : (L.length : Int) = (n : Int) := by omega
    have hV0 : proofV (c, L) := hV
    obtain ⟨⟨v1, v2⟩, ⟨v3, v4⟩, v5⟩ := hV
    dsimp only at v1 v2 v3 v4 v5
    have v6 : L.length ≤ 2 := Int.ofNat_le.mp v4
    have p1 := Leb.put_len_le c
    have p2 := Leb.put_len_le (n : Int)
    refine Need.mk (show isI64 c by unfold isI64; omega) fun _ => ?_
    refine Need.mk (show isI64 (n : Int) by unfold isI64; omega) fun _ => ?_
    refine Need.mk (show ((Leb.put c).length : Int) + (Leb.put (n : Int)).length ≤ 9223372036854775807 by omega) fun _ => ?_
    show Runs Try.prog 1 (.loop _) _ _
    refine loop_ruleL (N := env (lft Try.prog 1) 0 .std tbR [(120, appPure sLebPut), (123, appPure sPutText), (121, appPure sHText)] [(1, [(0, true), (1, true), (3, true), (4, true), (5, true), (2, false), (6, false), (7, true), (8, true)]), (6, [(0, true), (1, true), (2, true), (4, true), (5, true), (8, true), (9, true), (12, true), (13, true), (14, true), (3, false), (6, false), (7, true), (10, false), (11, true), (15, false), (16, true), (17, true), (18, true)])]) rfl tbR_ok hC (fun c st K _ h => h) (by kernel_rfl) [] (X := LPp L (Leb.put c ++ Leb.put (n : Int)))
      (S := fun x => ⟨[.any, .c (.ptr 1 0), .any, .c (.str x.l), .c (.int .i64 x.i)] ++ List.replicate 56 .any, [.data fr 140 4 n (leafG false L), .cells 72 [.int .i64 c, .row 0]]⟩) (μ := fun x => L.length - x.n) ⟨0, 0, Leb.put c ++ Leb.put (n : Int), rfl, by omega, by simp [flatE]⟩ (by kernel_rfl) [0, 1] ?_ ?_
    · refine ⟨rfl, by show List.Nodup [1]; decide, ?_, ?_⟩ <;> repeat' (first | exact trivial | exact rfl | apply And.intro | exact (fun _ _ _ _ => Cell.le_refl _) | (intro i hi; rfl) | (intro i hi; exact absurd hi (Nat.not_lt_zero _)))
    rintro ⟨i, k, l', hn, h1, w⟩
    replace hn : i = @Nat.cast Int instNatCastInt k := hn
    subst hn
    unfold sLebPut sPutText sHText
    generalize hg0 : (List.length : List UInt8 → Nat) = g0
    generalize hL : lft Try.prog _ = L
    try dsimp only
    try unfold leafG
    generalize ho0 : @lK = zo0, ho1 : @lV = zo1, ho2 : @lI = zo2, ho3 : @lP = zo3, ho4 : @lN = zo4, ho5 : @pG = zo5, ho6 : @leafL = zo6, ho7 : @leavesPre = zo7, ho8 : @hN = zo8, ho9 : @textB = zo9, ho10 : @Leb.put = zo10, ho11 : @hashOf = zo11, ho12 : @flatE = zo12, ho13 : @leafB = zo13, ho14 : @proofB = zo14, ho15 : @isI64 = zo15, ho16 : @rPutPre = zo16
    generalize hA : Arith.std = A
    cbv
    subst hA hg0 hL ho0 ho1 ho2 ho3 ho4 ho5 ho6 ho7 ho8 ho9 ho10 ho11 ho12 ho13 ho14 ho15 ho16
    refine Ife.mk (fun hlt => ?_) (fun hlt => ?_)
    · replace hlt : (k : Int) < @Nat.cast Int instNatCastInt n := of_decide_eq_true (p := (k : Int) < (n : Int)) hlt
      have hk : k < L.length := by omega
      obtain ⟨q1, q2, q3, q4, q5⟩ := lN_eq hk
      have hx := v5 _ (List.getElem_mem hk)
      obtain ⟨x1, x2, ⟨x3, x3'⟩, ⟨x4, x4'⟩, x5⟩ := hx
      rw [← q3] at x1
      rw [← q4] at x2
      rw [← q5] at x3 x3'
      have z := leavesB_len (L := L.take k) fun x hx => v5 x (List.mem_of_mem_take hx)
      have z2 : (L.take k).length ≤ 2 := Nat.le_trans (by rw [List.length_take]; exact Nat.min_le_right _ _) v6
      have x1n : (lK L k).length ≤ 160 := Int.ofNat_le.mp x1
      have x2n : (lV L k).length ≤ 64 := Int.ofNat_le.mp x2
      have hl' : l'.length ≤ 100000 := by rw [w]; simp only [List.length_append]; omega
      have x6 : (lN L k : Int) ≤ 30 := by rw [q1]; exact x4'
      have t1 := textB_len (lK L k)
      have t2 := textB_len (lV L k)
      have t3 := Leb.put_len_le (lI L k)
      have t4 := Leb.put_len_le (lN L k : Int)
      refine Need.mk (show 0 ≤ (k : Int) ∧ (k : Int) < (n : Int) by omega) fun _ => Need.mk (show k < n by omega) fun _ => ?_
      refine Need.mk (show (lK L k).length ≤ 9223372036854770000 by omega) fun _ => ?_
      refine Need.mk (show (lV L k).length ≤ 9223372036854770000 by omega) fun _ => ?_
      refine Need.mk (show ((textB (lK L k)).length : Int) + (textB (lV L k)).length ≤ 9223372036854775807 by omega) fun _ => ?_
      refine Need.mk (show isI64 (lI L k) by unfold isI64; omega) fun _ => ?_
      refine Need.mk (show ((textB (lK L k) ++ textB (lV L k)).length : Int) + (Leb.put (lI L k)).length ≤ 9223372036854775807 by simp only [List.length_append]; omega) fun _ => ?_
      refine Need.mk (show isI64 (lN L k : Int) by unfold isI64; omega) fun _ => ?_
      refine Need.mk (show ((textB (lK L k) ++ textB (lV L k) ++ Leb.put (lI L k)).length : Int) + (Leb.put (lN L k : Int)).length ≤ 9223372036854775807 by simp only [List.length_append]; omega) fun _ => ?_
      refine Need.mk (show (l'.length : Int) + (textB (lK L k) ++ textB (lV L k) ++ Leb.put (lI L k) ++ Leb.put (lN L k : Int)).length ≤ 9223372036854775807 by simp only [List.length_append]; omega) fun _ => ?_
      have hlp : (lP L k).length = lN L k := rfl
      have x7 : lN L k ≤ 30 := Int.ofNat_le.mp x6
      have hs32 : ∀ h ∈ lP L k, h.length = 32 := fun h hh => (x5 h (by rw [← q2]; exact hh)).1
      have hy : (⟨lK L k, lV L k, lI L k, lP L k⟩ : PLeaf) = L[k] := by rw [q2, q3, q4, q5]
      show Runs Try.prog 1 (.loop _) _ _
      refine loop_ruleL (N := env (lft Try.prog 1) 0 .std tbR [(120, appPure sLebPut), (123, appPure sPutText), (121, appPure sHText)] [(1, [(0, true), (1, true), (3, true), (4, true), (5, true), (2, false), (6, false), (7, true), (8, true)]), (6, [(0, true), (1, true), (2, true), (4, true), (5, true), (8, true), (9, true), (12, true), (13, true), (14, true), (3, false), (6, false), (7, true), (10, false), (11, true), (15, false), (16, true), (17, true), (18, true)])]) rfl tbR_ok hC (fun c st K _ h => h) (by kernel_rfl) [] (X := LPq (lP L k) (l' ++ (textB (lK L k) ++ textB (lV L k) ++ Leb.put (lI L k) ++ Leb.put (lN L k : Int))))
        (S := fun x => ⟨[.any, .c (.ptr 1 0), .any, .c (.str x.l), .c (.int .i64 (k : Int)), .c (.ptr 3 0), .c (.int .i64 x.i)] ++ List.replicate 54 .any, [.data fr 140 4 n (leafG false L), .cells 72 [.int .i64 c, .row 0], .elems 63 32 (lN L k) (fun i => h32 (hN (lP L k) i)), .cells 140 [.str (lK L k), .str (lV L k), .int .i64 (lI L k), .row 2]]⟩) (μ := fun x => (lP L k).length - x.n) ⟨0, 0, l' ++ (textB (lK L k) ++ textB (lV L k) ++ Leb.put (lI L k) ++ Leb.put (lN L k : Int)), rfl, by omega, by simp [flatE]⟩ (by kernel_rfl) [0, 1, 2, 3] ?_ ?_
      · refine ⟨rfl, by show List.Nodup [1, 3]; decide, ?_, ?_⟩ <;> repeat' (first | exact trivial | exact rfl | apply And.intro | exact (fun _ _ _ _ => Cell.le_refl _) | (intro i hi; rfl) | (intro i hi; exact absurd hi (Nat.not_lt_zero _)))
      rintro ⟨j, m, l2, hm2, h2, w2⟩
      replace hm2 : j = @Nat.cast Int instNatCastInt m := hm2
      subst hm2
      unfold sLebPut sPutText sHText
      generalize hg0 : (List.length : List UInt8 → Nat) = g0
      generalize hL : lft Try.prog _ = L
      try dsimp only
      try unfold leafG
      generalize ho0 : @lK = zo0, ho1 : @lV = zo1, ho2 : @lI = zo2, ho3 : @lP = zo3, ho4 : @lN = zo4, ho5 : @pG = zo5, ho6 : @leafL = zo6, ho7 : @leavesPre = zo7, ho8 : @hN = zo8, ho9 : @textB = zo9, ho10 : @Leb.put = zo10, ho11 : @hashOf = zo11, ho12 : @flatE = zo12, ho13 : @leafB = zo13, ho14 : @proofB = zo14, ho15 : @isI64 = zo15, ho16 : @rPutPre = zo16
      generalize hA : Arith.std = A
      cbv
      subst hA hg0 hL ho0 ho1 ho2 ho3 ho4 ho5 ho6 ho7 ho8 ho9 ho10 ho11 ho12 ho13 ho14 ho15 ho16
      have y1 := sumsB_len (p := (lP L k).take m) fun h hh => hs32 h (List.mem_of_mem_take hh)
      have y2 : ((lP L k).take m).length ≤ 30 := by rw [List.length_take]; omega
      have y3 : l2.length ≤ 200000 := by rw [w2]; simp only [List.length_append]; omega
      refine Ife.mk (fun hlt2 => ?_) (fun hlt2 => ?_)
      · replace hlt2 : (m : Int) < @Nat.cast Int instNatCastInt (lN L k) := of_decide_eq_true (p := (m : Int) < (lN L k : Int)) hlt2
        have hm3 : m < (lP L k).length := by omega
        refine Need.mk (show 0 ≤ (m : Int) ∧ (m : Int) < (lN L k : Int) by omega) fun _ => Need.mk (show m < lN L k by omega) fun _ => ?_
        have e0 := list32 (getD_32 hm3 hs32)
        have e1 : hashOf [hN (lP L k) m 0, hN (lP L k) m 1, hN (lP L k) m 2, hN (lP L k) m 3, hN (lP L k) m 4, hN (lP L k) m 5, hN (lP L k) m 6, hN (lP L k) m 7, hN (lP L k) m 8, hN (lP L k) m 9, hN (lP L k) m 10, hN (lP L k) m 11, hN (lP L k) m 12, hN (lP L k) m 13, hN (lP L k) m 14, hN (lP L k) m 15, hN (lP L k) m 16, hN (lP L k) m 17, hN (lP L k) m 18, hN (lP L k) m 19, hN (lP L k) m 20, hN (lP L k) m 21, hN (lP L k) m 22, hN (lP L k) m 23, hN (lP L k) m 24, hN (lP L k) m 25, hN (lP L k) m 26, hN (lP L k) m 27, hN (lP L k) m 28, hN (lP L k) m 29, hN (lP L k) m 30, hN (lP L k) m 31] = hashOf ((lP L k).getD m []) := congrArg hashOf e0
        have e2 : (hashOf ((lP L k).getD m [])).length = 32 := by rw [hashOf_lenL]; exact getD_32 hm3 hs32
        have e3 : (hashOf [hN (lP L k) m 0, hN (lP L k) m 1, hN (lP L k) m 2, hN (lP L k) m 3, hN (lP L k) m 4, hN (lP L k) m 5, hN (lP L k) m 6, hN (lP L k) m 7, hN (lP L k) m 8, hN (lP L k) m 9, hN (lP L k) m 10, hN (lP L k) m 11, hN (lP L k) m 12, hN (lP L k) m 13, hN (lP L k) m 14, hN (lP L k) m 15, hN (lP L k) m 16, hN (lP L k) m 17, hN (lP L k) m 18, hN (lP L k) m 19, hN (lP L k) m 20, hN (lP L k) m 21, hN (lP L k) m 22, hN (lP L k) m 23, hN (lP L k) m 24, hN (lP L k) m 25, hN (lP L k) m 26, hN (lP L k) m 27, hN (lP L k) m 28, hN (lP L k) m 29, hN (lP L k) m 30, hN (lP L k) m 31]).length = 32 := by rw [e1]; exact e2
        refine Need.mk trivial fun _ => ?_
        refine Need.mk (show (l2.length : Int) + (hashOf [hN (lP L k) m 0, hN (lP L k) m 1, hN (lP L k) m 2, hN (lP L k) m 3, hN (lP L k) m 4, hN (lP L k) m 5, hN (lP L k) m 6, hN (lP L k) m 7, hN (lP L k) m 8, hN (lP L k) m 9, hN (lP L k) m 10, hN (lP L k) m 11, hN (lP L k) m 12, hN (lP L k) m 13, hN (lP L k) m 14, hN (lP L k) m 15, hN (lP L k) m 16, hN (lP L k) m 17, hN (lP L k) m 18, hN (lP L k) m 19, hN (lP L k) m 20, hN (lP L k) m 21, hN (lP L k) m 22, hN (lP L k) m 23, hN (lP L k) m 24, hN (lP L k) m 25, hN (lP L k) m 26, hN (lP L k) m 27, hN (lP L k) m 28, hN (lP L k) m 29, hN (lP L k) m 30, hN (lP L k) m 31]).length ≤ 9223372036854775807 by rw [e3]; omega) fun _ => ?_
        refine Need.mk (by show fitStd .i64 ((m : Int) + 1); unfold fitStd; omega) fun _ => ?_
        refine ⟨⟨(m : Int) + 1, m + 1, l2 ++ hashOf [hN (lP L k) m 0, hN (lP L k) m 1, hN (lP L k) m 2, hN (lP L k) m 3, hN (lP L k) m 4, hN (lP L k) m 5, hN (lP L k) m 6, hN (lP L k) m 7, hN (lP L k) m 8, hN (lP L k) m 9, hN (lP L k) m 10, hN (lP L k) m 11, hN (lP L k) m 12, hN (lP L k) m 13, hN (lP L k) m 14, hN (lP L k) m 15, hN (lP L k) m 16, hN (lP L k) m 17, hN (lP L k) m 18, hN (lP L k) m 19, hN (lP L k) m 20, hN (lP L k) m 21, hN (lP L k) m 22, hN (lP L k) m 23, hN (lP L k) m 24, hN (lP L k) m 25, hN (lP L k) m 26, hN (lP L k) m 27, hN (lP L k) m 28, hN (lP L k) m 29, hN (lP L k) m 30, hN (lP L k) m 31], by omega, by omega, ?w⟩, [0, 1, 2, 3], (by show (lP L k).length - (m + 1) < (lP L k).length - m; omega), ?st⟩
        case st =>
          refine ⟨rfl, by show List.Nodup [1, 3]; decide, by repeat' (first | exact trivial | exact rfl | apply And.intro | exact (fun _ _ _ _ => Cell.le_refl _) | (intro i hi; rfl) | (intro i hi; exact absurd hi (Nat.not_lt_zero _))), ?_⟩
          repeat' (first | exact trivial | exact rfl | apply And.intro | exact (fun _ _ _ _ => Cell.le_refl _) | (intro i hi; rfl) | (intro i hi; exact absurd hi (Nat.not_lt_zero _)))
        case w =>
          rw [flatE_take hashOf hm3, e1, w2, List.getD_eq_getElem?_getD, List.getElem?_eq_getElem hm3]
          simp
      · replace hlt2 : ¬ (m : Int) < @Nat.cast Int instNatCastInt (lN L k) := of_decide_eq_false (p := (m : Int) < (lN L k : Int)) hlt2
        refine Need.mk (by show fitStd .i64 ((k : Int) + 1); unfold fitStd; omega) fun _ => ?_
        refine ⟨⟨(k : Int) + 1, k + 1, l2, by omega, by omega, ?w⟩, [0, 1], (by show L.length - (k + 1) < L.length - k; omega), ?st⟩
        case st =>
          refine ⟨rfl, by show List.Nodup [1]; decide, by repeat' (first | exact trivial | exact rfl | apply And.intro | exact (fun _ _ _ _ => Cell.le_refl _) | (intro i hi; rfl) | (intro i hi; exact absurd hi (Nat.not_lt_zero _))), ?_⟩
          repeat' (first | exact trivial | exact rfl | apply And.intro | exact (fun _ _ _ _ => Cell.le_refl _) | (intro i hi; rfl) | (intro i hi; exact absurd hi (Nat.not_lt_zero _)))
        case w =>
          rw [List.take_of_length_le (by omega)] at w2
          rw [flatE_take leafB hk, w2, w, ← hy]
          simp [leafB, hlp]
    · replace hlt : ¬ (k : Int) < @Nat.cast Int instNatCastInt n := of_decide_eq_false (p := (k : Int) < (n : Int)) hlt
      rw [List.take_of_length_le (by omega)] at w
      have hw : proofB (c, L) = l' := by
        rw [w]
        simp [proofB, hn0]
      rw [hw]
      exact ⟨[0], ⟨rfl, by repeat' (first | exact trivial | exact rfl | apply And.intro | exact (fun _ _ _ _ => Cell.le_refl _) | (intro i hi; rfl) | (intro i hi; exact absurd hi (Nat.not_lt_zero _))), by decide, rfl, by repeat' (first | exact trivial | exact rfl | apply And.intro | exact (fun _ _ _ _ => Cell.le_refl _) | (intro i hi; rfl) | (intro i hi; exact absurd hi (Nat.not_lt_zero _)))⟩⟩

end Go.Proofs.Ytcgoaicifjndpaa.Vx
end

section
/- The document's own readers and writers of packets, by the walker. -/
namespace Go.Proofs.Ytcgoaicifjndpaa
open Go.RowKit
set_option linter.unusedVariables false
set_option linter.unusedSimpArgs false
namespace Vx
set_option maxRecDepth 100000 in
set_option maxHeartbeats 400000 in
theorem refPkP : Meth Try.prog 127 166 sRdPk := by
  refine Meth.of (E := tb) (C := [(128, appMeth 166 sRdText), (125, appMeth 166 sRdNum)]) [] 0 [] tb_ok (CtsOk.cons (Meth.ct refTextP) <| CtsOk.cons (Meth.ct refNumP) <| CtsOk.nil _) (by kernel_rfl) Try.func127 rfl rfl rfl (by kernel_rfl) (by kernel_rfl) ?_ ?_
  · intro cs args pre r cs' h
    unfold sRdPk at h
    split at h
    · cases h; first | rfl | exact ⟨rfl, rfl⟩
    · cases h
  · intro cs args pre r cs' h hp
    unfold sRdPk at h
    split at h
    rotate_left
    · cases h
    rename_i l a b
    cases h
    unfold sRdText sRdNum
    generalize hg0 : textS = g0
    generalize hg1 : numS = g1
    generalize hg2 : okRd = g2
    generalize hg3 : rPk = g3
    generalize hA : Arith.std = A
    cbv
    subst hA hg0 hg1 hg2 hg3
    repeat' first | refine Need.mk ?_ fun _ => ?_ | with_reducible refine And.intro ?_ ?_
    all_goals first
      | exact trivial
      | rfl
      | (repeat first | assumption | with_reducible apply ok_text | with_reducible apply ok_num
         done)

def sPutPk : List SV → Option (Prop × SV)
  | [.agg [.str sp, .int .i64 sc, .str dp, .int .i64 dc, .int .i64 sq, .str da, .int .i64 th, .int .i64 ta]] => some (mayPkt ⟨sp, sc, dp, dc, sq, da, th, ta⟩ = true, .c (.str (pkB ⟨sp, sc, dp, dc, sq, da, th, ta⟩)))
  | _ => none

set_option maxRecDepth 100000 in
set_option maxHeartbeats 400000 in
theorem refPutPkP : Pure Try.prog 122 sPutPk := by
  refine Pure.of (E := tb) (C := [(123, appPure sPutText), (120, appPure sLebPut)]) [] 0 [(1, [(0, true), (1, true), (2, true), (4, true), (5, true), (6, true), (9, true), (10, true), (11, true), (14, true), (15, true), (16, true), (19, true), (20, true), (23, true), (24, true), (27, true), (28, true), (31, true), (32, true), (3, false), (7, false), (8, true), (12, false), (13, true), (17, false), (18, true), (21, false), (22, true), (25, false), (26, true), (29, false), (30, true), (33, false), (34, true), (35, true)])] tb_ok (CtsOk.cons (Pure.ct refPutTextP) <| CtsOk.cons (Pure.ct refPutP) <| CtsOk.nil _) (by kernel_rfl) Try.func122 rfl rfl rfl (by kernel_rfl) (by kernel_rfl) ?_ ?_
  · intro args pre r h
    unfold sPutPk at h
    split at h
    · cases h; first | rfl | exact ⟨rfl, rfl⟩
    · cases h
  · intro args pre r h hp
    unfold sPutPk at h
    split at h
    rotate_left
    · cases h
    rename_i sp sc dp dc sq da th ta
    cases h
    unfold sPutText sLebPut
    generalize hg0 : textB = g0
    generalize hg1 : Leb.put = g1
    generalize hg2 : pkB = g2
    generalize hg3 : mayPkt = g3
    generalize hg4 : isI64 = g4
    generalize hg5 : (List.length : List UInt8 → Nat) = g5
    generalize hA : Arith.std = A
    cbv
    subst hA hg0 hg1 hg2 hg3 hg4 hg5
    have hm := hp
    have hV := mayPk_V hm
    obtain ⟨⟨v1, v2, v3⟩, ⟨v4, v5, v6⟩, ⟨v7, v8⟩, v9, ⟨v10, v11⟩, v12, v13⟩ := hV
    dsimp only at v1 v2 v3 v4 v5 v6 v7 v8 v9 v10 v11 v12 v13
    have e1 := textB_len sp; have e2 := textB_len dp; have e3 := textB_len da
    have q1 := Leb.put_len_le sc; have q2 := Leb.put_len_le dc; have q3 := Leb.put_len_le sq; have q4 := Leb.put_len_le th; have q5 := Leb.put_len_le ta
    refine Need.mk (show sp.length ≤ 9223372036854770000 by omega) fun _ => ?_
    refine Need.mk (show isI64 sc by unfold isI64; omega) fun _ => ?_
    refine Need.mk (show ((textB sp).length : Int) + (Leb.put sc).length ≤ 9223372036854775807 by (try simp only [List.length_append]); omega) fun _ => ?_
    refine Need.mk (show dp.length ≤ 9223372036854770000 by omega) fun _ => ?_
    refine Need.mk (show ((textB sp ++ Leb.put sc).length : Int) + (textB dp).length ≤ 9223372036854775807 by (try simp only [List.length_append]); omega) fun _ => ?_
    refine Need.mk (show isI64 dc by unfold isI64; omega) fun _ => ?_
    refine Need.mk (show ((textB sp ++ Leb.put sc ++ textB dp).length : Int) + (Leb.put dc).length ≤ 9223372036854775807 by (try simp only [List.length_append]); omega) fun _ => ?_
    refine Need.mk (show isI64 sq by unfold isI64; omega) fun _ => ?_
    refine Need.mk (show ((textB sp ++ Leb.put sc ++ textB dp ++ Leb.put dc).length : Int) + (Leb.put sq).length ≤ 9223372036854775807 by (try simp only [List.length_append]); omega) fun _ => ?_
    refine Need.mk (show da.length ≤ 9223372036854770000 by omega) fun _ => ?_
    refine Need.mk (show ((textB sp ++ Leb.put sc ++ textB dp ++ Leb.put dc ++ Leb.put sq).length : Int) + (textB da).length ≤ 9223372036854775807 by (try simp only [List.length_append]); omega) fun _ => ?_
    refine Need.mk (show isI64 th by unfold isI64; omega) fun _ => ?_
    refine Need.mk (show ((textB sp ++ Leb.put sc ++ textB dp ++ Leb.put dc ++ Leb.put sq ++ textB da).length : Int) + (Leb.put th).length ≤ 9223372036854775807 by (try simp only [List.length_append]); omega) fun _ => ?_
    refine Need.mk (show isI64 ta by unfold isI64; omega) fun _ => ?_
    refine Need.mk (show ((textB sp ++ Leb.put sc ++ textB dp ++ Leb.put dc ++ Leb.put sq ++ textB da ++ Leb.put th).length : Int) + (Leb.put ta).length ≤ 9223372036854775807 by (try simp only [List.length_append]); omega) fun _ => ?_
    simp [pkB, Arith.std]



end Vx
end Go.Proofs.Ytcgoaicifjndpaa
end
