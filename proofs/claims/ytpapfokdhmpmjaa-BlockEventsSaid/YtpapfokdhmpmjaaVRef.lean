/- The document's own readers and writers, by the walker. -/
import Derived.Test.YtpapfokdhmpmjaaVRd2
import Derived.Test.YtpapfokdhmpmjaaVLight
import Derived.Test.YtpapfokdhmpmjaaCodecEv
import Derived.Test.YtpapfokdhmpmjaaVBlk
namespace Go.Proofs.Ytpapfokdhmpmjaa
open Go.RowKit
set_option linter.unusedVariables false
set_option linter.unusedSimpArgs false

theorem refNextB (l : List UInt8) (v : Int) (W : World) (hl : l.length ≤ 140737488351232) (hv : isI64 v) :
    Calls Try.prog 71 #[.string ⟨l.toArray⟩, .int .i64 v] W fun e w' =>
      e = .returned (.tuple #[.int .i64 (Leb.next l v).1, .int .i64 (Leb.next l v).2.1, .int .i64 (Leb.next l v).2.2]) ∧ Below W.heap.size W w' := by
  refine (refNext l v W hl hv).mono ?_
  rintro e w' ⟨he, rfl⟩
  exact ⟨he, Below.refl _ _⟩
theorem refNameB (l : List UInt8) (W : World) (hl : l.length ≤ 9223372036854775807) :
    Calls Try.prog 61 #[.string ⟨l.toArray⟩] W fun e w' => e = .returned (.bool (nameOk l)) ∧ Below W.heap.size W w' := by
  refine (refName l W hl).mono ?_
  rintro e w' ⟨he, rfl⟩
  exact ⟨he, Below.refl _ _⟩
theorem textB_len (m : List UInt8) : (textB m).length ≤ m.length + 8 := by
  have := Leb.put_len_le m.length
  unfold textB
  rw [List.length_append]
  omega

namespace Vx
theorem refNextP : Pure Try.prog 71 sLebNext := by
  refine ⟨by kernel_rfl, fun args pre r h hp us hs W => ?_⟩
  unfold sLebNext at h
  split at h
  rotate_left
  · cases h
  rename_i l v
  cases h
  obtain ⟨u0, _, rfl, a0, b0⟩ := hs
  obtain rfl : .string ⟨(l).toArray⟩ = u0 := Option.some.inj a0
  obtain ⟨u1, _, rfl, a1, b1⟩ := b0
  obtain rfl : .int .i64 v = u1 := Option.some.inj a1
  cases b1
  refine Calls.mono (refNextB l v W hp.1 hp.2) fun e W' he => ?_
  obtain ⟨rfl, hb⟩ := he
  exact ⟨_, rfl, ⟨[.int .i64 (Leb.next l v).1, .int .i64 (Leb.next l v).2.1, .int .i64 (Leb.next l v).2.2], ⟨_, _, rfl, rfl, _, _, rfl, rfl, _, _, rfl, rfl, rfl⟩, rfl⟩, hb⟩

theorem refNameP : Pure Try.prog 61 sName := by
  refine ⟨by kernel_rfl, fun args pre r h hp us hs W => ?_⟩
  unfold sName at h
  split at h
  rotate_left
  · cases h
  rename_i l
  cases h
  obtain ⟨u0, _, rfl, a0, b0⟩ := hs
  obtain rfl : .string ⟨(l).toArray⟩ = u0 := Option.some.inj a0
  cases b0
  refine Calls.mono (refNameB l W hp) fun e W' he => ?_
  obtain ⟨rfl, hb⟩ := he
  exact ⟨_, rfl, rfl, hb⟩

theorem refMayEndP : Pure Try.prog 51 sMayEnd := by
  refine ⟨by kernel_rfl, fun args pre r h hp us hs W => ?_⟩
  unfold sMayEnd at h
  split at h
  rotate_left
  · cases h
  rename_i l c
  cases h
  obtain ⟨_, _, rfl, ⟨v0, a0, rfl⟩, b0⟩ := hs
  obtain rfl := a0.unique (show IsL [] _ [.string ⟨(l).toArray⟩, .int .i64 c] from rfl)
  cases b0
  refine Calls.mono (refMayEnd l c W hp) fun e W' he => ?_
  obtain ⟨rfl, hb⟩ := he
  exact ⟨_, rfl, rfl, hb⟩

theorem refMayPkP : Pure Try.prog 52 sMayPk := by
  refine ⟨by kernel_rfl, fun args pre r h hp us hs W => ?_⟩
  unfold sMayPk at h
  split at h
  rotate_left
  · cases h
  rename_i sp sc dp dc sq da th ta
  cases h
  obtain ⟨_, _, rfl, ⟨v0, a0, rfl⟩, b0⟩ := hs
  obtain rfl := a0.unique (show IsL [] _ [.string ⟨(sp).toArray⟩, .int .i64 sc, .string ⟨(dp).toArray⟩, .int .i64 dc, .int .i64 sq, .string ⟨(da).toArray⟩, .int .i64 th, .int .i64 ta] from rfl)
  cases b0
  refine Calls.mono (refMayPacket ⟨sp, sc, dp, dc, sq, da, th, ta⟩ W hp) fun e W' he => ?_
  obtain ⟨rfl, hb⟩ := he
  exact ⟨_, rfl, rfl, hb⟩

theorem refPutP : Pure Try.prog 54 sLebPut := by
  refine ⟨by kernel_rfl, fun args pre r h hp us hs W => ?_⟩
  unfold sLebPut at h
  split at h
  rotate_left
  · cases h
  rename_i v
  cases h
  obtain ⟨u0, _, rfl, a0, b0⟩ := hs
  obtain rfl : .int .i64 v = u0 := Option.some.inj a0
  cases b0
  refine Calls.mono (refPut v W hp) fun e W' he => ?_
  obtain ⟨rfl, hb⟩ := he
  exact ⟨_, rfl, rfl, hb⟩

def sPutText : List SV → Option (Prop × SV)
  | [.c (.str m)] => some (m.length ≤ 9223372036854770000, .c (.str (textB m)))
  | _ => none

set_option maxRecDepth 100000 in
set_option maxHeartbeats 400000 in
theorem refPutTextP : Pure Try.prog 53 sPutText := by
  refine Pure.of (E := tb) (C := [(54, appPure sLebPut)]) [] 0 [] tb_ok (CtsOk.cons (Pure.ct refPutP) <| CtsOk.nil _) (by kernel_rfl) Try.func53 rfl rfl rfl (by kernel_rfl) (by kernel_rfl) ?_ ?_
  · intro args pre r h
    unfold sPutText at h
    split at h
    · cases h; first | rfl | exact ⟨rfl, rfl⟩
    · cases h
  · intro args pre r h hp
    unfold sPutText at h
    split at h
    rotate_left
    · cases h
    rename_i m
    cases h
    unfold sLebPut
    generalize hg0 : Leb.put = g0
    generalize hg1 : textB = g1
    generalize hg2 : (List.length : List UInt8 → Nat) = g2
    generalize hA : Arith.std = A
    cbv
    subst hA hg0 hg1 hg2
    refine Need.mk (show isI64 (m.length : Int) by unfold isI64; omega) fun _ => ?_
    have h8 := Leb.put_len_le m.length
    refine Need.mk (show ((Leb.put m.length).length : Int) + m.length ≤ 9223372036854775807 by omega) fun _ => ?_
    rfl

set_option maxRecDepth 100000 in
set_option maxHeartbeats 400000 in
theorem refNumP : Meth Try.prog 57 79 sRdNum := by
  refine Meth.of (E := tb) (C := [(71, appPure sLebNext)]) [] 0 [(3, [(0, true), (1, true), (2, true), (3, true), (4, true), (5, true), (6, true), (7, true), (8, false), (9, true), (10, true), (11, true), (12, true), (13, true), (14, true), (15, true)])] tb_ok (CtsOk.cons (Pure.ct refNextP) <| CtsOk.nil _) (by kernel_rfl) Try.func57 rfl rfl rfl (by kernel_rfl) (by kernel_rfl) ?_ ?_
  · intro cs args pre r cs' h
    unfold sRdNum at h
    split at h
    · cases h; first | rfl | exact ⟨rfl, rfl⟩
    · cases h
  · intro cs args pre r cs' h hp
    unfold sRdNum at h
    split at h
    rotate_left
    · cases h
    rename_i l a b lo hi
    cases h
    unfold sLebNext
    generalize hg0 : numS = g0
    generalize hg1 : textS = g1
    generalize hg2 : countS = g2
    generalize hg3 : endS = g3
    generalize hg4 : Leb.next = g4
    generalize hg5 : isI64 = g5
    generalize hg6 : okRd = g6
    generalize hg7 : (List.length : List UInt8 → Nat) = g7
    generalize hA : Arith.std = A
    cbv
    subst hA hg0 hg1 hg2 hg3 hg4 hg5 hg6 hg7
    have h64 : isI64 a := by obtain ⟨h1, h2, h3, h4, h5⟩ := hp; unfold isI64; omega
    have hlen : l.length ≤ 140737488351232 := hp.2.2.1
    obtain ⟨g1, g2, g3, g4, g5⟩ := hp
    have hr := Leb.next_range l a
    refine Ife.mk (fun h => ?_) (fun h => ?_)
    · have h : b ≠ 0 := by simpa [Arith.std] using h
      simp [numS, h]
    have hb : b = 0 := by simpa [Arith.std] using h
    subst hb
    refine Need.mk ⟨hlen, h64⟩ fun _ => ?_
    unfold numS
    generalize Leb.next l a = r at hr ⊢
    obtain ⟨v, p, e⟩ := r
    dsimp only at hr ⊢
    simp only [Ife_iff, Need_iff, Arith.std]
    by_cases he : e = 0 <;> by_cases h1 : v < lo <;> by_cases h2 : hi < v <;> simp [he, h1, h2]

set_option maxRecDepth 100000 in
set_option maxHeartbeats 400000 in
theorem refCountP : Meth Try.prog 58 79 sCount := by
  refine Meth.of (E := tb) (C := [(71, appPure sLebNext)]) [] 0 [(3, [(0, true), (1, true), (2, true), (3, true), (4, true), (5, true), (6, true), (7, true), (8, false), (9, true), (10, true), (11, true), (12, true), (13, true), (14, true), (15, true)])] tb_ok (CtsOk.cons (Pure.ct refNextP) <| CtsOk.nil _) (by kernel_rfl) Try.func58 rfl rfl rfl (by kernel_rfl) (by kernel_rfl) ?_ ?_
  · intro cs args pre r cs' h
    unfold sCount at h
    split at h
    · cases h; first | rfl | exact ⟨rfl, rfl⟩
    · cases h
  · intro cs args pre r cs' h hp
    unfold sCount at h
    split at h
    rotate_left
    · cases h
    rename_i l a b hi
    cases h
    unfold sLebNext
    generalize hg0 : numS = g0
    generalize hg1 : textS = g1
    generalize hg2 : countS = g2
    generalize hg3 : endS = g3
    generalize hg4 : Leb.next = g4
    generalize hg5 : isI64 = g5
    generalize hg6 : okRd = g6
    generalize hg7 : (List.length : List UInt8 → Nat) = g7
    generalize hA : Arith.std = A
    cbv
    subst hA hg0 hg1 hg2 hg3 hg4 hg5 hg6 hg7
    have h64 : isI64 a := by obtain ⟨h1, h2, h3, h4, h5⟩ := hp; unfold isI64; omega
    have hlen : l.length ≤ 140737488351232 := hp.2.2.1
    obtain ⟨g1, g2, g3, g4, g5⟩ := hp
    have hr := Leb.next_range l a
    refine Ife.mk (fun h => ?_) (fun h => ?_)
    · have h : b ≠ 0 := by simpa [Arith.std] using h
      simp [countS, h]
    have hb : b = 0 := by simpa [Arith.std] using h
    subst hb
    refine Need.mk ⟨hlen, h64⟩ fun _ => ?_
    unfold countS
    generalize Leb.next l a = r at hr ⊢
    obtain ⟨v, p, e⟩ := r
    dsimp only at hr ⊢
    simp only [Ife_iff, Need_iff, Arith.std]
    by_cases he : e = 0 <;> by_cases h2 : hi < v <;> simp [he, h2]

set_option maxRecDepth 100000 in
set_option maxHeartbeats 400000 in
theorem refTextP : Meth Try.prog 56 79 sRdText := by
  refine Meth.of (E := tb) (C := [(71, appPure sLebNext)]) [] 0 [(3, [(0, true), (1, true), (2, true), (3, true), (4, true), (5, true), (6, true), (7, true), (8, false), (9, true), (10, true), (11, true), (12, true), (13, true), (14, true), (15, true)])] tb_ok (CtsOk.cons (Pure.ct refNextP) <| CtsOk.nil _) (by kernel_rfl) Try.func56 rfl rfl rfl (by kernel_rfl) (by kernel_rfl) ?_ ?_
  · intro cs args pre r cs' h
    unfold sRdText at h
    split at h
    · cases h; first | rfl | exact ⟨rfl, rfl⟩
    · cases h
  · intro cs args pre r cs' h hp
    unfold sRdText at h
    split at h
    rotate_left
    · cases h
    rename_i l a b hi
    cases h
    unfold sLebNext
    generalize hg0 : numS = g0
    generalize hg1 : textS = g1
    generalize hg2 : countS = g2
    generalize hg3 : endS = g3
    generalize hg4 : Leb.next = g4
    generalize hg5 : isI64 = g5
    generalize hg6 : okRd = g6
    generalize hg7 : (List.length : List UInt8 → Nat) = g7
    generalize hA : Arith.std = A
    cbv
    subst hA hg0 hg1 hg2 hg3 hg4 hg5 hg6 hg7
    have h64 : isI64 a := by obtain ⟨h1, h2, h3, h4, h5⟩ := hp; unfold isI64; omega
    have hlen : l.length ≤ 140737488351232 := hp.2.2.1
    obtain ⟨g1, g2, g3, g4, g5⟩ := hp
    have hr := Leb.next_range l a
    refine Ife.mk (fun h => ?_) (fun h => ?_)
    · have h : b ≠ 0 := by simpa [Arith.std] using h
      simp [textS, h]
    have hb : b = 0 := by simpa [Arith.std] using h
    subst hb
    refine Need.mk ⟨hlen, h64⟩ fun _ => ?_
    unfold textS
    generalize Leb.next l a = r at hr ⊢
    obtain ⟨v, p, e⟩ := r
    dsimp only at hr ⊢
    simp only [Ife_iff, Need_iff, Arith.std]
    have hcut : List.drop p.toNat (List.take (p + v).toNat l) = cut l p v := by
      unfold cut
      rw [List.drop_take]
      congr 1
      omega
    by_cases he : e = 0
    · subst he
      by_cases h1 : hi < v
      · simp [h1]
      · by_cases h2 : (l.length : Int) - p < v
        · simp [h1, h2, fitStd]
          omega
        · simp [h1, h2, hcut, fitStd]
          omega
    · simp [he]

set_option maxRecDepth 100000 in
set_option maxHeartbeats 400000 in
theorem refEndP : Meth Try.prog 60 79 sRdEnd := by
  refine Meth.of (E := tb) (C := []) [] 0 [(3, [(0, true), (1, true), (2, true), (3, true), (4, true), (5, true), (6, true), (7, true), (8, true), (9, true)])] tb_ok (CtsOk.nil _) (by kernel_rfl) Try.func60 rfl rfl rfl (by kernel_rfl) (by kernel_rfl) ?_ ?_
  · intro cs args pre r cs' h
    unfold sRdEnd at h
    split at h
    · cases h; first | rfl | exact ⟨rfl, rfl⟩
    · cases h
  · intro cs args pre r cs' h hp
    unfold sRdEnd at h
    split at h
    rotate_left
    · cases h
    rename_i l a b
    cases h
    generalize hg0 : endS = g0
    generalize hg1 : okRd = g1
    generalize hg2 : (List.length : List UInt8 → Nat) = g2
    generalize hA : Arith.std = A
    cbv
    subst hA hg0 hg1 hg2
    simp only [Ife_iff, Need_iff, Arith.std]
    unfold endS
    by_cases h1 : b = 0 <;> by_cases h2 : a < (l.length : Int) <;> simp [h1, h2]

set_option maxRecDepth 100000 in
set_option maxHeartbeats 400000 in
theorem refPkP : Meth Try.prog 72 79 sRdPk := by
  refine Meth.of (E := tb) (C := [(56, appMeth 79 sRdText), (57, appMeth 79 sRdNum)]) [] 0 [] tb_ok (CtsOk.cons (Meth.ct refTextP) <| CtsOk.cons (Meth.ct refNumP) <| CtsOk.nil _) (by kernel_rfl) Try.func72 rfl rfl rfl (by kernel_rfl) (by kernel_rfl) ?_ ?_
  · intro cs args pre r cs' h
    unfold sRdPk at h
    split at h
    · cases h; first | rfl | exact ⟨rfl, rfl⟩
    · cases h
  · intro cs args pre r cs' h hp
    unfold sRdPk at h
    split at h
    rotate_left
    · cases h
    rename_i l a b
    cases h
    unfold sRdText sRdNum
    generalize hg0 : textS = g0
    generalize hg1 : numS = g1
    generalize hg2 : okRd = g2
    generalize hg3 : rPk = g3
    generalize hA : Arith.std = A
    cbv
    subst hA hg0 hg1 hg2 hg3
    repeat' first | refine Need.mk ?_ fun _ => ?_ | with_reducible refine And.intro ?_ ?_
    all_goals first
      | exact trivial
      | rfl
      | (repeat first | assumption | with_reducible apply ok_text | with_reducible apply ok_num
         done)

set_option maxRecDepth 100000 in
set_option maxHeartbeats 400000 in
theorem refPlainP : Pure Try.prog 50 sPlain := by
  refine Pure.of (E := tb) (C := []) [2] 0 [(9, [(0, true), (1, true), (2, true), (3, true), (4, true), (5, false), (6, true), (7, false)])] tb_ok (CtsOk.nil _) (by kernel_rfl) Try.func50 rfl rfl rfl (by kernel_rfl) (by kernel_rfl) ?_ ?_
  · intro args pre r h
    unfold sPlain at h
    split at h
    · cases h; first | rfl | exact ⟨rfl, rfl⟩
    · cases h
  · intro args pre r h hp
    unfold sPlain at h
    split at h
    rotate_left
    · cases h
    rename_i k sp sc dp dc sq da th ta ak ep ec ht
    cases h
    generalize hg0 : hasPk = g0
    generalize hg1 : plainEv = g1
    generalize hA : Arith.std = A
    cbv
    subst hA hg0 hg1
    simp only [Ife_iff, Need_iff, Arith.std]
    by_cases h1 : k = 1
    · subst h1
      simp [plainEv, zeroPkt, hasPk]
    by_cases h2 : k = 2
    · subst h2
      simp [plainEv, zeroPkt, hasPk]
    by_cases h3 : k = 3
    · subst h3
      simp [plainEv, zeroPkt, hasPk]
    by_cases h4 : k = 4
    · subst h4
      simp [plainEv, zeroPkt, hasPk]
    by_cases h5 : k = 5
    · subst h5
      simp [plainEv, zeroPkt, hasPk]
    by_cases h6 : k = 6
    · subst h6
      simp [plainEv, zeroPkt, hasPk]
    by_cases h7 : k = 7
    · subst h7
      simp [plainEv, zeroPkt, hasPk]
    have hn : ¬ (1 ≤ k ∧ k ≤ 5) := by omega
    simp [plainEv, zeroPkt, hasPk, *]

set_option maxRecDepth 100000 in
set_option maxHeartbeats 400000 in
theorem refMayEvP : Pure Try.prog 23 sMayEv := by
  refine Pure.of (E := tb) (C := [(50, appPure sPlain), (52, appPure sMayPk), (51, appPure sMayEnd)]) [] 0 [(1, [(0, true), (1, true), (2, true), (3, true), (4, true), (5, true), (6, true), (7, true), (8, true), (9, true), (10, true), (11, false), (12, true), (13, true)])] tb_ok (CtsOk.cons (Pure.ct refPlainP) <| CtsOk.cons (Pure.ct refMayPkP) <| CtsOk.cons (Pure.ct refMayEndP) <| CtsOk.nil _) (by kernel_rfl) Try.func23 rfl rfl rfl (by kernel_rfl) (by kernel_rfl) ?_ ?_
  · intro args pre r h
    unfold sMayEv at h
    split at h
    · cases h; first | rfl | exact ⟨rfl, rfl⟩
    · cases h
  · intro args pre r h hp
    unfold sMayEv at h
    split at h
    rotate_left
    · cases h
    rename_i k sp sc dp dc sq da th ta ak ep ec ht
    cases h
    unfold sPlain sMayPk sMayEnd
    generalize hg0 : plainEv = g0
    generalize hg1 : mayPkt = g1
    generalize hg2 : mayEnd = g2
    generalize hg3 : mayEv = g3
    generalize hg4 : Pkt.fits = g4
    generalize hg5 : Ev.fits = g5
    generalize hg6 : (List.length : List UInt8 → Nat) = g6
    generalize hA : Arith.std = A
    cbv
    subst hA hg0 hg1 hg2 hg3 hg4 hg5 hg6
    simp only [Ife_iff, Need_iff, Arith.std]
    generalize hy : plainEv _ = y
    obtain ⟨k', ⟨sp', sc', dp', dc', sq', da', th', ta'⟩, ak', ep', ec', ht'⟩ := y
    dsimp only
    have hm : mayEv ⟨k, ⟨sp, sc, dp, dc, sq, da, th, ta⟩, ak, ep, ec, ht⟩ = (isKind k && (decide (k = k') && (decide (sp = sp') && (decide (sc = sc') && (decide (dp = dp') && (decide (dc = dc') && (decide (sq = sq') && (decide (da = da') && (decide (th = th') && (decide (ta = ta') && (decide (ak = ak') && (decide (ep = ep') && (decide (ec = ec') && (decide (ht = ht') && true))))))))))))) && (!hasPk k || mayPkt ⟨sp, sc, dp, dc, sq, da, th, ta⟩) && (if k = 3 then decide (ak ≠ [] ∧ ak.length ≤ 32) else if k = 6 then mayEnd ep ec else if k = 7 then decide (1 ≤ ht ∧ ht ≤ 1099511627776) else true)) := by
      simp only [mayEv, hy, Ev.mk.injEq, Pkt.mk.injEq, Bool.decide_and, Bool.and_assoc, Bool.and_true, between]
    rw [hm]
    generalize (decide (k = k') && _) = E
    have f1 : Pkt.fits ⟨sp, sc, dp, dc, sq, da, th, ta⟩ := hp.pk
    have f2 : ep.length ≤ 9223372036854775807 := hp.ep
    have f3 : ak ≠ [] ↔ 1 ≤ ak.length := by
      rw [← List.length_pos_iff]
      omega
    clear hm hy hp
    by_cases h1 : k = 1
    · subst h1
      cases E <;> simp [isKind, hasPk, f1, f2]
      all_goals cases hM : mayPkt ⟨sp, sc, dp, dc, sq, da, th, ta⟩ <;> (try simp)
      all_goals try (by_cases ha : ak = [] <;> by_cases hl : ak.length ≤ 32 <;> simp_all)
      all_goals try omega
    by_cases h2 : k = 2
    · subst h2
      cases E <;> simp [isKind, hasPk, f1, f2]
      all_goals cases hM : mayPkt ⟨sp, sc, dp, dc, sq, da, th, ta⟩ <;> (try simp)
      all_goals try (by_cases ha : ak = [] <;> by_cases hl : ak.length ≤ 32 <;> simp_all)
      all_goals try omega
    by_cases h3 : k = 3
    · subst h3
      cases E <;> simp [isKind, hasPk, f1, f2]
      all_goals cases hM : mayPkt ⟨sp, sc, dp, dc, sq, da, th, ta⟩ <;> (try simp)
      all_goals try (by_cases ha : ak = [] <;> by_cases hl : ak.length ≤ 32 <;> simp_all)
      all_goals try omega
    by_cases h4 : k = 4
    · subst h4
      cases E <;> simp [isKind, hasPk, f1, f2]
      all_goals cases hM : mayPkt ⟨sp, sc, dp, dc, sq, da, th, ta⟩ <;> (try simp)
      all_goals try (by_cases ha : ak = [] <;> by_cases hl : ak.length ≤ 32 <;> simp_all)
      all_goals try omega
    by_cases h5 : k = 5
    · subst h5
      cases E <;> simp [isKind, hasPk, f1, f2]
      all_goals cases hM : mayPkt ⟨sp, sc, dp, dc, sq, da, th, ta⟩ <;> (try simp)
      all_goals try (by_cases ha : ak = [] <;> by_cases hl : ak.length ≤ 32 <;> simp_all)
      all_goals try omega
    by_cases h6 : k = 6
    · subst h6
      cases E <;> simp [isKind, hasPk, f1, f2]
      all_goals cases hM : mayPkt ⟨sp, sc, dp, dc, sq, da, th, ta⟩ <;> (try simp)
      all_goals try (by_cases ha : ak = [] <;> by_cases hl : ak.length ≤ 32 <;> simp_all)
      all_goals try omega
    by_cases h7 : k = 7
    · subst h7
      cases E <;> simp [isKind, hasPk, f1, f2]
      all_goals cases hM : mayPkt ⟨sp, sc, dp, dc, sq, da, th, ta⟩ <;> (try simp)
      all_goals try (by_cases ha : ak = [] <;> by_cases hl : ak.length ≤ 32 <;> simp_all)
      all_goals try omega
    have hn : isKind k = false := by simp [isKind]; omega
    simp [hn]
    intros
    omega

def sPutPk : List SV → Option (Prop × SV)
  | [.agg [.str sp, .int .i64 sc, .str dp, .int .i64 dc, .int .i64 sq, .str da, .int .i64 th, .int .i64 ta]] => some (mayPkt ⟨sp, sc, dp, dc, sq, da, th, ta⟩ = true, .c (.str (pkB ⟨sp, sc, dp, dc, sq, da, th, ta⟩)))
  | _ => none

set_option maxRecDepth 100000 in
set_option maxHeartbeats 400000 in
theorem refPutPkP : Pure Try.prog 70 sPutPk := by
  refine Pure.of (E := tb) (C := [(53, appPure sPutText), (54, appPure sLebPut)]) [] 0 [(1, [(0, true), (1, true), (2, true), (4, true), (5, true), (6, true), (9, true), (10, true), (11, true), (14, true), (15, true), (16, true), (19, true), (20, true), (23, true), (24, true), (27, true), (28, true), (31, true), (32, true), (3, false), (7, false), (8, true), (12, false), (13, true), (17, false), (18, true), (21, false), (22, true), (25, false), (26, true), (29, false), (30, true), (33, false), (34, true), (35, true)])] tb_ok (CtsOk.cons (Pure.ct refPutTextP) <| CtsOk.cons (Pure.ct refPutP) <| CtsOk.nil _) (by kernel_rfl) Try.func70 rfl rfl rfl (by kernel_rfl) (by kernel_rfl) ?_ ?_
  · intro args pre r h
    unfold sPutPk at h
    split at h
    · cases h; first | rfl | exact ⟨rfl, rfl⟩
    · cases h
  · intro args pre r h hp
    unfold sPutPk at h
    split at h
    rotate_left
    · cases h
    rename_i sp sc dp dc sq da th ta
    cases h
    unfold sPutText sLebPut
    generalize hg0 : textB = g0
    generalize hg1 : Leb.put = g1
    generalize hg2 : pkB = g2
    generalize hg3 : mayPkt = g3
    generalize hg4 : isI64 = g4
    generalize hg5 : (List.length : List UInt8 → Nat) = g5
    generalize hA : Arith.std = A
    cbv
    subst hA hg0 hg1 hg2 hg3 hg4 hg5
    have hm := hp
    have hV := mayPk_V hm
    obtain ⟨⟨v1, v2, v3⟩, ⟨v4, v5, v6⟩, ⟨v7, v8⟩, v9, ⟨v10, v11⟩, v12, v13⟩ := hV
    dsimp only at v1 v2 v3 v4 v5 v6 v7 v8 v9 v10 v11 v12 v13
    have e1 := textB_len sp; have e2 := textB_len dp; have e3 := textB_len da
    have q1 := Leb.put_len_le sc; have q2 := Leb.put_len_le dc; have q3 := Leb.put_len_le sq; have q4 := Leb.put_len_le th; have q5 := Leb.put_len_le ta
    refine Need.mk (show sp.length ≤ 9223372036854770000 by omega) fun _ => ?_
    refine Need.mk (show isI64 sc by unfold isI64; omega) fun _ => ?_
    refine Need.mk (show ((textB sp).length : Int) + (Leb.put sc).length ≤ 9223372036854775807 by (try simp only [List.length_append]); omega) fun _ => ?_
    refine Need.mk (show dp.length ≤ 9223372036854770000 by omega) fun _ => ?_
    refine Need.mk (show ((textB sp ++ Leb.put sc).length : Int) + (textB dp).length ≤ 9223372036854775807 by (try simp only [List.length_append]); omega) fun _ => ?_
    refine Need.mk (show isI64 dc by unfold isI64; omega) fun _ => ?_
    refine Need.mk (show ((textB sp ++ Leb.put sc ++ textB dp).length : Int) + (Leb.put dc).length ≤ 9223372036854775807 by (try simp only [List.length_append]); omega) fun _ => ?_
    refine Need.mk (show isI64 sq by unfold isI64; omega) fun _ => ?_
    refine Need.mk (show ((textB sp ++ Leb.put sc ++ textB dp ++ Leb.put dc).length : Int) + (Leb.put sq).length ≤ 9223372036854775807 by (try simp only [List.length_append]); omega) fun _ => ?_
    refine Need.mk (show da.length ≤ 9223372036854770000 by omega) fun _ => ?_
    refine Need.mk (show ((textB sp ++ Leb.put sc ++ textB dp ++ Leb.put dc ++ Leb.put sq).length : Int) + (textB da).length ≤ 9223372036854775807 by (try simp only [List.length_append]); omega) fun _ => ?_
    refine Need.mk (show isI64 th by unfold isI64; omega) fun _ => ?_
    refine Need.mk (show ((textB sp ++ Leb.put sc ++ textB dp ++ Leb.put dc ++ Leb.put sq ++ textB da).length : Int) + (Leb.put th).length ≤ 9223372036854775807 by (try simp only [List.length_append]); omega) fun _ => ?_
    refine Need.mk (show isI64 ta by unfold isI64; omega) fun _ => ?_
    refine Need.mk (show ((textB sp ++ Leb.put sc ++ textB dp ++ Leb.put dc ++ Leb.put sq ++ textB da ++ Leb.put th).length : Int) + (Leb.put ta).length ≤ 9223372036854775807 by (try simp only [List.length_append]); omega) fun _ => ?_
    simp [pkB, Arith.std]

set_option maxRecDepth 100000 in
set_option maxHeartbeats 400000 in
theorem refEncP : Pure Try.prog 55 sEnc := by
  refine Pure.of (E := tb) (C := [(23, appPure sMayEv), (53, appPure sPutText), (54, appPure sLebPut), (70, appPure sPutPk)]) [] 0 [(6, [(0, true), (1, true), (2, true), (3, true), (6, true), (7, true), (8, true), (4, false), (5, true), (9, false), (10, true), (11, true), (12, true)]), (10, [(0, true), (1, true), (2, true), (5, true), (6, true), (3, false), (4, true), (7, false), (8, true), (9, true), (10, true)])] tb_ok (CtsOk.cons (Pure.ct refMayEvP) <| CtsOk.cons (Pure.ct refPutTextP) <| CtsOk.cons (Pure.ct refPutP) <| CtsOk.cons (Pure.ct refPutPkP) <| CtsOk.nil _) (by kernel_rfl) Try.func55 rfl rfl rfl (by kernel_rfl) (by kernel_rfl) ?_ ?_
  · intro args pre r h
    unfold sEnc at h
    split at h
    · cases h; first | rfl | exact ⟨rfl, rfl⟩
    · cases h
  · intro args pre r h hp
    unfold sEnc at h
    split at h
    rotate_left
    · cases h
    rename_i k sp sc dp dc sq da th ta ak ep ec ht
    cases h
    unfold sMayEv sPutText sLebPut sPutPk
    generalize hg0 : textB = g0
    generalize hg1 : Leb.put = g1
    generalize hg2 : pkB = g2
    generalize hg3 : mayPkt = g3
    generalize hg4 : mayEv = g4
    generalize hg5 : encEv = g5
    generalize hg6 : Ev.fits = g6
    generalize hg7 : isI64 = g7
    generalize hg8 : (List.length : List UInt8 → Nat) = g8
    generalize hA : Arith.std = A
    cbv
    subst hA hg0 hg1 hg2 hg3 hg4 hg5 hg6 hg7 hg8
    refine Need.mk hp fun _ => ?_
    cases hm : mayEv ⟨k, ⟨sp, sc, dp, dc, sq, da, th, ta⟩, ak, ep, ec, ht⟩
    · refine Ife.mk (fun _ => ?_) (fun h => absurd h (by simp [Arith.std]))
      simp [enc_not hm]
    · refine Ife.mk (fun h => absurd h (by simp [Arith.std])) (fun _ => ?_)
      simp only [enc_may hm]
      obtain ⟨h1, h2, h3, h4, h5, h6⟩ := mayEv_facts hm
      dsimp only at h1 h3 h4 h5 h6
      have q1 := Leb.put_len_le k; have q2 := Leb.put_len_le ec; have q3 := Leb.put_len_le ht
      have e1 := textB_len ep; have e2 := textB_len ak
      have hq : hasPk k = true → mayPkt ⟨sp, sc, dp, dc, sq, da, th, ta⟩ = true ∧ (pkB ⟨sp, sc, dp, dc, sq, da, th, ta⟩).length ≤ 400 := fun hk => by
        have hm := h3 hk
        have hV := mayPk_V hm
        obtain ⟨⟨g1, g2, g3⟩, ⟨g4, g5, g6⟩, ⟨g7, g8⟩, g9, ⟨g10, g11⟩, g12, g13⟩ := hV
        dsimp only at g1 g2 g3 g4 g5 g6 g7 g8 g9 g10 g11 g12 g13
        refine ⟨hm, ?_⟩
        have e1 := textB_len sp; have e2 := textB_len dp; have e3 := textB_len da
        have q1 := Leb.put_len_le sc; have q2 := Leb.put_len_le dc; have q3 := Leb.put_len_le sq; have q4 := Leb.put_len_le th; have q5 := Leb.put_len_le ta
        unfold pkB
        simp only [List.length_append]
        omega
      refine Need.mk (show isI64 k by unfold isI64; omega) fun _ => ?_
      refine Ife.mk (fun h => ?_) (fun h => ?_)
      · have h : k = 6 := by simpa [Arith.std] using h
        obtain ⟨f1, f2, f3⟩ := mayEnd_facts (h5 h)
        refine Need.mk (show ep.length ≤ 9223372036854770000 by omega) fun _ => ?_
        refine Need.mk (show ((Leb.put k).length : Int) + (textB ep).length ≤ 9223372036854775807 by omega) fun _ => ?_
        refine Need.mk (show isI64 ec by unfold isI64; omega) fun _ => ?_
        refine Need.mk (show ((Leb.put k ++ textB ep).length : Int) + (Leb.put ec).length ≤ 9223372036854775807 by simp only [List.length_append]; omega) fun _ => ?_
        subst h
        simp [evB, hasPk, Arith.std]
      have k6 : k ≠ 6 := by simpa [Arith.std] using h
      refine Ife.mk (fun h => ?_) (fun h => ?_)
      · have h : k = 7 := by simpa [Arith.std] using h
        have f1 := h6 h
        refine Need.mk (show isI64 ht by unfold isI64; omega) fun _ => ?_
        refine Need.mk (show ((Leb.put k).length : Int) + (Leb.put ht).length ≤ 9223372036854775807 by omega) fun _ => ?_
        subst h
        simp [evB, hasPk, Arith.std]
      have k7 : k ≠ 7 := by simpa [Arith.std] using h
      have hk : hasPk k = true := by simp [hasPk]; omega
      obtain ⟨f1, f2⟩ := hq hk
      refine Ife.mk (fun h => ?_) (fun h => ?_)
      · have h : k = 3 := by simpa [Arith.std] using h
        have f3 := h4 h
        refine Need.mk f1 fun _ => ?_
        refine Need.mk (show ((Leb.put k).length : Int) + (pkB ⟨sp, sc, dp, dc, sq, da, th, ta⟩).length ≤ 9223372036854775807 by omega) fun _ => ?_
        refine Need.mk (show ak.length ≤ 9223372036854770000 by omega) fun _ => ?_
        refine Need.mk (show ((Leb.put k ++ pkB ⟨sp, sc, dp, dc, sq, da, th, ta⟩).length : Int) + (textB ak).length ≤ 9223372036854775807 by simp only [List.length_append]; omega) fun _ => ?_
        subst h
        simp [evB, hasPk, Arith.std]
      have k3 : k ≠ 3 := by simpa [Arith.std] using h
      refine Need.mk f1 fun _ => ?_
      refine Need.mk (show ((Leb.put k).length : Int) + (pkB ⟨sp, sc, dp, dc, sq, da, th, ta⟩).length ≤ 9223372036854775807 by omega) fun _ => ?_
      simp [evB, hk, k3, k6, k7, Arith.std]

theorem num_cases (l : List UInt8) (a b lo hi : Int) : ((numS l a b lo hi).2.2 = 0 ∧ lo ≤ (numS l a b lo hi).1 ∧ (numS l a b lo hi).1 ≤ hi) ∨ ((numS l a b lo hi).2.2 ≠ 0 ∧ (numS l a b lo hi).1 = 0) := by
  unfold numS
  split
  · right; exact ⟨by assumption, rfl⟩
  · split
    · right; exact ⟨by assumption, rfl⟩
    · split
      · right; exact ⟨by simp, rfl⟩
      · left
        dsimp only
        omega
theorem dec_of_rEv {l : List UInt8} {x : Ev} {s : Int × Int} (hR : rEv l (0, 0) = (x, s)) : decEv l = if endS l s.1 s.2 ≠ 0 then (zeroEv, endS l s.1 s.2) else if mayEv x then (x, 0) else (zeroEv, 1) := by
  rw [decEv_eq, hR]
set_option maxRecDepth 100000 in
set_option maxHeartbeats 4000000 in
theorem refDecP : Pure Try.prog 59 sDec := by
  refine Pure.of (E := tb) (C := [(56, appMeth 79 sRdText), (57, appMeth 79 sRdNum), (72, appMeth 79 sRdPk), (60, appMeth 79 sRdEnd), (23, appPure sMayEv)]) [] 0 [] tb_ok (CtsOk.cons (Meth.ct refTextP) <| CtsOk.cons (Meth.ct refNumP) <| CtsOk.cons (Meth.ct refPkP) <| CtsOk.cons (Meth.ct refEndP) <| CtsOk.cons (Pure.ct refMayEvP) <| CtsOk.nil _) (by kernel_rfl) Try.func59 rfl rfl rfl (by kernel_rfl) (by kernel_rfl) ?_ ?_
  · intro args pre r h
    unfold sDec at h
    split at h
    · cases h; first | rfl | exact ⟨rfl, rfl⟩
    · cases h
  · intro args pre r h hp
    unfold sDec at h
    split at h
    rotate_left
    · cases h
    rename_i l
    cases h
    unfold sRdText sRdNum sRdPk sRdEnd sMayEv
    generalize hg0 : okRd = g0
    generalize hg1 : rPk = g1
    generalize hg2 : numS = g2
    generalize hg3 : textS = g3
    generalize hg4 : decEv = g4
    generalize hg5 : endS = g5
    generalize hg6 : Ev.fits = g6
    generalize hg7 : mayEv = g7
    generalize hg8 : (List.length : List UInt8 → Nat) = g8
    generalize hA : Arith.std = A
    cbv
    subst hA hg0 hg1 hg2 hg3 hg4 hg5 hg6 hg7 hg8
    have h0 : okRd l 0 0 := ok_start hp
    have hk := ok_num (lo := 1) (hi := 7) h0
    refine Need.mk h0 fun _ => ?_
    refine Ife.mk (fun h => ?_) (fun h6 => ?_)
    · have h : (numS l 0 0 1 7).1 = 6 := by simpa [Arith.std] using h
      have hR : rEv l (0, 0) = ((⟨6, zeroPkt, [], (textS l (numS l 0 0 1 7).2.1 (numS l 0 0 1 7).2.2 12).1, (numS l (textS l (numS l 0 0 1 7).2.1 (numS l 0 0 1 7).2.2 12).2.1 (textS l (numS l 0 0 1 7).2.1 (numS l 0 0 1 7).2.2 12).2.2 0 999).1, 0⟩ : Ev), (numS l (textS l (numS l 0 0 1 7).2.1 (numS l 0 0 1 7).2.2 12).2.1 (textS l (numS l 0 0 1 7).2.1 (numS l 0 0 1 7).2.2 12).2.2 0 999).2) := by simp [rEv, rNum, rText, rEnd, rIf, h, hasPk6]
      refine Need.mk hk fun _ => ?_
      refine Need.mk (ok_text hk) fun _ => ?_
      refine Need.mk (ok_num (ok_text hk)) fun _ => ?_
      simp only [Ife_iff, Need_iff, Arith.std]
      have hD := dec_of_rEv hR
      have hf := rEv_fits (l := l) (s := (0, 0)) hp
      rw [hR] at hf
      by_cases hE : endS l ((numS l (textS l (numS l 0 0 1 7).2.1 (numS l 0 0 1 7).2.2 12).2.1 (textS l (numS l 0 0 1 7).2.1 (numS l 0 0 1 7).2.2 12).2.2 0 999).2).1 ((numS l (textS l (numS l 0 0 1 7).2.1 (numS l 0 0 1 7).2.2 12).2.1 (textS l (numS l 0 0 1 7).2.1 (numS l 0 0 1 7).2.2 12).2.2 0 999).2).2 = 0
      · rw [if_neg (by simp [hE])] at hD
        cases hM : mayEv (⟨6, zeroPkt, [], (textS l (numS l 0 0 1 7).2.1 (numS l 0 0 1 7).2.2 12).1, (numS l (textS l (numS l 0 0 1 7).2.1 (numS l 0 0 1 7).2.2 12).2.1 (textS l (numS l 0 0 1 7).2.1 (numS l 0 0 1 7).2.2 12).2.2 0 999).1, 0⟩ : Ev)
        · rw [if_neg (by simp [hM])] at hD
          simp_all [zeroEv, zeroPkt]
        · rw [if_pos hM] at hD
          simp_all [zeroEv, zeroPkt]
      · rw [if_pos hE] at hD
        simp_all [zeroEv, zeroPkt]
    have h6 : (numS l 0 0 1 7).1 ≠ 6 := by simpa [Arith.std] using h6
    refine Ife.mk (fun h => ?_) (fun h7 => ?_)
    · have h : (numS l 0 0 1 7).1 = 7 := by simpa [Arith.std] using h
      have hR : rEv l (0, 0) = ((⟨7, zeroPkt, [], [], 0, (numS l (numS l 0 0 1 7).2.1 (numS l 0 0 1 7).2.2 1 1099511627776).1⟩ : Ev), (numS l (numS l 0 0 1 7).2.1 (numS l 0 0 1 7).2.2 1 1099511627776).2) := by simp [rEv, rNum, rText, rEnd, rIf, h, hasPk7]
      refine Need.mk hk fun _ => ?_
      refine Need.mk (ok_num hk) fun _ => ?_
      simp only [Ife_iff, Need_iff, Arith.std]
      have hD := dec_of_rEv hR
      have hf := rEv_fits (l := l) (s := (0, 0)) hp
      rw [hR] at hf
      by_cases hE : endS l ((numS l (numS l 0 0 1 7).2.1 (numS l 0 0 1 7).2.2 1 1099511627776).2).1 ((numS l (numS l 0 0 1 7).2.1 (numS l 0 0 1 7).2.2 1 1099511627776).2).2 = 0
      · rw [if_neg (by simp [hE])] at hD
        cases hM : mayEv (⟨7, zeroPkt, [], [], 0, (numS l (numS l 0 0 1 7).2.1 (numS l 0 0 1 7).2.2 1 1099511627776).1⟩ : Ev)
        · rw [if_neg (by simp [hM])] at hD
          simp_all [zeroEv, zeroPkt]
        · rw [if_pos hM] at hD
          simp_all [zeroEv, zeroPkt]
      · rw [if_pos hE] at hD
        simp_all [zeroEv, zeroPkt]
    have h7 : (numS l 0 0 1 7).1 ≠ 7 := by simpa [Arith.std] using h7
    refine Ife.mk (fun h => ?_) (fun h3 => ?_)
    · have h : (numS l 0 0 1 7).1 = 3 := by simpa [Arith.std] using h
      have hR : rEv l (0, 0) = ((⟨3, (rPk l ((numS l 0 0 1 7).2.1, (numS l 0 0 1 7).2.2)).1, (textS l (rPk l ((numS l 0 0 1 7).2.1, (numS l 0 0 1 7).2.2)).2.1 (rPk l ((numS l 0 0 1 7).2.1, (numS l 0 0 1 7).2.2)).2.2 32).1, [], 0, 0⟩ : Ev), (textS l (rPk l ((numS l 0 0 1 7).2.1, (numS l 0 0 1 7).2.2)).2.1 (rPk l ((numS l 0 0 1 7).2.1, (numS l 0 0 1 7).2.2)).2.2 32).2) := by simp [rEv, rNum, rText, rEnd, rIf, h, hasPk3]
      refine Need.mk hk fun _ => ?_
      refine Need.mk (ok_pk' hk) fun _ => ?_
      refine Need.mk (ok_text (ok_pk' hk)) fun _ => ?_
      simp only [Ife_iff, Need_iff, Arith.std]
      have hD := dec_of_rEv hR
      have hf := rEv_fits (l := l) (s := (0, 0)) hp
      rw [hR] at hf
      by_cases hE : endS l ((textS l (rPk l ((numS l 0 0 1 7).2.1, (numS l 0 0 1 7).2.2)).2.1 (rPk l ((numS l 0 0 1 7).2.1, (numS l 0 0 1 7).2.2)).2.2 32).2).1 ((textS l (rPk l ((numS l 0 0 1 7).2.1, (numS l 0 0 1 7).2.2)).2.1 (rPk l ((numS l 0 0 1 7).2.1, (numS l 0 0 1 7).2.2)).2.2 32).2).2 = 0
      · rw [if_neg (by simp [hE])] at hD
        cases hM : mayEv (⟨3, (rPk l ((numS l 0 0 1 7).2.1, (numS l 0 0 1 7).2.2)).1, (textS l (rPk l ((numS l 0 0 1 7).2.1, (numS l 0 0 1 7).2.2)).2.1 (rPk l ((numS l 0 0 1 7).2.1, (numS l 0 0 1 7).2.2)).2.2 32).1, [], 0, 0⟩ : Ev)
        · rw [if_neg (by simp [hM])] at hD
          simp_all [zeroEv, zeroPkt]
        · rw [if_pos hM] at hD
          simp_all [zeroEv, zeroPkt]
      · rw [if_pos hE] at hD
        simp_all [zeroEv, zeroPkt]
    have h3 : (numS l 0 0 1 7).1 ≠ 3 := by simpa [Arith.std] using h3
    refine Need.mk hk fun _ => ?_
    refine Need.mk (ok_pk' hk) fun _ => ?_
    rcases num_cases l 0 0 1 7 with ⟨c1, c2, c3⟩ | ⟨c1, c2⟩
    · have hk : hasPk (numS l 0 0 1 7).1 = true := by simp [hasPk]; omega
      have hR : rEv l (0, 0) = ((⟨(numS l 0 0 1 7).1, (rPk l ((numS l 0 0 1 7).2.1, (numS l 0 0 1 7).2.2)).1, [], [], 0, 0⟩ : Ev), (rPk l ((numS l 0 0 1 7).2.1, (numS l 0 0 1 7).2.2)).2) := by simp [rEv, rNum, rText, rEnd, rIf, hk, h3, h6, h7]
      simp only [Ife_iff, Need_iff, Arith.std]
      have hD := dec_of_rEv hR
      have hf := rEv_fits (l := l) (s := (0, 0)) hp
      rw [hR] at hf
      by_cases hE : endS l ((rPk l ((numS l 0 0 1 7).2.1, (numS l 0 0 1 7).2.2)).2).1 ((rPk l ((numS l 0 0 1 7).2.1, (numS l 0 0 1 7).2.2)).2).2 = 0
      · rw [if_neg (by simp [hE])] at hD
        cases hM : mayEv (⟨(numS l 0 0 1 7).1, (rPk l ((numS l 0 0 1 7).2.1, (numS l 0 0 1 7).2.2)).1, [], [], 0, 0⟩ : Ev)
        · rw [if_neg (by simp [hM])] at hD
          simp_all [zeroEv, zeroPkt]
        · rw [if_pos hM] at hD
          simp_all [zeroEv, zeroPkt]
      · rw [if_pos hE] at hD
        simp_all [zeroEv, zeroPkt]
    · have hs : (rPk l ((numS l 0 0 1 7).2.1, (numS l 0 0 1 7).2.2)).2 = (numS l 0 0 1 7).2 := codecPk.stick l _ c1
      have hB : (rEv l (0, 0)).2 = (numS l 0 0 1 7).2 := by
        have hn : hasPk (numS l 0 0 1 7).1 = false := by rw [c2]; rfl
        simp [rEv, rNum, rText, rEnd, rIf, c2, show hasPk 0 = false from rfl]
      have hE : endS l (numS l 0 0 1 7).2.1 (numS l 0 0 1 7).2.2 ≠ 0 := by
        unfold endS
        rw [if_neg (by simp [c1])]
        exact c1
      have hD := decEv_eq l
      rw [hB, if_pos hE] at hD
      have hE2 : endS l (rPk l ((numS l 0 0 1 7).2.1, (numS l 0 0 1 7).2.2)).2.1 (rPk l ((numS l 0 0 1 7).2.1, (numS l 0 0 1 7).2.2)).2.2 ≠ 0 := by rw [hs]; exact hE
      have hD2 : decEv l = (zeroEv, endS l (rPk l ((numS l 0 0 1 7).2.1, (numS l 0 0 1 7).2.2)).2.1 (rPk l ((numS l 0 0 1 7).2.1, (numS l 0 0 1 7).2.2)).2.2) := by rw [hD, hs]
      clear hD hE hB hs
      simp only [Ife_iff, Need_iff, Arith.std]
      simp_all [zeroEv, zeroPkt]

end Vx
end Go.Proofs.Ytpapfokdhmpmjaa
