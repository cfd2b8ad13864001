/- The document's own readers, by the walker. -/
import Derived.Test.YtfchejgohegbgaaVRd
namespace Go.Proofs.Ytfchejgohegbgaa
open Go.RowKit
set_option linter.unusedVariables false
set_option linter.unusedSimpArgs false

theorem refNextB (l : List UInt8) (v : Int) (W : World) (hl : l.length ≤ 140737488351232) (hv : isI64 v) :
    Calls Try.prog 31 #[.string ⟨l.toArray⟩, .int .i64 v] W fun e w' =>
      e = .returned (.tuple #[.int .i64 (Leb.next l v).1, .int .i64 (Leb.next l v).2.1, .int .i64 (Leb.next l v).2.2]) ∧ Below W.heap.size W w' := by
  refine (refNext l v W hl hv).mono ?_
  rintro e w' ⟨he, rfl⟩
  exact ⟨he, Below.refl _ _⟩
theorem textB_len (m : List UInt8) : (textB m).length ≤ m.length + 8 := by
  have := Leb.put_len_le m.length
  unfold textB
  rw [List.length_append]
  omega

namespace Vx
theorem refNextP : Pure Try.prog 31 sLebNext := by
  refine ⟨by kernel_rfl, fun args pre r h hp us hs W => ?_⟩
  unfold sLebNext at h
  split at h
  rotate_left
  · cases h
  rename_i l v
  cases h
  obtain ⟨u0, _, rfl, a0, b0⟩ := hs
  obtain rfl : .string ⟨(l).toArray⟩ = u0 := Option.some.inj a0
  obtain ⟨u1, _, rfl, a1, b1⟩ := b0
  obtain rfl : .int .i64 v = u1 := Option.some.inj a1
  cases b1
  refine Calls.mono (refNextB l v W hp.1 hp.2) fun e W' he => ?_
  obtain ⟨rfl, hb⟩ := he
  exact ⟨_, rfl, ⟨[.int .i64 (Leb.next l v).1, .int .i64 (Leb.next l v).2.1, .int .i64 (Leb.next l v).2.2], ⟨_, _, rfl, rfl, _, _, rfl, rfl, _, _, rfl, rfl, rfl⟩, rfl⟩, hb⟩

theorem refPutP : Pure Try.prog 33 sLebPut := by
  refine ⟨by kernel_rfl, fun args pre r h hp us hs W => ?_⟩
  unfold sLebPut at h
  split at h
  rotate_left
  · cases h
  rename_i v
  cases h
  obtain ⟨u0, _, rfl, a0, b0⟩ := hs
  obtain rfl : .int .i64 v = u0 := Option.some.inj a0
  cases b0
  refine Calls.mono (refPut v W hp) fun e W' he => ?_
  obtain ⟨rfl, hb⟩ := he
  exact ⟨_, rfl, rfl, hb⟩

def sPutText : List SV → Option (Prop × SV)
  | [.c (.str m)] => some (m.length ≤ 9223372036854770000, .c (.str (textB m)))
  | _ => none

set_option maxRecDepth 100000 in
set_option maxHeartbeats 400000 in
theorem refPutTextP : Pure Try.prog 67 sPutText := by
  refine Pure.of (E := tb) (C := [(33, appPure sLebPut)]) [] 0 [] tb_ok (CtsOk.cons (Pure.ct refPutP) <| CtsOk.nil _) (by kernel_rfl) Try.func67 rfl rfl rfl (by kernel_rfl) (by kernel_rfl) ?_ ?_
  · intro args pre r h
    unfold sPutText at h
    split at h
    · cases h; first | rfl | exact ⟨rfl, rfl⟩
    · cases h
  · intro args pre r h hp
    unfold sPutText at h
    split at h
    rotate_left
    · cases h
    rename_i m
    cases h
    unfold sLebPut
    generalize hg0 : Leb.put = g0
    generalize hg1 : textB = g1
    generalize hg2 : (List.length : List UInt8 → Nat) = g2
    generalize hA : Arith.std = A
    cbv
    subst hA hg0 hg1 hg2
    refine Need.mk (show isI64 (m.length : Int) by unfold isI64; omega) fun _ => ?_
    have h8 := Leb.put_len_le m.length
    refine Need.mk (show ((Leb.put m.length).length : Int) + m.length ≤ 9223372036854775807 by omega) fun _ => ?_
    rfl

set_option maxRecDepth 100000 in
set_option maxHeartbeats 400000 in
theorem refNumP : Meth Try.prog 50 72 sRdNum := by
  refine Meth.of (E := tb) (C := [(31, appPure sLebNext)]) [] 0 [(3, [(0, true), (1, true), (2, true), (3, true), (4, true), (5, true), (6, true), (7, true), (8, false), (9, true), (10, true), (11, true), (12, true), (13, true), (14, true), (15, true)])] tb_ok (CtsOk.cons (Pure.ct refNextP) <| CtsOk.nil _) (by kernel_rfl) Try.func50 rfl rfl rfl (by kernel_rfl) (by kernel_rfl) ?_ ?_
  · intro cs args pre r cs' h
    unfold sRdNum at h
    split at h
    · cases h; first | rfl | exact ⟨rfl, rfl⟩
    · cases h
  · intro cs args pre r cs' h hp
    unfold sRdNum at h
    split at h
    rotate_left
    · cases h
    rename_i l a b lo hi
    cases h
    unfold sLebNext
    generalize hg0 : numS = g0
    generalize hg1 : textS = g1
    generalize hg2 : countS = g2
    generalize hg3 : endS = g3
    generalize hg4 : Leb.next = g4
    generalize hg5 : isI64 = g5
    generalize hg6 : okRd = g6
    generalize hg7 : (List.length : List UInt8 → Nat) = g7
    generalize hA : Arith.std = A
    cbv
    subst hA hg0 hg1 hg2 hg3 hg4 hg5 hg6 hg7
    have h64 : isI64 a := by obtain ⟨h1, h2, h3, h4, h5⟩ := hp; unfold isI64; omega
    have hlen : l.length ≤ 140737488351232 := hp.2.2.1
    obtain ⟨g1, g2, g3, g4, g5⟩ := hp
    have hr := Leb.next_range l a
    refine Ife.mk (fun h => ?_) (fun h => ?_)
    · have h : b ≠ 0 := by simpa [Arith.std] using h
      simp [numS, h]
    have hb : b = 0 := by simpa [Arith.std] using h
    subst hb
    refine Need.mk ⟨hlen, h64⟩ fun _ => ?_
    unfold numS
    generalize Leb.next l a = r at hr ⊢
    obtain ⟨v, p, e⟩ := r
    dsimp only at hr ⊢
    simp only [Ife_iff, Need_iff, Arith.std]
    by_cases he : e = 0 <;> by_cases h1 : v < lo <;> by_cases h2 : hi < v <;> simp [he, h1, h2]

set_option maxRecDepth 100000 in
set_option maxHeartbeats 400000 in
theorem refCountP : Meth Try.prog 56 72 sCount := by
  refine Meth.of (E := tb) (C := [(31, appPure sLebNext)]) [] 0 [(3, [(0, true), (1, true), (2, true), (3, true), (4, true), (5, true), (6, true), (7, true), (8, false), (9, true), (10, true), (11, true), (12, true), (13, true), (14, true), (15, true)])] tb_ok (CtsOk.cons (Pure.ct refNextP) <| CtsOk.nil _) (by kernel_rfl) Try.func56 rfl rfl rfl (by kernel_rfl) (by kernel_rfl) ?_ ?_
  · intro cs args pre r cs' h
    unfold sCount at h
    split at h
    · cases h; first | rfl | exact ⟨rfl, rfl⟩
    · cases h
  · intro cs args pre r cs' h hp
    unfold sCount at h
    split at h
    rotate_left
    · cases h
    rename_i l a b hi
    cases h
    unfold sLebNext
    generalize hg0 : numS = g0
    generalize hg1 : textS = g1
    generalize hg2 : countS = g2
    generalize hg3 : endS = g3
    generalize hg4 : Leb.next = g4
    generalize hg5 : isI64 = g5
    generalize hg6 : okRd = g6
    generalize hg7 : (List.length : List UInt8 → Nat) = g7
    generalize hA : Arith.std = A
    cbv
    subst hA hg0 hg1 hg2 hg3 hg4 hg5 hg6 hg7
    have h64 : isI64 a := by obtain ⟨h1, h2, h3, h4, h5⟩ := hp; unfold isI64; omega
    have hlen : l.length ≤ 140737488351232 := hp.2.2.1
    obtain ⟨g1, g2, g3, g4, g5⟩ := hp
    have hr := Leb.next_range l a
    refine Ife.mk (fun h => ?_) (fun h => ?_)
    · have h : b ≠ 0 := by simpa [Arith.std] using h
      simp [countS, h]
    have hb : b = 0 := by simpa [Arith.std] using h
    subst hb
    refine Need.mk ⟨hlen, h64⟩ fun _ => ?_
    unfold countS
    generalize Leb.next l a = r at hr ⊢
    obtain ⟨v, p, e⟩ := r
    dsimp only at hr ⊢
    simp only [Ife_iff, Need_iff, Arith.std]
    by_cases he : e = 0 <;> by_cases h2 : hi < v <;> simp [he, h2]

set_option maxRecDepth 100000 in
set_option maxHeartbeats 400000 in
theorem refTextP : Meth Try.prog 52 72 sRdText := by
  refine Meth.of (E := tb) (C := [(31, appPure sLebNext)]) [] 0 [(3, [(0, true), (1, true), (2, true), (3, true), (4, true), (5, true), (6, true), (7, true), (8, false), (9, true), (10, true), (11, true), (12, true), (13, true), (14, true), (15, true)])] tb_ok (CtsOk.cons (Pure.ct refNextP) <| CtsOk.nil _) (by kernel_rfl) Try.func52 rfl rfl rfl (by kernel_rfl) (by kernel_rfl) ?_ ?_
  · intro cs args pre r cs' h
    unfold sRdText at h
    split at h
    · cases h; first | rfl | exact ⟨rfl, rfl⟩
    · cases h
  · intro cs args pre r cs' h hp
    unfold sRdText at h
    split at h
    rotate_left
    · cases h
    rename_i l a b hi
    cases h
    unfold sLebNext
    generalize hg0 : numS = g0
    generalize hg1 : textS = g1
    generalize hg2 : countS = g2
    generalize hg3 : endS = g3
    generalize hg4 : Leb.next = g4
    generalize hg5 : isI64 = g5
    generalize hg6 : okRd = g6
    generalize hg7 : (List.length : List UInt8 → Nat) = g7
    generalize hA : Arith.std = A
    cbv
    subst hA hg0 hg1 hg2 hg3 hg4 hg5 hg6 hg7
    have h64 : isI64 a := by obtain ⟨h1, h2, h3, h4, h5⟩ := hp; unfold isI64; omega
    have hlen : l.length ≤ 140737488351232 := hp.2.2.1
    obtain ⟨g1, g2, g3, g4, g5⟩ := hp
    have hr := Leb.next_range l a
    refine Ife.mk (fun h => ?_) (fun h => ?_)
    · have h : b ≠ 0 := by simpa [Arith.std] using h
      simp [textS, h]
    have hb : b = 0 := by simpa [Arith.std] using h
    subst hb
    refine Need.mk ⟨hlen, h64⟩ fun _ => ?_
    unfold textS
    generalize Leb.next l a = r at hr ⊢
    obtain ⟨v, p, e⟩ := r
    dsimp only at hr ⊢
    simp only [Ife_iff, Need_iff, Arith.std]
    have hcut : List.drop p.toNat (List.take (p + v).toNat l) = cut l p v := by
      unfold cut
      rw [List.drop_take]
      congr 1
      omega
    by_cases he : e = 0
    · subst he
      by_cases h1 : hi < v
      · simp [h1]
      · by_cases h2 : (l.length : Int) - p < v
        · simp [h1, h2, fitStd]
          omega
        · simp [h1, h2, hcut, fitStd]
          omega
    · simp [he]

set_option maxRecDepth 100000 in
set_option maxHeartbeats 400000 in
theorem refEndP : Meth Try.prog 60 72 sRdEnd := by
  refine Meth.of (E := tb) (C := []) [] 0 [(3, [(0, true), (1, true), (2, true), (3, true), (4, true), (5, true), (6, true), (7, true), (8, true), (9, true)])] tb_ok (CtsOk.nil _) (by kernel_rfl) Try.func60 rfl rfl rfl (by kernel_rfl) (by kernel_rfl) ?_ ?_
  · intro cs args pre r cs' h
    unfold sRdEnd at h
    split at h
    · cases h; first | rfl | exact ⟨rfl, rfl⟩
    · cases h
  · intro cs args pre r cs' h hp
    unfold sRdEnd at h
    split at h
    rotate_left
    · cases h
    rename_i l a b
    cases h
    generalize hg0 : endS = g0
    generalize hg1 : okRd = g1
    generalize hg2 : (List.length : List UInt8 → Nat) = g2
    generalize hA : Arith.std = A
    cbv
    subst hA hg0 hg1 hg2
    simp only [Ife_iff, Need_iff, Arith.std]
    unfold endS
    by_cases h1 : b = 0 <;> by_cases h2 : a < (l.length : Int) <;> simp [h1, h2]

end Vx
end Go.Proofs.Ytfchejgohegbgaa
