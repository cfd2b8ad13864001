/- The document's sum, by the walker. -/
import Derived.Test.YtophhppklaofaaaDoorVRSha
import Derived.Test.YtophhppklaofaaaDoorVSum
namespace Go.Proofs.YtophhppklaofaaaDoor.Vx
open Go.RowKit Sha
set_option linter.unusedVariables false
set_option linter.unusedSimpArgs false
structure LZ (s : List UInt8) where
  k : Nat
  l : List UInt8
  h1 : k ≤ zs s.length
  h2 : l = s ++ ([128] ++ List.replicate k 0)
structure LE (s : List UInt8) where
  i : Int
  n : Int
  l : List UInt8
  h0 : -1 ≤ i
  h1 : i ≤ 7
  hn : n = IntKind.wrap .u64 (IntKind.wrap .u64 (s.length : Int) * 8)
  h2 : l = s ++ ([128] ++ List.replicate (zs s.length) 0) ++ (len8 s.length).take (7 - i).toNat
structure LC (p : List UInt8) where
  k : Nat
  a : Int
  s : S8
  h1 : k ≤ p.length / 64
  h2 : a = 64 * (k : Int)
  h3 : s = blocks k iv p
theorem bytesG_cut (l : List UInt8) (a n : Nat) (h : a + n ≤ l.length) : bytesG n (fun i => [.int .u8 (byteN l (a + i))]) = (l.drop a).take n := by
  apply List.ext_getElem
  · simp [bytesG]; omega
  · intro i h1 h2
    simp only [bytesG, List.length_map, List.length_range] at h1
    simp only [bytesG, List.getElem_map, List.getElem_range, List.getElem_take, List.getElem_drop, byteOf, byteN]
    rw [List.getD_eq_getElem?_getD, List.getElem?_eq_getElem (by omega)]
    simp
theorem bytesG_ok (l : List UInt8) (a n : Nat) : BytesG n (fun i => [.int .u8 (byteN l (a + i))]) := fun i hi => ⟨_, rfl⟩
theorem len8_snoc (n k : Nat) (h : k < 8) : (len8 n).take (k + 1) = (len8 n).take k ++ [UInt8.ofNat (lenB n k).toNat] := by
  unfold len8
  rw [List.take_add_one, List.getElem?_map, List.getElem?_range h]
  rfl
def rsumPre (l : List UInt8) : Prop := l.length ≤ 140737488350000
def sRSum : List SV → Option (Prop × SV)
  | [.c (.str s)] => some (rsumPre s, .agg [.int .u8 (sumI (s) 0), .int .u8 (sumI (s) 1), .int .u8 (sumI (s) 2), .int .u8 (sumI (s) 3), .int .u8 (sumI (s) 4), .int .u8 (sumI (s) 5), .int .u8 (sumI (s) 6), .int .u8 (sumI (s) 7), .int .u8 (sumI (s) 8), .int .u8 (sumI (s) 9), .int .u8 (sumI (s) 10), .int .u8 (sumI (s) 11), .int .u8 (sumI (s) 12), .int .u8 (sumI (s) 13), .int .u8 (sumI (s) 14), .int .u8 (sumI (s) 15), .int .u8 (sumI (s) 16), .int .u8 (sumI (s) 17), .int .u8 (sumI (s) 18), .int .u8 (sumI (s) 19), .int .u8 (sumI (s) 20), .int .u8 (sumI (s) 21), .int .u8 (sumI (s) 22), .int .u8 (sumI (s) 23), .int .u8 (sumI (s) 24), .int .u8 (sumI (s) 25), .int .u8 (sumI (s) 26), .int .u8 (sumI (s) 27), .int .u8 (sumI (s) 28), .int .u8 (sumI (s) 29), .int .u8 (sumI (s) 30), .int .u8 (sumI (s) 31)])
  | _ => none

set_option maxRecDepth 100000 in
set_option maxHeartbeats 2000000 in
theorem rsumP : Pure Tryd.prog 19 sRSum := by
  have hC : CtsOk Tryd.prog [(75, appPure sConsts), (76, appFn [] [(5, 1)] sRMix)] := CtsOk.cons (Pure.ct constsP) <| CtsOk.cons (Fn.ct rmixP) <| CtsOk.nil _
  refine Pure.of (E := tbC) (C := [(75, appPure sConsts), (76, appFn [] [(5, 1)] sRMix)]) [] 0 [(14, [(0, true), (1, true), (2, true), (3, true), (4, true), (5, true), (6, true), (7, false), (1008, false), (8, false)])] tbC_ok hC (by kernel_rfl) Tryd.func19 rfl rfl rfl (by kernel_rfl) (by kernel_rfl) ?_ ?_
  · intro args pre r h
    unfold sRSum at h
    split at h
    · cases h; rfl
    · cases h
  · intro args pre r h hp
    unfold sRSum at h
    split at h
    rotate_left
    · cases h
    rename_i s
    cases h
    have hs : s.length ≤ 140737488350000 := hp
    unfold sConsts sRMix
    generalize hg0 : rturnPre = g0
    generalize hg1 : rmixPre = g1
    generalize hg2 : mixS = g2
    generalize hg3 : kOf = g3
    generalize hg4 : k64 = g4
    generalize hg5 : bytesG = g5
    generalize hg6 : byteN = g6
    generalize hg7 : iv = g7
    generalize hg8 : sumI = g8
    generalize hg9 : (List.length : List UInt8 → Nat) = g9
    generalize hL : lft Tryd.prog _ = L
    generalize hA : Arith.std = A
    set_option cbv.maxSteps 1000000 in cbv
    subst hA hg0 hg1 hg2 hg3 hg4 hg5 hg6 hg7 hg8 hg9 hL
    refine Need.mk (by show s.length + 0 ≤ 140737488355328; omega) fun _ => Need.mk (by show (0 : Int) ≤ 128 ∧ (128 : Int) < 256; omega) fun _ => Need.mk (by show s.length + 1 ≤ 140737488355328; omega) fun _ => ?_
    have hpl := pad_len s
    have hpm := pad_mod s
    have hzl : zs s.length < 64 := by unfold zs; omega
    have hzd : zs s.length = (119 - s.length % 64) % 64 := rfl
    show Runs Tryd.prog 0 (.loop _) _ _
    refine loop_ruleR (N := env (lft Tryd.prog 0) 0 .std tbC [(75, appPure sConsts), (76, appFn [] [(5, 1)] sRMix)] [(14, [(0, true), (1, true), (2, true), (3, true), (4, true), (5, true), (6, true), (7, false), (1008, false), (8, false)])]) rfl tbC_ok hC (fun c st K _ h => h) (by kernel_rfl) [] (X := LZ s)
      (S := fun x => ⟨[.c (.str s), .any, .c (.ptr 0 0), .c (.row 1)] ++ List.replicate 67 .any, [.cells 24 [.int .u8 0, .int .u8 0, .int .u8 0, .int .u8 0, .int .u8 0, .int .u8 0, .int .u8 0, .int .u8 0, .int .u8 0, .int .u8 0, .int .u8 0, .int .u8 0, .int .u8 0, .int .u8 0, .int .u8 0, .int .u8 0, .int .u8 0, .int .u8 0, .int .u8 0, .int .u8 0, .int .u8 0, .int .u8 0, .int .u8 0, .int .u8 0, .int .u8 0, .int .u8 0, .int .u8 0, .int .u8 0, .int .u8 0, .int .u8 0, .int .u8 0, .int .u8 0], .bytes 5 x.l]⟩) (μ := fun x => zs s.length - x.k) ⟨0, s ++ [128], by omega, rfl⟩ (by kernel_rfl) [0, 3] ?_ ?_
    · refine ⟨rfl, by decide, ?_, ?_⟩ <;> repeat' (first | exact trivial | exact rfl | apply And.intro)
    rintro ⟨k, l, hk, hl⟩
    unfold sConsts sRMix
    generalize hg0 : rturnPre = g0
    generalize hg1 : rmixPre = g1
    generalize hg2 : mixS = g2
    generalize hg3 : kOf = g3
    generalize hg4 : k64 = g4
    generalize hg5 : bytesG = g5
    generalize hg6 : byteN = g6
    generalize hg7 : iv = g7
    generalize hg8 : sumI = g8
    generalize hg9 : (List.length : List UInt8 → Nat) = g9
    generalize hL : lft Tryd.prog _ = L
    generalize hA : Arith.std = A
    set_option cbv.maxSteps 1000000 in cbv
    subst hA hg0 hg1 hg2 hg3 hg4 hg5 hg6 hg7 hg8 hg9 hL
    replace hk : k ≤ zs s.length := hk
    replace hl : l = s ++ ([128] ++ List.replicate k 0) := hl
    have hll : l.length = s.length + 1 + k := by rw [hl]; simp; omega
    have hmod : (l.length : Int).tmod 64 = ((l.length % 64 : Nat) : Int) := by rw [Int.tmod_eq_emod_of_nonneg (by omega)]; omega
    refine Need.mk (by show (64 : Int) ≠ 0; decide) fun _ => ?_
    refine Ife.mk (fun hne => ?_) (fun hne => ?_)
    · have hne : ¬ (l.length : Int).tmod 64 = 56 := by simpa [Arith.std] using hne
      rw [hmod] at hne
      refine Need.mk (by show (0 : Int) ≤ 0 ∧ (0 : Int) < 256; omega) fun _ => Need.mk (by show l.length + 1 ≤ 140737488355328; omega) fun _ => ?_
      refine ⟨⟨k + 1, l ++ [0], by omega, ?h2⟩, [0, 3], (by show zs s.length - (k + 1) < zs s.length - k; omega), ?st⟩
      case st => refine ⟨rfl, by decide, ?_, ?_⟩ <;> repeat' (first | exact trivial | exact rfl | apply And.intro)
      case h2 => rw [hl, List.replicate_succ']; simp
    replace hne : (l.length : Int).tmod 64 = 56 := by simpa [Arith.std] using hne
    rw [hmod] at hne
    obtain rfl : k = zs s.length := by omega
    clear hne hmod
    show Runs Tryd.prog 0 (.loop _) _ _
    refine loop_ruleR (N := env (lft Tryd.prog 0) 0 .std tbC [(75, appPure sConsts), (76, appFn [] [(5, 1)] sRMix)] [(14, [(0, true), (1, true), (2, true), (3, true), (4, true), (5, true), (6, true), (7, false), (1008, false), (8, false)])]) rfl tbC_ok hC (fun c st K _ h => h) (by kernel_rfl) [] (X := LE s)
      (S := fun x => ⟨[.c (.str s), .any, .c (.ptr 0 0), .c (.row 1), .c (.int .u64 x.n), .c (.int .i64 x.i)] ++ List.replicate 65 .any, [.cells 24 [.int .u8 0, .int .u8 0, .int .u8 0, .int .u8 0, .int .u8 0, .int .u8 0, .int .u8 0, .int .u8 0, .int .u8 0, .int .u8 0, .int .u8 0, .int .u8 0, .int .u8 0, .int .u8 0, .int .u8 0, .int .u8 0, .int .u8 0, .int .u8 0, .int .u8 0, .int .u8 0, .int .u8 0, .int .u8 0, .int .u8 0, .int .u8 0, .int .u8 0, .int .u8 0, .int .u8 0, .int .u8 0, .int .u8 0, .int .u8 0, .int .u8 0, .int .u8 0], .bytes 5 x.l]⟩) (μ := fun x => (x.i + 1).toNat) ⟨7, IntKind.wrap .u64 (IntKind.wrap .u64 (s.length : Int) * 8), l, by omega, by omega, rfl, by rw [hl]; simp⟩ (by kernel_rfl) [0, 1] ?_ ?_
    · refine ⟨rfl, by decide, ?_, ?_⟩ <;> repeat' (first | exact trivial | exact rfl | apply And.intro)
    rintro ⟨i, nb, l2, hi0, hi1, hnb, hl2⟩
    unfold sConsts sRMix
    generalize hg0 : rturnPre = g0
    generalize hg1 : rmixPre = g1
    generalize hg2 : mixS = g2
    generalize hg3 : kOf = g3
    generalize hg4 : k64 = g4
    generalize hg5 : bytesG = g5
    generalize hg6 : byteN = g6
    generalize hg7 : iv = g7
    generalize hg8 : sumI = g8
    generalize hg9 : (List.length : List UInt8 → Nat) = g9
    generalize hL : lft Tryd.prog _ = L
    generalize hA : Arith.std = A
    set_option cbv.maxSteps 1000000 in cbv
    subst hA hg0 hg1 hg2 hg3 hg4 hg5 hg6 hg7 hg8 hg9 hL
    replace hi0 : -1 ≤ i := hi0
    replace hnb : nb = IntKind.wrap .u64 (IntKind.wrap .u64 (s.length : Int) * 8) := hnb
    replace hi1 : i ≤ 7 := hi1
    replace hl2 : l2 = s ++ ([128] ++ List.replicate (zs s.length) 0) ++ (len8 s.length).take (7 - i).toNat := hl2
    have hll2 : l2.length ≤ s.length + 100 := by
      rw [hl2]
      simp only [List.length_append, List.length_take, List.length_replicate, len8_len, List.length_singleton]
      omega
    refine Ife.mk (fun hge => ?_) (fun hge => ?_)
    · replace hge : 0 ≤ i := of_decide_eq_true (p := (0 : Int) ≤ i) hge
      have hb : IntKind.wrap .u8 (nb.fdiv (2 ^ (min (8 * i).toNat 64))) = lenB s.length (7 - i).toNat := by
        rw [hnb]
        unfold lenB
        rw [show min (8 * i).toNat 64 = 8 * (7 - (7 - i).toNat) by omega]
      have hr : 0 ≤ lenB s.length (7 - i).toNat ∧ lenB s.length (7 - i).toNat < 256 := by
        unfold lenB
        generalize (IntKind.wrap .u64 (IntKind.wrap .u64 (s.length : Int) * 8)).fdiv (2 ^ (8 * (7 - (7 - i).toNat))) = x
        simp only [IntKind.wrap]
        exact ⟨Int.emod_nonneg _ (by decide), Int.emod_lt_of_pos _ (by decide)⟩
      refine Need.mk (by show fitStd .i64 (8 * i); unfold fitStd; omega) fun _ => Need.mk (by show (0 : Int) ≤ 8 * i; omega) fun _ => ?_
      refine Need.mk (by show 0 ≤ IntKind.wrap .u8 (nb.fdiv (2 ^ (min (8 * i).toNat 64))) ∧ IntKind.wrap .u8 (nb.fdiv (2 ^ (min (8 * i).toNat 64))) < 256; rw [hb]; exact hr) fun _ => ?_
      refine Need.mk (by show l2.length + 1 ≤ 140737488355328; omega) fun _ => Need.mk (by show fitStd .i64 (i - 1); unfold fitStd; omega) fun _ => ?_
      refine ⟨⟨i - 1, nb, l2 ++ [UInt8.ofNat (IntKind.wrap .u8 (nb.fdiv (2 ^ (min (8 * i).toNat 64)))).toNat], by omega, by omega, hnb, ?h2⟩, [0, 3], (by show (i - 1 + 1).toNat < (i + 1).toNat; omega), ?st⟩
      case st => refine ⟨rfl, by decide, ?_, ?_⟩ <;> repeat' (first | exact trivial | exact rfl | apply And.intro)
      case h2 =>
        rw [hb, hl2, show (7 - (i - 1)).toNat = (7 - i).toNat + 1 by omega, len8_snoc _ _ (by omega)]
        simp
    replace hge : ¬ 0 ≤ i := of_decide_eq_false (p := (0 : Int) ≤ i) hge
    obtain rfl : l2 = pad s := by
      rw [hl2, show (7 - i).toNat = 8 by omega, List.take_of_length_le (by rw [len8_len]; exact Nat.le_refl _)]
      unfold pad
      simp
    clear hl2 hll2 hl hll hge hi0 hi1 hnb
    obtain ⟨p, hpp⟩ : ∃ p, p = pad s := ⟨_, rfl⟩
    rw [← hpp] at hpl hpm ⊢
    refine Need.mk trivial fun _ => ?_
    show Runs Tryd.prog 0 (.loop _) _ _
    refine loop_ruleR (N := env (lft Tryd.prog 0) 0 .std tbC [(75, appPure sConsts), (76, appFn [] [(5, 1)] sRMix)] [(14, [(0, true), (1, true), (2, true), (3, true), (4, true), (5, true), (6, true), (7, false), (1008, false), (8, false)])]) rfl tbC_ok hC (fun c st K _ h => h) (by kernel_rfl) [] (X := LC p)
      (S := fun x => ⟨[.any, .any, .c (.ptr 0 0), .c (.row 1), .any, .any, .c (.ptr 2 0), .c (.ptr 3 0), .c (.int .i64 x.a)] ++ List.replicate 62 .any, [.cells 24 [.int .u8 0, .int .u8 0, .int .u8 0, .int .u8 0, .int .u8 0, .int .u8 0, .int .u8 0, .int .u8 0, .int .u8 0, .int .u8 0, .int .u8 0, .int .u8 0, .int .u8 0, .int .u8 0, .int .u8 0, .int .u8 0, .int .u8 0, .int .u8 0, .int .u8 0, .int .u8 0, .int .u8 0, .int .u8 0, .int .u8 0, .int .u8 0, .int .u8 0, .int .u8 0, .int .u8 0, .int .u8 0, .int .u8 0, .int .u8 0, .int .u8 0, .int .u8 0], .bytes 5 p, .cells 86 [.int .u32 x.s.a, .int .u32 x.s.b, .int .u32 x.s.c, .int .u32 x.s.d, .int .u32 x.s.e, .int .u32 x.s.f, .int .u32 x.s.g, .int .u32 x.s.h], .cells 90 [.int .u32 (kOf 0), .int .u32 (kOf 1), .int .u32 (kOf 2), .int .u32 (kOf 3), .int .u32 (kOf 4), .int .u32 (kOf 5), .int .u32 (kOf 6), .int .u32 (kOf 7), .int .u32 (kOf 8), .int .u32 (kOf 9), .int .u32 (kOf 10), .int .u32 (kOf 11), .int .u32 (kOf 12), .int .u32 (kOf 13), .int .u32 (kOf 14), .int .u32 (kOf 15), .int .u32 (kOf 16), .int .u32 (kOf 17), .int .u32 (kOf 18), .int .u32 (kOf 19), .int .u32 (kOf 20), .int .u32 (kOf 21), .int .u32 (kOf 22), .int .u32 (kOf 23), .int .u32 (kOf 24), .int .u32 (kOf 25), .int .u32 (kOf 26), .int .u32 (kOf 27), .int .u32 (kOf 28), .int .u32 (kOf 29), .int .u32 (kOf 30), .int .u32 (kOf 31), .int .u32 (kOf 32), .int .u32 (kOf 33), .int .u32 (kOf 34), .int .u32 (kOf 35), .int .u32 (kOf 36), .int .u32 (kOf 37), .int .u32 (kOf 38), .int .u32 (kOf 39), .int .u32 (kOf 40), .int .u32 (kOf 41), .int .u32 (kOf 42), .int .u32 (kOf 43), .int .u32 (kOf 44), .int .u32 (kOf 45), .int .u32 (kOf 46), .int .u32 (kOf 47), .int .u32 (kOf 48), .int .u32 (kOf 49), .int .u32 (kOf 50), .int .u32 (kOf 51), .int .u32 (kOf 52), .int .u32 (kOf 53), .int .u32 (kOf 54), .int .u32 (kOf 55), .int .u32 (kOf 56), .int .u32 (kOf 57), .int .u32 (kOf 58), .int .u32 (kOf 59), .int .u32 (kOf 60), .int .u32 (kOf 61), .int .u32 (kOf 62), .int .u32 (kOf 63)]]⟩) (μ := fun x => p.length / 64 - x.k) ⟨0, 0, iv, by omega, rfl, rfl⟩ (by kernel_rfl) [0, 1, 2, 3] ?_ ?_
    · refine ⟨rfl, by decide, ?_, ?_⟩ <;> repeat' (first | exact trivial | exact rfl | apply And.intro)
    rintro ⟨k, a, S, hk, ha, hS⟩
    unfold sConsts sRMix
    generalize hg0 : rturnPre = g0
    generalize hg1 : rmixPre = g1
    generalize hg2 : mixS = g2
    generalize hg3 : kOf = g3
    generalize hg4 : k64 = g4
    generalize hg5 : bytesG = g5
    generalize hg6 : byteN = g6
    generalize hg7 : iv = g7
    generalize hg8 : sumI = g8
    generalize hg9 : (List.length : List UInt8 → Nat) = g9
    generalize hL : lft Tryd.prog _ = L
    generalize hA : Arith.std = A
    set_option cbv.maxSteps 1000000 in cbv
    subst hA hg0 hg1 hg2 hg3 hg4 hg5 hg6 hg7 hg8 hg9 hL
    replace hk : k ≤ p.length / 64 := hk
    replace ha : a = 64 * (k : Int) := ha
    replace hS : S = blocks k iv p := hS
    refine Ife.mk (fun hlt => ?_) (fun hlt => ?_)
    · replace hlt : a < (p.length : Int) := of_decide_eq_true (p := a < (p.length : Int)) hlt
      refine Need.mk (by show fitStd .i64 (a + 64); unfold fitStd; omega) fun _ => ?_
      refine Need.mk (by show 0 ≤ a ∧ a ≤ a + 64 ∧ a + 64 ≤ (byteL p : Int); rw [byteL_eq]; omega) fun _ => ?_
      refine Need.mk ⟨rfl, rfl, by show (a + 64 - a).toNat = 64; omega, bytesG_ok p a.toNat _, rfl⟩ fun _ => ?_
      refine Need.mk (by show fitStd .i64 (a + 64); unfold fitStd; omega) fun _ => ?_
      refine ⟨⟨k + 1, a + 64, mixS S (bytesG (a + 64 - a).toNat (fun i => [.int .u8 (byteN p (a.toNat + i))])), by omega, by omega, ?h3⟩, [0, 1, 2, 3], (by show p.length / 64 - (k + 1) < p.length / 64 - k; omega), ?st⟩
      case st => refine ⟨rfl, by decide, ?_, ?_⟩ <;> repeat' (first | exact trivial | exact rfl | apply And.intro)
      case h3 =>
        rw [show (a + 64 - a).toNat = 64 by omega, bytesG_cut p a.toNat 64 (by omega), blocks_add k 1 iv p, ← hS, show a.toNat = 64 * k by omega]
        rfl
    replace hlt : ¬ a < (p.length : Int) := of_decide_eq_false (p := a < (p.length : Int)) hlt
    have hSE : S = endS s := by
      rw [hS, show k = p.length / 64 by omega, hpp]
      rfl
    clear hS hk ha hlt
    generalize hE : endS s = E at hSE
    subst hSE
    show Runs Tryd.prog 0 (.loop _) _ _
    refine loop_ruleR (N := env (lft Tryd.prog 0) 0 .std tbY [(75, appPure sConsts), (76, appFn [] [(5, 1)] sRMix)] [(14, [(0, true), (1, true), (2, true), (3, true), (4, true), (5, true), (6, true), (7, false), (1008, false), (8, false)])]) rfl tbY_ok hC (fun c st K _ h => h) (by kernel_rfl) [] (X := LFill 32 (outS S) (fun _ => 0))
      (S := fun x => ⟨[.any, .any, .c (.ptr 0 0), .any, .any, .any, .c (.ptr 2 0), .any, .any, .c (.ptr 4 0), .c (.int .i64 x.i)] ++ List.replicate 60 .any, [.cells 24 [.int .u8 0, .int .u8 0, .int .u8 0, .int .u8 0, .int .u8 0, .int .u8 0, .int .u8 0, .int .u8 0, .int .u8 0, .int .u8 0, .int .u8 0, .int .u8 0, .int .u8 0, .int .u8 0, .int .u8 0, .int .u8 0, .int .u8 0, .int .u8 0, .int .u8 0, .int .u8 0, .int .u8 0, .int .u8 0, .int .u8 0, .int .u8 0, .int .u8 0, .int .u8 0, .int .u8 0, .int .u8 0, .int .u8 0, .int .u8 0, .int .u8 0, .int .u8 0], .dead, .cells 86 [.int .u32 S.a, .int .u32 S.b, .int .u32 S.c, .int .u32 S.d, .int .u32 S.e, .int .u32 S.f, .int .u32 S.g, .int .u32 S.h], .dead, .cells 24 [.int .u8 (x.g 0), .int .u8 (x.g 1), .int .u8 (x.g 2), .int .u8 (x.g 3), .int .u8 (x.g 4), .int .u8 (x.g 5), .int .u8 (x.g 6), .int .u8 (x.g 7), .int .u8 (x.g 8), .int .u8 (x.g 9), .int .u8 (x.g 10), .int .u8 (x.g 11), .int .u8 (x.g 12), .int .u8 (x.g 13), .int .u8 (x.g 14), .int .u8 (x.g 15), .int .u8 (x.g 16), .int .u8 (x.g 17), .int .u8 (x.g 18), .int .u8 (x.g 19), .int .u8 (x.g 20), .int .u8 (x.g 21), .int .u8 (x.g 22), .int .u8 (x.g 23), .int .u8 (x.g 24), .int .u8 (x.g 25), .int .u8 (x.g 26), .int .u8 (x.g 27), .int .u8 (x.g 28), .int .u8 (x.g 29), .int .u8 (x.g 30), .int .u8 (x.g 31)]]⟩) (μ := fun x => 32 - x.i.toNat) ⟨0, (fun _ => 0), by omega, by omega, fun j hj => absurd hj (by omega), fun j _ _ => rfl⟩ (by kernel_rfl) [0, 1, 2, 3, 4] ?_ ?_
    · refine ⟨rfl, by decide, ?_, ?_⟩ <;> repeat' (first | exact trivial | exact rfl | apply And.intro)
    rintro ⟨i2, g2, hi02, hin2, hlo2, hhi2⟩
    unfold sConsts sRMix
    generalize hg0 : rturnPre = g0
    generalize hg1 : rmixPre = g1
    generalize hg2 : mixS = g2
    generalize hg3 : kOf = g3
    generalize hg4 : k64 = g4
    generalize hg5 : bytesG = g5
    generalize hg6 : byteN = g6
    generalize hg7 : iv = g7
    generalize hg8 : sumI = g8
    generalize hg9 : (List.length : List UInt8 → Nat) = g9
    generalize hL : lft Tryd.prog _ = L
    generalize hA : Arith.std = A
    cbv
    subst hA hg0 hg1 hg2 hg3 hg4 hg5 hg6 hg7 hg8 hg9 hL
    replace hi02 : 0 ≤ i2 := hi02
    replace hin2 : i2 ≤ ((32 : Nat) : Int) := hin2
    replace hlo2 : ∀ j : Nat, (j : Int) < i2 → g2 j = (outS S) j := hlo2
    replace hhi2 : ∀ j : Nat, i2 ≤ (j : Int) → j < 32 → g2 j = (fun _ => 0) j := hhi2
    refine Ife.mk (fun hlt2 => ?_) (fun hlt2 => ?_)
    · replace hlt2 : i2 < (32 : Int) := of_decide_eq_true (p := i2 < (32 : Int)) hlt2
      obtain ⟨q1, q2, q3, q4⟩ := quo4 i2 hi02 hlt2
      repeat refine Need.mk (by first | exact trivial | (simp only [Arith.std, fitStd]; omega) | (simp [Arith.std, fitStd]; omega)) fun _ => ?_
      refine ⟨⟨i2 + 1, fun j => Arith.std.upd (i2.toNat) (j) ?fv2 (g2 j), by omega, by omega, ?h2, ?h3⟩, [0, 1, 2, 3, 4], (by show 32 - (i2 + 1).toNat < 32 - i2.toNat; omega), ?st⟩
      case st => refine ⟨rfl, by decide, ?_, ?_⟩ <;> repeat' (first | exact trivial | exact rfl | apply And.intro)
      case h3 =>
        intro j hj hj2
        show (if i2.toNat = j then _ else g2 j) = _
        rw [if_neg (by omega)]
        exact hhi2 j (by omega) hj2
      case h2 =>
        intro j hj
        show (if i2.toNat = j then _ else g2 j) = _
        by_cases hji : i2.toNat = j
        · rw [if_pos hji]
          obtain rfl : j = i2.toNat := by omega
          clear hji hj
          show IntKind.wrap .u8 ((Arith.std.sel (IntKind.wrap .i64 (i2.tdiv 4)).toNat [S.a, S.b, S.c, S.d, S.e, S.f, S.g, S.h]).fdiv (2 ^ (min (24 - 8 * i2.tmod 4).toNat 32))) = outS S i2.toNat
          rw [sel8S, show 8 * i2.tmod 4 = i2.tmod 4 * 8 by omega]
          exact out_int S i2 hi02 hlt2
        · rw [if_neg hji]
          exact hlo2 j (by omega)
    · replace hlt2 : ¬ i2 < (32 : Int) := of_decide_eq_false (p := i2 < (32 : Int)) hlt2
      have hq2 : ∀ k : Nat, k < 32 → g2 k = (outS S) k := fun k hk => hlo2 k (by omega)
      have hq3 : ∀ k, k < 32 → g2 k = sumI s k := fun k hk => by rw [hq2 k hk]; unfold sumI; rw [hE]
      rw [hq3 0 (by decide), hq3 1 (by decide), hq3 2 (by decide), hq3 3 (by decide), hq3 4 (by decide), hq3 5 (by decide), hq3 6 (by decide), hq3 7 (by decide), hq3 8 (by decide), hq3 9 (by decide), hq3 10 (by decide), hq3 11 (by decide), hq3 12 (by decide), hq3 13 (by decide), hq3 14 (by decide), hq3 15 (by decide), hq3 16 (by decide), hq3 17 (by decide), hq3 18 (by decide), hq3 19 (by decide), hq3 20 (by decide), hq3 21 (by decide), hq3 22 (by decide), hq3 23 (by decide), hq3 24 (by decide), hq3 25 (by decide), hq3 26 (by decide), hq3 27 (by decide), hq3 28 (by decide), hq3 29 (by decide), hq3 30 (by decide), hq3 31 (by decide)]
      repeat' (first | exact trivial | exact rfl | apply And.intro)

end Go.Proofs.YtophhppklaofaaaDoor.Vx
