/- The document's sum, by the walker: how a block is mixed in. -/
import Derived.Test.YtophhppklaofaaaDoorVLib
namespace Go.Proofs.YtophhppklaofaaaDoor.Vx
open Go.RowKit Sha
set_option linter.unusedVariables false
set_option linter.unusedSimpArgs false
def rturnPre (n : Int) : Prop := 0 < n ∧ n < 32
/-- A byte that is a cell. -/
def byteOf : List CV → UInt8
  | [.int .u8 n] => UInt8.ofNat n.toNat
  | _ => 0
def bytesG (n : Nat) (get : Nat → List CV) : List UInt8 := (List.range n).map fun i => byteOf (get i)
def BytesG (n : Nat) (get : Nat → List CV) : Prop := ∀ i, i < n → ∃ b : UInt8, get i = [.int .u8 (b.toNat : Int)]
theorem bytesG_get {n : Nat} {get : Nat → List CV} (h : BytesG n get) (i : Nat) (hi : i < n) : get i = [.int .u8 (byteN (bytesG n get) i)] := by
  obtain ⟨b, hb⟩ := h i hi
  rw [hb]
  unfold byteN bytesG
  rw [List.getD_eq_getElem?_getD, List.getElem?_map, List.getElem?_range hi]
  simp [hb, byteOf]
theorem bytesG_len (n : Nat) (get : Nat → List CV) : (bytesG n get).length = n := by simp [bytesG]
def k64 : List CV := [.int .u32 (kOf 0), .int .u32 (kOf 1), .int .u32 (kOf 2), .int .u32 (kOf 3), .int .u32 (kOf 4), .int .u32 (kOf 5), .int .u32 (kOf 6), .int .u32 (kOf 7), .int .u32 (kOf 8), .int .u32 (kOf 9), .int .u32 (kOf 10), .int .u32 (kOf 11), .int .u32 (kOf 12), .int .u32 (kOf 13), .int .u32 (kOf 14), .int .u32 (kOf 15), .int .u32 (kOf 16), .int .u32 (kOf 17), .int .u32 (kOf 18), .int .u32 (kOf 19), .int .u32 (kOf 20), .int .u32 (kOf 21), .int .u32 (kOf 22), .int .u32 (kOf 23), .int .u32 (kOf 24), .int .u32 (kOf 25), .int .u32 (kOf 26), .int .u32 (kOf 27), .int .u32 (kOf 28), .int .u32 (kOf 29), .int .u32 (kOf 30), .int .u32 (kOf 31), .int .u32 (kOf 32), .int .u32 (kOf 33), .int .u32 (kOf 34), .int .u32 (kOf 35), .int .u32 (kOf 36), .int .u32 (kOf 37), .int .u32 (kOf 38), .int .u32 (kOf 39), .int .u32 (kOf 40), .int .u32 (kOf 41), .int .u32 (kOf 42), .int .u32 (kOf 43), .int .u32 (kOf 44), .int .u32 (kOf 45), .int .u32 (kOf 46), .int .u32 (kOf 47), .int .u32 (kOf 48), .int .u32 (kOf 49), .int .u32 (kOf 50), .int .u32 (kOf 51), .int .u32 (kOf 52), .int .u32 (kOf 53), .int .u32 (kOf 54), .int .u32 (kOf 55), .int .u32 (kOf 56), .int .u32 (kOf 57), .int .u32 (kOf 58), .int .u32 (kOf 59), .int .u32 (kOf 60), .int .u32 (kOf 61), .int .u32 (kOf 62), .int .u32 (kOf 63)]
def rmixPre (ty one n : Nat) (get : Nat → List CV) (ks : List CV) : Prop := ty = 5 ∧ one = 1 ∧ n = 64 ∧ BytesG n get ∧ ks = k64
def sRTurn : List SV → Option (Prop × SV)
  | [.c (.int .u32 w), .c (.int .i64 n)] => some (rturnPre n, .c (.int .u32 (rot w n)))
  | _ => none

set_option maxRecDepth 100000 in
set_option maxHeartbeats 400000 in
theorem rturnP : Pure Tryd.prog 109 sRTurn := by
  refine Pure.of (E := tbC) (C := []) [] 0 [(1, [(0, true), (1, true), (2, true), (3, true), (4, true), (5, true), (6, true), (7, true), (8, true)])] tbC_ok (CtsOk.nil _) (by kernel_rfl) Tryd.func109 rfl rfl rfl (by kernel_rfl) (by kernel_rfl) ?_ ?_
  · intro args pre r h
    unfold sRTurn at h
    split at h
    · cases h; first | rfl | exact ⟨rfl, rfl⟩
    · cases h
  · intro args pre r h hp
    unfold sRTurn at h
    split at h
    rotate_left
    · cases h
    rename_i w n
    cases h
    generalize hg0 : rot = g0
    generalize hg1 : rturnPre = g1
    generalize hA : Arith.std = A
    cbv
    subst hA hg0 hg1
    obtain ⟨h0, h1⟩ := hp
    refine Need.mk (by first | exact trivial | (simp only [Arith.std, fitStd]; omega) | (simp [Arith.std, fitStd]; omega)) fun _ => ?_
    refine Need.mk (by first | exact trivial | (simp only [Arith.std, fitStd]; omega) | (simp [Arith.std, fitStd]; omega)) fun _ => ?_
    refine Need.mk (by first | exact trivial | (simp only [Arith.std, fitStd]; omega) | (simp [Arith.std, fitStd]; omega)) fun _ => ?_
    rfl

def sConsts : List SV → Option (Prop × SV)
  | [] => some (True, .agg [.int .u32 (kOf 0), .int .u32 (kOf 1), .int .u32 (kOf 2), .int .u32 (kOf 3), .int .u32 (kOf 4), .int .u32 (kOf 5), .int .u32 (kOf 6), .int .u32 (kOf 7), .int .u32 (kOf 8), .int .u32 (kOf 9), .int .u32 (kOf 10), .int .u32 (kOf 11), .int .u32 (kOf 12), .int .u32 (kOf 13), .int .u32 (kOf 14), .int .u32 (kOf 15), .int .u32 (kOf 16), .int .u32 (kOf 17), .int .u32 (kOf 18), .int .u32 (kOf 19), .int .u32 (kOf 20), .int .u32 (kOf 21), .int .u32 (kOf 22), .int .u32 (kOf 23), .int .u32 (kOf 24), .int .u32 (kOf 25), .int .u32 (kOf 26), .int .u32 (kOf 27), .int .u32 (kOf 28), .int .u32 (kOf 29), .int .u32 (kOf 30), .int .u32 (kOf 31), .int .u32 (kOf 32), .int .u32 (kOf 33), .int .u32 (kOf 34), .int .u32 (kOf 35), .int .u32 (kOf 36), .int .u32 (kOf 37), .int .u32 (kOf 38), .int .u32 (kOf 39), .int .u32 (kOf 40), .int .u32 (kOf 41), .int .u32 (kOf 42), .int .u32 (kOf 43), .int .u32 (kOf 44), .int .u32 (kOf 45), .int .u32 (kOf 46), .int .u32 (kOf 47), .int .u32 (kOf 48), .int .u32 (kOf 49), .int .u32 (kOf 50), .int .u32 (kOf 51), .int .u32 (kOf 52), .int .u32 (kOf 53), .int .u32 (kOf 54), .int .u32 (kOf 55), .int .u32 (kOf 56), .int .u32 (kOf 57), .int .u32 (kOf 58), .int .u32 (kOf 59), .int .u32 (kOf 60), .int .u32 (kOf 61), .int .u32 (kOf 62), .int .u32 (kOf 63)])
  | _ => none

set_option maxRecDepth 100000 in
set_option maxHeartbeats 400000 in
theorem constsP : Pure Tryd.prog 75 sConsts := by
  refine Pure.of (E := tbC) (C := []) [] 0 [] tbC_ok (CtsOk.nil _) (by kernel_rfl) Tryd.func75 rfl rfl rfl (by kernel_rfl) (by kernel_rfl) ?_ ?_
  · intro args pre r h
    unfold sConsts at h
    split at h
    · cases h; first | rfl | exact ⟨rfl, rfl⟩
    · cases h
  · intro args pre r h hp
    unfold sConsts at h
    split at h
    rotate_left
    · cases h
    cases h
    generalize hg0 : kOf = g0
    generalize hA : Arith.std = A
    cbv
    subst hA hg0
    repeat' (first | exact trivial | exact rfl | apply And.intro)

def sRMix : SpecF
  | [.agg [.int .u32 ha, .int .u32 hb, .int .u32 hc', .int .u32 hd, .int .u32 he, .int .u32 hf, .int .u32 hg, .int .u32 hh], .c (.row 0), .agg ks], [.elems ty one n get] => some (rmixPre ty one n get ks, .agg [.int .u32 (mixS ⟨ha, hb, hc', hd, he, hf, hg, hh⟩ (bytesG n get)).a, .int .u32 (mixS ⟨ha, hb, hc', hd, he, hf, hg, hh⟩ (bytesG n get)).b, .int .u32 (mixS ⟨ha, hb, hc', hd, he, hf, hg, hh⟩ (bytesG n get)).c, .int .u32 (mixS ⟨ha, hb, hc', hd, he, hf, hg, hh⟩ (bytesG n get)).d, .int .u32 (mixS ⟨ha, hb, hc', hd, he, hf, hg, hh⟩ (bytesG n get)).e, .int .u32 (mixS ⟨ha, hb, hc', hd, he, hf, hg, hh⟩ (bytesG n get)).f, .int .u32 (mixS ⟨ha, hb, hc', hd, he, hf, hg, hh⟩ (bytesG n get)).g, .int .u32 (mixS ⟨ha, hb, hc', hd, he, hf, hg, hh⟩ (bytesG n get)).h], [.dead])
  | _, _ => none

set_option maxRecDepth 100000 in
set_option maxHeartbeats 2000000 in
theorem rmixP : Fn Tryd.prog 76 [] [(5, 1)] sRMix := by
  have hC : CtsOk Tryd.prog [(109, appPure sRTurn)] := CtsOk.cons (Pure.ct rturnP) <| CtsOk.nil _
  refine Fn.of (E := tbY) [] 0 [(6, [(0, true), (1, true), (2, true), (3, true), (4, true), (5, true), (6, true), (7, true), (8, true), (9, true), (10, true), (11, true), (12, true), (13, true), (14, true), (15, true), (16, true), (17, true), (18, true), (19, true), (20, true), (21, true), (22, true), (23, true), (24, true), (25, true), (26, true), (27, true), (28, true), (29, true), (30, true), (31, true), (32, true), (33, true), (34, true), (1035, false), (35, false)]), (7, [(0, true), (1, true), (2, true), (3, true), (4, true), (5, true), (6, true), (7, true), (8, true), (9, true)]), (8, [(0, true), (1, true), (2, true), (3, true), (4, true), (5, true), (7, true), (10, true), (11, true), (14, true), (15, true), (16, true), (17, true), (19, true), (21, true), (24, true), (25, true), (6, false), (8, false), (9, true), (12, true), (13, true), (18, true), (20, false), (22, false), (23, true), (26, true), (27, true), (28, true), (1029, false), (29, false)]), (14, [(0, true), (1, true), (2, true), (4, true), (7, true), (11, true), (12, true), (13, true), (14, true), (15, true), (16, true), (17, true), (18, true), (19, true), (20, true), (22, true), (23, true), (24, true), (26, true), (27, true), (28, true), (3, false), (5, false), (6, true), (8, false), (9, true), (10, true), (21, true), (25, true), (29, true), (30, true)]), (16, [(0, true), (2, true), (5, true), (8, true), (9, true), (10, true), (11, true), (12, true), (13, true), (14, true), (15, true), (16, true), (17, true), (18, true), (19, true), (20, true), (21, true), (22, true), (1, false), (3, false), (4, true), (6, false), (7, true), (23, true), (24, true)]), (21, [(0, true), (1, true), (2, true), (3, true), (4, true), (5, true), (6, true), (7, true), (1008, false), (8, false)])] tbY_ok hC (by kernel_rfl) Tryd.func76 rfl rfl rfl (by kernel_rfl) (by kernel_rfl) 1 5 1 ?_ ?_
  · intro args h pre r h' hs
    unfold sRMix at hs
    split at hs
    · cases hs; exact ⟨rfl, rfl, Nat.le_of_ble_eq_true rfl⟩
    · cases hs
  · intro args h pre r h' hs hp
    unfold sRMix at hs
    split at hs
    rotate_left
    · cases hs
    rename_i ha hb hc' hd he hf hg hh ks ty one n get
    cases hs
    obtain ⟨rfl, rfl, rfl, hB, rfl⟩ := hp
    obtain ⟨c, hc⟩ : ∃ c, c = bytesG 64 get := ⟨_, rfl⟩
    have hcl : c.length = 64 := by rw [hc, bytesG_len]
    refine ⟨[.elems 5 1 64 (fun i => [.int .u8 (byteN c i)])], ⟨⟨rfl, rfl, rfl, fun i hi => by rw [hc]; exact bytesG_get hB i hi⟩, trivial⟩, ?_⟩
    rw [← hc]
    clear hB hc
    unfold k64
    unfold sRTurn
    generalize hg0 : schW = g0
    generalize hg1 : turn3 = g1
    generalize hg2 : kOf = g2
    generalize hg3 : mixS = g3
    generalize hg4 : rturnPre = g4
    generalize hg5 : byteN = g5
    generalize hg6 : rot = g6
    generalize hL : lft Tryd.prog _ = L
    generalize hA : Arith.std = A
    cbv
    subst hA hg0 hg1 hg2 hg3 hg4 hg5 hg6 hL
    show Runs Tryd.prog 1 (.loop _) _ _
    refine loop_ruleR (N := env (lft Tryd.prog 1) 0 .std tbY [(109, appPure sRTurn)] [(6, [(0, true), (1, true), (2, true), (3, true), (4, true), (5, true), (6, true), (7, true), (8, true), (9, true), (10, true), (11, true), (12, true), (13, true), (14, true), (15, true), (16, true), (17, true), (18, true), (19, true), (20, true), (21, true), (22, true), (23, true), (24, true), (25, true), (26, true), (27, true), (28, true), (29, true), (30, true), (31, true), (32, true), (33, true), (34, true), (1035, false), (35, false)]), (7, [(0, true), (1, true), (2, true), (3, true), (4, true), (5, true), (6, true), (7, true), (8, true), (9, true)]), (8, [(0, true), (1, true), (2, true), (3, true), (4, true), (5, true), (7, true), (10, true), (11, true), (14, true), (15, true), (16, true), (17, true), (19, true), (21, true), (24, true), (25, true), (6, false), (8, false), (9, true), (12, true), (13, true), (18, true), (20, false), (22, false), (23, true), (26, true), (27, true), (28, true), (1029, false), (29, false)]), (14, [(0, true), (1, true), (2, true), (4, true), (7, true), (11, true), (12, true), (13, true), (14, true), (15, true), (16, true), (17, true), (18, true), (19, true), (20, true), (22, true), (23, true), (24, true), (26, true), (27, true), (28, true), (3, false), (5, false), (6, true), (8, false), (9, true), (10, true), (21, true), (25, true), (29, true), (30, true)]), (16, [(0, true), (2, true), (5, true), (8, true), (9, true), (10, true), (11, true), (12, true), (13, true), (14, true), (15, true), (16, true), (17, true), (18, true), (19, true), (20, true), (21, true), (22, true), (1, false), (3, false), (4, true), (6, false), (7, true), (23, true), (24, true)]), (21, [(0, true), (1, true), (2, true), (3, true), (4, true), (5, true), (6, true), (7, true), (1008, false), (8, false)])]) rfl tbY_ok hC (fun c st K _ h => h) (by kernel_rfl) [] (X := LSp c)
      (S := fun x => ⟨[.any, .c (.row 0), .any, .c (.ptr 1 0), .any, .c (.ptr 2 0), .c (.ptr 3 0), .c (.ptr 4 0), .c (.int .i64 x.i)] ++ List.replicate 183 .any, [.elems 5 1 64 (fun i => [.int .u8 (byteN c i)]), .cells 86 [.int .u32 ha, .int .u32 hb, .int .u32 hc', .int .u32 hd, .int .u32 he, .int .u32 hf, .int .u32 hg, .int .u32 hh], .cells 90 [.int .u32 (kOf 0), .int .u32 (kOf 1), .int .u32 (kOf 2), .int .u32 (kOf 3), .int .u32 (kOf 4), .int .u32 (kOf 5), .int .u32 (kOf 6), .int .u32 (kOf 7), .int .u32 (kOf 8), .int .u32 (kOf 9), .int .u32 (kOf 10), .int .u32 (kOf 11), .int .u32 (kOf 12), .int .u32 (kOf 13), .int .u32 (kOf 14), .int .u32 (kOf 15), .int .u32 (kOf 16), .int .u32 (kOf 17), .int .u32 (kOf 18), .int .u32 (kOf 19), .int .u32 (kOf 20), .int .u32 (kOf 21), .int .u32 (kOf 22), .int .u32 (kOf 23), .int .u32 (kOf 24), .int .u32 (kOf 25), .int .u32 (kOf 26), .int .u32 (kOf 27), .int .u32 (kOf 28), .int .u32 (kOf 29), .int .u32 (kOf 30), .int .u32 (kOf 31), .int .u32 (kOf 32), .int .u32 (kOf 33), .int .u32 (kOf 34), .int .u32 (kOf 35), .int .u32 (kOf 36), .int .u32 (kOf 37), .int .u32 (kOf 38), .int .u32 (kOf 39), .int .u32 (kOf 40), .int .u32 (kOf 41), .int .u32 (kOf 42), .int .u32 (kOf 43), .int .u32 (kOf 44), .int .u32 (kOf 45), .int .u32 (kOf 46), .int .u32 (kOf 47), .int .u32 (kOf 48), .int .u32 (kOf 49), .int .u32 (kOf 50), .int .u32 (kOf 51), .int .u32 (kOf 52), .int .u32 (kOf 53), .int .u32 (kOf 54), .int .u32 (kOf 55), .int .u32 (kOf 56), .int .u32 (kOf 57), .int .u32 (kOf 58), .int .u32 (kOf 59), .int .u32 (kOf 60), .int .u32 (kOf 61), .int .u32 (kOf 62), .int .u32 (kOf 63)], .cells 86 [.int .u32 0, .int .u32 0, .int .u32 0, .int .u32 0, .int .u32 0, .int .u32 0, .int .u32 0, .int .u32 0], .cells 90 [.int .u32 (x.g 0), .int .u32 (x.g 1), .int .u32 (x.g 2), .int .u32 (x.g 3), .int .u32 (x.g 4), .int .u32 (x.g 5), .int .u32 (x.g 6), .int .u32 (x.g 7), .int .u32 (x.g 8), .int .u32 (x.g 9), .int .u32 (x.g 10), .int .u32 (x.g 11), .int .u32 (x.g 12), .int .u32 (x.g 13), .int .u32 (x.g 14), .int .u32 (x.g 15), .int .u32 (x.g 16), .int .u32 (x.g 17), .int .u32 (x.g 18), .int .u32 (x.g 19), .int .u32 (x.g 20), .int .u32 (x.g 21), .int .u32 (x.g 22), .int .u32 (x.g 23), .int .u32 (x.g 24), .int .u32 (x.g 25), .int .u32 (x.g 26), .int .u32 (x.g 27), .int .u32 (x.g 28), .int .u32 (x.g 29), .int .u32 (x.g 30), .int .u32 (x.g 31), .int .u32 (x.g 32), .int .u32 (x.g 33), .int .u32 (x.g 34), .int .u32 (x.g 35), .int .u32 (x.g 36), .int .u32 (x.g 37), .int .u32 (x.g 38), .int .u32 (x.g 39), .int .u32 (x.g 40), .int .u32 (x.g 41), .int .u32 (x.g 42), .int .u32 (x.g 43), .int .u32 (x.g 44), .int .u32 (x.g 45), .int .u32 (x.g 46), .int .u32 (x.g 47), .int .u32 (x.g 48), .int .u32 (x.g 49), .int .u32 (x.g 50), .int .u32 (x.g 51), .int .u32 (x.g 52), .int .u32 (x.g 53), .int .u32 (x.g 54), .int .u32 (x.g 55), .int .u32 (x.g 56), .int .u32 (x.g 57), .int .u32 (x.g 58), .int .u32 (x.g 59), .int .u32 (x.g 60), .int .u32 (x.g 61), .int .u32 (x.g 62), .int .u32 (x.g 63)]]⟩) (μ := fun x => 64 - x.i.toNat) ⟨0, fun _ => 0, by omega, by omega, fun j hj => by omega⟩ (by kernel_rfl) [0, 1, 2, 3, 4] ?_ ?_
    · refine ⟨rfl, by decide, ?_, ?_⟩ <;> repeat' (first | exact trivial | exact rfl | apply And.intro)
    rintro ⟨i, g, hi0, hin, hall⟩
    unfold sRTurn
    generalize hg0 : schW = g0
    generalize hg1 : turn3 = g1
    generalize hg2 : kOf = g2
    generalize hg3 : mixS = g3
    generalize hg4 : rturnPre = g4
    generalize hg5 : byteN = g5
    generalize hg6 : rot = g6
    generalize hL : lft Tryd.prog _ = L
    generalize hA : Arith.std = A
    cbv
    subst hA hg0 hg1 hg2 hg3 hg4 hg5 hg6 hL
    replace hi0 : 0 ≤ i := hi0
    replace hin : i ≤ 64 := hin
    replace hall : ∀ j : Nat, (j : Int) < i → g j = schW c j := hall
    refine Ife.mk (fun h => ?_) (fun h => ?_)
    · have hlt : i < 64 := of_decide_eq_true (p := i < 64) h
      refine Ife.mk (fun h => ?_) (fun h => ?_)
      · have hl16 : i < 16 := of_decide_eq_true (p := i < 16) h
        repeat refine Need.mk (by first | exact trivial | (simp only [Arith.std, fitStd]; omega) | (simp [Arith.std, fitStd]; omega)) fun _ => ?_
        refine ⟨⟨i + 1, fun j => Arith.std.upd i.toNat j ?v1 (g j), by omega, by omega, ?h2⟩, [0, 1, 2, 3, 4], (by show 64 - (i + 1).toNat < 64 - i.toNat; omega), ?st⟩
        case st => refine ⟨rfl, by decide, ?_, ?_⟩ <;> repeat' (first | exact trivial | exact rfl | apply And.intro)
        case h2 =>
          intro j hj
          show (if i.toNat = j then _ else g j) = _
          by_cases hji : i.toNat = j
          · rw [if_pos hji, ← hji, schW_lo c (by omega), ← word_int c i hi0]
            rfl
          · rw [if_neg hji]
            exact hall j (by omega)
      · have hl16 : ¬ i < 16 := of_decide_eq_false (p := i < 16) h
        repeat (first | refine Need.mk (by first | exact trivial | (simp only [Arith.std, fitStd]; omega) | (simp [Arith.std, fitStd]; omega)) fun _ => ?_ | refine Need.mk (by exact ⟨by decide, by decide⟩) fun _ => ?_)
        refine ⟨⟨i + 1, fun j => Arith.std.upd i.toNat j ?v2 (g j), by omega, by omega, ?h2⟩, [0, 1, 2, 3, 4], (by show 64 - (i + 1).toNat < 64 - i.toNat; omega), ?st⟩
        case st => refine ⟨rfl, by decide, ?_, ?_⟩ <;> repeat' (first | exact trivial | exact rfl | apply And.intro)
        case h2 =>
          intro j hj
          show (if i.toNat = j then _ else g j) = _
          by_cases hji : i.toNat = j
          · rw [if_pos hji, ← hji, schW_hi c (by omega) (by omega)]
            show addW (addW (addW (Arith.std.sel (i - 16).toNat ((List.range 64).map g)) (slide3 (Arith.std.sel (i - 15).toNat ((List.range 64).map g)) 7 18 3)) (Arith.std.sel (i - 7).toNat ((List.range 64).map g))) (slide3 (Arith.std.sel (i - 2).toNat ((List.range 64).map g)) 17 19 10) = _
            rw [sel_range g 64 _ (by omega), sel_range g 64 _ (by omega), sel_range g 64 _ (by omega), sel_range g 64 _ (by omega), hall _ (by omega), hall _ (by omega), hall _ (by omega), hall _ (by omega)]
            rw [show (i - 16).toNat = i.toNat - 16 by omega, show (i - 15).toNat = i.toNat - 15 by omega, show (i - 7).toNat = i.toNat - 7 by omega, show (i - 2).toNat = i.toNat - 2 by omega]
          · rw [if_neg hji]
            exact hall j (by omega)
    have hnlt : ¬ i < 64 := of_decide_eq_false (p := i < 64) h
    have hq : ∀ k : Nat, k < 64 → g k = schW c k := fun k hk => hall k (by omega)
    clear hall
    show Runs Tryd.prog 1 (.loop _) _ _
    refine loop_ruleR (N := env (lft Tryd.prog 1) 0 .std tbY [(109, appPure sRTurn)] [(6, [(0, true), (1, true), (2, true), (3, true), (4, true), (5, true), (6, true), (7, true), (8, true), (9, true), (10, true), (11, true), (12, true), (13, true), (14, true), (15, true), (16, true), (17, true), (18, true), (19, true), (20, true), (21, true), (22, true), (23, true), (24, true), (25, true), (26, true), (27, true), (28, true), (29, true), (30, true), (31, true), (32, true), (33, true), (34, true), (1035, false), (35, false)]), (7, [(0, true), (1, true), (2, true), (3, true), (4, true), (5, true), (6, true), (7, true), (8, true), (9, true)]), (8, [(0, true), (1, true), (2, true), (3, true), (4, true), (5, true), (7, true), (10, true), (11, true), (14, true), (15, true), (16, true), (17, true), (19, true), (21, true), (24, true), (25, true), (6, false), (8, false), (9, true), (12, true), (13, true), (18, true), (20, false), (22, false), (23, true), (26, true), (27, true), (28, true), (1029, false), (29, false)]), (14, [(0, true), (1, true), (2, true), (4, true), (7, true), (11, true), (12, true), (13, true), (14, true), (15, true), (16, true), (17, true), (18, true), (19, true), (20, true), (22, true), (23, true), (24, true), (26, true), (27, true), (28, true), (3, false), (5, false), (6, true), (8, false), (9, true), (10, true), (21, true), (25, true), (29, true), (30, true)]), (16, [(0, true), (2, true), (5, true), (8, true), (9, true), (10, true), (11, true), (12, true), (13, true), (14, true), (15, true), (16, true), (17, true), (18, true), (19, true), (20, true), (21, true), (22, true), (1, false), (3, false), (4, true), (6, false), (7, true), (23, true), (24, true)]), (21, [(0, true), (1, true), (2, true), (3, true), (4, true), (5, true), (6, true), (7, true), (1008, false), (8, false)])]) rfl tbY_ok hC (fun c st K _ h => h) (by kernel_rfl) [] (X := LM c ⟨ha, hb, hc', hd, he, hf, hg, hh⟩)
      (S := fun x => ⟨[.any, .any, .any, .c (.ptr 1 0), .any, .c (.ptr 2 0), .c (.ptr 3 0), .c (.ptr 4 0), .any, .any, .any, .c (.ptr 5 0), .c (.int .i64 x.i)] ++ List.replicate 179 .any, [.elems 5 1 64 (fun i => [.int .u8 (byteN c i)]), .cells 86 [.int .u32 ha, .int .u32 hb, .int .u32 hc', .int .u32 hd, .int .u32 he, .int .u32 hf, .int .u32 hg, .int .u32 hh], .cells 90 [.int .u32 (kOf 0), .int .u32 (kOf 1), .int .u32 (kOf 2), .int .u32 (kOf 3), .int .u32 (kOf 4), .int .u32 (kOf 5), .int .u32 (kOf 6), .int .u32 (kOf 7), .int .u32 (kOf 8), .int .u32 (kOf 9), .int .u32 (kOf 10), .int .u32 (kOf 11), .int .u32 (kOf 12), .int .u32 (kOf 13), .int .u32 (kOf 14), .int .u32 (kOf 15), .int .u32 (kOf 16), .int .u32 (kOf 17), .int .u32 (kOf 18), .int .u32 (kOf 19), .int .u32 (kOf 20), .int .u32 (kOf 21), .int .u32 (kOf 22), .int .u32 (kOf 23), .int .u32 (kOf 24), .int .u32 (kOf 25), .int .u32 (kOf 26), .int .u32 (kOf 27), .int .u32 (kOf 28), .int .u32 (kOf 29), .int .u32 (kOf 30), .int .u32 (kOf 31), .int .u32 (kOf 32), .int .u32 (kOf 33), .int .u32 (kOf 34), .int .u32 (kOf 35), .int .u32 (kOf 36), .int .u32 (kOf 37), .int .u32 (kOf 38), .int .u32 (kOf 39), .int .u32 (kOf 40), .int .u32 (kOf 41), .int .u32 (kOf 42), .int .u32 (kOf 43), .int .u32 (kOf 44), .int .u32 (kOf 45), .int .u32 (kOf 46), .int .u32 (kOf 47), .int .u32 (kOf 48), .int .u32 (kOf 49), .int .u32 (kOf 50), .int .u32 (kOf 51), .int .u32 (kOf 52), .int .u32 (kOf 53), .int .u32 (kOf 54), .int .u32 (kOf 55), .int .u32 (kOf 56), .int .u32 (kOf 57), .int .u32 (kOf 58), .int .u32 (kOf 59), .int .u32 (kOf 60), .int .u32 (kOf 61), .int .u32 (kOf 62), .int .u32 (kOf 63)], .cells 86 [.int .u32 0, .int .u32 0, .int .u32 0, .int .u32 0, .int .u32 0, .int .u32 0, .int .u32 0, .int .u32 0], .cells 90 [.int .u32 (g 0), .int .u32 (g 1), .int .u32 (g 2), .int .u32 (g 3), .int .u32 (g 4), .int .u32 (g 5), .int .u32 (g 6), .int .u32 (g 7), .int .u32 (g 8), .int .u32 (g 9), .int .u32 (g 10), .int .u32 (g 11), .int .u32 (g 12), .int .u32 (g 13), .int .u32 (g 14), .int .u32 (g 15), .int .u32 (g 16), .int .u32 (g 17), .int .u32 (g 18), .int .u32 (g 19), .int .u32 (g 20), .int .u32 (g 21), .int .u32 (g 22), .int .u32 (g 23), .int .u32 (g 24), .int .u32 (g 25), .int .u32 (g 26), .int .u32 (g 27), .int .u32 (g 28), .int .u32 (g 29), .int .u32 (g 30), .int .u32 (g 31), .int .u32 (g 32), .int .u32 (g 33), .int .u32 (g 34), .int .u32 (g 35), .int .u32 (g 36), .int .u32 (g 37), .int .u32 (g 38), .int .u32 (g 39), .int .u32 (g 40), .int .u32 (g 41), .int .u32 (g 42), .int .u32 (g 43), .int .u32 (g 44), .int .u32 (g 45), .int .u32 (g 46), .int .u32 (g 47), .int .u32 (g 48), .int .u32 (g 49), .int .u32 (g 50), .int .u32 (g 51), .int .u32 (g 52), .int .u32 (g 53), .int .u32 (g 54), .int .u32 (g 55), .int .u32 (g 56), .int .u32 (g 57), .int .u32 (g 58), .int .u32 (g 59), .int .u32 (g 60), .int .u32 (g 61), .int .u32 (g 62), .int .u32 (g 63)], .cells 86 [.int .u32 x.s.a, .int .u32 x.s.b, .int .u32 x.s.c, .int .u32 x.s.d, .int .u32 x.s.e, .int .u32 x.s.f, .int .u32 x.s.g, .int .u32 x.s.h]]⟩) (μ := fun x => 64 - x.i.toNat) ⟨0, ⟨ha, hb, hc', hd, he, hf, hg, hh⟩, by omega, by omega, rfl⟩ (by kernel_rfl) [0, 1, 2, 3, 4, 5] ?_ ?_
    · refine ⟨rfl, by decide, ?_, ?_⟩ <;> repeat' (first | exact trivial | exact rfl | apply And.intro)
    rintro ⟨i, ⟨a, b, cc, d, e, f, gg, h⟩, hi0, hin, hs⟩
    unfold sRTurn
    generalize hg0 : schW = g0
    generalize hg1 : turn3 = g1
    generalize hg2 : kOf = g2
    generalize hg3 : mixS = g3
    generalize hg4 : rturnPre = g4
    generalize hg5 : byteN = g5
    generalize hg6 : rot = g6
    generalize hL : lft Tryd.prog _ = L
    generalize hA : Arith.std = A
    cbv
    subst hA hg0 hg1 hg2 hg3 hg4 hg5 hg6 hL
    replace hi0 : 0 ≤ i := hi0
    replace hin : i ≤ 64 := hin
    refine Ife.mk (fun hlt => ?_) (fun hlt => ?_)
    · replace hlt : i < 64 := of_decide_eq_true (p := i < 64) hlt
      repeat (first | refine Need.mk (by first | exact trivial | (simp only [Arith.std, fitStd]; omega) | (simp [Arith.std, fitStd]; omega)) fun _ => ?_ | refine Need.mk (by exact ⟨by decide, by decide⟩) fun _ => ?_)
      refine ⟨⟨i + 1, rnd ⟨a, b, cc, d, e, f, gg, h⟩ (Arith.std.sel i.toNat ((List.range 64).map kOf)) (Arith.std.sel i.toNat ((List.range 64).map g)), by omega, by omega, ?h2⟩, [0, 1, 2, 3, 4, 5], (by show 64 - (i + 1).toNat < 64 - i.toNat; omega), ?st⟩
      case st => refine ⟨rfl, by decide, ?_, ?_⟩ <;> repeat' (first | exact trivial | exact rfl | apply And.intro)
      case h2 =>
        rw [sel_range kOf 64 _ (by omega), sel_range g 64 _ (by omega), hq _ (by omega), show (i + 1).toNat = i.toNat + 1 by omega, hs]
        rfl
    replace hlt : ¬ i < 64 := of_decide_eq_false (p := i < 64) hlt
    rw [show i.toNat = 64 by omega] at hs
    generalize hR : rounds c ⟨ha, hb, hc', hd, he, hf, hg, hh⟩ 64 = R at hs
    subst hs
    show Runs Tryd.prog 1 (.loop _) _ _
    refine loop_ruleR (N := env (lft Tryd.prog 1) 0 .std tbY [(109, appPure sRTurn)] [(6, [(0, true), (1, true), (2, true), (3, true), (4, true), (5, true), (6, true), (7, true), (8, true), (9, true), (10, true), (11, true), (12, true), (13, true), (14, true), (15, true), (16, true), (17, true), (18, true), (19, true), (20, true), (21, true), (22, true), (23, true), (24, true), (25, true), (26, true), (27, true), (28, true), (29, true), (30, true), (31, true), (32, true), (33, true), (34, true), (1035, false), (35, false)]), (7, [(0, true), (1, true), (2, true), (3, true), (4, true), (5, true), (6, true), (7, true), (8, true), (9, true)]), (8, [(0, true), (1, true), (2, true), (3, true), (4, true), (5, true), (7, true), (10, true), (11, true), (14, true), (15, true), (16, true), (17, true), (19, true), (21, true), (24, true), (25, true), (6, false), (8, false), (9, true), (12, true), (13, true), (18, true), (20, false), (22, false), (23, true), (26, true), (27, true), (28, true), (1029, false), (29, false)]), (14, [(0, true), (1, true), (2, true), (4, true), (7, true), (11, true), (12, true), (13, true), (14, true), (15, true), (16, true), (17, true), (18, true), (19, true), (20, true), (22, true), (23, true), (24, true), (26, true), (27, true), (28, true), (3, false), (5, false), (6, true), (8, false), (9, true), (10, true), (21, true), (25, true), (29, true), (30, true)]), (16, [(0, true), (2, true), (5, true), (8, true), (9, true), (10, true), (11, true), (12, true), (13, true), (14, true), (15, true), (16, true), (17, true), (18, true), (19, true), (20, true), (21, true), (22, true), (1, false), (3, false), (4, true), (6, false), (7, true), (23, true), (24, true)]), (21, [(0, true), (1, true), (2, true), (3, true), (4, true), (5, true), (6, true), (7, true), (1008, false), (8, false)])]) rfl tbY_ok hC (fun c st K _ h => h) (by kernel_rfl) [] (X := LFill 8 (fun j => addW (S8.at ⟨ha, hb, hc', hd, he, hf, hg, hh⟩ j) (S8.at ⟨a, b, cc, d, e, f, gg, h⟩ j)) (fun j => S8.at ⟨ha, hb, hc', hd, he, hf, hg, hh⟩ j))
      (S := fun x => ⟨[.any, .any, .any, .c (.ptr 1 0), .any, .any, .c (.ptr 3 0), .any, .any, .any, .any, .c (.ptr 5 0), .any, .any, .any, .any, .any, .c (.int .i64 x.i)] ++ List.replicate 174 .any, [.elems 5 1 64 (fun i => [.int .u8 (byteN c i)]), .cells 86 [.int .u32 (x.g 0), .int .u32 (x.g 1), .int .u32 (x.g 2), .int .u32 (x.g 3), .int .u32 (x.g 4), .int .u32 (x.g 5), .int .u32 (x.g 6), .int .u32 (x.g 7)], .dead, .cells 86 [.int .u32 0, .int .u32 0, .int .u32 0, .int .u32 0, .int .u32 0, .int .u32 0, .int .u32 0, .int .u32 0], .dead, .cells 86 [.int .u32 a, .int .u32 b, .int .u32 cc, .int .u32 d, .int .u32 e, .int .u32 f, .int .u32 gg, .int .u32 h]]⟩) (μ := fun x => 8 - x.i.toNat) ⟨0, (fun j => S8.at ⟨ha, hb, hc', hd, he, hf, hg, hh⟩ j), by omega, by omega, fun j hj => absurd hj (by omega), fun j _ _ => rfl⟩ (by kernel_rfl) [0, 1, 2, 3, 4, 5] ?_ ?_
    · refine ⟨rfl, by decide, ?_, ?_⟩ <;> repeat' (first | exact trivial | exact rfl | apply And.intro)
    rintro ⟨i2, g2, hi02, hin2, hlo2, hhi2⟩
    unfold sRTurn
    generalize hg0 : schW = g0
    generalize hg1 : turn3 = g1
    generalize hg2 : kOf = g2
    generalize hg3 : mixS = g3
    generalize hg4 : rturnPre = g4
    generalize hg5 : byteN = g5
    generalize hg6 : rot = g6
    generalize hL : lft Tryd.prog _ = L
    generalize hA : Arith.std = A
    cbv
    subst hA hg0 hg1 hg2 hg3 hg4 hg5 hg6 hL
    replace hi02 : 0 ≤ i2 := hi02
    replace hin2 : i2 ≤ ((8 : Nat) : Int) := hin2
    replace hlo2 : ∀ j : Nat, (j : Int) < i2 → g2 j = (fun j => addW (S8.at ⟨ha, hb, hc', hd, he, hf, hg, hh⟩ j) (S8.at ⟨a, b, cc, d, e, f, gg, h⟩ j)) j := hlo2
    replace hhi2 : ∀ j : Nat, i2 ≤ (j : Int) → j < 8 → g2 j = (fun j => S8.at ⟨ha, hb, hc', hd, he, hf, hg, hh⟩ j) j := hhi2
    refine Ife.mk (fun hlt2 => ?_) (fun hlt2 => ?_)
    · replace hlt2 : i2 < (8 : Int) := of_decide_eq_true (p := i2 < (8 : Int)) hlt2
      repeat refine Need.mk (by first | exact trivial | (simp only [Arith.std, fitStd]; omega) | (simp [Arith.std, fitStd]; omega)) fun _ => ?_
      refine ⟨⟨i2 + 1, fun j => Arith.std.upd (i2.toNat) (j) ?fv2 (g2 j), by omega, by omega, ?h2, ?h3⟩, [0, 1, 2, 3, 4, 5], (by show 8 - (i2 + 1).toNat < 8 - i2.toNat; omega), ?st⟩
      case st => refine ⟨rfl, by decide, ?_, ?_⟩ <;> repeat' (first | exact trivial | exact rfl | apply And.intro)
      case h3 =>
        intro j hj hj2
        show (if i2.toNat = j then _ else g2 j) = _
        rw [if_neg (by omega)]
        exact hhi2 j (by omega) hj2
      case h2 =>
        intro j hj
        show (if i2.toNat = j then _ else g2 j) = _
        by_cases hji : i2.toNat = j
        · rw [if_pos hji]
          obtain rfl : j = i2.toNat := by omega
          clear hji hj
          show addW (Arith.std.sel i2.toNat [g2 0, g2 1, g2 2, g2 3, g2 4, g2 5, g2 6, g2 7]) (Arith.std.sel i2.toNat [a, b, cc, d, e, f, gg, h]) = _
          rw [sel8 g2 _ (by omega), hhi2 _ (by omega) (by omega)]
          rfl
        · rw [if_neg hji]
          exact hlo2 j (by omega)
    · replace hlt2 : ¬ i2 < (8 : Int) := of_decide_eq_false (p := i2 < (8 : Int)) hlt2
      have hq2 : ∀ k : Nat, k < 8 → g2 k = (fun j => addW (S8.at ⟨ha, hb, hc', hd, he, hf, hg, hh⟩ j) (S8.at ⟨a, b, cc, d, e, f, gg, h⟩ j)) k := fun k hk => hlo2 k (by omega)
      have hm : mixS ⟨ha, hb, hc', hd, he, hf, hg, hh⟩ c = ⟨addW ha a, addW hb b, addW hc' cc, addW hd d, addW he e, addW hf f, addW hg gg, addW hh h⟩ := by
        unfold mixS
        rw [hR]
      rw [hm]
      rw [hq2 0 (by decide), hq2 1 (by decide), hq2 2 (by decide), hq2 3 (by decide), hq2 4 (by decide), hq2 5 (by decide), hq2 6 (by decide), hq2 7 (by decide)]
      exact ⟨[0], ⟨rfl, by repeat' (first | exact trivial | exact rfl | apply And.intro), by decide, rfl, by repeat' (first | exact trivial | exact rfl | apply And.intro)⟩⟩

end Go.Proofs.YtophhppklaofaaaDoor.Vx
