/- The words of a chunk, and how a chunk is mixed in, by the walker. -/
import Derived.Test.YtophhppklaofaaaDoorVSha
namespace Go.Proofs.YtophhppklaofaaaDoor.Vx
open Go.RowKit Sha
set_option linter.unusedVariables false
set_option linter.unusedSimpArgs false
theorem sel_range (g : Nat → Int) (m n : Nat) (h : n < m) : Arith.std.sel n ((List.range m).map g) = g n := by
  show ((List.range m).map g).getD n 0 = g n
  rw [List.getD_eq_getElem?_getD, List.getElem?_map, List.getElem?_range h]
  rfl
theorem sel64 (g : Nat → Int) (n : Nat) (h : n < 64) : Arith.std.sel n [g 0, g 1, g 2, g 3, g 4, g 5, g 6, g 7, g 8, g 9, g 10, g 11, g 12, g 13, g 14, g 15, g 16, g 17, g 18, g 19, g 20, g 21, g 22, g 23, g 24, g 25, g 26, g 27, g 28, g 29, g 30, g 31, g 32, g 33, g 34, g 35, g 36, g 37, g 38, g 39, g 40, g 41, g 42, g 43, g 44, g 45, g 46, g 47, g 48, g 49, g 50, g 51, g 52, g 53, g 54, g 55, g 56, g 57, g 58, g 59, g 60, g 61, g 62, g 63] = g n := sel_range g 64 n h
theorem sel8 (g : Nat → Int) (n : Nat) (h : n < 8) : Arith.std.sel n [g 0, g 1, g 2, g 3, g 4, g 5, g 6, g 7] = g n := sel_range g 8 n h
theorem word_int (l : List UInt8) (i : Int) (h : 0 ≤ i) :
    orW (orW (orW (shlW (IntKind.wrap .u32 ((l.getD (4 * i).toNat 0).toNat : Int)) 24) (shlW (IntKind.wrap .u32 ((l.getD (4 * i + 1).toNat 0).toNat : Int)) 16)) (shlW (IntKind.wrap .u32 ((l.getD (4 * i + 2).toNat 0).toNat : Int)) 8)) (IntKind.wrap .u32 ((l.getD (4 * i + 3).toNat 0).toNat : Int)) = wordAt l i.toNat := by
  unfold wordAt byW
  rw [show (4 * i).toNat = 4 * i.toNat by omega, show (4 * i + 1).toNat = 4 * i.toNat + 1 by omega, show (4 * i + 2).toNat = 4 * i.toNat + 2 by omega, show (4 * i + 3).toNat = 4 * i.toNat + 3 by omega]
/-- The words of a chunk, so far. -/
structure LSp (l : List UInt8) where
  i : Int
  g : Nat → Int
  h0 : 0 ≤ i
  h1 : i ≤ 64
  h2 : ∀ j : Nat, (j : Int) < i → g j = schW l j
def sSpread : List SV → Option (Prop × SV)
  | [.c (.str l)] => some (l.length = 64, .agg [.int .u32 (schW l 0), .int .u32 (schW l 1), .int .u32 (schW l 2), .int .u32 (schW l 3), .int .u32 (schW l 4), .int .u32 (schW l 5), .int .u32 (schW l 6), .int .u32 (schW l 7), .int .u32 (schW l 8), .int .u32 (schW l 9), .int .u32 (schW l 10), .int .u32 (schW l 11), .int .u32 (schW l 12), .int .u32 (schW l 13), .int .u32 (schW l 14), .int .u32 (schW l 15), .int .u32 (schW l 16), .int .u32 (schW l 17), .int .u32 (schW l 18), .int .u32 (schW l 19), .int .u32 (schW l 20), .int .u32 (schW l 21), .int .u32 (schW l 22), .int .u32 (schW l 23), .int .u32 (schW l 24), .int .u32 (schW l 25), .int .u32 (schW l 26), .int .u32 (schW l 27), .int .u32 (schW l 28), .int .u32 (schW l 29), .int .u32 (schW l 30), .int .u32 (schW l 31), .int .u32 (schW l 32), .int .u32 (schW l 33), .int .u32 (schW l 34), .int .u32 (schW l 35), .int .u32 (schW l 36), .int .u32 (schW l 37), .int .u32 (schW l 38), .int .u32 (schW l 39), .int .u32 (schW l 40), .int .u32 (schW l 41), .int .u32 (schW l 42), .int .u32 (schW l 43), .int .u32 (schW l 44), .int .u32 (schW l 45), .int .u32 (schW l 46), .int .u32 (schW l 47), .int .u32 (schW l 48), .int .u32 (schW l 49), .int .u32 (schW l 50), .int .u32 (schW l 51), .int .u32 (schW l 52), .int .u32 (schW l 53), .int .u32 (schW l 54), .int .u32 (schW l 55), .int .u32 (schW l 56), .int .u32 (schW l 57), .int .u32 (schW l 58), .int .u32 (schW l 59), .int .u32 (schW l 60), .int .u32 (schW l 61), .int .u32 (schW l 62), .int .u32 (schW l 63)])
  | _ => none

set_option maxRecDepth 100000 in
set_option maxHeartbeats 2000000 in
theorem spreadP : Pure Tryd.prog 107 sSpread := by
  have hC : CtsOk Tryd.prog [(132, appPure sSlide)] := CtsOk.cons (Pure.ct slideP) <| CtsOk.nil _
  refine Pure.of (E := tbY) (C := [(132, appPure sSlide)]) [] 0 [(6, [(0, true), (1, true), (2, true), (3, true), (4, true), (5, true), (6, true), (7, true), (8, true), (9, true), (10, true), (11, true), (12, true), (13, true), (14, true), (15, true), (16, true), (17, true), (18, true), (19, true), (20, true), (21, true), (22, true), (23, true), (24, true), (25, true), (26, true), (27, true), (28, true), (29, true), (30, true), (1031, false), (31, false)]), (7, [(0, true), (1, true), (2, true), (3, true), (4, true), (5, true), (6, true), (7, true), (8, true), (11, true), (12, true), (13, true), (14, true), (16, true), (17, true), (18, true), (19, true), (9, false), (10, true), (15, true), (20, false), (21, true), (22, true), (1023, false), (23, false)])] tbY_ok hC (by kernel_rfl) Tryd.func107 rfl rfl rfl (by kernel_rfl) (by kernel_rfl) ?_ ?_
  · intro args pre r h
    unfold sSpread at h
    split at h
    · cases h; rfl
    · cases h
  · intro args pre r h hp
    unfold sSpread at h
    split at h
    rotate_left
    · cases h
    rename_i l
    cases h
    have hlen : l.length = 64 := hp
    generalize hg0 : schW = g0
    generalize hg1 : slide3 = g1
    generalize hg2 : (List.length : List UInt8 → Nat) = g2
    generalize hL : lft Tryd.prog _ = L
    generalize hA : Arith.std = A
    cbv
    subst hA hg0 hg1 hg2 hL
    show Runs Tryd.prog 0 (.loop _) _ _
    refine loop_ruleR (N := env (lft Tryd.prog 0) 0 .std tbY [(132, appPure sSlide)] [(6, [(0, true), (1, true), (2, true), (3, true), (4, true), (5, true), (6, true), (7, true), (8, true), (9, true), (10, true), (11, true), (12, true), (13, true), (14, true), (15, true), (16, true), (17, true), (18, true), (19, true), (20, true), (21, true), (22, true), (23, true), (24, true), (25, true), (26, true), (27, true), (28, true), (29, true), (30, true), (1031, false), (31, false)]), (7, [(0, true), (1, true), (2, true), (3, true), (4, true), (5, true), (6, true), (7, true), (8, true), (11, true), (12, true), (13, true), (14, true), (16, true), (17, true), (18, true), (19, true), (9, false), (10, true), (15, true), (20, false), (21, true), (22, true), (1023, false), (23, false)])]) rfl tbY_ok hC (fun c st K _ h => h) (by kernel_rfl) [] (X := LSp l)
      (S := fun x => ⟨[.c (.str l), .any, .c (.ptr 0 0), .c (.ptr 1 0), .any, .c (.int .i64 x.i)] ++ List.replicate 60 .any, [.cells 90 [.int .u32 0, .int .u32 0, .int .u32 0, .int .u32 0, .int .u32 0, .int .u32 0, .int .u32 0, .int .u32 0, .int .u32 0, .int .u32 0, .int .u32 0, .int .u32 0, .int .u32 0, .int .u32 0, .int .u32 0, .int .u32 0, .int .u32 0, .int .u32 0, .int .u32 0, .int .u32 0, .int .u32 0, .int .u32 0, .int .u32 0, .int .u32 0, .int .u32 0, .int .u32 0, .int .u32 0, .int .u32 0, .int .u32 0, .int .u32 0, .int .u32 0, .int .u32 0, .int .u32 0, .int .u32 0, .int .u32 0, .int .u32 0, .int .u32 0, .int .u32 0, .int .u32 0, .int .u32 0, .int .u32 0, .int .u32 0, .int .u32 0, .int .u32 0, .int .u32 0, .int .u32 0, .int .u32 0, .int .u32 0, .int .u32 0, .int .u32 0, .int .u32 0, .int .u32 0, .int .u32 0, .int .u32 0, .int .u32 0, .int .u32 0, .int .u32 0, .int .u32 0, .int .u32 0, .int .u32 0, .int .u32 0, .int .u32 0, .int .u32 0, .int .u32 0], .cells 90 [.int .u32 (x.g 0), .int .u32 (x.g 1), .int .u32 (x.g 2), .int .u32 (x.g 3), .int .u32 (x.g 4), .int .u32 (x.g 5), .int .u32 (x.g 6), .int .u32 (x.g 7), .int .u32 (x.g 8), .int .u32 (x.g 9), .int .u32 (x.g 10), .int .u32 (x.g 11), .int .u32 (x.g 12), .int .u32 (x.g 13), .int .u32 (x.g 14), .int .u32 (x.g 15), .int .u32 (x.g 16), .int .u32 (x.g 17), .int .u32 (x.g 18), .int .u32 (x.g 19), .int .u32 (x.g 20), .int .u32 (x.g 21), .int .u32 (x.g 22), .int .u32 (x.g 23), .int .u32 (x.g 24), .int .u32 (x.g 25), .int .u32 (x.g 26), .int .u32 (x.g 27), .int .u32 (x.g 28), .int .u32 (x.g 29), .int .u32 (x.g 30), .int .u32 (x.g 31), .int .u32 (x.g 32), .int .u32 (x.g 33), .int .u32 (x.g 34), .int .u32 (x.g 35), .int .u32 (x.g 36), .int .u32 (x.g 37), .int .u32 (x.g 38), .int .u32 (x.g 39), .int .u32 (x.g 40), .int .u32 (x.g 41), .int .u32 (x.g 42), .int .u32 (x.g 43), .int .u32 (x.g 44), .int .u32 (x.g 45), .int .u32 (x.g 46), .int .u32 (x.g 47), .int .u32 (x.g 48), .int .u32 (x.g 49), .int .u32 (x.g 50), .int .u32 (x.g 51), .int .u32 (x.g 52), .int .u32 (x.g 53), .int .u32 (x.g 54), .int .u32 (x.g 55), .int .u32 (x.g 56), .int .u32 (x.g 57), .int .u32 (x.g 58), .int .u32 (x.g 59), .int .u32 (x.g 60), .int .u32 (x.g 61), .int .u32 (x.g 62), .int .u32 (x.g 63)]]⟩) (μ := fun x => 64 - x.i.toNat) ⟨0, fun _ => 0, by omega, by omega, fun j hj => by omega⟩ (by kernel_rfl) [0, 1] ?_ ?_
    · refine ⟨rfl, by decide, ?_, ?_⟩ <;> repeat' (first | exact trivial | exact rfl | apply And.intro)
    rintro ⟨i, g, hi0, hin, hall⟩
    unfold sSlide
    generalize hg0 : schW = g0
    generalize hg1 : slide3 = g1
    generalize hg2 : (List.length : List UInt8 → Nat) = g2
    generalize hL : lft Tryd.prog _ = L
    generalize hA : Arith.std = A
    cbv
    subst hA hg0 hg1 hg2 hL
    replace hi0 : 0 ≤ i := hi0
    replace hin : i ≤ 64 := hin
    replace hall : ∀ j : Nat, (j : Int) < i → g j = schW l j := hall
    replace hlen : l.length = 64 := hlen
    refine Ife.mk (fun h => ?_) (fun h => ?_)
    · have hlt : i < 64 := of_decide_eq_true (p := i < 64) h
      refine Ife.mk (fun h => ?_) (fun h => ?_)
      · have hl16 : i < 16 := of_decide_eq_true (p := i < 16) h
        repeat refine Need.mk (by first | exact trivial | (simp only [Arith.std, fitStd]; omega) | (simp [Arith.std, fitStd]; omega)) fun _ => ?_
        refine ⟨⟨i + 1, fun j => Arith.std.upd i.toNat j ?v1 (g j), by omega, by omega, ?h2⟩, [0, 1], (by show 64 - (i + 1).toNat < 64 - i.toNat; omega), ?st⟩
        case st => refine ⟨rfl, by decide, ?_, ?_⟩ <;> repeat' (first | exact trivial | exact rfl | apply And.intro)
        case h2 =>
          intro j hj
          show (if i.toNat = j then _ else g j) = _
          by_cases hji : i.toNat = j
          · rw [if_pos hji, ← hji, schW_lo l (by omega), ← word_int l i hi0]
            rfl
          · rw [if_neg hji]
            exact hall j (by omega)
      · have hl16 : ¬ i < 16 := of_decide_eq_false (p := i < 16) h
        repeat refine Need.mk (by first | exact trivial | (simp only [Arith.std, fitStd]; omega) | (simp [Arith.std, fitStd]; omega)) fun _ => ?_
        refine ⟨⟨i + 1, fun j => Arith.std.upd i.toNat j ?v2 (g j), by omega, by omega, ?h2⟩, [0, 1], (by show 64 - (i + 1).toNat < 64 - i.toNat; omega), ?st⟩
        case st => refine ⟨rfl, by decide, ?_, ?_⟩ <;> repeat' (first | exact trivial | exact rfl | apply And.intro)
        case h2 =>
          intro j hj
          show (if i.toNat = j then _ else g j) = _
          by_cases hji : i.toNat = j
          · rw [if_pos hji, ← hji, schW_hi l (by omega) (by omega)]
            show addW (addW (addW (Arith.std.sel (i - 16).toNat ((List.range 64).map g)) (slide3 (Arith.std.sel (i - 15).toNat ((List.range 64).map g)) 7 18 3)) (Arith.std.sel (i - 7).toNat ((List.range 64).map g))) (slide3 (Arith.std.sel (i - 2).toNat ((List.range 64).map g)) 17 19 10) = _
            rw [sel_range g 64 _ (by omega), sel_range g 64 _ (by omega), sel_range g 64 _ (by omega), sel_range g 64 _ (by omega), hall _ (by omega), hall _ (by omega), hall _ (by omega), hall _ (by omega)]
            rw [show (i - 16).toNat = i.toNat - 16 by omega, show (i - 15).toNat = i.toNat - 15 by omega, show (i - 7).toNat = i.toNat - 7 by omega, show (i - 2).toNat = i.toNat - 2 by omega]
          · rw [if_neg hji]
            exact hall j (by omega)
    · have hnlt : ¬ i < 64 := of_decide_eq_false (p := i < 64) h
      have hq : ∀ k : Nat, k < 64 → g k = schW l k := fun k hk => hall k (by omega)
      exact ⟨hq 0 (by decide), hq 1 (by decide), hq 2 (by decide), hq 3 (by decide), hq 4 (by decide), hq 5 (by decide), hq 6 (by decide), hq 7 (by decide), hq 8 (by decide), hq 9 (by decide), hq 10 (by decide), hq 11 (by decide), hq 12 (by decide), hq 13 (by decide), hq 14 (by decide), hq 15 (by decide), hq 16 (by decide), hq 17 (by decide), hq 18 (by decide), hq 19 (by decide), hq 20 (by decide), hq 21 (by decide), hq 22 (by decide), hq 23 (by decide), hq 24 (by decide), hq 25 (by decide), hq 26 (by decide), hq 27 (by decide), hq 28 (by decide), hq 29 (by decide), hq 30 (by decide), hq 31 (by decide), hq 32 (by decide), hq 33 (by decide), hq 34 (by decide), hq 35 (by decide), hq 36 (by decide), hq 37 (by decide), hq 38 (by decide), hq 39 (by decide), hq 40 (by decide), hq 41 (by decide), hq 42 (by decide), hq 43 (by decide), hq 44 (by decide), hq 45 (by decide), hq 46 (by decide), hq 47 (by decide), hq 48 (by decide), hq 49 (by decide), hq 50 (by decide), hq 51 (by decide), hq 52 (by decide), hq 53 (by decide), hq 54 (by decide), hq 55 (by decide), hq 56 (by decide), hq 57 (by decide), hq 58 (by decide), hq 59 (by decide), hq 60 (by decide), hq 61 (by decide), hq 62 (by decide), hq 63 (by decide), trivial⟩

end Go.Proofs.YtophhppklaofaaaDoor.Vx
