/- How a chunk is mixed in, by the walker. -/
import Derived.Test.YtophhppklaofaaaDoorVSha2
namespace Go.Proofs.YtophhppklaofaaaDoor.Vx
open Go.RowKit Sha
set_option linter.unusedVariables false
set_option linter.unusedSimpArgs false
/-- A loop that fills an array, so far. -/
structure LFill (N : Nat) (F I : Nat → Int) where
  i : Int
  g : Nat → Int
  h0 : 0 ≤ i
  h1 : i ≤ (N : Int)
  h2 : ∀ j : Nat, (j : Int) < i → g j = F j
  h3 : ∀ j : Nat, i ≤ (j : Int) → j < N → g j = I j
/-- The rounds, so far. -/
structure LM (l : List UInt8) (s0 : S8) where
  i : Int
  s : S8
  h0 : 0 ≤ i
  h1 : i ≤ 64
  h2 : s = rounds l s0 i.toNat
/-- The words that are added, as the program holds them. -/
def KsAt (gg sz n : Nat) (get : Nat → List CV) : Prop := gg = 0 ∧ sz = 1 ∧ n = 64 ∧ (∀ i, i < 64 → get i = [.int .u32 (kOf i)])
theorem KsAt.same {gg sz n : Nat} {get : Nat → List CV} (h : KsAt gg sz n get) : hSame [.glob gg sz n get] [.glob 0 1 64 (fun i => [.int .u32 (kOf i)])] := by
  obtain ⟨rfl, rfl, rfl, h⟩ := h
  exact ⟨⟨rfl, rfl, rfl, h⟩, trivial⟩
def sMix : SpecF
  | [.agg [.int .u32 ha, .int .u32 hb, .int .u32 hc', .int .u32 hd, .int .u32 he, .int .u32 hf, .int .u32 hg, .int .u32 hh], .c (.str l)], [.glob gg sz n get] => some ((KsAt gg sz n get ∧ l.length = 64), .agg [.int .u32 (mixS ⟨ha, hb, hc', hd, he, hf, hg, hh⟩ l).a, .int .u32 (mixS ⟨ha, hb, hc', hd, he, hf, hg, hh⟩ l).b, .int .u32 (mixS ⟨ha, hb, hc', hd, he, hf, hg, hh⟩ l).c, .int .u32 (mixS ⟨ha, hb, hc', hd, he, hf, hg, hh⟩ l).d, .int .u32 (mixS ⟨ha, hb, hc', hd, he, hf, hg, hh⟩ l).e, .int .u32 (mixS ⟨ha, hb, hc', hd, he, hf, hg, hh⟩ l).f, .int .u32 (mixS ⟨ha, hb, hc', hd, he, hf, hg, hh⟩ l).g, .int .u32 (mixS ⟨ha, hb, hc', hd, he, hf, hg, hh⟩ l).h], [.dead])
  | _, _ => none

set_option maxRecDepth 100000 in
set_option maxHeartbeats 2000000 in
theorem mixP : Fn Tryd.prog 74 [0] [] sMix := by
  have hC : CtsOk Tryd.prog [(107, appPure sSpread), (108, appPure sTurn)] := CtsOk.cons (Pure.ct spreadP) <| CtsOk.cons (Pure.ct turnP) <| CtsOk.nil _
  refine Fn.of (E := tbC) [] 0 [(5, [(0, true), (1, true), (2, true), (3, true), (6, true), (7, true), (8, true), (9, true), (10, true), (11, true), (12, true), (13, true), (14, true), (15, true), (16, true), (17, true), (19, true), (20, true), (21, true), (23, true), (4, false), (5, true), (18, true), (22, true), (24, true), (25, true)]), (6, [(0, true), (1, true), (3, true), (4, true), (5, true), (6, true), (7, true), (8, true), (9, true), (10, true), (11, true), (12, true), (13, true), (14, true), (15, true), (16, true), (17, true), (18, true), (19, true), (2, false), (20, true), (21, true)]), (12, [(0, true), (1, true), (2, true), (3, true), (4, true), (5, true), (6, true), (7, true), (1008, false), (8, false)])] tbC_ok hC (by kernel_rfl) Tryd.func74 rfl rfl rfl (by kernel_rfl) (by kernel_rfl) 1 5 1 ?_ ?_
  · intro args h pre r h' hs
    unfold sMix at hs
    split at hs
    · cases hs; exact ⟨rfl, rfl, Nat.le_of_ble_eq_true rfl⟩
    · cases hs
  · intro args h pre r h' hs hp
    unfold sMix at hs
    split at hs
    rotate_left
    · cases hs
    rename_i ha hb hc' hd he hf hg hh l gg sz n get
    cases hs
    obtain ⟨hK, hl⟩ := hp
    refine ⟨_, hK.same, ?_⟩
    clear hK
    unfold sSpread sTurn
    generalize hg0 : schW = g0
    generalize hg1 : turn3 = g1
    generalize hg2 : kOf = g2
    generalize hg3 : (List.length : List UInt8 → Nat) = g3
    generalize hg4 : mixS = g4
    generalize hg5 : KsAt = g5
    generalize hL : lft Tryd.prog _ = L
    generalize hA : Arith.std = A
    cbv
    subst hA hg0 hg1 hg2 hg3 hg4 hg5 hL
    refine Need.mk hl fun _ => ?_
    show Runs Tryd.prog 1 (.loop _) _ _
    refine loop_ruleR (N := env (lft Tryd.prog 1) 0 .std tbC [(107, appPure sSpread), (108, appPure sTurn)] [(5, [(0, true), (1, true), (2, true), (3, true), (6, true), (7, true), (8, true), (9, true), (10, true), (11, true), (12, true), (13, true), (14, true), (15, true), (16, true), (17, true), (19, true), (20, true), (21, true), (23, true), (4, false), (5, true), (18, true), (22, true), (24, true), (25, true)]), (6, [(0, true), (1, true), (3, true), (4, true), (5, true), (6, true), (7, true), (8, true), (9, true), (10, true), (11, true), (12, true), (13, true), (14, true), (15, true), (16, true), (17, true), (18, true), (19, true), (2, false), (20, true), (21, true)]), (12, [(0, true), (1, true), (2, true), (3, true), (4, true), (5, true), (6, true), (7, true), (1008, false), (8, false)])]) rfl tbC_ok hC (fun c st K _ h => h) (by kernel_rfl) [] (X := LM l ⟨ha, hb, hc', hd, he, hf, hg, hh⟩)
      (S := fun x => ⟨[.any, .any, .c (.ptr 1 0), .any, .c (.ptr 2 0), .c (.ptr 3 0), .any, .any, .any, .any, .any, .any, .any, .agg [.int .u32 (schW l 0), .int .u32 (schW l 1), .int .u32 (schW l 2), .int .u32 (schW l 3), .int .u32 (schW l 4), .int .u32 (schW l 5), .int .u32 (schW l 6), .int .u32 (schW l 7), .int .u32 (schW l 8), .int .u32 (schW l 9), .int .u32 (schW l 10), .int .u32 (schW l 11), .int .u32 (schW l 12), .int .u32 (schW l 13), .int .u32 (schW l 14), .int .u32 (schW l 15), .int .u32 (schW l 16), .int .u32 (schW l 17), .int .u32 (schW l 18), .int .u32 (schW l 19), .int .u32 (schW l 20), .int .u32 (schW l 21), .int .u32 (schW l 22), .int .u32 (schW l 23), .int .u32 (schW l 24), .int .u32 (schW l 25), .int .u32 (schW l 26), .int .u32 (schW l 27), .int .u32 (schW l 28), .int .u32 (schW l 29), .int .u32 (schW l 30), .int .u32 (schW l 31), .int .u32 (schW l 32), .int .u32 (schW l 33), .int .u32 (schW l 34), .int .u32 (schW l 35), .int .u32 (schW l 36), .int .u32 (schW l 37), .int .u32 (schW l 38), .int .u32 (schW l 39), .int .u32 (schW l 40), .int .u32 (schW l 41), .int .u32 (schW l 42), .int .u32 (schW l 43), .int .u32 (schW l 44), .int .u32 (schW l 45), .int .u32 (schW l 46), .int .u32 (schW l 47), .int .u32 (schW l 48), .int .u32 (schW l 49), .int .u32 (schW l 50), .int .u32 (schW l 51), .int .u32 (schW l 52), .int .u32 (schW l 53), .int .u32 (schW l 54), .int .u32 (schW l 55), .int .u32 (schW l 56), .int .u32 (schW l 57), .int .u32 (schW l 58), .int .u32 (schW l 59), .int .u32 (schW l 60), .int .u32 (schW l 61), .int .u32 (schW l 62), .int .u32 (schW l 63)], .c (.int .i64 x.i)] ++ List.replicate 83 .any, [.glob 0 1 64 (fun i => [.int .u32 (kOf i)]), .cells 86 [.int .u32 ha, .int .u32 hb, .int .u32 hc', .int .u32 hd, .int .u32 he, .int .u32 hf, .int .u32 hg, .int .u32 hh], .cells 86 [.int .u32 0, .int .u32 0, .int .u32 0, .int .u32 0, .int .u32 0, .int .u32 0, .int .u32 0, .int .u32 0], .cells 86 [.int .u32 x.s.a, .int .u32 x.s.b, .int .u32 x.s.c, .int .u32 x.s.d, .int .u32 x.s.e, .int .u32 x.s.f, .int .u32 x.s.g, .int .u32 x.s.h]]⟩) (μ := fun x => 64 - x.i.toNat) ⟨0, ⟨ha, hb, hc', hd, he, hf, hg, hh⟩, by omega, by omega, rfl⟩ (by kernel_rfl) [0, 1, 2, 3] ?_ ?_
    · refine ⟨rfl, by decide, ?_, ?_⟩ <;> repeat' (first | exact trivial | exact rfl | apply And.intro)
    rintro ⟨i, ⟨a, b, c, d, e, f, g, h⟩, hi0, hin, hs⟩
    unfold sSpread sTurn
    generalize hg0 : schW = g0
    generalize hg1 : turn3 = g1
    generalize hg2 : kOf = g2
    generalize hg3 : (List.length : List UInt8 → Nat) = g3
    generalize hg4 : mixS = g4
    generalize hg5 : KsAt = g5
    generalize hL : lft Tryd.prog _ = L
    generalize hA : Arith.std = A
    cbv
    subst hA hg0 hg1 hg2 hg3 hg4 hg5 hL
    replace hi0 : 0 ≤ i := hi0
    replace hin : i ≤ 64 := hin
    refine Ife.mk (fun hlt => ?_) (fun hlt => ?_)
    · replace hlt : i < 64 := of_decide_eq_true (p := i < 64) hlt
      repeat refine Need.mk (by first | exact trivial | (simp only [Arith.std, fitStd]; omega) | (simp [Arith.std, fitStd]; omega)) fun _ => ?_
      refine ⟨⟨i + 1, rnd ⟨a, b, c, d, e, f, g, h⟩ (kOf i.toNat) (Arith.std.sel i.toNat ((List.range 64).map (schW l))), by omega, by omega, ?h2⟩, [0, 1, 2, 3], (by show 64 - (i + 1).toNat < 64 - i.toNat; omega), ?st⟩
      case st => refine ⟨rfl, by decide, ?_, ?_⟩ <;> repeat' (first | exact trivial | exact rfl | apply And.intro)
      case h2 =>
        rw [sel_range (schW l) 64 _ (by omega), show (i + 1).toNat = i.toNat + 1 by omega, hs]
        rfl
    · replace hlt : ¬ i < 64 := of_decide_eq_false (p := i < 64) hlt
      rw [show i.toNat = 64 by omega] at hs
      generalize hR : rounds l ⟨ha, hb, hc', hd, he, hf, hg, hh⟩ 64 = R at hs
      subst hs
      show Runs Tryd.prog 1 (.loop _) _ _
      refine loop_ruleR (N := env (lft Tryd.prog 1) 0 .std tbY [(107, appPure sSpread), (108, appPure sTurn)] [(5, [(0, true), (1, true), (2, true), (3, true), (6, true), (7, true), (8, true), (9, true), (10, true), (11, true), (12, true), (13, true), (14, true), (15, true), (16, true), (17, true), (19, true), (20, true), (21, true), (23, true), (4, false), (5, true), (18, true), (22, true), (24, true), (25, true)]), (6, [(0, true), (1, true), (3, true), (4, true), (5, true), (6, true), (7, true), (8, true), (9, true), (10, true), (11, true), (12, true), (13, true), (14, true), (15, true), (16, true), (17, true), (18, true), (19, true), (2, false), (20, true), (21, true)]), (12, [(0, true), (1, true), (2, true), (3, true), (4, true), (5, true), (6, true), (7, true), (1008, false), (8, false)])]) rfl tbY_ok hC (fun c st K _ h => h) (by kernel_rfl) [] (X := LFill 8 (fun j => addW (S8.at ⟨ha, hb, hc', hd, he, hf, hg, hh⟩ j) (S8.at ⟨a, b, c, d, e, f, g, h⟩ j)) (fun j => S8.at ⟨ha, hb, hc', hd, he, hf, hg, hh⟩ j))
        (S := fun x => ⟨[.any, .any, .c (.ptr 1 0), .any, .c (.ptr 2 0), .c (.ptr 3 0), .any, .any, .any, .any, .any, .any, .any, .any, .any, .any, .any, .any, .any, .any, .any, .any, .any, .any, .any, .any, .any, .any, .any, .any, .any, .any, .any, .any, .any, .any, .any, .any, .any, .any, .any, .any, .any, .any, .any, .any, .any, .any, .any, .any, .any, .any, .any, .any, .any, .any, .any, .any, .any, .any, .any, .any, .any, .any, .any, .any, .any, .any, .any, .any, .any, .any, .any, .any, .any, .any, .any, .any, .any, .any, .any, .any, .any, .any, .any, .c (.int .i64 x.i)] ++ List.replicate 12 .any, [.glob 0 1 64 (fun i => [.int .u32 (kOf i)]), .cells 86 [.int .u32 (x.g 0), .int .u32 (x.g 1), .int .u32 (x.g 2), .int .u32 (x.g 3), .int .u32 (x.g 4), .int .u32 (x.g 5), .int .u32 (x.g 6), .int .u32 (x.g 7)], .cells 86 [.int .u32 0, .int .u32 0, .int .u32 0, .int .u32 0, .int .u32 0, .int .u32 0, .int .u32 0, .int .u32 0], .cells 86 [.int .u32 a, .int .u32 b, .int .u32 c, .int .u32 d, .int .u32 e, .int .u32 f, .int .u32 g, .int .u32 h]]⟩) (μ := fun x => 8 - x.i.toNat) ⟨0, (fun j => S8.at ⟨ha, hb, hc', hd, he, hf, hg, hh⟩ j), by omega, by omega, fun j hj => absurd hj (by omega), fun j _ _ => rfl⟩ (by kernel_rfl) [0, 1, 2, 3] ?_ ?_
      · refine ⟨rfl, by decide, ?_, ?_⟩ <;> repeat' (first | exact trivial | exact rfl | apply And.intro)
      rintro ⟨i2, g2, hi02, hin2, hlo2, hhi2⟩
      unfold sSpread sTurn
      generalize hg0 : schW = g0
      generalize hg1 : turn3 = g1
      generalize hg2 : kOf = g2
      generalize hg3 : (List.length : List UInt8 → Nat) = g3
      generalize hg4 : mixS = g4
      generalize hg5 : KsAt = g5
      generalize hL : lft Tryd.prog _ = L
      generalize hA : Arith.std = A
      cbv
      subst hA hg0 hg1 hg2 hg3 hg4 hg5 hL
      replace hi02 : 0 ≤ i2 := hi02
      replace hin2 : i2 ≤ ((8 : Nat) : Int) := hin2
      replace hlo2 : ∀ j : Nat, (j : Int) < i2 → g2 j = (fun j => addW (S8.at ⟨ha, hb, hc', hd, he, hf, hg, hh⟩ j) (S8.at ⟨a, b, c, d, e, f, g, h⟩ j)) j := hlo2
      replace hhi2 : ∀ j : Nat, i2 ≤ (j : Int) → j < 8 → g2 j = (fun j => S8.at ⟨ha, hb, hc', hd, he, hf, hg, hh⟩ j) j := hhi2
      refine Ife.mk (fun hlt2 => ?_) (fun hlt2 => ?_)
      · replace hlt2 : i2 < (8 : Int) := of_decide_eq_true (p := i2 < (8 : Int)) hlt2
        repeat refine Need.mk (by first | exact trivial | (simp only [Arith.std, fitStd]; omega) | (simp [Arith.std, fitStd]; omega)) fun _ => ?_
        refine ⟨⟨i2 + 1, fun j => Arith.std.upd (i2.toNat) (j) ?v2 (g2 j), by omega, by omega, ?h2, ?h3⟩, [0, 1, 2, 3], (by show 8 - (i2 + 1).toNat < 8 - i2.toNat; omega), ?st⟩
        case st => refine ⟨rfl, by decide, ?_, ?_⟩ <;> repeat' (first | exact trivial | exact rfl | apply And.intro)
        case h3 =>
          intro j hj hj2
          show (if i2.toNat = j then _ else g2 j) = _
          rw [if_neg (by omega)]
          exact hhi2 j (by omega) hj2
        case h2 =>
          intro j hj
          show (if i2.toNat = j then _ else g2 j) = _
          by_cases hji : i2.toNat = j
          · rw [if_pos hji]
            obtain rfl : j = i2.toNat := by omega
            clear hji hj
            show addW (Arith.std.sel i2.toNat [g2 0, g2 1, g2 2, g2 3, g2 4, g2 5, g2 6, g2 7]) (Arith.std.sel i2.toNat [a, b, c, d, e, f, g, h]) = _
            rw [sel8 g2 _ (by omega), hhi2 _ (by omega) (by omega)]
            rfl
          · rw [if_neg hji]
            exact hlo2 j (by omega)
      · replace hlt2 : ¬ i2 < (8 : Int) := of_decide_eq_false (p := i2 < (8 : Int)) hlt2
        have hq2 : ∀ k : Nat, k < 8 → g2 k = (fun j => addW (S8.at ⟨ha, hb, hc', hd, he, hf, hg, hh⟩ j) (S8.at ⟨a, b, c, d, e, f, g, h⟩ j)) k := fun k hk => hlo2 k (by omega)
        have hm : mixS ⟨ha, hb, hc', hd, he, hf, hg, hh⟩ l = ⟨addW ha a, addW hb b, addW hc' c, addW hd d, addW he e, addW hf f, addW hg g, addW hh h⟩ := by
          unfold mixS
          rw [hR]
        rw [hm]
        rw [hq2 0 (by decide), hq2 1 (by decide), hq2 2 (by decide), hq2 3 (by decide), hq2 4 (by decide), hq2 5 (by decide), hq2 6 (by decide), hq2 7 (by decide)]
        exact ⟨[0], ⟨rfl, by repeat' (first | exact trivial | exact rfl | apply And.intro), by decide, rfl, by repeat' (first | exact trivial | exact rfl | apply And.intro)⟩⟩
    

end Go.Proofs.YtophhppklaofaaaDoor.Vx
