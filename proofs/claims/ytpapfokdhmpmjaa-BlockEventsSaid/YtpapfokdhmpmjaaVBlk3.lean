/- Blocks decoded, by the walker. -/
import Derived.Test.YtpapfokdhmpmjaaCodecBl
import Derived.Test.YtpapfokdhmpmjaaVxBorn
namespace Go.Proofs.Ytpapfokdhmpmjaa
open Go.RowKit
set_option linter.unusedVariables false
set_option linter.unusedSimpArgs false

theorem ok_evT {l : List UInt8} {a b : Int} (h : okRd l a b) : okRd l (rText 1000 l (a, b)).2.1 (rText 1000 l (a, b)).2.2 := ok_text h
theorem count_range (l : List UInt8) (a b : Int) : 0 ≤ (countS l a b 1073741824).1 ∧ (countS l a b 1073741824).1 ≤ 1073741824 := by
  have := Leb.next_range l a
  unfold countS
  split
  · exact ⟨by dsimp only; omega, by dsimp only; omega⟩
  · split
    · exact ⟨by dsimp only; omega, by dsimp only; omega⟩
    · split
      · exact ⟨by dsimp only; omega, by dsimp only; omega⟩
      · dsimp only; omega
theorem count_bad {l : List UInt8} {a b : Int} (h : (countS l a b 1073741824).2.2 ≠ 0) : (countS l a b 1073741824).1 = 0 := by
  unfold countS at h ⊢
  split at h
  · rename_i h1; rw [if_pos h1]
  · rename_i h1
    rw [if_neg h1]
    split at h
    · rename_i h2; rw [if_pos h2]
    · rename_i h2
      rw [if_neg h2]
      split at h
      · rename_i h3; rw [if_pos h3]
      · exact absurd rfl h
theorem text_okb {l : List UInt8} {a b hi : Int} (h : (textS l a b hi).2.2 = 0) : b = 0 := by
  unfold textS at h
  split at h
  · rename_i h1; exact absurd h h1
  · rename_i h1; exact Decidable.byContradiction h1

namespace Vx
theorem rBl_eq (l : List UInt8) : rBl l (0, 0) = (⟨(textS l 0 0 12).1, (numS l (textS l 0 0 12).2.1 (textS l 0 0 12).2.2 1 1099511627776).1, (numS l (numS l (textS l 0 0 12).2.1 (textS l 0 0 12).2.2 1 1099511627776).2.1 (numS l (textS l 0 0 12).2.1 (textS l 0 0 12).2.2 1 1099511627776).2.2 0 1099511627776).1,
    (repR rEvT (countS l (numS l (numS l (textS l 0 0 12).2.1 (textS l 0 0 12).2.2 1 1099511627776).2.1 (numS l (textS l 0 0 12).2.1 (textS l 0 0 12).2.2 1 1099511627776).2.2 0 1099511627776).2.1 (numS l (numS l (textS l 0 0 12).2.1 (textS l 0 0 12).2.2 1 1099511627776).2.1 (numS l (textS l 0 0 12).2.1 (textS l 0 0 12).2.2 1 1099511627776).2.2 0 1099511627776).2.2 1073741824).1.toNat l (countS l (numS l (numS l (textS l 0 0 12).2.1 (textS l 0 0 12).2.2 1 1099511627776).2.1 (numS l (textS l 0 0 12).2.1 (textS l 0 0 12).2.2 1 1099511627776).2.2 0 1099511627776).2.1 (numS l (numS l (textS l 0 0 12).2.1 (textS l 0 0 12).2.2 1 1099511627776).2.1 (numS l (textS l 0 0 12).2.1 (textS l 0 0 12).2.2 1 1099511627776).2.2 0 1099511627776).2.2 1073741824).2).1⟩,
    (repR rEvT (countS l (numS l (numS l (textS l 0 0 12).2.1 (textS l 0 0 12).2.2 1 1099511627776).2.1 (numS l (textS l 0 0 12).2.1 (textS l 0 0 12).2.2 1 1099511627776).2.2 0 1099511627776).2.1 (numS l (numS l (textS l 0 0 12).2.1 (textS l 0 0 12).2.2 1 1099511627776).2.1 (numS l (textS l 0 0 12).2.1 (textS l 0 0 12).2.2 1 1099511627776).2.2 0 1099511627776).2.2 1073741824).1.toNat l (countS l (numS l (numS l (textS l 0 0 12).2.1 (textS l 0 0 12).2.2 1 1099511627776).2.1 (numS l (textS l 0 0 12).2.1 (textS l 0 0 12).2.2 1 1099511627776).2.2 0 1099511627776).2.1 (numS l (numS l (textS l 0 0 12).2.1 (textS l 0 0 12).2.2 1 1099511627776).2.1 (numS l (textS l 0 0 12).2.1 (textS l 0 0 12).2.2 1 1099511627776).2.2 0 1099511627776).2.2 1073741824).2).2) := rfl
theorem zeroEv_fits : zeroEv.fits := ⟨⟨by simp [zeroEv, zeroPkt], by simp [zeroEv, zeroPkt], by simp [zeroEv, zeroPkt]⟩, by simp [zeroEv], by simp [zeroEv]⟩
theorem decEv_fits {l : List UInt8} (h : l.length ≤ 140737488351232) : (decEv l).1.fits := by
  rw [decEv_eq]
  split
  · exact zeroEv_fits
  · split
    · exact rEv_fits h
    · exact zeroEv_fits
/-- A decoded block's events, as elements. -/
def evGet (xs : List Ev) (i : Nat) : List CV := evC (xs.getD i zeroEv)
theorem evGet_push (xs : List Ev) (x : Ev) : ∀ i, i < xs.length + 1 → pushG xs.length (evGet xs) (evC x) i = evGet (xs ++ [x]) i := fun i hi => by
  rcases Nat.lt_or_ge i xs.length with h | h
  · rw [pushG_lt h]
    simp [evGet, List.getD, h, List.getElem?_append_left h]
  · have : i = xs.length := by omega
    subst this
    rw [pushG_eq]
    simp [evGet, List.getD]
/-- What stands at the head of the loop. -/
structure LD (l : List UInt8) (n : Nat) (s0 : Int × Int) where
  i : Int
  a : Int
  b : Int
  xs : List Ev
  h0 : 0 ≤ i
  h1 : i ≤ (n : Int)
  hx : xs.length = i.toNat
  hb : b ≠ 0 → n = 0
  ok : okRd l a b
  e : repR rEvT n l s0 = (xs ++ (repR rEvT (n - i.toNat) l (a, b)).1, (repR rEvT (n - i.toNat) l (a, b)).2)
  f : ∀ x ∈ xs, x.fits
def sDecBl : SpecB
  | [.c (.str l)], [] => some (l.length ≤ 140737488351232, .tup [(none, [.str (decBl l).1.chain, .int .i64 (decBl l).1.height, .int .i64 (decBl l).1.time, .row 0]), (some (.int .i64 (decBl l).2), [])], [.row 27 13 (decBl l).1.evs.length (evGet (decBl l).1.evs)])
  | _, _ => none

theorem evsOf_evGet (xs : List Ev) : evsOf xs.length (evGet xs) = xs := by
  apply List.ext_getElem
  · simp [evsOf]
  · intro i h1 h2
    have h3 : i < xs.length := h2
    simp [evsOf, evGet, List.getD, h3]
    rfl
theorem evGet_at {xs : List Ev} (h : ∀ x ∈ xs, x.fits) : EvsAt xs.length (evGet xs) := fun i hi => ⟨xs.getD i zeroEv, rfl, h _ (by
  have : xs.getD i zeroEv = xs[i] := by simp [List.getD, hi]
  rw [this]
  exact List.getElem_mem hi)⟩
theorem left_err {v : SV} {h : List Ent} {l : List UInt8} {E : Int} {k : Nat} (hk : h.length = k) (hD : decBl l = (zeroBl, E)) (hv : v = .tup [(none, [.str [], .int .i64 0, .int .i64 0, .val (.slice none 0 0)]), (some (.int .i64 E), [])]) :
    ∃ σ, Left 27 13 σ v h (.tup [(none, [.str (decBl l).1.chain, .int .i64 (decBl l).1.height, .int .i64 (decBl l).1.time, .row 0]), (some (.int .i64 (decBl l).2), [])]) [.row 27 13 (decBl l).1.evs.length (evGet (decBl l).1.evs)] := by
  subst hk hv
  rw [hD]
  refine ⟨[h.length], rfl, ?_, by simp, ?_, trivial⟩
  · refine ⟨⟨rfl, ⟨rfl, rfl⟩, ⟨rfl, rfl⟩, rfl, trivial⟩, ⟨rfl, rfl⟩, trivial⟩
  · simp only [List.getElem?_append_right (Nat.le_refl _), Nat.sub_self]
    exact ⟨rfl, rfl, rfl, fun i hi => absurd hi (by simp [zeroBl])⟩
theorem dec_err {l : List UInt8} {B : Bl} {s : Int × Int} (hR : rBl l (0, 0) = (B, s)) {E : Int} (hE : endS l s.1 s.2 = E) (h0 : E ≠ 0) : decBl l = (zeroBl, E) := by
  unfold decBl decOf
  rw [hR]
  dsimp only
  rw [hE, if_pos h0]
theorem dec_may {l : List UInt8} {B : Bl} {s : Int × Int} (hR : rBl l (0, 0) = (B, s)) (hE : endS l s.1 s.2 = 0) : decBl l = if mayBl B then (B, 0) else (zeroBl, 1) := by
  unfold decBl decOf
  rw [hR]
  dsimp only
  rw [hE, if_neg (by simp)]
theorem end_bad {l : List UInt8} {a b : Int} (h : b ≠ 0) : endS l a b = b := by
  unfold endS
  rw [if_neg (by simp [h])]
theorem rep_step (n : Nat) (l : List UInt8) (s : Int × Int) (h : (rEvT l s).2.2 ≠ 0) : (repR rEvT (n + 1) l s).2 = (rEvT l s).2 := repR_stick codecEvT n l _ h
set_option maxRecDepth 100000 in
set_option maxHeartbeats 2000000 in
theorem decBlP : Born Try.prog 21 13 sDecBl := by
  have hC : CtsOk Try.prog [(41, appMakes 86 sOf), (42, appMeth 86 sRdText), (43, appMeth 86 sRdNum), (48, appMeth 86 sCount), (44, appMeth 86 sRdErr), (47, appMeth 86 sRdEnd), (20, appPure sDec), (17, appRds 13 sMayBl)] := CtsOk.cons (Makes.ct ofP) <| CtsOk.cons (Meth.ct rdTextP) <| CtsOk.cons (Meth.ct rdNumP) <| CtsOk.cons (Meth.ct rdCountP) <| CtsOk.cons (Meth.ct rdErrP) <| CtsOk.cons (Meth.ct rdEndP) <| CtsOk.cons (Pure.ct decP) <| CtsOk.cons (Rds.ct mayBlP) <| CtsOk.nil _
  refine Born.of (E := tb) [] 0 [] tb_ok hC (by kernel_rfl) Try.func21 rfl rfl rfl (by kernel_rfl) (by kernel_rfl) 27 0 27 13 ?_ ?_
  · intro args vs pre r es h
    unfold sDecBl at h
    split at h
    · cases h; exact ⟨rfl, rfl⟩
    · cases h
  · intro args vs pre r es h hp
    unfold sDecBl at h
    split at h
    rotate_left
    · cases h
    rename_i l
    cases h
    refine ⟨[], SameV.refl _, ?_⟩
    unfold sOf sRdText sRdNum sCount sRdErr sRdEnd sDec sMayBl
    generalize hg0 : textS = g0
    generalize hg1 : numS = g1
    generalize hg2 : countS = g2
    generalize hg3 : okRd = g3
    generalize hg4 : endS = g4
    generalize hg5 : decEv = g5
    generalize hg6 : decBl = g6
    generalize hg7 : mayBl = g7
    generalize hg8 : BlAt = g8
    generalize hg9 : evsOf = g9
    generalize hg10 : evGet = g10
    generalize hg11 : (pushG) = g11
    generalize hg12 : (List.length : List UInt8 → Nat) = g12
    generalize hg13 : (List.length : List Ev → Nat) = g13
    generalize hL : lft Try.prog _ = L
    generalize hA : Arith.std = A
    cbv
    subst hA hg0 hg1 hg2 hg3 hg4 hg5 hg6 hg7 hg8 hg9 hg10 hg11 hg12 hg13 hL
    have h0 : okRd l 0 0 := ok_start hp
    refine Need.mk trivial fun _ => ?_
    refine Need.mk h0 fun _ => ?_
    have h1 := ok_text (hi := 12) h0
    refine Need.mk h1 fun _ => ?_
    have h2 := ok_num (lo := 1) (hi := 1099511627776) h1
    refine Need.mk h2 fun _ => ?_
    have h3 := ok_num (lo := 0) (hi := 1099511627776) h2
    refine Need.mk h3 fun _ => ?_
    have h4 := ok_count (hi := 1073741824) h3
    have hcl := text_len l 0 0 12
    have hR := rBl_eq l
    generalize textS l 0 0 12 = t1 at *
    generalize numS l t1.2.1 t1.2.2 1 1099511627776 = t2 at *
    generalize numS l t2.2.1 t2.2.2 0 1099511627776 = t3 at *
    have hrg := count_range l t3.2.1 t3.2.2
    have hbd := @count_bad l t3.2.1 t3.2.2
    generalize countS l t3.2.1 t3.2.2 1073741824 = t4 at *
    obtain ⟨N, A0, B0⟩ := t4
    dsimp only at *
    show Runs Try.prog 0 (.loop _) _ _
    refine Runs.nilCell 2 3 27 13 (evGet []) rfl rfl ?_
    refine loop_ruleR (N := env (lft Try.prog 0) 0 .std tb [(41, appMakes 86 sOf), (42, appMeth 86 sRdText), (43, appMeth 86 sRdNum), (48, appMeth 86 sCount), (44, appMeth 86 sRdErr), (47, appMeth 86 sRdEnd), (20, appPure sDec), (17, appRds 13 sMayBl)] []) rfl tb_ok hC (fun c st K _ h => h) (by kernel_rfl) [] (X := LD l N.toNat (A0, B0))
      (S := fun x => ⟨[.any, .any, .c (.ptr 0 0), .c (.int .i64 0), .c (.ptr 1 0), .c (.ptr 2 0)] ++ List.replicate 16 .any ++ [.c (.int .i64 N), .c (.int .i64 x.i)] ++ List.replicate 33 .any, [.cells 40 [.str [], .int .i64 0, .int .i64 0, .val (.slice none 0 0)], .cells 86 [.str l, .int .i64 x.a, .int .i64 x.b], .cells 40 [.str t1.1, .int .i64 t2.1, .int .i64 t3.1, .row 3], .row 27 13 x.xs.length (evGet x.xs)]⟩) (μ := fun x => N.toNat - x.i.toNat) ⟨0, A0, B0, [], by omega, by omega, rfl, fun h => by rw [hbd h]; rfl, h4, by simp, by simp⟩ (by kernel_rfl) [0, 1, 2, 3] ?_ ?_
    · refine ⟨rfl, by decide, ?_, ?_⟩
      · repeat' (first | exact trivial | exact rfl | apply And.intro)
      · repeat' (first | exact trivial | exact rfl | apply And.intro)
        all_goals first | (intro i hi; rfl) | skip
    rintro ⟨i, a, b, xs, hi0, hin, hxl, hb0, hok, he, hf⟩
    unfold sOf sRdText sRdNum sCount sRdErr sRdEnd sDec sMayBl
    generalize hg0 : textS = g0
    generalize hg1 : numS = g1
    generalize hg2 : countS = g2
    generalize hg3 : okRd = g3
    generalize hg4 : endS = g4
    generalize hg5 : decEv = g5
    generalize hg6 : decBl = g6
    generalize hg7 : mayBl = g7
    generalize hg8 : BlAt = g8
    generalize hg9 : evsOf = g9
    generalize hg10 : evGet = g10
    generalize hg11 : (pushG) = g11
    generalize hg12 : (List.length : List UInt8 → Nat) = g12
    generalize hg13 : (List.length : List Ev → Nat) = g13
    generalize hL : lft Try.prog _ = L
    generalize hA : Arith.std = A
    cbv
    subst hA hg0 hg1 hg2 hg3 hg4 hg5 hg6 hg7 hg8 hg9 hg10 hg11 hg12 hg13 hL
    replace hin : i ≤ (N.toNat : Int) := hin
    replace hxl : xs.length = i.toNat := hxl
    replace hok : okRd l a b := hok
    refine Ife.mk (fun h => ?_) (fun h => ?_)
    · have hlt : i < N := of_decide_eq_true (p := i < N) h
      have hb : b = 0 := Decidable.byContradiction fun hb => by have := hb0 hb; omega
      obtain ⟨m, hm⟩ : ∃ m, N.toNat - i.toNat = m + 1 := ⟨N.toNat - i.toNat - 1, by omega⟩
      rw [hm] at he
      refine Need.mk hok fun _ => ?_
      refine Need.mk trivial fun _ => ?_
      have hok2 := ok_text (hi := 1000) hok
      have htl := text_len l a b 1000
      refine Ife.mk (fun h => ?_) (fun h => ?_)
      · have ht : (textS l a b 1000).2.2 ≠ 0 := by simpa [Arith.std] using h
        have hev : rEvT l (a, b) = (zeroEv, (textS l a b 1000).2) := by unfold rEvT rText; rw [if_pos ht]
        have hs := rep_step m l (a, b) (by rw [hev]; exact ht)
        rw [hev] at hs
        have hE := end_bad (l := l) (a := (textS l a b 1000).2.1) ht
        have hD := dec_err hR (by rw [he]; dsimp only; rw [hs]; exact hE) ht
        refine Need.mk hok2 fun _ => ?_
        refine Ife.mk (fun h => ?_) (fun h => ?_)
        · rw [hE]
          exact left_err rfl hD rfl
        · have h : endS l (textS l a b 1000).2.1 (textS l a b 1000).2.2 = 0 := by simpa [Arith.std] using h
          exact absurd (hE.symm.trans h) ht
      · have ht : (textS l a b 1000).2.2 = 0 := by simpa [Arith.std] using h
        refine Need.mk (show _ ≤ _ from Nat.le_trans htl hp) fun _ => ?_
        refine Ife.mk (fun h => ?_) (fun h => ?_)
        · have hd : (decEv (textS l a b 1000).1).2 ≠ 0 := by simpa [Arith.std] using h
          have hev : rEvT l (a, b) = (zeroEv, ((textS l a b 1000).2.1, (decEv (textS l a b 1000).1).2)) := by unfold rEvT rText; rw [if_neg (by simp [ht]), if_pos hd]
          have hs := rep_step m l (a, b) (by rw [hev]; exact hd)
          rw [hev] at hs
          have hD := dec_err hR (by rw [he]; dsimp only; rw [hs]; exact end_bad hd) hd
          exact left_err rfl hD rfl
        · have hd : (decEv (textS l a b 1000).1).2 = 0 := by simpa [Arith.std] using h
          have hev : rEvT l (a, b) = ((decEv (textS l a b 1000).1).1, (textS l a b 1000).2) := by unfold rEvT rText; rw [if_neg (by simp [ht]), if_neg (by simp [hd])]
          refine Need.mk (show xs.length + 1 ≤ maxLen ∧ (xs.length + 1) * _ ≤ 140737488355328 from ⟨by unfold maxLen; omega, by omega⟩) fun _ => ?_
          refine Need.mk (show -9223372036854775808 ≤ i + 1 ∧ i + 1 ≤ 9223372036854775807 by omega) fun _ => ?_
          refine ⟨⟨i + 1, (textS l a b 1000).2.1, (textS l a b 1000).2.2, xs ++ [(decEv (textS l a b 1000).1).1], by omega, by omega, by simp; omega, fun h => absurd ht h, hok2, ?_, ?_⟩, [0, 1, 2, 6], by show N.toNat - (i + 1).toNat < N.toNat - i.toNat; omega, ?_⟩
          · have e1 : N.toNat - (i + 1).toNat = m := by omega
            rw [e1, he]
            show (xs ++ (rEvT l (a, b)).1 :: (repR rEvT m l (rEvT l (a, b)).2).1, (repR rEvT m l (rEvT l (a, b)).2).2) = _
            rw [hev]
            simp
          · intro x hx
            rcases List.mem_append.1 hx with hx | hx
            · exact hf x hx
            · rw [List.mem_singleton] at hx
              subst hx
              exact decEv_fits (Nat.le_trans htl hp)
          · refine ⟨rfl, by decide, ?_, ?_⟩
            · repeat' (first | exact trivial | exact rfl | apply And.intro)
            · repeat' (first | exact trivial | exact rfl | apply And.intro)
              · simp
              · intro i hi
                exact evGet_push _ _ i (by simpa using hi)
    · have hnlt : ¬ i < N := of_decide_eq_false (p := i < N) h
      have ei : N.toNat - i.toNat = 0 := by omega
      rw [ei] at he
      have he : repR rEvT N.toNat l (A0, B0) = (xs, (a, b)) := by rw [he]; simp [repR]
      rw [he] at hR
      dsimp only at hR
      refine Need.mk hok fun _ => ?_
      refine Ife.mk (fun h => ?_) (fun h => ?_)
      · have hE : endS l a b ≠ 0 := by simpa [Arith.std] using h
        exact left_err rfl (dec_err hR rfl hE) rfl
      · have hE : endS l a b = 0 := by simpa [Arith.std] using h
        have hM := dec_may hR hE
        refine Need.mk ⟨Nat.le_trans hcl (Nat.le_trans hp (by decide)), evGet_at hf, show xs.length ≤ _ by omega⟩ fun _ => ?_
        rw [evsOf_evGet]
        refine Ife.mk (fun h => ?_) (fun h => ?_)
        · have h : mayBl ⟨t1.1, t2.1, t3.1, xs⟩ = false := by simpa [Arith.std] using h
          rw [if_neg (by simp [h])] at hM
          exact left_err rfl hM rfl
        · have h : mayBl ⟨t1.1, t2.1, t3.1, xs⟩ = true := by simpa [Arith.std] using h
          rw [if_pos h] at hM
          rw [hM]
          refine ⟨[3], rfl, ?_, by simp, ?_, trivial⟩
          · refine ⟨⟨rfl, ⟨rfl, rfl⟩, ⟨rfl, rfl⟩, rfl, trivial⟩, ⟨rfl, rfl⟩, trivial⟩
          · exact ⟨rfl, rfl, rfl, fun i hi => rfl⟩

end Vx
end Go.Proofs.Ytpapfokdhmpmjaa
