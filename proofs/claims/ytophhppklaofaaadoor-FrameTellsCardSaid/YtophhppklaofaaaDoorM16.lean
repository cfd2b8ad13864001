/- Sums as texts, in digits, and in order, by the walker. -/
import Derived.Test.YtophhppklaofaaaDoorM15
import Derived.Test.YtophhppklaofaaaDoorShelf
section
namespace Go.Proofs.YtophhppklaofaaaDoor.Vx
open Go.RowKit Sha
set_option linter.unusedVariables false
set_option linter.unusedSimpArgs false

/-- A sum's bytes, as cells. -/
def hashC (f : Nat → Int) : List CV := [.int .u8 (f 0), .int .u8 (f 1), .int .u8 (f 2), .int .u8 (f 3), .int .u8 (f 4), .int .u8 (f 5), .int .u8 (f 6), .int .u8 (f 7), .int .u8 (f 8), .int .u8 (f 9), .int .u8 (f 10), .int .u8 (f 11), .int .u8 (f 12), .int .u8 (f 13), .int .u8 (f 14), .int .u8 (f 15), .int .u8 (f 16), .int .u8 (f 17), .int .u8 (f 18), .int .u8 (f 19), .int .u8 (f 20), .int .u8 (f 21), .int .u8 (f 22), .int .u8 (f 23), .int .u8 (f 24), .int .u8 (f 25), .int .u8 (f 26), .int .u8 (f 27), .int .u8 (f 28), .int .u8 (f 29), .int .u8 (f 30), .int .u8 (f 31)]
def HashC (xs : List CV) : Prop := ∃ f : Nat → Int, xs = hashC f ∧ ∀ i, 0 ≤ f i ∧ f i < 256
/-- Cells as bytes. -/
def u8s (xs : List CV) : List UInt8 := xs.map fun c => byteOf [c]
def hashB (f : Nat → Int) : List UInt8 := (List.range 32).map fun i => UInt8.ofNat (f i).toNat
theorem hashB_len (f : Nat → Int) : (hashB f).length = 32 := by simp [hashB]
theorem hashC_sum (l : List UInt8) : HashC (hashC (sumI l)) := ⟨sumI l, rfl, sumI_range l⟩
def digs : List UInt8 := [48, 49, 50, 51, 52, 53, 54, 55, 56, 57, 97, 98, 99, 100, 101, 102]
def sText : List SV → Option (Prop × SV)
  | [.agg xs] => some (HashC xs, .c (.str (u8s xs)))
  | _ => none

set_option maxRecDepth 100000 in
set_option maxHeartbeats 2000000 in
theorem textP : Pure Tryd.prog 21 sText := by
  have hC : CtsOk Tryd.prog [] := CtsOk.nil _
  refine Pure.of (E := tbC) (C := []) [] 0 [] tbC_ok hC (by kernel_rfl) Tryd.func21 rfl rfl rfl (by kernel_rfl) (by kernel_rfl) ?_ ?_
  · intro args pre r h
    unfold sText at h
    split at h
    · cases h; rfl
    · cases h
  · intro args pre r h hp
    unfold sText at h
    split at h
    rotate_left
    · cases h
    rename_i xs
    cases h
    obtain ⟨f, rfl, hf⟩ := hp
    unfold hashC
    generalize hg0 : u8s = g0
    generalize hA : Arith.std = A
    cbv
    subst hA hg0
    rfl

set_option maxRecDepth 100000 in
set_option maxHeartbeats 2000000 in
theorem rtextP : Pure Tryd.prog 22 sText := by
  have hC : CtsOk Tryd.prog [] := CtsOk.nil _
  refine Pure.of (E := tbY) (C := []) [] 0 [] tbY_ok hC (by kernel_rfl) Tryd.func22 rfl rfl rfl (by kernel_rfl) (by kernel_rfl) ?_ ?_
  · intro args pre r h
    unfold sText at h
    split at h
    · cases h; rfl
    · cases h
  · intro args pre r h hp
    unfold sText at h
    split at h
    rotate_left
    · cases h
    rename_i xs
    cases h
    obtain ⟨f, rfl, hf⟩ := hp
    unfold hashC
    generalize hg0 : u8s = g0
    generalize hL : lft Tryd.prog _ = L
    generalize hA : Arith.std = A
    cbv
    subst hA hg0 hL
    show Runs Tryd.prog 0 (.loop _) _ _
    refine loop_ruleR (N := env (lft Tryd.prog 0) 0 .std tbY [] []) rfl tbY_ok hC (fun c st K _ h => h) (by kernel_rfl) [] (X := LFill 32 f (fun _ => 0))
      (S := fun x => ⟨[.any, .c (.ptr 0 0), .any, .c (.sl 1 0 32 32), .c (.int .i64 x.i)] ++ List.replicate 13 .any, [.cells 24 [.int .u8 (f 0), .int .u8 (f 1), .int .u8 (f 2), .int .u8 (f 3), .int .u8 (f 4), .int .u8 (f 5), .int .u8 (f 6), .int .u8 (f 7), .int .u8 (f 8), .int .u8 (f 9), .int .u8 (f 10), .int .u8 (f 11), .int .u8 (f 12), .int .u8 (f 13), .int .u8 (f 14), .int .u8 (f 15), .int .u8 (f 16), .int .u8 (f 17), .int .u8 (f 18), .int .u8 (f 19), .int .u8 (f 20), .int .u8 (f 21), .int .u8 (f 22), .int .u8 (f 23), .int .u8 (f 24), .int .u8 (f 25), .int .u8 (f 26), .int .u8 (f 27), .int .u8 (f 28), .int .u8 (f 29), .int .u8 (f 30), .int .u8 (f 31)], .cells 5 [.int .u8 (x.g 0), .int .u8 (x.g 1), .int .u8 (x.g 2), .int .u8 (x.g 3), .int .u8 (x.g 4), .int .u8 (x.g 5), .int .u8 (x.g 6), .int .u8 (x.g 7), .int .u8 (x.g 8), .int .u8 (x.g 9), .int .u8 (x.g 10), .int .u8 (x.g 11), .int .u8 (x.g 12), .int .u8 (x.g 13), .int .u8 (x.g 14), .int .u8 (x.g 15), .int .u8 (x.g 16), .int .u8 (x.g 17), .int .u8 (x.g 18), .int .u8 (x.g 19), .int .u8 (x.g 20), .int .u8 (x.g 21), .int .u8 (x.g 22), .int .u8 (x.g 23), .int .u8 (x.g 24), .int .u8 (x.g 25), .int .u8 (x.g 26), .int .u8 (x.g 27), .int .u8 (x.g 28), .int .u8 (x.g 29), .int .u8 (x.g 30), .int .u8 (x.g 31)]]⟩) (μ := fun x => 32 - x.i.toNat) ⟨0, (fun _ => 0), by omega, by omega, fun j hj => absurd hj (by omega), fun j _ _ => rfl⟩ (by kernel_rfl) [0, 1] ?_ ?_
    · refine ⟨rfl, by decide, ?_, ?_⟩ <;> repeat' (first | exact trivial | exact rfl | apply And.intro)
    rintro ⟨i, g, hi0, hin, hlo, hhi⟩
    generalize hg0 : u8s = g0
    generalize hL : lft Tryd.prog _ = L
    generalize hA : Arith.std = A
    cbv
    subst hA hg0 hL
    replace hi0 : 0 ≤ i := hi0
    replace hin : i ≤ ((32 : Nat) : Int) := hin
    replace hlo : ∀ j : Nat, (j : Int) < i → g j = f j := hlo
    replace hhi : ∀ j : Nat, i ≤ (j : Int) → j < 32 → g j = (fun _ => 0) j := hhi
    refine Ife.mk (fun hlt => ?_) (fun hlt => ?_)
    · replace hlt : i < (32 : Int) := of_decide_eq_true (p := i < (32 : Int)) hlt
      repeat refine Need.mk (by first | exact trivial | (simp only [Arith.std, fitStd]; omega) | (simp [Arith.std, fitStd]; omega)) fun _ => ?_
      refine ⟨⟨i + 1, fun j => Arith.std.upd (i.toNat) (j) ?fv (g j), by omega, by omega, ?h2, ?h3⟩, [0, 1], (by show 32 - (i + 1).toNat < 32 - i.toNat; omega), ?st⟩
      case st => refine ⟨rfl, by decide, ?_, ?_⟩ <;> repeat' (first | exact trivial | exact rfl | apply And.intro)
      case h3 =>
        intro j hj hj2
        show (if i.toNat = j then _ else g j) = _
        rw [if_neg (by omega)]
        exact hhi j (by omega) hj2
      case h2 =>
        intro j hj
        show (if i.toNat = j then _ else g j) = _
        by_cases hji : i.toNat = j
        · rw [if_pos hji]
          obtain rfl : j = i.toNat := by omega
          clear hji hj
          show Arith.std.sel i.toNat [f 0, f 1, f 2, f 3, f 4, f 5, f 6, f 7, f 8, f 9, f 10, f 11, f 12, f 13, f 14, f 15, f 16, f 17, f 18, f 19, f 20, f 21, f 22, f 23, f 24, f 25, f 26, f 27, f 28, f 29, f 30, f 31] = f i.toNat
          exact sel_range f 32 _ (by omega)
        · rw [if_neg hji]
          exact hlo j (by omega)
    · replace hlt : ¬ i < (32 : Int) := of_decide_eq_false (p := i < (32 : Int)) hlt
      have hq : ∀ k : Nat, k < 32 → g k = f k := fun k hk => hlo k (by omega)
      show [UInt8.ofNat (g 0).toNat, UInt8.ofNat (g 1).toNat, UInt8.ofNat (g 2).toNat, UInt8.ofNat (g 3).toNat, UInt8.ofNat (g 4).toNat, UInt8.ofNat (g 5).toNat, UInt8.ofNat (g 6).toNat, UInt8.ofNat (g 7).toNat, UInt8.ofNat (g 8).toNat, UInt8.ofNat (g 9).toNat, UInt8.ofNat (g 10).toNat, UInt8.ofNat (g 11).toNat, UInt8.ofNat (g 12).toNat, UInt8.ofNat (g 13).toNat, UInt8.ofNat (g 14).toNat, UInt8.ofNat (g 15).toNat, UInt8.ofNat (g 16).toNat, UInt8.ofNat (g 17).toNat, UInt8.ofNat (g 18).toNat, UInt8.ofNat (g 19).toNat, UInt8.ofNat (g 20).toNat, UInt8.ofNat (g 21).toNat, UInt8.ofNat (g 22).toNat, UInt8.ofNat (g 23).toNat, UInt8.ofNat (g 24).toNat, UInt8.ofNat (g 25).toNat, UInt8.ofNat (g 26).toNat, UInt8.ofNat (g 27).toNat, UInt8.ofNat (g 28).toNat, UInt8.ofNat (g 29).toNat, UInt8.ofNat (g 30).toNat, UInt8.ofNat (g 31).toNat] = u8s (hashC f)
      rw [hq 0 (by decide), hq 1 (by decide), hq 2 (by decide), hq 3 (by decide), hq 4 (by decide), hq 5 (by decide), hq 6 (by decide), hq 7 (by decide), hq 8 (by decide), hq 9 (by decide), hq 10 (by decide), hq 11 (by decide), hq 12 (by decide), hq 13 (by decide), hq 14 (by decide), hq 15 (by decide), hq 16 (by decide), hq 17 (by decide), hq 18 (by decide), hq 19 (by decide), hq 20 (by decide), hq 21 (by decide), hq 22 (by decide), hq 23 (by decide), hq 24 (by decide), hq 25 (by decide), hq 26 (by decide), hq 27 (by decide), hq 28 (by decide), hq 29 (by decide), hq 30 (by decide), hq 31 (by decide)]
      rfl



end Go.Proofs.YtophhppklaofaaaDoor.Vx
end

section
/- Texts in digits; sums in order, by the walker. -/
namespace Go.Proofs.YtophhppklaofaaaDoor.Vx
open Go.RowKit Sha
set_option linter.unusedVariables false
set_option linter.unusedSimpArgs false









end Go.Proofs.YtophhppklaofaaaDoor.Vx
end

section
/- Digits read back, by the walker. -/
namespace Go.Proofs.YtophhppklaofaaaDoor.Vx
open Go.RowKit Sha
set_option linter.unusedVariables false
set_option linter.unusedSimpArgs false
/-- Where a byte stands in a text. -/
def ixB (l : List UInt8) (c : Int) : Int := Lib.indexByte l c.toNat.toUInt8
/-- The value of the digit at a place. -/
def hv (s : List UInt8) (k : Nat) : Int := ixB digs ((s.getD k 0).toNat : Int)





end Go.Proofs.YtophhppklaofaaaDoor.Vx
end

section
/- The laws of the sums, by the walker: ShaCuts, ShaTells, ShaLess. -/
namespace Go.Proofs.YtophhppklaofaaaDoor.Vx
open Go.RowKit Sha
set_option linter.unusedVariables false
set_option linter.unusedSimpArgs false
/-- The texts of a slice that is written out. -/
theorem strs_cut (ls : List (List UInt8)) : StrsAt ls.length (cutC 1 (ls.map CV.str) 0) ∧ joinG ls.length (cutC 1 (ls.map CV.str) 0) = ls.flatten := by
  have e : ∀ i, (hi : i < ls.length) → cutC 1 (ls.map CV.str) 0 i = [.str ls[i]] := fun i hi => by
    unfold cutC
    rw [Nat.mul_one, Nat.zero_add, List.drop_eq_getElem_cons (by simpa using hi)]
    simp
  refine ⟨fun i hi => ⟨_, e i hi⟩, ?_⟩
  unfold joinG
  rw [List.flatMap]
  congr 1
  apply List.ext_getElem
  · simp
  · intro i h1 h2
    simp only [List.getElem_map, List.getElem_range]
    rw [e i h2]
    rfl
theorem sumPre_cut (ls : List (List UInt8)) (h : ls.flatten.length ≤ 140737488350000) (hn : ls.length ≤ 1000) : sumPre 0 1 64 (fun i => [.int .u32 (kOf i)]) 9 1 ls.length (cutC 1 (ls.map CV.str) 0) := by
  obtain ⟨h1, h2⟩ := strs_cut ls
  exact ⟨ksAt_self, rfl, rfl, h1, by omega, by rw [h2]; exact h⟩
theorem StrsAt.same {n : Nat} {get : Nat → List CV} {ty : Nat} (h : StrsAt n get) : hSame [.elems ty 1 n get] [.elems ty 1 n (fun i => [.str (strOf (get i))])] := by
  refine ⟨⟨rfl, rfl, rfl, fun i hi => ?_⟩, trivial⟩
  obtain ⟨l, hl⟩ := h i hi
  show get i = [.str (strOf (get i))]
  rw [hl]
  rfl






end Go.Proofs.YtophhppklaofaaaDoor.Vx
end

section
/- The laws ShaCuts, ShaTells, ShaLess. -/
namespace Go.Proofs.YtophhppklaofaaaDoor.Vx
open Go.RowKit Sha
set_option linter.unusedVariables false
set_option linter.unusedSimpArgs false


end Go.Proofs.YtophhppklaofaaaDoor.Vx
end
