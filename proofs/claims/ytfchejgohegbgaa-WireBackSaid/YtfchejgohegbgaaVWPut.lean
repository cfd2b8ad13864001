/- The law WireWrites, by the walker. -/
import Derived.Test.YtfchejgohegbgaaVWLaw
import Derived.Test.YtfchejgohegbgaaOpenPut
import Derived.Test.YtfchejgohegbgaaVxFrame
namespace Go.Proofs.Ytfchejgohegbgaa
open Go.RowKit
set_option linter.unusedVariables false
set_option linter.unusedSimpArgs false

namespace Vx
theorem exec_block {N : Env} {M : List Nat} {id : Nat} {c : Code} {st : St} {K : Ex → St → Prop}
    (h : ∀ K' : Ex → St → Prop, (∀ st', K .normal st' → K' .normal st') → (∀ st', K .ret st' → K' .ret st') → (∀ st', K .normal st' → K' (.exit id) st') → exec N M c st K') : exec N M (.block id c) st K :=
  h _ (fun _ h => h) (fun _ h => h) (fun st' h => by show (if (id == id) = true then K .normal st' else K (.exit id) st'); rw [if_pos (by simp)]; exact h)
/-- The things to write, as a list. -/
noncomputable def pusOf (n : Nat) (get : Nat → List CV) : List Pu := (List.range n).map fun i => puAt (get i)
noncomputable def fewB (n : Nat) (get : Nat → List CV) : Bool := Nat.ble n 30 && (List.range n).all fun i => Nat.ble (puAt (get i)).s.length 300
theorem fewB_iff {n : Nat} {get : Nat → List CV} : fewB n get = true ↔ n ≤ 30 ∧ ∀ i, i < n → (puAt (get i)).s.length ≤ 300 := by
  unfold fewB
  simp [List.all_eq_true]
structure LF (n : Nat) (get : Nat → List CV) where
  i : Int
  h0 : 0 ≤ i
  h1 : i ≤ (n : Int)
  ok : ∀ j, j < i.toNat → (puAt (get j)).s.length ≤ 300
noncomputable def sFew : SpecR
  | [.c (.row 0)], [(n, get)] => some ((PutsAt n get ∧ n ≤ 9223372036854775807), .c (.bool (fewB n get)))
  | _, _ => none

set_option maxRecDepth 100000 in
set_option maxHeartbeats 2000000 in
theorem fewP : Rds Try.prog 40 35 sFew := by
  have hC : CtsOk Try.prog [] := CtsOk.nil _
  refine Rds.of (E := tbW) [] 0 [] tbW_ok hC (by kernel_rfl) Try.func40 rfl rfl rfl (by kernel_rfl) (by kernel_rfl) 61 1 ?_ ?_
  · intro args vs pre r h
    unfold sFew at h
    split at h
    · cases h; exact ⟨rfl, rfl⟩
    · cases h
  · intro args vs pre r h hp
    unfold sFew at h
    split at h
    rotate_left
    · cases h
    rename_i n get
    cases h
    obtain ⟨hp1, hp3⟩ := hp
    refine ⟨_, hp1.same, ?_⟩
    rw [← exec_assoc]
    refine exec_cut fun K hn hr _ => ?_
    replace hn := Lib.hid hn
    replace hr := Lib.hid hr
    generalize hg0 : fitNum = g0
    generalize hg1 : fitText = g1
    generalize hg2 : numBad = g2
    generalize hg3 : numW = g3
    generalize hg4 : textW = g4
    generalize hg5 : bytesW = g5
    generalize hg6 : badW = g6
    generalize hg7 : putW = g7
    generalize hg8 : numS = g8
    generalize hg9 : textS = g9
    generalize hg10 : hashS = g10
    generalize hg11 : countS = g11
    generalize hg12 : endS = g12
    generalize hg13 : okRd = g13
    generalize hg14 : byteI = g14
    generalize hg15 : puAt = g15
    generalize hg16 : fewB = g16
    generalize hg17 : hashOf = g17
    generalize hg18 : textB = g18
    generalize hg19 : (List.length : List UInt8 → Nat) = g19
    generalize hA : Arith.std = A
    cbv
    subst hA hg0 hg1 hg2 hg3 hg4 hg5 hg6 hg7 hg8 hg9 hg10 hg11 hg12 hg13 hg14 hg15 hg16 hg17 hg18 hg19
    refine Ife.mk (fun h => ?_) (fun h => ?_)
    · refine hr.out _ ?_
      show fewB n get = false
      have h : 30 < n := by have := of_decide_eq_true (p := (30 : Int) < (n : Int)) h; omega
      exact Bool.eq_false_iff.2 fun h2 => by have := (fewB_iff.1 h2).1; omega
    have hn30 : n ≤ 30 := by have := of_decide_eq_false (p := (30 : Int) < (n : Int)) h; omega
    refine hn.out _ ?_
    clear hn hr
    generalize hg0 : fitNum = g0
    generalize hg1 : fitText = g1
    generalize hg2 : numBad = g2
    generalize hg3 : numW = g3
    generalize hg4 : textW = g4
    generalize hg5 : bytesW = g5
    generalize hg6 : badW = g6
    generalize hg7 : putW = g7
    generalize hg8 : numS = g8
    generalize hg9 : textS = g9
    generalize hg10 : hashS = g10
    generalize hg11 : countS = g11
    generalize hg12 : endS = g12
    generalize hg13 : okRd = g13
    generalize hg14 : byteI = g14
    generalize hg15 : puAt = g15
    generalize hg16 : fewB = g16
    generalize hg17 : hashOf = g17
    generalize hg18 : textB = g18
    generalize hg19 : (List.length : List UInt8 → Nat) = g19
    generalize hL : lft Try.prog _ = L
    generalize hA : Arith.std = A
    cbv
    subst hA hg0 hg1 hg2 hg3 hg4 hg5 hg6 hg7 hg8 hg9 hg10 hg11 hg12 hg13 hg14 hg15 hg16 hg17 hg18 hg19 hL
    show Runs Try.prog 1 (.loop _) _ _
    refine loop_ruleR (N := env (lft Try.prog 1) 0 .std tbW [] []) rfl tbW_ok hC (fun c st K _ h => h) (by kernel_rfl) [] (X := LF n get)
        (S := fun x => ⟨[.c (.row 0), .any, .any, .c (.int .i64 x.i)] ++ List.replicate (20 - 4) .any, [.elems 61 35 n (fun i => puE byteI (puAt (get i)))]⟩) (μ := fun x => n - x.i.toNat) ⟨0, by omega, by omega, fun j h => absurd h (by simp)⟩ (by kernel_rfl) [0] ?_ ?_
    · refine ⟨rfl, by decide, ?_, ?_⟩ <;> repeat' (first | exact trivial | exact rfl | apply And.intro)
    rintro ⟨i, hi0, hin, hok⟩
    generalize hg0 : fitNum = g0
    generalize hg1 : fitText = g1
    generalize hg2 : numBad = g2
    generalize hg3 : numW = g3
    generalize hg4 : textW = g4
    generalize hg5 : bytesW = g5
    generalize hg6 : badW = g6
    generalize hg7 : putW = g7
    generalize hg8 : numS = g8
    generalize hg9 : textS = g9
    generalize hg10 : hashS = g10
    generalize hg11 : countS = g11
    generalize hg12 : endS = g12
    generalize hg13 : okRd = g13
    generalize hg14 : byteI = g14
    generalize hg15 : puAt = g15
    generalize hg16 : fewB = g16
    generalize hg17 : hashOf = g17
    generalize hg18 : textB = g18
    generalize hg19 : (List.length : List UInt8 → Nat) = g19
    generalize hL : lft Try.prog _ = L
    generalize hA : Arith.std = A
    cbv
    subst hA hg0 hg1 hg2 hg3 hg4 hg5 hg6 hg7 hg8 hg9 hg10 hg11 hg12 hg13 hg14 hg15 hg16 hg17 hg18 hg19 hL
    replace hi0 : 0 ≤ i := hi0
    replace hin : i ≤ @Nat.cast Int instNatCastInt n := hin
    refine Ife.mk (fun hc => ?_) (fun hc => ?_)
    rotate_left
    · have hc : ¬ i < (n : Int) := of_decide_eq_false hc
      have hi : i = @Nat.cast Int instNatCastInt n := by omega
      refine fewB_iff.2 ⟨hn30, fun j hj => hok j (by omega)⟩
    have hc : i < @Nat.cast Int instNatCastInt n := of_decide_eq_true (p := i < (n : Int)) hc
    refine Need.mk ⟨hi0, hc⟩ fun _ => Need.mk (by show i.toNat < n; omega) fun _ => ?_
    refine Ife.mk (fun hl => ?_) (fun hl => ?_)
    · have hl : 300 < (puAt (get i.toNat)).s.length := by have := of_decide_eq_true (p := (300 : Int) < ((puAt (get i.toNat)).s.length : Int)) hl; omega
      exact Bool.eq_false_iff.2 fun h2 => by have := (fewB_iff.1 h2).2 i.toNat (by omega); omega
    have hl : (puAt (get i.toNat)).s.length ≤ 300 := by have := of_decide_eq_false (p := (300 : Int) < ((puAt (get i.toNat)).s.length : Int)) hl; omega
    refine Need.mk (by show fitStd .i64 (i + 1); unfold fitStd; omega) fun _ => ?_
    refine ⟨⟨i + 1, by omega, by omega, fun j hj => ?_⟩, [0], by show n - (i + 1).toNat < n - i.toNat; omega, ?_⟩
    · by_cases h : j = i.toNat
      · subst h; exact hl
      · exact hok j (by omega)
    refine ⟨rfl, by decide, ?_, ?_⟩ <;> repeat' (first | exact trivial | exact rfl | apply And.intro)

/-! ### What is written, plainly -/
def sumB (x : Pu) : List UInt8 := hashOf [byteI x.h 0, byteI x.h 1, byteI x.h 2, byteI x.h 3, byteI x.h 4, byteI x.h 5, byteI x.h 6, byteI x.h 7, byteI x.h 8, byteI x.h 9, byteI x.h 10, byteI x.h 11, byteI x.h 12, byteI x.h 13, byteI x.h 14, byteI x.h 15, byteI x.h 16, byteI x.h 17, byteI x.h 18, byteI x.h 19, byteI x.h 20, byteI x.h 21, byteI x.h 22, byteI x.h 23, byteI x.h 24, byteI x.h 25, byteI x.h 26, byteI x.h 27, byteI x.h 28, byteI x.h 29, byteI x.h 30, byteI x.h 31]
def pieceR (x : Pu) : List UInt8 := if x.k = 0 then Leb.put x.n else if x.k = 1 then textB x.s else sumB x
def catR (xs : List Pu) : List UInt8 := xs.flatMap pieceR
def isBad (x : Pu) : Bool := decide (x.k = 0 ∧ (x.n < 0 ∨ 72057594037927935 < x.n))
def anyBad (xs : List Pu) : Bool := xs.any isBad
def wPut (x : Pu) (s : List UInt8 × Bool) : List UInt8 × Bool := if x.k = 0 then (numW s.1 x.n s.2, numBad x.n s.2) else if x.k = 1 then (textW s.1 x.s s.2, numBad x.s.length s.2) else (putW s.1 (sumB x) s.2, s.2)
def wOf (xs : List Pu) : List UInt8 × Bool := xs.foldl (fun s x => wPut x s) ([], false)
theorem wOf_snoc (xs : List Pu) (x : Pu) : wOf (xs ++ [x]) = wPut x (wOf xs) := by simp [wOf, List.foldl_append]
theorem catR_snoc (xs : List Pu) (x : Pu) : catR (xs ++ [x]) = catR xs ++ pieceR x := by simp [catR]
theorem anyBad_snoc (xs : List Pu) (x : Pu) : anyBad (xs ++ [x]) = (anyBad xs || isBad x) := by simp [anyBad]
theorem put_nil {v : Int} : Leb.put v = [] ↔ (v < 0 ∨ 72057594037927935 < v) := by
  constructor
  · intro h
    refine Decidable.byContradiction fun hn => ?_
    have := Leb.put_len v (by omega) (by omega)
    rw [h] at this
    simp at this
  · intro h
    unfold Leb.put
    rw [if_neg (by omega)]
theorem put_text (m : List UInt8) (h : m.length ≤ 300) : Leb.put (m.length : Int) ≠ [] := fun h2 => by
  have := put_nil.1 h2
  omega
theorem len_sumB (x : Pu) : (sumB x).length = 32 := rfl
theorem len_piece {x : Pu} (h : x.s.length ≤ 300) : (pieceR x).length ≤ 400 := by
  unfold pieceR
  split
  · have := Leb.put_len_le x.n; omega
  · split
    · unfold textB; have := Leb.put_len_le (x.s.length : Int); simp; omega
    · rw [len_sumB]; omega
structure WInv (xs : List Pu) : Prop where
  bad : (wOf xs).2 = anyBad xs
  cat : (wOf xs).2 = false → (wOf xs).1 = catR xs
  len : (wOf xs).1.length ≤ 400 * xs.length
  lenR : (catR xs).length ≤ 400 * xs.length
theorem WInv.nil : WInv [] := ⟨rfl, fun _ => rfl, by simp [wOf], by simp [catR]⟩
theorem WInv.snoc {xs : List Pu} {x : Pu} (h : WInv xs) (hx : x.s.length ≤ 300) : WInv (xs ++ [x]) := by
  obtain ⟨h1, h2, h3, h4⟩ := h
  have hl := len_piece hx
  have ht := put_text x.s hx
  refine ⟨?_, ?_, ?_, ?_⟩
  · rw [wOf_snoc, anyBad_snoc, ← h1]
    unfold wPut isBad numBad
    by_cases k0 : x.k = 0
    · simp only [k0, if_true, true_and]
      congr 1
      exact decide_eq_decide.2 put_nil
    · by_cases k1 : x.k = 1
      · simp [k1, ht]
      · simp [k0, k1]
  · rw [wOf_snoc, catR_snoc]
    unfold wPut pieceR numW textW putW numBad textB
    by_cases k0 : x.k = 0
    · simp only [k0, if_true]
      intro h
      rw [h, if_neg (by simp)]
      simp only [Bool.or_eq_false_iff] at h
      rw [h2 h.1]
    · by_cases k1 : x.k = 1
      · simp only [k1, if_neg (by decide : ¬ (1 : Int) = 0), if_true, ht, decide_false, Bool.or_false]
        intro h
        rw [h]
        rw [h2 h]
        simp [ht, numW, putW, numBad]
      · simp only [k0, k1, if_false]
        intro h
        rw [h, if_neg (by simp), h2 h]
  · rw [wOf_snoc]
    have hp := Leb.put_len_le x.n
    have hq := Leb.put_len_le (x.s.length : Int)
    unfold wPut numW textW numW putW
    simp only [List.length_append, List.length_singleton]
    split
    · dsimp only; split
      · omega
      · simp; omega
    · split
      · have hnb : numBad (x.s.length : Int) (wOf xs).2 = (wOf xs).2 := by simp [numBad, ht]
        dsimp only
        rw [hnb]
        by_cases hb : (wOf xs).2 = true
        · simp [hb]; omega
        · simp [hb]; omega
      · dsimp only; split
        · omega
        · simp [len_sumB]; omega
  · rw [catR_snoc]
    simp only [List.length_append, List.length_singleton]
    omega
theorem take_snoc {n : Nat} {get : Nat → List CV} {i : Nat} (h : i < n) : (pusOf n get).take (i + 1) = (pusOf n get).take i ++ [puAt (get i)] := by
  unfold pusOf
  rw [List.take_add_one, List.getElem?_map, List.getElem?_range h]
  rfl
theorem WInv.take {n : Nat} {get : Nat → List CV} (h : fewB n get = true) : ∀ i, i ≤ n → WInv ((pusOf n get).take i)
  | 0, _ => by simpa using WInv.nil
  | i + 1, hi => by
    rw [take_snoc (by omega)]
    exact (WInv.take h i (by omega)).snoc ((fewB_iff.1 h).2 i (by omega))
theorem len_pus (n : Nat) (get : Nat → List CV) : (pusOf n get).length = n := by simp [pusOf]
structure LW (n : Nat) (get : Nat → List CV) where
  i : Int
  l : List UInt8
  b : Bool
  s : List UInt8
  e : Int
  h0 : 0 ≤ i
  h1 : i ≤ (n : Int)
  w : wOf ((pusOf n get).take i.toNat) = (l, b)
  c : s = catR ((pusOf n get).take i.toNat)
  b' : e = badW (anyBad ((pusOf n get).take i.toNat))
noncomputable def sWrite : SpecF
  | [.c (.ptr 0 0), .c (.row 2)], [.cells t [.row 1, .bool b], .bytes e l, .elems ty sz n get] => some ((t = 89 ∧ e = 5 ∧ b = false ∧ l = [] ∧ ty = 61 ∧ sz = 35 ∧ PutsAt n get ∧ fewB n get = true), .tup [(some (.str (if anyBad (pusOf n get) then [] else catR (pusOf n get))), []), (some (.int .i64 (badW (anyBad (pusOf n get)))), [])], [.cells t [.row 3, .bool (wOf (pusOf n get)).2], .dead, .dead, .bytes e (wOf (pusOf n get)).1])
  | _, _ => none

set_option maxRecDepth 100000 in
set_option maxHeartbeats 2000000 in
theorem writeP : Fn Try.prog 42 [] [(61, 35)] sWrite := by
  have hC : CtsOk Try.prog [(44, appW 89 5 sNum), (45, appW 89 5 sText), (46, appW 89 5 sHashW), (33, appPure sLebPut), (67, appPure sPutText), (68, appPure sHText)] := CtsOk.cons (MethW.ct numP) <| CtsOk.cons (MethW.ct textP) <| CtsOk.cons (MethW.ct hashWP) <| CtsOk.cons (Pure.ct refPutP) <| CtsOk.cons (Pure.ct refPutTextP) <| CtsOk.cons (Pure.ct refHTextP) <| CtsOk.nil _
  refine Fn.of (E := tbW) [] 0 [] tbW_ok hC (by kernel_rfl) Try.func42 rfl rfl rfl (by kernel_rfl) (by kernel_rfl) 3 5 1 ?_ ?_
  · intro args h pre r h' hs
    unfold sWrite at hs
    split at hs
    · cases hs; exact ⟨rfl, rfl, Nat.le_of_ble_eq_true rfl⟩
    · cases hs
  · intro args h pre r h' hs hp
    unfold sWrite at hs
    split at hs
    rotate_left
    · cases hs
    rename_i t b e l ty sz n get
    cases hs
    obtain ⟨rfl, rfl, rfl, rfl, rfl, rfl, hp1, hp2⟩ := hp
    have hfew := fewB_iff.1 hp2
    refine ⟨[.cells 89 [.row 1, .bool false], .bytes 5 [], .elems 61 35 n (fun i => puE byteI (puAt (get i)))], ⟨rfl, rfl, ⟨rfl, rfl, rfl, fun i hi => (puAt_ok hp1 hi).1⟩, trivial⟩, ?_⟩
    rw [← exec_assoc, ← exec_assoc]
    refine exec_cut fun K hn hr _ => ?_
    replace hn := Lib.hid hn
    replace hr := Lib.hid hr
    generalize hg0 : fitNum = g0
    generalize hg1 : fitText = g1
    generalize hg2 : numBad = g2
    generalize hg3 : numW = g3
    generalize hg4 : textW = g4
    generalize hg5 : bytesW = g5
    generalize hg6 : badW = g6
    generalize hg7 : putW = g7
    generalize hg8 : numS = g8
    generalize hg9 : textS = g9
    generalize hg10 : hashS = g10
    generalize hg11 : countS = g11
    generalize hg12 : endS = g12
    generalize hg13 : okRd = g13
    generalize hg14 : byteI = g14
    generalize hg15 : puAt = g15
    generalize hg16 : fewB = g16
    generalize hg17 : hashOf = g17
    generalize hg18 : textB = g18
    generalize hg19 : (List.length : List UInt8 → Nat) = g19
    generalize hg20 : isI64 = g20
    generalize hg21 : fitPut = g21
    generalize hg22 : Leb.put = g22
    generalize hg23 : wOf = g23
    generalize hg24 : catR = g24
    generalize hg25 : anyBad = g25
    generalize hL : lft Try.prog _ = L
    generalize hA : Arith.std = A
    cbv
    subst hA hg0 hg1 hg2 hg3 hg4 hg5 hg6 hg7 hg8 hg9 hg10 hg11 hg12 hg13 hg14 hg15 hg16 hg17 hg18 hg19 hg20 hg21 hg22 hg23 hg24 hg25 hL
    show Runs Try.prog 3 (.loop _) _ _
    refine loop_ruleL (N := env (lft Try.prog 3) 0 .std tbW [(44, appW 89 5 sNum), (45, appW 89 5 sText), (46, appW 89 5 sHashW), (33, appPure sLebPut), (67, appPure sPutText), (68, appPure sHText)] []) rfl tbW_ok hC (fun c st K _ h => h) (by kernel_rfl) [] (X := LW n get)
        (S := fun x => ⟨[.c (.ptr 0 0), .c (.row 2), .any, .any, .any, .any, .c (.str x.s), .c (.int .i64 x.e), .c (.int .i64 x.i)] ++ List.replicate 62 .any, [.cells 89 [.row 3, .bool x.b], .dead, .elems 61 35 n (fun i => puE byteI (puAt (get i))), .bytes 5 x.l]⟩) (μ := fun x => n - x.i.toNat) ⟨0, [], false, [], 0, by omega, by omega, rfl, rfl, rfl⟩ (by kernel_rfl) [0, 1, 2, 1] ?_ ?_
    · refine ⟨rfl, by show [0, 2, 1].Nodup; decide, ?_, ?_⟩ <;> repeat' (first | exact trivial | exact rfl | apply And.intro)
    rintro ⟨i, l, b, s, e, hi0, hin, hw, hcat, hbad⟩
    refine exec_cut fun K2 hn2 hr2 hx2 => ?_
    replace hn2 := Lib.hid hn2
    replace hx2 := Lib.hid hx2
    clear hr2
    generalize hg0 : fitNum = g0
    generalize hg1 : fitText = g1
    generalize hg2 : numBad = g2
    generalize hg3 : numW = g3
    generalize hg4 : textW = g4
    generalize hg5 : bytesW = g5
    generalize hg6 : badW = g6
    generalize hg7 : putW = g7
    generalize hg8 : numS = g8
    generalize hg9 : textS = g9
    generalize hg10 : hashS = g10
    generalize hg11 : countS = g11
    generalize hg12 : endS = g12
    generalize hg13 : okRd = g13
    generalize hg14 : byteI = g14
    generalize hg15 : puAt = g15
    generalize hg16 : fewB = g16
    generalize hg17 : hashOf = g17
    generalize hg18 : textB = g18
    generalize hg19 : (List.length : List UInt8 → Nat) = g19
    generalize hg20 : isI64 = g20
    generalize hg21 : fitPut = g21
    generalize hg22 : Leb.put = g22
    generalize hg23 : wOf = g23
    generalize hg24 : catR = g24
    generalize hg25 : anyBad = g25
    generalize hL : lft Try.prog _ = L
    generalize hA : Arith.std = A
    cbv
    subst hA hg0 hg1 hg2 hg3 hg4 hg5 hg6 hg7 hg8 hg9 hg10 hg11 hg12 hg13 hg14 hg15 hg16 hg17 hg18 hg19 hg20 hg21 hg22 hg23 hg24 hg25 hL
    refine Ife.mk (fun hc => ?_) (fun hc => ?_)
    rotate_left
    · refine hx2.out _ _ ?_
      refine hn.out _ ?_
      clear hn hn2 hx2
      generalize hg0 : fitNum = g0
      generalize hg1 : fitText = g1
      generalize hg2 : numBad = g2
      generalize hg3 : numW = g3
      generalize hg4 : textW = g4
      generalize hg5 : bytesW = g5
      generalize hg6 : badW = g6
      generalize hg7 : putW = g7
      generalize hg8 : numS = g8
      generalize hg9 : textS = g9
      generalize hg10 : hashS = g10
      generalize hg11 : countS = g11
      generalize hg12 : endS = g12
      generalize hg13 : okRd = g13
      generalize hg14 : byteI = g14
      generalize hg15 : puAt = g15
      generalize hg16 : fewB = g16
      generalize hg17 : hashOf = g17
      generalize hg18 : textB = g18
      generalize hg19 : (List.length : List UInt8 → Nat) = g19
      generalize hg20 : isI64 = g20
      generalize hg21 : fitPut = g21
      generalize hg22 : Leb.put = g22
      generalize hg23 : wOf = g23
      generalize hg24 : catR = g24
      generalize hg25 : anyBad = g25
      generalize hL : lft Try.prog _ = L
      generalize hA : Arith.std = A
      cbv
      subst hA hg0 hg1 hg2 hg3 hg4 hg5 hg6 hg7 hg8 hg9 hg10 hg11 hg12 hg13 hg14 hg15 hg16 hg17 hg18 hg19 hg20 hg21 hg22 hg23 hg24 hg25 hL
      replace hc : ¬ i < @Nat.cast Int instNatCastInt n := of_decide_eq_false hc
      replace hin : i ≤ @Nat.cast Int instNatCastInt n := hin
      have hi : i.toNat = n := by omega
      have htk : (pusOf n get).take i.toNat = pusOf n get := List.take_of_length_le (by rw [len_pus]; omega)
      rw [htk] at hw hcat hbad
      rw [hw]
      refine Ife.mk (fun he => ?_) (fun he => ?_)
      · have hb : anyBad (pusOf n get) = true := by
          cases h : anyBad (pusOf n get) with
          | true => rfl
          | false => rw [h] at hbad; subst hbad; cases he
        rw [hb] at hbad ⊢
        refine ⟨[0, 1, 2, 3], rfl, ?_, by show [0, 3].Nodup; decide, rfl, ?_⟩ <;> repeat' (first | exact trivial | exact rfl | exact hbad | apply And.intro)
      · have hb : anyBad (pusOf n get) = false := by
          cases h : anyBad (pusOf n get) with
          | false => rfl
          | true => rw [h] at hbad; subst hbad; cases he
        rw [hb] at hbad ⊢
        refine ⟨[0, 1, 2, 3], rfl, ?_, by show [0, 3].Nodup; decide, rfl, ?_⟩ <;> repeat' (first | exact trivial | exact rfl | exact hbad | exact hcat | apply And.intro)
    refine hn2.out _ ?_
    refine exec_cut fun K3 hn3 hr3 hx3 => ?_
    clear hn2 hx2 hr3 hx3 hn hr
    replace hn3 := Lib.hid hn3
    unfold sNum sText sHashW sLebPut sPutText sHText
    generalize hg0 : fitNum = g0
    generalize hg1 : fitText = g1
    generalize hg2 : numBad = g2
    generalize hg3 : numW = g3
    generalize hg4 : textW = g4
    generalize hg5 : bytesW = g5
    generalize hg6 : badW = g6
    generalize hg7 : putW = g7
    generalize hg8 : numS = g8
    generalize hg9 : textS = g9
    generalize hg10 : hashS = g10
    generalize hg11 : countS = g11
    generalize hg12 : endS = g12
    generalize hg13 : okRd = g13
    generalize hg14 : byteI = g14
    generalize hg15 : puAt = g15
    generalize hg16 : fewB = g16
    generalize hg17 : hashOf = g17
    generalize hg18 : textB = g18
    generalize hg19 : (List.length : List UInt8 → Nat) = g19
    generalize hg20 : isI64 = g20
    generalize hg21 : fitPut = g21
    generalize hg22 : Leb.put = g22
    generalize hg23 : wOf = g23
    generalize hg24 : catR = g24
    generalize hg25 : anyBad = g25
    generalize hL : lft Try.prog _ = L
    generalize hA : Arith.std = A
    cbv
    subst hA hg0 hg1 hg2 hg3 hg4 hg5 hg6 hg7 hg8 hg9 hg10 hg11 hg12 hg13 hg14 hg15 hg16 hg17 hg18 hg19 hg20 hg21 hg22 hg23 hg24 hg25 hL
    replace hi0 : 0 ≤ i := hi0
    replace hin : i ≤ @Nat.cast Int instNatCastInt n := hin
    have hc : i + 1 ≤ @Nat.cast Int instNatCastInt n := Int.add_one_le_of_lt (of_decide_eq_true (p := i < (n : Int)) hc)
    refine Need.mk ⟨hi0, Int.lt_of_add_one_le hc⟩ fun _ => Need.mk (by show i.toNat < n; omega) fun _ => ?_
    have hx : (puAt (get i.toNat)).s.length ≤ 300 := hfew.2 i.toNat (by omega)
    have hxo := (puAt_ok hp1 (i := i.toNat) (by omega)).2
    have hsn : (pusOf n get).take (i + 1).toNat = (pusOf n get).take i.toNat ++ [puAt (get i.toNat)] := by
      rw [← take_snoc (by omega)]
      congr 1
      omega
    have hinv := WInv.take hp2 i.toNat (by omega)
    have hl1 := hinv.len
    have hl2 := hinv.lenR
    rw [hw] at hl1
    rw [← hcat] at hl2
    rw [List.length_take, len_pus] at hl1 hl2
    have hl1 : l.length ≤ 12000 := by have : l.length ≤ 400 * min i.toNat n := hl1; omega
    have hl2 : s.length ≤ 12000 := by omega
    have hxn := hxo.n
    generalize hy : puAt (get (Arith.std.natOf i)) = x at *
    have hyx : puAt (get i.toNat) = x := hy
    rw [hyx] at hx hxn hsn
    have hn30 := hfew.1
    clear hxo hy hyx hinv hfew
    have hp8 := Leb.put_len_le x.n
    have hp9 := Leb.put_len_le (x.s.length : Int)
    refine Ife.mk (fun k0 => ?_) (fun k0 => ?_)
    · have k0 : x.k = 0 := of_decide_eq_true k0
      refine Ife.mk (fun k1 => ?_) (fun k1 => ?_)
      · have k1 : x.n < 0 := of_decide_eq_true k1
        refine Ife.mk (fun _ => ?_) (fun h => absurd k0 (of_decide_eq_false h))
        refine Need.mk ⟨hxn, by omega⟩ fun _ => Need.mk hxn fun _ => Need.mk (by show (s.length : Int) + ((Leb.put x.n).length : Int) ≤ 9223372036854775807; omega) fun _ => ?_
        refine hn3.out _ ?_
        generalize hg0 : fitNum = g0
        generalize hg1 : fitText = g1
        generalize hg2 : numBad = g2
        generalize hg3 : numW = g3
        generalize hg4 : textW = g4
        generalize hg5 : bytesW = g5
        generalize hg6 : badW = g6
        generalize hg7 : putW = g7
        generalize hg8 : numS = g8
        generalize hg9 : textS = g9
        generalize hg10 : hashS = g10
        generalize hg11 : countS = g11
        generalize hg12 : endS = g12
        generalize hg13 : okRd = g13
        generalize hg14 : byteI = g14
        generalize hg15 : puAt = g15
        generalize hg16 : fewB = g16
        generalize hg17 : hashOf = g17
        generalize hg18 : textB = g18
        generalize hg19 : (List.length : List UInt8 → Nat) = g19
        generalize hg20 : isI64 = g20
        generalize hg21 : fitPut = g21
        generalize hg22 : Leb.put = g22
        generalize hg23 : wOf = g23
        generalize hg24 : catR = g24
        generalize hg25 : anyBad = g25
        generalize hL : lft Try.prog _ = L
        generalize hA : Arith.std = A
        cbv
        subst hA hg0 hg1 hg2 hg3 hg4 hg5 hg6 hg7 hg8 hg9 hg10 hg11 hg12 hg13 hg14 hg15 hg16 hg17 hg18 hg19 hg20 hg21 hg22 hg23 hg24 hg25 hL
        replace hc : i + 1 ≤ @Nat.cast Int instNatCastInt n := hc
        refine Need.mk (by show fitStd .i64 (i + 1); unfold fitStd; omega) fun _ => ?_
        refine ⟨⟨i + 1, numW l x.n b, numBad x.n b, s ++ Leb.put x.n, 1, by omega, by omega, ?_, ?_, ?_⟩, [0, 1, 2, 5], by show n - (i + 1).toNat < n - i.toNat; omega, ?_⟩
        rotate_left 3
        · refine ⟨rfl, by show [0, 2, 5].Nodup; decide, ?_, ?_⟩ <;> repeat' (first | exact trivial | exact rfl | apply And.intro)
        · rw [hsn, wOf_snoc, hw]; unfold wPut; rw [if_pos k0]
        · rw [hsn, catR_snoc, ← hcat]; unfold pieceR; rw [if_pos k0]
        · rw [hsn, anyBad_snoc]; have : isBad x = true := decide_eq_true ⟨k0, by omega⟩
          rw [this, Bool.or_true]; rfl
      · have k1 : ¬ x.n < 0 := of_decide_eq_false k1
        refine Ife.mk (fun k2 => ?_) (fun k2 => ?_)
        · have k2 : 72057594037927935 < x.n := of_decide_eq_true k2
          refine Ife.mk (fun _ => ?_) (fun h => absurd k0 (of_decide_eq_false h))
          refine Need.mk ⟨hxn, by omega⟩ fun _ => Need.mk hxn fun _ => Need.mk (by show (s.length : Int) + ((Leb.put x.n).length : Int) ≤ 9223372036854775807; omega) fun _ => ?_
          refine hn3.out _ ?_
          generalize hg0 : fitNum = g0
          generalize hg1 : fitText = g1
          generalize hg2 : numBad = g2
          generalize hg3 : numW = g3
          generalize hg4 : textW = g4
          generalize hg5 : bytesW = g5
          generalize hg6 : badW = g6
          generalize hg7 : putW = g7
          generalize hg8 : numS = g8
          generalize hg9 : textS = g9
          generalize hg10 : hashS = g10
          generalize hg11 : countS = g11
          generalize hg12 : endS = g12
          generalize hg13 : okRd = g13
          generalize hg14 : byteI = g14
          generalize hg15 : puAt = g15
          generalize hg16 : fewB = g16
          generalize hg17 : hashOf = g17
          generalize hg18 : textB = g18
          generalize hg19 : (List.length : List UInt8 → Nat) = g19
          generalize hg20 : isI64 = g20
          generalize hg21 : fitPut = g21
          generalize hg22 : Leb.put = g22
          generalize hg23 : wOf = g23
          generalize hg24 : catR = g24
          generalize hg25 : anyBad = g25
          generalize hL : lft Try.prog _ = L
          generalize hA : Arith.std = A
          cbv
          subst hA hg0 hg1 hg2 hg3 hg4 hg5 hg6 hg7 hg8 hg9 hg10 hg11 hg12 hg13 hg14 hg15 hg16 hg17 hg18 hg19 hg20 hg21 hg22 hg23 hg24 hg25 hL
          replace hc : i + 1 ≤ @Nat.cast Int instNatCastInt n := hc
          refine Need.mk (by show fitStd .i64 (i + 1); unfold fitStd; omega) fun _ => ?_
          refine ⟨⟨i + 1, numW l x.n b, numBad x.n b, s ++ Leb.put x.n, 1, by omega, by omega, ?_, ?_, ?_⟩, [0, 1, 2, 5], by show n - (i + 1).toNat < n - i.toNat; omega, ?_⟩
          rotate_left 3
          · refine ⟨rfl, by show [0, 2, 5].Nodup; decide, ?_, ?_⟩ <;> repeat' (first | exact trivial | exact rfl | apply And.intro)
          · rw [hsn, wOf_snoc, hw]; unfold wPut; rw [if_pos k0]
          · rw [hsn, catR_snoc, ← hcat]; unfold pieceR; rw [if_pos k0]
          · rw [hsn, anyBad_snoc]; have : isBad x = true := decide_eq_true ⟨k0, by omega⟩
            rw [this, Bool.or_true]; rfl
        · have k2 : ¬ 72057594037927935 < x.n := of_decide_eq_false k2
          refine Ife.mk (fun _ => ?_) (fun h => absurd k0 (of_decide_eq_false h))
          refine Need.mk ⟨hxn, by omega⟩ fun _ => Need.mk hxn fun _ => Need.mk (by show (s.length : Int) + ((Leb.put x.n).length : Int) ≤ 9223372036854775807; omega) fun _ => ?_
          refine hn3.out _ ?_
          generalize hg0 : fitNum = g0
          generalize hg1 : fitText = g1
          generalize hg2 : numBad = g2
          generalize hg3 : numW = g3
          generalize hg4 : textW = g4
          generalize hg5 : bytesW = g5
          generalize hg6 : badW = g6
          generalize hg7 : putW = g7
          generalize hg8 : numS = g8
          generalize hg9 : textS = g9
          generalize hg10 : hashS = g10
          generalize hg11 : countS = g11
          generalize hg12 : endS = g12
          generalize hg13 : okRd = g13
          generalize hg14 : byteI = g14
          generalize hg15 : puAt = g15
          generalize hg16 : fewB = g16
          generalize hg17 : hashOf = g17
          generalize hg18 : textB = g18
          generalize hg19 : (List.length : List UInt8 → Nat) = g19
          generalize hg20 : isI64 = g20
          generalize hg21 : fitPut = g21
          generalize hg22 : Leb.put = g22
          generalize hg23 : wOf = g23
          generalize hg24 : catR = g24
          generalize hg25 : anyBad = g25
          generalize hL : lft Try.prog _ = L
          generalize hA : Arith.std = A
          cbv
          subst hA hg0 hg1 hg2 hg3 hg4 hg5 hg6 hg7 hg8 hg9 hg10 hg11 hg12 hg13 hg14 hg15 hg16 hg17 hg18 hg19 hg20 hg21 hg22 hg23 hg24 hg25 hL
          replace hc : i + 1 ≤ @Nat.cast Int instNatCastInt n := hc
          refine Need.mk (by show fitStd .i64 (i + 1); unfold fitStd; omega) fun _ => ?_
          refine ⟨⟨i + 1, numW l x.n b, numBad x.n b, s ++ Leb.put x.n, e, by omega, by omega, ?_, ?_, ?_⟩, [0, 1, 2, 5], by show n - (i + 1).toNat < n - i.toNat; omega, ?_⟩
          rotate_left 3
          · refine ⟨rfl, by show [0, 2, 5].Nodup; decide, ?_, ?_⟩ <;> repeat' (first | exact trivial | exact rfl | apply And.intro)
          · rw [hsn, wOf_snoc, hw]; unfold wPut; rw [if_pos k0]
          · rw [hsn, catR_snoc, ← hcat]; unfold pieceR; rw [if_pos k0]
          · rw [hsn, anyBad_snoc]; have : isBad x = false := decide_eq_false fun h => by omega
            rw [this, Bool.or_false]; exact hbad
    · have k0 : ¬ x.k = 0 := of_decide_eq_false k0
      refine Ife.mk (fun h => absurd (of_decide_eq_true h) k0) (fun _ => Ife.mk (fun k1 => ?_) (fun k1 => ?_))
      · have k1 : x.k = 1 := of_decide_eq_true k1
        refine Need.mk (by show l.length + x.s.length ≤ 140737488351000; omega) fun _ => Need.mk (by show x.s.length ≤ 9223372036854770000; omega) fun _ => Need.mk (by show (s.length : Int) + ((textB x.s).length : Int) ≤ 9223372036854775807; unfold textB; rw [List.length_append]; omega) fun _ => ?_
        refine hn3.out _ ?_
        generalize hg0 : fitNum = g0
        generalize hg1 : fitText = g1
        generalize hg2 : numBad = g2
        generalize hg3 : numW = g3
        generalize hg4 : textW = g4
        generalize hg5 : bytesW = g5
        generalize hg6 : badW = g6
        generalize hg7 : putW = g7
        generalize hg8 : numS = g8
        generalize hg9 : textS = g9
        generalize hg10 : hashS = g10
        generalize hg11 : countS = g11
        generalize hg12 : endS = g12
        generalize hg13 : okRd = g13
        generalize hg14 : byteI = g14
        generalize hg15 : puAt = g15
        generalize hg16 : fewB = g16
        generalize hg17 : hashOf = g17
        generalize hg18 : textB = g18
        generalize hg19 : (List.length : List UInt8 → Nat) = g19
        generalize hg20 : isI64 = g20
        generalize hg21 : fitPut = g21
        generalize hg22 : Leb.put = g22
        generalize hg23 : wOf = g23
        generalize hg24 : catR = g24
        generalize hg25 : anyBad = g25
        generalize hL : lft Try.prog _ = L
        generalize hA : Arith.std = A
        cbv
        subst hA hg0 hg1 hg2 hg3 hg4 hg5 hg6 hg7 hg8 hg9 hg10 hg11 hg12 hg13 hg14 hg15 hg16 hg17 hg18 hg19 hg20 hg21 hg22 hg23 hg24 hg25 hL
        replace hc : i + 1 ≤ @Nat.cast Int instNatCastInt n := hc
        refine Need.mk (by show fitStd .i64 (i + 1); unfold fitStd; omega) fun _ => ?_
        refine ⟨⟨i + 1, textW l x.s b, numBad x.s.length b, s ++ textB x.s, e, by omega, by omega, ?_, ?_, ?_⟩, [0, 1, 2, 5], by show n - (i + 1).toNat < n - i.toNat; omega, ?_⟩
        rotate_left 3
        · refine ⟨rfl, by show [0, 2, 5].Nodup; decide, ?_, ?_⟩ <;> repeat' (first | exact trivial | exact rfl | apply And.intro)
        · rw [hsn, wOf_snoc, hw]; unfold wPut; rw [if_neg k0, if_pos k1]
        · rw [hsn, catR_snoc, ← hcat]; unfold pieceR; rw [if_neg k0, if_pos k1]
        · rw [hsn, anyBad_snoc]; have : isBad x = false := decide_eq_false fun h => by omega
          rw [this, Bool.or_false]; exact hbad
      · have k1 : ¬ x.k = 1 := of_decide_eq_false k1
        refine Need.mk (by show l.length ≤ 140737488355000; omega) fun _ => Need.mk trivial fun _ => Need.mk (by show (s.length : Int) + (32 : Int) ≤ 9223372036854775807; omega) fun _ => ?_
        refine hn3.out _ ?_
        generalize hg0 : fitNum = g0
        generalize hg1 : fitText = g1
        generalize hg2 : numBad = g2
        generalize hg3 : numW = g3
        generalize hg4 : textW = g4
        generalize hg5 : bytesW = g5
        generalize hg6 : badW = g6
        generalize hg7 : putW = g7
        generalize hg8 : numS = g8
        generalize hg9 : textS = g9
        generalize hg10 : hashS = g10
        generalize hg11 : countS = g11
        generalize hg12 : endS = g12
        generalize hg13 : okRd = g13
        generalize hg14 : byteI = g14
        generalize hg15 : puAt = g15
        generalize hg16 : fewB = g16
        generalize hg17 : hashOf = g17
        generalize hg18 : textB = g18
        generalize hg19 : (List.length : List UInt8 → Nat) = g19
        generalize hg20 : isI64 = g20
        generalize hg21 : fitPut = g21
        generalize hg22 : Leb.put = g22
        generalize hg23 : wOf = g23
        generalize hg24 : catR = g24
        generalize hg25 : anyBad = g25
        generalize hL : lft Try.prog _ = L
        generalize hA : Arith.std = A
        cbv
        subst hA hg0 hg1 hg2 hg3 hg4 hg5 hg6 hg7 hg8 hg9 hg10 hg11 hg12 hg13 hg14 hg15 hg16 hg17 hg18 hg19 hg20 hg21 hg22 hg23 hg24 hg25 hL
        replace hc : i + 1 ≤ @Nat.cast Int instNatCastInt n := hc
        refine Need.mk (by show fitStd .i64 (i + 1); unfold fitStd; omega) fun _ => ?_
        refine ⟨⟨i + 1, putW l (sumB x) b, b, s ++ sumB x, e, by omega, by omega, ?_, ?_, ?_⟩, [0, 1, 2, 5], by show n - (i + 1).toNat < n - i.toNat; omega, ?_⟩
        rotate_left 3
        · refine ⟨rfl, by show [0, 2, 5].Nodup; decide, ?_, ?_⟩ <;> repeat' (first | exact trivial | exact rfl | apply And.intro)
        · rw [hsn, wOf_snoc, hw]; unfold wPut; rw [if_neg k0, if_neg k1]
        · rw [hsn, catR_snoc, ← hcat]; unfold pieceR; rw [if_neg k0, if_neg k1]
        · rw [hsn, anyBad_snoc]; have : isBad x = false := decide_eq_false fun h => by omega
          rw [this, Bool.or_false]; exact hbad

noncomputable def sWrites : SpecR
  | [.c (.row 0)], [(n, get)] => some ((PutsAt n get ∧ n ≤ 9223372036854775807), .c (.bool true))
  | _, _ => none

set_option maxRecDepth 100000 in
set_option maxHeartbeats 2000000 in
theorem writesP : Rds Try.prog 12 35 sWrites := by
  have hC : CtsOk Try.prog [(39, appPure sTrueW), (40, appRds 35 sFew), (41, appMakesW 89 5), (42, appFn [] [(61, 35)] sWrite), (43, appW 89 5 sBytes)] := CtsOk.cons (Pure.ct firstWP) <| CtsOk.cons (Rds.ct fewP) <| CtsOk.cons (MakesW.ct newWP) <| CtsOk.cons (Fn.ct writeP) <| CtsOk.cons (MethW.ct bytesP) <| CtsOk.nil _
  refine Rds.of (E := tbW) [] 0 [] tbW_ok hC (by kernel_rfl) Try.func12 rfl rfl rfl (by kernel_rfl) (by kernel_rfl) 61 1 ?_ ?_
  · intro args vs pre r h
    unfold sWrites at h
    split at h
    · cases h; exact ⟨rfl, rfl⟩
    · cases h
  · intro args vs pre r h hp
    unfold sWrites at h
    split at h
    rotate_left
    · cases h
    rename_i n get
    cases h
    obtain ⟨hp1, hp3⟩ := hp
    refine ⟨_, hp1.same, ?_⟩
    have hp2 : PutsAt n (fun i => puE byteI (puAt (get i))) := fun i hi => ⟨puAt (get i), rfl, (puAt_ok hp1 hi).2⟩
    unfold sTrueW sFew sWrite sBytes
    generalize hg0 : fitNum = g0
    generalize hg1 : fitText = g1
    generalize hg2 : numBad = g2
    generalize hg3 : numW = g3
    generalize hg4 : textW = g4
    generalize hg5 : bytesW = g5
    generalize hg6 : badW = g6
    generalize hg7 : putW = g7
    generalize hg8 : numS = g8
    generalize hg9 : textS = g9
    generalize hg10 : hashS = g10
    generalize hg11 : countS = g11
    generalize hg12 : endS = g12
    generalize hg13 : okRd = g13
    generalize hg14 : byteI = g14
    generalize hg15 : puAt = g15
    generalize hg16 : fewB = g16
    generalize hg17 : hashOf = g17
    generalize hg18 : textB = g18
    generalize hg19 : (List.length : List UInt8 → Nat) = g19
    generalize hg20 : isI64 = g20
    generalize hg21 : fitPut = g21
    generalize hg22 : Leb.put = g22
    generalize hg23 : wOf = g23
    generalize hg24 : catR = g24
    generalize hg25 : anyBad = g25
    generalize hg26 : pusOf = g26
    generalize hg27 : PutsAt = g27
    generalize hL : lft Try.prog _ = L
    generalize hA : Arith.std = A
    cbv
    subst hA hg0 hg1 hg2 hg3 hg4 hg5 hg6 hg7 hg8 hg9 hg10 hg11 hg12 hg13 hg14 hg15 hg16 hg17 hg18 hg19 hg20 hg21 hg22 hg23 hg24 hg25 hg26 hg27 hL
    replace hp2 : PutsAt n (fun i => puC (puAt (get i))) := hp2
    generalize (fun i => puC (puAt (get i))) = g at *
    refine Need.mk trivial fun _ => Need.mk ⟨hp2, hp3⟩ fun _ => Ife.mk (fun _ => Need.mk trivial fun _ => trivial) (fun hf => ?_)
    have hf : fewB n g = true := by
      cases h : fewB n g with
      | true => rfl
      | false => rw [h] at hf; cases hf
    refine Need.mk trivial fun _ => Need.mk ⟨hp2, hf⟩ fun _ => Need.mk trivial fun _ => Need.mk trivial fun _ => ?_
    have hinv := WInv.take hf n (Nat.le_refl n)
    rw [List.take_of_length_le (by rw [len_pus]; exact Nat.le_refl n)] at hinv
    generalize pusOf n g = xs at *
    have e1 : bytesW (wOf xs).1 (wOf xs).2 = if anyBad xs = true then [] else catR xs := by
      rw [← hinv.bad]
      unfold bytesW
      cases h : (wOf xs).2 with
      | true => rfl
      | false => simp [hinv.cat h]
    have e2 : badW (wOf xs).2 = badW (anyBad xs) := by rw [hinv.bad]
    rw [e1, e2]
    simp [Ife_iff, Arith.std]

end Vx
open Go.ChangeShapes Go.WideShapes Go.ChangeAt
theorem wireWritesWalk (w : World) (a : Option Addr) (cap : Nat) (xs : List Pu) (hE : PutsIn w a xs) (hn : xs.length ≤ maxLen) :
    Calls Try.prog 12 #[.slice a xs.length cap] w fun e w' => e = .returned (.bool true) ∧ Below w.heap.size w w' := by
  obtain ⟨p, hp, g⟩ := PutsIn.good (cap := cap) hE
  rw [← hp]
  refine Calls.mono (Vx.writesP.run [.c (.row 0)] [(xs.length, fun i => Vx.puC (xs.getD i zeroPu))] _ _ rfl ⟨hE.at_, hn⟩ w [p] _ (Vx.GoodL.cons g (Vx.GoodL.nil _ _))
    ⟨_, _, rfl, isRow g, rfl⟩) fun e W' he => ?_
  obtain ⟨u, rfl, h, hb⟩ := he
  obtain rfl : .bool true = u := Option.some.inj h
  exact ⟨rfl, hb⟩
end Go.Proofs.Ytfchejgohegbgaa
