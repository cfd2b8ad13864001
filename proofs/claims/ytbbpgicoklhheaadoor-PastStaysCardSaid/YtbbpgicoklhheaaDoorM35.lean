/- What a proof shows: Value, Has, Lacks, by the walker. -/
import Derived.Test.YtbbpgicoklhheaaDoorM34
import Derived.Test.YtbbpgicoklhheaaDoorM2
import Derived.Test.YtbbpgicoklhheaaDoorM24
section
namespace Go.Proofs.YtbbpgicoklhheaaDoor.Vx
open Sha
open Go.RowKit
set_option linter.unusedVariables false
set_option linter.unusedSimpArgs false






end Go.Proofs.YtbbpgicoklhheaaDoor.Vx
end

section
/- What is kept at heights, plainly. -/
namespace Go.Proofs.YtbbpgicoklhheaaDoor.Vx
open Sha
open Go.RowKit
set_option linter.unusedVariables false
set_option linter.unusedSimpArgs false
/-- A height, a time, and what was stored then. -/
abbrev PaR := Int × Int × List PP
def pH (L : List PaR) (i : Nat) : Int := (L.getD i (0, 0, [])).1
/-- The numbers of a header: height, time, root. -/
def h34 (h t : Int) (f : Nat → Int) : List Int := [h, t, f 0, f 1, f 2, f 3, f 4, f 5, f 6, f 7, f 8, f 9, f 10, f 11, f 12, f 13, f 14, f 15, f 16, f 17, f 18, f 19, f 20, f 21, f 22, f 23, f 24, f 25, f 26, f 27, f 28, f 29, f 30, f 31]
def pNum (r : PaR) : Nat → Int := numL (h34 r.1 r.2.1 (rootL r.2.2))
def pKey (h : Int) : Value := .agg #[.int .i64 h]
def pRec (r : PaR) : MRec := ⟨pNum r, r.2.2.length, prG r.2.2⟩
def pQ (L : List PaR) : List (Value × MRec) := L.map fun r => (pKey r.1, pRec r)
def pOf (q : Value × MRec) : PaR := (q.2.num 0, q.2.num 1, prL q.2.n q.2.get)
def pL (l : List (Value × MRec)) : List PaR := l.map pOf
def mkGP (zp0 : type_of% @pH) (L : List PaR) (i : Nat) : List CV := [.int .i64 (zp0 L i)]
@[reducible] def mkG := mkGP pH
/-- A header, as cells. -/
def hd34 (f : Nat → Int) : List CV := [.int .i64 (f 0), .int .i64 (f 1), .int .u8 (f 2), .int .u8 (f 3), .int .u8 (f 4), .int .u8 (f 5), .int .u8 (f 6), .int .u8 (f 7), .int .u8 (f 8), .int .u8 (f 9), .int .u8 (f 10), .int .u8 (f 11), .int .u8 (f 12), .int .u8 (f 13), .int .u8 (f 14), .int .u8 (f 15), .int .u8 (f 16), .int .u8 (f 17), .int .u8 (f 18), .int .u8 (f 19), .int .u8 (f 20), .int .u8 (f 21), .int .u8 (f 22), .int .u8 (f 23), .int .u8 (f 24), .int .u8 (f 25), .int .u8 (f 26), .int .u8 (f 27), .int .u8 (f 28), .int .u8 (f 29), .int .u8 (f 30), .int .u8 (f 31), .int .u8 (f 32), .int .u8 (f 33)]
def pMT : MTy := ⟨[0], [.i64, .i64, .u8, .u8, .u8, .u8, .u8, .u8, .u8, .u8, .u8, .u8, .u8, .u8, .u8, .u8, .u8, .u8, .u8, .u8, .u8, .u8, .u8, .u8, .u8, .u8, .u8, .u8, .u8, .u8, .u8, .u8, .u8, .u8], 65, 44, 2⟩
theorem pL_pQ (L : List PaR) : pL (pQ L) = L := by
  unfold pL pQ
  rw [List.map_map]
  conv => rhs; rw [← List.map_id L]
  apply List.map_congr_left
  rintro ⟨h, t, S⟩ _
  show (h, t, prL S.length (prG S)) = _
  rw [prL_prG]
  rfl
theorem pQ_app (L : List PaR) (r : PaR) : pQ (L ++ [r]) = pQ L ++ [(pKey r.1, pRec r)] := by simp [pQ]
/-- Is something kept at a height? -/
def paHas (L : List PaR) (h : Int) : Bool := match L with
  | [] => false
  | r :: L => if r.1 = h then true else paHas L h
def paRec (L : List PaR) (h : Int) : PaR := match L with
  | [] => (0, 0, [])
  | r :: L => if r.1 = h then r else paRec L h
def paL (L : List PaR) (h : Int) : List PP := (paRec L h).2.2
def paNum (L : List PaR) (h : Int) : Nat → Int := if paHas L h = true then pNum (paRec L h) else fun _ => 0
theorem pKey_inj {a b : Int} : pKey a = pKey b ↔ a = b := by simp [pKey]
open Classical in
theorem mqHas_pQ (L : List PaR) (h : Int) : mqHas (pKey h) (pQ L) = paHas L h := by
  induction L with
  | nil => rfl
  | cons r L ih =>
    show (if pKey r.1 = pKey h then true else mqHas (pKey h) (pQ L)) = if r.1 = h then true else paHas L h
    rw [ih]
    by_cases e : r.1 = h
    · rw [if_pos e, if_pos (pKey_inj.2 e)]
    · rw [if_neg e, if_neg (fun k => e (pKey_inj.1 k))]
open Classical in
theorem mqRec_pQ {L : List PaR} {h : Int} (hh : paHas L h = true) : mqRec (pKey h) (pQ L) = pRec (paRec L h) := by
  induction L with
  | nil => cases hh
  | cons r L ih =>
    show (if pKey r.1 = pKey h then pRec r else mqRec (pKey h) (pQ L)) = pRec (if r.1 = h then r else paRec L h)
    by_cases e : r.1 = h
    · rw [if_pos e, if_pos (pKey_inj.2 e)]
    · rw [if_neg e, if_neg (fun k => e (pKey_inj.1 k))]
      refine ih ?_
      have hh : (if r.1 = h then true else paHas L h) = true := hh
      rwa [if_neg e] at hh
theorem mqNum_pQ {L : List PaR} {h : Int} (hh : paHas L h = true) : mqNum (pKey h) (pQ L) = paNum L h := by
  unfold mqNum paNum
  rw [mqRec_pQ hh, if_pos hh]
  rfl
theorem mqN_pQ {L : List PaR} {h : Int} (hh : paHas L h = true) : mqN (pKey h) (pQ L) = (paL L h).length := by
  unfold mqN
  rw [mqRec_pQ hh]
  rfl
theorem mqRow_pQ {L : List PaR} {h : Int} (hh : paHas L h = true) : mqRow (pKey h) (pQ L) = prG (paL L h) := by
  unfold mqRow
  rw [mqRec_pQ hh]
  rfl
theorem paL_no {L : List PaR} {h : Int} (hh : paHas L h = false) : paRec L h = (0, 0, []) := by
  induction L with
  | nil => rfl
  | cons r L ih =>
    have hh : (if r.1 = h then true else paHas L h) = false := hh
    show (if r.1 = h then r else paRec L h) = _
    by_cases e : r.1 = h
    · rw [if_pos e] at hh; cases hh
    · rw [if_neg e] at hh ⊢
      exact ih hh
theorem paHas_mem {L : List PaR} {h : Int} : paHas L h = true ↔ ∃ r ∈ L, r.1 = h := by
  induction L with
  | nil =>
    constructor
    · intro h; cases h
    · rintro ⟨_, h, _⟩; cases h
  | cons r L ih =>
    show (if r.1 = h then true else paHas L h) = true ↔ _
    by_cases e : r.1 = h
    · rw [if_pos e]; exact ⟨fun _ => ⟨r, by simp, e⟩, fun _ => rfl⟩
    · rw [if_neg e, ih]
      constructor
      · rintro ⟨q, h1, h2⟩; exact ⟨q, by simp [h1], h2⟩
      · rintro ⟨q, h1, h2⟩
        rcases List.mem_cons.1 h1 with h3 | h3
        · subst h3; exact absurd h2 e
        · exact ⟨q, h3, h2⟩
theorem paRec_mem {L : List PaR} {h : Int} (hh : paHas L h = true) : paRec L h ∈ L ∧ (paRec L h).1 = h := by
  induction L with
  | nil => cases hh
  | cons r L ih =>
    have hh : (if r.1 = h then true else paHas L h) = true := hh
    show (if r.1 = h then r else paRec L h) ∈ r :: L ∧ (if r.1 = h then r else paRec L h).1 = h
    by_cases e : r.1 = h
    · rw [if_pos e]; exact ⟨by simp, e⟩
    · rw [if_neg e] at hh ⊢
      exact ⟨by simp [(ih hh).1], (ih hh).2⟩
open Classical in
theorem mqSet_pQ {L : List PaR} {h : Int} (m : MRec) (hh : paHas L h = false) : mqSet (pKey h) m (pQ L) = pQ L ++ [(pKey h, m)] := by
  induction L with
  | nil => rfl
  | cons r L ih =>
    have hh : (if r.1 = h then true else paHas L h) = false := hh
    by_cases e : r.1 = h
    · rw [if_pos e] at hh; cases hh
    · rw [if_neg e] at hh
      show (if pKey r.1 = pKey h then _ else (pKey r.1, pRec r) :: mqSet (pKey h) m (pQ L)) = _
      rw [if_neg (fun k => e (pKey_inj.1 k)), ih hh]
      rfl
/-- What is kept: heights rise, pairs are in order. -/
structure PaS (L : List PaR) : Prop where
  up : L.Pairwise fun a b => a.1 < b.1
  pos : ∀ r ∈ L, 1 ≤ r.1 ∧ r.1 ≤ 1099511627776
  ok : ∀ r ∈ L, StS r.2.2 ∧ AllSz r.2.2 ∧ r.2.2.length ≤ 1000000
  len : L.length ≤ 1000000
def pLast (L : List PaR) : Int := if L.length = 0 then 0 else pH L (L.length - 1)
theorem pH_mem {L : List PaR} {i : Nat} (h : i < L.length) : ∃ r ∈ L, r.1 = pH L i := ⟨L[i], List.getElem_mem h, by simp [pH, List.getD, h]⟩
theorem PaS.last {L : List PaR} (hp : PaS L) : ∀ r ∈ L, r.1 ≤ pLast L := fun r hr => by
  obtain ⟨i, hi, rfl⟩ := List.getElem_of_mem hr
  have h0 : ¬ L.length = 0 := by omega
  unfold pLast
  rw [if_neg h0]
  have e : pH L (L.length - 1) = (L[L.length - 1]'(by omega)).1 := by simp [pH, List.getD, show L.length - 1 < L.length by omega]
  rw [e]
  rcases Nat.lt_or_ge i (L.length - 1) with h | h
  · have := List.pairwise_iff_getElem.1 hp.up i (L.length - 1) hi (by omega) h
    omega
  · have : i = L.length - 1 := by omega
    subst this
    exact Int.le_refl _
theorem pLast_nonneg {L : List PaR} (hp : PaS L) : 0 ≤ pLast L ∧ pLast L ≤ 1099511627776 := by
  unfold pLast
  split
  · omega
  · rename_i h0
    obtain ⟨r, h1, h2⟩ := pH_mem (L := L) (i := L.length - 1) (by omega)
    have := hp.pos r h1
    omega
theorem PaS.at {L : List PaR} (hp : PaS L) (h : Int) : StS (paL L h) ∧ AllSz (paL L h) ∧ (paL L h).length ≤ 1000000 := by
  unfold paL
  cases hb : paHas L h with
  | true => exact hp.ok _ (paRec_mem hb).1
  | false =>
    rw [paL_no hb]
    exact ⟨List.Pairwise.nil, (fun p hp => by cases hp), by decide⟩
/-- What Keep says, and what is kept then. -/
def keepE (L : List PaR) (h t : Int) : Int := if h < 1 ∨ 1099511627776 < h ∨ t < 0 ∨ 1099511627776 < t then 1 else if h ≤ pLast L then 16 else 0
def keepL (L : List PaR) (h t : Int) (S : List PP) : List PaR := if keepE L h t = 0 then L ++ [(h, t, S)] else L
theorem keepE_ok {L : List PaR} {h t : Int} (h1 : ¬ h < 1) (h2 : ¬ 1099511627776 < h) (h3 : ¬ t < 0) (h4 : ¬ 1099511627776 < t) (h5 : ¬ h ≤ pLast L) : keepE L h t = 0 := by
  unfold keepE
  rw [if_neg (by omega), if_neg h5]
theorem keepE_yes {L : List PaR} {h t : Int} (k : keepE L h t = 0) : 1 ≤ h ∧ h ≤ 1099511627776 ∧ 0 ≤ t ∧ t ≤ 1099511627776 ∧ pLast L < h := by
  unfold keepE at k
  split at k
  · cases k
  · split at k
    · cases k
    · omega
theorem PaS.new {L : List PaR} (hp : PaS L) {h : Int} (k : pLast L < h) : paHas L h = false := by
  rw [Bool.eq_false_iff]
  intro hb
  obtain ⟨r, h1, h2⟩ := paHas_mem.1 hb
  have := hp.last r h1
  omega
theorem keepL_ok {L : List PaR} {h t : Int} {S : List PP} (hp : PaS L) (hS : StS S ∧ AllSz S ∧ S.length ≤ 1000000) (hl : L.length < 1000000) : PaS (keepL L h t S) := by
  unfold keepL
  split
  · rename_i k
    obtain ⟨h1, h2, h3, h4, h5⟩ := keepE_yes k
    refine ⟨List.pairwise_append.2 ⟨hp.up, List.pairwise_singleton _ _, fun a ha b hb => ?_⟩, fun r hr => ?_, fun r hr => ?_, by simp; omega⟩
    · rw [List.mem_singleton.1 hb]
      have := hp.last a ha
      show a.1 < h
      omega
    · rcases List.mem_append.1 hr with k | k
      · exact hp.pos r k
      · rw [List.mem_singleton.1 k]; exact ⟨h1, h2⟩
    · rcases List.mem_append.1 hr with k | k
      · exact hp.ok r k
      · rw [List.mem_singleton.1 k]; exact hS
  · exact hp
theorem pas_nil : PaS [] := ⟨List.Pairwise.nil, (fun r h => by cases h), (fun r h => by cases h), by decide⟩
theorem mk_push (L : List PaR) (r : PaR) (i : Nat) (h : i < L.length + 1) : pushG L.length (mkG L) [.int .i64 r.1] i = mkG (L ++ [r]) i := by
  unfold pushG mkG mkGP pH
  by_cases hi : i < L.length
  · rw [show Nat.blt i L.length = true by simpa [Nat.blt_eq] using hi]
    simp [List.getD, List.getElem?_append_left hi]
  · rw [show Nat.blt i L.length = false by rw [Bool.eq_false_iff]; intro h2; exact hi (by simpa [Nat.blt_eq] using h2)]
    obtain rfl : i = L.length := by omega
    simp [List.getD]
/-- What a past is, in memory. -/
def paPre (t : Nat) (mt : MTy) (ml : List (Value × MRec)) (ty one n : Nat) (get : Nat → List CV) : Prop := t = 63 ∧ mt = pMT ∧ ml = pQ (pL ml) ∧ ty = 73 ∧ one = 1 ∧ n = (pL ml).length ∧ (∀ i, i < n → get i = mkG (pL ml) i) ∧ PaS (pL ml)
theorem paPre_mk {L : List PaR} (h : PaS L) : paPre 63 pMT (pQ L) 73 1 L.length (mkG L) := by
  refine ⟨rfl, rfl, ?_, rfl, rfl, ?_, fun i _ => ?_, ?_⟩ <;> rw [pL_pQ]
  exact h
end Go.Proofs.YtbbpgicoklhheaaDoor.Vx
end

section
/- Acts on a store, by the walker: Few; and the store's Prove. -/
namespace Go.Proofs.YtbbpgicoklhheaaDoor.Vx
open Sha
open Go.RowKit
set_option linter.unusedVariables false
set_option linter.unusedSimpArgs false






end Go.Proofs.YtbbpgicoklhheaaDoor.Vx
end

section
/- Stores that lie still: find, Get, Under, Prove, by the walker. -/
namespace Go.Proofs.YtbbpgicoklhheaaDoor.Vx
open Sha
open Go.RowKit
set_option linter.unusedVariables false
set_option linter.unusedSimpArgs false
/-- A store that lies still, as a cell. -/
def esLP (zp0 : type_of% @prL) : Cell → List PP
  | .es _ _ _ n g => zp0 n g
  | _ => []
@[reducible] def esL := esLP prL
def esN : Cell → Nat
  | .es _ _ _ n _ => n
  | _ => 0
def esPre (fr : Bool) (ty sz n : Nat) (c : Cell) : Prop := fr = false ∧ ty = 65 ∧ sz = 1 ∧ n = 1 ∧ ∃ m g, c = .es false 44 2 m g ∧ PrAt m g ∧ m ≤ 1000000
theorem esPre_mk {L : List PP} {n : Nat} (hm : n ≤ 1000000) : esPre false 65 1 1 (.es false 44 2 n (prG L)) := ⟨rfl, rfl, rfl, rfl, n, prG L, rfl, prAt_prG n L, hm⟩
def tbSq : Tbl where
  T :=
    (3, ⟨1, false, [.int .i64 (0)], .int .i64, 8⟩) ::
    (4, ⟨1, false, [.ff], .bool, 1⟩) ::
    (9, ⟨1, false, [.str []], .str, 16⟩) ::
    (105, ⟨1, false, [.int .u64 (0)], .int .u64, 8⟩) ::
    (44, ⟨2, true, [.str [], .str []], .struct [(0, (1, false)), (1, (1, false))], 32⟩) ::
    (41, ⟨1, false, [.val (.slice none 0 0)], .slice 44, 24⟩) ::
    (65, ⟨1, true, [.val (.slice none 0 0)], .struct [(0, (1, false))], 24⟩) ::
    (27, ⟨1, false, [.val (.pointer none)], .ptr 65, 8⟩) ::
    []
  F :=
    []

theorem tbSq_ok : tbSq.Ok Tryd.prog where
  T :=
    TblOk.cons (by kernel_rfl) <|
    TblOk.cons (by kernel_rfl) <|
    TblOk.cons (by kernel_rfl) <|
    TblOk.cons (by kernel_rfl) <|
    TblOk.cons (by kernel_rfl) <|
    TblOk.cons (by kernel_rfl) <|
    TblOk.cons (by kernel_rfl) <|
    TblOk.cons (by kernel_rfl) <|
    TblOk.nil _
  F :=
    FlatsOk.nil _

def sFindQ : SpecF
  | [.c (.eptr 0 0 1 0), .c (.str k)], [.data fr ty sz n0 get] => some (esPre fr ty sz n0 (get 0 0) ∧ StS (esL (get 0 0)), .tup [(some (.int .i64 (findI (esL (get 0 0)) k : Int)), []), (some (.bool (findB (esL (get 0 0)) k)), [])], [.data false 65 1 1 fun _ _ => .es false 44 2 (esN (get 0 0)) (prG (esL (get 0 0)))])
  | _, _ => none

set_option maxRecDepth 100000 in
set_option maxHeartbeats 8000000 in
theorem findQP : Fn Tryd.prog 21 [] [] sFindQ := by
  have hC : CtsOk Tryd.prog [(35, appFn [] [(44, 2)] sBs)] := CtsOk.cons (Fn.ct bsP) <| CtsOk.nil _
  refine Fn.of (E := tbSq) [] 0 [] tbSq_ok hC (by kernel_rfl) Tryd.func21 rfl rfl rfl (by kernel_rfl) (by kernel_rfl) 1 5 1 ?_ ?_
  · intro args h pre r h' hs
    unfold sFindQ at hs
    split at hs
    · cases hs; exact ⟨rfl, rfl, Nat.le_of_ble_eq_true rfl⟩
    · cases hs
  · intro args h pre r h' hs hp
    unfold sFindQ at hs
    split at hs
    rotate_left
    · cases hs
    rename_i k fr ty sz n0 get
    cases hs
    obtain ⟨⟨rfl, rfl, rfl, rfl, n, g, hc, hst, hm⟩, hs⟩ := hp
    rw [hc] at hs ⊢
    replace hs : StS (prL n g) := hs
    refine ⟨[.data false 65 1 1 fun _ _ => .es false 44 2 n (prG (prL n g))], ⟨⟨rfl, rfl, rfl, rfl, fun i j hi hj => ?_⟩, trivial⟩, ?_⟩
    · obtain rfl : i = 0 := by omega
      obtain rfl : j = 0 := by omega
      rw [hc]
      exact es_leq rfl fun i hi => hst.eq hi
    dsimp only [esL, esLP, esN]
    have hL : (prL n g).length = n := prL_len
    have ePR : prL n (prG (prL n g)) = prL n g := by
      have := prL_prG (prL n g)
      rwa [hL] at this
    clear hc
    generalize prL n g = L at hL hs ePR ⊢
    unfold sBs
    generalize hg0 : (List.length : List PP → Nat) = g0
    try unfold prG
    try unfold esL
    generalize ho0 : @prK = zo0, ho1 : @prV = zo1, ho2 : @prL = zo2, ho3 : @findI = zo3, ho4 : @findB = zo4, ho5 : @prPre = zo5, ho6 : @StS = zo6, ho7 : @esPre = zo7
    generalize hA : Arith.std = A
    cbv
    subst hA hg0 ho0 ho1 ho2 ho3 ho4 ho5 ho6 ho7
    try simp only [esL, esLP, esN, Cell.old]
    refine Need.mk (Nat.le_refl 1) fun _ => Need.mk ⟨⟨rfl, rfl, prAt_prG n L, hm⟩, by rw [ePR]; exact hs⟩ fun _ => ?_
    rw [ePR]
    exact ⟨[0], ⟨rfl, (by repeat' (first | exact trivial | exact rfl | apply And.intro | exact (fun _ _ _ _ => Cell.le_refl _) | (intro i hi; rfl) | (intro i hi; exact absurd hi (Nat.not_lt_zero _)))), (by first | decide | exact List.nodup_nil), rfl, by repeat' (first | exact trivial | exact rfl | apply And.intro | exact (fun _ _ _ _ => Cell.le_refl _) | (intro i hi; rfl) | (intro i hi; exact absurd hi (Nat.not_lt_zero _)))⟩⟩

def sGetQ : SpecF
  | [.c (.eptr 0 0 1 0), .c (.str k)], [.data fr ty sz n0 get] => some (esPre fr ty sz n0 (get 0 0) ∧ StS (esL (get 0 0)), .tup [(some (.str (getL (esL (get 0 0)) k)), []), (some (.bool (findB (esL (get 0 0)) k)), [])], [.data false 65 1 1 fun _ _ => .es false 44 2 (esN (get 0 0)) (prG (esL (get 0 0)))])
  | _, _ => none

set_option maxRecDepth 100000 in
set_option maxHeartbeats 8000000 in
theorem getQP : Fn Tryd.prog 29 [] [] sGetQ := by
  have hC : CtsOk Tryd.prog [(21, appFn [] [] sFindQ)] := CtsOk.cons (Fn.ct findQP) <| CtsOk.nil _
  refine Fn.of (E := tbSq) [] 0 [] tbSq_ok hC (by kernel_rfl) Tryd.func29 rfl rfl rfl (by kernel_rfl) (by kernel_rfl) 1 5 1 ?_ ?_
  · intro args h pre r h' hs
    unfold sGetQ at hs
    split at hs
    · cases hs; exact ⟨rfl, rfl, Nat.le_of_ble_eq_true rfl⟩
    · cases hs
  · intro args h pre r h' hs hp
    unfold sGetQ at hs
    split at hs
    rotate_left
    · cases hs
    rename_i k fr ty sz n0 get
    cases hs
    obtain ⟨⟨rfl, rfl, rfl, rfl, n, g, hc, hst, hm⟩, hs⟩ := hp
    rw [hc] at hs ⊢
    replace hs : StS (prL n g) := hs
    refine ⟨[.data false 65 1 1 fun _ _ => .es false 44 2 n (prG (prL n g))], ⟨⟨rfl, rfl, rfl, rfl, fun i j hi hj => ?_⟩, trivial⟩, ?_⟩
    · obtain rfl : i = 0 := by omega
      obtain rfl : j = 0 := by omega
      rw [hc]
      exact es_leq rfl fun i hi => hst.eq hi
    dsimp only [esL, esLP, esN]
    have hL : (prL n g).length = n := prL_len
    have ePR : prL n (prG (prL n g)) = prL n g := by
      have := prL_prG (prL n g)
      rwa [hL] at this
    clear hc
    generalize prL n g = L at hL hs ePR ⊢
    unfold sFindQ
    generalize hg0 : (List.length : List PP → Nat) = g0
    try unfold prG
    try unfold esL
    generalize ho0 : @prK = zo0, ho1 : @prV = zo1, ho2 : @prL = zo2, ho3 : @findI = zo3, ho4 : @findB = zo4, ho5 : @getL = zo5, ho6 : @StS = zo6, ho7 : @esPre = zo7
    generalize hA : Arith.std = A
    cbv
    subst hA hg0 ho0 ho1 ho2 ho3 ho4 ho5 ho6 ho7
    try simp only [esL, esLP, esN, Cell.old]
    refine Need.mk ⟨⟨rfl, rfl, rfl, rfl, n, prG L, rfl, prAt_prG n L, hm⟩, by show StS (prL n (prG L)); rw [ePR]; exact hs⟩ fun _ => ?_
    simp only [ePR]
    refine Ife.mk (fun h => ?_) (fun h => ?_)
    · have h : (!findB L k) = true := h
      have hb : findB L k = false := by simpa using h
      have hR1 : ([] : List UInt8) = getL L k := by unfold getL; rw [hb]; rfl
      rw [hb]
      exact ⟨[0], ⟨rfl, (by repeat' (first | exact trivial | exact hR1 | exact hR2 | exact rfl | apply And.intro | exact (fun _ _ _ _ => Cell.le_refl _) | (intro i hi; rfl) | (intro i hi; exact absurd hi (Nat.not_lt_zero _)))), (by first | decide | exact List.nodup_nil), rfl, by repeat' (first | exact trivial | exact hR1 | exact hR2 | exact rfl | apply And.intro | exact (fun _ _ _ _ => Cell.le_refl _) | (intro i hi; rfl) | (intro i hi; exact absurd hi (Nat.not_lt_zero _)))⟩⟩
    · have h : (!findB L k) = false := h
      have hb : findB L k = true := by simpa using h
      obtain ⟨h1, h2⟩ := findB_eq hb
      refine Need.mk (Nat.le_refl 1) fun _ => Need.mk (by show 0 ≤ (findI L k : Int) ∧ (findI L k : Int) < (n : Int); omega) fun _ => Need.mk (by show (findI L k : Int).toNat < n; omega) fun _ => ?_
      have hR1 : prV L (findI L k) = getL L k := by unfold getL; rw [hb]; rfl
      rw [hb]
      exact ⟨[0], ⟨rfl, (by repeat' (first | exact trivial | exact hR1 | exact hR2 | exact rfl | apply And.intro | exact (fun _ _ _ _ => Cell.le_refl _) | (intro i hi; rfl) | (intro i hi; exact absurd hi (Nat.not_lt_zero _)))), (by first | decide | exact List.nodup_nil), rfl, by repeat' (first | exact trivial | exact hR1 | exact hR2 | exact rfl | apply And.intro | exact (fun _ _ _ _ => Cell.le_refl _) | (intro i hi; rfl) | (intro i hi; exact absurd hi (Nat.not_lt_zero _)))⟩⟩

def sUnderQ : SpecF
  | [.c (.eptr 0 0 1 0), .c (.str f)], [.data fr ty sz n0 get] => some (esPre fr ty sz n0 (get 0 0) ∧ StS (esL (get 0 0)), .c (.row 1), [.data false 65 1 1 fun _ _ => .es false 44 2 (esN (get 0 0)) (prG (esL (get 0 0))), .row 44 2 (underL (esL (get 0 0)) f).length (prG (underL (esL (get 0 0)) f))])
  | _, _ => none

set_option maxRecDepth 100000 in
set_option maxHeartbeats 8000000 in
theorem underQP : Fn Tryd.prog 27 [] [] sUnderQ := by
  have hC : CtsOk Tryd.prog [(21, appFn [] [] sFindQ), (43, appPure sHasP), (42, appFn [] [(44, 2)] sCloneP)] := CtsOk.cons (Fn.ct findQP) <| CtsOk.cons (Pure.ct hasP) <| CtsOk.cons (Fn.ct clonePP) <| CtsOk.nil _
  refine Fn.of (E := tbSq) [] 0 [] tbSq_ok hC (by kernel_rfl) Tryd.func27 rfl rfl rfl (by kernel_rfl) (by kernel_rfl) 1 5 1 ?_ ?_
  · intro args h pre r h' hs
    unfold sUnderQ at hs
    split at hs
    · cases hs; exact ⟨rfl, rfl, Nat.le_of_ble_eq_true rfl⟩
    · cases hs
  · intro args h pre r h' hs hp
    unfold sUnderQ at hs
    split at hs
    rotate_left
    · cases hs
    rename_i f fr ty sz n0 get
    cases hs
    obtain ⟨⟨rfl, rfl, rfl, rfl, n, g, hc, hst, hm⟩, hs⟩ := hp
    rw [hc] at hs ⊢
    replace hs : StS (prL n g) := hs
    refine ⟨[.data false 65 1 1 fun _ _ => .es false 44 2 n (prG (prL n g))], ⟨⟨rfl, rfl, rfl, rfl, fun i j hi hj => ?_⟩, trivial⟩, ?_⟩
    · obtain rfl : i = 0 := by omega
      obtain rfl : j = 0 := by omega
      rw [hc]
      exact es_leq rfl fun i hi => hst.eq hi
    dsimp only [esL, esLP, esN]
    have hL : (prL n g).length = n := prL_len
    have ePR : prL n (prG (prL n g)) = prL n g := by
      have := prL_prG (prL n g)
      rwa [hL] at this
    clear hc
    generalize prL n g = L at hL hs ePR ⊢
    unfold sFindQ
    generalize hg0 : (List.length : List PP → Nat) = g0
    generalize hL : lft Tryd.prog _ = L
    try unfold prG
    try unfold esL
    generalize ho0 : @prK = zo0, ho1 : @prV = zo1, ho2 : @prL = zo2, ho3 : @findI = zo3, ho4 : @findB = zo4, ho5 : @underL = zo5, ho6 : @underN = zo6, ho7 : @preB = zo7, ho8 : @prPre = zo8, ho9 : @StS = zo9, ho10 : @esPre = zo10
    generalize hA : Arith.std = A
    cbv
    subst hA hg0 hL ho0 ho1 ho2 ho3 ho4 ho5 ho6 ho7 ho8 ho9 ho10
    try simp only [esL, esLP, esN, Cell.old]
    refine Need.mk ⟨⟨rfl, rfl, rfl, rfl, n, prG L, rfl, prAt_prG n L, hm⟩, by show StS (prL n (prG L)); rw [ePR]; exact hs⟩ fun _ => ?_
    simp only [ePR]
    show Runs Tryd.prog 1 (.loop _) _ _
    refine loop_ruleR (N := env (lft Tryd.prog 1) 0 .std tbSq [(21, appFn [] [] sFindQ), (43, appPure sHasP), (42, appFn [] [(44, 2)] sCloneP)] []) rfl tbSq_ok hC (fun c st K _ h => h) (by kernel_rfl) [] (X := LUd L f n)
      (S := fun x => ⟨[.c (.eptr 0 0 1 0), .c (.str f), .any, .any, .any, .c (.int .i64 (findI L f : Int)), .any, .c (.int .i64 (x.j : Int))] ++ List.replicate 36 .any, [.data false 65 1 1 fun _ _ => .es false 44 2 n (prG L)]⟩) (μ := fun x => n - x.j) ⟨findI L f, Nat.le_refl _, by have := findI_le (L := L) (k := f); omega, fun q hq hq2 => absurd hq2 (by omega)⟩ (by kernel_rfl) [0] ?_ ?_
    · refine ⟨rfl, (by first | decide | exact List.nodup_nil), ?_, ?_⟩ <;> repeat' (first | exact trivial | exact rfl | apply And.intro | exact (fun _ _ _ _ => Cell.le_refl _) | (intro i hi; rfl) | (intro i hi; exact absurd hi (Nat.not_lt_zero _)))
    rintro ⟨j, hj0, hjn, hP⟩
    unfold sHasP sCloneP
    generalize hg0 : (List.length : List PP → Nat) = g0
    generalize hL : lft Tryd.prog _ = L
    try dsimp only
    try unfold prG
    try unfold esL
    generalize ho0 : @prK = zo0, ho1 : @prV = zo1, ho2 : @prL = zo2, ho3 : @findI = zo3, ho4 : @findB = zo4, ho5 : @underL = zo5, ho6 : @underN = zo6, ho7 : @preB = zo7, ho8 : @prPre = zo8, ho9 : @StS = zo9, ho10 : @esPre = zo10
    generalize hA : Arith.std = A
    cbv
    subst hA hg0 hL ho0 ho1 ho2 ho3 ho4 ho5 ho6 ho7 ho8 ho9 ho10
    try simp only [esL, esLP, esN, Cell.old]
    refine Need.mk (Nat.le_refl 1) fun _ => ?_
    refine Ife.mk (fun h => ?_) (fun h => ?_)
    · have h : (j : Int) < (@Nat.cast Int instNatCastInt n) := of_decide_eq_true (p := (j : Int) < (n : Int)) h
      have hjn2 : j < n := Int.ofNat_lt.mp h
      refine Need.mk (Nat.le_refl 1) fun _ => Need.mk (by show 0 ≤ (j : Int) ∧ (j : Int) < (n : Int); omega) fun _ => Need.mk (by show (j : Int).toNat < n; omega) fun _ => Need.mk trivial fun _ => ?_
      refine Ife.mk (fun h2 => ?_) (fun h2 => ?_)
      · have h2 : preB f (prK L j) = true := h2
        refine Need.mk (by show fitStd .i64 ((j : Int) + 1); unfold fitStd; omega) fun _ => ?_
        refine ⟨⟨j + 1, by omega, by omega, fun q h3 h4 => by
          by_cases hq : q = j
          · rw [hq]; exact h2
          · exact hP q h3 (by omega)⟩, [0], (by show n - (j + 1) < n - j; omega), ?_⟩
        refine ⟨rfl, (by first | decide | exact List.nodup_nil), ?_, ?_⟩ <;> repeat' (first | exact trivial | exact rfl | apply And.intro | exact (fun _ _ _ _ => Cell.le_refl _) | (intro i hi; rfl) | (intro i hi; exact absurd hi (Nat.not_lt_zero _)))
      · have h2 : preB f (prK L j) = false := h2
        have hstop : j < n → preB f (prK L j) = false := fun _ => h2
        have hu : underN L f = j - findI L f := underN_eq (c := j - findI L f) (by omega) (fun q hq => hP _ (by omega) (by omega)) (fun h => by rw [show findI L f + (j - findI L f) = j by omega]; exact hstop (by omega))
        refine Need.mk (Nat.le_refl 1) fun _ => Need.mk (by show 0 ≤ (findI L f : Int) ∧ (findI L f : Int) ≤ (j : Int) ∧ (j : Int) ≤ (n : Int); omega) fun _ => ?_
        have e5 : ((j : Int) - (findI L f : Int)).toNat = underN L f := by omega
        refine Need.mk ⟨rfl, rfl, (fun i hi => ⟨_, _, rfl⟩), by show ((j : Int) - (findI L f : Int)).toNat ≤ 1000000; omega⟩ fun _ => ?_
        have hR1 : ((j : Int) - (findI L f : Int)).toNat = (underL L f).length := by rw [e5, under_len]
        have hR2 : ∀ q, q < (underL L f).length → prG (prL ((j : Int) - (findI L f : Int)).toNat fun i => prG L (findI L f + i)) q = prG (underL L f) q := fun q hq => by rw [e5, under_prL]
        exact ⟨[0, 5], ⟨rfl, (by repeat' (first | exact trivial | exact hR1 | exact hR2 | exact rfl | apply And.intro | exact (fun _ _ _ _ => Cell.le_refl _) | (intro i hi; rfl) | (intro i hi; exact absurd hi (Nat.not_lt_zero _)))), (by show List.Nodup [5]; decide), rfl, by repeat' (first | exact trivial | exact hR1 | exact hR2 | exact rfl | apply And.intro | exact (fun _ _ _ _ => Cell.le_refl _) | (intro i hi; rfl) | (intro i hi; exact absurd hi (Nat.not_lt_zero _)))⟩⟩
    · have h : ¬ (j : Int) < (@Nat.cast Int instNatCastInt n) := of_decide_eq_false (p := (j : Int) < (n : Int)) h
      have hstop : j < n → preB f (prK L j) = false := fun h3 => absurd (Int.ofNat_lt.mpr h3) h
      have hu : underN L f = j - findI L f := underN_eq (c := j - findI L f) (by omega) (fun q hq => hP _ (by omega) (by omega)) (fun h => by rw [show findI L f + (j - findI L f) = j by omega]; exact hstop (by omega))
      refine Need.mk (Nat.le_refl 1) fun _ => Need.mk (by show 0 ≤ (findI L f : Int) ∧ (findI L f : Int) ≤ (j : Int) ∧ (j : Int) ≤ (n : Int); omega) fun _ => ?_
      have e5 : ((j : Int) - (findI L f : Int)).toNat = underN L f := by omega
      refine Need.mk ⟨rfl, rfl, (fun i hi => ⟨_, _, rfl⟩), by show ((j : Int) - (findI L f : Int)).toNat ≤ 1000000; omega⟩ fun _ => ?_
      have hR1 : ((j : Int) - (findI L f : Int)).toNat = (underL L f).length := by rw [e5, under_len]
      have hR2 : ∀ q, q < (underL L f).length → prG (prL ((j : Int) - (findI L f : Int)).toNat fun i => prG L (findI L f + i)) q = prG (underL L f) q := fun q hq => by rw [e5, under_prL]
      exact ⟨[0, 4], ⟨rfl, (by repeat' (first | exact trivial | exact hR1 | exact hR2 | exact rfl | apply And.intro | exact (fun _ _ _ _ => Cell.le_refl _) | (intro i hi; rfl) | (intro i hi; exact absurd hi (Nat.not_lt_zero _)))), (by show List.Nodup [4]; decide), rfl, by repeat' (first | exact trivial | exact hR1 | exact hR2 | exact rfl | apply And.intro | exact (fun _ _ _ _ => Cell.le_refl _) | (intro i hi; rfl) | (intro i hi; exact absurd hi (Nat.not_lt_zero _)))⟩⟩



end Go.Proofs.YtbbpgicoklhheaaDoor.Vx
end
