/- What is kept at heights, plainly. -/
import Derived.Test.YtbbpgicoklhheaaGreatDoorM35
import Derived.Test.YtbbpgicoklhheaaGreatDoorM2
import Derived.Test.YtbbpgicoklhheaaGreatDoorM25
import Derived.Test.YtbbpgicoklhheaaGreatDoorM11
section
namespace Go.Proofs.YtbbpgicoklhheaaGreatDoor.Vx
open Sha
open Go.RowKit
set_option linter.unusedVariables false
set_option linter.unusedSimpArgs false
/-- A height, a time, and what was stored then. -/
abbrev PaR := Int × Int × List PP
def pH (L : List PaR) (i : Nat) : Int := (L.getD i (0, 0, [])).1
/-- The numbers of a header: height, time, root. -/
def h34 (h t : Int) (f : Nat → Int) : List Int := [h, t, f 0, f 1, f 2, f 3, f 4, f 5, f 6, f 7, f 8, f 9, f 10, f 11, f 12, f 13, f 14, f 15, f 16, f 17, f 18, f 19, f 20, f 21, f 22, f 23, f 24, f 25, f 26, f 27, f 28, f 29, f 30, f 31]
def pNum (r : PaR) : Nat → Int := numL (h34 r.1 r.2.1 (rootL r.2.2))
def pKey (h : Int) : Value := .agg #[.int .i64 h]
def pRec (r : PaR) : MRec := ⟨pNum r, r.2.2.length, prG r.2.2⟩
def pQ (L : List PaR) : List (Value × MRec) := L.map fun r => (pKey r.1, pRec r)
def pOf (q : Value × MRec) : PaR := (q.2.num 0, q.2.num 1, prL q.2.n q.2.get)
def pL (l : List (Value × MRec)) : List PaR := l.map pOf
def mkG (L : List PaR) (i : Nat) : List CV := [.int .i64 (pH L i)]
/-- A header, as cells. -/
def hd34 (f : Nat → Int) : List CV := [.int .i64 (f 0), .int .i64 (f 1), .int .u8 (f 2), .int .u8 (f 3), .int .u8 (f 4), .int .u8 (f 5), .int .u8 (f 6), .int .u8 (f 7), .int .u8 (f 8), .int .u8 (f 9), .int .u8 (f 10), .int .u8 (f 11), .int .u8 (f 12), .int .u8 (f 13), .int .u8 (f 14), .int .u8 (f 15), .int .u8 (f 16), .int .u8 (f 17), .int .u8 (f 18), .int .u8 (f 19), .int .u8 (f 20), .int .u8 (f 21), .int .u8 (f 22), .int .u8 (f 23), .int .u8 (f 24), .int .u8 (f 25), .int .u8 (f 26), .int .u8 (f 27), .int .u8 (f 28), .int .u8 (f 29), .int .u8 (f 30), .int .u8 (f 31), .int .u8 (f 32), .int .u8 (f 33)]
def pMT : MTy := ⟨[0], [.i64, .i64, .u8, .u8, .u8, .u8, .u8, .u8, .u8, .u8, .u8, .u8, .u8, .u8, .u8, .u8, .u8, .u8, .u8, .u8, .u8, .u8, .u8, .u8, .u8, .u8, .u8, .u8, .u8, .u8, .u8, .u8, .u8, .u8], 75, 78, 2⟩
theorem pL_pQ (L : List PaR) : pL (pQ L) = L := by
  unfold pL pQ
  rw [List.map_map]
  conv => rhs; rw [← List.map_id L]
  apply List.map_congr_left
  rintro ⟨h, t, S⟩ _
  show (h, t, prL S.length (prG S)) = _
  rw [prL_prG]
  rfl
theorem pQ_app (L : List PaR) (r : PaR) : pQ (L ++ [r]) = pQ L ++ [(pKey r.1, pRec r)] := by simp [pQ]
/-- Is something kept at a height? -/
def paHas (L : List PaR) (h : Int) : Bool := match L with
  | [] => false
  | r :: L => if r.1 = h then true else paHas L h
def paRec (L : List PaR) (h : Int) : PaR := match L with
  | [] => (0, 0, [])
  | r :: L => if r.1 = h then r else paRec L h
def paL (L : List PaR) (h : Int) : List PP := (paRec L h).2.2
def paNum (L : List PaR) (h : Int) : Nat → Int := if paHas L h = true then pNum (paRec L h) else fun _ => 0
theorem pKey_inj {a b : Int} : pKey a = pKey b ↔ a = b := by simp [pKey]
open Classical in
theorem mqHas_pQ (L : List PaR) (h : Int) : mqHas (pKey h) (pQ L) = paHas L h := by
  induction L with
  | nil => rfl
  | cons r L ih =>
    show (if pKey r.1 = pKey h then true else mqHas (pKey h) (pQ L)) = if r.1 = h then true else paHas L h
    rw [ih]
    by_cases e : r.1 = h
    · rw [if_pos e, if_pos (pKey_inj.2 e)]
    · rw [if_neg e, if_neg (fun k => e (pKey_inj.1 k))]
open Classical in
theorem mqRec_pQ {L : List PaR} {h : Int} (hh : paHas L h = true) : mqRec (pKey h) (pQ L) = pRec (paRec L h) := by
  induction L with
  | nil => cases hh
  | cons r L ih =>
    show (if pKey r.1 = pKey h then pRec r else mqRec (pKey h) (pQ L)) = pRec (if r.1 = h then r else paRec L h)
    by_cases e : r.1 = h
    · rw [if_pos e, if_pos (pKey_inj.2 e)]
    · rw [if_neg e, if_neg (fun k => e (pKey_inj.1 k))]
      refine ih ?_
      have hh : (if r.1 = h then true else paHas L h) = true := hh
      rwa [if_neg e] at hh
theorem mqNum_pQ {L : List PaR} {h : Int} (hh : paHas L h = true) : mqNum (pKey h) (pQ L) = paNum L h := by
  unfold mqNum paNum
  rw [mqRec_pQ hh, if_pos hh]
  rfl
theorem mqN_pQ {L : List PaR} {h : Int} (hh : paHas L h = true) : mqN (pKey h) (pQ L) = (paL L h).length := by
  unfold mqN
  rw [mqRec_pQ hh]
  rfl
theorem mqRow_pQ {L : List PaR} {h : Int} (hh : paHas L h = true) : mqRow (pKey h) (pQ L) = prG (paL L h) := by
  unfold mqRow
  rw [mqRec_pQ hh]
  rfl
theorem paL_no {L : List PaR} {h : Int} (hh : paHas L h = false) : paRec L h = (0, 0, []) := by
  induction L with
  | nil => rfl
  | cons r L ih =>
    have hh : (if r.1 = h then true else paHas L h) = false := hh
    show (if r.1 = h then r else paRec L h) = _
    by_cases e : r.1 = h
    · rw [if_pos e] at hh; cases hh
    · rw [if_neg e] at hh ⊢
      exact ih hh
theorem paHas_mem {L : List PaR} {h : Int} : paHas L h = true ↔ ∃ r ∈ L, r.1 = h := by
  induction L with
  | nil =>
    constructor
    · intro h; cases h
    · rintro ⟨_, h, _⟩; cases h
  | cons r L ih =>
    show (if r.1 = h then true else paHas L h) = true ↔ _
    by_cases e : r.1 = h
    · rw [if_pos e]; exact ⟨fun _ => ⟨r, by simp, e⟩, fun _ => rfl⟩
    · rw [if_neg e, ih]
      constructor
      · rintro ⟨q, h1, h2⟩; exact ⟨q, by simp [h1], h2⟩
      · rintro ⟨q, h1, h2⟩
        rcases List.mem_cons.1 h1 with h3 | h3
        · subst h3; exact absurd h2 e
        · exact ⟨q, h3, h2⟩
theorem paRec_mem {L : List PaR} {h : Int} (hh : paHas L h = true) : paRec L h ∈ L ∧ (paRec L h).1 = h := by
  induction L with
  | nil => cases hh
  | cons r L ih =>
    have hh : (if r.1 = h then true else paHas L h) = true := hh
    show (if r.1 = h then r else paRec L h) ∈ r :: L ∧ (if r.1 = h then r else paRec L h).1 = h
    by_cases e : r.1 = h
    · rw [if_pos e]; exact ⟨by simp, e⟩
    · rw [if_neg e] at hh ⊢
      exact ⟨by simp [(ih hh).1], (ih hh).2⟩
open Classical in
theorem mqSet_pQ {L : List PaR} {h : Int} (m : MRec) (hh : paHas L h = false) : mqSet (pKey h) m (pQ L) = pQ L ++ [(pKey h, m)] := by
  induction L with
  | nil => rfl
  | cons r L ih =>
    have hh : (if r.1 = h then true else paHas L h) = false := hh
    by_cases e : r.1 = h
    · rw [if_pos e] at hh; cases hh
    · rw [if_neg e] at hh
      show (if pKey r.1 = pKey h then _ else (pKey r.1, pRec r) :: mqSet (pKey h) m (pQ L)) = _
      rw [if_neg (fun k => e (pKey_inj.1 k)), ih hh]
      rfl
/-- What is kept: heights rise, pairs are in order. -/
structure PaS (L : List PaR) : Prop where
  up : L.Pairwise fun a b => a.1 < b.1
  pos : ∀ r ∈ L, 1 ≤ r.1 ∧ r.1 ≤ 1099511627776
  ok : ∀ r ∈ L, StS r.2.2 ∧ AllSz r.2.2 ∧ r.2.2.length ≤ 1000000
  len : L.length ≤ 1000000
def pLast (L : List PaR) : Int := if L.length = 0 then 0 else pH L (L.length - 1)
theorem pH_mem {L : List PaR} {i : Nat} (h : i < L.length) : ∃ r ∈ L, r.1 = pH L i := ⟨L[i], List.getElem_mem h, by simp [pH, List.getD, h]⟩
theorem PaS.last {L : List PaR} (hp : PaS L) : ∀ r ∈ L, r.1 ≤ pLast L := fun r hr => by
  obtain ⟨i, hi, rfl⟩ := List.getElem_of_mem hr
  have h0 : ¬ L.length = 0 := by omega
  unfold pLast
  rw [if_neg h0]
  have e : pH L (L.length - 1) = (L[L.length - 1]'(by omega)).1 := by simp [pH, List.getD, show L.length - 1 < L.length by omega]
  rw [e]
  rcases Nat.lt_or_ge i (L.length - 1) with h | h
  · have := List.pairwise_iff_getElem.1 hp.up i (L.length - 1) hi (by omega) h
    omega
  · have : i = L.length - 1 := by omega
    subst this
    exact Int.le_refl _
theorem pLast_nonneg {L : List PaR} (hp : PaS L) : 0 ≤ pLast L ∧ pLast L ≤ 1099511627776 := by
  unfold pLast
  split
  · omega
  · rename_i h0
    obtain ⟨r, h1, h2⟩ := pH_mem (L := L) (i := L.length - 1) (by omega)
    have := hp.pos r h1
    omega
theorem PaS.at {L : List PaR} (hp : PaS L) (h : Int) : StS (paL L h) ∧ AllSz (paL L h) ∧ (paL L h).length ≤ 1000000 := by
  unfold paL
  cases hb : paHas L h with
  | true => exact hp.ok _ (paRec_mem hb).1
  | false =>
    rw [paL_no hb]
    exact ⟨List.Pairwise.nil, (fun p hp => by cases hp), by decide⟩
/-- What Keep says, and what is kept then. -/
def keepE (L : List PaR) (h t : Int) : Int := if h < 1 ∨ 1099511627776 < h ∨ t < 0 ∨ 1099511627776 < t then 1 else if h ≤ pLast L then 16 else 0
def keepL (L : List PaR) (h t : Int) (S : List PP) : List PaR := if keepE L h t = 0 then L ++ [(h, t, S)] else L
theorem keepE_ok {L : List PaR} {h t : Int} (h1 : ¬ h < 1) (h2 : ¬ 1099511627776 < h) (h3 : ¬ t < 0) (h4 : ¬ 1099511627776 < t) (h5 : ¬ h ≤ pLast L) : keepE L h t = 0 := by
  unfold keepE
  rw [if_neg (by omega), if_neg h5]
theorem keepE_yes {L : List PaR} {h t : Int} (k : keepE L h t = 0) : 1 ≤ h ∧ h ≤ 1099511627776 ∧ 0 ≤ t ∧ t ≤ 1099511627776 ∧ pLast L < h := by
  unfold keepE at k
  split at k
  · cases k
  · split at k
    · cases k
    · omega
theorem PaS.new {L : List PaR} (hp : PaS L) {h : Int} (k : pLast L < h) : paHas L h = false := by
  rw [Bool.eq_false_iff]
  intro hb
  obtain ⟨r, h1, h2⟩ := paHas_mem.1 hb
  have := hp.last r h1
  omega
theorem keepL_ok {L : List PaR} {h t : Int} {S : List PP} (hp : PaS L) (hS : StS S ∧ AllSz S ∧ S.length ≤ 1000000) (hl : L.length < 1000000) : PaS (keepL L h t S) := by
  unfold keepL
  split
  · rename_i k
    obtain ⟨h1, h2, h3, h4, h5⟩ := keepE_yes k
    refine ⟨List.pairwise_append.2 ⟨hp.up, List.pairwise_singleton _ _, fun a ha b hb => ?_⟩, fun r hr => ?_, fun r hr => ?_, by simp; omega⟩
    · rw [List.mem_singleton.1 hb]
      have := hp.last a ha
      show a.1 < h
      omega
    · rcases List.mem_append.1 hr with k | k
      · exact hp.pos r k
      · rw [List.mem_singleton.1 k]; exact ⟨h1, h2⟩
    · rcases List.mem_append.1 hr with k | k
      · exact hp.ok r k
      · rw [List.mem_singleton.1 k]; exact hS
  · exact hp
theorem pas_nil : PaS [] := ⟨List.Pairwise.nil, (fun r h => by cases h), (fun r h => by cases h), by decide⟩
theorem mk_push (L : List PaR) (r : PaR) (i : Nat) (h : i < L.length + 1) : pushG L.length (mkG L) [.int .i64 r.1] i = mkG (L ++ [r]) i := by
  unfold pushG mkG pH
  by_cases hi : i < L.length
  · rw [show Nat.blt i L.length = true by simpa [Nat.blt_eq] using hi]
    simp [List.getD, List.getElem?_append_left hi]
  · rw [show Nat.blt i L.length = false by rw [Bool.eq_false_iff]; intro h2; exact hi (by simpa [Nat.blt_eq] using h2)]
    obtain rfl : i = L.length := by omega
    simp [List.getD]
/-- What a past is, in memory. -/
def paPre (t : Nat) (mt : MTy) (ml : List (Value × MRec)) (ty one n : Nat) (get : Nat → List CV) : Prop := t = 73 ∧ mt = pMT ∧ ml = pQ (pL ml) ∧ ty = 87 ∧ one = 1 ∧ n = (pL ml).length ∧ (∀ i, i < n → get i = mkG (pL ml) i) ∧ PaS (pL ml)
theorem paPre_mk {L : List PaR} (h : PaS L) : paPre 73 pMT (pQ L) 87 1 L.length (mkG L) := by
  refine ⟨rfl, rfl, ?_, rfl, rfl, ?_, fun i _ => ?_, ?_⟩ <;> rw [pL_pQ]
  exact h
end Go.Proofs.YtbbpgicoklhheaaGreatDoor.Vx
end

section
/- Acts on a store, by the walker: Few; and the store's Prove. -/
namespace Go.Proofs.YtbbpgicoklhheaaGreatDoor.Vx
open Sha
open Go.RowKit
set_option linter.unusedVariables false
set_option linter.unusedSimpArgs false
attribute [local cbv_opaque] prK prV prL ltB findI findB szB setL putS dropL getL underL underN preB Lib.compareBytes prPre goodAt goodL insG delG insPre delPre prPreR KsAt leafF leafPre topG topPre0 rootF rootPre sumI hOf HashC kOf u8s lfG rootL sumsPre lK lV lI lP lN pG leafL leafOf leavesPre deep hNm wyL mkLeaf mkL mkC mkFrom mkTo wayG hashesG wayPre0 mkPre lenL






end Go.Proofs.YtbbpgicoklhheaaGreatDoor.Vx
end

section
/- Stores that lie still: find, Get, Under, Prove, by the walker. -/
namespace Go.Proofs.YtbbpgicoklhheaaGreatDoor.Vx
open Sha
open Go.RowKit
set_option linter.unusedVariables false
set_option linter.unusedSimpArgs false
/-- A store that lies still, as a cell. -/
def esL : Cell → List PP
  | .es _ _ _ n g => prL n g
  | _ => []
def esN : Cell → Nat
  | .es _ _ _ n _ => n
  | _ => 0
def esPre (fr : Bool) (ty sz n : Nat) (c : Cell) : Prop := fr = false ∧ ty = 75 ∧ sz = 1 ∧ n = 1 ∧ ∃ m g, c = .es false 78 2 m g ∧ PrAt m g ∧ m ≤ 1000000
theorem esPre_mk {L : List PP} {n : Nat} (hm : n ≤ 1000000) : esPre false 75 1 1 (.es false 78 2 n (prG L)) := ⟨rfl, rfl, rfl, rfl, n, prG L, rfl, prAt_prG n L, hm⟩
attribute [local cbv_opaque] prK prV prL ltB findI findB szB setL putS dropL getL underL underN preB Lib.compareBytes prPre goodAt goodL insG delG insPre delPre KsAt leafF leafPre topG topPre0 rootF rootPre sumI hOf HashC kOf u8s lfG rootL sumsPre lK lV lI lP lN pG leafL leafOf leavesPre deep hNm wyL mkLeaf mkL mkC mkFrom mkTo wayG hashesG wayPre0 mkPre lenL StS esPre
def tbSq : Tbl where
  T :=
    (3, ⟨1, false, [.int .i64 (0)], .int .i64, 8⟩) ::
    (4, ⟨1, false, [.ff], .bool, 1⟩) ::
    (9, ⟨1, false, [.str []], .str, 16⟩) ::
    (116, ⟨1, false, [.int .u64 (0)], .int .u64, 8⟩) ::
    (78, ⟨2, true, [.str [], .str []], .struct [(0, (1, false)), (1, (1, false))], 32⟩) ::
    (57, ⟨1, false, [.val (.slice none 0 0)], .slice 78, 24⟩) ::
    (75, ⟨1, true, [.val (.slice none 0 0)], .struct [(0, (1, false))], 24⟩) ::
    (27, ⟨1, false, [.val (.pointer none)], .ptr 75, 8⟩) ::
    []
  F :=
    []

theorem tbSq_ok : tbSq.Ok Tryz.prog where
  T :=
    TblOk.cons (by kernel_rfl) <|
    TblOk.cons (by kernel_rfl) <|
    TblOk.cons (by kernel_rfl) <|
    TblOk.cons (by kernel_rfl) <|
    TblOk.cons (by kernel_rfl) <|
    TblOk.cons (by kernel_rfl) <|
    TblOk.cons (by kernel_rfl) <|
    TblOk.cons (by kernel_rfl) <|
    TblOk.nil _
  F :=
    FlatsOk.nil _

def sFindQ : SpecF
  | [.c (.eptr 0 0 1 0), .c (.str k)], [.data fr ty sz n0 get] => some (esPre fr ty sz n0 (get 0 0) ∧ StS (esL (get 0 0)), .tup [(some (.int .i64 (findI (esL (get 0 0)) k : Int)), []), (some (.bool (findB (esL (get 0 0)) k)), [])], [.data false 75 1 1 fun _ _ => .es false 78 2 (esN (get 0 0)) (prG (esL (get 0 0)))])
  | _, _ => none

set_option maxRecDepth 100000 in
set_option maxHeartbeats 8000000 in
theorem findQP : Fn Tryz.prog 31 [] [] sFindQ := by
  have hC : CtsOk Tryz.prog [(46, appFn [] [(78, 2)] sBs)] := CtsOk.cons (Fn.ct bsP) <| CtsOk.nil _
  refine Fn.of (E := tbSq) [] 0 [] tbSq_ok hC (by kernel_rfl) Tryz.func31 rfl rfl rfl (by kernel_rfl) (by kernel_rfl) 1 5 1 ?_ ?_
  · intro args h pre r h' hs
    unfold sFindQ at hs
    split at hs
    · cases hs; exact ⟨rfl, rfl, Nat.le_of_ble_eq_true rfl⟩
    · cases hs
  · intro args h pre r h' hs hp
    unfold sFindQ at hs
    split at hs
    rotate_left
    · cases hs
    rename_i k fr ty sz n0 get
    cases hs
    obtain ⟨⟨rfl, rfl, rfl, rfl, n, g, hc, hst, hm⟩, hs⟩ := hp
    rw [hc] at hs ⊢
    replace hs : StS (prL n g) := hs
    refine ⟨[.data false 75 1 1 fun _ _ => .es false 78 2 n (prG (prL n g))], ⟨⟨rfl, rfl, rfl, rfl, fun i j hi hj => ?_⟩, trivial⟩, ?_⟩
    · obtain rfl : i = 0 := by omega
      obtain rfl : j = 0 := by omega
      rw [hc]
      exact es_leq rfl fun i hi => hst.eq hi
    dsimp only [esL, esN]
    have hL : (prL n g).length = n := prL_len
    have ePR : prL n (prG (prL n g)) = prL n g := by
      have := prL_prG (prL n g)
      rwa [hL] at this
    clear hc
    generalize prL n g = L at hL hs ePR ⊢
    unfold sBs
    generalize hg0 : (List.length : List PP → Nat) = g0
    generalize hA : Arith.std = A
    set_option cbv.maxSteps 2000000 in cbv
    subst hA hg0
    refine Need.mk (Nat.le_refl 1) fun _ => Need.mk ⟨⟨rfl, rfl, prAt_prG n L, hm⟩, by rw [ePR]; exact hs⟩ fun _ => ?_
    rw [ePR]
    exact ⟨[0], ⟨rfl, (by repeat' (first | exact trivial | exact rfl | apply And.intro | exact (fun _ _ _ _ => Cell.le_refl _) | (intro i hi; rfl) | (intro i hi; exact absurd hi (Nat.not_lt_zero _)))), (by first | decide | exact List.nodup_nil), rfl, by repeat' (first | exact trivial | exact rfl | apply And.intro | exact (fun _ _ _ _ => Cell.le_refl _) | (intro i hi; rfl) | (intro i hi; exact absurd hi (Nat.not_lt_zero _)))⟩⟩

def sGetQ : SpecF
  | [.c (.eptr 0 0 1 0), .c (.str k)], [.data fr ty sz n0 get] => some (esPre fr ty sz n0 (get 0 0) ∧ StS (esL (get 0 0)), .tup [(some (.str (getL (esL (get 0 0)) k)), []), (some (.bool (findB (esL (get 0 0)) k)), [])], [.data false 75 1 1 fun _ _ => .es false 78 2 (esN (get 0 0)) (prG (esL (get 0 0)))])
  | _, _ => none

set_option maxRecDepth 100000 in
set_option maxHeartbeats 8000000 in
theorem getQP : Fn Tryz.prog 37 [] [] sGetQ := by
  have hC : CtsOk Tryz.prog [(31, appFn [] [] sFindQ)] := CtsOk.cons (Fn.ct findQP) <| CtsOk.nil _
  refine Fn.of (E := tbSq) [] 0 [] tbSq_ok hC (by kernel_rfl) Tryz.func37 rfl rfl rfl (by kernel_rfl) (by kernel_rfl) 1 5 1 ?_ ?_
  · intro args h pre r h' hs
    unfold sGetQ at hs
    split at hs
    · cases hs; exact ⟨rfl, rfl, Nat.le_of_ble_eq_true rfl⟩
    · cases hs
  · intro args h pre r h' hs hp
    unfold sGetQ at hs
    split at hs
    rotate_left
    · cases hs
    rename_i k fr ty sz n0 get
    cases hs
    obtain ⟨⟨rfl, rfl, rfl, rfl, n, g, hc, hst, hm⟩, hs⟩ := hp
    rw [hc] at hs ⊢
    replace hs : StS (prL n g) := hs
    refine ⟨[.data false 75 1 1 fun _ _ => .es false 78 2 n (prG (prL n g))], ⟨⟨rfl, rfl, rfl, rfl, fun i j hi hj => ?_⟩, trivial⟩, ?_⟩
    · obtain rfl : i = 0 := by omega
      obtain rfl : j = 0 := by omega
      rw [hc]
      exact es_leq rfl fun i hi => hst.eq hi
    dsimp only [esL, esN]
    have hL : (prL n g).length = n := prL_len
    have ePR : prL n (prG (prL n g)) = prL n g := by
      have := prL_prG (prL n g)
      rwa [hL] at this
    clear hc
    generalize prL n g = L at hL hs ePR ⊢
    unfold sFindQ
    generalize hg0 : (List.length : List PP → Nat) = g0
    generalize hA : Arith.std = A
    set_option cbv.maxSteps 2000000 in cbv
    subst hA hg0
    refine Need.mk ⟨⟨rfl, rfl, rfl, rfl, n, prG L, rfl, prAt_prG n L, hm⟩, by show StS (prL n (prG L)); rw [ePR]; exact hs⟩ fun _ => ?_
    simp only [ePR]
    refine Ife.mk (fun h => ?_) (fun h => ?_)
    · have h : (!findB L k) = true := h
      have hb : findB L k = false := by simpa using h
      have hR1 : ([] : List UInt8) = getL L k := by unfold getL; rw [hb]; rfl
      rw [hb]
      exact ⟨[0], ⟨rfl, (by repeat' (first | exact trivial | exact hR1 | exact hR2 | exact rfl | apply And.intro | exact (fun _ _ _ _ => Cell.le_refl _) | (intro i hi; rfl) | (intro i hi; exact absurd hi (Nat.not_lt_zero _)))), (by first | decide | exact List.nodup_nil), rfl, by repeat' (first | exact trivial | exact hR1 | exact hR2 | exact rfl | apply And.intro | exact (fun _ _ _ _ => Cell.le_refl _) | (intro i hi; rfl) | (intro i hi; exact absurd hi (Nat.not_lt_zero _)))⟩⟩
    · have h : (!findB L k) = false := h
      have hb : findB L k = true := by simpa using h
      obtain ⟨h1, h2⟩ := findB_eq hb
      refine Need.mk (Nat.le_refl 1) fun _ => Need.mk (by show 0 ≤ (findI L k : Int) ∧ (findI L k : Int) < (n : Int); omega) fun _ => Need.mk (by show (findI L k : Int).toNat < n; omega) fun _ => ?_
      have hR1 : prV L (findI L k) = getL L k := by unfold getL; rw [hb]; rfl
      rw [hb]
      exact ⟨[0], ⟨rfl, (by repeat' (first | exact trivial | exact hR1 | exact hR2 | exact rfl | apply And.intro | exact (fun _ _ _ _ => Cell.le_refl _) | (intro i hi; rfl) | (intro i hi; exact absurd hi (Nat.not_lt_zero _)))), (by first | decide | exact List.nodup_nil), rfl, by repeat' (first | exact trivial | exact hR1 | exact hR2 | exact rfl | apply And.intro | exact (fun _ _ _ _ => Cell.le_refl _) | (intro i hi; rfl) | (intro i hi; exact absurd hi (Nat.not_lt_zero _)))⟩⟩

def sUnderQ : SpecF
  | [.c (.eptr 0 0 1 0), .c (.str f)], [.data fr ty sz n0 get] => some (esPre fr ty sz n0 (get 0 0) ∧ StS (esL (get 0 0)), .c (.row 1), [.data false 75 1 1 fun _ _ => .es false 78 2 (esN (get 0 0)) (prG (esL (get 0 0))), .row 78 2 (underL (esL (get 0 0)) f).length (prG (underL (esL (get 0 0)) f))])
  | _, _ => none

set_option maxRecDepth 100000 in
set_option maxHeartbeats 8000000 in
theorem underQP : Fn Tryz.prog 39 [] [] sUnderQ := by
  have hC : CtsOk Tryz.prog [(31, appFn [] [] sFindQ), (54, appPure sHasP), (52, appFn [] [(78, 2)] sCloneP)] := CtsOk.cons (Fn.ct findQP) <| CtsOk.cons (Pure.ct hasP) <| CtsOk.cons (Fn.ct clonePP) <| CtsOk.nil _
  refine Fn.of (E := tbSq) [] 0 [] tbSq_ok hC (by kernel_rfl) Tryz.func39 rfl rfl rfl (by kernel_rfl) (by kernel_rfl) 1 5 1 ?_ ?_
  · intro args h pre r h' hs
    unfold sUnderQ at hs
    split at hs
    · cases hs; exact ⟨rfl, rfl, Nat.le_of_ble_eq_true rfl⟩
    · cases hs
  · intro args h pre r h' hs hp
    unfold sUnderQ at hs
    split at hs
    rotate_left
    · cases hs
    rename_i f fr ty sz n0 get
    cases hs
    obtain ⟨⟨rfl, rfl, rfl, rfl, n, g, hc, hst, hm⟩, hs⟩ := hp
    rw [hc] at hs ⊢
    replace hs : StS (prL n g) := hs
    refine ⟨[.data false 75 1 1 fun _ _ => .es false 78 2 n (prG (prL n g))], ⟨⟨rfl, rfl, rfl, rfl, fun i j hi hj => ?_⟩, trivial⟩, ?_⟩
    · obtain rfl : i = 0 := by omega
      obtain rfl : j = 0 := by omega
      rw [hc]
      exact es_leq rfl fun i hi => hst.eq hi
    dsimp only [esL, esN]
    have hL : (prL n g).length = n := prL_len
    have ePR : prL n (prG (prL n g)) = prL n g := by
      have := prL_prG (prL n g)
      rwa [hL] at this
    clear hc
    generalize prL n g = L at hL hs ePR ⊢
    unfold sFindQ
    generalize hg0 : (List.length : List PP → Nat) = g0
    generalize hL : lft Tryz.prog _ = L
    generalize hA : Arith.std = A
    set_option cbv.maxSteps 4000000 in cbv
    subst hA hg0 hL
    refine Need.mk ⟨⟨rfl, rfl, rfl, rfl, n, prG L, rfl, prAt_prG n L, hm⟩, by show StS (prL n (prG L)); rw [ePR]; exact hs⟩ fun _ => ?_
    simp only [ePR]
    show Runs Tryz.prog 1 (.loop _) _ _
    refine loop_ruleR (N := env (lft Tryz.prog 1) 0 .std tbSq [(31, appFn [] [] sFindQ), (54, appPure sHasP), (52, appFn [] [(78, 2)] sCloneP)] []) rfl tbSq_ok hC (fun c st K _ h => h) (by kernel_rfl) [] (X := LUd L f n)
      (S := fun x => ⟨[.c (.eptr 0 0 1 0), .c (.str f), .any, .any, .any, .c (.int .i64 (findI L f : Int)), .any, .c (.int .i64 (x.j : Int))] ++ List.replicate 36 .any, [.data false 75 1 1 fun _ _ => .es false 78 2 n (prG L)]⟩) (μ := fun x => n - x.j) ⟨findI L f, Nat.le_refl _, by have := findI_le (L := L) (k := f); omega, fun q hq hq2 => absurd hq2 (by omega)⟩ (by kernel_rfl) [0] ?_ ?_
    · refine ⟨rfl, (by first | decide | exact List.nodup_nil), ?_, ?_⟩ <;> repeat' (first | exact trivial | exact rfl | apply And.intro | exact (fun _ _ _ _ => Cell.le_refl _) | (intro i hi; rfl) | (intro i hi; exact absurd hi (Nat.not_lt_zero _)))
    rintro ⟨j, hj0, hjn, hP⟩
    unfold sHasP sCloneP
    generalize hg0 : (List.length : List PP → Nat) = g0
    generalize hL : lft Tryz.prog _ = L
    generalize hA : Arith.std = A
    set_option cbv.maxSteps 4000000 in cbv
    subst hA hg0 hL
    refine Need.mk (Nat.le_refl 1) fun _ => ?_
    refine Ife.mk (fun h => ?_) (fun h => ?_)
    · have h : (j : Int) < (n : Int) := of_decide_eq_true (p := (j : Int) < (n : Int)) h
      have hjn2 : j < n := Int.ofNat_lt.mp h
      refine Need.mk (Nat.le_refl 1) fun _ => Need.mk (by show 0 ≤ (j : Int) ∧ (j : Int) < (n : Int); omega) fun _ => Need.mk (by show (j : Int).toNat < n; omega) fun _ => Need.mk trivial fun _ => ?_
      refine Ife.mk (fun h2 => ?_) (fun h2 => ?_)
      · have h2 : preB f (prK L j) = true := h2
        refine Need.mk (by show fitStd .i64 ((j : Int) + 1); unfold fitStd; omega) fun _ => ?_
        refine ⟨⟨j + 1, by omega, by omega, fun q h3 h4 => by
          by_cases hq : q = j
          · rw [hq]; exact h2
          · exact hP q h3 (by omega)⟩, [0], (by show n - (j + 1) < n - j; omega), ?_⟩
        refine ⟨rfl, (by first | decide | exact List.nodup_nil), ?_, ?_⟩ <;> repeat' (first | exact trivial | exact rfl | apply And.intro | exact (fun _ _ _ _ => Cell.le_refl _) | (intro i hi; rfl) | (intro i hi; exact absurd hi (Nat.not_lt_zero _)))
      · have h2 : preB f (prK L j) = false := h2
        have hstop : j < n → preB f (prK L j) = false := fun _ => h2
        have hu : underN L f = j - findI L f := underN_eq (c := j - findI L f) (by omega) (fun q hq => hP _ (by omega) (by omega)) (fun h => by rw [show findI L f + (j - findI L f) = j by omega]; exact hstop (by omega))
        refine Need.mk (Nat.le_refl 1) fun _ => Need.mk (by show 0 ≤ (findI L f : Int) ∧ (findI L f : Int) ≤ (j : Int) ∧ (j : Int) ≤ (n : Int); omega) fun _ => ?_
        have e5 : ((j : Int) - (findI L f : Int)).toNat = underN L f := by omega
        refine Need.mk ⟨rfl, rfl, (fun i hi => ⟨_, _, rfl⟩), by show ((j : Int) - (findI L f : Int)).toNat ≤ 1000000; omega⟩ fun _ => ?_
        have hR1 : ((j : Int) - (findI L f : Int)).toNat = (underL L f).length := by rw [e5, under_len]
        have hR2 : ∀ q, q < (underL L f).length → prG (prL ((j : Int) - (findI L f : Int)).toNat fun i => prG L (findI L f + i)) q = prG (underL L f) q := fun q hq => by rw [e5, under_prL]
        exact ⟨[0, 5], ⟨rfl, (by repeat' (first | exact trivial | exact hR1 | exact hR2 | exact rfl | apply And.intro | exact (fun _ _ _ _ => Cell.le_refl _) | (intro i hi; rfl) | (intro i hi; exact absurd hi (Nat.not_lt_zero _)))), (by show List.Nodup [5]; decide), rfl, by repeat' (first | exact trivial | exact hR1 | exact hR2 | exact rfl | apply And.intro | exact (fun _ _ _ _ => Cell.le_refl _) | (intro i hi; rfl) | (intro i hi; exact absurd hi (Nat.not_lt_zero _)))⟩⟩
    · have h : ¬ (j : Int) < (n : Int) := of_decide_eq_false (p := (j : Int) < (n : Int)) h
      have hstop : j < n → preB f (prK L j) = false := fun h3 => absurd (Int.ofNat_lt.mpr h3) h
      have hu : underN L f = j - findI L f := underN_eq (c := j - findI L f) (by omega) (fun q hq => hP _ (by omega) (by omega)) (fun h => by rw [show findI L f + (j - findI L f) = j by omega]; exact hstop (by omega))
      refine Need.mk (Nat.le_refl 1) fun _ => Need.mk (by show 0 ≤ (findI L f : Int) ∧ (findI L f : Int) ≤ (j : Int) ∧ (j : Int) ≤ (n : Int); omega) fun _ => ?_
      have e5 : ((j : Int) - (findI L f : Int)).toNat = underN L f := by omega
      refine Need.mk ⟨rfl, rfl, (fun i hi => ⟨_, _, rfl⟩), by show ((j : Int) - (findI L f : Int)).toNat ≤ 1000000; omega⟩ fun _ => ?_
      have hR1 : ((j : Int) - (findI L f : Int)).toNat = (underL L f).length := by rw [e5, under_len]
      have hR2 : ∀ q, q < (underL L f).length → prG (prL ((j : Int) - (findI L f : Int)).toNat fun i => prG L (findI L f + i)) q = prG (underL L f) q := fun q hq => by rw [e5, under_prL]
      exact ⟨[0, 4], ⟨rfl, (by repeat' (first | exact trivial | exact hR1 | exact hR2 | exact rfl | apply And.intro | exact (fun _ _ _ _ => Cell.le_refl _) | (intro i hi; rfl) | (intro i hi; exact absurd hi (Nat.not_lt_zero _)))), (by show List.Nodup [4]; decide), rfl, by repeat' (first | exact trivial | exact hR1 | exact hR2 | exact rfl | apply And.intro | exact (fun _ _ _ _ => Cell.le_refl _) | (intro i hi; rfl) | (intro i hi; exact absurd hi (Nat.not_lt_zero _)))⟩⟩

def sProveQ : SpecF
  | [.c (.eptr 1 0 1 0), .c (.str k)], [.glob gg sz0 n1 get0, .data fr ty sz n0 get] => some (KsAt gg sz0 n1 get0 ∧ esPre fr ty sz n0 (get 0 0), .agg [.int .i64 (mkC (esL (get 0 0))), .row 2], [.dead, .data false 75 1 1 fun _ _ => .es false 78 2 (esN (get 0 0)) (prG (esL (get 0 0))), .data true 98 4 (lenL (mkL (esL (get 0 0)) k)) (leafG true (mkL (esL (get 0 0)) k))])
  | _, _ => none

set_option maxRecDepth 100000 in
set_option maxHeartbeats 8000000 in
theorem proveQP : Fn Tryz.prog 38 [1] [] sProveQ := by
  have hC : CtsOk Tryz.prog [(53, appFn [1] [(78, 2)] sMake)] := CtsOk.cons (Fn.ct makeP) <| CtsOk.nil _
  refine Fn.ofZ (E := tbMk) [0] 0 [] tbMk_ok hC (by kernel_rfl) Tryz.func38 rfl rfl rfl (by kernel_rfl) (by kernel_rfl) 2 (.data true 98 4 0 fun _ _ => .pl .tt) rfl ?_ ?_
  · intro args h pre r h' hs
    unfold sProveQ at hs
    split at hs
    · cases hs; exact ⟨rfl, rfl, Nat.le_of_ble_eq_true rfl⟩
    · cases hs
  · intro args h pre r h' hs hp
    unfold sProveQ at hs
    split at hs
    rotate_left
    · cases hs
    rename_i k gg sz0 n1 get0 fr ty sz n0 get
    cases hs
    obtain ⟨hK, rfl, rfl, rfl, rfl, n, g, hc, hst, hm⟩ := hp
    rw [hc]
    refine ⟨[.glob 1 1 64 (fun i => [.int .u32 (kOf i)]), .data false 75 1 1 fun _ _ => .es false 78 2 n (prG (prL n g))], ⟨hK.same.1, ⟨rfl, rfl, rfl, rfl, fun i j hi hj => ?_⟩, trivial⟩, ?_⟩
    · obtain rfl : i = 0 := by omega
      obtain rfl : j = 0 := by omega
      rw [hc]
      exact es_leq rfl fun i hi => hst.eq hi
    dsimp only [esL, esN]
    have hL : (prL n g).length = n := prL_len
    have ePR : prL n (prG (prL n g)) = prL n g := by
      have := prL_prG (prL n g)
      rwa [hL] at this
    clear hc hK
    generalize prL n g = L at hL ePR ⊢
    unfold sMake
    generalize hg0 : (List.length : List PP → Nat) = g0
    generalize hA : Arith.std = A
    set_option cbv.maxSteps 4000000 in cbv
    subst hA hg0
    refine Need.mk (Nat.le_refl 1) fun _ => Need.mk ⟨ksAt_self, rfl, rfl, prAt_prG _ L, hm⟩ fun _ => ?_
    simp only [ePR]
    exact ⟨[], [0, 1, 5], ⟨trivial, rfl, (by repeat' (first | exact trivial | exact rfl | apply And.intro | exact (fun _ _ _ _ => Cell.le_refl _) | (intro i hi; rfl) | (intro i hi; exact absurd hi (Nat.not_lt_zero _)))), (by first | decide | exact List.nodup_nil), rfl, by repeat' (first | exact trivial | exact rfl | apply And.intro | exact (fun _ _ _ _ => Cell.le_refl _) | (intro i hi; rfl) | (intro i hi; exact absurd hi (Nat.not_lt_zero _)))⟩⟩

end Go.Proofs.YtbbpgicoklhheaaGreatDoor.Vx
end

section
/- What is kept at heights: New, Last, Keep, Header, Headers, Get, Under, Prove, by the walker. -/
namespace Go.Proofs.YtbbpgicoklhheaaGreatDoor.Vx
open Sha
open Go.RowKit
set_option linter.unusedVariables false
set_option linter.unusedSimpArgs false
def keepPre (gg sz0 n0 : Nat) (get0 : Nat → List CV) (t : Nat) (mt : MTy) (ml : List (Value × MRec)) (ty one n : Nat) (get : Nat → List CV) (ts ty2 one2 n2 : Nat) (get2 : Nat → List CV) : Prop := KsAt gg sz0 n0 get0 ∧ paPre t mt ml ty one n get ∧ n ≤ 999999 ∧ ts = 75 ∧ prPre ty2 one2 n2 get2 ∧ StS (prL n2 get2) ∧ AllSz (prL n2 get2)
theorem paNum_yes {L : List PaR} {h : Int} (hh : paHas L h = true) : paNum L h = pNum (paRec L h) := if_pos hh
theorem paNum_no {L : List PaR} {h : Int} (hh : paHas L h = false) : paNum L h = fun _ => 0 := if_neg (by rw [hh]; decide)
theorem paL_none {L : List PaR} {h : Int} (hh : paHas L h = false) : paL L h = [] := by unfold paL; rw [paL_no hh]
/-- The headers of what is kept. -/
def pHdG (L : List PaR) (i : Nat) : List CV := hd34 (pNum (L.getD i (0, 0, [])))
theorem paRec_at {L : List PaR} (hp : PaS L) {j : Nat} (hj : j < L.length) : paHas L (pH L j) = true ∧ paRec L (pH L j) = L.getD j (0, 0, []) := by
  have e : pH L j = L[j].1 := by simp [pH, List.getD, hj]
  have hh : paHas L (pH L j) = true := paHas_mem.2 ⟨L[j], List.getElem_mem hj, e.symm⟩
  refine ⟨hh, ?_⟩
  obtain ⟨h1, h2⟩ := paRec_mem hh
  obtain ⟨i, hi, h3⟩ := List.getElem_of_mem h1
  rw [← h3] at h2 ⊢
  rw [e] at h2
  have hij : i = j := by
    rcases Nat.lt_trichotomy i j with h4 | h4 | h4
    · have := List.pairwise_iff_getElem.1 hp.up i j hi hj h4; omega
    · exact h4
    · have := List.pairwise_iff_getElem.1 hp.up j i hj hi h4; omega
  subst hij
  simp [List.getD, hj]
theorem hd_push {L : List PaR} {j : Nat} {f : Nat → Int} (hf : f = pNum (L.getD j (0, 0, []))) (i : Nat) (h : i < j + 1) : pushG j (pHdG L) (hd34 f) i = pHdG L i := by
  subst hf
  unfold pushG
  by_cases hi : i < j
  · rw [show Nat.blt i j = true by simpa [Nat.blt_eq] using hi]
  · rw [show Nat.blt i j = false by rw [Bool.eq_false_iff]; intro h2; exact hi (by simpa [Nat.blt_eq] using h2)]
    obtain rfl : i = j := by omega
    rfl
structure LHd (n : Nat) where
  j : Nat
  h1 : j ≤ n
attribute [local cbv_opaque] prK prV prL ltB findI findB szB setL putS dropL getL underL underN preB Lib.compareBytes prPre goodAt goodL insG delG insPre delPre KsAt leafF leafPre topG topPre0 rootF rootPre sumI hOf HashC kOf u8s lfG rootL sumsPre lK lV lI lP lN pG leafL leafOf leavesPre deep hNm wyL mkLeaf mkL mkC mkFrom mkTo wayG hashesG wayPre0 mkPre lenL StS esPre pHdG pQ pL pH pKey pRec mqHas mqNum mqN mqRow mqSet mqRec paHas paRec paL paNum keepE keepL pLast paPre keepPre rootL esPre pNum
def tbKp : Tbl where
  T :=
    (3, ⟨1, false, [.int .i64 (0)], .int .i64, 8⟩) ::
    (4, ⟨1, false, [.ff], .bool, 1⟩) ::
    (9, ⟨1, false, [.str []], .str, 16⟩) ::
    (5, ⟨1, false, [.int .u8 (0)], .int .u8, 1⟩) ::
    (87, ⟨1, true, [.int .i64 (0)], .struct [(0, (1, false))], 8⟩) ::
    (71, ⟨1, false, [.val (.slice none 0 0)], .slice 87, 24⟩) ::
    (90, ⟨35, true, [.int .i64 (0), .int .i64 (0), .int .u8 (0), .int .u8 (0), .int .u8 (0), .int .u8 (0), .int .u8 (0), .int .u8 (0), .int .u8 (0), .int .u8 (0), .int .u8 (0), .int .u8 (0), .int .u8 (0), .int .u8 (0), .int .u8 (0), .int .u8 (0), .int .u8 (0), .int .u8 (0), .int .u8 (0), .int .u8 (0), .int .u8 (0), .int .u8 (0), .int .u8 (0), .int .u8 (0), .int .u8 (0), .int .u8 (0), .int .u8 (0), .int .u8 (0), .int .u8 (0), .int .u8 (0), .int .u8 (0), .int .u8 (0), .int .u8 (0), .int .u8 (0), .val (.pointer none)], .struct [(0, (34, true)), (34, (1, false))], 56⟩) ::
    (73, ⟨2, true, [.val (.map none), .val (.slice none 0 0)], .struct [(0, (1, false)), (1, (1, false))], 32⟩) ::
    (25, ⟨1, false, [.val (.pointer none)], .ptr 73, 8⟩) ::
    (70, ⟨1, false, [.val (.map none)], .map 87 90, 8⟩) ::
    (78, ⟨2, true, [.str [], .str []], .struct [(0, (1, false)), (1, (1, false))], 32⟩) ::
    (57, ⟨1, false, [.val (.slice none 0 0)], .slice 78, 24⟩) ::
    (75, ⟨1, true, [.val (.slice none 0 0)], .struct [(0, (1, false))], 24⟩) ::
    (27, ⟨1, false, [.val (.pointer none)], .ptr 75, 8⟩) ::
    (41, ⟨32, true, [.int .u8 (0), .int .u8 (0), .int .u8 (0), .int .u8 (0), .int .u8 (0), .int .u8 (0), .int .u8 (0), .int .u8 (0), .int .u8 (0), .int .u8 (0), .int .u8 (0), .int .u8 (0), .int .u8 (0), .int .u8 (0), .int .u8 (0), .int .u8 (0), .int .u8 (0), .int .u8 (0), .int .u8 (0), .int .u8 (0), .int .u8 (0), .int .u8 (0), .int .u8 (0), .int .u8 (0), .int .u8 (0), .int .u8 (0), .int .u8 (0), .int .u8 (0), .int .u8 (0), .int .u8 (0), .int .u8 (0), .int .u8 (0)], .array 32 5, 32⟩) ::
    (47, ⟨34, true, [.int .i64 (0), .int .i64 (0), .int .u8 (0), .int .u8 (0), .int .u8 (0), .int .u8 (0), .int .u8 (0), .int .u8 (0), .int .u8 (0), .int .u8 (0), .int .u8 (0), .int .u8 (0), .int .u8 (0), .int .u8 (0), .int .u8 (0), .int .u8 (0), .int .u8 (0), .int .u8 (0), .int .u8 (0), .int .u8 (0), .int .u8 (0), .int .u8 (0), .int .u8 (0), .int .u8 (0), .int .u8 (0), .int .u8 (0), .int .u8 (0), .int .u8 (0), .int .u8 (0), .int .u8 (0), .int .u8 (0), .int .u8 (0), .int .u8 (0), .int .u8 (0)], .struct [(0, (1, false)), (1, (1, false)), (2, (32, true))], 48⟩) ::
    (66, ⟨1, false, [.val (.slice none 0 0)], .slice 47, 24⟩) ::
    (54, ⟨2, true, [.int .i64 (0), .val (.slice none 0 0)], .struct [(0, (1, false)), (1, (1, false))], 32⟩) ::
    (98, ⟨4, true, [.str [], .str [], .int .i64 (0), .val (.slice none 0 0)], .struct [(0, (1, false)), (1, (1, false)), (2, (1, false)), (3, (1, false))], 64⟩) ::
    (52, ⟨1, false, [.val (.slice none 0 0)], .slice 98, 24⟩) ::
    []
  F :=
    (87, [0]) ::
    []
  Q := [(70, (75, 78, 2))]

theorem tbKp_ok : tbKp.Ok Tryz.prog where
  T :=
    TblOk.cons (by kernel_rfl) <|
    TblOk.cons (by kernel_rfl) <|
    TblOk.cons (by kernel_rfl) <|
    TblOk.cons (by kernel_rfl) <|
    TblOk.cons (by kernel_rfl) <|
    TblOk.cons (by kernel_rfl) <|
    TblOk.cons (by kernel_rfl) <|
    TblOk.cons (by kernel_rfl) <|
    TblOk.cons (by kernel_rfl) <|
    TblOk.cons (by kernel_rfl) <|
    TblOk.cons (by kernel_rfl) <|
    TblOk.cons (by kernel_rfl) <|
    TblOk.cons (by kernel_rfl) <|
    TblOk.cons (by kernel_rfl) <|
    TblOk.cons (by kernel_rfl) <|
    TblOk.cons (by kernel_rfl) <|
    TblOk.cons (by kernel_rfl) <|
    TblOk.cons (by kernel_rfl) <|
    TblOk.cons (by kernel_rfl) <|
    TblOk.cons (by kernel_rfl) <|
    TblOk.nil _
  F :=
    FlatsOk.cons (FlatOk.of (D := .struct (Tryz.prog.fieldsOf 87)) 6 (by decide) (by kernel_rfl) (by kernel_rfl) rfl (by kernel_rfl)) <|
    FlatsOk.nil _

def sPLast : SpecF
  | [.c (.ptr 0 0)], [.cells t [.row 1, .row 2], .mq mt ml, .row ty one n get] => some (paPre t mt ml ty one n get, .c (.int .i64 (pLast (pL ml))), [.cells 73 [.row 1, .row 2], .mq pMT (pQ (pL ml)), .row 87 1 (pL ml).length (mkG (pL ml))])
  | _, _ => none

set_option maxRecDepth 100000 in
set_option maxHeartbeats 8000000 in
theorem lastPP : Fn Tryz.prog 25 [] [] sPLast := by
  have hC : CtsOk Tryz.prog [] := CtsOk.nil _
  refine Fn.of (E := tbKp) [] 0 [(3, [(0, true), (1, true), (2, true), (3, true), (4, true), (5, true), (6, true), (7, true), (8, true), (9, true), (10, true), (11, true), (12, true), (13, true)])] tbKp_ok hC (by kernel_rfl) Tryz.func25 rfl rfl rfl (by kernel_rfl) (by kernel_rfl) 3 5 1 ?_ ?_
  · intro args h pre r h' hs
    unfold sPLast at hs
    split at hs
    · cases hs; exact ⟨rfl, rfl, Nat.le_of_ble_eq_true rfl⟩
    · cases hs
  · intro args h pre r h' hs hp
    unfold sPLast at hs
    split at hs
    rotate_left
    · cases hs
    rename_i t mt ml ty one n get
    cases hs
    obtain ⟨rfl, rfl, e1, rfl, rfl, hn, hg, hS⟩ := hp
    generalize pL ml = L at e1 hn hg hS ⊢
    subst e1
    refine ⟨[.cells 73 [.row 1, .row 2], .mq pMT (pQ L), .row 87 1 n (mkG L)], ⟨rfl, rfl, ⟨rfl, rfl, rfl, fun i hi => hg i hi⟩, trivial⟩, ?_⟩
    clear hg
    obtain ⟨hl0, hl1⟩ := pLast_nonneg hS
    have hlen := hS.len
    generalize hg0 : (List.length : List PaR → Nat) = g0
    generalize hL : lft Tryz.prog _ = L
    generalize hA : Arith.std = A
    set_option cbv.maxSteps 2000000 in cbv
    subst hA hg0 hL
    refine Ife.mk (fun h => ?_) (fun h => ?_)
    · have h : (n : Int) = 0 := of_decide_eq_true (p := (n : Int) = 0) h
      rw [show pLast L = 0 by unfold pLast; rw [if_pos (by omega)]]
      exact ⟨[0, 1, 2], ⟨rfl, (by repeat' (first | exact trivial | exact hn | exact hn.symm | exact rfl | apply And.intro | exact (fun _ _ _ _ => Cell.le_refl _) | (intro i hi; rfl) | (intro i hi; exact absurd hi (Nat.not_lt_zero _)))), (by show List.Nodup [0, 1, 2]; decide), rfl, by repeat' (first | exact trivial | exact hn | exact hn.symm | exact rfl | apply And.intro | exact (fun _ _ _ _ => Cell.le_refl _) | (intro i hi; rfl) | (intro i hi; exact absurd hi (Nat.not_lt_zero _)))⟩⟩
    · have h : ¬ (n : Int) = 0 := of_decide_eq_false (p := (n : Int) = 0) h
      have e : pLast L = pH L ((n : Int) - 1).toNat := by unfold pLast; rw [if_neg (by omega), show ((n : Int) - 1).toNat = L.length - 1 by omega]
      refine Need.mk (by show fitStd .i64 ((n : Int) - 1); unfold fitStd; omega) fun _ => Need.mk (by show 0 ≤ (n : Int) - 1 ∧ (n : Int) - 1 < (n : Int); omega) fun _ => Need.mk (by show ((n : Int) - 1).toNat < n; omega) fun _ => ?_
      rw [e]
      exact ⟨[0, 1, 2], ⟨rfl, (by repeat' (first | exact trivial | exact hn | exact hn.symm | exact rfl | apply And.intro | exact (fun _ _ _ _ => Cell.le_refl _) | (intro i hi; rfl) | (intro i hi; exact absurd hi (Nat.not_lt_zero _)))), (by show List.Nodup [0, 1, 2]; decide), rfl, by repeat' (first | exact trivial | exact hn | exact hn.symm | exact rfl | apply And.intro | exact (fun _ _ _ _ => Cell.le_refl _) | (intro i hi; rfl) | (intro i hi; exact absurd hi (Nat.not_lt_zero _)))⟩⟩

def sPHdr : SpecF
  | [.c (.ptr 0 0), .c (.int .i64 h)], [.cells t [.row 1, .row 2], .mq mt ml, .row ty one n get] => some (paPre t mt ml ty one n get, .tup [(none, hd34 (paNum (pL ml) h)), (some (.bool (paHas (pL ml) h)), [])], [.cells 73 [.row 1, .row 2], .mq pMT (pQ (pL ml)), .row 87 1 (pL ml).length (mkG (pL ml))])
  | _, _ => none

set_option maxRecDepth 100000 in
set_option maxHeartbeats 8000000 in
theorem hdrPP : Fn Tryz.prog 15 [] [] sPHdr := by
  have hC : CtsOk Tryz.prog [] := CtsOk.nil _
  refine Fn.of (E := tbKp) [] 0 [] tbKp_ok hC (by kernel_rfl) Tryz.func15 rfl rfl rfl (by kernel_rfl) (by kernel_rfl) 3 5 1 ?_ ?_
  · intro args h pre r h' hs
    unfold sPHdr at hs
    split at hs
    · cases hs; exact ⟨rfl, rfl, Nat.le_of_ble_eq_true rfl⟩
    · cases hs
  · intro args h pre r h' hs hp
    unfold sPHdr at hs
    split at hs
    rotate_left
    · cases hs
    rename_i h t mt ml ty one n get
    cases hs
    obtain ⟨rfl, rfl, e1, rfl, rfl, hn, hg, hS⟩ := hp
    generalize pL ml = L at e1 hn hg hS ⊢
    subst e1
    refine ⟨[.cells 73 [.row 1, .row 2], .mq pMT (pQ L), .row 87 1 n (mkG L)], ⟨rfl, rfl, ⟨rfl, rfl, rfl, fun i hi => hg i hi⟩, trivial⟩, ?_⟩
    clear hg
    obtain ⟨hl0, hl1⟩ := pLast_nonneg hS
    have hlen := hS.len
    generalize hg0 : (List.length : List PaR → Nat) = g0
    generalize hL : lft Tryz.prog _ = L
    generalize hA : Arith.std = A
    set_option cbv.maxSteps 2000000 in cbv
    subst hA hg0 hL
    refine Ife.mk (fun hh => ?_) (fun hh => ?_)
    · replace hh : paHas L h = true := by rw [← mqHas_pQ]; exact hh
      rw [show mqNum (.agg #[.int .i64 h]) (pQ L) = paNum L h from mqNum_pQ hh, hh]
      exact ⟨[0, 1, 2], ⟨rfl, (by repeat' (first | exact trivial | exact hn | exact hn.symm | exact rfl | apply And.intro | exact (fun _ _ _ _ => Cell.le_refl _) | (intro i hi; rfl) | (intro i hi; exact absurd hi (Nat.not_lt_zero _)))), (by show List.Nodup [0, 1, 2]; decide), rfl, by repeat' (first | exact trivial | exact hn | exact hn.symm | exact rfl | apply And.intro | exact (fun _ _ _ _ => Cell.le_refl _) | (intro i hi; rfl) | (intro i hi; exact absurd hi (Nat.not_lt_zero _)))⟩⟩
    · replace hh : paHas L h = false := by rw [← mqHas_pQ]; exact hh
      rw [paNum_no hh, hh]
      exact ⟨[0, 1, 2], ⟨rfl, (by repeat' (first | exact trivial | exact hn | exact hn.symm | exact rfl | apply And.intro | exact (fun _ _ _ _ => Cell.le_refl _) | (intro i hi; rfl) | (intro i hi; exact absurd hi (Nat.not_lt_zero _)))), (by show List.Nodup [0, 1, 2]; decide), rfl, by repeat' (first | exact trivial | exact hn | exact hn.symm | exact rfl | apply And.intro | exact (fun _ _ _ _ => Cell.le_refl _) | (intro i hi; rfl) | (intro i hi; exact absurd hi (Nat.not_lt_zero _)))⟩⟩

def sPGet : SpecF
  | [.c (.ptr 0 0), .c (.int .i64 h), .c (.str k)], [.cells t [.row 1, .row 2], .mq mt ml, .row ty one n get] => some (paPre t mt ml ty one n get, .tup [(some (.str (getL (paL (pL ml) h) k)), []), (some (.bool (findB (paL (pL ml) h) k)), [])], [.cells 73 [.row 1, .row 2], .mq pMT (pQ (pL ml)), .row 87 1 (pL ml).length (mkG (pL ml))])
  | _, _ => none

set_option maxRecDepth 100000 in
set_option maxHeartbeats 8000000 in
theorem getPP : Fn Tryz.prog 16 [] [] sPGet := by
  have hC : CtsOk Tryz.prog [(37, appFn [] [] sGetQ)] := CtsOk.cons (Fn.ct getQP) <| CtsOk.nil _
  refine Fn.of (E := tbKp) [] 0 [] tbKp_ok hC (by kernel_rfl) Tryz.func16 rfl rfl rfl (by kernel_rfl) (by kernel_rfl) 3 5 1 ?_ ?_
  · intro args h pre r h' hs
    unfold sPGet at hs
    split at hs
    · cases hs; exact ⟨rfl, rfl, Nat.le_of_ble_eq_true rfl⟩
    · cases hs
  · intro args h pre r h' hs hp
    unfold sPGet at hs
    split at hs
    rotate_left
    · cases hs
    rename_i h k t mt ml ty one n get
    cases hs
    obtain ⟨rfl, rfl, e1, rfl, rfl, hn, hg, hS⟩ := hp
    generalize pL ml = L at e1 hn hg hS ⊢
    subst e1
    refine ⟨[.cells 73 [.row 1, .row 2], .mq pMT (pQ L), .row 87 1 n (mkG L)], ⟨rfl, rfl, ⟨rfl, rfl, rfl, fun i hi => hg i hi⟩, trivial⟩, ?_⟩
    clear hg
    obtain ⟨hl0, hl1⟩ := pLast_nonneg hS
    have hlen := hS.len
    unfold sGetQ
    generalize hg0 : (List.length : List PaR → Nat) = g0
    generalize hg1 : (List.length : List PP → Nat) = g1
    generalize hL : lft Tryz.prog _ = L
    generalize hA : Arith.std = A
    set_option cbv.maxSteps 2000000 in cbv
    subst hA hg0 hg1 hL
    refine Ife.mk (fun hh => ?_) (fun hh => ?_)
    · replace hh : paHas L h = true := by rw [← mqHas_pQ]; exact hh
      obtain ⟨q1, q2, q3⟩ := hS.at h
      have eN : mqN (.agg #[.int .i64 h]) (pQ L) = (paL L h).length := mqN_pQ hh
      have eR : mqRow (.agg #[.int .i64 h]) (pQ L) = prG (paL L h) := mqRow_pQ hh
      simp only [eN, eR, esL, esN, prL_prG]
      refine Need.mk ⟨esPre_mk q3, q1⟩ fun _ => ?_
      exact ⟨[0, 1, 2], ⟨rfl, (by repeat' (first | exact trivial | exact hn | exact hn.symm | exact rfl | apply And.intro | exact (fun _ _ _ _ => Cell.le_refl _) | (intro i hi; rfl) | (intro i hi; exact absurd hi (Nat.not_lt_zero _)))), (by show List.Nodup [0, 1, 2]; decide), rfl, by repeat' (first | exact trivial | exact hn | exact hn.symm | exact rfl | apply And.intro | exact (fun _ _ _ _ => Cell.le_refl _) | (intro i hi; rfl) | (intro i hi; exact absurd hi (Nat.not_lt_zero _)))⟩⟩
    · replace hh : paHas L h = false := by rw [← mqHas_pQ]; exact hh
      rw [paL_none hh]
      exact ⟨[0, 1, 2], ⟨rfl, (by repeat' (first | exact trivial | exact hn | exact hn.symm | exact rfl | apply And.intro | exact (fun _ _ _ _ => Cell.le_refl _) | (intro i hi; rfl) | (intro i hi; exact absurd hi (Nat.not_lt_zero _)))), (by show List.Nodup [0, 1, 2]; decide), rfl, by repeat' (first | exact trivial | exact hn | exact hn.symm | exact rfl | apply And.intro | exact (fun _ _ _ _ => Cell.le_refl _) | (intro i hi; rfl) | (intro i hi; exact absurd hi (Nat.not_lt_zero _)))⟩⟩

def sPUnder : SpecF
  | [.c (.ptr 0 0), .c (.int .i64 h), .c (.str k)], [.cells t [.row 1, .row 2], .mq mt ml, .row ty one n get] => some (paPre t mt ml ty one n get, .c (.row 3), [.cells 73 [.row 1, .row 2], .mq pMT (pQ (pL ml)), .row 87 1 (pL ml).length (mkG (pL ml)), .row 78 2 (underL (paL (pL ml) h) k).length (prG (underL (paL (pL ml) h) k))])
  | _, _ => none

set_option maxRecDepth 100000 in
set_option maxHeartbeats 8000000 in
theorem underPP : Fn Tryz.prog 18 [] [] sPUnder := by
  have hC : CtsOk Tryz.prog [(39, appFn [] [] sUnderQ)] := CtsOk.cons (Fn.ct underQP) <| CtsOk.nil _
  refine Fn.of (E := tbKp) [] 0 [] tbKp_ok hC (by kernel_rfl) Tryz.func18 rfl rfl rfl (by kernel_rfl) (by kernel_rfl) 3 78 2 ?_ ?_
  · intro args h pre r h' hs
    unfold sPUnder at hs
    split at hs
    · cases hs; exact ⟨rfl, rfl, Nat.le_of_ble_eq_true rfl⟩
    · cases hs
  · intro args h pre r h' hs hp
    unfold sPUnder at hs
    split at hs
    rotate_left
    · cases hs
    rename_i h k t mt ml ty one n get
    cases hs
    obtain ⟨rfl, rfl, e1, rfl, rfl, hn, hg, hS⟩ := hp
    generalize pL ml = L at e1 hn hg hS ⊢
    subst e1
    refine ⟨[.cells 73 [.row 1, .row 2], .mq pMT (pQ L), .row 87 1 n (mkG L)], ⟨rfl, rfl, ⟨rfl, rfl, rfl, fun i hi => hg i hi⟩, trivial⟩, ?_⟩
    clear hg
    obtain ⟨hl0, hl1⟩ := pLast_nonneg hS
    have hlen := hS.len
    unfold sUnderQ
    generalize hg0 : (List.length : List PaR → Nat) = g0
    generalize hg1 : (List.length : List PP → Nat) = g1
    generalize hL : lft Tryz.prog _ = L
    generalize hA : Arith.std = A
    set_option cbv.maxSteps 2000000 in cbv
    subst hA hg0 hg1 hL
    refine Ife.mk (fun hh => ?_) (fun hh => ?_)
    · replace hh : paHas L h = true := by rw [← mqHas_pQ]; exact hh
      obtain ⟨q1, q2, q3⟩ := hS.at h
      have eN : mqN (.agg #[.int .i64 h]) (pQ L) = (paL L h).length := mqN_pQ hh
      have eR : mqRow (.agg #[.int .i64 h]) (pQ L) = prG (paL L h) := mqRow_pQ hh
      simp only [eN, eR, esL, esN, prL_prG]
      refine Need.mk ⟨esPre_mk q3, q1⟩ fun _ => ?_
      have hRU : (underL (prL (paL L h).length (prG (paL L h))) k).length = (underL (paL L h) k).length := by rw [prL_prG]
      exact ⟨[0, 1, 2, 5], ⟨rfl, (by repeat' (first | exact trivial | exact hRU | exact hn | exact hn.symm | exact rfl | apply And.intro | exact (fun _ _ _ _ => Cell.le_refl _) | (intro i hi; rfl) | (intro i hi; exact absurd hi (Nat.not_lt_zero _)))), (by show List.Nodup [0, 1, 2, 5]; decide), rfl, by repeat' (first | exact trivial | exact hRU | exact hn | exact hn.symm | exact rfl | apply And.intro | exact (fun _ _ _ _ => Cell.le_refl _) | (intro i hi; rfl) | (intro i hi; exact absurd hi (Nat.not_lt_zero _)))⟩⟩
    · replace hh : paHas L h = false := by rw [← mqHas_pQ]; exact hh
      rw [paL_none hh]
      have hRU : True := trivial
      exact ⟨[0, 1, 2, 4], ⟨rfl, (by repeat' (first | exact trivial | exact hRU | exact hn | exact hn.symm | exact rfl | apply And.intro | exact (fun _ _ _ _ => Cell.le_refl _) | (intro i hi; rfl) | (intro i hi; exact absurd hi (Nat.not_lt_zero _)))), (by show List.Nodup [0, 1, 2, 4]; decide), rfl, by repeat' (first | exact trivial | exact hRU | exact hn | exact hn.symm | exact rfl | apply And.intro | exact (fun _ _ _ _ => Cell.le_refl _) | (intro i hi; rfl) | (intro i hi; exact absurd hi (Nat.not_lt_zero _)))⟩⟩

def sPProve : SpecF
  | [.c (.ptr 1 0), .c (.int .i64 h), .c (.str k)], [.glob gg sz0 n0 get0, .cells t [.row 2, .row 3], .mq mt ml, .row ty one n get] => some (KsAt gg sz0 n0 get0 ∧ paPre t mt ml ty one n get, .tup [(none, [.int .i64 (mkC (paL (pL ml) h)), .row 4]), (some (.int .i64 (if paHas (pL ml) h = true then 0 else 7)), [])], [.dead, .cells 73 [.row 2, .row 3], .mq pMT (pQ (pL ml)), .row 87 1 (pL ml).length (mkG (pL ml)), .data true 98 4 (lenL (mkL (paL (pL ml) h) k)) (leafG true (mkL (paL (pL ml) h) k))])
  | _, _ => none

set_option maxRecDepth 100000 in
set_option maxHeartbeats 8000000 in
theorem provePP : Fn Tryz.prog 17 [1] [] sPProve := by
  have hC : CtsOk Tryz.prog [(38, appFn [1] [] sProveQ)] := CtsOk.cons (Fn.ct proveQP) <| CtsOk.nil _
  refine Fn.ofZ (E := tbKp) [0] 0 [] tbKp_ok hC (by kernel_rfl) Tryz.func17 rfl rfl rfl (by kernel_rfl) (by kernel_rfl) 4 (.data true 98 4 0 fun _ _ => .pl .tt) rfl ?_ ?_
  · intro args h pre r h' hs
    unfold sPProve at hs
    split at hs
    · cases hs; exact ⟨rfl, rfl, Nat.le_of_ble_eq_true rfl⟩
    · cases hs
  · intro args h pre r h' hs hp
    unfold sPProve at hs
    split at hs
    rotate_left
    · cases hs
    rename_i h k gg sz0 n0 get0 t mt ml ty one n get
    cases hs
    obtain ⟨hK, rfl, rfl, e1, rfl, rfl, hn, hg, hS⟩ := hp
    generalize pL ml = L at e1 hn hg hS ⊢
    subst e1
    refine ⟨[.glob 1 1 64 (fun i => [.int .u32 (kOf i)]), .cells 73 [.row 2, .row 3], .mq pMT (pQ L), .row 87 1 n (mkG L)], ⟨hK.same.1, rfl, rfl, ⟨rfl, rfl, rfl, fun i hi => hg i hi⟩, trivial⟩, ?_⟩
    clear hg hK
    obtain ⟨hl0, hl1⟩ := pLast_nonneg hS
    have hlen := hS.len
    unfold sProveQ
    generalize hg0 : (List.length : List PaR → Nat) = g0
    generalize hg1 : (List.length : List PP → Nat) = g1
    generalize hL : lft Tryz.prog _ = L
    generalize hA : Arith.std = A
    set_option cbv.maxSteps 4000000 in cbv
    subst hA hg0 hg1 hL
    refine Ife.mk (fun hh => ?_) (fun hh => ?_)
    · replace hh : paHas L h = true := by rw [← mqHas_pQ]; exact hh
      obtain ⟨q1, q2, q3⟩ := hS.at h
      have eN : mqN (.agg #[.int .i64 h]) (pQ L) = (paL L h).length := mqN_pQ hh
      have eR : mqRow (.agg #[.int .i64 h]) (pQ L) = prG (paL L h) := mqRow_pQ hh
      simp only [eN, eR, esL, esN, prL_prG]
      refine Need.mk ⟨ksAt_self, esPre_mk q3⟩ fun _ => ?_
      rw [if_pos hh]
      exact ⟨[], [0, 1, 2, 3, 7], ⟨trivial, rfl, (by repeat' (first | exact trivial | exact hn | exact hn.symm | exact rfl | apply And.intro | exact (fun _ _ _ _ => Cell.le_refl _) | (intro i hi; rfl) | (intro i hi; exact absurd hi (Nat.not_lt_zero _)))), (by show List.Nodup [1, 2, 3]; decide), rfl, by repeat' (first | exact trivial | exact hn | exact hn.symm | exact rfl | apply And.intro | exact (fun _ _ _ _ => Cell.le_refl _) | (intro i hi; rfl) | (intro i hi; exact absurd hi (Nat.not_lt_zero _)))⟩⟩
    · replace hh : paHas L h = false := by rw [← mqHas_pQ]; exact hh
      rw [paL_none hh, if_neg (by rw [hh]; decide)]
      have hR1 : ∀ i j, i < lenL (mkL [] k) → j < 4 → ((fun _ _ => Cell.pl CV.tt : Nat → Nat → Cell) i j).le (leafG true (mkL [] k) i j) := fun i j hi _ => absurd hi (show ¬ i < 0 from Nat.not_lt_zero i)
      exact ⟨[], [0, 1, 2, 3, 6], ⟨trivial, rfl, (by repeat' (first | exact trivial | exact hR1 | exact hn | exact hn.symm | exact rfl | apply And.intro | exact (fun _ _ _ _ => Cell.le_refl _) | (intro i hi; rfl) | (intro i hi; exact absurd hi (Nat.not_lt_zero _)))), (by show List.Nodup [1, 2, 3]; decide), rfl, by repeat' (first | exact trivial | exact hR1 | exact hn | exact hn.symm | exact rfl | apply And.intro | exact (fun _ _ _ _ => Cell.le_refl _) | (intro i hi; rfl) | (intro i hi; exact absurd hi (Nat.not_lt_zero _)))⟩⟩

def sPNew : SpecF
  | [], [] => some (True, .c (.ptr 0 0), [.cells 73 [.row 1, .row 2], .mq pMT (pQ []), .row 87 1 0 (mkG [])])
  | _, _ => none
set_option maxRecDepth 100000 in
set_option maxHeartbeats 8000000 in
theorem newPP : Fn Tryz.prog 6 [] [] sPNew := by
  have hC : CtsOk Tryz.prog [] := CtsOk.nil _
  refine Fn.ofR (E := tbKp) tbKp_ok Tryz.func6 rfl rfl rfl (by kernel_rfl) 0 5 1 ?_ ?_
  · intro args h pre r h' hs
    unfold sPNew at hs
    split at hs
    · cases hs; exact ⟨rfl, rfl, Nat.le_of_ble_eq_true rfl⟩
    · cases hs
  · intro args h pre r h' hs hp
    unfold sPNew at hs
    split at hs
    rotate_left
    · cases hs
    cases hs
    refine ⟨[], trivial, ?_⟩
    refine Runs.cutT ⟨List.replicate 4 .any, []⟩ ?_ ?_
    · refine exec_ok (N := env (lft Tryz.prog 0) 0 .std tbKp [] []) rfl tbKp_ok hC (fun c st K _ h => h) (by kernel_rfl) [] _ _ _ (by kernel_rfl) ?_
      generalize hL : lft Tryz.prog _ = L
      generalize hA : Arith.std = A
      set_option cbv.maxSteps 2000000 in cbv
      subst hA hL
      exact StT.ofL (σ := []) ⟨rfl, by show List.Nodup []; exact List.nodup_nil, by repeat' (first | exact trivial | exact rfl | apply And.intro | exact (fun _ _ _ _ => Cell.le_refl _) | (intro i hi; rfl) | (intro i hi; exact absurd hi (Nat.not_lt_zero _))), by repeat' (first | exact trivial | exact rfl | apply And.intro | exact (fun _ _ _ _ => Cell.le_refl _) | (intro i hi; rfl) | (intro i hi; exact absurd hi (Nat.not_lt_zero _)))⟩
    refine Runs.cutT ⟨[.c (.ptr 0 0), .any, .any, .any], [.cells 73 [.row 1, .row 2], .mq pMT (pQ []), .row 87 1 0 (mkG [])]⟩ ?_ ?_
    · refine exec_ok (N := env (lft Tryz.prog 0) 0 .std tbKp [] []) rfl tbKp_ok hC (fun c st K _ h => h) (by kernel_rfl) [] _ _ _ (by kernel_rfl) ?_
      generalize hL : lft Tryz.prog _ = L
      generalize hA : Arith.std = A
      set_option cbv.maxSteps 2000000 in cbv
      subst hA hL
      exact StT.trans (StT.nilCell 1 1 (.row 87 1 0 (mkG [])) rfl rfl rfl) (StT.ofL (σ := [1, 0, 2]) ⟨rfl, by show List.Nodup [1, 0, 2]; decide, by repeat' (first | exact trivial | exact rfl | apply And.intro | exact (fun _ _ _ _ => Cell.le_refl _) | (intro i hi; rfl) | (intro i hi; exact absurd hi (Nat.not_lt_zero _))), by repeat' (first | exact trivial | exact rfl | apply And.intro | exact (fun _ _ _ _ => Cell.le_refl _) | (intro i hi; rfl) | (intro i hi; exact absurd hi (Nat.not_lt_zero _)))⟩)
    refine exec_ok (N := env (lft Tryz.prog 0) 0 .std tbKp [] []) rfl tbKp_ok hC (fun c st K _ h => h) (by kernel_rfl) [] _ _ _ (by kernel_rfl) ?_
    generalize hL : lft Tryz.prog _ = L
    generalize hA : Arith.std = A
    set_option cbv.maxSteps 2000000 in cbv
    subst hA hL
    exact ⟨[0, 1, 2], ⟨rfl, (by repeat' (first | exact trivial | exact rfl | apply And.intro | exact (fun _ _ _ _ => Cell.le_refl _) | (intro i hi; rfl) | (intro i hi; exact absurd hi (Nat.not_lt_zero _)))), (by show List.Nodup [0, 1, 2]; decide), rfl, by repeat' (first | exact trivial | exact rfl | apply And.intro | exact (fun _ _ _ _ => Cell.le_refl _) | (intro i hi; rfl) | (intro i hi; exact absurd hi (Nat.not_lt_zero _)))⟩⟩

def sPKeep : SpecF
  | [.c (.ptr 1 0), .c (.int .i64 h), .c (.int .i64 tm), .c (.ptr 2 0)], [.glob gg sz0 n0 get0, .cells t [.row 3, .row 4], .cells ts [.row 5], .mq mt ml, .row ty one n get, .row ty2 one2 n2 get2] => some (keepPre gg sz0 n0 get0 t mt ml ty one n get ts ty2 one2 n2 get2, .c (.int .i64 (keepE (pL ml) h tm)), [.dead, .cells 73 [.row 3, .row 6], .cells 75 [.row 5], .mq pMT (pQ (keepL (pL ml) h tm (prL n2 get2))), .dead, .row 78 2 n2 (prG (prL n2 get2)), .row 87 1 (keepL (pL ml) h tm (prL n2 get2)).length (mkG (keepL (pL ml) h tm (prL n2 get2)))])
  | _, _ => none

set_option maxRecDepth 100000 in
set_option maxHeartbeats 8000000 in
theorem keepPP : Fn Tryz.prog 13 [1] [] sPKeep := by
  have hC : CtsOk Tryz.prog [(25, appFn [] [] sPLast), (35, appFn [1] [] sSRoot), (36, appFn [] [] sCopy)] := CtsOk.cons (Fn.ct lastPP) <| CtsOk.cons (Fn.ct sRootP) <| CtsOk.cons (Fn.ct copyP) <| CtsOk.nil _
  refine Fn.of (E := tbKp) [0] 0 [(6, [(2002, false), (2005, false), (0, true), (1, true), (2, true), (3, true), (4, true), (5, true), (6, true), (7, true), (10, true), (8, false), (9, true), (11, false), (12, true), (1013, false), (13, false)]), (7, [(2004, false), (0, true), (1, true), (2, true), (3, true), (4, true), (5, true), (6, false), (7, false), (1008, false), (8, true), (9, true), (10, false)])] tbKp_ok hC (by kernel_rfl) Tryz.func13 rfl rfl rfl (by kernel_rfl) (by kernel_rfl) 6 5 1 ?_ ?_
  · intro args h pre r h' hs
    unfold sPKeep at hs
    split at hs
    · cases hs; exact ⟨rfl, rfl, Nat.le_of_ble_eq_true rfl⟩
    · cases hs
  · intro args h pre r h' hs hp
    unfold sPKeep at hs
    split at hs
    rotate_left
    · cases hs
    rename_i h tm gg sz0 n0 get0 t ts mt ml ty one n get ty2 one2 n2 get2
    cases hs
    obtain ⟨hK, ⟨rfl, rfl, e1, rfl, rfl, hn, hg, hS⟩, hn6, rfl, ⟨rfl, rfl, hst, hm⟩, hs, hz⟩ := hp
    generalize pL ml = L at e1 hn hg hS ⊢
    subst e1
    refine ⟨[.glob 1 1 64 (fun i => [.int .u32 (kOf i)]), .cells 73 [.row 3, .row 4], .cells 75 [.row 5], .mq pMT (pQ L), .row 87 1 n (mkG L), .row 78 2 n2 (prG (prL n2 get2))], ⟨hK.same.1, rfl, rfl, rfl, ⟨rfl, rfl, rfl, fun i hi => hg i hi⟩, ⟨rfl, rfl, rfl, fun i hi => hst.eq hi⟩, trivial⟩, ?_⟩
    clear hg hK
    have hPL : (prL n2 get2).length = n2 := prL_len
    have ePR : prL n2 (prG (prL n2 get2)) = prL n2 get2 := by
      have := prL_prG (prL n2 get2)
      rwa [hPL] at this
    have hpp : prPre 78 2 n2 (prG (prL n2 get2)) := ⟨rfl, rfl, prAt_prG _ _, hm⟩
    generalize prL n2 get2 = S at hPL ePR hs hz hpp ⊢
    obtain ⟨hl0, hl1⟩ := pLast_nonneg hS
    have hlen := hS.len
    have hpa : paPre 73 pMT (pQ L) 87 1 n (mkG L) := by rw [hn]; exact paPre_mk hS
    unfold sPLast sSRoot sCopy
    generalize hg0 : (List.length : List PaR → Nat) = g0
    generalize hg1 : (List.length : List PP → Nat) = g1
    generalize hL : lft Tryz.prog _ = L
    generalize hA : Arith.std = A
    set_option cbv.maxSteps 6000000 in cbv
    subst hA hg0 hg1 hL
    refine Ife.mk (fun c1 => ?_) (fun c1 => ?_)
    · have c1 : h < 1 := of_decide_eq_true (p := h < 1) c1
      have e1 : keepE L h tm = 1 := if_pos (Or.inl c1)
      have e2 : keepL L h tm S = L := if_neg (by rw [e1]; decide)
      rw [e1, e2]
      exact ⟨[0, 1, 2, 3, 4, 5, 4], ⟨rfl, (by repeat' (first | exact trivial | exact hn | exact hn.symm | exact rfl | apply And.intro | exact (fun _ _ _ _ => Cell.le_refl _) | (intro i hi; rfl) | (intro i hi; exact absurd hi (Nat.not_lt_zero _)))), (by show List.Nodup [1, 2, 3, 5, 4]; decide), rfl, by repeat' (first | exact trivial | exact hn | exact hn.symm | exact rfl | apply And.intro | exact (fun _ _ _ _ => Cell.le_refl _) | (intro i hi; rfl) | (intro i hi; exact absurd hi (Nat.not_lt_zero _)))⟩⟩
    replace c1 : ¬ h < 1 := of_decide_eq_false (p := h < 1) c1
    refine Ife.mk (fun c2 => ?_) (fun c2 => ?_)
    · have c2 : 1099511627776 < h := of_decide_eq_true (p := 1099511627776 < h) c2
      have e1 : keepE L h tm = 1 := if_pos (by omega)
      have e2 : keepL L h tm S = L := if_neg (by rw [e1]; decide)
      rw [e1, e2]
      exact ⟨[0, 1, 2, 3, 4, 5, 4], ⟨rfl, (by repeat' (first | exact trivial | exact hn | exact hn.symm | exact rfl | apply And.intro | exact (fun _ _ _ _ => Cell.le_refl _) | (intro i hi; rfl) | (intro i hi; exact absurd hi (Nat.not_lt_zero _)))), (by show List.Nodup [1, 2, 3, 5, 4]; decide), rfl, by repeat' (first | exact trivial | exact hn | exact hn.symm | exact rfl | apply And.intro | exact (fun _ _ _ _ => Cell.le_refl _) | (intro i hi; rfl) | (intro i hi; exact absurd hi (Nat.not_lt_zero _)))⟩⟩
    replace c2 : ¬ 1099511627776 < h := of_decide_eq_false (p := 1099511627776 < h) c2
    refine Ife.mk (fun c3 => ?_) (fun c3 => ?_)
    · have c3 : tm < 0 := of_decide_eq_true (p := tm < 0) c3
      have e1 : keepE L h tm = 1 := if_pos (by omega)
      have e2 : keepL L h tm S = L := if_neg (by rw [e1]; decide)
      rw [e1, e2]
      exact ⟨[0, 1, 2, 3, 4, 5, 4], ⟨rfl, (by repeat' (first | exact trivial | exact hn | exact hn.symm | exact rfl | apply And.intro | exact (fun _ _ _ _ => Cell.le_refl _) | (intro i hi; rfl) | (intro i hi; exact absurd hi (Nat.not_lt_zero _)))), (by show List.Nodup [1, 2, 3, 5, 4]; decide), rfl, by repeat' (first | exact trivial | exact hn | exact hn.symm | exact rfl | apply And.intro | exact (fun _ _ _ _ => Cell.le_refl _) | (intro i hi; rfl) | (intro i hi; exact absurd hi (Nat.not_lt_zero _)))⟩⟩
    replace c3 : ¬ tm < 0 := of_decide_eq_false (p := tm < 0) c3
    refine Ife.mk (fun c4 => ?_) (fun c4 => ?_)
    · have c4 : 1099511627776 < tm := of_decide_eq_true (p := 1099511627776 < tm) c4
      have e1 : keepE L h tm = 1 := if_pos (by omega)
      have e2 : keepL L h tm S = L := if_neg (by rw [e1]; decide)
      rw [e1, e2]
      exact ⟨[0, 1, 2, 3, 4, 5, 4], ⟨rfl, (by repeat' (first | exact trivial | exact hn | exact hn.symm | exact rfl | apply And.intro | exact (fun _ _ _ _ => Cell.le_refl _) | (intro i hi; rfl) | (intro i hi; exact absurd hi (Nat.not_lt_zero _)))), (by show List.Nodup [1, 2, 3, 5, 4]; decide), rfl, by repeat' (first | exact trivial | exact hn | exact hn.symm | exact rfl | apply And.intro | exact (fun _ _ _ _ => Cell.le_refl _) | (intro i hi; rfl) | (intro i hi; exact absurd hi (Nat.not_lt_zero _)))⟩⟩
    replace c4 : ¬ 1099511627776 < tm := of_decide_eq_false (p := 1099511627776 < tm) c4
    refine Need.mk hpa fun _ => ?_
    simp only [pL_pQ]
    refine Ife.mk (fun c5 => ?_) (fun c5 => ?_)
    · have c5 : h ≤ pLast L := of_decide_eq_true (p := h ≤ pLast L) c5
      have e1 : keepE L h tm = 16 := by unfold keepE; rw [if_neg (by omega), if_pos c5]
      have e2 : keepL L h tm S = L := if_neg (by rw [e1]; decide)
      rw [e1, e2]
      exact ⟨[0, 1, 2, 3, 4, 5, 4], ⟨rfl, (by repeat' (first | exact trivial | exact hn | exact hn.symm | exact rfl | apply And.intro | exact (fun _ _ _ _ => Cell.le_refl _) | (intro i hi; rfl) | (intro i hi; exact absurd hi (Nat.not_lt_zero _)))), (by show List.Nodup [1, 2, 3, 5, 4]; decide), rfl, by repeat' (first | exact trivial | exact hn | exact hn.symm | exact rfl | apply And.intro | exact (fun _ _ _ _ => Cell.le_refl _) | (intro i hi; rfl) | (intro i hi; exact absurd hi (Nat.not_lt_zero _)))⟩⟩
    replace c5 : ¬ h ≤ pLast L := of_decide_eq_false (p := h ≤ pLast L) c5
    have e1 : keepE L h tm = 0 := keepE_ok c1 c2 c3 c4 c5
    have e2 : keepL L h tm S = L ++ [(h, tm, S)] := if_pos e1
    rw [e1, e2]
    have hQ : mqSet (.agg #[.int .i64 h]) ⟨numL (h34 h tm (rootL S)), n2, prG S⟩ (pQ L) = pQ (L ++ [(h, tm, S)]) := by
      subst hPL
      rw [pQ_app]
      exact mqSet_pQ _ (hS.new (by omega))
    have hN1 : L.length + 1 = (L ++ [(h, tm, S)]).length := by simp
    have hP : ∀ i, i < (L ++ [(h, tm, S)]).length → pushG L.length (mkG L) [.int .i64 h] i = mkG (L ++ [(h, tm, S)]) i := fun i hi => mk_push L (h, tm, S) i (by rw [hN1]; exact hi)
    refine Need.mk ⟨ksAt_self, hpp, by rw [ePR]; exact hz⟩ fun _ => Need.mk (by rw [ePR]; exact hpp) fun _ => Need.mk (by show L.length + 1 ≤ maxLen ∧ (L.length + 1) * 8 ≤ 140737488355328; unfold maxLen; omega) fun _ => ?_
    simp only [ePR]
    exact ⟨[0, 1, 2, 3, 4, 5, 10], ⟨rfl, (by repeat' (first | exact trivial | exact hn | exact hn.symm | exact rfl | apply And.intro | exact (fun _ _ _ _ => Cell.le_refl _) | (intro i hi; rfl) | (intro i hi; exact absurd hi (Nat.not_lt_zero _)))), (by show List.Nodup [1, 2, 3, 5, 10]; decide), rfl, by repeat' (first | exact trivial | exact hQ | exact hN1 | exact hP | exact hn | exact hn.symm | exact rfl | apply And.intro | exact (fun _ _ _ _ => Cell.le_refl _) | (intro i hi; rfl) | (intro i hi; exact absurd hi (Nat.not_lt_zero _)))⟩⟩

def sPHdrs : SpecF
  | [.c (.ptr 0 0)], [.cells t [.row 1, .row 2], .mq mt ml, .row ty one n get] => some (paPre t mt ml ty one n get, .c (.row 3), [.cells 73 [.row 1, .row 2], .mq pMT (pQ (pL ml)), .row 87 1 (pL ml).length (mkG (pL ml)), .row 47 34 (pL ml).length (pHdG (pL ml))])
  | _, _ => none

set_option maxRecDepth 100000 in
set_option maxHeartbeats 8000000 in
theorem hdrsPP : Fn Tryz.prog 27 [] [] sPHdrs := by
  have hC : CtsOk Tryz.prog [] := CtsOk.nil _
  refine Fn.of (E := tbKp) [] 0 [(5, [(2003, false), (0, true), (1, true), (2, true), (3, true), (4, true), (5, true), (6, false), (7, true), (8, false), (9, false), (10, true)])] tbKp_ok hC (by kernel_rfl) Tryz.func27 rfl rfl rfl (by kernel_rfl) (by kernel_rfl) 3 47 34 ?_ ?_
  · intro args h pre r h' hs
    unfold sPHdrs at hs
    split at hs
    · cases hs; exact ⟨rfl, rfl, Nat.le_of_ble_eq_true rfl⟩
    · cases hs
  · intro args h pre r h' hs hp
    unfold sPHdrs at hs
    split at hs
    rotate_left
    · cases hs
    rename_i t mt ml ty one n get
    cases hs
    obtain ⟨rfl, rfl, e1, rfl, rfl, hn, hg, hS⟩ := hp
    generalize pL ml = L at e1 hn hg hS ⊢
    subst e1
    refine ⟨[.cells 73 [.row 1, .row 2], .mq pMT (pQ L), .row 87 1 n (mkG L)], ⟨rfl, rfl, ⟨rfl, rfl, rfl, fun i hi => hg i hi⟩, trivial⟩, ?_⟩
    clear hg
    obtain ⟨hl0, hl1⟩ := pLast_nonneg hS
    have hlen := hS.len
    generalize hg0 : (List.length : List PaR → Nat) = g0
    generalize hL : lft Tryz.prog _ = L
    generalize hA : Arith.std = A
    set_option cbv.maxSteps 2000000 in cbv
    subst hA hg0 hL
    refine Runs.nilTmp 3 47 34 (pHdG L) rfl ?_
    show Runs Tryz.prog 3 (.loop _) _ _
    refine loop_ruleR (N := env (lft Tryz.prog 3) 0 .std tbKp [] [(5, [(2003, false), (0, true), (1, true), (2, true), (3, true), (4, true), (5, true), (6, false), (7, true), (8, false), (9, false), (10, true)])]) rfl tbKp_ok hC (fun c st K _ h => h) (by kernel_rfl) [] (X := LHd n)
      (S := fun x => ⟨[.c (.ptr 0 0), .any, .any, .c (.row 3), .any, .any, .any, .any, .any, .c (.row 2), .c (.int .i64 n), .c (.int .i64 (x.j : Int))] ++ List.replicate 15 .any, [.cells 73 [.row 1, .row 2], .mq pMT (pQ L), .row 87 1 n (mkG L), .row 47 34 x.j (pHdG L)]⟩) (μ := fun x => n - x.j) ⟨0, Nat.zero_le _⟩ (by kernel_rfl) [0, 1, 2, 3] ?_ ?_
    · refine ⟨rfl, (by show List.Nodup [0, 1, 2, 3]; decide), ?_, ?_⟩ <;> repeat' (first | exact trivial | exact rfl | apply And.intro | exact (fun _ _ _ _ => Cell.le_refl _) | (intro i hi; rfl) | (intro i hi; exact absurd hi (Nat.not_lt_zero _)))
    rintro ⟨j, hjn⟩
    generalize hg0 : (List.length : List PaR → Nat) = g0
    generalize hL : lft Tryz.prog _ = L
    generalize hA : Arith.std = A
    set_option cbv.maxSteps 4000000 in cbv
    subst hA hg0 hL
    refine Ife.mk (fun h => ?_) (fun h => ?_)
    · have h : (j : Int) < (n : Int) := of_decide_eq_true (p := (j : Int) < (n : Int)) h
      have hj2 : j < n := Int.ofNat_lt.mp h
      obtain ⟨hb, hr⟩ := paRec_at hS (j := j) (by omega)
      have eM : mqNum (.agg #[.int .i64 (pH L j)]) (pQ L) = pNum (L.getD j (0, 0, [])) := (mqNum_pQ hb).trans ((paNum_yes hb).trans (by rw [hr]))
      refine Need.mk (by show 0 ≤ (j : Int) ∧ (j : Int) < (n : Int); omega) fun _ => Need.mk (by show (j : Int).toNat < n; omega) fun _ => ?_
      have hP : ∀ i, i < j + 1 → pushG j (pHdG L) (hd34 (mqNum (.agg #[.int .i64 (pH L j)]) (pQ L))) i = pHdG L i := fun i hi => hd_push eM i hi
      have hHas : mqHas (.agg #[.int .i64 (pH L j)]) (pQ L) = true := (mqHas_pQ L (pH L j)).trans hb
      refine Ife.mk (fun hh => ?_) (fun hh => absurd (hHas.symm.trans hh) (by decide))
      refine Need.mk (by show j + 1 ≤ maxLen ∧ (j + 1) * 48 ≤ 140737488355328; unfold maxLen; omega) fun _ => Need.mk (by show fitStd .i64 ((j : Int) + 1); unfold fitStd; omega) fun _ => ?_
      refine ⟨⟨j + 1, by omega⟩, [0, 1, 2, 7], (by show n - (j + 1) < n - j; omega), ?_⟩
      refine ⟨rfl, (by show List.Nodup [0, 1, 2, 7]; decide), ?_, ?_⟩ <;> repeat' (first | exact trivial | exact ej | exact hP | exact hn | exact hn.symm | exact rfl | apply And.intro | exact (fun _ _ _ _ => Cell.le_refl _) | (intro i hi; rfl) | (intro i hi; exact absurd hi (Nat.not_lt_zero _)))
    · have h : ¬ (j : Int) < (n : Int) := of_decide_eq_false (p := (j : Int) < (n : Int)) h
      have ej : j = L.length := by have : ¬ j < n := fun q => h (Int.ofNat_lt.mpr q)
                                   omega
      exact ⟨[0, 1, 2, 3], ⟨rfl, (by repeat' (first | exact trivial | exact ej | exact hP | exact hn | exact hn.symm | exact rfl | apply And.intro | exact (fun _ _ _ _ => Cell.le_refl _) | (intro i hi; rfl) | (intro i hi; exact absurd hi (Nat.not_lt_zero _)))), (by show List.Nodup [0, 1, 2, 3]; decide), rfl, by repeat' (first | exact trivial | exact ej | exact hP | exact hn | exact hn.symm | exact rfl | apply And.intro | exact (fun _ _ _ _ => Cell.le_refl _) | (intro i hi; rfl) | (intro i hi; exact absurd hi (Nat.not_lt_zero _)))⟩⟩

end Go.Proofs.YtbbpgicoklhheaaGreatDoor.Vx
end

section
/- Acts of the laws over what is kept, by the walker: few. -/
namespace Go.Proofs.YtbbpgicoklhheaaGreatDoor.Vx
open Sha
open Go.RowKit
set_option linter.unusedVariables false
set_option linter.unusedSimpArgs false
abbrev DC := Int × Int × Int × List UInt8 × List UInt8
def adD : DC := (0, 0, 0, [], [])
def adK (L : List DC) (i : Nat) : Int := (L.getD i adD).1
def adN (L : List DC) (i : Nat) : Int := (L.getD i adD).2.1
def adM (L : List DC) (i : Nat) : Int := (L.getD i adD).2.2.1
def adS (L : List DC) (i : Nat) : List UInt8 := (L.getD i adD).2.2.2.1
def adV (L : List DC) (i : Nat) : List UInt8 := (L.getD i adD).2.2.2.2
/-- Acts, as cells. -/
def adG (l : List DC) (i : Nat) : List CV := [.int .i64 (adK l i), .int .i64 (adN l i), .int .i64 (adM l i), .str (adS l i), .str (adV l i)]
def adOf : List CV → DC
  | [.int .i64 k, .int .i64 x, .int .i64 y, .str a, .str b] => (k, x, y, a, b)
  | _ => adD
def adL (n : Nat) (get : Nat → List CV) : List DC := (List.range n).map fun i => adOf (get i)
def AdAt (n : Nat) (get : Nat → List CV) : Prop := ∀ i, i < n → ∃ k x y a b, get i = [.int .i64 k, .int .i64 x, .int .i64 y, .str a, .str b]
theorem adL_len {n : Nat} {get : Nat → List CV} : (adL n get).length = n := by simp [adL]
theorem adL_get {n : Nat} {get : Nat → List CV} {i : Nat} (h : i < n) : (adL n get).getD i adD = adOf (get i) := by simp [adL, List.getD, List.getElem?_map, List.getElem?_range h]
theorem AdAt.eq {n : Nat} {get : Nat → List CV} (h : AdAt n get) {i : Nat} (hi : i < n) : get i = adG (adL n get) i := by
  obtain ⟨k, x, y, a, b, e⟩ := h i hi
  unfold adG adK adN adM adS adV
  rw [adL_get hi, e]
  rfl
theorem adAt_adG (n : Nat) (l : List DC) : AdAt n (adG l) := fun i _ => ⟨_, _, _, _, _, rfl⟩
theorem adL_adG (l : List DC) : adL l.length (adG l) = l := by
  apply List.ext_getElem?
  intro i
  by_cases hi : i < l.length
  · simp [adL, adG, adOf, adK, adN, adM, adS, adV, List.getElem?_range hi, List.getD, hi]
  · rw [List.getElem?_eq_none (by simp [adL]; omega), List.getElem?_eq_none (by omega)]
def adPre (ty sz n : Nat) (get : Nat → List CV) : Prop := ty = 32 ∧ sz = 5 ∧ AdAt n get
def fewDt (L : List DC) (i : Nat) : Bool := decide ((adS L i).length ≤ 300) && decide ((adV L i).length ≤ 200)
def fewD (L : List DC) : Bool := decide ((L.length : Int) ≤ 40) && (List.range L.length).all (fewDt L)
theorem fewDt_iff {L : List DC} {i : Nat} : fewDt L i = true ↔ (adS L i).length ≤ 300 ∧ (adV L i).length ≤ 200 := by simp [fewDt]
theorem fewD_iff {L : List DC} : fewD L = true ↔ L.length ≤ 40 ∧ ∀ i, i < L.length → (adS L i).length ≤ 300 ∧ (adV L i).length ≤ 200 := by
  unfold fewD
  simp only [Bool.and_eq_true, decide_eq_true_iff, List.all_eq_true, List.mem_range, fewDt_iff]
  constructor
  · rintro ⟨h1, h2⟩; exact ⟨by omega, h2⟩
  · rintro ⟨h1, h2⟩; exact ⟨by omega, h2⟩
structure RunD (R : List PP) (i : Nat) : Prop where
  s : StS R
  z : AllSz R
  l : R.length ≤ i
theorem dropD_sz {L : List PP} {k : List UInt8} (hs : StS L) (h : AllSz L) : AllSz (dropL L k) := fun p hp => h p ((mem_dropL hs p).1 hp).1
theorem RunD.drop {R : List PP} {i : Nat} {k : List UInt8} (h : RunD R i) : RunD (dropL R k) (i + 1) := ⟨dropL_s h.s, dropD_sz h.s h.z, by have := dropL_len (L := R) (k := k); have := h.l; omega⟩
theorem RunD.put {R : List PP} {i : Nat} {k v : List UInt8} (h : RunD R i) : RunD (putS R k v) (i + 1) := ⟨putS_s h.s, put_sz h.z, by have := putS_len (L := R) (k := k) (v := v); have := h.l; omega⟩
theorem RunD.le {R : List PP} {i j : Nat} (h : RunD R i) (hj : i ≤ j) : RunD R j := ⟨h.s, h.z, Nat.le_trans h.l hj⟩
theorem RunD.nil : RunD [] 0 := ⟨List.Pairwise.nil, (fun p hp => by cases hp), Nat.le_refl _⟩
attribute [local cbv_opaque] prK prV prL ltB findI findB szB setL putS dropL getL underL underN preB Lib.compareBytes prPre goodAt goodL insG delG insPre delPre KsAt leafF leafPre topG topPre0 rootF rootPre sumI hOf HashC kOf u8s lfG rootL sumsPre lK lV lI lP lN pG leafL leafOf leavesPre deep hNm wyL mkLeaf mkL mkC mkFrom mkTo wayG hashesG wayPre0 mkPre lenL StS esPre adK adN adM adS adV adL adPre fewD fewDt
def tbAd : Tbl where
  T :=
    (3, ⟨1, false, [.int .i64 (0)], .int .i64, 8⟩) ::
    (4, ⟨1, false, [.ff], .bool, 1⟩) ::
    (9, ⟨1, false, [.str []], .str, 16⟩) ::
    (32, ⟨5, true, [.int .i64 (0), .int .i64 (0), .int .i64 (0), .str [], .str []], .struct [(0, (1, false)), (1, (1, false)), (2, (1, false)), (3, (1, false)), (4, (1, false))], 56⟩) ::
    (22, ⟨1, false, [.val (.slice none 0 0)], .slice 32, 24⟩) ::
    []
  F :=
    []

theorem tbAd_ok : tbAd.Ok Tryz.prog where
  T :=
    TblOk.cons (by kernel_rfl) <|
    TblOk.cons (by kernel_rfl) <|
    TblOk.cons (by kernel_rfl) <|
    TblOk.cons (by kernel_rfl) <|
    TblOk.cons (by kernel_rfl) <|
    TblOk.nil _
  F :=
    FlatsOk.nil _

def sFewD : SpecF
  | [.c (.row 0)], [.elems ty sz n get] => some (adPre ty sz n get, .c (.bool (fewD (adL n get))), [.dead])
  | _, _ => none

set_option maxRecDepth 100000 in
set_option maxHeartbeats 4000000 in
theorem fewDP : Fn Tryz.prog 5 [] [(32, 5)] sFewD := by
  have hC : CtsOk Tryz.prog [] := CtsOk.nil _
  refine Fn.of (E := tbAd) [] 0 [] tbAd_ok hC (by kernel_rfl) Tryz.func5 rfl rfl rfl (by kernel_rfl) (by kernel_rfl) 1 5 1 ?_ ?_
  · intro args h pre r h' hs
    unfold sFewD at hs
    split at hs
    · cases hs; exact ⟨rfl, rfl, Nat.le_of_ble_eq_true rfl⟩
    · cases hs
  · intro args h pre r h' hs hp
    unfold sFewD at hs
    split at hs
    rotate_left
    · cases hs
    rename_i ty sz n get
    cases hs
    obtain ⟨rfl, rfl, hst⟩ := hp
    refine ⟨[.elems 32 5 n (adG (adL n get))], ⟨⟨rfl, rfl, rfl, fun i hi => hst.eq hi⟩, trivial⟩, ?_⟩
    have hL : (adL n get).length = n := adL_len
    generalize adL n get = L at hL ⊢
    generalize hg0 : (List.length : List DC → Nat) = g0
    generalize hL : lft Tryz.prog _ = L
    generalize hA : Arith.std = A
    set_option cbv.maxSteps 2000000 in cbv
    subst hA hg0 hL
    refine Ife.mk (fun h => ?_) (fun h => ?_)
    · have h : 40 < (n : Int) := of_decide_eq_true (p := 40 < (n : Int)) h
      rw [show fewD L = false by unfold fewD; rw [decide_eq_false (by omega)]; rfl]
      exact ⟨[0], ⟨rfl, by repeat' (first | exact trivial | exact rfl | apply And.intro | exact (fun _ _ _ _ => Cell.le_refl _) | (intro i hi; rfl) | (intro i hi; exact absurd hi (Nat.not_lt_zero _))), by decide, rfl, by repeat' (first | exact trivial | exact rfl | apply And.intro | exact (fun _ _ _ _ => Cell.le_refl _) | (intro i hi; rfl) | (intro i hi; exact absurd hi (Nat.not_lt_zero _)))⟩⟩
    have h : ¬ (40 < (n : Int)) := of_decide_eq_false (p := 40 < (n : Int)) h
    replace h := And.intro h trivial
    obtain ⟨hc0, _⟩ := h
    show Runs Tryz.prog 1 (.loop _) _ _
    refine loop_ruleR (N := env (lft Tryz.prog 1) 0 .std tbAd [] []) rfl tbAd_ok hC (fun c st K _ h => h) (by kernel_rfl) [] (X := LIx n (fewDt L))
      (S := fun x => ⟨[.c (.row 0), .any, .any, .c (.int .i64 x.i)] ++ List.replicate 25 .any, [.elems 32 5 n (adG L)]⟩) (μ := fun x => n - x.i.toNat) ⟨0, by omega, by omega, fun k hk => absurd hk (by omega)⟩ (by kernel_rfl) [0] ?_ ?_
    · refine ⟨rfl, by decide, ?_, ?_⟩ <;> repeat' (first | exact trivial | exact rfl | apply And.intro | exact (fun _ _ _ _ => Cell.le_refl _) | (intro i hi; rfl) | (intro i hi; exact absurd hi (Nat.not_lt_zero _)))
    rintro ⟨i, hi0, hin, hP⟩
    generalize hg0 : (List.length : List DC → Nat) = g0
    generalize hL : lft Tryz.prog _ = L
    generalize hA : Arith.std = A
    set_option cbv.maxSteps 2000000 in cbv
    subst hA hg0 hL
    replace hi0 : 0 ≤ i := hi0
    replace hin : i ≤ @Nat.cast Int instNatCastInt n := hin
    replace hP : ∀ k, k < i.toNat → fewDt L k = true := hP
    refine Ife.mk (fun hlt => ?_) (fun hlt => ?_)
    · replace hlt : i < @Nat.cast Int instNatCastInt n := of_decide_eq_true (p := i < (n : Int)) hlt
      have hiL : i.toNat < L.length := by omega
      have no : ¬ fewDt L i.toNat = true → fewD L = false := fun h => by unfold fewD; rw [all_no hiL h, Bool.and_false]
      refine Need.mk (by show 0 ≤ i ∧ i < (n : Int); omega) fun _ => Need.mk (by show i.toNat < n; omega) fun _ => ?_
      refine Ife.mk (fun h => ?_) (fun h => ?_)
      · have h : (300 : Int) < ((adS L i.toNat).length : Int) := of_decide_eq_true (p := (300 : Int) < ((adS L i.toNat).length : Int)) h
        rw [no fun hh => by have hh := fewDt_iff.1 hh; omega]
        exact ⟨[0], ⟨rfl, by repeat' (first | exact trivial | exact rfl | apply And.intro | exact (fun _ _ _ _ => Cell.le_refl _) | (intro i hi; rfl) | (intro i hi; exact absurd hi (Nat.not_lt_zero _))), by decide, rfl, by repeat' (first | exact trivial | exact rfl | apply And.intro | exact (fun _ _ _ _ => Cell.le_refl _) | (intro i hi; rfl) | (intro i hi; exact absurd hi (Nat.not_lt_zero _)))⟩⟩
      have h1 : ¬ (300 : Int) < ((adS L i.toNat).length : Int) := of_decide_eq_false (p := (300 : Int) < ((adS L i.toNat).length : Int)) h
      refine Need.mk (by show 0 ≤ i ∧ i < (n : Int); omega) fun _ => Need.mk (by show i.toNat < n; omega) fun _ => ?_
      refine Ife.mk (fun h => ?_) (fun h => ?_)
      · have h : (200 : Int) < ((adV L i.toNat).length : Int) := of_decide_eq_true (p := (200 : Int) < ((adV L i.toNat).length : Int)) h
        rw [no fun hh => by have hh := fewDt_iff.1 hh; omega]
        exact ⟨[0], ⟨rfl, by repeat' (first | exact trivial | exact rfl | apply And.intro | exact (fun _ _ _ _ => Cell.le_refl _) | (intro i hi; rfl) | (intro i hi; exact absurd hi (Nat.not_lt_zero _))), by decide, rfl, by repeat' (first | exact trivial | exact rfl | apply And.intro | exact (fun _ _ _ _ => Cell.le_refl _) | (intro i hi; rfl) | (intro i hi; exact absurd hi (Nat.not_lt_zero _)))⟩⟩
      have h2 : ¬ (200 : Int) < ((adV L i.toNat).length : Int) := of_decide_eq_false (p := (200 : Int) < ((adV L i.toNat).length : Int)) h
      refine Need.mk (by show fitStd .i64 (i + 1); unfold fitStd; omega) fun _ => ?_
      refine ⟨⟨i + 1, by omega, by omega, lix_next hi0 hP (fewDt_iff.2 (by omega))⟩, [0], (by show n - (i + 1).toNat < n - i.toNat; omega), ?_⟩
      refine ⟨rfl, by decide, ?_, ?_⟩ <;> repeat' (first | exact trivial | exact rfl | apply And.intro | exact (fun _ _ _ _ => Cell.le_refl _) | (intro i hi; rfl) | (intro i hi; exact absurd hi (Nat.not_lt_zero _)))
    · replace hlt : ¬ i < @Nat.cast Int instNatCastInt n := of_decide_eq_false (p := i < (n : Int)) hlt
      rw [show fewD L = true by unfold fewD; rw [all_yes hP (by omega), decide_eq_true (by omega)]; rfl]
      exact ⟨[0], ⟨rfl, by repeat' (first | exact trivial | exact rfl | apply And.intro | exact (fun _ _ _ _ => Cell.le_refl _) | (intro i hi; rfl) | (intro i hi; exact absurd hi (Nat.not_lt_zero _))), by decide, rfl, by repeat' (first | exact trivial | exact rfl | apply And.intro | exact (fun _ _ _ _ => Cell.le_refl _) | (intro i hi; rfl) | (intro i hi; exact absurd hi (Nat.not_lt_zero _)))⟩⟩

end Go.Proofs.YtbbpgicoklhheaaGreatDoor.Vx
end
