/- The first lines of the laws over what is kept; PastProves, by the walker. -/
import Derived.Test.YtbbpgicoklhheaaGreatDoorM36
import Derived.Test.YtbbpgicoklhheaaGreatDoorM37
import Derived.Test.YtbbpgicoklhheaaGreatDoorM25
import Derived.Test.YtbbpgicoklhheaaGreatDoorM28
import Derived.Test.YtbbpgicoklhheaaGreatDoorM19
section
namespace Go.Proofs.YtbbpgicoklhheaaGreatDoor.Vx
open Sha
open Go.RowKit
set_option linter.unusedVariables false
set_option linter.unusedSimpArgs false
def fPre (gg sz0 n0 : Nat) (get0 : Nat → List CV) (ty one n : Nat) (get : Nat → List CV) : Prop := KsAt gg sz0 n0 get0 ∧ ty = 32 ∧ one = 5 ∧ AdAt n get
theorem pLast_app {P : List PaR} {r : PaR} : pLast (P ++ [r]) = r.1 := by
  unfold pLast pH
  rw [if_neg (by simp)]
  simp [List.getD]
attribute [local cbv_opaque] prK prV prL ltB findI findB szB setL putS dropL getL underL underN preB Lib.compareBytes prPre goodAt goodL insG delG insPre delPre KsAt leafF leafPre topG topPre0 rootF rootPre sumI hOf HashC kOf u8s lfG rootL sumsPre lK lV lI lP lN pG leafL leafOf leavesPre deep hNm wyL mkLeaf mkL mkC mkFrom mkTo wayG hashesG wayPre0 mkPre lenL StS esPre pHdG pQ pL pH pKey pRec mqHas mqNum mqN mqRow mqSet mqRec paHas paRec paL paNum keepE keepL pLast paPre keepPre pNum adK adN adM adS adV adL adPre fewD fewDt fPre
def tbPd : Tbl where
  T :=
    (3, ⟨1, false, [.int .i64 (0)], .int .i64, 8⟩) ::
    (4, ⟨1, false, [.ff], .bool, 1⟩) ::
    (9, ⟨1, false, [.str []], .str, 16⟩) ::
    (5, ⟨1, false, [.int .u8 (0)], .int .u8, 1⟩) ::
    (87, ⟨1, true, [.int .i64 (0)], .struct [(0, (1, false))], 8⟩) ::
    (71, ⟨1, false, [.val (.slice none 0 0)], .slice 87, 24⟩) ::
    (90, ⟨35, true, [.int .i64 (0), .int .i64 (0), .int .u8 (0), .int .u8 (0), .int .u8 (0), .int .u8 (0), .int .u8 (0), .int .u8 (0), .int .u8 (0), .int .u8 (0), .int .u8 (0), .int .u8 (0), .int .u8 (0), .int .u8 (0), .int .u8 (0), .int .u8 (0), .int .u8 (0), .int .u8 (0), .int .u8 (0), .int .u8 (0), .int .u8 (0), .int .u8 (0), .int .u8 (0), .int .u8 (0), .int .u8 (0), .int .u8 (0), .int .u8 (0), .int .u8 (0), .int .u8 (0), .int .u8 (0), .int .u8 (0), .int .u8 (0), .int .u8 (0), .int .u8 (0), .val (.pointer none)], .struct [(0, (34, true)), (34, (1, false))], 56⟩) ::
    (73, ⟨2, true, [.val (.map none), .val (.slice none 0 0)], .struct [(0, (1, false)), (1, (1, false))], 32⟩) ::
    (25, ⟨1, false, [.val (.pointer none)], .ptr 73, 8⟩) ::
    (70, ⟨1, false, [.val (.map none)], .map 87 90, 8⟩) ::
    (78, ⟨2, true, [.str [], .str []], .struct [(0, (1, false)), (1, (1, false))], 32⟩) ::
    (57, ⟨1, false, [.val (.slice none 0 0)], .slice 78, 24⟩) ::
    (75, ⟨1, true, [.val (.slice none 0 0)], .struct [(0, (1, false))], 24⟩) ::
    (27, ⟨1, false, [.val (.pointer none)], .ptr 75, 8⟩) ::
    (41, ⟨32, true, [.int .u8 (0), .int .u8 (0), .int .u8 (0), .int .u8 (0), .int .u8 (0), .int .u8 (0), .int .u8 (0), .int .u8 (0), .int .u8 (0), .int .u8 (0), .int .u8 (0), .int .u8 (0), .int .u8 (0), .int .u8 (0), .int .u8 (0), .int .u8 (0), .int .u8 (0), .int .u8 (0), .int .u8 (0), .int .u8 (0), .int .u8 (0), .int .u8 (0), .int .u8 (0), .int .u8 (0), .int .u8 (0), .int .u8 (0), .int .u8 (0), .int .u8 (0), .int .u8 (0), .int .u8 (0), .int .u8 (0), .int .u8 (0)], .array 32 5, 32⟩) ::
    (47, ⟨34, true, [.int .i64 (0), .int .i64 (0), .int .u8 (0), .int .u8 (0), .int .u8 (0), .int .u8 (0), .int .u8 (0), .int .u8 (0), .int .u8 (0), .int .u8 (0), .int .u8 (0), .int .u8 (0), .int .u8 (0), .int .u8 (0), .int .u8 (0), .int .u8 (0), .int .u8 (0), .int .u8 (0), .int .u8 (0), .int .u8 (0), .int .u8 (0), .int .u8 (0), .int .u8 (0), .int .u8 (0), .int .u8 (0), .int .u8 (0), .int .u8 (0), .int .u8 (0), .int .u8 (0), .int .u8 (0), .int .u8 (0), .int .u8 (0), .int .u8 (0), .int .u8 (0)], .struct [(0, (1, false)), (1, (1, false)), (2, (32, true))], 48⟩) ::
    (66, ⟨1, false, [.val (.slice none 0 0)], .slice 47, 24⟩) ::
    (54, ⟨2, true, [.int .i64 (0), .val (.slice none 0 0)], .struct [(0, (1, false)), (1, (1, false))], 32⟩) ::
    (98, ⟨4, true, [.str [], .str [], .int .i64 (0), .val (.slice none 0 0)], .struct [(0, (1, false)), (1, (1, false)), (2, (1, false)), (3, (1, false))], 64⟩) ::
    (52, ⟨1, false, [.val (.slice none 0 0)], .slice 98, 24⟩) ::
    (32, ⟨5, true, [.int .i64 (0), .int .i64 (0), .int .i64 (0), .str [], .str []], .struct [(0, (1, false)), (1, (1, false)), (2, (1, false)), (3, (1, false)), (4, (1, false))], 56⟩) ::
    (22, ⟨1, false, [.val (.slice none 0 0)], .slice 32, 24⟩) ::
    (33, ⟨1, false, [.int .i64 (0)], .int .i64, 8⟩) ::
    (96, ⟨1, false, [.val (.slice none 0 0)], .slice 41, 24⟩) ::
    []
  F :=
    (87, [0]) ::
    (41, [0, 0, 0, 0, 0, 0, 0, 0, 0, 0, 0, 0, 0, 0, 0, 0, 0, 0, 0, 0, 0, 0, 0, 0, 0, 0, 0, 0, 0, 0, 0, 0]) ::
    (78, [1, 1]) ::
    (47, [0, 0, 0, 0, 0, 0, 0, 0, 0, 0, 0, 0, 0, 0, 0, 0, 0, 0, 0, 0, 0, 0, 0, 0, 0, 0, 0, 0, 0, 0, 0, 0, 0, 0]) ::
    []
  Q := [(70, (75, 78, 2))]

theorem tbPd_ok : tbPd.Ok Tryz.prog where
  T :=
    TblOk.cons (by kernel_rfl) <|
    TblOk.cons (by kernel_rfl) <|
    TblOk.cons (by kernel_rfl) <|
    TblOk.cons (by kernel_rfl) <|
    TblOk.cons (by kernel_rfl) <|
    TblOk.cons (by kernel_rfl) <|
    TblOk.cons (by kernel_rfl) <|
    TblOk.cons (by kernel_rfl) <|
    TblOk.cons (by kernel_rfl) <|
    TblOk.cons (by kernel_rfl) <|
    TblOk.cons (by kernel_rfl) <|
    TblOk.cons (by kernel_rfl) <|
    TblOk.cons (by kernel_rfl) <|
    TblOk.cons (by kernel_rfl) <|
    TblOk.cons (by kernel_rfl) <|
    TblOk.cons (by kernel_rfl) <|
    TblOk.cons (by kernel_rfl) <|
    TblOk.cons (by kernel_rfl) <|
    TblOk.cons (by kernel_rfl) <|
    TblOk.cons (by kernel_rfl) <|
    TblOk.cons (by kernel_rfl) <|
    TblOk.cons (by kernel_rfl) <|
    TblOk.cons (by kernel_rfl) <|
    TblOk.cons (by kernel_rfl) <|
    TblOk.nil _
  F :=
    FlatsOk.cons (FlatOk.of (D := .struct (Tryz.prog.fieldsOf 87)) 6 (by decide) (by kernel_rfl) (by kernel_rfl) rfl (by kernel_rfl)) <|
    FlatsOk.cons (FlatOk.of (D := .array 32 5) 6 (by decide) (by kernel_rfl) (by kernel_rfl) rfl (by kernel_rfl)) <|
    FlatsOk.cons (FlatOk.of (D := .struct (Tryz.prog.fieldsOf 78)) 6 (by decide) (by kernel_rfl) (by kernel_rfl) rfl (by kernel_rfl)) <|
    FlatsOk.cons (FlatOk.of (D := .struct (Tryz.prog.fieldsOf 47)) 6 (by decide) (by kernel_rfl) (by kernel_rfl) rfl (by kernel_rfl)) <|
    FlatsOk.nil _

def sFirst13 : SpecF
  | [], [.glob gg sz0 n0 get0] => some (KsAt gg sz0 n0 get0, .c .tt, [.dead])
  | _, _ => none

set_option maxRecDepth 100000 in
set_option maxHeartbeats 8000000 in
theorem first13P : Fn Tryz.prog 4 [1] [] sFirst13 := by
  have hC : CtsOk Tryz.prog [(6, appFn [] [] sPNew), (7, appFn [] [] sNewS), (13, appFn [1] [] sPKeep), (8, appFn [] [] sSet), (16, appFn [] [] sPGet), (25, appFn [] [] sPLast)] := CtsOk.cons (Fn.ct newPP) <| CtsOk.cons (Fn.ct newSP) <| CtsOk.cons (Fn.ct keepPP) <| CtsOk.cons (Fn.ct setSP) <| CtsOk.cons (Fn.ct getPP) <| CtsOk.cons (Fn.ct lastPP) <| CtsOk.nil _
  refine Fn.of (E := tbPd) [0] 0 [] tbPd_ok hC (by kernel_rfl) Tryz.func4 rfl rfl rfl (by kernel_rfl) (by kernel_rfl) 1 5 1 ?_ ?_
  · intro args h pre r h' hs
    unfold sFirst13 at hs
    split at hs
    · cases hs; exact ⟨rfl, rfl, Nat.le_of_ble_eq_true rfl⟩
    · cases hs
  · intro args h pre r h' hs hp
    unfold sFirst13 at hs
    split at hs
    rotate_left
    · cases hs
    rename_i gg sz0 n0 get0
    cases hs
    refine ⟨[.glob 1 1 64 (fun i => [.int .u32 (kOf i)])], ⟨hp.same.1, trivial⟩, ?_⟩
    clear hp
    unfold sPNew sNewS sPKeep sSet sPGet sPLast
    generalize hg0 : (List.length : List PP → Nat) = g0
    generalize hg1 : (List.length : List PaR → Nat) = g1
    generalize hA : Arith.std = A
    set_option cbv.maxSteps 6000000 in cbv
    subst hA hg0 hg1
    have p1 : putS [] [97] [49] = [([97], [49])] := by decide
    have k1 : keepL [] 1 0 [] = [((1 : Int), (0 : Int), ([] : List PP))] := rfl
    have k2 : keepL [((1 : Int), (0 : Int), ([] : List PP))] 3 5 [([97], [49])] = [(1, 0, []), (3, 5, [([97], [49])])] := rfl
    have eK1 : keepE [] 1 0 = 0 := rfl
    have eK2 : keepE [((1 : Int), (0 : Int), ([] : List PP))] 3 5 = 0 := rfl
    have s0 : StS [] := List.Pairwise.nil
    have z0 : AllSz [] := fun p hp => by cases hp
    have s1 : StS [([97], [49])] := List.pairwise_singleton _ _
    have z1 : AllSz [([97], [49])] := fun p hp => by rw [List.mem_singleton.1 hp]; decide
    have hP1 : PaS [((1 : Int), (0 : Int), ([] : List PP))] := by
      have := keepL_ok (h := 1) (t := 0) (S := []) pas_nil ⟨s0, z0, by decide⟩ (by decide)
      rwa [k1] at this
    have hP2 : PaS [((1 : Int), (0 : Int), ([] : List PP)), (3, 5, [([97], [49])])] := by
      have := keepL_ok (h := 3) (t := 5) (S := [([97], [49])]) hP1 ⟨s1, z1, by decide⟩ (by decide)
      rwa [k2] at this
    simp only [pL_pQ, prL_zero, k1, p1, prL_prG, k2, eK1, eK2]
    refine Need.mk trivial fun _ => Need.mk trivial fun _ => Need.mk ⟨ksAt_self, paPre_mk pas_nil, by decide, rfl, ⟨rfl, rfl, prAt_prG _ _, by decide⟩, s0, z0⟩ fun _ => ?_
    refine Need.mk ⟨⟨rfl, rfl, prAt_prG _ _, by decide⟩, s0, trivial⟩ fun _ => Need.mk ⟨ksAt_self, paPre_mk hP1, by decide, rfl, ⟨rfl, rfl, prAt_prG _ _, by decide⟩, s1, z1⟩ fun _ => ?_
    refine Need.mk (paPre_mk hP2) fun _ => ?_
    have hb1 : findB (paL [((1 : Int), (0 : Int), ([] : List PP)), (3, 5, [([97], [49])])] 1) [97] = false := by decide
    have hb3 : findB (paL [((1 : Int), (0 : Int), ([] : List PP)), (3, 5, [([97], [49])])] 3) [97] = true := by decide
    have hg3 : getL (paL [((1 : Int), (0 : Int), ([] : List PP)), (3, 5, [([97], [49])])] 3) [97] = [49] := by decide
    have hT : decide (pLast [((1 : Int), (0 : Int), ([] : List PP)), (3, 5, [([97], [49])])] = 3) = true := by decide
    rw [hb1, hb3, hg3]
    refine Need.mk (paPre_mk hP2) fun _ => ?_
    refine Ife.mk (fun _ => ?_) (fun h => absurd h (by show ¬ decide ((0 : Int) = 0) = false; decide))
    refine Ife.mk (fun _ => ?_) (fun h => absurd h (by show ¬ decide ((0 : Int) = 0) = false; decide))
    refine Ife.mk (fun _ => ?_) (fun h => absurd h (by show ¬ (!false) = false; decide))
    refine Ife.mk (fun _ => ?_) (fun h => absurd h (by show ¬ decide (([49] : List UInt8) = [49]) = false; decide))
    refine Ife.mk (fun _ => ?_) (fun h => absurd h (by decide))
    refine Need.mk (paPre_mk hP2) fun _ => ?_
    exact ⟨[0], ⟨rfl, (by repeat' (first | exact trivial | exact hT | exact rfl | apply And.intro)), (by show List.Nodup []; exact List.nodup_nil), rfl, by repeat' (first | exact trivial | exact rfl | apply And.intro | exact (fun _ _ _ _ => Cell.le_refl _) | (intro i hi; rfl) | (intro i hi; exact absurd hi (Nat.not_lt_zero _)))⟩⟩

end Go.Proofs.YtbbpgicoklhheaaGreatDoor.Vx
end

section
/- StorePlays, by the walker. -/
namespace Go.Proofs.YtbbpgicoklhheaaGreatDoor.Vx
open Sha
open Go.RowKit
set_option linter.unusedVariables false
set_option linter.unusedSimpArgs false
theorem flt_none {f : List UInt8} : ∀ {L : List PP}, (∀ p ∈ L, preB f p.1 = false) → flt f L = []
  | [], _ => rfl
  | p :: L, h => by
    unfold flt
    rw [List.filter_cons_of_neg (by rw [h p (by simp)]; simp)]
    exact flt_none fun q hq => h q (by simp [hq])
theorem flt_takeW {f : List UInt8} : ∀ {L : List PP}, (∀ i (h : i < L.length), i < (L.takeWhile fun p => preB f p.1).length ∨ preB f (L[i]).1 = false) → flt f L = L.takeWhile fun p => preB f p.1
  | [], _ => rfl
  | p :: L, h => by
    unfold flt
    by_cases hp : preB f p.1 = true
    · rw [List.filter_cons_of_pos (p := fun p : PP => preB f p.1) hp, List.takeWhile_cons, if_pos hp]
      congr 1
      refine flt_takeW (L := L) fun i hi => ?_
      have := h (i + 1) (by simp; omega)
      rw [List.takeWhile_cons, if_pos hp] at this
      rcases this with h1 | h1
      · exact Or.inl (by simpa using h1)
      · exact Or.inr (by simpa using h1)
    · rw [List.filter_cons_of_neg (p := fun p : PP => preB f p.1) hp, List.takeWhile_cons, if_neg hp]
      show List.filter (fun p => preB f p.1) L = []
      refine flt_none (f := f) fun q hq => ?_
      obtain ⟨i, hi, rfl⟩ := List.getElem_of_mem hq
      have := h (i + 1) (by simp; omega)
      rw [List.takeWhile_cons, if_neg hp] at this
      rcases this with h1 | h1
      · simp at h1
      · simpa using h1
theorem und_flt {R : List PP} {f : List UInt8} (hs : StS R) : underL R f = flt f R := by
  have e1 : underL R f = (R.drop (findI R f)).takeWhile fun p => preB f p.1 := by
    unfold underL underN
    exact (List.prefix_iff_eq_take.1 (List.takeWhile_prefix _)).symm
  have h0 : flt f (R.take (findI R f)) = [] := by
    refine flt_none fun p hp => ?_
    obtain ⟨i, hi, rfl⟩ := List.getElem_of_mem hp
    rw [List.length_take] at hi
    rw [List.getElem_take]
    cases hpre : preB f (R[i]'(by omega)).1 with
    | false => rfl
    | true =>
      have h1 := findI_lt (L := R) (k := f) (i := i) (by omega)
      rw [prK_eq (by omega), pre_ge hpre] at h1
      cases h1
  have e2 : flt f R = flt f (R.take (findI R f)) ++ flt f (R.drop (findI R f)) := by
    conv => lhs; rw [← List.take_append_drop (findI R f) R]
    unfold flt
    rw [List.filter_append]
  rw [e1, e2, h0, List.nil_append]
  refine (flt_takeW fun i hi => ?_).symm
  by_cases h1 : i < ((R.drop (findI R f)).takeWhile fun p => preB f p.1).length
  · exact Or.inl h1
  · refine Or.inr ?_
    rw [List.length_drop] at hi
    have hu : underN R f ≤ i := by unfold underN; omega
    have hstop : preB f (prK R (findI R f + underN R f)) = false := by
      have h5 : (R.drop (findI R f))[underN R f]? = some R[findI R f + underN R f] := by
        rw [List.getElem?_drop, List.getElem?_eq_getElem (by omega)]
      rw [prK_eq (by omega)]
      exact tw_stop (p := fun p : PP => preB f p.1) h5
    rw [List.getElem_drop, ← prK_eq (by omega)]
    rcases Nat.eq_or_lt_of_le hu with h2 | h2
    · rw [← h2]; exact hstop
    · cases h3 : preB f (prK R (findI R f + i))
      · rfl
      · have h4 := lt_front h3 hstop (hs.at (i := findI R f + underN R f) (j := findI R f + i) (by omega) (by omega))
        rw [findI_ge hs (by omega) (by omega)] at h4
        cases h4
attribute [local cbv_opaque] prK prV prL ltB findI findB szB setL putS dropL getL underL underN preB Lib.compareBytes prPre goodAt goodL insG delG insPre delPre prPreR KsAt leafF leafPre topG topPre0 rootF rootPre sumI hOf HashC kOf u8s lfG rootL sumsPre lK lV lI lP lN pG leafL leafOf leavesPre deep hNm wyL mkLeaf mkL mkC mkFrom mkTo wayG hashesG wayPre0 mkPre lenL rlvPre flt




end Go.Proofs.YtbbpgicoklhheaaGreatDoor.Vx
end

section
/- PastPlays, by the walker. -/
namespace Go.Proofs.YtbbpgicoklhheaaGreatDoor.Vx
open Sha
open Go.RowKit
set_option linter.unusedVariables false
set_option linter.unusedSimpArgs false
theorem entSame_refl (e : Ent) : entSame e e := by
  cases e <;> first | exact ⟨rfl, rfl, rfl, fun _ _ => rfl⟩ | exact ⟨rfl, rfl, rfl, rfl, fun _ _ _ _ => Cell.le_refl _⟩ | rfl
theorem hSame_refl : ∀ h : List Ent, hSame h h
  | [] => trivial
  | e :: h => ⟨entSame_refl e, hSame_refl h⟩
theorem hSame_set {e' : Ent} : ∀ {h : List Ent} {k : Nat} {e : Ent}, h[k]? = some e → entSame e e' → hSame h (h.set k e')
  | [], k, e, he, _ => by simp at he
  | x :: h, 0, e, he, hs => by simp at he; subst he; exact ⟨hs, hSame_refl h⟩
  | x :: h, k + 1, e, he, hs => ⟨entSame_refl x, hSame_set (by simpa using he) hs⟩
/-- The same elements in other words. -/
theorem StT.elems {m : Nat} {t : List SV} {h : List Ent} (k : Nat) {ty sz n n' : Nat} {g g' : Nat → List CV} (he : h[k]? = some (.elems ty sz n g)) (hn : n = n') (hg : ∀ i, i < n → g i = g' i) : StT m ⟨t, h⟩ ⟨t, h.set k (.elems ty sz n' g')⟩ := StT.same (hSame_set he ⟨rfl, rfl, hn, hg⟩)
structure LPg (n : Nat) where
  i : Nat
  R : List PP
  P : List PaR
  h1 : i ≤ n
  hO : RunD R i
  hP : PaS P
  hl : P.length ≤ i
  sh : ∀ r ∈ P, r.2.2.length ≤ 40
theorem sh_app {P : List PaR} {h t : Int} {R : List PP} {i : Nat} (hs : ∀ r ∈ P, r.2.2.length ≤ 40) (hR : RunD R i) (hi : i ≤ 40) : ∀ r ∈ P ++ [(h, t, R)], r.2.2.length ≤ 40 := fun r hr => by
  rcases List.mem_append.1 hr with h1 | h1
  · exact hs r h1
  · rw [List.mem_singleton.1 h1]
    have := hR.l
    show R.length ≤ 40
    omega
theorem RunD.next {R : List PP} {i : Nat} (h : RunD R i) : RunD R (i + 1) := h.le (Nat.le_succ i)
attribute [local cbv_opaque] prK prV prL ltB findI findB szB setL putS dropL getL underL underN preB Lib.compareBytes prPre goodAt goodL insG delG insPre delPre KsAt leafF leafPre topG topPre0 rootF rootPre sumI hOf HashC kOf u8s lfG rootL sumsPre lK lV lI lP lN pG leafL leafOf leavesPre deep hNm wyL mkLeaf mkL mkC mkFrom mkTo wayG hashesG wayPre0 mkPre lenL StS esPre pHdG pQ pL pH pKey pRec mqHas mqNum mqN mqRow mqSet mqRec paHas paRec paL paNum keepE keepL pLast paPre keepPre pNum adK adN adM adS adV adL adPre fewD fewDt pT pS pN kPre rlvPre prPreR khPre kL fPre dropN dropG flt
def tbPy : Tbl where
  T :=
    (3, ⟨1, false, [.int .i64 (0)], .int .i64, 8⟩) ::
    (4, ⟨1, false, [.ff], .bool, 1⟩) ::
    (9, ⟨1, false, [.str []], .str, 16⟩) ::
    (5, ⟨1, false, [.int .u8 (0)], .int .u8, 1⟩) ::
    (87, ⟨1, true, [.int .i64 (0)], .struct [(0, (1, false))], 8⟩) ::
    (71, ⟨1, false, [.val (.slice none 0 0)], .slice 87, 24⟩) ::
    (90, ⟨35, true, [.int .i64 (0), .int .i64 (0), .int .u8 (0), .int .u8 (0), .int .u8 (0), .int .u8 (0), .int .u8 (0), .int .u8 (0), .int .u8 (0), .int .u8 (0), .int .u8 (0), .int .u8 (0), .int .u8 (0), .int .u8 (0), .int .u8 (0), .int .u8 (0), .int .u8 (0), .int .u8 (0), .int .u8 (0), .int .u8 (0), .int .u8 (0), .int .u8 (0), .int .u8 (0), .int .u8 (0), .int .u8 (0), .int .u8 (0), .int .u8 (0), .int .u8 (0), .int .u8 (0), .int .u8 (0), .int .u8 (0), .int .u8 (0), .int .u8 (0), .int .u8 (0), .val (.pointer none)], .struct [(0, (34, true)), (34, (1, false))], 56⟩) ::
    (73, ⟨2, true, [.val (.map none), .val (.slice none 0 0)], .struct [(0, (1, false)), (1, (1, false))], 32⟩) ::
    (25, ⟨1, false, [.val (.pointer none)], .ptr 73, 8⟩) ::
    (70, ⟨1, false, [.val (.map none)], .map 87 90, 8⟩) ::
    (78, ⟨2, true, [.str [], .str []], .struct [(0, (1, false)), (1, (1, false))], 32⟩) ::
    (57, ⟨1, false, [.val (.slice none 0 0)], .slice 78, 24⟩) ::
    (75, ⟨1, true, [.val (.slice none 0 0)], .struct [(0, (1, false))], 24⟩) ::
    (27, ⟨1, false, [.val (.pointer none)], .ptr 75, 8⟩) ::
    (41, ⟨32, true, [.int .u8 (0), .int .u8 (0), .int .u8 (0), .int .u8 (0), .int .u8 (0), .int .u8 (0), .int .u8 (0), .int .u8 (0), .int .u8 (0), .int .u8 (0), .int .u8 (0), .int .u8 (0), .int .u8 (0), .int .u8 (0), .int .u8 (0), .int .u8 (0), .int .u8 (0), .int .u8 (0), .int .u8 (0), .int .u8 (0), .int .u8 (0), .int .u8 (0), .int .u8 (0), .int .u8 (0), .int .u8 (0), .int .u8 (0), .int .u8 (0), .int .u8 (0), .int .u8 (0), .int .u8 (0), .int .u8 (0), .int .u8 (0)], .array 32 5, 32⟩) ::
    (47, ⟨34, true, [.int .i64 (0), .int .i64 (0), .int .u8 (0), .int .u8 (0), .int .u8 (0), .int .u8 (0), .int .u8 (0), .int .u8 (0), .int .u8 (0), .int .u8 (0), .int .u8 (0), .int .u8 (0), .int .u8 (0), .int .u8 (0), .int .u8 (0), .int .u8 (0), .int .u8 (0), .int .u8 (0), .int .u8 (0), .int .u8 (0), .int .u8 (0), .int .u8 (0), .int .u8 (0), .int .u8 (0), .int .u8 (0), .int .u8 (0), .int .u8 (0), .int .u8 (0), .int .u8 (0), .int .u8 (0), .int .u8 (0), .int .u8 (0), .int .u8 (0), .int .u8 (0)], .struct [(0, (1, false)), (1, (1, false)), (2, (32, true))], 48⟩) ::
    (66, ⟨1, false, [.val (.slice none 0 0)], .slice 47, 24⟩) ::
    (54, ⟨2, true, [.int .i64 (0), .val (.slice none 0 0)], .struct [(0, (1, false)), (1, (1, false))], 32⟩) ::
    (98, ⟨4, true, [.str [], .str [], .int .i64 (0), .val (.slice none 0 0)], .struct [(0, (1, false)), (1, (1, false)), (2, (1, false)), (3, (1, false))], 64⟩) ::
    (52, ⟨1, false, [.val (.slice none 0 0)], .slice 98, 24⟩) ::
    (32, ⟨5, true, [.int .i64 (0), .int .i64 (0), .int .i64 (0), .str [], .str []], .struct [(0, (1, false)), (1, (1, false)), (2, (1, false)), (3, (1, false)), (4, (1, false))], 56⟩) ::
    (22, ⟨1, false, [.val (.slice none 0 0)], .slice 32, 24⟩) ::
    (33, ⟨1, false, [.int .i64 (0)], .int .i64, 8⟩) ::
    (96, ⟨1, false, [.val (.slice none 0 0)], .slice 41, 24⟩) ::
    (84, ⟨2, true, [.str [], .str []], .struct [(0, (1, false)), (1, (1, false))], 32⟩) ::
    (29, ⟨1, false, [.val (.slice none 0 0)], .slice 84, 24⟩) ::
    (43, ⟨36, true, [.int .i64 (0), .int .i64 (0), .val (.slice none 0 0), .int .u8 (0), .int .u8 (0), .int .u8 (0), .int .u8 (0), .int .u8 (0), .int .u8 (0), .int .u8 (0), .int .u8 (0), .int .u8 (0), .int .u8 (0), .int .u8 (0), .int .u8 (0), .int .u8 (0), .int .u8 (0), .int .u8 (0), .int .u8 (0), .int .u8 (0), .int .u8 (0), .int .u8 (0), .int .u8 (0), .int .u8 (0), .int .u8 (0), .int .u8 (0), .int .u8 (0), .int .u8 (0), .int .u8 (0), .int .u8 (0), .int .u8 (0), .int .u8 (0), .int .u8 (0), .int .u8 (0), .int .u8 (0), .ff], .struct [(0, (1, false)), (1, (1, false)), (2, (1, false)), (3, (32, true)), (35, (1, false))], 80⟩) ::
    (30, ⟨1, false, [.val (.slice none 0 0)], .slice 43, 24⟩) ::
    []
  F :=
    (87, [0]) ::
    (41, [0, 0, 0, 0, 0, 0, 0, 0, 0, 0, 0, 0, 0, 0, 0, 0, 0, 0, 0, 0, 0, 0, 0, 0, 0, 0, 0, 0, 0, 0, 0, 0]) ::
    (78, [1, 1]) ::
    (47, [0, 0, 0, 0, 0, 0, 0, 0, 0, 0, 0, 0, 0, 0, 0, 0, 0, 0, 0, 0, 0, 0, 0, 0, 0, 0, 0, 0, 0, 0, 0, 0, 0, 0]) ::
    []
  Q := [(70, (75, 78, 2))]

theorem tbPy_ok : tbPy.Ok Tryz.prog where
  T :=
    TblOk.cons (by kernel_rfl) <|
    TblOk.cons (by kernel_rfl) <|
    TblOk.cons (by kernel_rfl) <|
    TblOk.cons (by kernel_rfl) <|
    TblOk.cons (by kernel_rfl) <|
    TblOk.cons (by kernel_rfl) <|
    TblOk.cons (by kernel_rfl) <|
    TblOk.cons (by kernel_rfl) <|
    TblOk.cons (by kernel_rfl) <|
    TblOk.cons (by kernel_rfl) <|
    TblOk.cons (by kernel_rfl) <|
    TblOk.cons (by kernel_rfl) <|
    TblOk.cons (by kernel_rfl) <|
    TblOk.cons (by kernel_rfl) <|
    TblOk.cons (by kernel_rfl) <|
    TblOk.cons (by kernel_rfl) <|
    TblOk.cons (by kernel_rfl) <|
    TblOk.cons (by kernel_rfl) <|
    TblOk.cons (by kernel_rfl) <|
    TblOk.cons (by kernel_rfl) <|
    TblOk.cons (by kernel_rfl) <|
    TblOk.cons (by kernel_rfl) <|
    TblOk.cons (by kernel_rfl) <|
    TblOk.cons (by kernel_rfl) <|
    TblOk.cons (by kernel_rfl) <|
    TblOk.cons (by kernel_rfl) <|
    TblOk.cons (by kernel_rfl) <|
    TblOk.cons (by kernel_rfl) <|
    TblOk.nil _
  F :=
    FlatsOk.cons (FlatOk.of (D := .struct (Tryz.prog.fieldsOf 87)) 6 (by decide) (by kernel_rfl) (by kernel_rfl) rfl (by kernel_rfl)) <|
    FlatsOk.cons (FlatOk.of (D := .array 32 5) 6 (by decide) (by kernel_rfl) (by kernel_rfl) rfl (by kernel_rfl)) <|
    FlatsOk.cons (FlatOk.of (D := .struct (Tryz.prog.fieldsOf 78)) 6 (by decide) (by kernel_rfl) (by kernel_rfl) rfl (by kernel_rfl)) <|
    FlatsOk.cons (FlatOk.of (D := .struct (Tryz.prog.fieldsOf 47)) 6 (by decide) (by kernel_rfl) (by kernel_rfl) rfl (by kernel_rfl)) <|
    FlatsOk.nil _

def sPyL13 : SpecF
  | [.c (.row 1), .c (.int .i64 hh), .c (.str key), .c (.str front)], [.glob gg sz0 n0 get0, .elems ty one n get] => some (fPre gg sz0 n0 get0 ty one n get, .c .tt, [.dead, .dead])
  | _, _ => none

set_option maxRecDepth 100000 in
set_option maxHeartbeats 32000000 in
theorem pastPlaysP : Fn Tryz.prog 3 [1] [(32, 5)] sPyL13 := by
  have hC : CtsOk Tryz.prog [(4, appFn [1] [] sFirst13), (5, appFn [] [(32, 5)] sFewD), (6, appFn [] [] sPNew), (7, appFn [] [] sNewS), (13, appFn [1] [] sPKeep), (8, appFn [] [] sSet), (11, appFn [] [] sDrop), (9, appPure sMayPx), (10, appFn [] [(84, 2)] sSetR), (12, appFn [] [(84, 2)] sDropE), (14, appFrz (appFn [] [(43, 236)] sAt)), (15, appFn [] [] sPHdr), (16, appFn [] [] sPGet), (17, appFn [1] [] sPProve), (18, appFn [] [] sPUnder), (25, appFn [] [] sPLast), (27, appFn [] [] sPHdrs), (19, appFn [] [(84, 2)] sGetR), (24, appFn [] [(84, 2)] sUnderR), (20, appFn [] [(84, 2)] sSnH), (28, appFn [] [(43, 236)] sHd12), (26, appFn [] [(47, 34), (47, 34)] sKHd), (23, appFn [] [(78, 2), (84, 2)] sKPairs), (22, appFn [] [(84, 2)] sRMake), (21, appFn [] [(98, 204), (98, 204)] sSamePr)] := CtsOk.cons (Fn.ct first13P) <| CtsOk.cons (Fn.ct fewDP) <| CtsOk.cons (Fn.ct newPP) <| CtsOk.cons (Fn.ct newSP) <| CtsOk.cons (Fn.ct keepPP) <| CtsOk.cons (Fn.ct setSP) <| CtsOk.cons (Fn.ct dropSP) <| CtsOk.cons (Pure.ct mayPxP) <| CtsOk.cons (Fn.ct setRP) <| CtsOk.cons (Fn.ct dropEP) <| CtsOk.cons (CtOk.frz (Fn.ct atP)) <| CtsOk.cons (Fn.ct hdrPP) <| CtsOk.cons (Fn.ct getPP) <| CtsOk.cons (Fn.ct provePP) <| CtsOk.cons (Fn.ct underPP) <| CtsOk.cons (Fn.ct lastPP) <| CtsOk.cons (Fn.ct hdrsPP) <| CtsOk.cons (Fn.ct getRP) <| CtsOk.cons (Fn.ct underRP) <| CtsOk.cons (Fn.ct snHP) <| CtsOk.cons (Fn.ct hd12P) <| CtsOk.cons (Fn.ct kHdP) <| CtsOk.cons (Fn.ct kPairsP) <| CtsOk.cons (Fn.ct rmakeP) <| CtsOk.cons (Fn.ct rsamePrP) <| CtsOk.nil _
  refine Fn.of (E := tbPy) [0] 0 [(32, [(2007, false), (2008, false), (0, true), (1, true), (2, true), (3, true), (4, true), (5, true), (6, true), (9, true), (10, true), (7, false), (8, false), (11, true), (12, true)]), (41, [(2002, false), (2003, false), (2004, false), (0, true), (1, true), (2, false), (3, true), (4, true), (5, true), (6, true), (7, true), (8, true), (9, true), (10, true), (11, true), (12, true), (13, true), (14, true), (15, true), (16, true), (17, true), (18, true), (19, true), (20, true), (21, true), (22, true), (23, false), (24, false), (25, true), (26, true), (27, true), (28, true), (29, true), (30, true), (32, true), (33, true), (34, true), (31, false), (35, false), (36, false), (37, true), (38, true)])] tbPy_ok hC (by kernel_rfl) Tryz.func3 rfl rfl rfl (by kernel_rfl) (by kernel_rfl) 2 5 1 ?_ ?_
  · intro args h pre r h' hs
    unfold sPyL13 at hs
    split at hs
    · cases hs; exact ⟨rfl, rfl, Nat.le_of_ble_eq_true rfl⟩
    · cases hs
  · intro args h pre r h' hs hp
    unfold sPyL13 at hs
    split at hs
    rotate_left
    · cases hs
    rename_i hh key front gg sz0 n0 get0 ty one n get
    cases hs
    obtain ⟨hK, rfl, rfl, hst⟩ := hp
    refine ⟨[.glob 1 1 64 (fun i => [.int .u32 (kOf i)]), .elems 32 5 n (adG (adL n get))], ⟨hK.same.1, ⟨rfl, rfl, rfl, fun i hi => hst.eq hi⟩, trivial⟩, ?_⟩
    clear hK
    have hL : (adL n get).length = n := adL_len
    have eAD : adL n (adG (adL n get)) = adL n get := by
      have := adL_adG (adL n get)
      rwa [hL] at this
    generalize adL n get = L at hL eAD ⊢
    unfold sFirst13 sFewD sPNew sNewS sPKeep sSet sDrop sMayPx sSetR sDropE sAt sPHdr sPGet sPProve sPUnder sPLast sPHdrs sGetR sUnderR sSnH sHd12 sKHd sKPairs sRMake sSamePr appFrz
    generalize hg0 : (List.length : List PP → Nat) = g0
    generalize hg1 : (List.length : List UInt8 → Nat) = g1
    generalize hg2 : (List.length : List PaR → Nat) = g2
    generalize hg3 : (List.length : List DC → Nat) = g3
    generalize hL : lft Tryz.prog _ = L
    generalize hA : Arith.std = A
    set_option cbv.maxSteps 32000000 in cbv
    subst hA hg0 hg1 hg2 hg3 hL
    refine Need.mk ksAt_self fun _ => ?_
    refine Need.mk ⟨rfl, rfl, adAt_adG n L⟩ fun _ => ?_
    simp only [eAD]
    refine Ife.mk (fun h => ?_) (fun h => ?_)
    · refine Need.mk ksAt_self fun _ => ?_
      exact ⟨[0, 1], ⟨rfl, (by repeat' (first | exact trivial | exact hR1 | exact hR2 | exact hR3 | exact hR4 | exact hA1 | exact hA2 | exact hB1 | exact hB2 | exact rfl | apply And.intro | exact (fun _ _ _ _ => Cell.le_refl _) | (intro i hi; rfl) | (intro i hi; exact absurd hi (Nat.not_lt_zero _)))), (by show List.Nodup []; exact List.nodup_nil), rfl, by repeat' (first | exact trivial | exact hR1 | exact hR2 | exact hR3 | exact hR4 | exact hA1 | exact hA2 | exact hB1 | exact hB2 | exact rfl | apply And.intro | exact (fun _ _ _ _ => Cell.le_refl _) | (intro i hi; rfl) | (intro i hi; exact absurd hi (Nat.not_lt_zero _)))⟩⟩
    have hfew : fewD L = true := by simpa using (show (!fewD L) = false from h)
    clear h
    obtain ⟨hn40, hfl⟩ := fewD_iff.1 hfew
    have hn : n ≤ 40 := by omega
    refine Ife.mk (fun h => ?_) (fun c1 => ?_)
    · refine Need.mk ksAt_self fun _ => ?_
      exact ⟨[0, 1], ⟨rfl, (by repeat' (first | exact trivial | exact hR1 | exact hR2 | exact hR3 | exact hR4 | exact hA1 | exact hA2 | exact hB1 | exact hB2 | exact rfl | apply And.intro | exact (fun _ _ _ _ => Cell.le_refl _) | (intro i hi; rfl) | (intro i hi; exact absurd hi (Nat.not_lt_zero _)))), (by show List.Nodup []; exact List.nodup_nil), rfl, by repeat' (first | exact trivial | exact hR1 | exact hR2 | exact hR3 | exact hR4 | exact hA1 | exact hA2 | exact hB1 | exact hB2 | exact rfl | apply And.intro | exact (fun _ _ _ _ => Cell.le_refl _) | (intro i hi; rfl) | (intro i hi; exact absurd hi (Nat.not_lt_zero _)))⟩⟩
    refine Ife.mk (fun h => ?_) (fun c2 => ?_)
    · refine Need.mk ksAt_self fun _ => ?_
      exact ⟨[0, 1], ⟨rfl, (by repeat' (first | exact trivial | exact hR1 | exact hR2 | exact hR3 | exact hR4 | exact hA1 | exact hA2 | exact hB1 | exact hB2 | exact rfl | apply And.intro | exact (fun _ _ _ _ => Cell.le_refl _) | (intro i hi; rfl) | (intro i hi; exact absurd hi (Nat.not_lt_zero _)))), (by show List.Nodup []; exact List.nodup_nil), rfl, by repeat' (first | exact trivial | exact hR1 | exact hR2 | exact hR3 | exact hR4 | exact hA1 | exact hA2 | exact hB1 | exact hB2 | exact rfl | apply And.intro | exact (fun _ _ _ _ => Cell.le_refl _) | (intro i hi; rfl) | (intro i hi; exact absurd hi (Nat.not_lt_zero _)))⟩⟩
    refine Need.mk trivial fun _ => Need.mk trivial fun _ => ?_
    show Runs Tryz.prog 2 (.loop _) _ _
    refine loop_ruleE (N := env (lft Tryz.prog 2) 0 .std tbPy [(4, appFn [1] [] sFirst13), (5, appFn [] [(32, 5)] sFewD), (6, appFn [] [] sPNew), (7, appFn [] [] sNewS), (13, appFn [1] [] sPKeep), (8, appFn [] [] sSet), (11, appFn [] [] sDrop), (9, appPure sMayPx), (10, appFn [] [(84, 2)] sSetR), (12, appFn [] [(84, 2)] sDropE), (14, appFrz (appFn [] [(43, 236)] sAt)), (15, appFn [] [] sPHdr), (16, appFn [] [] sPGet), (17, appFn [1] [] sPProve), (18, appFn [] [] sPUnder), (25, appFn [] [] sPLast), (27, appFn [] [] sPHdrs), (19, appFn [] [(84, 2)] sGetR), (24, appFn [] [(84, 2)] sUnderR), (20, appFn [] [(84, 2)] sSnH), (28, appFn [] [(43, 236)] sHd12), (26, appFn [] [(47, 34), (47, 34)] sKHd), (23, appFn [] [(78, 2), (84, 2)] sKPairs), (22, appFn [] [(84, 2)] sRMake), (21, appFn [] [(98, 204), (98, 204)] sSamePr)] [(32, [(2007, false), (2008, false), (0, true), (1, true), (2, true), (3, true), (4, true), (5, true), (6, true), (9, true), (10, true), (7, false), (8, false), (11, true), (12, true)]), (41, [(2002, false), (2003, false), (2004, false), (0, true), (1, true), (2, false), (3, true), (4, true), (5, true), (6, true), (7, true), (8, true), (9, true), (10, true), (11, true), (12, true), (13, true), (14, true), (15, true), (16, true), (17, true), (18, true), (19, true), (20, true), (21, true), (22, true), (23, false), (24, false), (25, true), (26, true), (27, true), (28, true), (29, true), (30, true), (32, true), (33, true), (34, true), (31, false), (35, false), (36, false), (37, true), (38, true)])]) rfl tbPy_ok hC (fun c st K _ h => h) (by kernel_rfl) [0] (X := LPg n)
      (S := fun x => ⟨[.c (.row 1), .c (.int .i64 hh), .c (.str key), .c (.str front), .any, .any, .any, .any, .any, .c (.ptr 2 0), .c (.ptr 5 0), .c (.row 7), .c (.row 8), .c (.int .i64 (pLast x.P)), .c (.int .i64 (x.i : Int))] ++ List.replicate 249 .any, [.glob 1 1 64 (fun i => [.int .u32 (kOf i)]), .elems 32 5 n (adG L), .cells 73 [.row 3, .row 4], .mq pMT (pQ x.P), .row 87 1 x.P.length (mkG x.P), .cells 75 [.row 6], .row 78 2 x.R.length (prG x.R), .elems 84 2 x.R.length (prG x.R), .orow 43 36 x.P.length (kG x.P)]⟩) (μ := fun x => n - x.i) ⟨0, [], [], Nat.zero_le _, RunD.nil, pas_nil, Nat.le_refl 0, (fun r h => by cases h)⟩ (by kernel_rfl) ?h0 ?rd
    case h0 =>
      refine StT.trans (StT.nil (d := 11) (.elems 84 2 0 (prG [])) rfl rfl) (StT.trans (StT.nil (d := 12) (.orow 43 36 0 (kG [])) rfl rfl) (StT.ofL (σ := [0, 1, 3, 4, 5, 6, 7, 8, 9]) ⟨rfl, (by show List.Nodup [3, 4, 5, 6, 7, 9]; decide), by repeat' (first | exact trivial | exact hR1 | exact hR2 | exact hR3 | exact hR4 | exact hA1 | exact hA2 | exact hB1 | exact hB2 | exact rfl | apply And.intro | exact (fun _ _ _ _ => Cell.le_refl _) | (intro i hi; rfl) | (intro i hi; exact absurd hi (Nat.not_lt_zero _))), by repeat' (first | exact trivial | exact hR1 | exact hR2 | exact hR3 | exact hR4 | exact hA1 | exact hA2 | exact hB1 | exact hB2 | exact rfl | apply And.intro | exact (fun _ _ _ _ => Cell.le_refl _) | (intro i hi; rfl) | (intro i hi; exact absurd hi (Nat.not_lt_zero _)))⟩))
    case rd =>
      rintro ⟨i, R, P, hi, hO, hP, hl, sh⟩
      unfold sFirst13 sFewD sPNew sNewS sPKeep sSet sDrop sMayPx sSetR sDropE sAt sPHdr sPGet sPProve sPUnder sPLast sPHdrs sGetR sUnderR sSnH sHd12 sKHd sKPairs sRMake sSamePr appFrz
      generalize hg0 : (List.length : List PP → Nat) = g0
      generalize hg1 : (List.length : List UInt8 → Nat) = g1
      generalize hg2 : (List.length : List PaR → Nat) = g2
      generalize hg3 : (List.length : List DC → Nat) = g3
      generalize hL : lft Tryz.prog _ = L
      generalize hA : Arith.std = A
      set_option cbv.maxSteps 32000000 in cbv
      subst hA hg0 hg1 hg2 hg3 hL
      replace hi : i ≤ n := hi
      replace hO : RunD R i := hO
      replace hP : PaS P := hP
      replace hl : P.length ≤ i := hl
      replace sh : ∀ r ∈ P, r.2.2.length ≤ 40 := sh
      have hOl := hO.l
      have hPR : prPre 78 2 R.length (prG R) := ⟨rfl, rfl, prAt_prG _ R, by omega⟩
      have hPRR : prPreR 84 2 R.length (prG R) := ⟨rfl, rfl, prAt_prG _ R, by omega⟩
      have hpa := paPre_mk hP
      simp only [prL_prG, pL_pQ, kG_old, kL_kG]
      simp only [Arith.std, Int.ofNat_eq_natCast, Int.toNat_natCast]
      refine Ife.mk (fun h => ?_) (fun h => ?_)
      · have h : (i : Int) < (n : Int) := of_decide_eq_true (p := (i : Int) < (n : Int)) h
        have hiN : i < n := Int.ofNat_lt.mp h
        have p0 : 0 ≤ (i : Int) ∧ (i : Int) < (n : Int) := by omega
        have hsz := hfl i (by omega)
        have fl : fitStd .i64 ((i : Int) + 1) := by unfold fitStd; omega
        have hms : n - (i + 1) < n - i := by omega
        refine Need.mk p0 fun _ => Need.mk hiN fun _ => ?_
        refine Ife.mk (fun hk => ?_) (fun hk => ?_)
        · refine Need.mk ⟨hPR, hO.s, Nat.le_trans hsz.1 (by decide), Nat.le_trans hsz.2 (by decide)⟩ fun _ => Need.mk trivial fun _ => ?_
          refine Ife.mk (fun hz => ?_) (fun hz => ?_)
          · have hz : szB (adS L i) (adV L i) = true := hz
            have eS : putS R (adS L i) (adV L i) = setL R (adS L i) (adV L i) := if_pos hz
            have hput := hO.put (k := adS L i) (v := adV L i)
            rw [eS] at hput
            refine Need.mk hPRR fun _ => Need.mk fl fun _ => ?_
            rw [eS]
            refine ⟨⟨i + 1, setL R (adS L i) (adV L i), P, by omega, hput, hP, by omega, sh⟩, hms, StT.trans (StT.frz [12] trivial) (StT.ofL (σ := [0, 1, 2, 3, 4, 5, 10, 12, 8]) ⟨rfl, (by show List.Nodup [2, 3, 4, 5, 10, 8]; decide), by repeat' (first | exact trivial | exact hR1 | exact hR2 | exact hR3 | exact hR4 | exact hA1 | exact hA2 | exact hB1 | exact hB2 | exact rfl | apply And.intro | exact (fun _ _ _ _ => Cell.le_refl _) | (intro i hi; rfl) | (intro i hi; exact absurd hi (Nat.not_lt_zero _))), by repeat' (first | exact trivial | exact hR1 | exact hR2 | exact hR3 | exact hR4 | exact hA1 | exact hA2 | exact hB1 | exact hB2 | exact rfl | apply And.intro | exact (fun _ _ _ _ => Cell.le_refl _) | (intro i hi; rfl) | (intro i hi; exact absurd hi (Nat.not_lt_zero _)))⟩)⟩
          · have hz : szB (adS L i) (adV L i) = false := hz
            have eS : putS R (adS L i) (adV L i) = R := if_neg (by rw [hz]; simp)
            refine Need.mk fl fun _ => ?_
            rw [eS]
            refine ⟨⟨i + 1, R, P, by omega, hO.next, hP, by omega, sh⟩, hms, StT.ofL (σ := [0, 1, 2, 3, 4, 5, 10, 7, 8]) ⟨rfl, (by show List.Nodup [2, 3, 4, 5, 10, 8]; decide), by repeat' (first | exact trivial | exact hR1 | exact hR2 | exact hR3 | exact hR4 | exact hA1 | exact hA2 | exact hB1 | exact hB2 | exact rfl | apply And.intro | exact (fun _ _ _ _ => Cell.le_refl _) | (intro i hi; rfl) | (intro i hi; exact absurd hi (Nat.not_lt_zero _))), by repeat' (first | exact trivial | exact hR1 | exact hR2 | exact hR3 | exact hR4 | exact hA1 | exact hA2 | exact hB1 | exact hB2 | exact rfl | apply And.intro | exact (fun _ _ _ _ => Cell.le_refl _) | (intro i hi; rfl) | (intro i hi; exact absurd hi (Nat.not_lt_zero _)))⟩⟩
        refine Ife.mk (fun hk => ?_) (fun hk => ?_)
        · refine Need.mk ⟨hPR, hO.s⟩ fun _ => Need.mk hPRR fun _ => Need.mk fl fun _ => ?_
          have hdn : dropN R R.length (adS L i) = (dropL R (adS L i)).length := dropN_eq
          have hdg : ∀ q, q < dropN R R.length (adS L i) → dropG R R.length (adS L i) q = prG (dropL R (adS L i)) q := fun q hq => dropG_eq rfl q (by rw [← hdn]; exact hq)
          refine ⟨⟨i + 1, dropL R (adS L i), P, by omega, hO.drop, hP, by omega, sh⟩, hms, StT.trans (StT.elems 12 rfl hdn hdg) (StT.ofL (σ := [0, 1, 2, 3, 4, 5, 10, 12, 8]) ⟨rfl, (by show List.Nodup [2, 3, 4, 5, 10, 8]; decide), by repeat' (first | exact trivial | exact hR1 | exact hR2 | exact hR3 | exact hR4 | exact hA1 | exact hA2 | exact hB1 | exact hB2 | exact rfl | apply And.intro | exact (fun _ _ _ _ => Cell.le_refl _) | (intro i hi; rfl) | (intro i hi; exact absurd hi (Nat.not_lt_zero _))), by repeat' (first | exact trivial | exact hR1 | exact hR2 | exact hR3 | exact hR4 | exact hA1 | exact hA2 | exact hB1 | exact hB2 | exact rfl | apply And.intro | exact (fun _ _ _ _ => Cell.le_refl _) | (intro i hi; rfl) | (intro i hi; exact absurd hi (Nat.not_lt_zero _)))⟩)⟩
        refine Ife.mk (fun hk => ?_) (fun hk => ?_)
        · have hkp : keepPre 1 1 64 (fun i => [.int .u32 (kOf i)]) 73 pMT (pQ P) 87 1 P.length (mkG P) 75 78 2 R.length (prG R) := ⟨ksAt_self, hpa, by omega, rfl, hPR, by rw [prL_prG]; exact hO.s, by rw [prL_prG]; exact hO.z⟩
          refine Ife.mk (fun d1 => ?_) (fun d1 => ?_)
          · have d1 : adN L i < 1 := of_decide_eq_true (p := adN L i < 1) d1
            have e1 : keepE P (adN L i) (adM L i) = 1 := by unfold keepE; rw [if_pos (by omega)]
            have e2 : keepL P (adN L i) (adM L i) R = P := if_neg (by rw [e1]; decide)
            refine Need.mk hkp fun _ => ?_
            refine Ife.mk (fun h5 => absurd h5 (by rw [e1]; simp)) (fun _ => ?_)
            refine Ife.mk (fun h5 => absurd h5 (by simp)) (fun _ => ?_)
            refine Need.mk fl fun _ => ?_
            rw [e2]
            refine ⟨⟨i + 1, R, P, by omega, hO.next, hP, by omega, sh⟩, hms, StT.ofL (σ := [0, 1, 2, 3, 10, 5, 6, 7, 8]) ⟨rfl, (by show List.Nodup [2, 3, 10, 5, 6, 8]; decide), by repeat' (first | exact trivial | exact hR1 | exact hR2 | exact hR3 | exact hR4 | exact hA1 | exact hA2 | exact hB1 | exact hB2 | exact rfl | apply And.intro | exact (fun _ _ _ _ => Cell.le_refl _) | (intro i hi; rfl) | (intro i hi; exact absurd hi (Nat.not_lt_zero _))), by repeat' (first | exact trivial | exact hR1 | exact hR2 | exact hR3 | exact hR4 | exact hA1 | exact hA2 | exact hB1 | exact hB2 | exact rfl | apply And.intro | exact (fun _ _ _ _ => Cell.le_refl _) | (intro i hi; rfl) | (intro i hi; exact absurd hi (Nat.not_lt_zero _)))⟩⟩
          replace d1 : ¬ adN L i < 1 := of_decide_eq_false (p := adN L i < 1) d1
          refine Ife.mk (fun d2 => ?_) (fun d2 => ?_)
          · have d2 : 1099511627776 < adN L i := of_decide_eq_true (p := 1099511627776 < adN L i) d2
            have e1 : keepE P (adN L i) (adM L i) = 1 := by unfold keepE; rw [if_pos (by omega)]
            have e2 : keepL P (adN L i) (adM L i) R = P := if_neg (by rw [e1]; decide)
            refine Need.mk hkp fun _ => ?_
            refine Ife.mk (fun h5 => absurd h5 (by rw [e1]; simp)) (fun _ => ?_)
            refine Ife.mk (fun h5 => absurd h5 (by simp)) (fun _ => ?_)
            refine Need.mk fl fun _ => ?_
            rw [e2]
            refine ⟨⟨i + 1, R, P, by omega, hO.next, hP, by omega, sh⟩, hms, StT.ofL (σ := [0, 1, 2, 3, 10, 5, 6, 7, 8]) ⟨rfl, (by show List.Nodup [2, 3, 10, 5, 6, 8]; decide), by repeat' (first | exact trivial | exact hR1 | exact hR2 | exact hR3 | exact hR4 | exact hA1 | exact hA2 | exact hB1 | exact hB2 | exact rfl | apply And.intro | exact (fun _ _ _ _ => Cell.le_refl _) | (intro i hi; rfl) | (intro i hi; exact absurd hi (Nat.not_lt_zero _))), by repeat' (first | exact trivial | exact hR1 | exact hR2 | exact hR3 | exact hR4 | exact hA1 | exact hA2 | exact hB1 | exact hB2 | exact rfl | apply And.intro | exact (fun _ _ _ _ => Cell.le_refl _) | (intro i hi; rfl) | (intro i hi; exact absurd hi (Nat.not_lt_zero _)))⟩⟩
          replace d2 : ¬ 1099511627776 < adN L i := of_decide_eq_false (p := 1099511627776 < adN L i) d2
          refine Ife.mk (fun d3 => ?_) (fun d3 => ?_)
          · have d3 : adM L i < 0 := of_decide_eq_true (p := adM L i < 0) d3
            have e1 : keepE P (adN L i) (adM L i) = 1 := by unfold keepE; rw [if_pos (by omega)]
            have e2 : keepL P (adN L i) (adM L i) R = P := if_neg (by rw [e1]; decide)
            refine Need.mk hkp fun _ => ?_
            refine Ife.mk (fun h5 => absurd h5 (by rw [e1]; simp)) (fun _ => ?_)
            refine Ife.mk (fun h5 => absurd h5 (by simp)) (fun _ => ?_)
            refine Need.mk fl fun _ => ?_
            rw [e2]
            refine ⟨⟨i + 1, R, P, by omega, hO.next, hP, by omega, sh⟩, hms, StT.ofL (σ := [0, 1, 2, 3, 10, 5, 6, 7, 8]) ⟨rfl, (by show List.Nodup [2, 3, 10, 5, 6, 8]; decide), by repeat' (first | exact trivial | exact hR1 | exact hR2 | exact hR3 | exact hR4 | exact hA1 | exact hA2 | exact hB1 | exact hB2 | exact rfl | apply And.intro | exact (fun _ _ _ _ => Cell.le_refl _) | (intro i hi; rfl) | (intro i hi; exact absurd hi (Nat.not_lt_zero _))), by repeat' (first | exact trivial | exact hR1 | exact hR2 | exact hR3 | exact hR4 | exact hA1 | exact hA2 | exact hB1 | exact hB2 | exact rfl | apply And.intro | exact (fun _ _ _ _ => Cell.le_refl _) | (intro i hi; rfl) | (intro i hi; exact absurd hi (Nat.not_lt_zero _)))⟩⟩
          replace d3 : ¬ adM L i < 0 := of_decide_eq_false (p := adM L i < 0) d3
          refine Ife.mk (fun d4 => ?_) (fun d4 => ?_)
          · have d4 : 1099511627776 < adM L i := of_decide_eq_true (p := 1099511627776 < adM L i) d4
            have e1 : keepE P (adN L i) (adM L i) = 1 := by unfold keepE; rw [if_pos (by omega)]
            have e2 : keepL P (adN L i) (adM L i) R = P := if_neg (by rw [e1]; decide)
            refine Need.mk hkp fun _ => ?_
            refine Ife.mk (fun h5 => absurd h5 (by rw [e1]; simp)) (fun _ => ?_)
            refine Ife.mk (fun h5 => absurd h5 (by simp)) (fun _ => ?_)
            refine Need.mk fl fun _ => ?_
            rw [e2]
            refine ⟨⟨i + 1, R, P, by omega, hO.next, hP, by omega, sh⟩, hms, StT.ofL (σ := [0, 1, 2, 3, 10, 5, 6, 7, 8]) ⟨rfl, (by show List.Nodup [2, 3, 10, 5, 6, 8]; decide), by repeat' (first | exact trivial | exact hR1 | exact hR2 | exact hR3 | exact hR4 | exact hA1 | exact hA2 | exact hB1 | exact hB2 | exact rfl | apply And.intro | exact (fun _ _ _ _ => Cell.le_refl _) | (intro i hi; rfl) | (intro i hi; exact absurd hi (Nat.not_lt_zero _))), by repeat' (first | exact trivial | exact hR1 | exact hR2 | exact hR3 | exact hR4 | exact hA1 | exact hA2 | exact hB1 | exact hB2 | exact rfl | apply And.intro | exact (fun _ _ _ _ => Cell.le_refl _) | (intro i hi; rfl) | (intro i hi; exact absurd hi (Nat.not_lt_zero _)))⟩⟩
          replace d4 : ¬ 1099511627776 < adM L i := of_decide_eq_false (p := 1099511627776 < adM L i) d4
          refine Ife.mk (fun d5 => ?_) (fun d5 => ?_)
          · have d5 : adN L i ≤ pLast P := of_decide_eq_true (p := adN L i ≤ pLast P) d5
            have e1 : keepE P (adN L i) (adM L i) = 16 := by unfold keepE; rw [if_neg (by omega), if_pos d5]
            have e2 : keepL P (adN L i) (adM L i) R = P := if_neg (by rw [e1]; decide)
            refine Need.mk hkp fun _ => ?_
            refine Ife.mk (fun h5 => absurd h5 (by rw [e1]; simp)) (fun _ => ?_)
            refine Ife.mk (fun h5 => absurd h5 (by simp)) (fun _ => ?_)
            refine Need.mk fl fun _ => ?_
            rw [e2]
            refine ⟨⟨i + 1, R, P, by omega, hO.next, hP, by omega, sh⟩, hms, StT.ofL (σ := [0, 1, 2, 3, 10, 5, 6, 7, 8]) ⟨rfl, (by show List.Nodup [2, 3, 10, 5, 6, 8]; decide), by repeat' (first | exact trivial | exact hR1 | exact hR2 | exact hR3 | exact hR4 | exact hA1 | exact hA2 | exact hB1 | exact hB2 | exact rfl | apply And.intro | exact (fun _ _ _ _ => Cell.le_refl _) | (intro i hi; rfl) | (intro i hi; exact absurd hi (Nat.not_lt_zero _))), by repeat' (first | exact trivial | exact hR1 | exact hR2 | exact hR3 | exact hR4 | exact hA1 | exact hA2 | exact hB1 | exact hB2 | exact rfl | apply And.intro | exact (fun _ _ _ _ => Cell.le_refl _) | (intro i hi; rfl) | (intro i hi; exact absurd hi (Nat.not_lt_zero _)))⟩⟩
          replace d5 : ¬ adN L i ≤ pLast P := of_decide_eq_false (p := adN L i ≤ pLast P) d5
          have e1 : keepE P (adN L i) (adM L i) = 0 := keepE_ok d1 d2 d3 d4 d5
          have e2 : keepL P (adN L i) (adM L i) R = P ++ [(adN L i, adM L i, R)] := if_pos e1
          refine Need.mk hkp fun _ => ?_
          refine Ife.mk (fun h5 => absurd h5 (by rw [e1]; simp)) (fun _ => ?_)
          refine Ife.mk (fun _ => ?_) (fun h5 => absurd h5 (by simp))
          refine Need.mk ⟨by show P.length + 1 ≤ maxLen ∧ (P.length + 1) * 80 ≤ 140737488355328; unfold maxLen; omega, trivial⟩ fun _ => Need.mk fl fun _ => ?_
          rw [e2]
          have hP2 : PaS (P ++ [(adN L i, adM L i, R)]) := by
            have := keepL_ok (h := adN L i) (t := adM L i) (S := R) hP ⟨hO.s, hO.z, by omega⟩ (by omega)
            rwa [e2] at this
          have hLst : adN L i = pLast (P ++ [(adN L i, adM L i, R)]) := by rw [pLast_app]
          have hA1 : P.length + 1 = (P ++ [(adN L i, adM L i, R)]).length := by simp
          have hA2 : ∀ a b, a < (P ++ [(adN L i, adM L i, R)]).length → b < 36 → Cell.le (pushC P.length (kG P) (kC (adN L i) (adM L i) R.length (prG R)) a b) (kG (P ++ [(adN L i, adM L i, R)]) a b) := fun a b ha _ => by
            rw [k_push P (adN L i, adM L i, R) a b (by rw [hA1]; exact ha)]
            exact Cell.le_refl _
          have hPl : (P ++ [(adN L i, adM L i, R)]).length ≤ i + 1 := by rw [← hA1]; omega
          refine ⟨⟨i + 1, R, P ++ [(adN L i, adM L i, R)], by omega, hO.next, hP2, hPl, sh_app sh hO (by omega)⟩, hms, StT.ofL (σ := [0, 1, 2, 3, 10, 5, 6, 7, 12]) ⟨rfl, (by show List.Nodup [2, 3, 10, 5, 6, 12]; decide), by repeat' (first | exact trivial | exact hLst | exact hR1 | exact hR2 | exact hR3 | exact hR4 | exact hA1 | exact hA2 | exact hB1 | exact hB2 | exact rfl | apply And.intro | exact (fun _ _ _ _ => Cell.le_refl _) | (intro i hi; rfl) | (intro i hi; exact absurd hi (Nat.not_lt_zero _))), by repeat' (first | exact trivial | exact hLst | exact hR1 | exact hR2 | exact hR3 | exact hR4 | exact hA1 | exact hA2 | exact hB1 | exact hB2 | exact rfl | apply And.intro | exact (fun _ _ _ _ => Cell.le_refl _) | (intro i hi; rfl) | (intro i hi; exact absurd hi (Nat.not_lt_zero _)))⟩⟩
        · refine Need.mk fl fun _ => ?_
          refine ⟨⟨i + 1, R, P, by omega, hO.next, hP, by omega, sh⟩, hms, StT.ofL (σ := [0, 1, 2, 3, 4, 5, 6, 7, 8]) ⟨rfl, (by show List.Nodup [2, 3, 4, 5, 6, 8]; decide), by repeat' (first | exact trivial | exact hR1 | exact hR2 | exact hR3 | exact hR4 | exact hA1 | exact hA2 | exact hB1 | exact hB2 | exact rfl | apply And.intro | exact (fun _ _ _ _ => Cell.le_refl _) | (intro i hi; rfl) | (intro i hi; exact absurd hi (Nat.not_lt_zero _))), by repeat' (first | exact trivial | exact hR1 | exact hR2 | exact hR3 | exact hR4 | exact hA1 | exact hA2 | exact hB1 | exact hB2 | exact rfl | apply And.intro | exact (fun _ _ _ _ => Cell.le_refl _) | (intro i hi; rfl) | (intro i hi; exact absurd hi (Nat.not_lt_zero _)))⟩⟩
      have h : ¬ (i : Int) < (n : Int) := of_decide_eq_false (p := (i : Int) < (n : Int)) h
      have hkP : kPre 43 36 P.length (fun i j => kG P i j) := kPre_mk rfl (by omega) fun r hr => ⟨by have := sh r hr; omega, (hP.ok r hr).2.1⟩
      have hkh : khPre 47 34 P.length (pHdG P) 47 34 P.length (pHdG P) := ⟨rfl, rfl, rfl, rfl, rfl, by omega, P, fun i _ => ⟨rfl, rfl⟩⟩
      refine Need.mk hkP fun _ => Need.mk hpa fun _ => Need.mk hpa fun _ => Need.mk ⟨ksAt_self, hpa⟩ fun _ => ?_
      refine Ife.mk (fun h5 => absurd h5 (by simp)) (fun _ => ?_)
      refine Ife.mk (fun hb => ?_) (fun hb => ?_)
      · have hb : paHas P hh = false := by simpa using hb
        have eR : paL P hh = [] := paL_none hb
        refine Ife.mk (fun h5 => absurd h5 (by rw [paNum_no hb]; simp)) (fun _ => ?_)
        refine Ife.mk (fun h5 => absurd h5 (by rw [eR, show getL [] key = [] from rfl]; simp)) (fun _ => ?_)
        refine Ife.mk (fun h5 => absurd h5 (by rw [eR, show findB [] key = false from rfl]; simp)) (fun _ => ?_)
        refine Ife.mk (fun h5 => absurd h5 (by rw [hb]; simp)) (fun _ => ?_)
        refine Ife.mk (fun h5 => absurd h5 (by rw [eR, show mkC [] = 0 from rfl]; simp)) (fun _ => ?_)
        refine Ife.mk (fun h5 => absurd h5 (by rw [eR, show lenL (mkL [] key) = 0 from rfl]; simp)) (fun _ => ?_)
        refine Need.mk hpa fun _ => ?_
        refine Ife.mk (fun h5 => absurd h5 (by rw [eR, show underL [] front = [] from rfl]; simp)) (fun _ => ?_)
        refine Ife.mk (fun h5 => absurd (hb.symm.trans h5) (by decide)) (fun _ => ?_)
        refine Need.mk hpa fun _ => ?_
        refine Ife.mk (fun _ => ?_) (fun h5 => absurd h5 (by simp))
        refine Need.mk hpa fun _ => Need.mk hkP fun _ => Need.mk hkh fun _ => ?_
        exact ⟨[0, 1], ⟨rfl, (by repeat' (first | exact trivial | exact hR1 | exact hR2 | exact hR3 | exact hR4 | exact hA1 | exact hA2 | exact hB1 | exact hB2 | exact rfl | apply And.intro | exact (fun _ _ _ _ => Cell.le_refl _) | (intro i hi; rfl) | (intro i hi; exact absurd hi (Nat.not_lt_zero _)))), (by show List.Nodup []; exact List.nodup_nil), rfl, by repeat' (first | exact trivial | exact hR1 | exact hR2 | exact hR3 | exact hR4 | exact hA1 | exact hA2 | exact hB1 | exact hB2 | exact rfl | apply And.intro | exact (fun _ _ _ _ => Cell.le_refl _) | (intro i hi; rfl) | (intro i hi; exact absurd hi (Nat.not_lt_zero _)))⟩⟩
      · have hb : paHas P hh = true := by simpa using hb
        simp only [show (paRec P hh).2.2 = paL P hh from rfl]
        refine Ife.mk (fun _ => ?_) (fun h5 => absurd (hb.symm.trans h5) (by decide))
        obtain ⟨q1, q2, q3⟩ := hP.at hh
        have h40 : (paL P hh).length ≤ 40 := sh _ (paRec_mem hb).1
        have hPRq : prPreR 84 2 (paL P hh).length (prG (paL P hh)) := ⟨rfl, rfl, prAt_prG _ _, q3⟩
        have eU := und_flt (f := front) q1
        have hfl1 : (flt front (paL P hh)).length ≤ (paL P hh).length := List.length_filter_le _ _
        have hfl2 : (underL (paL P hh) front).length ≤ (paL P hh).length := by rw [eU]; exact hfl1
        have hok : ∀ x ∈ mkL (paL P hh) key, x.ok := mkL_ok (by omega)
        have hkl := mkL_len (L := paL P hh) (k := key)
        have q : leavesPre 98 4 (lenL (mkL (paL P hh) key)) (fun i j => (leafG true (mkL (paL P hh) key) i j).old) := leavesPre_old hok (by omega)
        refine Need.mk hPRq fun _ => Need.mk ⟨hPRq, by rw [prL_prG]; exact q2⟩ fun _ => ?_
        refine Ife.mk (fun h5 => absurd h5 (by rw [paNum_yes hb, show ((paRec P hh).1, (paRec P hh).2.1, paL P hh) = paRec P hh from rfl]; simp)) (fun _ => ?_)
        refine Ife.mk (fun h5 => absurd h5 (by simp)) (fun _ => ?_)
        refine Ife.mk (fun h5 => absurd h5 (by simp)) (fun _ => ?_)
        refine Ife.mk (fun h5 => absurd h5 (by rw [hb]; simp)) (fun _ => ?_)
        refine Need.mk hPRq fun _ => Need.mk ⟨q, q⟩ fun _ => ?_
        refine Ife.mk (fun h5 => absurd h5 (by simp)) (fun _ => ?_)
        refine Need.mk hpa fun _ => Need.mk hPRq fun _ => Need.mk ⟨⟨rfl, rfl, prAt_prG _ _, by omega⟩, ⟨rfl, rfl, prAt_prG _ _, by omega⟩⟩ fun _ => ?_
        refine Ife.mk (fun h5 => absurd h5 (by rw [eU]; simp)) (fun _ => ?_)
        refine Need.mk hpa fun _ => ?_
        refine Ife.mk (fun _ => ?_) (fun h5 => absurd h5 (by simp))
        refine Need.mk hpa fun _ => Need.mk hkP fun _ => Need.mk hkh fun _ => ?_
        exact ⟨[0, 1], ⟨rfl, (by repeat' (first | exact trivial | exact hR1 | exact hR2 | exact hR3 | exact hR4 | exact hA1 | exact hA2 | exact hB1 | exact hB2 | exact rfl | apply And.intro | exact (fun _ _ _ _ => Cell.le_refl _) | (intro i hi; rfl) | (intro i hi; exact absurd hi (Nat.not_lt_zero _)))), (by show List.Nodup []; exact List.nodup_nil), rfl, by repeat' (first | exact trivial | exact hR1 | exact hR2 | exact hR3 | exact hR4 | exact hA1 | exact hA2 | exact hB1 | exact hB2 | exact rfl | apply And.intro | exact (fun _ _ _ _ => Cell.le_refl _) | (intro i hi; rfl) | (intro i hi; exact absurd hi (Nat.not_lt_zero _)))⟩⟩

end Go.Proofs.YtbbpgicoklhheaaGreatDoor.Vx
end

section
/- Acts that come in, opened. -/
namespace Go.Proofs.YtbbpgicoklhheaaGreatDoor.Vx
/-- An act's values. -/
def adVals (x : DC) : List Value := [.int .i64 x.1, .int .i64 x.2.1, .int .i64 x.2.2.1, .string ⟨x.2.2.2.1.toArray⟩, .string ⟨x.2.2.2.2.toArray⟩]
end Go.Proofs.YtbbpgicoklhheaaGreatDoor.Vx
namespace Go.Proofs.YtbbpgicoklhheaaGreatDoor
open Go.ChangeShapes Go.WideShapes Go.ChangeAt Go.RowKit
set_option linter.unusedVariables false
set_option linter.unusedSimpArgs false
section
variable {H : Type} {enc : TypeId × Value → H} {w : World} {base : Nat}
theorem cells_Ads : Tryz.prog.cellsOf 32 = 5 := by kernel_rfl
set_option maxRecDepth 100000 in
theorem open_Ads {v : Value} {d : DataW H} {p : List MemPlace} (hv : Value.okWide Tryz.prog w .any base 22 v) (h : DataW.Trod enc Tryz.prog w 0 (fun _ => true) true 22 v d p) :
    ∃ (a : Option Addr) (cap : Nat) (ls : List Vx.DC), v = .slice a ls.length cap ∧ SlIn w a 5 cap (ls.map Vx.adVals) := by
  obtain ⟨a, cap, xs, rfl, hs, hx⟩ := open_slice (sz := 5) (P := fun l => ∃ x : Vx.DC, l = Vx.adVals x) (by decide) Tryz.underlying22 cells_Ads (fun fuel l x hl => by
    obtain ⟨ys, m, _, _, hl2, hlen, hff⟩ := DataW.trod_struct Tryz.underlying32 hl
    rw [cells_Ads] at hl2
    match l, hl2 with
    | [c0, c1, c2, c3, c4], _ =>
      match ys, hlen with
      | [y0, y1, y2, y3, y4], _ =>
        have f0 := hff 0 _ rfl
        have f1 := hff 1 _ rfl
        have f2 := hff 2 _ rfl
        have f3 := hff 3 _ rfl
        have f4 := hff 4 _ rfl
        simp [cells_int, cells_string] at f0 f1 f2 f3 f4
        obtain ⟨n0, e0, _, _⟩ := DataW.trod_int Tryz.underlying3 f0
        obtain ⟨n1, e1, _, _⟩ := DataW.trod_int Tryz.underlying3 f1
        obtain ⟨n2, e2, _, _⟩ := DataW.trod_int Tryz.underlying3 f2
        obtain ⟨s3, e3, _, hs3⟩ := DataW.trod_string Tryz.underlying9 f3
        obtain ⟨s4, e4, _, hs4⟩ := DataW.trod_string Tryz.underlying9 f4
        simp at e0 e1 e2 e3 e4
        obtain ⟨n3, rfl, b3⟩ := bytesOf s3 hs3
        obtain ⟨n4, rfl, b4⟩ := bytesOf s4 hs4
        exact ⟨rfl, (n0, n1, n2, n3, n4), by simp [Vx.adVals, e0, e1, e2, e3, e4]⟩) hv h
  obtain ⟨f, hf⟩ : ∃ f : Nat → Vx.DC, ∀ i (hi : i < xs.length), xs[i] = Vx.adVals (f i) := by
    have key : ∀ i, ∃ n : Vx.DC, ∀ hi : i < xs.length, xs[i] = Vx.adVals n := fun i => by
      by_cases hi : i < xs.length
      · obtain ⟨n, e⟩ := (hx _ (List.getElem_mem hi)).2
        exact ⟨n, fun _ => e⟩
      · exact ⟨Vx.adD, fun h => absurd h hi⟩
    exact ⟨fun i => (key i).choose, fun i hi => (key i).choose_spec hi⟩
  have e : xs = ((List.range xs.length).map f).map Vx.adVals := by
    apply List.ext_getElem (by simp)
    intro i h1 h2
    simp [hf i h1]
  refine ⟨a, cap, (List.range xs.length).map f, by simp, ?_⟩
  rw [← e]
  exact hs
theorem Ads_good {w : World} {a : Option Addr} {cap : Nat} {ls : List Vx.DC} (hs : SlIn w a 5 cap (ls.map Vx.adVals)) : ∃ p : Vx.Pl, p.v = .slice a ls.length cap ∧ Vx.Good w 5 (ls.length, Vx.adG ls) p := by
  obtain ⟨p, hp, g⟩ := hs.good (get := Vx.adG ls) (fun i hi => by
    have hi' : i < ls.length := by simpa using hi
    rw [List.getElem_map]
    have e : ls.getD i Vx.adD = ls[i] := by simp [List.getD, hi']
    unfold Vx.adG Vx.adK Vx.adN Vx.adM Vx.adS Vx.adV
    rw [e]
    rfl)
  simp only [List.length_map] at hp g
  exact ⟨p, hp, g⟩
end
end Go.Proofs.YtbbpgicoklhheaaGreatDoor
end

section
/- PastPlays: what a law's call answers. -/
namespace Go.Proofs.YtbbpgicoklhheaaGreatDoor
open Go.RowKit
set_option linter.unusedVariables false
theorem pastPlaysWalk (w : World) (hk : ∀ i, i < 64 → w.cell? ⟨1, i, none⟩ = some (.int .u32 (Sha.kOf i))) (p0 : Option Addr) (cap0 : Nat) (ls0 : List Vx.DC) (hs0 : SlIn w p0 5 cap0 (ls0.map Vx.adVals)) (a1 : Int) (ha1 : -9223372036854775808 ≤ a1 ∧ a1 ≤ 9223372036854775807) (s2 : ByteArray) (hz2 : s2.size ≤ maxLen) (s3 : ByteArray) (hz3 : s3.size ≤ maxLen) :
    Calls Tryz.prog 3 #[.slice p0 ls0.length cap0, .int .i64 a1, .string s2, .string s3] w fun e w' => e = .returned (.bool true) ∧ Below w.heap.size w w' := by
  obtain ⟨q0, hq0, gd0⟩ := Ads_good hs0
  rw [← hq0]
  obtain ⟨b2, rfl, hl2⟩ := bytesOf s2 hz2
  obtain ⟨b3, rfl, hl3⟩ := bytesOf s3 hz3
  refine Calls.mono (Vx.pastPlaysP.run [.c (.row 1), .c (.int .i64 a1), .c (.str b2), .c (.str b3)] [.glob 1 1 64 (fun i => [.int .u32 (Sha.kOf i)]), .elems 32 5 ls0.length (Vx.adG ls0)] _ _ _ rfl ⟨Vx.ksAt_self, rfl, rfl, Vx.adAt_adG _ _⟩ [⟨1, undef, 0⟩, q0] w _ (Vx.Rel.addV (Vx.relGlob hk) 32 gd0)
    ⟨_, _, rfl, (by obtain ⟨a', cap', e, _⟩ := gd0.sl; simp [Vx.SV.is, Vx.CV.den, e, Vx.one] : Vx.SV.is [⟨1, undef, 0⟩, q0] (.c (.row 1)) q0.v), ⟨_, _, rfl, rfl, ⟨_, _, rfl, rfl, ⟨_, _, rfl, rfl, rfl⟩⟩⟩⟩) fun e W' he => ?_
  obtain ⟨u, ρ', rfl, hu, hr⟩ := he
  obtain rfl : .bool true = u := Option.some.inj hu
  exact ⟨rfl, Vx.Rel.toBelow hr⟩
end Go.Proofs.YtbbpgicoklhheaaGreatDoor
end
