/- Sums over pairs, roots, copies of stores, by the walker. -/
import Derived.Test.YthomoliklfmnkaaDoorM22
import Derived.Test.YthomoliklfmnkaaDoorM24
import Derived.Test.YthomoliklfmnkaaDoorM19
section
namespace Go.Proofs.YthomoliklfmnkaaDoor.Vx
open Sha
open Go.RowKit
set_option linter.unusedVariables false
set_option linter.unusedSimpArgs false
/-- The sums of pairs, as cells. -/
def lfG (L : List PP) (i : Nat) : List CV := hashC (leafF (prK L i) (prV L i))
theorem lfG_hash (L : List PP) (n : Nat) : HashesAt n (lfG L) := fun i _ => hashC_sum _
def rootL (L : List PP) : Nat → Int := rootF (L.length : Int) (u8s (hashC (topG (lfG L) L.length)))
def sumsPre (gg sz0 n0 : Nat) (get0 : Nat → List CV) (ty one n : Nat) (get : Nat → List CV) : Prop := KsAt gg sz0 n0 get0 ∧ prPre ty one n get ∧ AllSz (prL n get)
structure LSm (n : Nat) where
  j : Nat
  h1 : j ≤ n
theorem lf_push {L : List PP} {m : Nat} (j : Nat) (hj : j < m + 1) : pushG m (lfG L) (hashC (leafF (prK L m) (prV L m))) j = lfG L j := by
  unfold pushG
  by_cases h : j < m
  · rw [show Nat.blt j m = true by rw [Nat.blt_eq]; exact h]
  · rw [show Nat.blt j m = false by rw [Bool.eq_false_iff]; intro h2; rw [Nat.blt_eq] at h2; exact h h2]
    obtain rfl : j = m := by omega
    rfl
def tbRt : Tbl where
  T :=
    (3, ⟨1, false, [.int .i64 (0)], .int .i64, 8⟩) ::
    (4, ⟨1, false, [.ff], .bool, 1⟩) ::
    (9, ⟨1, false, [.str []], .str, 16⟩) ::
    (63, ⟨2, true, [.str [], .str []], .struct [(0, (1, false)), (1, (1, false))], 32⟩) ::
    (31, ⟨1, false, [.val (.slice none 0 0)], .slice 63, 24⟩) ::
    (24, ⟨32, true, [.int .u8 (0), .int .u8 (0), .int .u8 (0), .int .u8 (0), .int .u8 (0), .int .u8 (0), .int .u8 (0), .int .u8 (0), .int .u8 (0), .int .u8 (0), .int .u8 (0), .int .u8 (0), .int .u8 (0), .int .u8 (0), .int .u8 (0), .int .u8 (0), .int .u8 (0), .int .u8 (0), .int .u8 (0), .int .u8 (0), .int .u8 (0), .int .u8 (0), .int .u8 (0), .int .u8 (0), .int .u8 (0), .int .u8 (0), .int .u8 (0), .int .u8 (0), .int .u8 (0), .int .u8 (0), .int .u8 (0), .int .u8 (0)], .array 32 5, 32⟩) ::
    (113, ⟨1, false, [.val (.slice none 0 0)], .slice 24, 24⟩) ::
    (137, ⟨1, true, [.val (.slice none 0 0)], .struct [(0, (1, false))], 24⟩) ::
    (53, ⟨1, false, [.val (.pointer none)], .ptr 137, 8⟩) ::
    []
  F :=
    (24, [0, 0, 0, 0, 0, 0, 0, 0, 0, 0, 0, 0, 0, 0, 0, 0, 0, 0, 0, 0, 0, 0, 0, 0, 0, 0, 0, 0, 0, 0, 0, 0]) ::
    []

theorem tbRt_ok : tbRt.Ok Tryd.prog where
  T :=
    TblOk.cons (by kernel_rfl) <|
    TblOk.cons (by kernel_rfl) <|
    TblOk.cons (by kernel_rfl) <|
    TblOk.cons (by kernel_rfl) <|
    TblOk.cons (by kernel_rfl) <|
    TblOk.cons (by kernel_rfl) <|
    TblOk.cons (by kernel_rfl) <|
    TblOk.cons (by kernel_rfl) <|
    TblOk.cons (by kernel_rfl) <|
    TblOk.nil _
  F :=
    FlatsOk.cons (FlatOk.of (D := .array 32 5) 6 (by decide) (by kernel_rfl) (by kernel_rfl) rfl (by kernel_rfl)) <|
    FlatsOk.nil _

def sSums : SpecF
  | [.c (.row 1)], [.glob gg sz0 n0 get0, .elems ty one n get] => some (sumsPre gg sz0 n0 get0 ty one n get, .c (.row 2), [.dead, .dead, .row 24 32 n (lfG (prL n get))])
  | _, _ => none

set_option maxRecDepth 100000 in
set_option maxHeartbeats 8000000 in
theorem sumsP : Fn Tryd.prog 79 [0] [(63, 2)] sSums := by
  have hC : CtsOk Tryd.prog [(123, appFn [0] [] sLeaf)] := CtsOk.cons (Fn.ct leafP) <| CtsOk.nil _
  refine Fn.of (E := tbRt) [0] 0 [] tbRt_ok hC (by kernel_rfl) Tryd.func79 rfl rfl rfl (by kernel_rfl) (by kernel_rfl) 2 24 32 ?_ ?_
  · intro args h pre r h' hs
    unfold sSums at hs
    split at hs
    · cases hs; exact ⟨rfl, rfl, Nat.le_of_ble_eq_true rfl⟩
    · cases hs
  · intro args h pre r h' hs hp
    unfold sSums at hs
    split at hs
    rotate_left
    · cases hs
    rename_i gg sz0 n0 get0 ty one n get
    cases hs
    obtain ⟨hK, ⟨rfl, rfl, hst, hm⟩, hz⟩ := hp
    refine ⟨[.glob 0 1 64 (fun i => [.int .u32 (kOf i)]), .elems 63 2 n (prG (prL n get))], ⟨hK.same.1, ⟨rfl, rfl, rfl, fun i hi => hst.eq hi⟩, trivial⟩, ?_⟩
    clear hK
    have hL : (prL n get).length = n := prL_len
    have ePR : prL n (prG (prL n get)) = prL n get := by
      have := prL_prG (prL n get)
      rwa [hL] at this
    generalize prL n get = L at hL hz ePR ⊢
    generalize hg0 : (List.length : List PP → Nat) = g0
    generalize hL : lft Tryd.prog _ = L
    try unfold prG
    generalize ho0 : @prK = zo0, ho1 : @prV = zo1, ho2 : @prL = zo2, ho3 : @leafF = zo3, ho4 : @leafPre = zo4, ho5 : @kOf = zo5, ho6 : @lfG = zo6, ho7 : @sumsPre = zo7
    generalize hA : Arith.std = A
    cbv
    subst hA hg0 hL ho0 ho1 ho2 ho3 ho4 ho5 ho6 ho7
    refine Runs.nilTmp 3 24 32 (lfG L) rfl ?_
    show Runs Tryd.prog 2 (.loop _) _ _
    refine loop_ruleR (N := env (lft Tryd.prog 2) 0 .std tbRt [(123, appFn [0] [] sLeaf)] []) rfl tbRt_ok hC (fun c st K _ h => h) (by kernel_rfl) [0] (X := LSm n)
      (S := fun x => ⟨[.any, .any, .any, .c (.row 2), .any, .any, .c (.row 1), .c (.int .i64 n), .c (.int .i64 (x.j : Int))] ++ List.replicate 13 .any, [.glob 0 1 64 (fun i => [.int .u32 (kOf i)]), .elems 63 2 n (prG L), .row 24 32 x.j (lfG L)]⟩) (μ := fun x => n - x.j) ⟨0, Nat.zero_le _⟩ (by kernel_rfl) [0, 1, 2] ?_ ?_
    · refine ⟨rfl, by decide, ?_, ?_⟩ <;> repeat' (first | exact trivial | exact rfl | apply And.intro | exact (fun _ _ _ _ => Cell.le_refl _) | (intro i hi; rfl) | (intro i hi; exact absurd hi (Nat.not_lt_zero _)))
    rintro ⟨j, hjn⟩
    unfold sLeaf
    generalize hg0 : (List.length : List PP → Nat) = g0
    generalize hL : lft Tryd.prog _ = L
    try dsimp only
    try unfold prG
    generalize ho0 : @prK = zo0, ho1 : @prV = zo1, ho2 : @prL = zo2, ho3 : @leafF = zo3, ho4 : @leafPre = zo4, ho5 : @kOf = zo5, ho6 : @lfG = zo6, ho7 : @sumsPre = zo7
    generalize hA : Arith.std = A
    cbv
    subst hA hg0 hL ho0 ho1 ho2 ho3 ho4 ho5 ho6 ho7
    refine Ife.mk (fun h => ?_) (fun h => ?_)
    · have h : (j : Int) < (@Nat.cast Int instNatCastInt n) := of_decide_eq_true (p := (j : Int) < (n : Int)) h
      have hj2 : j < n := Int.ofNat_lt.mp h
      have hsz := szB_iff.1 (hz.at (i := j) (by omega))
      refine Need.mk (by show 0 ≤ (j : Int) ∧ (j : Int) < (n : Int); omega) fun _ => Need.mk (by show (j : Int).toNat < n; omega) fun _ => ?_
      refine Need.mk ⟨ksAt_self, by show (prK L j).length ≤ 1000000000; omega, by show (prV L j).length ≤ 1000000000; omega⟩ fun _ => ?_
      refine Need.mk (by show j + 1 ≤ maxLen ∧ (j + 1) * 32 ≤ 140737488355328; unfold maxLen; omega) fun _ => Need.mk (by show fitStd .i64 ((j : Int) + 1); unfold fitStd; omega) fun _ => ?_
      have hp := lf_push (L := L) (m := j)
      refine ⟨⟨j + 1, by omega⟩, [0, 1, 5], (by show n - (j + 1) < n - j; omega), ?_⟩
      refine ⟨rfl, (by decide), ?_, ?_⟩ <;> repeat' (first | exact trivial | exact hp | exact ej | exact rfl | apply And.intro | exact (fun _ _ _ _ => Cell.le_refl _) | (intro i hi; rfl) | (intro i hi; exact absurd hi (Nat.not_lt_zero _)))
    · have h : ¬ (j : Int) < (@Nat.cast Int instNatCastInt n) := of_decide_eq_false (p := (j : Int) < (n : Int)) h
      have ej : j = n := by have : ¬ j < n := fun q => h (Int.ofNat_lt.mpr q)
                            omega
      exact ⟨[0, 1, 2], ⟨rfl, (by repeat' (first | exact trivial | exact hp | exact ej | exact rfl | apply And.intro | exact (fun _ _ _ _ => Cell.le_refl _) | (intro i hi; rfl) | (intro i hi; exact absurd hi (Nat.not_lt_zero _)))), (by show List.Nodup [2]; decide), rfl, by repeat' (first | exact trivial | exact hp | exact ej | exact rfl | apply And.intro | exact (fun _ _ _ _ => Cell.le_refl _) | (intro i hi; rfl) | (intro i hi; exact absurd hi (Nat.not_lt_zero _)))⟩⟩

def sPRoot : SpecF
  | [.c (.row 1)], [.glob gg sz0 n0 get0, .elems ty one n get] => some (sumsPre gg sz0 n0 get0 ty one n get, .agg (hashC (rootL (prL n get))), [.dead, .dead])
  | _, _ => none

set_option maxRecDepth 100000 in
set_option maxHeartbeats 8000000 in
theorem pRootP : Fn Tryd.prog 19 [0] [(63, 2)] sPRoot := by
  have hC : CtsOk Tryd.prog [(79, appFn [0] [(63, 2)] sSums), (78, appFn [0] [(24, 32)] sTop), (77, appFn [0] [] sRoot)] := CtsOk.cons (Fn.ct sumsP) <| CtsOk.cons (Fn.ct topP) <| CtsOk.cons (Fn.ct rootP) <| CtsOk.nil _
  refine Fn.of (E := tbRt) [0] 0 [] tbRt_ok hC (by kernel_rfl) Tryd.func19 rfl rfl rfl (by kernel_rfl) (by kernel_rfl) 2 24 32 ?_ ?_
  · intro args h pre r h' hs
    unfold sPRoot at hs
    split at hs
    · cases hs; exact ⟨rfl, rfl, Nat.le_of_ble_eq_true rfl⟩
    · cases hs
  · intro args h pre r h' hs hp
    unfold sPRoot at hs
    split at hs
    rotate_left
    · cases hs
    rename_i gg sz0 n0 get0 ty one n get
    cases hs
    obtain ⟨hK, ⟨rfl, rfl, hst, hm⟩, hz⟩ := hp
    refine ⟨[.glob 0 1 64 (fun i => [.int .u32 (kOf i)]), .elems 63 2 n (prG (prL n get))], ⟨hK.same.1, ⟨rfl, rfl, rfl, fun i hi => hst.eq hi⟩, trivial⟩, ?_⟩
    clear hK
    have hL : (prL n get).length = n := prL_len
    have ePR : prL n (prG (prL n get)) = prL n get := by
      have := prL_prG (prL n get)
      rwa [hL] at this
    generalize prL n get = L at hL hz ePR ⊢
    unfold sSums sTop sRoot
    generalize hg0 : (List.length : List PP → Nat) = g0
    try unfold prG
    generalize ho0 : @prK = zo0, ho1 : @prV = zo1, ho2 : @prL = zo2, ho3 : @topG = zo3, ho4 : @topPre0 = zo4, ho5 : @rootF = zo5, ho6 : @rootPre = zo6, ho7 : @kOf = zo7, ho8 : @u8s = zo8, ho9 : @lfG = zo9, ho10 : @rootL = zo10, ho11 : @sumsPre = zo11
    generalize hA : Arith.std = A
    cbv
    subst hA hg0 ho0 ho1 ho2 ho3 ho4 ho5 ho6 ho7 ho8 ho9 ho10 ho11
    refine Need.mk ⟨ksAt_self, ⟨rfl, rfl, prAt_prG _ L, hm⟩, by rw [ePR]; exact hz⟩ fun _ => ?_
    rw [ePR]
    refine Need.mk ⟨ksAt_self, rfl, rfl, lfG_hash L n, by show n ≤ 1073741824; omega⟩ fun _ => ?_
    refine Need.mk ⟨ksAt_self, topG_hash (lfG_hash L n) 0 n (by omega)⟩ fun _ => ?_
    have eR : rootL L = rootF (n : Int) (u8s (hashC (topG (lfG L) n))) := by unfold rootL; rw [hL]
    rw [eR]
    exact ⟨[0, 1], ⟨rfl, (by repeat' (first | exact trivial | exact rfl | apply And.intro | exact (fun _ _ _ _ => Cell.le_refl _) | (intro i hi; rfl) | (intro i hi; exact absurd hi (Nat.not_lt_zero _)))), (by decide), rfl, by repeat' (first | exact trivial | exact rfl | apply And.intro | exact (fun _ _ _ _ => Cell.le_refl _) | (intro i hi; rfl) | (intro i hi; exact absurd hi (Nat.not_lt_zero _)))⟩⟩

end Go.Proofs.YthomoliklfmnkaaDoor.Vx
end

section
/- Stores: Root, Copy, Pairs; sorted lists with the same members. -/
namespace Go.Proofs.YthomoliklfmnkaaDoor.Vx
open Sha
open Go.RowKit
set_option linter.unusedVariables false
set_option linter.unusedSimpArgs false
theorem mem_findB {L : List PP} (hs : StS L) {p : PP} (hp : p ∈ L) : findB L p.1 = true ∧ findI L p.1 < L.length ∧ L[findI L p.1]? = some p := by
  obtain ⟨i, hi, rfl⟩ := List.getElem_of_mem hp
  have e : findI L L[i].1 = i := findI_uniq hs (by omega) (fun j hj => by rw [← prK_eq hi]; exact hs.at hj hi) fun j h1 h2 => by
    rcases Nat.eq_or_lt_of_le h1 with h3 | h3
    · subst h3; rw [prK_eq hi]; exact lt_irr _
    · rw [← prK_eq hi]; exact lt_asym (hs.at h3 h2)
  refine ⟨?_, by rw [e]; exact hi, by rw [e]; exact List.getElem?_eq_getElem hi⟩
  unfold findB
  rw [e, decide_eq_true hi, decide_eq_true (prK_eq hi)]
  rfl






end Go.Proofs.YthomoliklfmnkaaDoor.Vx
end

section
/- ligkeep.Pairs, by the walker. -/
namespace Go.Proofs.YthomoliklfmnkaaDoor.Vx
open Sha
open Go.RowKit
set_option linter.unusedVariables false
set_option linter.unusedSimpArgs false




end Go.Proofs.YthomoliklfmnkaaDoor.Vx
end

section
/- Pairs that come in, opened; the walk of StoreUnder. -/
namespace Go.Proofs.YthomoliklfmnkaaDoor.Vx
/-- A pair's values. -/
def prVals (x : PP) : List Value := [.string ⟨x.1.toArray⟩, .string ⟨x.2.toArray⟩]
end Go.Proofs.YthomoliklfmnkaaDoor.Vx
namespace Go.Proofs.YthomoliklfmnkaaDoor
open Go.ChangeShapes Go.WideShapes Go.ChangeAt Go.RowKit
set_option linter.unusedVariables false
set_option linter.unusedSimpArgs false
section
variable {H : Type} {enc : TypeId × Value → H} {w : World} {base : Nat}
theorem cells_RPair : Tryd.prog.cellsOf 46 = 2 := by kernel_rfl
set_option maxRecDepth 100000 in
theorem open_Prs {v : Value} {d : DataW H} {p : List MemPlace} (hv : Value.okWide Tryd.prog w .any base 22 v) (h : DataW.Trod enc Tryd.prog w 0 (fun _ => true) true 22 v d p) :
    ∃ (a : Option Addr) (cap : Nat) (ls : List Vx.PP), v = .slice a ls.length cap ∧ SlIn w a 2 cap (ls.map Vx.prVals) := by
  obtain ⟨a, cap, xs, rfl, hs, hx⟩ := open_slice (sz := 2) (P := fun l => ∃ x : Vx.PP, l = Vx.prVals x) (by decide) Tryd.underlying22 cells_RPair (fun fuel l x hl => by
    obtain ⟨ys, m, _, _, hl2, hlen, hff⟩ := DataW.trod_struct Tryd.underlying46 hl
    rw [cells_RPair] at hl2
    match l, hl2 with
    | [c0, c1], _ =>
      match ys, hlen with
      | [y0, y1], _ =>
        have f0 := hff 0 _ rfl
        have f1 := hff 1 _ rfl
        simp [cells_string] at f0 f1
        obtain ⟨s0, e0, _, hs0⟩ := DataW.trod_string Tryd.underlying9 f0
        obtain ⟨s1, e1, _, hs1⟩ := DataW.trod_string Tryd.underlying9 f1
        simp at e0 e1
        obtain ⟨l0, rfl, b0⟩ := bytesOf s0 hs0
        obtain ⟨l1, rfl, b1⟩ := bytesOf s1 hs1
        exact ⟨rfl, (l0, l1), by simp [Vx.prVals, e0, e1]⟩) hv h
  obtain ⟨f, hf⟩ : ∃ f : Nat → Vx.PP, ∀ i (hi : i < xs.length), xs[i] = Vx.prVals (f i) := by
    have key : ∀ i, ∃ n : Vx.PP, ∀ hi : i < xs.length, xs[i] = Vx.prVals n := fun i => by
      by_cases hi : i < xs.length
      · obtain ⟨n, e⟩ := (hx _ (List.getElem_mem hi)).2
        exact ⟨n, fun _ => e⟩
      · exact ⟨([], []), fun h => absurd h hi⟩
    exact ⟨fun i => (key i).choose, fun i hi => (key i).choose_spec hi⟩
  have e : xs = ((List.range xs.length).map f).map Vx.prVals := by
    apply List.ext_getElem (by simp)
    intro i h1 h2
    simp [hf i h1]
  refine ⟨a, cap, (List.range xs.length).map f, by simp, ?_⟩
  rw [← e]
  exact hs
theorem prs_good {w : World} {a : Option Addr} {cap : Nat} {ls : List Vx.PP} (hs : SlIn w a 2 cap (ls.map Vx.prVals)) : ∃ p : Vx.Pl, p.v = .slice a ls.length cap ∧ Vx.Good w 2 (ls.length, Vx.prG ls) p := by
  obtain ⟨p, hp, g⟩ := hs.good (get := Vx.prG ls) (fun i hi => by
    have hi' : i < ls.length := by simpa using hi
    rw [List.getElem_map]
    have e : ls.getD i ([], []) = ls[i] := by simp [List.getD, hi']
    unfold Vx.prG Vx.prGP Vx.prK Vx.prV
    rw [e]
    rfl)
  simp only [List.length_map] at hp g
  exact ⟨p, hp, g⟩
end
end Go.Proofs.YthomoliklfmnkaaDoor
end

section
/- StoreOrder, by the walker. -/
namespace Go.Proofs.YthomoliklfmnkaaDoor.Vx
open Sha
open Go.RowKit
set_option linter.unusedVariables false
set_option linter.unusedSimpArgs false




end Go.Proofs.YthomoliklfmnkaaDoor.Vx
namespace Go.Proofs.YthomoliklfmnkaaDoor
open Go.RowKit
set_option linter.unusedVariables false
end Go.Proofs.YthomoliklfmnkaaDoor
end
