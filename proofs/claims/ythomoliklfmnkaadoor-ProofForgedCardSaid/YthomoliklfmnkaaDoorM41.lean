/- ProofForged, by the walker. -/
import Derived.Test.YthomoliklfmnkaaDoorM40
import Derived.Test.YthomoliklfmnkaaDoorM39
import Derived.Test.YthomoliklfmnkaaDoorM31
import Derived.Test.YthomoliklfmnkaaDoorM25
import Derived.Test.YthomoliklfmnkaaDoorM20
import Derived.Test.YthomoliklfmnkaaDoorM19
section
namespace Go.Proofs.YthomoliklfmnkaaDoor.Vx
open Sha
open Sha
open Go.RowKit
set_option linter.unusedVariables false
set_option linter.unusedSimpArgs false
def pfgPre (gg sz0 n0 : Nat) (get0 : Nat → List CV) (ty one n : Nat) (get : Nat → List CV) (ty2 sz2 m : Nat) (get2 : Nat → Nat → Cell) : Prop := KsAt gg sz0 n0 get0 ∧ (ty = 46 ∧ one = 2 ∧ PrAt n get) ∧ leavesAt0 ty2 sz2 m get2 ∧ RawP (leafL m get2)
theorem eqH_hOf (f g : Nat → Int) : eqH f (hOf (hashC g)) = eqH f g := by
  rw [Bool.eq_iff_iff, eqH_iff, eqH_iff]
  constructor
  · intro h i hi
    rw [h i hi, hOf_at, if_pos hi]
  · intro h i hi
    rw [h i hi, hOf_at, if_pos hi]
theorem hOf_eqH (f g : Nat → Int) : eqH (hOf (hashC f)) g = eqH f g := by
  rw [Bool.eq_iff_iff, eqH_iff, eqH_iff]
  constructor
  · intro h i hi
    rw [← h i hi, hOf_at, if_pos hi]
  · intro h i hi
    rw [← h i hi, hOf_at, if_pos hi]
theorem underB_hash {f : Nat → Int} {c : Int} {K : List PLeaf} : underB (hOf (hashC f)) c K = underB f c K := by
  have e : stAt (hOf (hashC f)) c K = stAt f c K := funext fun i => by
    unfold stAt stX
    rw [eqH_hOf]
  unfold underB
  rw [e]
theorem valB_hash {f : Nat → Int} {c : Int} {K : List PLeaf} {k : List UInt8} : valB (hOf (hashC f)) c K k = valB f c K k := by
  unfold valB
  rw [underB_hash]
theorem lackB_hash {f : Nat → Int} {c : Int} {K : List PLeaf} {k : List UInt8} : lackB (hOf (hashC f)) c K k = lackB f c K k := by
  unfold lackB lackE
  rw [underB_hash, hOf_eqH]
theorem hashB_l (f : Nat → Int) : (hashB f).length = 32 := by simp [hashB]
theorem tNode_l (f g : Nat → Int) : (tNode f g).length = 65 := by
  unfold tNode
  rw [List.length_append, List.length_append, hashB_l, hashB_l]
  rfl
theorem tRoot_l (n : Int) (f : Nat → Int) : (tRoot n f).length = 41 := by
  unfold tRoot
  rw [List.length_append, List.length_append, hashB_l]
  rfl
theorem tLeaf_l (k v : List UInt8) : (tLeaf k v).length = 9 + k.length + v.length := by
  unfold tLeaf
  rw [List.length_append, List.length_append, List.length_append, show (be8 (k.length : Int)).length = 8 from rfl]
  show 1 + 8 + _ + _ = _
  omega
theorem topT_sm (h : Nat → Nat → Int) : ∀ (n lo : Nat), ∀ t ∈ topT h lo n, t.length = 65 := fun n => by
  induction n using Nat.strongRecOn with
  | ind n ih =>
    intro lo
    by_cases hn : n < 2 ∨ 1073741824 < n
    · rw [topT, dif_pos hn]; intro t ht; simp at ht
    · have hh := hf_lt (n := (n : Int)) (by omega) (by omega)
      rw [topT_more hn]
      intro t ht
      rw [List.mem_append, List.mem_append] at ht
      rcases ht with (h1 | h1) | h1
      · exact ih (hf n).toNat (by omega) lo t h1
      · exact ih (n - (hf n).toNat) (by omega) (lo + (hf n).toNat) t h1
      · rw [List.mem_singleton] at h1
        rw [h1]; exact tNode_l _ _
theorem wayT_sm (W : Nat → Nat → Int) (leaf : Nat → Int) : ∀ (k : Nat) (n i : Int), ∀ t ∈ wayT W leaf k n i, t.length = 65
  | 0, _, _, t, h => by simp [wayT] at h
  | k + 1, n, i, t, h => by
    unfold wayT at h
    split at h
    · rw [List.mem_append] at h
      rcases h with h | h
      · exact wayT_sm W leaf k _ _ t h
      · rw [List.mem_singleton] at h; rw [h]; exact tNode_l _ _
    · rw [List.mem_append] at h
      rcases h with h | h
      · exact wayT_sm W leaf k _ _ t h
      · rw [List.mem_singleton] at h; rw [h]; exact tNode_l _ _
theorem inpT_sm {R : List PP} (hz : AllSz R) : SmAt (inpT R) := fun t ht => by
  unfold inpT at ht
  rw [List.mem_append, List.mem_append] at ht
  rcases ht with (h | h) | h
  · obtain ⟨i, hi, rfl⟩ := List.mem_map.1 h
    have := szB_iff.1 (hz.at (List.mem_range.1 hi))
    rw [tLeaf_l]; omega
  · rw [topT_sm _ _ _ t h]; omega
  · rw [List.mem_singleton] at h
    rw [h, tRoot_l]; omega
theorem shwT_sm {c : Int} {K : List PLeaf} (hl : lightL K = true) : SmAt (shwT c K) := fun t ht => by
  unfold shwT at ht
  rw [List.mem_append] at ht
  rcases ht with h | h
  · rw [List.mem_singleton] at h
    rw [h, tRoot_l]; omega
  · split at h
    · obtain ⟨x, hx, h⟩ := List.mem_flatMap.1 h
      have hxs : x.k.length ≤ 400 ∧ x.v.length ≤ 400 := by
        unfold lightL at hl
        rw [Bool.and_eq_true, List.all_eq_true] at hl
        obtain ⟨i, hi, rfl⟩ := List.getElem_of_mem hx
        have hA := lightAt_iff.1 (hl.2 i (List.mem_range.2 hi))
        have e : K.getD i .none = K[i] := by simp [List.getD, hi]
        unfold lK lV at hA
        rw [e] at hA
        exact ⟨hA.1, hA.2.1⟩
      unfold leafT at h
      rw [List.mem_append, List.mem_append] at h
      rcases h with (h | h) | h
      · rw [List.mem_singleton] at h
        rw [h, tLeaf_l]; omega
      · rw [wayT_sm _ _ _ _ _ t h]; omega
      · rw [List.mem_singleton] at h
        rw [h, tRoot_l]; omega
    · simp at h
theorem stL_cat (A B : List (List UInt8)) : stL (A.length + B.length) (catG A.length (stG A) (stG B)) = A ++ B := by
  rw [show catG A.length (stG A) (stG B) = stG (A ++ B) from funext fun i => stG_cat A B i, ← List.length_append]
  exact stL_st _
theorem cl_cat {A B : List (List UInt8)} (hA : SmAt A) (hB : SmAt B) (hn : A.length + B.length ≤ 1000000) : clPre 9 1 (A.length + B.length) (catG A.length (stG A) (stG B)) := by
  refine ⟨rfl, rfl, fun i _ => by rw [stL_cat]; exact stG_cat A B i, ?_, hn⟩
  rw [stL_cat]
  intro t ht
  rcases List.mem_append.1 ht with h | h
  · exact hA t h
  · exact hB t h
theorem inpT_len (R : List PP) : (inpT R).length ≤ 2 * R.length + 1 := by
  unfold inpT
  rw [List.length_append, List.length_append, List.length_map, List.length_range]
  have := topT_len (fun i => hOf (lfG R i)) R.length 0
  simp only [List.length_cons, List.length_nil]
  omega
theorem shwT_len {c : Int} {K : List PLeaf} (hl : lightL K = true) : (shwT c K).length ≤ 1000 := by
  unfold shwT
  unfold lightL at hl
  rw [Bool.and_eq_true, decide_eq_true_iff, List.all_eq_true] at hl
  rw [List.length_append]
  have key : ∀ M : List PLeaf, (∀ x ∈ M, x.p.length ≤ 40) → (M.flatMap (leafT c)).length ≤ 42 * M.length := fun M => by
    induction M with
    | nil => intro _; simp
    | cons x M ih =>
      intro h
      rw [List.flatMap_cons, List.length_append, leafT_len, List.length_cons]
      have h1 := h x (by simp)
      have h2 := ih fun y hy => h y (by simp [hy])
      omega
  have h1 := key K fun x hx => by
    obtain ⟨i, hi, rfl⟩ := List.getElem_of_mem hx
    have hA := lightAt_iff.1 (hl.2 i (List.mem_range.2 hi))
    have e : K.getD i .none = K[i] := by simp [List.getD, hi]
    unfold lN lP at hA
    rw [e] at hA
    exact hA.2.2
  split
  · simp only [List.length_cons, List.length_nil]; omega
  · simp
/-- Is the pair among the first pairs? -/
def amV (L : List PP) (i : Nat) (k v : List UInt8) : Bool := (List.range i).any fun j => decide (prK L j = k) && decide (prV L j = v)
theorem amV_next {L : List PP} {i : Nat} {k v : List UInt8} : amV L (i + 1) k v = (amV L i k v || (decide (prK L i = k) && decide (prV L i = v))) := by
  unfold amV
  rw [List.range_succ, List.any_append]
  simp
theorem amV_all {L : List PP} {k : List UInt8} (hs : StS L) : amV L L.length k (getL L k) = findB L k := by
  rw [Bool.eq_iff_iff]
  unfold amV
  rw [List.any_eq_true]
  constructor
  · rintro ⟨j, hj, h⟩
    have hj := List.mem_range.1 hj
    rw [Bool.and_eq_true] at h
    have h1 := of_decide_eq_true h.1
    have := (find_at hs hj).1
    rwa [h1] at this
  · intro h
    obtain ⟨h1, h2⟩ := findB_eq h
    refine ⟨findI L k, List.mem_range.2 h1, ?_⟩
    have h3 := (find_at hs h1).2
    rw [h2] at h3
    rw [decide_eq_true h2, decide_eq_true h3.symm]
    rfl
def tbFf : Tbl where
  T :=
    (3, ⟨1, false, [.int .i64 (0)], .int .i64, 8⟩) ::
    (4, ⟨1, false, [.ff], .bool, 1⟩) ::
    (9, ⟨1, false, [.str []], .str, 16⟩) ::
    (49, ⟨1, false, [.val (.slice none 0 0)], .slice 9, 24⟩) ::
    (5, ⟨1, false, [.int .u8 (0)], .int .u8, 1⟩) ::
    (46, ⟨2, true, [.str [], .str []], .struct [(0, (1, false)), (1, (1, false))], 32⟩) ::
    (22, ⟨1, false, [.val (.slice none 0 0)], .slice 46, 24⟩) ::
    (63, ⟨2, true, [.str [], .str []], .struct [(0, (1, false)), (1, (1, false))], 32⟩) ::
    (31, ⟨1, false, [.val (.slice none 0 0)], .slice 63, 24⟩) ::
    (115, ⟨4, true, [.str [], .str [], .int .i64 (0), .val (.slice none 0 0)], .struct [(0, (1, false)), (1, (1, false)), (2, (1, false)), (3, (1, false))], 64⟩) ::
    (25, ⟨1, false, [.val (.slice none 0 0)], .slice 115, 24⟩) ::
    (27, ⟨2, true, [.int .i64 (0), .val (.slice none 0 0)], .struct [(0, (1, false)), (1, (1, false))], 32⟩) ::
    (24, ⟨32, true, [.int .u8 (0), .int .u8 (0), .int .u8 (0), .int .u8 (0), .int .u8 (0), .int .u8 (0), .int .u8 (0), .int .u8 (0), .int .u8 (0), .int .u8 (0), .int .u8 (0), .int .u8 (0), .int .u8 (0), .int .u8 (0), .int .u8 (0), .int .u8 (0), .int .u8 (0), .int .u8 (0), .int .u8 (0), .int .u8 (0), .int .u8 (0), .int .u8 (0), .int .u8 (0), .int .u8 (0), .int .u8 (0), .int .u8 (0), .int .u8 (0), .int .u8 (0), .int .u8 (0), .int .u8 (0), .int .u8 (0), .int .u8 (0)], .array 32 5, 32⟩) ::
    (113, ⟨1, false, [.val (.slice none 0 0)], .slice 24, 24⟩) ::
    []
  F :=
    (24, [0, 0, 0, 0, 0, 0, 0, 0, 0, 0, 0, 0, 0, 0, 0, 0, 0, 0, 0, 0, 0, 0, 0, 0, 0, 0, 0, 0, 0, 0, 0, 0]) ::
    []

theorem tbFf_ok : tbFf.Ok Tryd.prog where
  T :=
    TblOk.cons (by kernel_rfl) <|
    TblOk.cons (by kernel_rfl) <|
    TblOk.cons (by kernel_rfl) <|
    TblOk.cons (by kernel_rfl) <|
    TblOk.cons (by kernel_rfl) <|
    TblOk.cons (by kernel_rfl) <|
    TblOk.cons (by kernel_rfl) <|
    TblOk.cons (by kernel_rfl) <|
    TblOk.cons (by kernel_rfl) <|
    TblOk.cons (by kernel_rfl) <|
    TblOk.cons (by kernel_rfl) <|
    TblOk.cons (by kernel_rfl) <|
    TblOk.cons (by kernel_rfl) <|
    TblOk.cons (by kernel_rfl) <|
    TblOk.nil _
  F :=
    FlatsOk.cons (FlatOk.of (D := .array 32 5) 6 (by decide) (by kernel_rfl) (by kernel_rfl) rfl (by kernel_rfl)) <|
    FlatsOk.nil _

def sForged : SpecF
  | [.c (.row 1), .c (.str key), .agg [.int .i64 c, .row 2]], [.glob gg sz0 n0 get0, .elems ty one n get, .data fr ty2 sz2 m get2] => some (pfgPre gg sz0 n0 get0 ty one n get ty2 sz2 m get2, .c .tt, [.dead, .dead, .dead])
  | _, _ => none

set_option maxRecDepth 100000 in
set_option maxHeartbeats 32000000 in
theorem proofForgedP : Fn Tryd.prog 5 [0] [(46, 2), (115, 204)] sForged := by
  have hC : CtsOk Tryd.prog [(13, appFn [0] [] sFirst7), (30, appFn [] [(46, 2)] sRise), (14, appFn [] [(46, 2)] sLtPr), (15, appFn [] [(115, 204)] sLightPr), (16, appFn [] [(46, 2)] sOwn), (19, appFn [0] [(63, 2)] sPRoot), (24, appFn [0] [(115, 204)] sVal), (28, appFn [0] [(115, 204)] sLacks), (22, appFn [0] [(63, 2)] sMake), (32, appFn [] [(115, 204), (115, 204)] sSamePr), (34, appFn [] [(46, 2)] sInp), (35, appFn [] [(115, 204)] sShw), (33, appFn [] [(9, 1)] sClash)] := CtsOk.cons (Fn.ct first7P) <| CtsOk.cons (Fn.ct riseP) <| CtsOk.cons (Fn.ct ltPrP) <| CtsOk.cons (Fn.ct lightPrP) <| CtsOk.cons (Fn.ct ownPrP) <| CtsOk.cons (Fn.ct pRootP) <| CtsOk.cons (Fn.ct valPrP) <| CtsOk.cons (Fn.ct lacksPrP) <| CtsOk.cons (Fn.ct makeP) <| CtsOk.cons (Fn.ct samePrP) <| CtsOk.cons (Fn.ct inpP) <| CtsOk.cons (Fn.ct shwP) <| CtsOk.cons (Fn.ct clashP) <| CtsOk.nil _
  refine Fn.of (E := tbFf) [0] 0 [(12, [(0, true), (1, true), (2, true), (3, false), (4, false), (5, true)]), (13, [(0, true), (2, true), (1, false), (3, false), (4, false), (5, false), (6, true)])] tbFf_ok hC (by kernel_rfl) Tryd.func5 rfl rfl rfl (by kernel_rfl) (by kernel_rfl) 3 5 1 ?_ ?_
  · intro args h pre r h' hs
    unfold sForged at hs
    split at hs
    · cases hs; exact ⟨rfl, rfl, Nat.le_of_ble_eq_true rfl⟩
    · cases hs
  · intro args h pre r h' hs hp
    unfold sForged at hs
    split at hs
    rotate_left
    · cases hs
    rename_i key c gg sz0 n0 get0 ty one n get fr ty2 sz2 m get2
    cases hs
    obtain ⟨hK, ⟨rfl, rfl, hst⟩, ⟨rfl, rfl, hst2⟩, hraw⟩ := hp
    refine ⟨[.glob 0 1 64 (fun i => [.int .u32 (kOf i)]), .elems 46 2 n (prG (prL n get)), .data fr 115 4 m (leafG false (leafL m get2))], ⟨hK.same.1, ⟨rfl, rfl, rfl, fun i hi => hst.eq hi⟩, ⟨rfl, rfl, rfl, rfl, fun i j hi hj => by rw [hst2 i j hi hj]; exact Cell.le_refl _⟩, trivial⟩, ?_⟩
    clear hK
    have hL : (prL n get).length = n := prL_len
    have ePR : prL n (prG (prL n get)) = prL n get := by
      have := prL_prG (prL n get)
      rwa [hL] at this
    have hKm : (leafL m get2).length = m := leafL_len
    have eK0 : leafL m (fun i j => (leafG false (leafL m get2) i j).old) = leafL m get2 := leaves0 hst2
    generalize prL n get = L at hL ePR ⊢
    generalize leafL m get2 = K at hKm hraw eK0 ⊢
    unfold sFirst7 sRise sLtPr sLightPr sOwn sPRoot sMake sVal sLacks sSamePr sInp sShw sClash
    generalize hg0 : (List.length : List PP → Nat) = g0
    generalize hg1 : (List.length : List UInt8 → Nat) = g1
    generalize hL : lft Tryd.prog _ = L
    try unfold prG
    try unfold leafG
    generalize ho0 : @prK = zo0, ho1 : @prV = zo1, ho2 : @prL = zo2, ho3 : @ltB = zo3, ho4 : @findB = zo4, ho5 : @szB = zo5, ho6 : @getL = zo6, ho7 : @prPre = zo7, ho8 : @goodL = zo8, ho9 : @prPreR = zo9, ho10 : @riseL = zo10, ho11 : @KsAt = zo11, ho12 : @hOf = zo12, ho13 : @kOf = zo13, ho14 : @rootL = zo14, ho15 : @sumsPre = zo15, ho16 : @lK = zo16, ho17 : @lV = zo17, ho18 : @lI = zo18, ho19 : @lP = zo19, ho20 : @lN = zo20, ho21 : @pG = zo21, ho22 : @leafL = zo22, ho23 : @leavesPre = zo23, ho24 : @lightL = zo24, ho25 : @leavesAt0 = zo25, ho26 : @mkL = zo26, ho27 : @mkC = zo27, ho28 : @mkPre = zo28, ho29 : @lenL = zo29, ho30 : @valB = zo30, ho31 : @valV = zo31, ho32 : @lackB = zo32, ho33 : @vlPre = zo33, ho34 : @ltPrB = zo34, ho35 : @ltPre = zo35, ho36 : @stL = zo36, ho37 : @clPre = zo37, ho38 : @clashB = zo38, ho39 : @inpPre = zo39, ho40 : @inpN = zo40, ho41 : @inpT = zo41, ho42 : @shwN = zo42, ho43 : @shwT = zo43, ho44 : @shwPre = zo44, ho45 : @stG = zo45, ho46 : @amV = zo46, ho47 : @pfgPre = zo47
    generalize hA : Arith.std = A
    cbv
    subst hA hg0 hg1 hL ho0 ho1 ho2 ho3 ho4 ho5 ho6 ho7 ho8 ho9 ho10 ho11 ho12 ho13 ho14 ho15 ho16 ho17 ho18 ho19 ho20 ho21 ho22 ho23 ho24 ho25 ho26 ho27 ho28 ho29 ho30 ho31 ho32 ho33 ho34 ho35 ho36 ho37 ho38 ho39 ho40 ho41 ho42 ho43 ho44 ho45 ho46 ho47
    have hmn : ((min (n : Int) 20) - 0).toNat ≤ 20 := by omega
    refine Need.mk ksAt_self fun _ => Need.mk (by show (0 : Int) ≤ 0 ∧ (0 : Int) ≤ min (n : Int) 20 ∧ min (n : Int) 20 ≤ (n : Int); omega) fun _ => ?_
    refine Need.mk ⟨rfl, rfl, fun i hi => ⟨_, _, rfl⟩, (by show ((min (n : Int) 20) - 0).toNat ≤ 1000000; omega)⟩ fun _ => ?_
    simp only [Arith.std, Int.ofNat_eq_natCast, Int.toNat_natCast, prL_prG, eK0]
    generalize hR : riseL (prL _ _) = R
    have hRs : StS R := hR ▸ rise_s
    have hRz : AllSz R := hR ▸ rise_sz
    obtain ⟨N, hN⟩ : ∃ N, R.length = N := ⟨_, rfl⟩
    have hg : goodL R = true := goodL_iff.2 ⟨hRs, hRz⟩
    refine Need.mk ⟨rfl, rfl, prAt_prG _ R⟩ fun _ => ?_
    refine Ife.mk (fun h => ?_) (fun h => ?_)
    · refine Need.mk ksAt_self fun _ => ?_
      exact ⟨[0, 1, 2], ⟨rfl, (by repeat' (first | exact trivial | exact hR1 | exact hR2 | exact hR3 | exact hR4 | exact hA1 | exact hA2 | exact hB1 | exact hB2 | exact rfl | apply And.intro | exact (fun _ _ _ _ => Cell.le_refl _) | (intro i hi; rfl) | (intro i hi; exact absurd hi (Nat.not_lt_zero _)))), (by show List.Nodup []; exact List.nodup_nil), rfl, by repeat' (first | exact trivial | exact hR1 | exact hR2 | exact hR3 | exact hR4 | exact hA1 | exact hA2 | exact hB1 | exact hB2 | exact rfl | apply And.intro | exact (fun _ _ _ _ => Cell.le_refl _) | (intro i hi; rfl) | (intro i hi; exact absurd hi (Nat.not_lt_zero _)))⟩⟩
    have hlt : ltPrB R = true := by simpa using h
    clear h
    obtain ⟨hR40, _⟩ := ltPrB_iff.1 hlt
    refine Need.mk (leavesAt0_of eK0) fun _ => ?_
    refine Ife.mk (fun h => ?_) (fun h => ?_)
    · refine Need.mk ksAt_self fun _ => ?_
      exact ⟨[0, 1, 2], ⟨rfl, (by repeat' (first | exact trivial | exact hR1 | exact hR2 | exact hR3 | exact hR4 | exact hA1 | exact hA2 | exact hB1 | exact hB2 | exact rfl | apply And.intro | exact (fun _ _ _ _ => Cell.le_refl _) | (intro i hi; rfl) | (intro i hi; exact absurd hi (Nat.not_lt_zero _)))), (by show List.Nodup []; exact List.nodup_nil), rfl, by repeat' (first | exact trivial | exact hR1 | exact hR2 | exact hR3 | exact hR4 | exact hA1 | exact hA2 | exact hB1 | exact hB2 | exact rfl | apply And.intro | exact (fun _ _ _ _ => Cell.le_refl _) | (intro i hi; rfl) | (intro i hi; exact absurd hi (Nat.not_lt_zero _)))⟩⟩
    have hlp : lightL K = true := by simpa using h
    clear h
    obtain ⟨hK5, hKok⟩ := light_ok hlp hraw
    have hPR : prPre 63 2 R.length (prG R) := ⟨rfl, rfl, prAt_prG _ R, by omega⟩
    have hPRR : prPreR 46 2 R.length (prG R) := ⟨rfl, rfl, prAt_prG _ R, by omega⟩
    have hPRN : prPre 63 2 N (prG R) := ⟨rfl, rfl, prAt_prG _ R, by omega⟩
    refine Ife.mk (fun h => ?_) (fun c1 => ?_)
    · refine Need.mk ksAt_self fun _ => ?_
      exact ⟨[0, 1, 2], ⟨rfl, (by repeat' (first | exact trivial | exact hR1 | exact hR2 | exact hR3 | exact hR4 | exact hA1 | exact hA2 | exact hB1 | exact hB2 | exact rfl | apply And.intro | exact (fun _ _ _ _ => Cell.le_refl _) | (intro i hi; rfl) | (intro i hi; exact absurd hi (Nat.not_lt_zero _)))), (by show List.Nodup []; exact List.nodup_nil), rfl, by repeat' (first | exact trivial | exact hR1 | exact hR2 | exact hR3 | exact hR4 | exact hA1 | exact hA2 | exact hB1 | exact hB2 | exact rfl | apply And.intro | exact (fun _ _ _ _ => Cell.le_refl _) | (intro i hi; rfl) | (intro i hi; exact absurd hi (Nat.not_lt_zero _)))⟩⟩
    refine Ife.mk (fun h => ?_) (fun c2 => ?_)
    · refine Need.mk ksAt_self fun _ => ?_
      exact ⟨[0, 1, 2], ⟨rfl, (by repeat' (first | exact trivial | exact hR1 | exact hR2 | exact hR3 | exact hR4 | exact hA1 | exact hA2 | exact hB1 | exact hB2 | exact rfl | apply And.intro | exact (fun _ _ _ _ => Cell.le_refl _) | (intro i hi; rfl) | (intro i hi; exact absurd hi (Nat.not_lt_zero _)))), (by show List.Nodup []; exact List.nodup_nil), rfl, by repeat' (first | exact trivial | exact hR1 | exact hR2 | exact hR3 | exact hR4 | exact hA1 | exact hA2 | exact hB1 | exact hB2 | exact rfl | apply And.intro | exact (fun _ _ _ _ => Cell.le_refl _) | (intro i hi; rfl) | (intro i hi; exact absurd hi (Nat.not_lt_zero _)))⟩⟩
    refine Need.mk hPRR fun _ => Need.mk ⟨ksAt_self, hPR, by rw [prL_prG]; exact hRz⟩ fun _ => ?_
    have q : leavesPre 115 4 m (fun i j => (leafG false K i j).old) := by rw [← hKm]; exact leavesPre_old hKok (by omega)
    have hok : ∀ x ∈ mkL R key, x.ok := mkL_ok (by omega)
    have hkl := mkL_len (L := R) (k := key)
    have eD : leafL (lenL (mkL R key)) (fun i j => (leafG true (mkL R key) i j).old) = mkL R key := leaves_old hok
    have qm : leavesPre 115 4 (lenL (mkL R key)) (fun i j => (leafG true (mkL R key) i j).old) := leavesPre_old hok (by omega)
    have hPv : vlPre 0 1 64 (fun i => [.int .u32 (kOf i)]) (hashC (rootL R)) 115 4 m (fun i j => (leafG false K i j).old) := ⟨ksAt_self, ⟨rootL R, rfl, rootL_range R⟩, q⟩
    have hPvN := hPv
    have hvb : valB (hOf (hashC (rootL R))) c K key = valB (rootL R) c K key := valB_hash
    have hlb : lackB (hOf (hashC (rootL R))) c K key = lackB (rootL R) c K key := lackB_hash
    refine Need.mk hPv fun _ => Need.mk hPv fun _ => ?_
    obtain ⟨v1, v2, v3⟩ := val_own (k := key) hRs hRz hR40
    unfold hashC at hvb hlb v1 v2 v3
    simp only [eD]
    refine Ife.mk (fun h => ?_) (fun h => ?_)
    · refine Ife.mk (fun h2 => ?_) (fun h2 => ?_)
      · refine Need.mk ksAt_self fun _ => ?_
        exact ⟨[0, 1, 2], ⟨rfl, (by repeat' (first | exact trivial | exact hR1 | exact hR2 | exact hR3 | exact hR4 | exact hA1 | exact hA2 | exact hB1 | exact hB2 | exact rfl | apply And.intro | exact (fun _ _ _ _ => Cell.le_refl _) | (intro i hi; rfl) | (intro i hi; exact absurd hi (Nat.not_lt_zero _)))), (by show List.Nodup []; exact List.nodup_nil), rfl, by repeat' (first | exact trivial | exact hR1 | exact hR2 | exact hR3 | exact hR4 | exact hA1 | exact hA2 | exact hB1 | exact hB2 | exact rfl | apply And.intro | exact (fun _ _ _ _ => Cell.le_refl _) | (intro i hi; rfl) | (intro i hi; exact absurd hi (Nat.not_lt_zero _)))⟩⟩
      have h2 : lackB (rootL R) c K key = true := by rw [← hlb]; simpa using h2
      have hv : valB (rootL R) c K key = true ∨ lackB (rootL R) c K key = true := Or.inr h2
      clear h
      refine Need.mk ⟨ksAt_self, hPR⟩ fun _ => Need.mk ⟨q, qm⟩ fun _ => ?_
      refine Ife.mk (fun h5 => ?_) (fun h5 => ?_)
      · have hne : ¬ (c = mkC R ∧ K = mkL R key) := fun ⟨e1, e2⟩ => by
          have h6 : (!(decide (c = mkC R) && decide (K = mkL R key))) = true := h5
          rw [decide_eq_true e1, decide_eq_true e2] at h6
          cases h6
        have hcl := forged_clash hRs hRz (by omega) hraw hv hne
        have l1 := inpT_len R
        have l2 := shwT_len (c := c) hlp
        have i1 : (inpT R).length = inpN R := rfl
        have i2 : (shwT c K).length = shwN c K := rfl
        have hML : maxLen = 9223372036854775807 := rfl
        have hPQ := natM (inpN R) (shwN c K)
        refine Need.mk ⟨hPRR, by rw [prL_prG]; exact hRz, by omega⟩ fun _ => Need.mk q fun _ => Need.mk ⟨⟨by omega, by omega⟩, fun _ _ => rfl⟩ fun _ => ?_
        have hp1 : clPre 9 1 (match (generalizing := false) inpN R, shwN c K with
            | a, Nat.zero => a
            | a, Nat.succ b => Nat.succ (Nat.add a b)) (catG (inpN R) (stG (inpT R)) (stG (shwT c K))) := by
          refine cast (congrArg (fun x => clPre 9 1 x (catG (inpN R) (stG (inpT R)) (stG (shwT c K)))) hPQ.symm) ?_
          exact cl_cat (inpT_sm hRz) (shwT_sm hlp) (by omega)
        have hp2 : clashB (stL (match (generalizing := false) inpN R, shwN c K with
            | a, Nat.zero => a
            | a, Nat.succ b => Nat.succ (Nat.add a b)) (catG (inpN R) (stG (inpT R)) (stG (shwT c K)))) = true := by
          refine (congrArg (fun x => clashB (stL x (catG (inpN R) (stG (inpT R)) (stG (shwT c K))))) hPQ).trans ?_
          show clashB (stL ((inpT R).length + (shwT c K).length) (catG (inpT R).length (stG (inpT R)) (stG (shwT c K)))) = true
          rw [stL_cat]
          exact hcl
        refine Need.mk hp1 fun _ => ?_
        exact ⟨[0, 1, 2], ⟨rfl, (by repeat' (first | exact trivial | exact hp2 | exact rfl | apply And.intro)), (by show List.Nodup []; exact List.nodup_nil), rfl, by repeat' (first | exact trivial | exact hR1 | exact hR2 | exact hR3 | exact hR4 | exact hA1 | exact hA2 | exact hB1 | exact hB2 | exact rfl | apply And.intro | exact (fun _ _ _ _ => Cell.le_refl _) | (intro i hi; rfl) | (intro i hi; exact absurd hi (Nat.not_lt_zero _)))⟩⟩
      have h6 : (!(decide (c = mkC R) && decide (K = mkL R key))) = false := h5
      have h7 : c = mkC R ∧ K = mkL R key := by simpa using h6
      obtain ⟨rfl, rfl⟩ := h7
      clear h5 h6
      simp only [v1, v2, v3]
      have hA2 : R.length = N := hN
      have eN : prL N (prG R) = R := by rw [← hN]; exact prL_prG R
      show Runs Tryd.prog 3 (.loop _) _ _
      refine loop_ruleR (N := env (lft Tryd.prog 3) 0 .std tbFf [(13, appFn [0] [] sFirst7), (30, appFn [] [(46, 2)] sRise), (14, appFn [] [(46, 2)] sLtPr), (15, appFn [] [(115, 204)] sLightPr), (16, appFn [] [(46, 2)] sOwn), (19, appFn [0] [(63, 2)] sPRoot), (24, appFn [0] [(115, 204)] sVal), (28, appFn [0] [(115, 204)] sLacks), (22, appFn [0] [(63, 2)] sMake), (32, appFn [] [(115, 204), (115, 204)] sSamePr), (34, appFn [] [(46, 2)] sInp), (35, appFn [] [(115, 204)] sShw), (33, appFn [] [(9, 1)] sClash)] [(12, [(0, true), (1, true), (2, true), (3, false), (4, false), (5, true)]), (13, [(0, true), (2, true), (1, false), (3, false), (4, false), (5, false), (6, true)])]) rfl tbFf_ok hC (fun c st K _ h => h) (by kernel_rfl) [0] (X := LSh R key N)
        (S := fun x => ⟨[.c (.row 3), .c (.str key), .any, .any, .any, .any, .any, .any, .any, .c (.str (getL R key)), .c (.bool (findB R key)), .c (.bool (!findB R key)), .c (.bool (amV R x.i key (getL R key))), .c (.int .i64 (x.i : Int))] ++ List.replicate 99 .any, [.glob 0 1 64 (fun i => [.int .u32 (kOf i)]), .elems 46 2 n (prG L), .data fr 115 4 m (leafG false (mkL R key)), .row 46 2 N (prG R)]⟩) (μ := fun x => N - x.i) ⟨0, Nat.zero_le _⟩ (by kernel_rfl) [0, 1, 2, 5] ?h0 ?rd
      case h0 =>
        refine ⟨rfl, by decide, ?_, ?_⟩ <;> repeat' (first | exact trivial | exact hR1 | exact hR2 | exact hR3 | exact hR4 | exact hA1 | exact hA2 | exact hB1 | exact hB2 | exact rfl | apply And.intro | exact (fun _ _ _ _ => Cell.le_refl _) | (intro i hi; rfl) | (intro i hi; exact absurd hi (Nat.not_lt_zero _)))
      case rd =>
        rintro ⟨i, hi⟩
        unfold sFirst7 sRise sLtPr sLightPr sOwn sPRoot sMake sVal sLacks sSamePr sInp sShw sClash
        generalize hg0 : (List.length : List PP → Nat) = g0
        generalize hg1 : (List.length : List UInt8 → Nat) = g1
        generalize hL : lft Tryd.prog _ = L
        try dsimp only
        try unfold prG
        try unfold leafG
        generalize ho0 : @prK = zo0, ho1 : @prV = zo1, ho2 : @prL = zo2, ho3 : @ltB = zo3, ho4 : @findB = zo4, ho5 : @szB = zo5, ho6 : @getL = zo6, ho7 : @prPre = zo7, ho8 : @goodL = zo8, ho9 : @prPreR = zo9, ho10 : @riseL = zo10, ho11 : @KsAt = zo11, ho12 : @hOf = zo12, ho13 : @kOf = zo13, ho14 : @rootL = zo14, ho15 : @sumsPre = zo15, ho16 : @lK = zo16, ho17 : @lV = zo17, ho18 : @lI = zo18, ho19 : @lP = zo19, ho20 : @lN = zo20, ho21 : @pG = zo21, ho22 : @leafL = zo22, ho23 : @leavesPre = zo23, ho24 : @lightL = zo24, ho25 : @leavesAt0 = zo25, ho26 : @mkL = zo26, ho27 : @mkC = zo27, ho28 : @mkPre = zo28, ho29 : @lenL = zo29, ho30 : @valB = zo30, ho31 : @valV = zo31, ho32 : @lackB = zo32, ho33 : @vlPre = zo33, ho34 : @ltPrB = zo34, ho35 : @ltPre = zo35, ho36 : @stL = zo36, ho37 : @clPre = zo37, ho38 : @clashB = zo38, ho39 : @inpPre = zo39, ho40 : @inpN = zo40, ho41 : @inpT = zo41, ho42 : @shwN = zo42, ho43 : @shwT = zo43, ho44 : @shwPre = zo44, ho45 : @stG = zo45, ho46 : @amV = zo46, ho47 : @pfgPre = zo47
        generalize hA : Arith.std = A
        cbv
        subst hA hg0 hg1 hL ho0 ho1 ho2 ho3 ho4 ho5 ho6 ho7 ho8 ho9 ho10 ho11 ho12 ho13 ho14 ho15 ho16 ho17 ho18 ho19 ho20 ho21 ho22 ho23 ho24 ho25 ho26 ho27 ho28 ho29 ho30 ho31 ho32 ho33 ho34 ho35 ho36 ho37 ho38 ho39 ho40 ho41 ho42 ho43 ho44 ho45 ho46 ho47
        simp only [Arith.std, Int.ofNat_eq_natCast, Int.toNat_natCast]
        refine Ife.mk (fun h => ?_) (fun h => ?_)
        · have h : (i : Int) < (N : Int) := of_decide_eq_true (p := (i : Int) < (N : Int)) h
          have hiN : i < N := Int.ofNat_lt.mp h
          have q1 : 0 ≤ (i : Int) ∧ (i : Int) < (N : Int) := by omega
          have q2 : i < N := hiN
          obtain ⟨fa, ga⟩ := find_at hRs (i := i) (by omega)
          have fl : fitStd .i64 ((i : Int) + 1) := by unfold fitStd; omega
          have hn1 := amV_next (L := R) (i := i) (k := key) (v := getL R key)
          refine Ife.mk (fun h2 => ?_) (fun h2 => ?_)
          · have h2 : amV R i key (getL R key) = true := h2
            rw [h2, Bool.true_or] at hn1
            have hB1 : amV R (i + 1) key (getL R key) = true := hn1
            have hB2 : true = amV R (i + 1) key (getL R key) := hn1.symm
            refine Need.mk q1 fun _ => Need.mk q2 fun _ => ?_
            refine Ife.mk (fun h4 => ?_) (fun h4 => ?_)
            · have h4 : decide (prK R i = key) = true := h4
              refine Ife.mk (fun h5 => ?_) (fun _ => ?_)
              · have h5 : (!findB R key) = true := h5
                have e := fa
                rw [of_decide_eq_true h4] at e
                rw [e] at h5
                cases h5
              · refine Need.mk fl fun _ => ?_
                refine ⟨⟨i + 1, by omega⟩, [0, 1, 2, 3], (by show N - (i + 1) < N - i; omega), ?_⟩
                refine ⟨rfl, (by show List.Nodup [0, 1, 2, 3]; decide), ?_, ?_⟩ <;> repeat' (first | exact trivial | exact hR1 | exact hR2 | exact hR3 | exact hR4 | exact hA1 | exact hA2 | exact hB1 | exact hB2 | exact rfl | apply And.intro | exact (fun _ _ _ _ => Cell.le_refl _) | (intro i hi; rfl) | (intro i hi; exact absurd hi (Nat.not_lt_zero _)))
            · refine Need.mk fl fun _ => ?_
              refine ⟨⟨i + 1, by omega⟩, [0, 1, 2, 3], (by show N - (i + 1) < N - i; omega), ?_⟩
              refine ⟨rfl, (by show List.Nodup [0, 1, 2, 3]; decide), ?_, ?_⟩ <;> repeat' (first | exact trivial | exact hR1 | exact hR2 | exact hR3 | exact hR4 | exact hA1 | exact hA2 | exact hB1 | exact hB2 | exact rfl | apply And.intro | exact (fun _ _ _ _ => Cell.le_refl _) | (intro i hi; rfl) | (intro i hi; exact absurd hi (Nat.not_lt_zero _)))
          · have h2 : amV R i key (getL R key) = false := h2
            refine Need.mk q1 fun _ => Need.mk q2 fun _ => ?_
            refine Ife.mk (fun h3 => ?_) (fun h3 => ?_)
            · have h3 : decide (prK R i = key) = true := h3
              rw [h2, h3, Bool.false_or, Bool.true_and] at hn1
              have hB1 : decide (prV R i = getL R key) = amV R (i + 1) key (getL R key) := hn1.symm
              refine Need.mk q1 fun _ => Need.mk q2 fun _ => ?_
              refine Need.mk q1 fun _ => Need.mk q2 fun _ => ?_
              refine Ife.mk (fun h4 => ?_) (fun h4 => ?_)
              · have h4 : decide (prK R i = key) = true := h4
                refine Ife.mk (fun h5 => ?_) (fun _ => ?_)
                · have h5 : (!findB R key) = true := h5
                  have e := fa
                  rw [of_decide_eq_true h4] at e
                  rw [e] at h5
                  cases h5
                · refine Need.mk fl fun _ => ?_
                  refine ⟨⟨i + 1, by omega⟩, [0, 1, 2, 3], (by show N - (i + 1) < N - i; omega), ?_⟩
                  refine ⟨rfl, (by show List.Nodup [0, 1, 2, 3]; decide), ?_, ?_⟩ <;> repeat' (first | exact trivial | exact hR1 | exact hR2 | exact hR3 | exact hR4 | exact hA1 | exact hA2 | exact hB1 | exact hB2 | exact rfl | apply And.intro | exact (fun _ _ _ _ => Cell.le_refl _) | (intro i hi; rfl) | (intro i hi; exact absurd hi (Nat.not_lt_zero _)))
              · refine Need.mk fl fun _ => ?_
                refine ⟨⟨i + 1, by omega⟩, [0, 1, 2, 3], (by show N - (i + 1) < N - i; omega), ?_⟩
                refine ⟨rfl, (by show List.Nodup [0, 1, 2, 3]; decide), ?_, ?_⟩ <;> repeat' (first | exact trivial | exact hR1 | exact hR2 | exact hR3 | exact hR4 | exact hA1 | exact hA2 | exact hB1 | exact hB2 | exact rfl | apply And.intro | exact (fun _ _ _ _ => Cell.le_refl _) | (intro i hi; rfl) | (intro i hi; exact absurd hi (Nat.not_lt_zero _)))
            · have h3 : decide (prK R i = key) = false := h3
              rw [h2, h3, Bool.false_or, Bool.false_and] at hn1
              have hB1 : amV R (i + 1) key (getL R key) = false := hn1
              have hB2 : false = amV R (i + 1) key (getL R key) := hn1.symm
              refine Need.mk q1 fun _ => Need.mk q2 fun _ => ?_
              refine Ife.mk (fun h4 => ?_) (fun h4 => ?_)
              · have h4 : decide (prK R i = key) = true := h4
                refine Ife.mk (fun h5 => ?_) (fun _ => ?_)
                · have h5 : (!findB R key) = true := h5
                  have e := fa
                  rw [of_decide_eq_true h4] at e
                  rw [e] at h5
                  cases h5
                · refine Need.mk fl fun _ => ?_
                  refine ⟨⟨i + 1, by omega⟩, [0, 1, 2, 3], (by show N - (i + 1) < N - i; omega), ?_⟩
                  refine ⟨rfl, (by show List.Nodup [0, 1, 2, 3]; decide), ?_, ?_⟩ <;> repeat' (first | exact trivial | exact hR1 | exact hR2 | exact hR3 | exact hR4 | exact hA1 | exact hA2 | exact hB1 | exact hB2 | exact rfl | apply And.intro | exact (fun _ _ _ _ => Cell.le_refl _) | (intro i hi; rfl) | (intro i hi; exact absurd hi (Nat.not_lt_zero _)))
              · refine Need.mk fl fun _ => ?_
                refine ⟨⟨i + 1, by omega⟩, [0, 1, 2, 3], (by show N - (i + 1) < N - i; omega), ?_⟩
                refine ⟨rfl, (by show List.Nodup [0, 1, 2, 3]; decide), ?_, ?_⟩ <;> repeat' (first | exact trivial | exact hR1 | exact hR2 | exact hR3 | exact hR4 | exact hA1 | exact hA2 | exact hB1 | exact hB2 | exact rfl | apply And.intro | exact (fun _ _ _ _ => Cell.le_refl _) | (intro i hi; rfl) | (intro i hi; exact absurd hi (Nat.not_lt_zero _)))
        have h : ¬ (i : Int) < (N : Int) := of_decide_eq_false (p := (i : Int) < (N : Int)) h
        have ei : i = R.length := by omega
        have ham : amV R i key (getL R key) = findB R key := by rw [ei]; exact amV_all hRs
        simp only [ham]
        have hB1 : decide (findB R key = findB R key) = true := decide_eq_true rfl
        exact ⟨[0, 1, 2], ⟨rfl, (by repeat' (first | exact trivial | exact hR1 | exact hR2 | exact hR3 | exact hR4 | exact hA1 | exact hA2 | exact hB1 | exact hB2 | exact rfl | apply And.intro | exact (fun _ _ _ _ => Cell.le_refl _) | (intro i hi; rfl) | (intro i hi; exact absurd hi (Nat.not_lt_zero _)))), (by show List.Nodup []; exact List.nodup_nil), rfl, by repeat' (first | exact trivial | exact hR1 | exact hR2 | exact hR3 | exact hR4 | exact hA1 | exact hA2 | exact hB1 | exact hB2 | exact rfl | apply And.intro | exact (fun _ _ _ _ => Cell.le_refl _) | (intro i hi; rfl) | (intro i hi; exact absurd hi (Nat.not_lt_zero _)))⟩⟩
    have h : valB (rootL R) c K key = true := by rw [← hvb]; simpa using h
    have hv : valB (rootL R) c K key = true ∨ lackB (rootL R) c K key = true := Or.inl h
    clear h
    refine Need.mk ⟨ksAt_self, hPR⟩ fun _ => Need.mk ⟨q, qm⟩ fun _ => ?_
    refine Ife.mk (fun h5 => ?_) (fun h5 => ?_)
    · have hne : ¬ (c = mkC R ∧ K = mkL R key) := fun ⟨e1, e2⟩ => by
        have h6 : (!(decide (c = mkC R) && decide (K = mkL R key))) = true := h5
        rw [decide_eq_true e1, decide_eq_true e2] at h6
        cases h6
      have hcl := forged_clash hRs hRz (by omega) hraw hv hne
      have l1 := inpT_len R
      have l2 := shwT_len (c := c) hlp
      have i1 : (inpT R).length = inpN R := rfl
      have i2 : (shwT c K).length = shwN c K := rfl
      have hML : maxLen = 9223372036854775807 := rfl
      have hPQ := natM (inpN R) (shwN c K)
      refine Need.mk ⟨hPRR, by rw [prL_prG]; exact hRz, by omega⟩ fun _ => Need.mk q fun _ => Need.mk ⟨⟨by omega, by omega⟩, fun _ _ => rfl⟩ fun _ => ?_
      have hp1 : clPre 9 1 (match (generalizing := false) inpN R, shwN c K with
          | a, Nat.zero => a
          | a, Nat.succ b => Nat.succ (Nat.add a b)) (catG (inpN R) (stG (inpT R)) (stG (shwT c K))) := by
        refine cast (congrArg (fun x => clPre 9 1 x (catG (inpN R) (stG (inpT R)) (stG (shwT c K)))) hPQ.symm) ?_
        exact cl_cat (inpT_sm hRz) (shwT_sm hlp) (by omega)
      have hp2 : clashB (stL (match (generalizing := false) inpN R, shwN c K with
          | a, Nat.zero => a
          | a, Nat.succ b => Nat.succ (Nat.add a b)) (catG (inpN R) (stG (inpT R)) (stG (shwT c K)))) = true := by
        refine (congrArg (fun x => clashB (stL x (catG (inpN R) (stG (inpT R)) (stG (shwT c K))))) hPQ).trans ?_
        show clashB (stL ((inpT R).length + (shwT c K).length) (catG (inpT R).length (stG (inpT R)) (stG (shwT c K)))) = true
        rw [stL_cat]
        exact hcl
      refine Need.mk hp1 fun _ => ?_
      exact ⟨[0, 1, 2], ⟨rfl, (by repeat' (first | exact trivial | exact hp2 | exact rfl | apply And.intro)), (by show List.Nodup []; exact List.nodup_nil), rfl, by repeat' (first | exact trivial | exact hR1 | exact hR2 | exact hR3 | exact hR4 | exact hA1 | exact hA2 | exact hB1 | exact hB2 | exact rfl | apply And.intro | exact (fun _ _ _ _ => Cell.le_refl _) | (intro i hi; rfl) | (intro i hi; exact absurd hi (Nat.not_lt_zero _)))⟩⟩
    have h6 : (!(decide (c = mkC R) && decide (K = mkL R key))) = false := h5
    have h7 : c = mkC R ∧ K = mkL R key := by simpa using h6
    obtain ⟨rfl, rfl⟩ := h7
    clear h5 h6
    simp only [v1, v2, v3]
    have hA2 : R.length = N := hN
    have eN : prL N (prG R) = R := by rw [← hN]; exact prL_prG R
    show Runs Tryd.prog 3 (.loop _) _ _
    refine loop_ruleR (N := env (lft Tryd.prog 3) 0 .std tbFf [(13, appFn [0] [] sFirst7), (30, appFn [] [(46, 2)] sRise), (14, appFn [] [(46, 2)] sLtPr), (15, appFn [] [(115, 204)] sLightPr), (16, appFn [] [(46, 2)] sOwn), (19, appFn [0] [(63, 2)] sPRoot), (24, appFn [0] [(115, 204)] sVal), (28, appFn [0] [(115, 204)] sLacks), (22, appFn [0] [(63, 2)] sMake), (32, appFn [] [(115, 204), (115, 204)] sSamePr), (34, appFn [] [(46, 2)] sInp), (35, appFn [] [(115, 204)] sShw), (33, appFn [] [(9, 1)] sClash)] [(12, [(0, true), (1, true), (2, true), (3, false), (4, false), (5, true)]), (13, [(0, true), (2, true), (1, false), (3, false), (4, false), (5, false), (6, true)])]) rfl tbFf_ok hC (fun c st K _ h => h) (by kernel_rfl) [0] (X := LSh R key N)
      (S := fun x => ⟨[.c (.row 3), .c (.str key), .any, .any, .any, .any, .any, .any, .any, .c (.str (getL R key)), .c (.bool (findB R key)), .c (.bool (!findB R key)), .c (.bool (amV R x.i key (getL R key))), .c (.int .i64 (x.i : Int))] ++ List.replicate 99 .any, [.glob 0 1 64 (fun i => [.int .u32 (kOf i)]), .elems 46 2 n (prG L), .data fr 115 4 m (leafG false (mkL R key)), .row 46 2 N (prG R)]⟩) (μ := fun x => N - x.i) ⟨0, Nat.zero_le _⟩ (by kernel_rfl) [0, 1, 2, 5] ?h0 ?rd
    case h0 =>
      refine ⟨rfl, by decide, ?_, ?_⟩ <;> repeat' (first | exact trivial | exact hR1 | exact hR2 | exact hR3 | exact hR4 | exact hA1 | exact hA2 | exact hB1 | exact hB2 | exact rfl | apply And.intro | exact (fun _ _ _ _ => Cell.le_refl _) | (intro i hi; rfl) | (intro i hi; exact absurd hi (Nat.not_lt_zero _)))
    case rd =>
      rintro ⟨i, hi⟩
      unfold sFirst7 sRise sLtPr sLightPr sOwn sPRoot sMake sVal sLacks sSamePr sInp sShw sClash
      generalize hg0 : (List.length : List PP → Nat) = g0
      generalize hg1 : (List.length : List UInt8 → Nat) = g1
      generalize hL : lft Tryd.prog _ = L
      try dsimp only
      try unfold prG
      try unfold leafG
      generalize ho0 : @prK = zo0, ho1 : @prV = zo1, ho2 : @prL = zo2, ho3 : @ltB = zo3, ho4 : @findB = zo4, ho5 : @szB = zo5, ho6 : @getL = zo6, ho7 : @prPre = zo7, ho8 : @goodL = zo8, ho9 : @prPreR = zo9, ho10 : @riseL = zo10, ho11 : @KsAt = zo11, ho12 : @hOf = zo12, ho13 : @kOf = zo13, ho14 : @rootL = zo14, ho15 : @sumsPre = zo15, ho16 : @lK = zo16, ho17 : @lV = zo17, ho18 : @lI = zo18, ho19 : @lP = zo19, ho20 : @lN = zo20, ho21 : @pG = zo21, ho22 : @leafL = zo22, ho23 : @leavesPre = zo23, ho24 : @lightL = zo24, ho25 : @leavesAt0 = zo25, ho26 : @mkL = zo26, ho27 : @mkC = zo27, ho28 : @mkPre = zo28, ho29 : @lenL = zo29, ho30 : @valB = zo30, ho31 : @valV = zo31, ho32 : @lackB = zo32, ho33 : @vlPre = zo33, ho34 : @ltPrB = zo34, ho35 : @ltPre = zo35, ho36 : @stL = zo36, ho37 : @clPre = zo37, ho38 : @clashB = zo38, ho39 : @inpPre = zo39, ho40 : @inpN = zo40, ho41 : @inpT = zo41, ho42 : @shwN = zo42, ho43 : @shwT = zo43, ho44 : @shwPre = zo44, ho45 : @stG = zo45, ho46 : @amV = zo46, ho47 : @pfgPre = zo47
      generalize hA : Arith.std = A
      cbv
      subst hA hg0 hg1 hL ho0 ho1 ho2 ho3 ho4 ho5 ho6 ho7 ho8 ho9 ho10 ho11 ho12 ho13 ho14 ho15 ho16 ho17 ho18 ho19 ho20 ho21 ho22 ho23 ho24 ho25 ho26 ho27 ho28 ho29 ho30 ho31 ho32 ho33 ho34 ho35 ho36 ho37 ho38 ho39 ho40 ho41 ho42 ho43 ho44 ho45 ho46 ho47
      simp only [Arith.std, Int.ofNat_eq_natCast, Int.toNat_natCast]
      refine Ife.mk (fun h => ?_) (fun h => ?_)
      · have h : (i : Int) < (N : Int) := of_decide_eq_true (p := (i : Int) < (N : Int)) h
        have hiN : i < N := Int.ofNat_lt.mp h
        have q1 : 0 ≤ (i : Int) ∧ (i : Int) < (N : Int) := by omega
        have q2 : i < N := hiN
        obtain ⟨fa, ga⟩ := find_at hRs (i := i) (by omega)
        have fl : fitStd .i64 ((i : Int) + 1) := by unfold fitStd; omega
        have hn1 := amV_next (L := R) (i := i) (k := key) (v := getL R key)
        refine Ife.mk (fun h2 => ?_) (fun h2 => ?_)
        · have h2 : amV R i key (getL R key) = true := h2
          rw [h2, Bool.true_or] at hn1
          have hB1 : amV R (i + 1) key (getL R key) = true := hn1
          have hB2 : true = amV R (i + 1) key (getL R key) := hn1.symm
          refine Need.mk q1 fun _ => Need.mk q2 fun _ => ?_
          refine Ife.mk (fun h4 => ?_) (fun h4 => ?_)
          · have h4 : decide (prK R i = key) = true := h4
            refine Ife.mk (fun h5 => ?_) (fun _ => ?_)
            · have h5 : (!findB R key) = true := h5
              have e := fa
              rw [of_decide_eq_true h4] at e
              rw [e] at h5
              cases h5
            · refine Need.mk fl fun _ => ?_
              refine ⟨⟨i + 1, by omega⟩, [0, 1, 2, 3], (by show N - (i + 1) < N - i; omega), ?_⟩
              refine ⟨rfl, (by show List.Nodup [0, 1, 2, 3]; decide), ?_, ?_⟩ <;> repeat' (first | exact trivial | exact hR1 | exact hR2 | exact hR3 | exact hR4 | exact hA1 | exact hA2 | exact hB1 | exact hB2 | exact rfl | apply And.intro | exact (fun _ _ _ _ => Cell.le_refl _) | (intro i hi; rfl) | (intro i hi; exact absurd hi (Nat.not_lt_zero _)))
          · refine Need.mk fl fun _ => ?_
            refine ⟨⟨i + 1, by omega⟩, [0, 1, 2, 3], (by show N - (i + 1) < N - i; omega), ?_⟩
            refine ⟨rfl, (by show List.Nodup [0, 1, 2, 3]; decide), ?_, ?_⟩ <;> repeat' (first | exact trivial | exact hR1 | exact hR2 | exact hR3 | exact hR4 | exact hA1 | exact hA2 | exact hB1 | exact hB2 | exact rfl | apply And.intro | exact (fun _ _ _ _ => Cell.le_refl _) | (intro i hi; rfl) | (intro i hi; exact absurd hi (Nat.not_lt_zero _)))
        · have h2 : amV R i key (getL R key) = false := h2
          refine Need.mk q1 fun _ => Need.mk q2 fun _ => ?_
          refine Ife.mk (fun h3 => ?_) (fun h3 => ?_)
          · have h3 : decide (prK R i = key) = true := h3
            rw [h2, h3, Bool.false_or, Bool.true_and] at hn1
            have hB1 : decide (prV R i = getL R key) = amV R (i + 1) key (getL R key) := hn1.symm
            refine Need.mk q1 fun _ => Need.mk q2 fun _ => ?_
            refine Need.mk q1 fun _ => Need.mk q2 fun _ => ?_
            refine Ife.mk (fun h4 => ?_) (fun h4 => ?_)
            · have h4 : decide (prK R i = key) = true := h4
              refine Ife.mk (fun h5 => ?_) (fun _ => ?_)
              · have h5 : (!findB R key) = true := h5
                have e := fa
                rw [of_decide_eq_true h4] at e
                rw [e] at h5
                cases h5
              · refine Need.mk fl fun _ => ?_
                refine ⟨⟨i + 1, by omega⟩, [0, 1, 2, 3], (by show N - (i + 1) < N - i; omega), ?_⟩
                refine ⟨rfl, (by show List.Nodup [0, 1, 2, 3]; decide), ?_, ?_⟩ <;> repeat' (first | exact trivial | exact hR1 | exact hR2 | exact hR3 | exact hR4 | exact hA1 | exact hA2 | exact hB1 | exact hB2 | exact rfl | apply And.intro | exact (fun _ _ _ _ => Cell.le_refl _) | (intro i hi; rfl) | (intro i hi; exact absurd hi (Nat.not_lt_zero _)))
            · refine Need.mk fl fun _ => ?_
              refine ⟨⟨i + 1, by omega⟩, [0, 1, 2, 3], (by show N - (i + 1) < N - i; omega), ?_⟩
              refine ⟨rfl, (by show List.Nodup [0, 1, 2, 3]; decide), ?_, ?_⟩ <;> repeat' (first | exact trivial | exact hR1 | exact hR2 | exact hR3 | exact hR4 | exact hA1 | exact hA2 | exact hB1 | exact hB2 | exact rfl | apply And.intro | exact (fun _ _ _ _ => Cell.le_refl _) | (intro i hi; rfl) | (intro i hi; exact absurd hi (Nat.not_lt_zero _)))
          · have h3 : decide (prK R i = key) = false := h3
            rw [h2, h3, Bool.false_or, Bool.false_and] at hn1
            have hB1 : amV R (i + 1) key (getL R key) = false := hn1
            have hB2 : false = amV R (i + 1) key (getL R key) := hn1.symm
            refine Need.mk q1 fun _ => Need.mk q2 fun _ => ?_
            refine Ife.mk (fun h4 => ?_) (fun h4 => ?_)
            · have h4 : decide (prK R i = key) = true := h4
              refine Ife.mk (fun h5 => ?_) (fun _ => ?_)
              · have h5 : (!findB R key) = true := h5
                have e := fa
                rw [of_decide_eq_true h4] at e
                rw [e] at h5
                cases h5
              · refine Need.mk fl fun _ => ?_
                refine ⟨⟨i + 1, by omega⟩, [0, 1, 2, 3], (by show N - (i + 1) < N - i; omega), ?_⟩
                refine ⟨rfl, (by show List.Nodup [0, 1, 2, 3]; decide), ?_, ?_⟩ <;> repeat' (first | exact trivial | exact hR1 | exact hR2 | exact hR3 | exact hR4 | exact hA1 | exact hA2 | exact hB1 | exact hB2 | exact rfl | apply And.intro | exact (fun _ _ _ _ => Cell.le_refl _) | (intro i hi; rfl) | (intro i hi; exact absurd hi (Nat.not_lt_zero _)))
            · refine Need.mk fl fun _ => ?_
              refine ⟨⟨i + 1, by omega⟩, [0, 1, 2, 3], (by show N - (i + 1) < N - i; omega), ?_⟩
              refine ⟨rfl, (by show List.Nodup [0, 1, 2, 3]; decide), ?_, ?_⟩ <;> repeat' (first | exact trivial | exact hR1 | exact hR2 | exact hR3 | exact hR4 | exact hA1 | exact hA2 | exact hB1 | exact hB2 | exact rfl | apply And.intro | exact (fun _ _ _ _ => Cell.le_refl _) | (intro i hi; rfl) | (intro i hi; exact absurd hi (Nat.not_lt_zero _)))
      have h : ¬ (i : Int) < (N : Int) := of_decide_eq_false (p := (i : Int) < (N : Int)) h
      have ei : i = R.length := by omega
      have ham : amV R i key (getL R key) = findB R key := by rw [ei]; exact amV_all hRs
      simp only [ham]
      have hB1 : decide (findB R key = findB R key) = true := decide_eq_true rfl
      exact ⟨[0, 1, 2], ⟨rfl, (by repeat' (first | exact trivial | exact hR1 | exact hR2 | exact hR3 | exact hR4 | exact hA1 | exact hA2 | exact hB1 | exact hB2 | exact rfl | apply And.intro | exact (fun _ _ _ _ => Cell.le_refl _) | (intro i hi; rfl) | (intro i hi; exact absurd hi (Nat.not_lt_zero _)))), (by show List.Nodup []; exact List.nodup_nil), rfl, by repeat' (first | exact trivial | exact hR1 | exact hR2 | exact hR3 | exact hR4 | exact hA1 | exact hA2 | exact hB1 | exact hB2 | exact rfl | apply And.intro | exact (fun _ _ _ _ => Cell.le_refl _) | (intro i hi; rfl) | (intro i hi; exact absurd hi (Nat.not_lt_zero _)))⟩⟩

end Go.Proofs.YthomoliklfmnkaaDoor.Vx
end

section
/- A proof that comes in, opened; the walk of ProofTells. -/
namespace Go.Proofs.YthomoliklfmnkaaDoor.Vx
open Sha
set_option linter.unusedVariables false
set_option linter.unusedSimpArgs false
theorem leafOf_eq0 {fr : Bool} {l : List PLeaf} {i : Nat} (hi : i < l.length) (hok : ∀ x ∈ l, ∀ h ∈ x.p, h.length = 32) : leafOf (leafG fr l i) = l[i] := by
  have e : l.getD i .none = l[i] := by simp [List.getD, hi]
  have hx := hok l[i] (List.getElem_mem hi)
  have ep : cHs (leafG fr l i 3) = l[i].p := by
    show (List.range (lN l i)).map (fun j => (pG (lP l i) j).map vInt) = _
    unfold lN lP
    rw [e]
    apply List.ext_getElem?
    intro j
    rw [List.getElem?_map]
    by_cases hj : j < l[i].p.length
    · rw [List.getElem?_range hj, List.getElem?_eq_getElem hj, Option.map_some]
      congr 1
      unfold pG
      rw [show l[i].p.getD j [] = l[i].p[j] by simp [List.getD, hj]]
      exact pG_vInt (hx _ (List.getElem_mem hj))
    · rw [List.getElem?_eq_none (by simp; omega), List.getElem?_eq_none (by omega)]; rfl
  unfold leafOf
  rw [ep]
  show PLeaf.mk (lK l i) (lV l i) (lI l i) _ = _
  unfold lK lV lI
  rw [e]
theorem leafL_eq0 {n : Nat} {get : Nat → Nat → Cell} {fr : Bool} {l : List PLeaf} (hn : l.length = n) (hok : ∀ x ∈ l, ∀ h ∈ x.p, h.length = 32) (h : ∀ i j, i < n → j < 4 → get i j = leafG fr l i j) : leafL n get = l := by
  apply List.ext_getElem (by simp [leafL, hn])
  intro i h1 h2
  have : leafOf (get i) = leafOf (leafG fr l i) := by
    unfold leafOf
    rw [h i 0 (by omega) (by omega), h i 1 (by omega) (by omega), h i 2 (by omega) (by omega), h i 3 (by omega) (by omega)]
  simp only [leafL, List.getElem_map, List.getElem_range, this]
  exact leafOf_eq0 h2 hok
theorem leaves_den {w : World} {L : List PLeaf} {v : Value} {ρ : List Pl} {k : Nat} {q : Pl} (hs : (Cell.ns false 115 4 L.length (leafG false L)).shows w (fun _ b => b < w.heap.size) v) (hq : q.v = v) (hk : ρ[k]? = some q := by rfl) : CV.den ρ (.row k) = some v := by
  obtain ⟨a, cap, h1, -⟩ := hs
  simp only [CV.den, hk]
  rw [hq, h1]
  rfl
theorem leafL_in {L : List PLeaf} (h : RawP L) : leafL L.length (leafG false L) = L := leafL_eq0 (fr := false) rfl (fun x hx y hy => (h x hx y hy).1) fun _ _ _ _ => rfl
theorem leavesAt0_in {L : List PLeaf} (h : RawP L) : leavesAt0 115 4 L.length (leafG false L) := ⟨rfl, rfl, fun i j _ _ => by rw [leafL_in h]⟩
end Go.Proofs.YthomoliklfmnkaaDoor.Vx
namespace Go.Proofs.YthomoliklfmnkaaDoor
open Go.ChangeShapes Go.WideShapes Go.ChangeAt Go.RowKit
set_option linter.unusedVariables false
set_option maxRecDepth 100000
/-- A proof that comes in: its leaves as data. -/
structure PfIn (w : World) (l : List Value) (c : Int) (L : List Vx.PLeaf) where
  v : Value
  cells : l = [.int .i64 c, v]
  sh : (Vx.Cell.ns false 115 4 L.length (Vx.leafG false L)).shows w (fun _ b => b < w.heap.size) v
  raw : Vx.RawP L
section
variable {H : Type} {enc : TypeId × Value → H} {w : World} {base : Nat}
theorem open_Pf {v : Value} {d : DataW H} {p : List MemPlace} (hv : Value.okWide Tryd.prog w .any base 27 v) (h : DataW.Trod enc Tryd.prog w 0 (fun _ => true) true 27 v d p) :
    ∃ (l : List Value) (c : Int) (L : List Vx.PLeaf), v = .agg l.toArray ∧ Nonempty (PfIn w l c L) := by
  obtain ⟨cs, rfl, hz⟩ := okWide_struct Tryd.underlying27 hv
  obtain ⟨fuel, hf⟩ := h
  obtain ⟨l, rfl⟩ : ∃ l : List Value, cs = l.toArray := ⟨cs.toList, by simp⟩
  simp only [Value.cells] at hf
  obtain ⟨c, v, L, e, h1, h2, h3⟩ := trod_Proof hf
  exact ⟨l, c, L, rfl, ⟨⟨v, e, h1, fun x hx => (h3 x hx).2.2⟩⟩⟩
end
end Go.Proofs.YthomoliklfmnkaaDoor
end

section
/- ProofForged: what a law's call answers. -/
namespace Go.Proofs.YthomoliklfmnkaaDoor
open Go.RowKit
set_option linter.unusedVariables false
theorem proofForgedWalk (w : World) (hk : ∀ i, i < 64 → w.cell? ⟨0, i, none⟩ = some (.int .u32 (Sha.kOf i))) (p : Option Addr) (cap : Nat) (ls : List Vx.PP) (hs : SlIn w p 2 cap (ls.map Vx.prVals)) (s : ByteArray) (hs2 : s.size ≤ maxLen) (l : List Value) (c : Int) (L : List Vx.PLeaf) (hm : PfIn w l c L) :
    Calls Tryd.prog 5 #[.slice p ls.length cap, .string s, .agg l.toArray] w fun e w' => e = .returned (.bool true) ∧ Below w.heap.size w w' := by
  obtain ⟨b, rfl, hl⟩ := bytesOf s hs2
  obtain ⟨q, hq, gd⟩ := prs_good hs
  rw [← hq]
  obtain ⟨q', hq', r2⟩ := Vx.Rel.addLeaves (Vx.Rel.addV (Vx.relGlob hk) 46 gd) hm.sh
  have d' : Vx.CV.den [⟨0, undef, 0⟩, q, q'] (.row 2) = some hm.v := Vx.leaves_den hm.sh hq'
  refine Calls.mono (Vx.proofForgedP.run [.c (.row 1), .c (.str b), .agg [.int .i64 c, .row 2]] [.glob 0 1 64 (fun i => [.int .u32 (Sha.kOf i)]), .elems 46 2 ls.length (Vx.prG ls), .data false 115 4 L.length (Vx.leafG false L)] _ _ _ rfl ⟨Vx.ksAt_self, ⟨rfl, rfl, Vx.prAt_prG _ _⟩, Vx.leavesAt0_in hm.raw, by rw [Vx.leafL_in hm.raw]; exact hm.raw⟩ [⟨0, undef, 0⟩, q, q'] w _ r2
    ⟨_, _, rfl, (by obtain ⟨a', cap', e, _⟩ := gd.sl; simp [Vx.SV.is, Vx.CV.den, e, Vx.one] : Vx.SV.is [⟨0, undef, 0⟩, q, q'] (.c (.row 1)) q.v), _, _, rfl, rfl, _, _, rfl, ⟨l, by rw [hm.cells]; exact Vx.IsL.cons rfl (Vx.IsL.cons d' (Vx.IsL.nil _)), rfl⟩, rfl⟩) fun e W' he => ?_
  obtain ⟨u, ρ', rfl, hu, hr⟩ := he
  obtain rfl : .bool true = u := Option.some.inj hu
  exact ⟨rfl, Vx.Rel.toBelow hr⟩
end Go.Proofs.YthomoliklfmnkaaDoor
end
