/- The document's sums of pairs and proofs of keys, by the walker. -/
import Derived.Test.YthomoliklfmnkaaDoorM35
import Derived.Test.YthomoliklfmnkaaDoorM25
import Derived.Test.YthomoliklfmnkaaDoorM22
import Derived.Test.YthomoliklfmnkaaDoorM27
section
namespace Go.Proofs.YthomoliklfmnkaaDoor.Vx
open Sha
open Go.RowKit
set_option linter.unusedVariables false
set_option linter.unusedSimpArgs false
attribute [local cbv_opaque] prK prV prL ltB findI findB szB setL putS getL Lib.compareBytes prPre goodAt goodL prPreR riseL KsAt leafF leafPre topG topPre0 rootF rootPre sumI hOf HashC kOf u8s lfG rootL sumsPre lK lV lI lP lN pG leafL leafOf leavesPre mayAt mayL lightAt lightL deep leavesAt0 hNm wyL mkLeaf mkL mkC mkFrom mkTo wayG hashesG wayPre0 mkPre lenL fdB fdH fdPre eqH sizedB rleafPre prPreR










end Go.Proofs.YthomoliklfmnkaaDoor.Vx
end

section
/- The texts whose sums are taken above leaves, by the walker. -/
namespace Go.Proofs.YthomoliklfmnkaaDoor.Vx
open Sha
open Go.RowKit
set_option linter.unusedVariables false
set_option linter.unusedSimpArgs false
/-- Texts, as cells. -/
def stG (T : List (List UInt8)) (i : Nat) : List CV := [.str (T.getD i [])]
theorem stG_push (T : List (List UInt8)) (t : List UInt8) (i : Nat) (h : i < T.length + 1) : pushG T.length (stG T) [.str t] i = stG (T ++ [t]) i := by
  unfold pushG stG
  by_cases hi : i < T.length
  · rw [show Nat.blt i T.length = true by rw [Nat.blt_eq]; exact hi]
    simp [List.getD, List.getElem?_append_left hi]
  · rw [show Nat.blt i T.length = false by rw [Bool.eq_false_iff]; intro h2; rw [Nat.blt_eq] at h2; exact hi h2]
    obtain rfl : i = T.length := by omega
    simp [List.getD]
theorem stG_cat (A B : List (List UInt8)) (i : Nat) : catG A.length (stG A) (stG B) i = stG (A ++ B) i := by
  unfold catG stG
  by_cases hi : i < A.length
  · rw [show Nat.blt i A.length = true by rw [Nat.blt_eq]; exact hi]
    simp [List.getD, List.getElem?_append_left hi]
  · rw [show Nat.blt i A.length = false by rw [Bool.eq_false_iff]; intro h2; rw [Nat.blt_eq] at h2; exact hi h2]
    simp [List.getD, List.getElem?_append_right (show A.length ≤ i by omega)]
def tpT (gets : Nat → List CV) (m : Nat) : List (List UInt8) := topT (fun i => hOf (gets i)) 0 m
def tpN (gets : Nat → List CV) (m : Nat) : Nat := (tpT gets m).length
theorem topT_len (h : Nat → Nat → Int) : ∀ (n lo : Nat), (topT h lo n).length ≤ n - 1 := fun n => by
  induction n using Nat.strongRecOn with
  | ind n ih =>
    intro lo
    by_cases hn : n < 2 ∨ 1073741824 < n
    · rw [topT, dif_pos hn]; exact Nat.zero_le _
    · have hh := hf_lt (n := (n : Int)) (by omega) (by omega)
      rw [topT_more hn, List.length_append, List.length_append]
      have h1 := ih (hf n).toNat (by omega) lo
      have h2 := ih (n - (hf n).toNat) (by omega) (lo + (hf n).toNat)
      simp only [List.length_cons, List.length_nil]
      omega
theorem topT_shift (h : Nat → Nat → Int) (a : Nat) : ∀ (n lo : Nat), topT (fun i => h (a + i)) lo n = topT h (a + lo) n := fun n => by
  induction n using Nat.strongRecOn with
  | ind n ih =>
    intro lo
    by_cases hn : n < 2 ∨ 1073741824 < n
    · rw [topT, dif_pos hn, topT, dif_pos hn]
    · have hh := hf_lt (n := (n : Int)) (by omega) (by omega)
      rw [topT_more hn, topT_more hn, ih _ (by omega), ih _ (by omega), topR_shift, topR_shift, Nat.add_assoc]
theorem topT_congr {h h' : Nat → Nat → Int} : ∀ (n lo : Nat), (∀ i, lo ≤ i → i < lo + n → h i = h' i) → topT h lo n = topT h' lo n := fun n => by
  induction n using Nat.strongRecOn with
  | ind n ih =>
    intro lo hc
    by_cases hn : n < 2 ∨ 1073741824 < n
    · rw [topT, dif_pos hn, topT, dif_pos hn]
    · have hh := hf_lt (n := (n : Int)) (by omega) (by omega)
      rw [topT_more hn, topT_more hn, ih _ (by omega) _ fun i a b => hc i a (by omega), ih _ (by omega) _ fun i a b => hc i (by omega) (by omega), topR_congr _ _ fun i a b => hc i a (by omega), topR_congr (n - (hf n).toNat) _ fun i a b => hc i (by omega) (by omega)]
theorem tpT_cut {m : Nat} {gets : Nat → List CV} (hst : HashesAt m gets) (a k : Nat) (hk : a + k ≤ m) : tpT (fun i => hashC (hOf (gets (a + i)))) k = topT (fun i => hOf (gets i)) a k := by
  unfold tpT
  rw [topT_congr (h' := fun i => hOf (gets (a + i))) k 0 fun i _ hi => hOf_idem (hst (a + i) (by omega))]
  exact topT_shift (fun i => hOf (gets i)) a k 0
def rtpPre (N : Nat) (ty one m : Nat) (gets : Nat → List CV) : Prop := ty = 24 ∧ one = 32 ∧ HashesAt m gets ∧ m < N ∧ m ≤ 1000
def sTpTN (N : Nat) : SpecF
  | [.c (.row 0)], [.elems ty one m gets] => some (rtpPre N ty one m gets, .tup [(some (.row 1), []), (none, hashC (topG gets m))], [.dead, .row 9 1 (tpN gets m) (stG (tpT gets m))])
  | _, _ => none
attribute [local cbv_opaque] prK prV prL ltB findI findB szB setL putS getL Lib.compareBytes prPre goodAt goodL prPreR riseL KsAt leafF leafPre topG topPre0 rootF rootPre sumI hOf HashC kOf u8s lfG rootL sumsPre lK lV lI lP lN pG leafL leafOf leavesPre mayAt mayL lightAt lightL deep leavesAt0 hNm wyL mkLeaf mkL mkC mkFrom mkTo wayG hashesG wayPre0 mkPre lenL fdB fdH fdPre eqH sizedB rleafPre hf HashesAt hashB topT tpT tpN rtpPre foldG rsumPre be8 eightPre
def tbFg : Tbl where
  T :=
    (3, ⟨1, false, [.int .i64 (0)], .int .i64, 8⟩) ::
    (4, ⟨1, false, [.ff], .bool, 1⟩) ::
    (9, ⟨1, false, [.str []], .str, 16⟩) ::
    (49, ⟨1, false, [.val (.slice none 0 0)], .slice 9, 24⟩) ::
    (5, ⟨1, false, [.int .u8 (0)], .int .u8, 1⟩) ::
    (24, ⟨32, true, [.int .u8 (0), .int .u8 (0), .int .u8 (0), .int .u8 (0), .int .u8 (0), .int .u8 (0), .int .u8 (0), .int .u8 (0), .int .u8 (0), .int .u8 (0), .int .u8 (0), .int .u8 (0), .int .u8 (0), .int .u8 (0), .int .u8 (0), .int .u8 (0), .int .u8 (0), .int .u8 (0), .int .u8 (0), .int .u8 (0), .int .u8 (0), .int .u8 (0), .int .u8 (0), .int .u8 (0), .int .u8 (0), .int .u8 (0), .int .u8 (0), .int .u8 (0), .int .u8 (0), .int .u8 (0), .int .u8 (0), .int .u8 (0)], .array 32 5, 32⟩) ::
    (113, ⟨1, false, [.val (.slice none 0 0)], .slice 24, 24⟩) ::
    (46, ⟨2, true, [.str [], .str []], .struct [(0, (1, false)), (1, (1, false))], 32⟩) ::
    (22, ⟨1, false, [.val (.slice none 0 0)], .slice 46, 24⟩) ::
    (115, ⟨4, true, [.str [], .str [], .int .i64 (0), .val (.slice none 0 0)], .struct [(0, (1, false)), (1, (1, false)), (2, (1, false)), (3, (1, false))], 64⟩) ::
    (25, ⟨1, false, [.val (.slice none 0 0)], .slice 115, 24⟩) ::
    (27, ⟨2, true, [.int .i64 (0), .val (.slice none 0 0)], .struct [(0, (1, false)), (1, (1, false))], 32⟩) ::
    []
  F :=
    (24, [0, 0, 0, 0, 0, 0, 0, 0, 0, 0, 0, 0, 0, 0, 0, 0, 0, 0, 0, 0, 0, 0, 0, 0, 0, 0, 0, 0, 0, 0, 0, 0]) ::
    []

theorem tbFg_ok : tbFg.Ok Tryd.prog where
  T :=
    TblOk.cons (by kernel_rfl) <|
    TblOk.cons (by kernel_rfl) <|
    TblOk.cons (by kernel_rfl) <|
    TblOk.cons (by kernel_rfl) <|
    TblOk.cons (by kernel_rfl) <|
    TblOk.cons (by kernel_rfl) <|
    TblOk.cons (by kernel_rfl) <|
    TblOk.cons (by kernel_rfl) <|
    TblOk.cons (by kernel_rfl) <|
    TblOk.cons (by kernel_rfl) <|
    TblOk.cons (by kernel_rfl) <|
    TblOk.cons (by kernel_rfl) <|
    TblOk.nil _
  F :=
    FlatsOk.cons (FlatOk.of (D := .array 32 5) 6 (by decide) (by kernel_rfl) (by kernel_rfl) rfl (by kernel_rfl)) <|
    FlatsOk.nil _

set_option maxRecDepth 100000 in
set_option maxHeartbeats 8000000 in
theorem tpTStep (N : Nat) (ih : Fn Tryd.prog 95 [] [(24, 32)] (sTpTN N)) : Fn Tryd.prog 95 [] [(24, 32)] (sTpTN (N + 1)) := by
  have hC : CtsOk Tryd.prog [(124, appPure sRHalf), (95, appFn [] [(24, 32)] (sTpTN N)), (96, appPure sText), (92, appPure sRSum)] := CtsOk.cons (Pure.ct rhalfP) <| CtsOk.cons (Fn.ct ih) <| CtsOk.cons (Pure.ct rtextP) <| CtsOk.cons (Pure.ct rsumP) <| CtsOk.nil _
  refine Fn.of (E := tbFg) [] 0 [(4, [(2001, false), (0, true), (1, true), (2, true), (3, true), (4, false)]), (8, [(0, true), (3, true), (1, false), (2, true), (4, false), (5, true), (6, true)])] tbFg_ok hC (by kernel_rfl) Tryd.func95 rfl rfl rfl (by kernel_rfl) (by kernel_rfl) 1 9 1 ?_ ?_
  · intro args h pre r h' hs
    unfold sTpTN at hs
    split at hs
    · cases hs; exact ⟨rfl, rfl, Nat.le_of_ble_eq_true rfl⟩
    · cases hs
  · intro args h pre r h' hs hp
    unfold sTpTN at hs
    split at hs
    rotate_left
    · cases hs
    rename_i ty one m gets
    cases hs
    obtain ⟨rfl, rfl, hst, hlt, hm⟩ := hp
    refine ⟨[.elems 24 32 m (fun i => hashC (hOf (gets i)))], ⟨hst.same.1, trivial⟩, ?_⟩
    unfold sTpTN sText sRSum sRHalf
    generalize hA : Arith.std = A
    set_option cbv.maxSteps 4000000 in cbv
    subst hA
    have nz : ∀ k, k < 2 → tpT gets k = [] ∧ tpN gets k = 0 := fun k hk => by
      have e : tpT gets k = [] := by unfold tpT; rw [topT, dif_pos (Or.inl hk)]
      exact ⟨e, by unfold tpN; rw [e]; rfl⟩
    refine Ife.mk (fun h => ?_) (fun h => ?_)
    · have h : (m : Int) = 0 := of_decide_eq_true (p := (m : Int) = 0) h
      obtain rfl : m = 0 := by omega
      obtain ⟨z1, z2⟩ := nz 0 (by omega)
      rw [topG_zero, z1, z2]
      exact ⟨[0, 2], ⟨rfl, by repeat' (first | exact trivial | exact rfl | apply And.intro | exact (fun _ _ _ _ => Cell.le_refl _) | (intro i hi; rfl) | (intro i hi; exact absurd hi (Nat.not_lt_zero _))), (by show List.Nodup [2]; decide), rfl, by repeat' (first | exact trivial | exact rfl | apply And.intro | exact (fun _ _ _ _ => Cell.le_refl _) | (intro i hi; rfl) | (intro i hi; exact absurd hi (Nat.not_lt_zero _)))⟩⟩
    have h0 : ¬ (m : Int) = 0 := of_decide_eq_false (p := (m : Int) = 0) h
    refine Ife.mk (fun h => ?_) (fun h => ?_)
    · have h : (m : Int) = 1 := of_decide_eq_true (p := (m : Int) = 1) h
      obtain rfl : m = 1 := by omega
      obtain ⟨z1, z2⟩ := nz 1 (by omega)
      rw [topG_one, z1, z2]
      refine Need.mk (by show (0 : Int) ≤ 0 ∧ (0 : Int) < ((1 : Nat) : Int); decide) fun _ => Need.mk (by show (0 : Int).toNat < 1; decide) fun _ => ?_
      exact ⟨[0, 2], ⟨rfl, by repeat' (first | exact trivial | exact rfl | apply And.intro | exact (fun _ _ _ _ => Cell.le_refl _) | (intro i hi; rfl) | (intro i hi; exact absurd hi (Nat.not_lt_zero _))), (by show List.Nodup [2]; decide), rfl, by repeat' (first | exact trivial | exact rfl | apply And.intro | exact (fun _ _ _ _ => Cell.le_refl _) | (intro i hi; rfl) | (intro i hi; exact absurd hi (Nat.not_lt_zero _)))⟩⟩
    have h1 : ¬ (m : Int) = 1 := of_decide_eq_false (p := (m : Int) = 1) h
    have hh := hf_lt (n := (m : Int)) (by omega) (by omega)
    have e1 : topG (fun i => hashC (hOf (gets (0 + i)))) (hf (m : Int) - 0).toNat = topR (fun i => hOf (gets i)) 0 (hf (m : Int)).toNat := by
      rw [show (hf (m : Int) - 0).toNat = (hf (m : Int)).toNat by omega]
      exact topG_cut hst 0 _ (by omega)
    have e2 : topG (fun i => hashC (hOf (gets ((hf (m : Int)).toNat + i)))) ((m : Int) - hf (m : Int)).toNat = topR (fun i => hOf (gets i)) (hf (m : Int)).toNat (m - (hf (m : Int)).toNat) := by
      rw [show ((m : Int) - hf (m : Int)).toNat = m - (hf (m : Int)).toNat by omega]
      exact topG_cut hst _ _ (by omega)
    refine Need.mk trivial fun _ => Need.mk (by show (0 : Int) ≤ 0 ∧ 0 ≤ hf (m : Int) ∧ hf (m : Int) ≤ (m : Int); omega) fun _ => ?_
    refine Need.mk ⟨rfl, rfl, hst.cut 0 (hf (m : Int) - 0).toNat (by omega), (by show (hf (m : Int) - 0).toNat < N; omega), (by show (hf (m : Int) - 0).toNat ≤ 1000; omega)⟩ fun _ => ?_
    refine Need.mk (by show 0 ≤ hf (m : Int) ∧ hf (m : Int) ≤ (m : Int) ∧ (m : Int) ≤ (m : Int); omega) fun _ => ?_
    refine Need.mk ⟨rfl, rfl, hst.cut (hf (m : Int)).toNat ((m : Int) - hf (m : Int)).toNat (by omega), (by show ((m : Int) - hf (m : Int)).toNat < N; omega), (by show ((m : Int) - hf (m : Int)).toNat ≤ 1000; omega)⟩ fun _ => ?_
    have g1 : HashC (hashC (topG (fun i => hashC (hOf (gets (0 + i)))) (hf (m : Int) - 0).toNat)) := by rw [e1]; exact topG_hash hst 0 _ (by omega)
    have g2 : HashC (hashC (topG (fun i => hashC (hOf (gets ((hf (m : Int)).toNat + i)))) ((m : Int) - hf (m : Int)).toNat)) := by rw [e2]; exact topG_hash hst _ _ (by omega)
    refine Need.mk g1 fun _ => ?_
    have f1 : tpT (fun i => hashC (hOf (gets (0 + i)))) (hf (m : Int) - 0).toNat = topT (fun i => hOf (gets i)) 0 (hf (m : Int)).toNat := by
      rw [show (hf (m : Int) - 0).toNat = (hf (m : Int)).toNat by omega]
      exact tpT_cut hst 0 _ (by omega)
    have f2 : tpT (fun i => hashC (hOf (gets ((hf (m : Int)).toNat + i)))) ((m : Int) - hf (m : Int)).toNat = topT (fun i => hOf (gets i)) (hf (m : Int)).toNat (m - (hf (m : Int)).toNat) := by
      rw [show ((m : Int) - hf (m : Int)).toNat = m - (hf (m : Int)).toNat by omega]
      exact tpT_cut hst _ _ (by omega)
    refine Need.mk (by show (1 : Int) + 32 ≤ 9223372036854775807; decide) fun _ => Need.mk g2 fun _ => Need.mk (by show (33 : Int) + 32 ≤ 9223372036854775807; decide) fun _ => ?_
    simp only [Arith.std, Int.ofNat_eq_natCast, Int.toNat_natCast, Int.toNat_zero]
    have n1 : tpN (fun i => hashC (hOf (gets (0 + i)))) (hf (m : Int) - 0).toNat ≤ (hf (m : Int)).toNat - 1 := by unfold tpN; rw [f1]; exact topT_len _ _ _
    have n2 : tpN (fun i => hashC (hOf (gets ((hf (m : Int)).toNat + i)))) ((m : Int) - hf (m : Int)).toNat ≤ m - (hf (m : Int)).toNat - 1 := by unfold tpN; rw [f2]; exact topT_len _ _ _
    generalize eP : tpN (fun i => hashC (hOf (gets (0 + i)))) (hf (m : Int) - 0).toNat = P at n1 ⊢
    generalize eQ : tpN (fun i => hashC (hOf (gets ((hf (m : Int)).toNat + i)))) ((m : Int) - hf (m : Int)).toNat = Q at n2 ⊢
    have hML : maxLen = 9223372036854775807 := rfl
    refine Need.mk ⟨⟨by omega, by omega⟩, fun _ _ => rfl⟩ fun _ => ?_
    have hPQ := natM P Q
    refine Need.mk ⟨Nat.le_trans (Nat.le_of_eq (congrArg (· + 1) hPQ)) (by show P + Q + 1 ≤ _; omega), Nat.le_trans (Nat.le_of_eq (congrArg (fun x => (x + 1) * 16) hPQ)) (by show (P + Q + 1) * 16 ≤ _; omega)⟩ fun _ => Need.mk (by show 1 + 32 + 32 ≤ 140737488350000; decide) fun _ => ?_
    have hTT : tpT gets m = tpT (fun i => hashC (hOf (gets (0 + i)))) (hf (m : Int) - 0).toNat ++ tpT (fun i => hashC (hOf (gets ((hf (m : Int)).toNat + i)))) ((m : Int) - hf (m : Int)).toNat ++ [tNode (topR (fun i => hOf (gets i)) 0 (hf (m : Int)).toNat) (topR (fun i => hOf (gets i)) (hf (m : Int)).toNat (m - (hf (m : Int)).toNat))] := by
      rw [f1, f2]
      show topT (fun i => hOf (gets i)) 0 m = _
      rw [topT_more (by omega), Nat.zero_add]
    have hPl : (tpT (fun i => hashC (hOf (gets (0 + i)))) (hf (m : Int) - 0).toNat).length = P := eP
    have hQl : (tpT (fun i => hashC (hOf (gets ((hf (m : Int)).toNat + i)))) ((m : Int) - hf (m : Int)).toNat).length = Q := eQ
    have hNn : tpN gets m = P + Q + 1 := by
      show (tpT gets m).length = _
      rw [hTT, List.length_append, List.length_append, hPl, hQl]; rfl
    have hcat : catG P (stG (tpT (fun i => hashC (hOf (gets (0 + i)))) (hf (m : Int) - 0).toNat)) (stG (tpT (fun i => hashC (hOf (gets ((hf (m : Int)).toNat + i)))) ((m : Int) - hf (m : Int)).toNat)) = stG (tpT (fun i => hashC (hOf (gets (0 + i)))) (hf (m : Int) - 0).toNat ++ tpT (fun i => hashC (hOf (gets ((hf (m : Int)).toNat + i)))) ((m : Int) - hf (m : Int)).toNat) := funext fun i => by
      rw [← hPl]; exact stG_cat _ _ i
    have hS : hashC (sumI ([1] ++ u8s (hashC (topG (fun i => hashC (hOf (gets (0 + i)))) (hf (m : Int) - 0).toNat)) ++ u8s (hashC (topG (fun i => hashC (hOf (gets ((hf (m : Int)).toNat + i)))) ((m : Int) - hf (m : Int)).toNat)))) = hashC (topG gets m) := by
      rw [u8s_hash, u8s_hash, e1, e2, topG_two (by omega) (by omega)]
      rfl
    have hO1 := (congrArg Nat.succ hPQ).trans hNn.symm
    have hO2 : ∀ i, i < tpN gets m → pushG (match (generalizing := false) P, Q with
        | a, Nat.zero => a
        | a, Nat.succ b => Nat.succ (Nat.add a b)) (catG P (stG (tpT (fun i => hashC (hOf (gets (0 + i)))) (hf (m : Int) - 0).toNat)) (stG (tpT (fun i => hashC (hOf (gets ((hf (m : Int)).toNat + i)))) ((m : Int) - hf (m : Int)).toNat))) [.str ([1] ++ u8s (hashC (topG (fun i => hashC (hOf (gets (0 + i)))) (hf (m : Int) - 0).toNat)) ++ u8s (hashC (topG (fun i => hashC (hOf (gets ((hf (m : Int)).toNat + i)))) ((m : Int) - hf (m : Int)).toNat)))] i = stG (tpT gets m) i := fun i hi => by
      refine (congrArg (fun x => pushG x _ _ i) (natM P Q)).trans ?_
      show pushG (P + Q) _ _ i = _
      rw [hcat, u8s_hash, u8s_hash, e1, e2, hTT]
      have hlen : (tpT (fun i => hashC (hOf (gets (0 + i)))) (hf (m : Int) - 0).toNat ++ tpT (fun i => hashC (hOf (gets ((hf (m : Int)).toNat + i)))) ((m : Int) - hf (m : Int)).toNat).length = P + Q := by rw [List.length_append, hPl, hQl]
      rw [← hlen]
      exact stG_push _ _ i (by rw [hlen]; omega)
    rw [← hS]
    refine ⟨[0, 10], ⟨rfl, (by repeat' (first | exact trivial | exact rfl | apply And.intro | exact (fun _ _ _ _ => Cell.le_refl _) | (intro i hi; rfl) | (intro i hi; exact absurd hi (Nat.not_lt_zero _)))), (by show List.Nodup [10]; decide), rfl, ?_⟩⟩
    repeat' (first | exact trivial | exact hO1 | exact hO2 | exact rfl | apply And.intro | exact (fun _ _ _ _ => Cell.le_refl _) | (intro i hi; exact absurd hi (Nat.not_lt_zero _)))

theorem tpTAll (N : Nat) : Fn Tryd.prog 95 [] [(24, 32)] (sTpTN N) := by
  induction N with
  | zero =>
    refine Fn.plain (by kernel_rfl) (fun args h pre res h' hs => ?_) fun args h pre res h' hs hp ρ W us rel hus => ?_
    · unfold sTpTN at hs
      split at hs
      · cases hs; exact ⟨rfl, Nat.le_of_ble_eq_true rfl⟩
      · cases hs
    · unfold sTpTN at hs
      split at hs
      · cases hs; exact absurd hp.2.2.2.1 (Nat.not_lt_zero _)
      · cases hs
  | succ N ih => exact tpTStep N ih
def rtpPre0 (ty one m : Nat) (gets : Nat → List CV) : Prop := ty = 24 ∧ one = 32 ∧ HashesAt m gets ∧ m ≤ 1000
def sTpT : SpecF
  | [.c (.row 0)], [.elems ty one m gets] => some (rtpPre0 ty one m gets, .tup [(some (.row 1), []), (none, hashC (topG gets m))], [.dead, .row 9 1 (tpN gets m) (stG (tpT gets m))])
  | _, _ => none

theorem tpTP : Fn Tryd.prog 95 [] [(24, 32)] sTpT := by
  refine Fn.plain (by kernel_rfl) (fun args h pre res h' hs => ?_) fun args h pre res h' hs hp ρ W us rel hus => ?_
  · unfold sTpT at hs
    split at hs
    · cases hs; exact ⟨rfl, Nat.le_of_ble_eq_true rfl⟩
    · cases hs
  · unfold sTpT at hs
    split at hs
    rotate_left
    · cases hs
    rename_i ty one m gets
    cases hs
    obtain ⟨h1, h2, h3, h4⟩ := hp
    exact (tpTAll (m + 1)).run _ _ _ _ _ rfl ⟨h1, h2, h3, Nat.lt_succ_self m, h4⟩ ρ W us rel hus
end Go.Proofs.YthomoliklfmnkaaDoor.Vx
end

section
/- The texts whose sums are taken on the way up from a leaf, by the walker. -/
namespace Go.Proofs.YthomoliklfmnkaaDoor.Vx
open Sha
open Go.RowKit
set_option linter.unusedVariables false
set_option linter.unusedSimpArgs false
def wyT (gets : Nat → List CV) (leaf : List CV) (m : Nat) (n i : Int) : List (List UInt8) := wayT (fun j => hOf (gets j)) (hOf leaf) m n i
def wyN (gets : Nat → List CV) (leaf : List CV) (m : Nat) (n i : Int) : Nat := (wyT gets leaf m n i).length
theorem wayT_len (W : Nat → Nat → Int) (leaf : Nat → Int) : ∀ (k : Nat) (n i : Int), (wayT W leaf k n i).length = k
  | 0, _, _ => rfl
  | k + 1, n, i => by
    unfold wayT
    split <;> rw [List.length_append, wayT_len W leaf k] <;> rfl
theorem wayT_congr {W W' : Nat → Nat → Int} (leaf : Nat → Int) : ∀ (k : Nat) (n i : Int), (∀ j, j < k → W j = W' j) → wayT W leaf k n i = wayT W' leaf k n i
  | 0, _, _, _ => rfl
  | k + 1, n, i, h => by
    unfold wayT
    rw [wayT_congr leaf k (hf n) i (fun j hj => h j (by omega)), wayT_congr leaf k (n - hf n) (i - hf n) (fun j hj => h j (by omega)), foldR_congr leaf k (hf n) i (fun j hj => h j (by omega)), foldR_congr leaf k (n - hf n) (i - hf n) (fun j hj => h j (by omega)), h k (by omega)]
def rwyPre (K : Nat) (ty one m : Nat) (gets : Nat → List CV) (leaf : List CV) (n i : Int) : Prop := ty = 24 ∧ one = 32 ∧ HashesAt m gets ∧ HashC leaf ∧ m < K ∧ m ≤ 1000 ∧ fdB m n i = true
def sTwyN (K : Nat) : SpecF
  | [.c (.int .i64 a), .c (.int .i64 i), .agg leaf, .c (.row 0)], [.elems ty one m gets] => some (rwyPre K ty one m gets leaf a i, .tup [(some (.row 1), []), (none, hashC (foldG gets leaf m a i))], [.dead, .row 9 1 (wyN gets leaf m a i) (stG (wyT gets leaf m a i))])
  | _, _ => none
attribute [local cbv_opaque] prK prV prL ltB findI findB szB setL putS getL Lib.compareBytes prPre goodAt goodL prPreR riseL KsAt leafF leafPre topG topPre0 rootF rootPre sumI hOf HashC kOf u8s lfG rootL sumsPre lK lV lI lP lN pG leafL leafOf leavesPre mayAt mayL lightAt lightL deep leavesAt0 hNm wyL mkLeaf mkL mkC mkFrom mkTo wayG hashesG wayPre0 mkPre lenL fdB fdH fdPre eqH sizedB rleafPre hf HashesAt hashB topT tpT tpN rtpPre wyT wyN rwyPre foldG rsumPre be8 eightPre wyN fdB
set_option maxRecDepth 100000 in
set_option maxHeartbeats 16000000 in
theorem twyStep (K : Nat) (ih : Fn Tryd.prog 97 [] [(24, 32)] (sTwyN K)) : Fn Tryd.prog 97 [] [(24, 32)] (sTwyN (K + 1)) := by
  have hC : CtsOk Tryd.prog [(124, appPure sRHalf), (97, appFn [] [(24, 32)] (sTwyN K)), (96, appPure sText), (92, appPure sRSum)] := CtsOk.cons (Pure.ct rhalfP) <| CtsOk.cons (Fn.ct ih) <| CtsOk.cons (Pure.ct rtextP) <| CtsOk.cons (Pure.ct rsumP) <| CtsOk.nil _
  refine Fn.of (E := tbFg) [] 0 [(2, [(2002, false), (0, true), (1, true), (2, false)]), (5, [(9999, true), (0, true), (1, true), (2, true), (3, true), (4, true), (5, true), (3006, false), (7, true), (8, true), (9, true), (10, false), (11, true), (12, false), (2999, false), (10, false), (6, false), (7, true), (8, true), (9, true), (11, true), (12, false), (2999, false)]), (6, [(0, true), (3, true), (4, true), (5, true), (6, true), (1, false), (2, true), (7, false), (8, true), (9, true)]), (8, [(9999, true), (0, true), (1, true), (2, true), (3, true), (4, true), (5, true), (6, true), (7, true), (8, true), (9, true), (3010, false), (11, true), (12, true), (13, true), (14, false), (15, true), (16, false), (2999, false), (14, false), (10, false), (11, true), (12, true), (13, true), (15, true), (16, false), (2999, false)]), (9, [(0, true), (1, true), (2, true), (3, true), (6, true), (4, false), (5, true), (7, false), (8, true), (9, true)])] tbFg_ok hC (by kernel_rfl) Tryd.func97 rfl rfl rfl (by kernel_rfl) (by kernel_rfl) 1 9 1 ?_ ?_
  · intro args h pre r h' hs
    unfold sTwyN at hs
    split at hs
    · cases hs; exact ⟨rfl, rfl, Nat.le_of_ble_eq_true rfl⟩
    · cases hs
  · intro args h pre r h' hs hp
    unfold sTwyN at hs
    split at hs
    rotate_left
    · cases hs
    rename_i a i leaf ty one m gets
    cases hs
    obtain ⟨rfl, rfl, hst, ⟨f, rfl, hf_⟩, hlt, hm, hB⟩ := hp
    refine ⟨[.elems 24 32 m (fun i => hashC (hOf (gets i)))], ⟨hst.same.1, trivial⟩, ?_⟩
    unfold hashC
    unfold sTwyN sText sRSum sRHalf
    generalize hA : Arith.std = A
    set_option cbv.maxSteps 4000000 in cbv
    subst hA
    have hL : HashC (hashC f) := ⟨_, rfl, hf_⟩
    obtain ⟨hin, hdp⟩ := fdB_iff.1 hB
    have out0 : m = 0 → ∃ σ, LeftF 9 1 1 σ (.tup [(some (.val (.slice none 0 0)), []), (none, hashC f)]) [.elems 24 32 m (fun i => hashC (hOf (gets i))), .cells 24 (hashC f), .cells 24 (hashC f)] (.tup [(some (.row 1), []), (none, hashC (foldG gets (hashC f) m a i))]) [.dead, .row 9 1 (wyN gets (hashC f) m a i) (stG (wyT gets (hashC f) m a i))] := fun h => by
      subst h
      have e : foldG gets (hashC f) 0 a i = hOf (hashC f) := rfl
      have e2 : wyN gets (hashC f) 0 a i = 0 := rfl
      rw [e, e2]
      exact ⟨[0, 3], ⟨rfl, (by repeat' (first | exact trivial | exact rfl | apply And.intro | exact (fun _ _ _ _ => Cell.le_refl _) | (intro i hi; rfl) | (intro i hi; exact absurd hi (Nat.not_lt_zero _)))), (by show List.Nodup [3]; decide), rfl, by repeat' (first | exact trivial | exact rfl | apply And.intro | exact (fun _ _ _ _ => Cell.le_refl _) | (intro i hi; rfl) | (intro i hi; exact absurd hi (Nat.not_lt_zero _)))⟩⟩
    refine Ife.mk (fun h => ?_) (fun h => ?_)
    · have h : a ≤ 1 := of_decide_eq_true (p := a ≤ 1) h
      exact out0 (by have := deep_out (n := a) (i := i) (by omega); omega)
    have c1 : ¬ a ≤ 1 := of_decide_eq_false (p := a ≤ 1) h
    refine Ife.mk (fun h => ?_) (fun h => ?_)
    · have h : (m : Int) = 0 := of_decide_eq_true (p := (m : Int) = 0) h
      exact out0 (by omega)
    have c2 : ¬ (m : Int) = 0 := of_decide_eq_false (p := (m : Int) = 0) h
    clear out0
    have hh := hf_lt (n := a) (by omega) (by omega)
    have hin2 : 1 < a ∧ a ≤ 1073741824 ∧ 0 ≤ i ∧ i < a := by omega
    obtain ⟨k, rfl⟩ : ∃ k, m = k + 1 := ⟨m - 1, by omega⟩
    have kk : (((k + 1 : Nat) : Int) - 1 - 0).toNat = k := by omega
    have kl : (((k + 1 : Nat) : Int) - 1).toNat = k := by omega
    have cgF : ∀ n j : Int, foldG (fun j => hashC (hOf (gets (0 + j)))) (hashC f) (((k + 1 : Nat) : Int) - 1 - 0).toNat n j = foldR (fun j => hOf (gets j)) (hOf (hashC f)) k n j := fun n j => by
      rw [kk]
      unfold foldG
      refine foldR_congr _ k n j fun j hj => ?_
      show hOf (hashC (hOf (gets (0 + j)))) = hOf (gets j)
      rw [Nat.zero_add]
      exact hOf_idem (hst j (by omega))
    have cgT : ∀ n j : Int, wyT (fun j => hashC (hOf (gets (0 + j)))) (hashC f) (((k + 1 : Nat) : Int) - 1 - 0).toNat n j = wayT (fun j => hOf (gets j)) (hOf (hashC f)) k n j := fun n j => by
      rw [kk]
      unfold wyT
      refine wayT_congr _ k n j fun j hj => ?_
      show hOf (hashC (hOf (gets (0 + j)))) = hOf (gets j)
      rw [Nat.zero_add]
      exact hOf_idem (hst j (by omega))
    have cgN : ∀ n j : Int, wyN (fun j => hashC (hOf (gets (0 + j)))) (hashC f) (((k + 1 : Nat) : Int) - 1 - 0).toNat n j = k := fun n j => by unfold wyN; rw [cgT, wayT_len]
    have z1 : HashesAt (((k + 1 : Nat) : Int) - 1 - 0).toNat (fun j => hashC (hOf (gets (0 + j)))) := hst.cut 0 _ (by omega)
    have rg : ∀ n j : Int, HashC (hashC (foldG (fun j => hashC (hOf (gets (0 + j)))) (hashC f) (((k + 1 : Nat) : Int) - 1 - 0).toNat n j)) := fun n j => by rw [cgF]; exact ⟨_, rfl, foldR_range (fun j => hOf_range hL j) k n j⟩
    have rk : HashC (hashC (hOf (gets (((k + 1 : Nat) : Int) - 1).toNat))) := ⟨_, rfl, fun j => hOf_range (hst _ (by omega)) j⟩
    have fl : fitStd .i64 (((k + 1 : Nat) : Int) - 1) := by unfold fitStd; omega
    have n1 : (0 : Int) ≤ 0 ∧ (0 : Int) ≤ ((k + 1 : Nat) : Int) - 1 ∧ ((k + 1 : Nat) : Int) - 1 ≤ ((k + 1 : Nat) : Int) := by omega
    have n2 : (0 : Int) ≤ ((k + 1 : Nat) : Int) - 1 ∧ ((k + 1 : Nat) : Int) - 1 < ((k + 1 : Nat) : Int) := by omega
    have n3 : (((k + 1 : Nat) : Int) - 1).toNat < k + 1 := by omega
    have n6 : (1 : Int) + 32 ≤ 9223372036854775807 := by decide
    have n7 : (33 : Int) + 32 ≤ 9223372036854775807 := by decide
    have n8 : 1 + 32 + 32 ≤ 140737488350000 := by decide
    refine Need.mk trivial fun _ => Need.mk fl fun _ => ?_
    refine Ife.mk (fun h => ?_) (fun h => ?_)
    · have h : i < hf a := of_decide_eq_true (p := i < hf a) h
      have p1 : rwyPre K 24 32 (((k + 1 : Nat) : Int) - 1 - 0).toNat (fun j => hashC (hOf (gets (0 + j)))) (hashC f) (hf a) i := ⟨rfl, rfl, z1, hL, by omega, by omega, by rw [kk]; exact fdB_iff.2 ⟨by omega, by rw [deep_lo hin2 h] at hdp; omega⟩⟩
      have n9 : wyN (fun j => hashC (hOf (gets (0 + j)))) (hashC f) (((k + 1 : Nat) : Int) - 1 - 0).toNat (hf a) i + 1 ≤ maxLen ∧ (wyN (fun j => hashC (hOf (gets (0 + j)))) (hashC f) (((k + 1 : Nat) : Int) - 1 - 0).toNat (hf a) i + 1) * 16 ≤ 140737488355328 := by rw [cgN]; unfold maxLen; omega
      have hT : wyT gets (hashC f) (k + 1) a i = wayT (fun j => hOf (gets j)) (hOf (hashC f)) k (hf a) i ++ [tNode (foldR (fun j => hOf (gets j)) (hOf (hashC f)) k (hf a) i) (hOf (gets k))] := by
        show wayT _ _ _ _ _ = _
        rw [wayT, if_pos h]
      have hN : wyN gets (hashC f) (k + 1) a i = k + 1 := wayT_len _ _ _ _ _
      have hS : hashC (sumI ([1] ++ u8s (hashC (foldG (fun j => hashC (hOf (gets (0 + j)))) (hashC f) (((k + 1 : Nat) : Int) - 1 - 0).toNat (hf a) i)) ++ u8s (hashC (hOf (gets (((k + 1 : Nat) : Int) - 1).toNat))))) = hashC (foldG gets (hashC f) (k + 1) a i) := by
        rw [u8s_hash, u8s_hash, cgF, kl]
        unfold foldG
        rw [foldR, if_pos h]
        rfl
      have hO1 : (wyN (fun j => hashC (hOf (gets (0 + j)))) (hashC f) (((k + 1 : Nat) : Int) - 1 - 0).toNat (hf a) i).succ = wyN gets (hashC f) (k + 1) a i := by rw [cgN, hN]
      have hO2 : ∀ x, x < wyN gets (hashC f) (k + 1) a i → pushG (wyN (fun j => hashC (hOf (gets (0 + j)))) (hashC f) (((k + 1 : Nat) : Int) - 1 - 0).toNat (hf a) i) (stG (wyT (fun j => hashC (hOf (gets (0 + j)))) (hashC f) (((k + 1 : Nat) : Int) - 1 - 0).toNat (hf a) i)) [.str ([1] ++ u8s (hashC (foldG (fun j => hashC (hOf (gets (0 + j)))) (hashC f) (((k + 1 : Nat) : Int) - 1 - 0).toNat (hf a) i)) ++ u8s (hashC (hOf (gets (((k + 1 : Nat) : Int) - 1).toNat))))] x = stG (wyT gets (hashC f) (k + 1) a i) x := fun x hx => by
        rw [cgT, cgN, u8s_hash, u8s_hash, cgF, kl, hT]
        rw [hN] at hx
        have := stG_push (wayT (fun j => hOf (gets j)) (hOf (hashC f)) k (hf a) i) (tNode (foldR (fun j => hOf (gets j)) (hOf (hashC f)) k (hf a) i) (hOf (gets k))) x (by rw [wayT_len]; exact hx)
        rw [wayT_len] at this
        exact this
      refine Need.mk n1 fun _ => Both.mk ?_ ?_
      all_goals refine Need.mk p1 fun _ => Need.mk n2 fun _ => Need.mk n3 fun _ => Need.mk (rg _ _) fun _ => Need.mk n6 fun _ => Need.mk rk fun _ => Need.mk n7 fun _ => Need.mk n9 fun _ => Need.mk n8 fun _ => ?_
      all_goals
        show ∃ σ, LeftF _ _ _ σ _ _ (.tup [(some (.row 1), []), (none, hashC (foldG gets (hashC f) (k + 1) a i))]) [.dead, .row 9 1 (wyN gets (hashC f) (k + 1) a i) (stG (wyT gets (hashC f) (k + 1) a i))]
        rw [← hS]
        refine ⟨[0, 7], ⟨rfl, (by repeat' (first | exact trivial | exact rfl | apply And.intro | exact (fun _ _ _ _ => Cell.le_refl _) | (intro i hi; rfl) | (intro i hi; exact absurd hi (Nat.not_lt_zero _)))), (by show List.Nodup [7]; decide), rfl, ?_⟩⟩
        repeat' (first | exact trivial | exact hO1 | exact hO2 | exact rfl | apply And.intro | exact (fun _ _ _ _ => Cell.le_refl _) | (intro i hi; exact absurd hi (Nat.not_lt_zero _)))
    · have h : ¬ i < hf a := of_decide_eq_false (p := i < hf a) h
      have p1 : rwyPre K 24 32 (((k + 1 : Nat) : Int) - 1 - 0).toNat (fun j => hashC (hOf (gets (0 + j)))) (hashC f) (a - hf a) (i - hf a) := ⟨rfl, rfl, z1, hL, by omega, by omega, by rw [kk]; exact fdB_iff.2 ⟨by omega, by rw [deep_hi hin2 h] at hdp; omega⟩⟩
      have n9 : wyN (fun j => hashC (hOf (gets (0 + j)))) (hashC f) (((k + 1 : Nat) : Int) - 1 - 0).toNat (a - hf a) (i - hf a) + 1 ≤ maxLen ∧ (wyN (fun j => hashC (hOf (gets (0 + j)))) (hashC f) (((k + 1 : Nat) : Int) - 1 - 0).toNat (a - hf a) (i - hf a) + 1) * 16 ≤ 140737488355328 := by rw [cgN]; unfold maxLen; omega
      have n4 : fitStd .i64 (a - hf a) := by unfold fitStd; omega
      have n5 : fitStd .i64 (i - hf a) := by unfold fitStd; omega
      have hT : wyT gets (hashC f) (k + 1) a i = wayT (fun j => hOf (gets j)) (hOf (hashC f)) k (a - hf a) (i - hf a) ++ [tNode (hOf (gets k)) (foldR (fun j => hOf (gets j)) (hOf (hashC f)) k (a - hf a) (i - hf a))] := by
        show wayT _ _ _ _ _ = _
        rw [wayT, if_neg h]
      have hN : wyN gets (hashC f) (k + 1) a i = k + 1 := wayT_len _ _ _ _ _
      have hS : hashC (sumI ([1] ++ u8s (hashC (hOf (gets (((k + 1 : Nat) : Int) - 1).toNat))) ++ u8s (hashC (foldG (fun j => hashC (hOf (gets (0 + j)))) (hashC f) (((k + 1 : Nat) : Int) - 1 - 0).toNat (a - hf a) (i - hf a))))) = hashC (foldG gets (hashC f) (k + 1) a i) := by
        rw [u8s_hash, u8s_hash, cgF, kl]
        unfold foldG
        rw [foldR, if_neg h]
        rfl
      have hO1 : (wyN (fun j => hashC (hOf (gets (0 + j)))) (hashC f) (((k + 1 : Nat) : Int) - 1 - 0).toNat (a - hf a) (i - hf a)).succ = wyN gets (hashC f) (k + 1) a i := by rw [cgN, hN]
      have hO2 : ∀ x, x < wyN gets (hashC f) (k + 1) a i → pushG (wyN (fun j => hashC (hOf (gets (0 + j)))) (hashC f) (((k + 1 : Nat) : Int) - 1 - 0).toNat (a - hf a) (i - hf a)) (stG (wyT (fun j => hashC (hOf (gets (0 + j)))) (hashC f) (((k + 1 : Nat) : Int) - 1 - 0).toNat (a - hf a) (i - hf a))) [.str ([1] ++ u8s (hashC (hOf (gets (((k + 1 : Nat) : Int) - 1).toNat))) ++ u8s (hashC (foldG (fun j => hashC (hOf (gets (0 + j)))) (hashC f) (((k + 1 : Nat) : Int) - 1 - 0).toNat (a - hf a) (i - hf a))))] x = stG (wyT gets (hashC f) (k + 1) a i) x := fun x hx => by
        rw [cgT, cgN, u8s_hash, u8s_hash, cgF, kl, hT]
        rw [hN] at hx
        have := stG_push (wayT (fun j => hOf (gets j)) (hOf (hashC f)) k (a - hf a) (i - hf a)) (tNode (hOf (gets k)) (foldR (fun j => hOf (gets j)) (hOf (hashC f)) k (a - hf a) (i - hf a))) x (by rw [wayT_len]; exact hx)
        rw [wayT_len] at this
        exact this
      refine Need.mk n4 fun _ => Need.mk n5 fun _ => Need.mk n1 fun _ => Both.mk ?_ ?_
      all_goals refine Need.mk p1 fun _ => Need.mk n2 fun _ => Need.mk n3 fun _ => Need.mk rk fun _ => Need.mk n6 fun _ => Need.mk (rg _ _) fun _ => Need.mk n7 fun _ => Need.mk n9 fun _ => Need.mk n8 fun _ => ?_
      all_goals
        show ∃ σ, LeftF _ _ _ σ _ _ (.tup [(some (.row 1), []), (none, hashC (foldG gets (hashC f) (k + 1) a i))]) [.dead, .row 9 1 (wyN gets (hashC f) (k + 1) a i) (stG (wyT gets (hashC f) (k + 1) a i))]
        rw [← hS]
        refine ⟨[0, 7], ⟨rfl, (by repeat' (first | exact trivial | exact rfl | apply And.intro | exact (fun _ _ _ _ => Cell.le_refl _) | (intro i hi; rfl) | (intro i hi; exact absurd hi (Nat.not_lt_zero _)))), (by show List.Nodup [7]; decide), rfl, ?_⟩⟩
        repeat' (first | exact trivial | exact hO1 | exact hO2 | exact rfl | apply And.intro | exact (fun _ _ _ _ => Cell.le_refl _) | (intro i hi; exact absurd hi (Nat.not_lt_zero _)))

theorem twyAll (K : Nat) : Fn Tryd.prog 97 [] [(24, 32)] (sTwyN K) := by
  induction K with
  | zero =>
    refine Fn.plain (by kernel_rfl) (fun args h pre res h' hs => ?_) fun args h pre res h' hs hp ρ W us rel hus => ?_
    · unfold sTwyN at hs
      split at hs
      · cases hs; exact ⟨rfl, Nat.le_of_ble_eq_true rfl⟩
      · cases hs
    · unfold sTwyN at hs
      split at hs
      · cases hs; exact absurd hp.2.2.2.2.1 (Nat.not_lt_zero _)
      · cases hs
  | succ K ih => exact twyStep K ih
def rwyPre0 (ty one m : Nat) (gets : Nat → List CV) (leaf : List CV) (n i : Int) : Prop := ty = 24 ∧ one = 32 ∧ HashesAt m gets ∧ HashC leaf ∧ m ≤ 1000 ∧ fdB m n i = true
def sTwy : SpecF
  | [.c (.int .i64 a), .c (.int .i64 i), .agg leaf, .c (.row 0)], [.elems ty one m gets] => some (rwyPre0 ty one m gets leaf a i, .tup [(some (.row 1), []), (none, hashC (foldG gets leaf m a i))], [.dead, .row 9 1 (wyN gets leaf m a i) (stG (wyT gets leaf m a i))])
  | _, _ => none

theorem twyP : Fn Tryd.prog 97 [] [(24, 32)] sTwy := by
  refine Fn.plain (by kernel_rfl) (fun args h pre res h' hs => ?_) fun args h pre res h' hs hp ρ W us rel hus => ?_
  · unfold sTwy at hs
    split at hs
    · cases hs; exact ⟨rfl, Nat.le_of_ble_eq_true rfl⟩
    · cases hs
  · unfold sTwy at hs
    split at hs
    rotate_left
    · cases hs
    rename_i a i leaf ty one m gets
    cases hs
    obtain ⟨h1, h2, h3, h4, h5⟩ := hp
    exact (twyAll (m + 1)).run _ _ _ _ _ rfl ⟨h1, h2, h3, h4, Nat.lt_succ_self m, h5⟩ ρ W us rel hus
end Go.Proofs.YthomoliklfmnkaaDoor.Vx
end

section
/- What a proof shows, by the walker. -/
namespace Go.Proofs.YthomoliklfmnkaaDoor.Vx
open Sha
open Go.RowKit
set_option linter.unusedVariables false
set_option linter.unusedSimpArgs false
def unPre (gg sz0 n0 : Nat) (get0 : Nat → List CV) (root : List CV) (c : Int) (ty sz n : Nat) (get : Nat → Nat → Cell) : Prop := KsAt gg sz0 n0 get0 ∧ HashC root ∧ leavesPre ty sz n get ∧ mayL c (leafL n get) = true
theorem mayL_all {c : Int} {L : List PLeaf} (h : mayL c L = true) : (0 ≤ c ∧ c ≤ 1073741824 ∧ L.length ≤ 2) ∧ ∀ i, i < L.length → mayAt c L i = true := by
  unfold mayL at h
  simp only [Bool.and_eq_true, decide_eq_true_iff, List.all_eq_true, List.mem_range] at h
  exact ⟨⟨h.1, h.2.1, h.2.2.1⟩, h.2.2.2⟩
theorem pG_hashes {L : List PLeaf} (hok : ∀ x ∈ L, x.ok) {i : Nat} (hi : i < L.length) : HashesAt (lN L i) (pG (lP L i)) := fun j hj => by
  have e : L.getD i .none = L[i] := by simp [List.getD, hi]
  have hj : j < L[i].p.length := by unfold lN lP at hj; rwa [e] at hj
  refine ⟨fun m => ((lP L i).getD j []).getD m 0, rfl, fun m => ?_⟩
  have e2 : (lP L i).getD j [] = L[i].p[j] := by unfold lP; rw [e, List.getD_eq_getElem?_getD, List.getElem?_eq_getElem hj]; rfl
  show 0 ≤ ((lP L i).getD j []).getD m 0 ∧ ((lP L i).getD j []).getD m 0 < 256
  rw [e2]
  have hh := (hok _ (List.getElem_mem hi)).hs _ (List.getElem_mem hj)
  by_cases hm : m < L[i].p[j].length
  · rw [List.getD_eq_getElem?_getD, List.getElem?_eq_getElem hm]
    exact hh.2 _ (List.getElem_mem hm)
  · rw [List.getD_eq_getElem?_getD, List.getElem?_eq_none (by omega)]
    exact ⟨Int.le_refl _, by decide⟩
theorem fdH_range {gets : Nat → List CV} {leaf : List CV} (hl : HashC leaf) (m : Nat) (a i : Int) (j : Nat) : 0 ≤ fdH gets leaf m a i j ∧ fdH gets leaf m a i j < 256 := by
  unfold fdH
  split
  · exact foldR_range (fun j => hOf_range hl j) _ _ _ j
  · exact ⟨Int.le_refl 0, (by decide : (0 : Int) < 256)⟩
attribute [local cbv_opaque] prK prV prL ltB findI findB szB setL putS getL Lib.compareBytes prPre goodAt goodL prPreR riseL KsAt leafF leafPre topG topPre0 rootF rootPre sumI hOf HashC kOf u8s lfG rootL sumsPre lK lV lI lP lN pG leafL leafOf leavesPre mayAt mayL lightAt lightL deep leavesAt0 hNm wyL mkLeaf mkL mkC mkFrom mkTo wayG hashesG wayPre0 mkPre lenL stX stAt underB valB valV lackE lackB unPre fdB fdH fdPre eqH
def sUndP : SpecF
  | [.agg root, .agg [.int .i64 c, .row 1]], [.glob gg sz0 n0 get0, .data fr ty sz n get] => some (unPre gg sz0 n0 get0 root c ty sz n get, .c (.bool (underB (hOf root) c (leafL n get))), [.dead, .dead])
  | _, _ => none

set_option maxRecDepth 100000 in
set_option maxHeartbeats 16000000 in
theorem undPrP : Fn Tryd.prog 87 [0] [(115, 204)] sUndP := by
  have hC : CtsOk Tryd.prog [(123, appFn [0] [] sLeaf), (127, appFn [0] [(24, 32)] sFold), (77, appFn [0] [] sRoot)] := CtsOk.cons (Fn.ct leafP) <| CtsOk.cons (Fn.ct fdP) <| CtsOk.cons (Fn.ct rootP) <| CtsOk.nil _
  refine Fn.of (E := tbMk) [0] 0 [(4, [(9999, true), (0, true), (1, true), (2, true), (3, true), (4, true), (5, true), (6, true), (7, true), (9, true), (10, true), (3008, false), (3011, false), (12, true), (13, true), (14, true), (15, false), (16, false), (17, true), (2999, false), (15, false), (11, false), (12, true), (13, true), (14, true), (16, false), (17, true), (2999, false), (15, false), (8, false), (11, false), (12, true), (13, true), (14, true), (16, false), (17, true), (2999, false)]), (5, [(0, true), (1, true), (2, true), (3, true), (4, true), (5, true), (7, true), (6, false), (8, true), (9, true)])] tbMk_ok hC (by kernel_rfl) Tryd.func87 rfl rfl rfl (by kernel_rfl) (by kernel_rfl) 2 5 1 ?_ ?_
  · intro args h pre r h' hs
    unfold sUndP at hs
    split at hs
    · cases hs; exact ⟨rfl, rfl, Nat.le_of_ble_eq_true rfl⟩
    · cases hs
  · intro args h pre r h' hs hp
    unfold sUndP at hs
    split at hs
    rotate_left
    · cases hs
    rename_i root c gg sz0 n0 get0 fr ty sz n get
    cases hs
    obtain ⟨hK, ⟨f, rfl, hf_⟩, ⟨rfl, rfl, hst, hok, hm⟩, hmay⟩ := hp
    refine ⟨[.glob 0 1 64 (fun i => [.int .u32 (kOf i)]), .data fr 115 4 n (leafG false (leafL n get))], ⟨hK.same.1, ⟨rfl, rfl, rfl, rfl, fun i j hi hj => by rw [hst i j hi hj]; exact Cell.le_refl _⟩, trivial⟩, ?_⟩
    clear hK
    have hL : (leafL n get).length = n := leafL_len
    generalize leafL n get = L at hL hok hmay ⊢
    generalize hU : underB (hOf (hashC f)) c L = U
    unfold hashC
    unfold sLeaf sFold sRoot
    generalize hg0 : (List.length : List UInt8 → Nat) = g0
    generalize hL : lft Tryd.prog _ = L
    generalize hA : Arith.std = A
    set_option cbv.maxSteps 4000000 in cbv
    subst hA hg0 hL
    obtain ⟨hcr, hma⟩ := mayL_all hmay
    show Runs Tryd.prog 2 (.loop _) _ _
    refine loop_ruleR (N := env (lft Tryd.prog 2) 0 .std tbMk [(123, appFn [0] [] sLeaf), (127, appFn [0] [(24, 32)] sFold), (77, appFn [0] [] sRoot)] [(4, [(9999, true), (0, true), (1, true), (2, true), (3, true), (4, true), (5, true), (6, true), (7, true), (9, true), (10, true), (3008, false), (3011, false), (12, true), (13, true), (14, true), (15, false), (16, false), (17, true), (2999, false), (15, false), (11, false), (12, true), (13, true), (14, true), (16, false), (17, true), (2999, false), (15, false), (8, false), (11, false), (12, true), (13, true), (14, true), (16, false), (17, true), (2999, false)]), (5, [(0, true), (1, true), (2, true), (3, true), (4, true), (5, true), (7, true), (6, false), (8, true), (9, true)])]) rfl tbMk_ok hC (fun c st K _ h => h) (by kernel_rfl) [0] (X := LIx n (stAt (hOf (hashC f)) c L))
      (S := fun x => ⟨[.any, .any, .c (.ptr 2 0), .c (.ptr 3 0), .any, .any, .any, .any, .any, .any, .c (.row 1), .c (.int .i64 (n : Int)), .c (.int .i64 x.i)] ++ List.replicate 29 .any, [.glob 0 1 64 (fun i => [.int .u32 (kOf i)]), .data fr 115 4 n (leafG false L), .cells 24 [.int .u8 (f 0), .int .u8 (f 1), .int .u8 (f 2), .int .u8 (f 3), .int .u8 (f 4), .int .u8 (f 5), .int .u8 (f 6), .int .u8 (f 7), .int .u8 (f 8), .int .u8 (f 9), .int .u8 (f 10), .int .u8 (f 11), .int .u8 (f 12), .int .u8 (f 13), .int .u8 (f 14), .int .u8 (f 15), .int .u8 (f 16), .int .u8 (f 17), .int .u8 (f 18), .int .u8 (f 19), .int .u8 (f 20), .int .u8 (f 21), .int .u8 (f 22), .int .u8 (f 23), .int .u8 (f 24), .int .u8 (f 25), .int .u8 (f 26), .int .u8 (f 27), .int .u8 (f 28), .int .u8 (f 29), .int .u8 (f 30), .int .u8 (f 31)], .cells 27 [.int .i64 c, .row 1]]⟩) (μ := fun x => n - x.i.toNat) ⟨0, by omega, by omega, fun k hk => absurd hk (by omega)⟩ (by kernel_rfl) [0, 1, 2, 3] ?h0 ?rd
    case h0 =>
      refine ⟨rfl, by decide, ?_, ?_⟩ <;> repeat' (first | exact trivial | exact rfl | apply And.intro | exact (fun _ _ _ _ => Cell.le_refl _) | (intro i hi; rfl) | (intro i hi; exact absurd hi (Nat.not_lt_zero _)))
    case rd =>
      rintro ⟨i, hi0, hin, hP⟩
      unfold sLeaf sFold sRoot
      generalize hg0 : (List.length : List UInt8 → Nat) = g0
      generalize hL : lft Tryd.prog _ = L
      generalize hA : Arith.std = A
      set_option cbv.maxSteps 4000000 in cbv
      subst hA hg0 hL
      replace hi0 : 0 ≤ i := hi0
      replace hin : i ≤ @Nat.cast Int instNatCastInt n := hin
      replace hP : ∀ k, k < i.toNat → stAt (hOf (hashC f)) c L k = true := hP
      refine Ife.mk (fun hlt => ?_) (fun hlt => ?_)
      · replace hlt : i < @Nat.cast Int instNatCastInt n := of_decide_eq_true (p := i < (n : Int)) hlt
        have hiL : i.toNat < L.length := by omega
        have hA := mayAt_iff.1 (hma _ hiL)
        have hd := deep_30 c (lI L i.toNat)
        have hlf : HashC (hashC (leafF (lK L i.toNat) (lV L i.toNat))) := ⟨_, rfl, fun j => sumI_range _ j⟩
        have p0 : 0 ≤ i ∧ i < (n : Int) := by omega
        have p0' : i.toNat < n := by omega
        have p1 : leafPre 0 1 64 (fun i => [.int .u32 (kOf i)]) (lK L i.toNat) (lV L i.toNat) := ⟨ksAt_self, by omega, by omega⟩
        have p2 : fdPre 0 1 64 (fun i => [.int .u32 (kOf i)]) 24 32 (lN L i.toNat) (pG (lP L i.toNat)) (hashC (leafF (lK L i.toNat) (lV L i.toNat))) := ⟨ksAt_self, rfl, rfl, pG_hashes hok hiL, hlf, by omega⟩
        have p3 : rootPre 0 1 64 (fun i => [.int .u32 (kOf i)]) (hashC (fdH (pG (lP L i.toNat)) (hashC (leafF (lK L i.toNat) (lV L i.toNat))) (lN L i.toNat) c (lI L i.toNat))) := ⟨ksAt_self, _, rfl, fun j => fdH_range hlf _ _ _ j⟩
        have eS : stAt (hOf (hashC f)) c L i.toNat = (fdB (lN L i.toNat) c (lI L i.toNat) && eqH (rootF c (hashB (fdH (pG (lP L i.toNat)) (hashC (leafF (lK L i.toNat) (lV L i.toNat))) (lN L i.toNat) c (lI L i.toNat)))) (hOf (hashC f))) := rfl
        have no : stAt (hOf (hashC f)) c L i.toNat = false → underB (hOf (hashC f)) c L = false := fun h => all_no hiL (by rw [h]; simp)
        repeat' (first | refine Both.mk ?_ ?_ | refine Need.mk p0 fun _ => ?_ | refine Need.mk p0' fun _ => ?_ | refine Need.mk p1 fun _ => ?_ | refine Need.mk p2 fun _ => ?_)
        all_goals
          refine Ife.mk (fun h => ?_) (fun h => ?_)
          · have h : fdB (lN L i.toNat) c (lI L i.toNat) = false := by simpa using (show (!fdB (lN L i.toNat) c (lI L i.toNat)) = true from h)
            rw [show U = false from hU.symm.trans (no (by rw [eS, h]; rfl))]
            exact ⟨[0, 1], ⟨rfl, by repeat' (first | exact trivial | exact rfl | apply And.intro | exact (fun _ _ _ _ => Cell.le_refl _) | (intro i hi; rfl) | (intro i hi; exact absurd hi (Nat.not_lt_zero _))), by decide, rfl, by repeat' (first | exact trivial | exact rfl | apply And.intro | exact (fun _ _ _ _ => Cell.le_refl _) | (intro i hi; rfl) | (intro i hi; exact absurd hi (Nat.not_lt_zero _)))⟩⟩
          · have h : fdB (lN L i.toNat) c (lI L i.toNat) = true := by simpa using (show (!fdB (lN L i.toNat) c (lI L i.toNat)) = false from h)
            refine Need.mk p3 fun _ => ?_
            refine Ife.mk (fun h2 => ?_) (fun h2 => ?_)
            · have h2 : (!eqH (rootF c (hashB (fdH (pG (lP L i.toNat)) (hashC (leafF (lK L i.toNat) (lV L i.toNat))) (lN L i.toNat) c (lI L i.toNat)))) (hOf (hashC f))) = true := h2
              rw [show U = false from hU.symm.trans (no (by rw [eS, h, Bool.true_and]; simpa using h2))]
              exact ⟨[0, 1], ⟨rfl, by repeat' (first | exact trivial | exact rfl | apply And.intro | exact (fun _ _ _ _ => Cell.le_refl _) | (intro i hi; rfl) | (intro i hi; exact absurd hi (Nat.not_lt_zero _))), by decide, rfl, by repeat' (first | exact trivial | exact rfl | apply And.intro | exact (fun _ _ _ _ => Cell.le_refl _) | (intro i hi; rfl) | (intro i hi; exact absurd hi (Nat.not_lt_zero _)))⟩⟩
            · have h2 : (!eqH (rootF c (hashB (fdH (pG (lP L i.toNat)) (hashC (leafF (lK L i.toNat) (lV L i.toNat))) (lN L i.toNat) c (lI L i.toNat)))) (hOf (hashC f))) = false := h2
              refine Need.mk (by show fitStd .i64 (i + 1); unfold fitStd; omega) fun _ => ?_
              refine ⟨⟨i + 1, by omega, by omega, lix_next hi0 hP (by rw [eS, h, Bool.true_and]; simpa using h2)⟩, [0, 1, 2, 3], (by show n - (i + 1).toNat < n - i.toNat; omega), ?_⟩
              refine ⟨rfl, by decide, ?_, ?_⟩ <;> repeat' (first | exact trivial | exact rfl | apply And.intro | exact (fun _ _ _ _ => Cell.le_refl _) | (intro i hi; rfl) | (intro i hi; exact absurd hi (Nat.not_lt_zero _)))
      · replace hlt : ¬ i < @Nat.cast Int instNatCastInt n := of_decide_eq_false (p := i < (n : Int)) hlt
        rw [show U = true from hU.symm.trans (all_yes hP (by omega))]
        exact ⟨[0, 1], ⟨rfl, by repeat' (first | exact trivial | exact rfl | apply And.intro | exact (fun _ _ _ _ => Cell.le_refl _) | (intro i hi; rfl) | (intro i hi; exact absurd hi (Nat.not_lt_zero _))), by decide, rfl, by repeat' (first | exact trivial | exact rfl | apply And.intro | exact (fun _ _ _ _ => Cell.le_refl _) | (intro i hi; rfl) | (intro i hi; exact absurd hi (Nat.not_lt_zero _)))⟩⟩

end Go.Proofs.YthomoliklfmnkaaDoor.Vx
end
