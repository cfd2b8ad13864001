/- The texts whose sums are taken on the way up from a leaf, by the walker. -/
import Derived.Test.YthomoliklfmnkaaDoorM36
import Derived.Test.YthomoliklfmnkaaDoorM27
import Derived.Test.YthomoliklfmnkaaDoorM25
import Derived.Test.YthomoliklfmnkaaDoorM24
section
namespace Go.Proofs.YthomoliklfmnkaaDoor.Vx
open Sha
open Go.RowKit
set_option linter.unusedVariables false
set_option linter.unusedSimpArgs false
def wyT (gets : Nat → List CV) (leaf : List CV) (m : Nat) (n i : Int) : List (List UInt8) := wayT (fun j => hOf (gets j)) (hOf leaf) m n i
def wyN (gets : Nat → List CV) (leaf : List CV) (m : Nat) (n i : Int) : Nat := (wyT gets leaf m n i).length
theorem wayT_len (W : Nat → Nat → Int) (leaf : Nat → Int) : ∀ (k : Nat) (n i : Int), (wayT W leaf k n i).length = k
  | 0, _, _ => rfl
  | k + 1, n, i => by
    unfold wayT
    split <;> rw [List.length_append, wayT_len W leaf k] <;> rfl
theorem wayT_congr {W W' : Nat → Nat → Int} (leaf : Nat → Int) : ∀ (k : Nat) (n i : Int), (∀ j, j < k → W j = W' j) → wayT W leaf k n i = wayT W' leaf k n i
  | 0, _, _, _ => rfl
  | k + 1, n, i, h => by
    unfold wayT
    rw [wayT_congr leaf k (hf n) i (fun j hj => h j (by omega)), wayT_congr leaf k (n - hf n) (i - hf n) (fun j hj => h j (by omega)), foldR_congr leaf k (hf n) i (fun j hj => h j (by omega)), foldR_congr leaf k (n - hf n) (i - hf n) (fun j hj => h j (by omega)), h k (by omega)]
def rwyPre (K : Nat) (ty one m : Nat) (gets : Nat → List CV) (leaf : List CV) (n i : Int) : Prop := ty = 24 ∧ one = 32 ∧ HashesAt m gets ∧ HashC leaf ∧ m < K ∧ m ≤ 1000 ∧ fdB m n i = true
def sTwyN (K : Nat) : SpecF
  | [.c (.int .i64 a), .c (.int .i64 i), .agg leaf, .c (.row 0)], [.elems ty one m gets] => some (rwyPre K ty one m gets leaf a i, .tup [(some (.row 1), []), (none, hashC (foldG gets leaf m a i))], [.dead, .row 9 1 (wyN gets leaf m a i) (stG (wyT gets leaf m a i))])
  | _, _ => none
set_option maxRecDepth 100000 in
set_option maxHeartbeats 16000000 in
theorem twyStep (K : Nat) (ih : Fn Tryd.prog 97 [] [(24, 32)] (sTwyN K)) : Fn Tryd.prog 97 [] [(24, 32)] (sTwyN (K + 1)) := by
  have hC : CtsOk Tryd.prog [(124, appPure sRHalf), (97, appFn [] [(24, 32)] (sTwyN K)), (96, appPure sText), (92, appPure sRSum)] := CtsOk.cons (Pure.ct rhalfP) <| CtsOk.cons (Fn.ct ih) <| CtsOk.cons (Pure.ct rtextP) <| CtsOk.cons (Pure.ct rsumP) <| CtsOk.nil _
  refine Fn.of (E := tbFg) [] 0 [(2, [(2002, false), (0, true), (1, true), (2, false)]), (5, [(9999, true), (0, true), (1, true), (2, true), (3, true), (4, true), (5, true), (3006, false), (7, true), (8, true), (9, true), (10, false), (11, true), (12, false), (2999, false), (10, false), (6, false), (7, true), (8, true), (9, true), (11, true), (12, false), (2999, false)]), (6, [(0, true), (3, true), (4, true), (5, true), (6, true), (1, false), (2, true), (7, false), (8, true), (9, true)]), (8, [(9999, true), (0, true), (1, true), (2, true), (3, true), (4, true), (5, true), (6, true), (7, true), (8, true), (9, true), (3010, false), (11, true), (12, true), (13, true), (14, false), (15, true), (16, false), (2999, false), (14, false), (10, false), (11, true), (12, true), (13, true), (15, true), (16, false), (2999, false)]), (9, [(0, true), (1, true), (2, true), (3, true), (6, true), (4, false), (5, true), (7, false), (8, true), (9, true)])] tbFg_ok hC (by kernel_rfl) Tryd.func97 rfl rfl rfl (by kernel_rfl) (by kernel_rfl) 1 9 1 ?_ ?_
  · intro args h pre r h' hs
    unfold sTwyN at hs
    split at hs
    · cases hs; exact ⟨rfl, rfl, Nat.le_of_ble_eq_true rfl⟩
    · cases hs
  · intro args h pre r h' hs hp
    unfold sTwyN at hs
    split at hs
    rotate_left
    · cases hs
    rename_i a i leaf ty one m gets
    cases hs
    obtain ⟨rfl, rfl, hst, ⟨f, rfl, hf_⟩, hlt, hm, hB⟩ := hp
    refine ⟨[.elems 24 32 m (fun i => hashC (hOf (gets i)))], ⟨hst.same.1, trivial⟩, ?_⟩
    unfold hashC
    generalize ho0 : @sumI = zo0, ho1 : @hOf = zo1, ho2 : @HashC = zo2, ho3 : @u8s = zo3, ho4 : @hf = zo4, ho5 : @HashesAt = zo5, ho6 : @hashB = zo6, ho7 : @wyT = zo7, ho8 : @wyN = zo8, ho9 : @rwyPre = zo9, ho10 : @foldG = zo10, ho11 : @rsumPre = zo11
    generalize hs0 : @sRHalf = zs0, hs1 : @sTwyN = zs1, hs2 : @sText = zs2, hs3 : @sRSum = zs3
    generalize hA : Arith.std = A
    cbv
    subst hA ho0 ho1 ho2 ho3 ho4 ho5 ho6 ho7 ho8 ho9 ho10 ho11 hs0 hs1 hs2 hs3
    unfold sRHalf
    generalize ho0 : @sumI = zo0, ho1 : @hOf = zo1, ho2 : @HashC = zo2, ho3 : @u8s = zo3, ho4 : @hf = zo4, ho5 : @HashesAt = zo5, ho6 : @hashB = zo6, ho7 : @wyT = zo7, ho8 : @wyN = zo8, ho9 : @rwyPre = zo9, ho10 : @foldG = zo10, ho11 : @rsumPre = zo11
    generalize hs0 : @sTwyN = zs0, hs1 : @sText = zs1, hs2 : @sRSum = zs2
    generalize hA : Arith.std = A
    cbv
    subst hA ho0 ho1 ho2 ho3 ho4 ho5 ho6 ho7 ho8 ho9 ho10 ho11 hs0 hs1 hs2
    unfold sTwyN
    generalize ho0 : @sumI = zo0, ho1 : @hOf = zo1, ho2 : @HashC = zo2, ho3 : @u8s = zo3, ho4 : @hf = zo4, ho5 : @HashesAt = zo5, ho6 : @hashB = zo6, ho7 : @wyT = zo7, ho8 : @wyN = zo8, ho9 : @rwyPre = zo9, ho10 : @foldG = zo10, ho11 : @rsumPre = zo11
    generalize hs0 : @sText = zs0, hs1 : @sRSum = zs1
    generalize hA : Arith.std = A
    cbv
    subst hA ho0 ho1 ho2 ho3 ho4 ho5 ho6 ho7 ho8 ho9 ho10 ho11 hs0 hs1
    unfold sText
    generalize ho0 : @sumI = zo0, ho1 : @hOf = zo1, ho2 : @HashC = zo2, ho3 : @u8s = zo3, ho4 : @hf = zo4, ho5 : @HashesAt = zo5, ho6 : @hashB = zo6, ho7 : @wyT = zo7, ho8 : @wyN = zo8, ho9 : @rwyPre = zo9, ho10 : @foldG = zo10, ho11 : @rsumPre = zo11
    generalize hs0 : @sRSum = zs0
    generalize hA : Arith.std = A
    cbv
    subst hA ho0 ho1 ho2 ho3 ho4 ho5 ho6 ho7 ho8 ho9 ho10 ho11 hs0
    unfold sRSum
    generalize ho0 : @sumI = zo0, ho1 : @hOf = zo1, ho2 : @HashC = zo2, ho3 : @u8s = zo3, ho4 : @hf = zo4, ho5 : @HashesAt = zo5, ho6 : @hashB = zo6, ho7 : @wyT = zo7, ho8 : @wyN = zo8, ho9 : @rwyPre = zo9, ho10 : @foldG = zo10, ho11 : @rsumPre = zo11
    generalize hA : Arith.std = A
    cbv
    subst hA ho0 ho1 ho2 ho3 ho4 ho5 ho6 ho7 ho8 ho9 ho10 ho11
    have hL : HashC (hashC f) := ⟨_, rfl, hf_⟩
    obtain ⟨hin, hdp⟩ := fdB_iff.1 hB
    have out0 : m = 0 → ∃ σ, LeftF 9 1 1 σ (.tup [(some (.val (.slice none 0 0)), []), (none, hashC f)]) [.elems 24 32 m (fun i => hashC (hOf (gets i))), .cells 24 (hashC f), .cells 24 (hashC f)] (.tup [(some (.row 1), []), (none, hashC (foldG gets (hashC f) m a i))]) [.dead, .row 9 1 (wyN gets (hashC f) m a i) (stG (wyT gets (hashC f) m a i))] := fun h => by
      subst h
      have e : foldG gets (hashC f) 0 a i = hOf (hashC f) := rfl
      have e2 : wyN gets (hashC f) 0 a i = 0 := rfl
      rw [e, e2]
      exact ⟨[0, 3], ⟨rfl, (by repeat' (first | exact trivial | exact rfl | apply And.intro | exact (fun _ _ _ _ => Cell.le_refl _) | (intro i hi; rfl) | (intro i hi; exact absurd hi (Nat.not_lt_zero _)))), (by show List.Nodup [3]; decide), rfl, by repeat' (first | exact trivial | exact rfl | apply And.intro | exact (fun _ _ _ _ => Cell.le_refl _) | (intro i hi; rfl) | (intro i hi; exact absurd hi (Nat.not_lt_zero _)))⟩⟩
    refine Ife.mk (fun h => ?_) (fun h => ?_)
    · have h : a ≤ 1 := of_decide_eq_true (p := a ≤ 1) h
      exact out0 (by have := deep_out (n := a) (i := i) (by omega); omega)
    have c1 : ¬ a ≤ 1 := of_decide_eq_false (p := a ≤ 1) h
    refine Ife.mk (fun h => ?_) (fun h => ?_)
    · have h : (m : Int) = 0 := of_decide_eq_true (p := (m : Int) = 0) h
      exact out0 (by omega)
    have c2 : ¬ (m : Int) = 0 := of_decide_eq_false (p := (m : Int) = 0) h
    clear out0
    have hh := hf_lt (n := a) (by omega) (by omega)
    have hin2 : 1 < a ∧ a ≤ 1073741824 ∧ 0 ≤ i ∧ i < a := by omega
    obtain ⟨k, rfl⟩ : ∃ k, m = k + 1 := ⟨m - 1, by omega⟩
    have kk : (((k + 1 : Nat) : Int) - 1 - 0).toNat = k := by omega
    have kl : (((k + 1 : Nat) : Int) - 1).toNat = k := by omega
    have cgF : ∀ n j : Int, foldG (fun j => hashC (hOf (gets (0 + j)))) (hashC f) (((k + 1 : Nat) : Int) - 1 - 0).toNat n j = foldR (fun j => hOf (gets j)) (hOf (hashC f)) k n j := fun n j => by
      rw [kk]
      unfold foldG
      refine foldR_congr _ k n j fun j hj => ?_
      show hOf (hashC (hOf (gets (0 + j)))) = hOf (gets j)
      rw [Nat.zero_add]
      exact hOf_idem (hst j (by omega))
    have cgT : ∀ n j : Int, wyT (fun j => hashC (hOf (gets (0 + j)))) (hashC f) (((k + 1 : Nat) : Int) - 1 - 0).toNat n j = wayT (fun j => hOf (gets j)) (hOf (hashC f)) k n j := fun n j => by
      rw [kk]
      unfold wyT
      refine wayT_congr _ k n j fun j hj => ?_
      show hOf (hashC (hOf (gets (0 + j)))) = hOf (gets j)
      rw [Nat.zero_add]
      exact hOf_idem (hst j (by omega))
    have cgN : ∀ n j : Int, wyN (fun j => hashC (hOf (gets (0 + j)))) (hashC f) (((k + 1 : Nat) : Int) - 1 - 0).toNat n j = k := fun n j => by unfold wyN; rw [cgT, wayT_len]
    have z1 : HashesAt (((k + 1 : Nat) : Int) - 1 - 0).toNat (fun j => hashC (hOf (gets (0 + j)))) := hst.cut 0 _ (by omega)
    have rg : ∀ n j : Int, HashC (hashC (foldG (fun j => hashC (hOf (gets (0 + j)))) (hashC f) (((k + 1 : Nat) : Int) - 1 - 0).toNat n j)) := fun n j => by rw [cgF]; exact ⟨_, rfl, foldR_range (fun j => hOf_range hL j) k n j⟩
    have rk : HashC (hashC (hOf (gets (((k + 1 : Nat) : Int) - 1).toNat))) := ⟨_, rfl, fun j => hOf_range (hst _ (by omega)) j⟩
    have fl : fitStd .i64 (((k + 1 : Nat) : Int) - 1) := by unfold fitStd; omega
    have n1 : (0 : Int) ≤ 0 ∧ (0 : Int) ≤ ((k + 1 : Nat) : Int) - 1 ∧ ((k + 1 : Nat) : Int) - 1 ≤ ((k + 1 : Nat) : Int) := by omega
    have n2 : (0 : Int) ≤ ((k + 1 : Nat) : Int) - 1 ∧ ((k + 1 : Nat) : Int) - 1 < ((k + 1 : Nat) : Int) := by omega
    have n3 : (((k + 1 : Nat) : Int) - 1).toNat < k + 1 := by omega
    have n6 : (1 : Int) + 32 ≤ 9223372036854775807 := by decide
    have n7 : (33 : Int) + 32 ≤ 9223372036854775807 := by decide
    have n8 : 1 + 32 + 32 ≤ 140737488350000 := by decide
    refine Need.mk trivial fun _ => Need.mk fl fun _ => ?_
    refine Ife.mk (fun h => ?_) (fun h => ?_)
    · have h : i < hf a := of_decide_eq_true (p := i < hf a) h
      have p1 : rwyPre K 24 32 (((k + 1 : Nat) : Int) - 1 - 0).toNat (fun j => hashC (hOf (gets (0 + j)))) (hashC f) (hf a) i := ⟨rfl, rfl, z1, hL, by omega, by omega, by rw [kk]; exact fdB_iff.2 ⟨by omega, by rw [deep_lo hin2 h] at hdp; omega⟩⟩
      have n9 : wyN (fun j => hashC (hOf (gets (0 + j)))) (hashC f) (((k + 1 : Nat) : Int) - 1 - 0).toNat (hf a) i + 1 ≤ maxLen ∧ (wyN (fun j => hashC (hOf (gets (0 + j)))) (hashC f) (((k + 1 : Nat) : Int) - 1 - 0).toNat (hf a) i + 1) * 16 ≤ 140737488355328 := by rw [cgN]; unfold maxLen; omega
      have hT : wyT gets (hashC f) (k + 1) a i = wayT (fun j => hOf (gets j)) (hOf (hashC f)) k (hf a) i ++ [tNode (foldR (fun j => hOf (gets j)) (hOf (hashC f)) k (hf a) i) (hOf (gets k))] := by
        show wayT _ _ _ _ _ = _
        rw [wayT, if_pos h]
      have hN : wyN gets (hashC f) (k + 1) a i = k + 1 := wayT_len _ _ _ _ _
      have hS : hashC (sumI ([1] ++ u8s (hashC (foldG (fun j => hashC (hOf (gets (0 + j)))) (hashC f) (((k + 1 : Nat) : Int) - 1 - 0).toNat (hf a) i)) ++ u8s (hashC (hOf (gets (((k + 1 : Nat) : Int) - 1).toNat))))) = hashC (foldG gets (hashC f) (k + 1) a i) := by
        rw [u8s_hash, u8s_hash, cgF, kl]
        unfold foldG
        rw [foldR, if_pos h]
        rfl
      have hO1 : (wyN (fun j => hashC (hOf (gets (0 + j)))) (hashC f) (((k + 1 : Nat) : Int) - 1 - 0).toNat (hf a) i).succ = wyN gets (hashC f) (k + 1) a i := by rw [cgN, hN]
      have hO2 : ∀ x, x < wyN gets (hashC f) (k + 1) a i → pushG (wyN (fun j => hashC (hOf (gets (0 + j)))) (hashC f) (((k + 1 : Nat) : Int) - 1 - 0).toNat (hf a) i) (stG (wyT (fun j => hashC (hOf (gets (0 + j)))) (hashC f) (((k + 1 : Nat) : Int) - 1 - 0).toNat (hf a) i)) [.str ([1] ++ u8s (hashC (foldG (fun j => hashC (hOf (gets (0 + j)))) (hashC f) (((k + 1 : Nat) : Int) - 1 - 0).toNat (hf a) i)) ++ u8s (hashC (hOf (gets (((k + 1 : Nat) : Int) - 1).toNat))))] x = stG (wyT gets (hashC f) (k + 1) a i) x := fun x hx => by
        rw [cgT, cgN, u8s_hash, u8s_hash, cgF, kl, hT]
        rw [hN] at hx
        have := stG_push (wayT (fun j => hOf (gets j)) (hOf (hashC f)) k (hf a) i) (tNode (foldR (fun j => hOf (gets j)) (hOf (hashC f)) k (hf a) i) (hOf (gets k))) x (by rw [wayT_len]; exact hx)
        rw [wayT_len] at this
        exact this
      refine Need.mk n1 fun _ => Both.mk ?_ ?_
      all_goals refine Need.mk p1 fun _ => Need.mk n2 fun _ => Need.mk n3 fun _ => Need.mk (rg _ _) fun _ => Need.mk n6 fun _ => Need.mk rk fun _ => Need.mk n7 fun _ => Need.mk n9 fun _ => Need.mk n8 fun _ => ?_
      all_goals
        show ∃ σ, LeftF _ _ _ σ _ _ (.tup [(some (.row 1), []), (none, hashC (foldG gets (hashC f) (k + 1) a i))]) [.dead, .row 9 1 (wyN gets (hashC f) (k + 1) a i) (stG (wyT gets (hashC f) (k + 1) a i))]
        rw [← hS]
        refine ⟨[0, 7], ⟨rfl, (by repeat' (first | exact trivial | exact rfl | apply And.intro | exact (fun _ _ _ _ => Cell.le_refl _) | (intro i hi; rfl) | (intro i hi; exact absurd hi (Nat.not_lt_zero _)))), (by show List.Nodup [7]; decide), rfl, ?_⟩⟩
        repeat' (first | exact trivial | exact hO1 | exact hO2 | exact rfl | apply And.intro | exact (fun _ _ _ _ => Cell.le_refl _) | (intro i hi; exact absurd hi (Nat.not_lt_zero _)))
    · have h : ¬ i < hf a := of_decide_eq_false (p := i < hf a) h
      have p1 : rwyPre K 24 32 (((k + 1 : Nat) : Int) - 1 - 0).toNat (fun j => hashC (hOf (gets (0 + j)))) (hashC f) (a - hf a) (i - hf a) := ⟨rfl, rfl, z1, hL, by omega, by omega, by rw [kk]; exact fdB_iff.2 ⟨by omega, by rw [deep_hi hin2 h] at hdp; omega⟩⟩
      have n9 : wyN (fun j => hashC (hOf (gets (0 + j)))) (hashC f) (((k + 1 : Nat) : Int) - 1 - 0).toNat (a - hf a) (i - hf a) + 1 ≤ maxLen ∧ (wyN (fun j => hashC (hOf (gets (0 + j)))) (hashC f) (((k + 1 : Nat) : Int) - 1 - 0).toNat (a - hf a) (i - hf a) + 1) * 16 ≤ 140737488355328 := by rw [cgN]; unfold maxLen; omega
      have n4 : fitStd .i64 (a - hf a) := by unfold fitStd; omega
      have n5 : fitStd .i64 (i - hf a) := by unfold fitStd; omega
      have hT : wyT gets (hashC f) (k + 1) a i = wayT (fun j => hOf (gets j)) (hOf (hashC f)) k (a - hf a) (i - hf a) ++ [tNode (hOf (gets k)) (foldR (fun j => hOf (gets j)) (hOf (hashC f)) k (a - hf a) (i - hf a))] := by
        show wayT _ _ _ _ _ = _
        rw [wayT, if_neg h]
      have hN : wyN gets (hashC f) (k + 1) a i = k + 1 := wayT_len _ _ _ _ _
      have hS : hashC (sumI ([1] ++ u8s (hashC (hOf (gets (((k + 1 : Nat) : Int) - 1).toNat))) ++ u8s (hashC (foldG (fun j => hashC (hOf (gets (0 + j)))) (hashC f) (((k + 1 : Nat) : Int) - 1 - 0).toNat (a - hf a) (i - hf a))))) = hashC (foldG gets (hashC f) (k + 1) a i) := by
        rw [u8s_hash, u8s_hash, cgF, kl]
        unfold foldG
        rw [foldR, if_neg h]
        rfl
      have hO1 : (wyN (fun j => hashC (hOf (gets (0 + j)))) (hashC f) (((k + 1 : Nat) : Int) - 1 - 0).toNat (a - hf a) (i - hf a)).succ = wyN gets (hashC f) (k + 1) a i := by rw [cgN, hN]
      have hO2 : ∀ x, x < wyN gets (hashC f) (k + 1) a i → pushG (wyN (fun j => hashC (hOf (gets (0 + j)))) (hashC f) (((k + 1 : Nat) : Int) - 1 - 0).toNat (a - hf a) (i - hf a)) (stG (wyT (fun j => hashC (hOf (gets (0 + j)))) (hashC f) (((k + 1 : Nat) : Int) - 1 - 0).toNat (a - hf a) (i - hf a))) [.str ([1] ++ u8s (hashC (hOf (gets (((k + 1 : Nat) : Int) - 1).toNat))) ++ u8s (hashC (foldG (fun j => hashC (hOf (gets (0 + j)))) (hashC f) (((k + 1 : Nat) : Int) - 1 - 0).toNat (a - hf a) (i - hf a))))] x = stG (wyT gets (hashC f) (k + 1) a i) x := fun x hx => by
        rw [cgT, cgN, u8s_hash, u8s_hash, cgF, kl, hT]
        rw [hN] at hx
        have := stG_push (wayT (fun j => hOf (gets j)) (hOf (hashC f)) k (a - hf a) (i - hf a)) (tNode (hOf (gets k)) (foldR (fun j => hOf (gets j)) (hOf (hashC f)) k (a - hf a) (i - hf a))) x (by rw [wayT_len]; exact hx)
        rw [wayT_len] at this
        exact this
      refine Need.mk n4 fun _ => Need.mk n5 fun _ => Need.mk n1 fun _ => Both.mk ?_ ?_
      all_goals refine Need.mk p1 fun _ => Need.mk n2 fun _ => Need.mk n3 fun _ => Need.mk rk fun _ => Need.mk n6 fun _ => Need.mk (rg _ _) fun _ => Need.mk n7 fun _ => Need.mk n9 fun _ => Need.mk n8 fun _ => ?_
      all_goals
        show ∃ σ, LeftF _ _ _ σ _ _ (.tup [(some (.row 1), []), (none, hashC (foldG gets (hashC f) (k + 1) a i))]) [.dead, .row 9 1 (wyN gets (hashC f) (k + 1) a i) (stG (wyT gets (hashC f) (k + 1) a i))]
        rw [← hS]
        refine ⟨[0, 7], ⟨rfl, (by repeat' (first | exact trivial | exact rfl | apply And.intro | exact (fun _ _ _ _ => Cell.le_refl _) | (intro i hi; rfl) | (intro i hi; exact absurd hi (Nat.not_lt_zero _)))), (by show List.Nodup [7]; decide), rfl, ?_⟩⟩
        repeat' (first | exact trivial | exact hO1 | exact hO2 | exact rfl | apply And.intro | exact (fun _ _ _ _ => Cell.le_refl _) | (intro i hi; exact absurd hi (Nat.not_lt_zero _)))

theorem twyAll (K : Nat) : Fn Tryd.prog 97 [] [(24, 32)] (sTwyN K) := by
  induction K with
  | zero =>
    refine Fn.plain (by kernel_rfl) (fun args h pre res h' hs => ?_) fun args h pre res h' hs hp ρ W us rel hus => ?_
    · unfold sTwyN at hs
      split at hs
      · cases hs; exact ⟨rfl, Nat.le_of_ble_eq_true rfl⟩
      · cases hs
    · unfold sTwyN at hs
      split at hs
      · cases hs; exact absurd hp.2.2.2.2.1 (Nat.not_lt_zero _)
      · cases hs
  | succ K ih => exact twyStep K ih
def rwyPre0 (ty one m : Nat) (gets : Nat → List CV) (leaf : List CV) (n i : Int) : Prop := ty = 24 ∧ one = 32 ∧ HashesAt m gets ∧ HashC leaf ∧ m ≤ 1000 ∧ fdB m n i = true
def sTwy : SpecF
  | [.c (.int .i64 a), .c (.int .i64 i), .agg leaf, .c (.row 0)], [.elems ty one m gets] => some (rwyPre0 ty one m gets leaf a i, .tup [(some (.row 1), []), (none, hashC (foldG gets leaf m a i))], [.dead, .row 9 1 (wyN gets leaf m a i) (stG (wyT gets leaf m a i))])
  | _, _ => none

theorem twyP : Fn Tryd.prog 97 [] [(24, 32)] sTwy := by
  refine Fn.plain (by kernel_rfl) (fun args h pre res h' hs => ?_) fun args h pre res h' hs hp ρ W us rel hus => ?_
  · unfold sTwy at hs
    split at hs
    · cases hs; exact ⟨rfl, Nat.le_of_ble_eq_true rfl⟩
    · cases hs
  · unfold sTwy at hs
    split at hs
    rotate_left
    · cases hs
    rename_i a i leaf ty one m gets
    cases hs
    obtain ⟨h1, h2, h3, h4, h5⟩ := hp
    exact (twyAll (m + 1)).run _ _ _ _ _ rfl ⟨h1, h2, h3, h4, Nat.lt_succ_self m, h5⟩ ρ W us rel hus
end Go.Proofs.YthomoliklfmnkaaDoor.Vx
end

section
/- What a proof shows, by the walker. -/
namespace Go.Proofs.YthomoliklfmnkaaDoor.Vx
open Sha
open Go.RowKit
set_option linter.unusedVariables false
set_option linter.unusedSimpArgs false
def unPre (gg sz0 n0 : Nat) (get0 : Nat → List CV) (root : List CV) (c : Int) (ty sz n : Nat) (get : Nat → Nat → Cell) : Prop := KsAt gg sz0 n0 get0 ∧ HashC root ∧ leavesPre ty sz n get ∧ mayL c (leafL n get) = true
theorem mayL_all {c : Int} {L : List PLeaf} (h : mayL c L = true) : (0 ≤ c ∧ c ≤ 1073741824 ∧ L.length ≤ 2) ∧ ∀ i, i < L.length → mayAt c L i = true := by
  unfold mayL at h
  simp only [Bool.and_eq_true, decide_eq_true_iff, List.all_eq_true, List.mem_range] at h
  exact ⟨⟨h.1, h.2.1, h.2.2.1⟩, h.2.2.2⟩
theorem pG_hashes {L : List PLeaf} (hok : ∀ x ∈ L, x.ok) {i : Nat} (hi : i < L.length) : HashesAt (lN L i) (pG (lP L i)) := fun j hj => by
  have e : L.getD i .none = L[i] := by simp [List.getD, hi]
  have hj : j < L[i].p.length := by unfold lN lP at hj; rwa [e] at hj
  refine ⟨fun m => ((lP L i).getD j []).getD m 0, rfl, fun m => ?_⟩
  have e2 : (lP L i).getD j [] = L[i].p[j] := by unfold lP; rw [e, List.getD_eq_getElem?_getD, List.getElem?_eq_getElem hj]; rfl
  show 0 ≤ ((lP L i).getD j []).getD m 0 ∧ ((lP L i).getD j []).getD m 0 < 256
  rw [e2]
  have hh := (hok _ (List.getElem_mem hi)).hs _ (List.getElem_mem hj)
  by_cases hm : m < L[i].p[j].length
  · rw [List.getD_eq_getElem?_getD, List.getElem?_eq_getElem hm]
    exact hh.2 _ (List.getElem_mem hm)
  · rw [List.getD_eq_getElem?_getD, List.getElem?_eq_none (by omega)]
    exact ⟨Int.le_refl _, by decide⟩
theorem fdH_range {gets : Nat → List CV} {leaf : List CV} (hl : HashC leaf) (m : Nat) (a i : Int) (j : Nat) : 0 ≤ fdH gets leaf m a i j ∧ fdH gets leaf m a i j < 256 := by
  unfold fdH
  split
  · exact foldR_range (fun j => hOf_range hl j) _ _ _ j
  · exact ⟨Int.le_refl 0, (by decide : (0 : Int) < 256)⟩
def sUndP : SpecF
  | [.agg root, .agg [.int .i64 c, .row 1]], [.glob gg sz0 n0 get0, .data fr ty sz n get] => some (unPre gg sz0 n0 get0 root c ty sz n get, .c (.bool (underB (hOf root) c (leafL n get))), [.dead, .dead])
  | _, _ => none

set_option maxRecDepth 100000 in
set_option maxHeartbeats 16000000 in
theorem undPrP : Fn Tryd.prog 87 [0] [(115, 204)] sUndP := by
  have hC : CtsOk Tryd.prog [(123, appFn [0] [] sLeaf), (127, appFn [0] [(24, 32)] sFold), (77, appFn [0] [] sRoot)] := CtsOk.cons (Fn.ct leafP) <| CtsOk.cons (Fn.ct fdP) <| CtsOk.cons (Fn.ct rootP) <| CtsOk.nil _
  refine Fn.of (E := tbMk) [0] 0 [(4, [(9999, true), (0, true), (1, true), (2, true), (3, true), (4, true), (5, true), (6, true), (7, true), (9, true), (10, true), (3008, false), (3011, false), (12, true), (13, true), (14, true), (15, false), (16, false), (17, true), (2999, false), (15, false), (11, false), (12, true), (13, true), (14, true), (16, false), (17, true), (2999, false), (15, false), (8, false), (11, false), (12, true), (13, true), (14, true), (16, false), (17, true), (2999, false)]), (5, [(0, true), (1, true), (2, true), (3, true), (4, true), (5, true), (7, true), (6, false), (8, true), (9, true)])] tbMk_ok hC (by kernel_rfl) Tryd.func87 rfl rfl rfl (by kernel_rfl) (by kernel_rfl) 2 5 1 ?_ ?_
  · intro args h pre r h' hs
    unfold sUndP at hs
    split at hs
    · cases hs; exact ⟨rfl, rfl, Nat.le_of_ble_eq_true rfl⟩
    · cases hs
  · intro args h pre r h' hs hp
    unfold sUndP at hs
    split at hs
    rotate_left
    · cases hs
    rename_i root c gg sz0 n0 get0 fr ty sz n get
    cases hs
    obtain ⟨hK, ⟨f, rfl, hf_⟩, ⟨rfl, rfl, hst, hok, hm⟩, hmay⟩ := hp
    refine ⟨[.glob 0 1 64 (fun i => [.int .u32 (kOf i)]), .data fr 115 4 n (leafG false (leafL n get))], ⟨hK.same.1, ⟨rfl, rfl, rfl, rfl, fun i j hi hj => by rw [hst i j hi hj]; exact Cell.le_refl _⟩, trivial⟩, ?_⟩
    clear hK
    have hL : (leafL n get).length = n := leafL_len
    generalize leafL n get = L at hL hok hmay ⊢
    generalize hU : underB (hOf (hashC f)) c L = U
    unfold hashC
    unfold sLeaf sFold sRoot
    generalize hg0 : (List.length : List UInt8 → Nat) = g0
    generalize hL : lft Tryd.prog _ = L
    try unfold leafG
    generalize ho0 : @leafF = zo0, ho1 : @leafPre = zo1, ho2 : @rootF = zo2, ho3 : @rootPre = zo3, ho4 : @hOf = zo4, ho5 : @HashC = zo5, ho6 : @kOf = zo6, ho7 : @u8s = zo7, ho8 : @lK = zo8, ho9 : @lV = zo9, ho10 : @lI = zo10, ho11 : @lP = zo11, ho12 : @lN = zo12, ho13 : @pG = zo13, ho14 : @leafL = zo14, ho15 : @stAt = zo15, ho16 : @underB = zo16, ho17 : @unPre = zo17, ho18 : @fdB = zo18, ho19 : @fdH = zo19, ho20 : @fdPre = zo20, ho21 : @eqH = zo21
    generalize hA : Arith.std = A
    cbv
    subst hA hg0 hL ho0 ho1 ho2 ho3 ho4 ho5 ho6 ho7 ho8 ho9 ho10 ho11 ho12 ho13 ho14 ho15 ho16 ho17 ho18 ho19 ho20 ho21
    obtain ⟨hcr, hma⟩ := mayL_all hmay
    show Runs Tryd.prog 2 (.loop _) _ _
    refine loop_ruleR (N := env (lft Tryd.prog 2) 0 .std tbMk [(123, appFn [0] [] sLeaf), (127, appFn [0] [(24, 32)] sFold), (77, appFn [0] [] sRoot)] [(4, [(9999, true), (0, true), (1, true), (2, true), (3, true), (4, true), (5, true), (6, true), (7, true), (9, true), (10, true), (3008, false), (3011, false), (12, true), (13, true), (14, true), (15, false), (16, false), (17, true), (2999, false), (15, false), (11, false), (12, true), (13, true), (14, true), (16, false), (17, true), (2999, false), (15, false), (8, false), (11, false), (12, true), (13, true), (14, true), (16, false), (17, true), (2999, false)]), (5, [(0, true), (1, true), (2, true), (3, true), (4, true), (5, true), (7, true), (6, false), (8, true), (9, true)])]) rfl tbMk_ok hC (fun c st K _ h => h) (by kernel_rfl) [0] (X := LIx n (stAt (hOf (hashC f)) c L))
      (S := fun x => ⟨[.any, .any, .c (.ptr 2 0), .c (.ptr 3 0), .any, .any, .any, .any, .any, .any, .c (.row 1), .c (.int .i64 (n : Int)), .c (.int .i64 x.i)] ++ List.replicate 29 .any, [.glob 0 1 64 (fun i => [.int .u32 (kOf i)]), .data fr 115 4 n (leafG false L), .cells 24 [.int .u8 (f 0), .int .u8 (f 1), .int .u8 (f 2), .int .u8 (f 3), .int .u8 (f 4), .int .u8 (f 5), .int .u8 (f 6), .int .u8 (f 7), .int .u8 (f 8), .int .u8 (f 9), .int .u8 (f 10), .int .u8 (f 11), .int .u8 (f 12), .int .u8 (f 13), .int .u8 (f 14), .int .u8 (f 15), .int .u8 (f 16), .int .u8 (f 17), .int .u8 (f 18), .int .u8 (f 19), .int .u8 (f 20), .int .u8 (f 21), .int .u8 (f 22), .int .u8 (f 23), .int .u8 (f 24), .int .u8 (f 25), .int .u8 (f 26), .int .u8 (f 27), .int .u8 (f 28), .int .u8 (f 29), .int .u8 (f 30), .int .u8 (f 31)], .cells 27 [.int .i64 c, .row 1]]⟩) (μ := fun x => n - x.i.toNat) ⟨0, by omega, by omega, fun k hk => absurd hk (by omega)⟩ (by kernel_rfl) [0, 1, 2, 3] ?h0 ?rd
    case h0 =>
      refine ⟨rfl, by decide, ?_, ?_⟩ <;> repeat' (first | exact trivial | exact rfl | apply And.intro | exact (fun _ _ _ _ => Cell.le_refl _) | (intro i hi; rfl) | (intro i hi; exact absurd hi (Nat.not_lt_zero _)))
    case rd =>
      rintro ⟨i, hi0, hin, hP⟩
      unfold sLeaf sFold sRoot
      generalize hg0 : (List.length : List UInt8 → Nat) = g0
      generalize hL : lft Tryd.prog _ = L
      try dsimp only
      try unfold leafG
      generalize ho0 : @leafF = zo0, ho1 : @leafPre = zo1, ho2 : @rootF = zo2, ho3 : @rootPre = zo3, ho4 : @hOf = zo4, ho5 : @HashC = zo5, ho6 : @kOf = zo6, ho7 : @u8s = zo7, ho8 : @lK = zo8, ho9 : @lV = zo9, ho10 : @lI = zo10, ho11 : @lP = zo11, ho12 : @lN = zo12, ho13 : @pG = zo13, ho14 : @leafL = zo14, ho15 : @stAt = zo15, ho16 : @underB = zo16, ho17 : @unPre = zo17, ho18 : @fdB = zo18, ho19 : @fdH = zo19, ho20 : @fdPre = zo20, ho21 : @eqH = zo21
      generalize hA : Arith.std = A
      cbv
      subst hA hg0 hL ho0 ho1 ho2 ho3 ho4 ho5 ho6 ho7 ho8 ho9 ho10 ho11 ho12 ho13 ho14 ho15 ho16 ho17 ho18 ho19 ho20 ho21
      replace hi0 : 0 ≤ i := hi0
      replace hin : i ≤ @Nat.cast Int instNatCastInt n := hin
      replace hP : ∀ k, k < i.toNat → stAt (hOf (hashC f)) c L k = true := hP
      refine Ife.mk (fun hlt => ?_) (fun hlt => ?_)
      · replace hlt : i < @Nat.cast Int instNatCastInt n := of_decide_eq_true (p := i < (n : Int)) hlt
        have hiL : i.toNat < L.length := by omega
        have hA := mayAt_iff.1 (hma _ hiL)
        have hd := deep_30 c (lI L i.toNat)
        have hlf : HashC (hashC (leafF (lK L i.toNat) (lV L i.toNat))) := ⟨_, rfl, fun j => sumI_range _ j⟩
        have p0 : 0 ≤ i ∧ i < (n : Int) := by omega
        have p0' : i.toNat < n := by omega
        have p1 : leafPre 0 1 64 (fun i => [.int .u32 (kOf i)]) (lK L i.toNat) (lV L i.toNat) := ⟨ksAt_self, by omega, by omega⟩
        have p2 : fdPre 0 1 64 (fun i => [.int .u32 (kOf i)]) 24 32 (lN L i.toNat) (pG (lP L i.toNat)) (hashC (leafF (lK L i.toNat) (lV L i.toNat))) := ⟨ksAt_self, rfl, rfl, pG_hashes hok hiL, hlf, by omega⟩
        have p3 : rootPre 0 1 64 (fun i => [.int .u32 (kOf i)]) (hashC (fdH (pG (lP L i.toNat)) (hashC (leafF (lK L i.toNat) (lV L i.toNat))) (lN L i.toNat) c (lI L i.toNat))) := ⟨ksAt_self, _, rfl, fun j => fdH_range hlf _ _ _ j⟩
        have eS : stAt (hOf (hashC f)) c L i.toNat = (fdB (lN L i.toNat) c (lI L i.toNat) && eqH (rootF c (hashB (fdH (pG (lP L i.toNat)) (hashC (leafF (lK L i.toNat) (lV L i.toNat))) (lN L i.toNat) c (lI L i.toNat)))) (hOf (hashC f))) := rfl
        have no : stAt (hOf (hashC f)) c L i.toNat = false → underB (hOf (hashC f)) c L = false := fun h => all_no hiL (by rw [h]; simp)
        repeat' (first | refine Both.mk ?_ ?_ | refine Need.mk p0 fun _ => ?_ | refine Need.mk p0' fun _ => ?_ | refine Need.mk p1 fun _ => ?_ | refine Need.mk p2 fun _ => ?_)
        all_goals
          refine Ife.mk (fun h => ?_) (fun h => ?_)
          · have h : fdB (lN L i.toNat) c (lI L i.toNat) = false := by simpa using (show (!fdB (lN L i.toNat) c (lI L i.toNat)) = true from h)
            rw [show U = false from hU.symm.trans (no (by rw [eS, h]; rfl))]
            exact ⟨[0, 1], ⟨rfl, by repeat' (first | exact trivial | exact rfl | apply And.intro | exact (fun _ _ _ _ => Cell.le_refl _) | (intro i hi; rfl) | (intro i hi; exact absurd hi (Nat.not_lt_zero _))), by decide, rfl, by repeat' (first | exact trivial | exact rfl | apply And.intro | exact (fun _ _ _ _ => Cell.le_refl _) | (intro i hi; rfl) | (intro i hi; exact absurd hi (Nat.not_lt_zero _)))⟩⟩
          · have h : fdB (lN L i.toNat) c (lI L i.toNat) = true := by simpa using (show (!fdB (lN L i.toNat) c (lI L i.toNat)) = false from h)
            refine Need.mk p3 fun _ => ?_
            refine Ife.mk (fun h2 => ?_) (fun h2 => ?_)
            · have h2 : (!eqH (rootF c (hashB (fdH (pG (lP L i.toNat)) (hashC (leafF (lK L i.toNat) (lV L i.toNat))) (lN L i.toNat) c (lI L i.toNat)))) (hOf (hashC f))) = true := h2
              rw [show U = false from hU.symm.trans (no (by rw [eS, h, Bool.true_and]; simpa using h2))]
              exact ⟨[0, 1], ⟨rfl, by repeat' (first | exact trivial | exact rfl | apply And.intro | exact (fun _ _ _ _ => Cell.le_refl _) | (intro i hi; rfl) | (intro i hi; exact absurd hi (Nat.not_lt_zero _))), by decide, rfl, by repeat' (first | exact trivial | exact rfl | apply And.intro | exact (fun _ _ _ _ => Cell.le_refl _) | (intro i hi; rfl) | (intro i hi; exact absurd hi (Nat.not_lt_zero _)))⟩⟩
            · have h2 : (!eqH (rootF c (hashB (fdH (pG (lP L i.toNat)) (hashC (leafF (lK L i.toNat) (lV L i.toNat))) (lN L i.toNat) c (lI L i.toNat)))) (hOf (hashC f))) = false := h2
              refine Need.mk (by show fitStd .i64 (i + 1); unfold fitStd; omega) fun _ => ?_
              refine ⟨⟨i + 1, by omega, by omega, lix_next hi0 hP (by rw [eS, h, Bool.true_and]; simpa using h2)⟩, [0, 1, 2, 3], (by show n - (i + 1).toNat < n - i.toNat; omega), ?_⟩
              refine ⟨rfl, by decide, ?_, ?_⟩ <;> repeat' (first | exact trivial | exact rfl | apply And.intro | exact (fun _ _ _ _ => Cell.le_refl _) | (intro i hi; rfl) | (intro i hi; exact absurd hi (Nat.not_lt_zero _)))
      · replace hlt : ¬ i < @Nat.cast Int instNatCastInt n := of_decide_eq_false (p := i < (n : Int)) hlt
        rw [show U = true from hU.symm.trans (all_yes hP (by omega))]
        exact ⟨[0, 1], ⟨rfl, by repeat' (first | exact trivial | exact rfl | apply And.intro | exact (fun _ _ _ _ => Cell.le_refl _) | (intro i hi; rfl) | (intro i hi; exact absurd hi (Nat.not_lt_zero _))), by decide, rfl, by repeat' (first | exact trivial | exact rfl | apply And.intro | exact (fun _ _ _ _ => Cell.le_refl _) | (intro i hi; rfl) | (intro i hi; exact absurd hi (Nat.not_lt_zero _)))⟩⟩

end Go.Proofs.YthomoliklfmnkaaDoor.Vx
end

section
/- What a proof shows: Value, Has, Lacks, by the walker. -/
namespace Go.Proofs.YthomoliklfmnkaaDoor.Vx
open Sha
open Go.RowKit
set_option linter.unusedVariables false
set_option linter.unusedSimpArgs false
def vlPre (gg sz0 n0 : Nat) (get0 : Nat → List CV) (root : List CV) (ty sz n : Nat) (get : Nat → Nat → Cell) : Prop := KsAt gg sz0 n0 get0 ∧ HashC root ∧ leavesPre ty sz n get
def sVal : SpecF
  | [.agg root, .agg [.int .i64 c, .row 1], .c (.str k)], [.glob gg sz0 n0 get0, .data fr ty sz n get] => some (vlPre gg sz0 n0 get0 root ty sz n get, .tup [(some (.str (valV (hOf root) c (leafL n get) k)), []), (some (.bool (valB (hOf root) c (leafL n get) k)), [])], [.dead, .dead])
  | _, _ => none

set_option maxRecDepth 100000 in
set_option maxHeartbeats 8000000 in
theorem valPrP : Fn Tryd.prog 24 [0] [(115, 204)] sVal := by
  have hC : CtsOk Tryd.prog [(31, appFn [] [(115, 204)] sMayPr), (87, appFn [0] [(115, 204)] sUndP)] := CtsOk.cons (Fn.ct mayPrP) <| CtsOk.cons (Fn.ct undPrP) <| CtsOk.nil _
  refine Fn.of (E := tbMk) [0] 0 [] tbMk_ok hC (by kernel_rfl) Tryd.func24 rfl rfl rfl (by kernel_rfl) (by kernel_rfl) 2 5 1 ?_ ?_
  · intro args h pre r h' hs
    unfold sVal at hs
    split at hs
    · cases hs; exact ⟨rfl, rfl, Nat.le_of_ble_eq_true rfl⟩
    · cases hs
  · intro args h pre r h' hs hp
    unfold sVal at hs
    split at hs
    rotate_left
    · cases hs
    rename_i root c k gg sz0 n0 get0 fr ty sz n get
    cases hs
    obtain ⟨hK, ⟨f, rfl, hf_⟩, ⟨rfl, rfl, hst, hok, hm⟩⟩ := hp
    refine ⟨[.glob 0 1 64 (fun i => [.int .u32 (kOf i)]), .data fr 115 4 n (leafG false (leafL n get))], ⟨hK.same.1, ⟨rfl, rfl, rfl, rfl, fun i j hi hj => by rw [hst i j hi hj]; exact Cell.le_refl _⟩, trivial⟩, ?_⟩
    clear hK
    have hL : (leafL n get).length = n := leafL_len
    generalize leafL n get = L at hL hok ⊢
    have q1 : leavesPre 115 4 n (fun i j => (leafG false L i j).old) := by rw [← hL]; exact leavesPre_old hok (by omega)
    have e1 : leafL n (fun i j => (leafG false L i j).old) = L := by rw [← hL]; exact leaves_old hok
    have hR : HashC (hashC f) := ⟨f, rfl, hf_⟩
    have q2 : mayL c L = true → unPre 0 1 64 (fun i => [.int .u32 (kOf i)]) (hashC f) c 115 4 n (fun i j => (leafG false L i j).old) := fun h => ⟨ksAt_self, hR, q1, by rw [e1]; exact h⟩
    generalize hV : valV (hOf (hashC f)) c L k = V
    generalize hB : valB (hOf (hashC f)) c L k = B
    generalize hU : hOf (hashC f) = F at hV hB
    unfold hashC at hU ⊢
    unfold sMayPr sUndP
    generalize hg0 : (List.length : List UInt8 → Nat) = g0
    generalize hL : lft Tryd.prog _ = L
    try unfold leafG
    generalize ho0 : @hOf = zo0, ho1 : @HashC = zo1, ho2 : @kOf = zo2, ho3 : @lK = zo3, ho4 : @lV = zo4, ho5 : @lI = zo5, ho6 : @lP = zo6, ho7 : @lN = zo7, ho8 : @pG = zo8, ho9 : @leafL = zo9, ho10 : @leavesPre = zo10, ho11 : @mayL = zo11, ho12 : @underB = zo12, ho13 : @valB = zo13, ho14 : @valV = zo14, ho15 : @unPre = zo15, ho16 : @vlPre = zo16
    generalize hA : Arith.std = A
    cbv
    subst hA hg0 hL ho0 ho1 ho2 ho3 ho4 ho5 ho6 ho7 ho8 ho9 ho10 ho11 ho12 ho13 ho14 ho15 ho16
    refine Need.mk q1 fun _ => ?_
    simp only [e1, hU]
    have fl : B = false → V = [] := fun h => by rw [← hV]; unfold valV; rw [hB, h]; rfl
    refine Ife.mk (fun h => ?_) (fun h => ?_)
    · have h : mayL c L = false := by simpa using (show (!mayL c L) = true from h)
      have hb : B = false := by rw [← hB]; unfold valB; rw [h]; rfl
      rw [fl hb, hb]
      exact ⟨[0, 1], ⟨rfl, by repeat' (first | exact trivial | exact rfl | apply And.intro | exact (fun _ _ _ _ => Cell.le_refl _) | (intro i hi; rfl) | (intro i hi; exact absurd hi (Nat.not_lt_zero _))), by decide, rfl, by repeat' (first | exact trivial | exact rfl | apply And.intro | exact (fun _ _ _ _ => Cell.le_refl _) | (intro i hi; rfl) | (intro i hi; exact absurd hi (Nat.not_lt_zero _)))⟩⟩
    have hmay : mayL c L = true := by simpa using (show (!mayL c L) = false from h)
    clear h
    refine Ife.mk (fun h => ?_) (fun h => ?_)
    · have h : ¬ (n : Int) = 1 := by simpa using (show (!decide ((n : Int) = 1)) = true from h)
      have hb : B = false := by rw [← hB]; unfold valB; rw [hmay, decide_eq_false (show ¬ L.length = 1 by omega)]; rfl
      rw [fl hb, hb]
      exact ⟨[0, 1], ⟨rfl, by repeat' (first | exact trivial | exact rfl | apply And.intro | exact (fun _ _ _ _ => Cell.le_refl _) | (intro i hi; rfl) | (intro i hi; exact absurd hi (Nat.not_lt_zero _))), by decide, rfl, by repeat' (first | exact trivial | exact rfl | apply And.intro | exact (fun _ _ _ _ => Cell.le_refl _) | (intro i hi; rfl) | (intro i hi; exact absurd hi (Nat.not_lt_zero _)))⟩⟩
    have hn : (n : Int) = 1 := by simpa using (show (!decide ((n : Int) = 1)) = false from h)
    clear h
    have hL1 : L.length = 1 := by omega
    refine Need.mk (by show (0 : Int) ≤ 0 ∧ (0 : Int) < (n : Int); omega) fun _ => Need.mk (by show (0 : Int).toNat < n; omega) fun _ => ?_
    refine Ife.mk (fun h => ?_) (fun h => ?_)
    · have h : ¬ lK L 0 = k := by simpa using (show (!decide (lK L 0 = k)) = true from h)
      have hb : B = false := by rw [← hB]; unfold valB; rw [hmay, decide_eq_true hL1, decide_eq_false h]; rfl
      rw [fl hb, hb]
      exact ⟨[0, 1], ⟨rfl, by repeat' (first | exact trivial | exact rfl | apply And.intro | exact (fun _ _ _ _ => Cell.le_refl _) | (intro i hi; rfl) | (intro i hi; exact absurd hi (Nat.not_lt_zero _))), by decide, rfl, by repeat' (first | exact trivial | exact rfl | apply And.intro | exact (fun _ _ _ _ => Cell.le_refl _) | (intro i hi; rfl) | (intro i hi; exact absurd hi (Nat.not_lt_zero _)))⟩⟩
    have hk : lK L 0 = k := by simpa using (show (!decide (lK L 0 = k)) = false from h)
    clear h
    refine Need.mk (q2 hmay) fun _ => ?_
    have hbu : B = underB F c L := by rw [← hB]; unfold valB; rw [hmay, decide_eq_true hL1, decide_eq_true hk]; rfl
    refine Ife.mk (fun h => ?_) (fun h => ?_)
    · have h : underB F c L = false := by simpa using (show (!underB F c L) = true from h)
      have hb : B = false := by rw [hbu, h]
      rw [fl hb, hb]
      exact ⟨[0, 1], ⟨rfl, by repeat' (first | exact trivial | exact rfl | apply And.intro | exact (fun _ _ _ _ => Cell.le_refl _) | (intro i hi; rfl) | (intro i hi; exact absurd hi (Nat.not_lt_zero _))), by decide, rfl, by repeat' (first | exact trivial | exact rfl | apply And.intro | exact (fun _ _ _ _ => Cell.le_refl _) | (intro i hi; rfl) | (intro i hi; exact absurd hi (Nat.not_lt_zero _)))⟩⟩
    have h : underB F c L = true := by simpa using (show (!underB F c L) = false from h)
    have hb : B = true := by rw [hbu, h]
    have hv : V = lV L 0 := by rw [← hV]; unfold valV; rw [hB, hb]; rfl
    refine Need.mk (by show (0 : Int) ≤ 0 ∧ (0 : Int) < (n : Int); omega) fun _ => Need.mk (by show (0 : Int).toNat < n; omega) fun _ => ?_
    rw [hv, hb]
    exact ⟨[0, 1], ⟨rfl, by repeat' (first | exact trivial | exact rfl | apply And.intro | exact (fun _ _ _ _ => Cell.le_refl _) | (intro i hi; rfl) | (intro i hi; exact absurd hi (Nat.not_lt_zero _))), by decide, rfl, by repeat' (first | exact trivial | exact rfl | apply And.intro | exact (fun _ _ _ _ => Cell.le_refl _) | (intro i hi; rfl) | (intro i hi; exact absurd hi (Nat.not_lt_zero _)))⟩⟩



def sLacks : SpecF
  | [.agg root, .agg [.int .i64 c, .row 1], .c (.str k)], [.glob gg sz0 n0 get0, .data fr ty sz n get] => some (vlPre gg sz0 n0 get0 root ty sz n get, .c (.bool (lackB (hOf root) c (leafL n get) k)), [.dead, .dead])
  | _, _ => none

set_option maxRecDepth 100000 in
set_option maxHeartbeats 8000000 in
theorem lacksPrP : Fn Tryd.prog 28 [0] [(115, 204)] sLacks := by
  have hC : CtsOk Tryd.prog [(31, appFn [] [(115, 204)] sMayPr), (87, appFn [0] [(115, 204)] sUndP), (77, appFn [0] [] sRoot)] := CtsOk.cons (Fn.ct mayPrP) <| CtsOk.cons (Fn.ct undPrP) <| CtsOk.cons (Fn.ct rootP) <| CtsOk.nil _
  refine Fn.of (E := tbMk) [0] 0 [(6, [(0, true), (1, true), (2, true), (3, true), (4, true), (5, true), (6, false), (7, true), (8, true), (9, true)]), (8, [(0, true), (1, true), (2, true), (3, true), (4, true), (5, true), (6, true), (7, true), (8, true), (9, true), (10, true), (11, true), (12, true), (13, true), (14, true), (15, true), (16, true), (17, true), (18, true), (19, true), (20, true), (21, true), (22, true), (23, true), (24, true), (25, true), (26, true), (27, true), (28, true), (29, true), (30, true), (31, true)]), (9, [(0, true), (1, true), (2, true), (3, true), (4, true), (5, true), (6, true), (7, true), (8, true), (9, true), (10, true), (11, true), (12, true), (13, true), (14, true), (15, true), (16, true), (17, true), (18, true), (19, true), (20, true), (21, true), (22, true), (23, true), (24, true), (25, true), (26, true)])] tbMk_ok hC (by kernel_rfl) Tryd.func28 rfl rfl rfl (by kernel_rfl) (by kernel_rfl) 2 5 1 ?_ ?_
  · intro args h pre r h' hs
    unfold sLacks at hs
    split at hs
    · cases hs; exact ⟨rfl, rfl, Nat.le_of_ble_eq_true rfl⟩
    · cases hs
  · intro args h pre r h' hs hp
    unfold sLacks at hs
    split at hs
    rotate_left
    · cases hs
    rename_i root c k gg sz0 n0 get0 fr ty sz n get
    cases hs
    obtain ⟨hK, ⟨f, rfl, hf_⟩, ⟨rfl, rfl, hst, hok, hm⟩⟩ := hp
    refine ⟨[.glob 0 1 64 (fun i => [.int .u32 (kOf i)]), .data fr 115 4 n (leafG false (leafL n get))], ⟨hK.same.1, ⟨rfl, rfl, rfl, rfl, fun i j hi hj => by rw [hst i j hi hj]; exact Cell.le_refl _⟩, trivial⟩, ?_⟩
    clear hK
    have hL : (leafL n get).length = n := leafL_len
    generalize leafL n get = L at hL hok ⊢
    have q1 : leavesPre 115 4 n (fun i j => (leafG false L i j).old) := by rw [← hL]; exact leavesPre_old hok (by omega)
    have e1 : leafL n (fun i j => (leafG false L i j).old) = L := by rw [← hL]; exact leaves_old hok
    have hR : HashC (hashC f) := ⟨f, rfl, hf_⟩
    have q2 : mayL c L = true → unPre 0 1 64 (fun i => [.int .u32 (kOf i)]) (hashC f) c 115 4 n (fun i j => (leafG false L i j).old) := fun h => ⟨ksAt_self, hR, q1, by rw [e1]; exact h⟩
    generalize hB : lackB (hOf (hashC f)) c L k = B
    generalize hU : hOf (hashC f) = F at hB
    unfold hashC at hU ⊢
    unfold sMayPr sUndP sRoot
    generalize hg0 : (List.length : List UInt8 → Nat) = g0
    generalize hL : lft Tryd.prog _ = L
    try unfold leafG
    generalize ho0 : @ltB = zo0, ho1 : @rootF = zo1, ho2 : @rootPre = zo2, ho3 : @hOf = zo3, ho4 : @HashC = zo4, ho5 : @kOf = zo5, ho6 : @u8s = zo6, ho7 : @lK = zo7, ho8 : @lV = zo8, ho9 : @lI = zo9, ho10 : @lP = zo10, ho11 : @lN = zo11, ho12 : @pG = zo12, ho13 : @leafL = zo13, ho14 : @leavesPre = zo14, ho15 : @mayL = zo15, ho16 : @underB = zo16, ho17 : @lackE = zo17, ho18 : @lackB = zo18, ho19 : @unPre = zo19, ho20 : @eqH = zo20, ho21 : @vlPre = zo21
    generalize hA : Arith.std = A
    cbv
    subst hA hg0 hL ho0 ho1 ho2 ho3 ho4 ho5 ho6 ho7 ho8 ho9 ho10 ho11 ho12 ho13 ho14 ho15 ho16 ho17 ho18 ho19 ho20 ho21
    refine Need.mk q1 fun _ => ?_
    simp only [e1, hU]
    refine Ife.mk (fun h => ?_) (fun h => ?_)
    · have h : mayL c L = false := by simpa using (show (!mayL c L) = true from h)
      have hb : B = false := by rw [← hB]; unfold lackB; rw [h]; rfl
      rw [hb]
      exact ⟨[0, 1], ⟨rfl, by repeat' (first | exact trivial | exact rfl | apply And.intro | exact (fun _ _ _ _ => Cell.le_refl _) | (intro i hi; rfl) | (intro i hi; exact absurd hi (Nat.not_lt_zero _))), by decide, rfl, by repeat' (first | exact trivial | exact rfl | apply And.intro | exact (fun _ _ _ _ => Cell.le_refl _) | (intro i hi; rfl) | (intro i hi; exact absurd hi (Nat.not_lt_zero _)))⟩⟩
    have hmay : mayL c L = true := by simpa using (show (!mayL c L) = false from h)
    clear h
    refine Need.mk (q2 hmay) fun _ => ?_
    refine Ife.mk (fun h => ?_) (fun h => ?_)
    · have h : underB F c L = false := by simpa using (show (!underB F c L) = true from h)
      have hb : B = false := by rw [← hB]; unfold lackB; rw [hmay, h]; rfl
      rw [hb]
      exact ⟨[0, 1], ⟨rfl, by repeat' (first | exact trivial | exact rfl | apply And.intro | exact (fun _ _ _ _ => Cell.le_refl _) | (intro i hi; rfl) | (intro i hi; exact absurd hi (Nat.not_lt_zero _))), by decide, rfl, by repeat' (first | exact trivial | exact rfl | apply And.intro | exact (fun _ _ _ _ => Cell.le_refl _) | (intro i hi; rfl) | (intro i hi; exact absurd hi (Nat.not_lt_zero _)))⟩⟩
    have hun : underB F c L = true := by simpa using (show (!underB F c L) = false from h)
    clear h
    have hbe : B = lackE F c L k := by rw [← hB]; unfold lackB; rw [hmay, hun]; rfl
    unfold lackE at hbe
    refine Ife.mk (fun h => ?_) (fun h => ?_)
    · have h : (@Nat.cast Int instNatCastInt n) = 0 := of_decide_eq_true (p := (n : Int) = 0) h
      rw [if_pos (by omega)] at hbe
      refine Ife.mk (fun h2 => ?_) (fun h2 => ?_)
      · have h2 : c = 0 := of_decide_eq_true (p := c = 0) h2
        refine Need.mk ⟨ksAt_self, fun _ => 0, rfl, fun _ => ⟨Int.le_refl 0, (by decide : (0 : Int) < 256)⟩⟩ fun _ => ?_
        rw [show B = eqH (hOf (hashC f)) (rootF 0 (hashB fun _ => 0)) by rw [hbe, decide_eq_true h2, Bool.true_and, ← hU]; rfl]
        exact ⟨[0, 1], ⟨rfl, by repeat' (first | exact trivial | exact rfl | apply And.intro | exact (fun _ _ _ _ => Cell.le_refl _) | (intro i hi; rfl) | (intro i hi; exact absurd hi (Nat.not_lt_zero _))), by decide, rfl, by repeat' (first | exact trivial | exact rfl | apply And.intro | exact (fun _ _ _ _ => Cell.le_refl _) | (intro i hi; rfl) | (intro i hi; exact absurd hi (Nat.not_lt_zero _)))⟩⟩
      · have h2 : ¬ c = 0 := of_decide_eq_false (p := c = 0) h2
        rw [show B = false by rw [hbe, decide_eq_false h2]; rfl]
        exact ⟨[0, 1], ⟨rfl, by repeat' (first | exact trivial | exact rfl | apply And.intro | exact (fun _ _ _ _ => Cell.le_refl _) | (intro i hi; rfl) | (intro i hi; exact absurd hi (Nat.not_lt_zero _))), by decide, rfl, by repeat' (first | exact trivial | exact rfl | apply And.intro | exact (fun _ _ _ _ => Cell.le_refl _) | (intro i hi; rfl) | (intro i hi; exact absurd hi (Nat.not_lt_zero _)))⟩⟩
    have hn0 : ¬ (n : Int) = 0 := of_decide_eq_false (p := (n : Int) = 0) h
    rw [if_neg (by omega)] at hbe
    refine Ife.mk (fun h => ?_) (fun h => ?_)
    · have h : (@Nat.cast Int instNatCastInt n) = 1 := of_decide_eq_true (p := (n : Int) = 1) h
      rw [if_pos (by omega)] at hbe
      have hL1 : L.length = 1 := by omega
      have p0 : (0 : Int) ≤ 0 ∧ (0 : Int) < (n : Int) := by omega
      have p1 : (0 : Int).toNat < n := by omega
      have hcr := (mayL_all hmay).1
      have p2 : fitStd .i64 (c - 1) := by unfold fitStd; omega
      refine Need.mk p0 fun _ => Need.mk p1 fun _ => ?_
      refine Ife.mk (fun h2 => ?_) (fun h2 => ?_)
      · have h2 : lI L 0 = 0 := of_decide_eq_true (p := lI L 0 = 0) h2
        refine Need.mk p0 fun _ => Need.mk p1 fun _ => ?_
        refine Ife.mk (fun h3 => ?_) (fun h3 => ?_)
        · have h3 : ltB k (lK L 0) = true := h3
          rw [show B = true by rw [hbe, decide_eq_true h2, h3]; rfl]
          exact ⟨[0, 1], ⟨rfl, by repeat' (first | exact trivial | exact rfl | apply And.intro | exact (fun _ _ _ _ => Cell.le_refl _) | (intro i hi; rfl) | (intro i hi; exact absurd hi (Nat.not_lt_zero _))), by decide, rfl, by repeat' (first | exact trivial | exact rfl | apply And.intro | exact (fun _ _ _ _ => Cell.le_refl _) | (intro i hi; rfl) | (intro i hi; exact absurd hi (Nat.not_lt_zero _)))⟩⟩
        · have h3 : ltB k (lK L 0) = false := h3
          refine Need.mk p0 fun _ => Need.mk p1 fun _ => Need.mk p2 fun _ => ?_
          refine Ife.mk (fun h4 => ?_) (fun h4 => ?_)
          · have h4 : lI L 0 = c - 1 := of_decide_eq_true (p := lI L 0 = c - 1) h4
            refine Need.mk p0 fun _ => Need.mk p1 fun _ => ?_
            rw [show B = ltB (lK L 0) k by rw [hbe, decide_eq_true h2, h3, decide_eq_true h4]; rfl]
            exact ⟨[0, 1], ⟨rfl, by repeat' (first | exact trivial | exact rfl | apply And.intro | exact (fun _ _ _ _ => Cell.le_refl _) | (intro i hi; rfl) | (intro i hi; exact absurd hi (Nat.not_lt_zero _))), by decide, rfl, by repeat' (first | exact trivial | exact rfl | apply And.intro | exact (fun _ _ _ _ => Cell.le_refl _) | (intro i hi; rfl) | (intro i hi; exact absurd hi (Nat.not_lt_zero _)))⟩⟩
          · have h4 : ¬ lI L 0 = c - 1 := of_decide_eq_false (p := lI L 0 = c - 1) h4
            rw [show B = false by rw [hbe, decide_eq_true h2, h3, decide_eq_false h4]; rfl]
            exact ⟨[0, 1], ⟨rfl, by repeat' (first | exact trivial | exact rfl | apply And.intro | exact (fun _ _ _ _ => Cell.le_refl _) | (intro i hi; rfl) | (intro i hi; exact absurd hi (Nat.not_lt_zero _))), by decide, rfl, by repeat' (first | exact trivial | exact rfl | apply And.intro | exact (fun _ _ _ _ => Cell.le_refl _) | (intro i hi; rfl) | (intro i hi; exact absurd hi (Nat.not_lt_zero _)))⟩⟩
      · have h2 : ¬ lI L 0 = 0 := of_decide_eq_false (p := lI L 0 = 0) h2
        refine Need.mk p0 fun _ => Need.mk p1 fun _ => Need.mk p2 fun _ => ?_
        refine Ife.mk (fun h4 => ?_) (fun h4 => ?_)
        · have h4 : lI L 0 = c - 1 := of_decide_eq_true (p := lI L 0 = c - 1) h4
          refine Need.mk p0 fun _ => Need.mk p1 fun _ => ?_
          rw [show B = ltB (lK L 0) k by rw [hbe, decide_eq_false h2, decide_eq_true h4]; rfl]
          exact ⟨[0, 1], ⟨rfl, by repeat' (first | exact trivial | exact rfl | apply And.intro | exact (fun _ _ _ _ => Cell.le_refl _) | (intro i hi; rfl) | (intro i hi; exact absurd hi (Nat.not_lt_zero _))), by decide, rfl, by repeat' (first | exact trivial | exact rfl | apply And.intro | exact (fun _ _ _ _ => Cell.le_refl _) | (intro i hi; rfl) | (intro i hi; exact absurd hi (Nat.not_lt_zero _)))⟩⟩
        · have h4 : ¬ lI L 0 = c - 1 := of_decide_eq_false (p := lI L 0 = c - 1) h4
          rw [show B = false by rw [hbe, decide_eq_false h2, decide_eq_false h4]; rfl]
          exact ⟨[0, 1], ⟨rfl, by repeat' (first | exact trivial | exact rfl | apply And.intro | exact (fun _ _ _ _ => Cell.le_refl _) | (intro i hi; rfl) | (intro i hi; exact absurd hi (Nat.not_lt_zero _))), by decide, rfl, by repeat' (first | exact trivial | exact rfl | apply And.intro | exact (fun _ _ _ _ => Cell.le_refl _) | (intro i hi; rfl) | (intro i hi; exact absurd hi (Nat.not_lt_zero _)))⟩⟩
    have hn1 : ¬ (n : Int) = 1 := of_decide_eq_false (p := (n : Int) = 1) h
    rw [if_neg (by omega)] at hbe
    have hcr := (mayL_all hmay).1
    have p0 : (0 : Int) ≤ 0 ∧ (0 : Int) < (n : Int) := by omega
    have p1 : (0 : Int).toNat < n := by omega
    have q0 : (0 : Int) ≤ 1 ∧ (1 : Int) < (n : Int) := by omega
    have q1 : (1 : Int).toNat < n := by omega
    have m0 := mayAt_iff.1 ((mayL_all hmay).2 0 (by omega))
    have m1 := mayAt_iff.1 ((mayL_all hmay).2 1 (by omega))
    refine Need.mk q0 fun _ => Need.mk q1 fun _ => Need.mk p0 fun _ => Need.mk p1 fun _ => Need.mk (by show fitStd .i64 (lI L 1 - lI L 0); unfold fitStd; omega) fun _ => ?_
    refine Ife.mk (fun h2 => ?_) (fun h2 => ?_)
    · have h2 : lI L 1 - lI L 0 = 1 := of_decide_eq_true (p := lI L 1 - lI L 0 = 1) h2
      refine Need.mk p0 fun _ => Need.mk p1 fun _ => ?_
      refine Ife.mk (fun h3 => ?_) (fun h3 => ?_)
      · have h3 : ltB (lK L 0) k = true := h3
        refine Need.mk q0 fun _ => Need.mk q1 fun _ => ?_
        rw [show B = ltB k (lK L 1) by rw [hbe, decide_eq_true h2, h3]; rfl]
        exact ⟨[0, 1], ⟨rfl, by repeat' (first | exact trivial | exact rfl | apply And.intro | exact (fun _ _ _ _ => Cell.le_refl _) | (intro i hi; rfl) | (intro i hi; exact absurd hi (Nat.not_lt_zero _))), by decide, rfl, by repeat' (first | exact trivial | exact rfl | apply And.intro | exact (fun _ _ _ _ => Cell.le_refl _) | (intro i hi; rfl) | (intro i hi; exact absurd hi (Nat.not_lt_zero _)))⟩⟩
      · have h3 : ltB (lK L 0) k = false := h3
        rw [show B = false by rw [hbe, decide_eq_true h2, h3]; rfl]
        exact ⟨[0, 1], ⟨rfl, by repeat' (first | exact trivial | exact rfl | apply And.intro | exact (fun _ _ _ _ => Cell.le_refl _) | (intro i hi; rfl) | (intro i hi; exact absurd hi (Nat.not_lt_zero _))), by decide, rfl, by repeat' (first | exact trivial | exact rfl | apply And.intro | exact (fun _ _ _ _ => Cell.le_refl _) | (intro i hi; rfl) | (intro i hi; exact absurd hi (Nat.not_lt_zero _)))⟩⟩
    · have h2 : ¬ lI L 1 - lI L 0 = 1 := of_decide_eq_false (p := lI L 1 - lI L 0 = 1) h2
      rw [show B = false by rw [hbe, decide_eq_false h2]; rfl]
      exact ⟨[0, 1], ⟨rfl, by repeat' (first | exact trivial | exact rfl | apply And.intro | exact (fun _ _ _ _ => Cell.le_refl _) | (intro i hi; rfl) | (intro i hi; exact absurd hi (Nat.not_lt_zero _))), by decide, rfl, by repeat' (first | exact trivial | exact rfl | apply And.intro | exact (fun _ _ _ _ => Cell.le_refl _) | (intro i hi; rfl) | (intro i hi; exact absurd hi (Nat.not_lt_zero _)))⟩⟩

end Go.Proofs.YthomoliklfmnkaaDoor.Vx
end

section
/- Chapter 7: what the examples fix; light pairs; the document's pairs as the program's: by the walker. -/
namespace Go.Proofs.YthomoliklfmnkaaDoor.Vx
open Sha
open Go.RowKit
set_option linter.unusedVariables false
set_option linter.unusedSimpArgs false
/-- The example's pairs. -/
def pr0 : List PP := [([98], [49]), ([100], [50])]
theorem pr0_good : goodL pr0 = true := by decide
theorem pr0_i : findI pr0 [99] = 1 := by decide
theorem pr0_b : findB pr0 [99] = false := by decide
theorem pr0_mk : mkL pr0 [99] = [mkLeaf pr0 0, mkLeaf pr0 1] := by
  unfold mkL
  rw [if_pos pr0_good, pr0_i, if_neg (by rw [pr0_b]; simp), if_pos (by decide), if_pos (by decide)]
  rfl
theorem pr0_c : mkC pr0 = 2 := by unfold mkC; rw [if_pos pr0_good]; rfl
theorem pr0_way : (wyL pr0 1).length = 1 := by
  have h := wyL_deep (L := pr0) (i := 1) (by decide)
  have h2 : deep (pr0.length : Int) ((1 : Nat) : Int) = 1 := by
    show deep 2 1 = 1
    have e : hf 2 = 1 := hf_pow2 0 (by decide)
    rw [deep_hi (by omega) (by rw [e]; omega), e, deep_out (by omega)]
    rfl
  rw [h2] at h
  omega
def ltPrAt (L : List PP) (i : Nat) : Bool := decide ((prK L i).length ≤ 300) && decide ((prV L i).length ≤ 200)
def ltPrB (L : List PP) : Bool := decide (L.length ≤ 40) && (List.range L.length).all (ltPrAt L)
theorem ltPrAt_iff {L : List PP} {i : Nat} : ltPrAt L i = true ↔ (prK L i).length ≤ 300 ∧ (prV L i).length ≤ 200 := by simp [ltPrAt]
theorem ltPrB_iff {L : List PP} : ltPrB L = true ↔ L.length ≤ 40 ∧ ∀ i, i < L.length → (prK L i).length ≤ 300 ∧ (prV L i).length ≤ 200 := by
  unfold ltPrB
  simp only [Bool.and_eq_true, decide_eq_true_iff, List.all_eq_true, List.mem_range, ltPrAt_iff]
def ltPre (ty one n : Nat) (get : Nat → List CV) : Prop := ty = 46 ∧ one = 2 ∧ PrAt n get
theorem pr_push {L : List PP} {m : Nat} (j : Nat) (hj : j < m + 1) : pushG m (prG L) [.str (prK L m), .str (prV L m)] j = prG L j := by
  unfold pushG
  by_cases h : j < m
  · rw [show Nat.blt j m = true by rw [Nat.blt_eq]; exact h]
  · rw [show Nat.blt j m = false by rw [Bool.eq_false_iff]; intro h2; rw [Nat.blt_eq] at h2; exact h h2]
    obtain rfl : j = m := by omega
    rfl
def tbPf : Tbl where
  T :=
    (3, ⟨1, false, [.int .i64 (0)], .int .i64, 8⟩) ::
    (4, ⟨1, false, [.ff], .bool, 1⟩) ::
    (9, ⟨1, false, [.str []], .str, 16⟩) ::
    (5, ⟨1, false, [.int .u8 (0)], .int .u8, 1⟩) ::
    (46, ⟨2, true, [.str [], .str []], .struct [(0, (1, false)), (1, (1, false))], 32⟩) ::
    (22, ⟨1, false, [.val (.slice none 0 0)], .slice 46, 24⟩) ::
    (63, ⟨2, true, [.str [], .str []], .struct [(0, (1, false)), (1, (1, false))], 32⟩) ::
    (31, ⟨1, false, [.val (.slice none 0 0)], .slice 63, 24⟩) ::
    (115, ⟨4, true, [.str [], .str [], .int .i64 (0), .val (.slice none 0 0)], .struct [(0, (1, false)), (1, (1, false)), (2, (1, false)), (3, (1, false))], 64⟩) ::
    (25, ⟨1, false, [.val (.slice none 0 0)], .slice 115, 24⟩) ::
    (27, ⟨2, true, [.int .i64 (0), .val (.slice none 0 0)], .struct [(0, (1, false)), (1, (1, false))], 32⟩) ::
    (24, ⟨32, true, [.int .u8 (0), .int .u8 (0), .int .u8 (0), .int .u8 (0), .int .u8 (0), .int .u8 (0), .int .u8 (0), .int .u8 (0), .int .u8 (0), .int .u8 (0), .int .u8 (0), .int .u8 (0), .int .u8 (0), .int .u8 (0), .int .u8 (0), .int .u8 (0), .int .u8 (0), .int .u8 (0), .int .u8 (0), .int .u8 (0), .int .u8 (0), .int .u8 (0), .int .u8 (0), .int .u8 (0), .int .u8 (0), .int .u8 (0), .int .u8 (0), .int .u8 (0), .int .u8 (0), .int .u8 (0), .int .u8 (0), .int .u8 (0)], .array 32 5, 32⟩) ::
    (113, ⟨1, false, [.val (.slice none 0 0)], .slice 24, 24⟩) ::
    []
  F :=
    (24, [0, 0, 0, 0, 0, 0, 0, 0, 0, 0, 0, 0, 0, 0, 0, 0, 0, 0, 0, 0, 0, 0, 0, 0, 0, 0, 0, 0, 0, 0, 0, 0]) ::
    []

theorem tbPf_ok : tbPf.Ok Tryd.prog where
  T :=
    TblOk.cons (by kernel_rfl) <|
    TblOk.cons (by kernel_rfl) <|
    TblOk.cons (by kernel_rfl) <|
    TblOk.cons (by kernel_rfl) <|
    TblOk.cons (by kernel_rfl) <|
    TblOk.cons (by kernel_rfl) <|
    TblOk.cons (by kernel_rfl) <|
    TblOk.cons (by kernel_rfl) <|
    TblOk.cons (by kernel_rfl) <|
    TblOk.cons (by kernel_rfl) <|
    TblOk.cons (by kernel_rfl) <|
    TblOk.cons (by kernel_rfl) <|
    TblOk.cons (by kernel_rfl) <|
    TblOk.nil _
  F :=
    FlatsOk.cons (FlatOk.of (D := .array 32 5) 6 (by decide) (by kernel_rfl) (by kernel_rfl) rfl (by kernel_rfl)) <|
    FlatsOk.nil _

def sFirst7 : SpecF
  | [], [.glob gg sz0 n0 get0] => some (KsAt gg sz0 n0 get0, .c .tt, [.dead])
  | _, _ => none

set_option maxRecDepth 100000 in
set_option maxHeartbeats 4000000 in
theorem first7P : Fn Tryd.prog 13 [0] [] sFirst7 := by
  have hC : CtsOk Tryd.prog [(22, appFn [0] [(63, 2)] sMake)] := CtsOk.cons (Fn.ct makeP) <| CtsOk.nil _
  refine Fn.of (E := tbPf) [0] 0 [] tbPf_ok hC (by kernel_rfl) Tryd.func13 rfl rfl rfl (by kernel_rfl) (by kernel_rfl) 1 5 1 ?_ ?_
  · intro args h pre r h' hs
    unfold sFirst7 at hs
    split at hs
    · cases hs; exact ⟨rfl, rfl, Nat.le_of_ble_eq_true rfl⟩
    · cases hs
  · intro args h pre r h' hs hp
    unfold sFirst7 at hs
    split at hs
    rotate_left
    · cases hs
    rename_i gg sz0 n0 get0
    cases hs
    have hK := hp
    refine ⟨[.glob 0 1 64 (fun i => [.int .u32 (kOf i)])], ⟨hK.same.1, trivial⟩, ?_⟩
    clear hK
    unfold sMake
    try unfold leafG
    generalize ho0 : @prL = zo0, ho1 : @KsAt = zo1, ho2 : @kOf = zo2, ho3 : @lK = zo3, ho4 : @lV = zo4, ho5 : @lI = zo5, ho6 : @lP = zo6, ho7 : @lN = zo7, ho8 : @pG = zo8, ho9 : @mkLeaf = zo9, ho10 : @mkL = zo10, ho11 : @mkC = zo11, ho12 : @mkPre = zo12, ho13 : @lenL = zo13, ho14 : @pr0 = zo14
    generalize hA : Arith.std = A
    cbv
    subst hA ho0 ho1 ho2 ho3 ho4 ho5 ho6 ho7 ho8 ho9 ho10 ho11 ho12 ho13 ho14
    have eP : prL 2 (cutC 2 [.str [98], .str [49], .str [100], .str [50]] 0) = pr0 := rfl
    refine Need.mk ⟨ksAt_self, rfl, rfl, fun i hi => ?pr, by decide⟩ fun _ => ?_
    case pr =>
      rcases (show i = 0 ∨ i = 1 by omega) with rfl | rfl
      · exact ⟨_, _, rfl⟩
      · exact ⟨_, _, rfl⟩
    simp only [eP, pr0_c, pr0_mk]
    have e2 : lenL [mkLeaf pr0 0, mkLeaf pr0 1] = 2 := rfl
    have e3 : lK [mkLeaf pr0 0, mkLeaf pr0 1] 0 = [98] := rfl
    have e4 : lI [mkLeaf pr0 0, mkLeaf pr0 1] 1 = 1 := rfl
    have e5 : lN [mkLeaf pr0 0, mkLeaf pr0 1] 1 = 1 := pr0_way
    simp only [e2, Arith.std, Int.ofNat_eq_natCast, Int.toNat_natCast]
    refine Ife.mk (fun _ => ?_) (fun h => absurd h (by simp))
    refine Ife.mk (fun _ => ?_) (fun h => absurd h (by simp))
    refine Need.mk (by show (0 : Int) ≤ 0 ∧ (0 : Int) < 2; omega) fun _ => Need.mk (by show (0 : Int).toNat < 2; decide) fun _ => ?_
    refine Ife.mk (fun _ => ?_) (fun h => absurd h (by show ¬ decide (lK [mkLeaf pr0 0, mkLeaf pr0 1] 0 = [98]) = false; rw [e3]; simp))
    refine Need.mk (by show (0 : Int) ≤ 1 ∧ (1 : Int) < 2; omega) fun _ => Need.mk (by show (1 : Int).toNat < 2; decide) fun _ => ?_
    refine Ife.mk (fun _ => ?_) (fun h => absurd h (by show ¬ decide (lI [mkLeaf pr0 0, mkLeaf pr0 1] 1 = 1) = false; rw [e4]; simp))
    refine Need.mk (by show (0 : Int) ≤ 1 ∧ (1 : Int) < 2; omega) fun _ => Need.mk (by show (1 : Int).toNat < 2; decide) fun _ => ?_
    have hT : decide ((lN [mkLeaf pr0 0, mkLeaf pr0 1] 1 : Int) = 1) = true := by rw [e5]; rfl
    exact ⟨[0], ⟨rfl, (by repeat' (first | exact trivial | exact hT | exact rfl | apply And.intro)), (by decide), rfl, by repeat' (first | exact trivial | exact rfl | apply And.intro | exact (fun _ _ _ _ => Cell.le_refl _) | (intro i hi; rfl) | (intro i hi; exact absurd hi (Nat.not_lt_zero _)))⟩⟩

def sLtPr : SpecF
  | [.c (.row 0)], [.elems ty one n get] => some (ltPre ty one n get, .c (.bool (ltPrB (prL n get))), [.dead])
  | _, _ => none

set_option maxRecDepth 100000 in
set_option maxHeartbeats 4000000 in
theorem ltPrP : Fn Tryd.prog 14 [] [(46, 2)] sLtPr := by
  have hC : CtsOk Tryd.prog [] := CtsOk.nil _
  refine Fn.of (E := tbPf) [] 0 [] tbPf_ok hC (by kernel_rfl) Tryd.func14 rfl rfl rfl (by kernel_rfl) (by kernel_rfl) 1 5 1 ?_ ?_
  · intro args h pre r h' hs
    unfold sLtPr at hs
    split at hs
    · cases hs; exact ⟨rfl, rfl, Nat.le_of_ble_eq_true rfl⟩
    · cases hs
  · intro args h pre r h' hs hp
    unfold sLtPr at hs
    split at hs
    rotate_left
    · cases hs
    rename_i ty one n get
    cases hs
    obtain ⟨rfl, rfl, hst⟩ := hp
    refine ⟨[.elems 46 2 n (prG (prL n get))], ⟨⟨rfl, rfl, rfl, fun i hi => hst.eq hi⟩, trivial⟩, ?_⟩
    have hL : (prL n get).length = n := prL_len
    generalize prL n get = L at hL ⊢
    generalize hg0 : (List.length : List UInt8 → Nat) = g0
    generalize hL : lft Tryd.prog _ = L
    try unfold prG
    generalize ho0 : @prK = zo0, ho1 : @prV = zo1, ho2 : @prL = zo2, ho3 : @ltPrAt = zo3, ho4 : @ltPrB = zo4, ho5 : @ltPre = zo5
    generalize hA : Arith.std = A
    cbv
    subst hA hg0 hL ho0 ho1 ho2 ho3 ho4 ho5
    refine Ife.mk (fun h => ?_) (fun h => ?_)
    · have h : (40 : Int) < (@Nat.cast Int instNatCastInt n) := of_decide_eq_true (p := (40 : Int) < (n : Int)) h
      rw [show ltPrB L = false by unfold ltPrB; rw [decide_eq_false (by omega)]; rfl]
      exact ⟨[0], ⟨rfl, by repeat' (first | exact trivial | exact rfl | apply And.intro | exact (fun _ _ _ _ => Cell.le_refl _) | (intro i hi; rfl) | (intro i hi; exact absurd hi (Nat.not_lt_zero _))), by decide, rfl, by repeat' (first | exact trivial | exact rfl | apply And.intro | exact (fun _ _ _ _ => Cell.le_refl _) | (intro i hi; rfl) | (intro i hi; exact absurd hi (Nat.not_lt_zero _)))⟩⟩
    have h : ¬ ((40 : Int) < (@Nat.cast Int instNatCastInt n)) := of_decide_eq_false (p := (40 : Int) < (n : Int)) h
    replace h := And.intro h trivial
    obtain ⟨hc0, _⟩ := h
    show Runs Tryd.prog 1 (.loop _) _ _
    refine loop_ruleR (N := env (lft Tryd.prog 1) 0 .std tbPf [] []) rfl tbPf_ok hC (fun c st K _ h => h) (by kernel_rfl) [] (X := LIx n (ltPrAt L))
      (S := fun x => ⟨[.c (.row 0), .any, .any, .c (.int .i64 x.i)] ++ List.replicate 25 .any, [.elems 46 2 n (prG L)]⟩) (μ := fun x => n - x.i.toNat) ⟨0, by omega, by omega, fun k hk => absurd hk (by omega)⟩ (by kernel_rfl) [0] ?_ ?_
    · refine ⟨rfl, by decide, ?_, ?_⟩ <;> repeat' (first | exact trivial | exact rfl | apply And.intro | exact (fun _ _ _ _ => Cell.le_refl _) | (intro i hi; rfl) | (intro i hi; exact absurd hi (Nat.not_lt_zero _)))
    rintro ⟨i, hi0, hin, hP⟩
    generalize hg0 : (List.length : List UInt8 → Nat) = g0
    generalize hL : lft Tryd.prog _ = L
    try dsimp only
    try unfold prG
    generalize ho0 : @prK = zo0, ho1 : @prV = zo1, ho2 : @prL = zo2, ho3 : @ltPrAt = zo3, ho4 : @ltPrB = zo4, ho5 : @ltPre = zo5
    generalize hA : Arith.std = A
    cbv
    subst hA hg0 hL ho0 ho1 ho2 ho3 ho4 ho5
    try replace hc0 : ¬ ((40 : Int) < (@Nat.cast Int instNatCastInt n)) := hc0
    replace hi0 : 0 ≤ i := hi0
    replace hin : i ≤ @Nat.cast Int instNatCastInt n := hin
    replace hP : ∀ k, k < i.toNat → ltPrAt L k = true := hP
    refine Ife.mk (fun hlt => ?_) (fun hlt => ?_)
    · replace hlt : i < @Nat.cast Int instNatCastInt n := of_decide_eq_true (p := i < (n : Int)) hlt
      have hiL : i.toNat < L.length := by omega
      have no : ¬ ltPrAt L i.toNat = true → ltPrB L = false := fun h => by unfold ltPrB; rw [all_no hiL h, Bool.and_false]
      refine Need.mk (by show 0 ≤ i ∧ i < (n : Int); omega) fun _ => Need.mk (by show i.toNat < n; omega) fun _ => ?_
      refine Ife.mk (fun h => ?_) (fun h => ?_)
      · have h : (300 : Int) < ((prK L i.toNat).length : Int) := of_decide_eq_true (p := (300 : Int) < ((prK L i.toNat).length : Int)) h
        rw [no fun hh => by have hh := ltPrAt_iff.1 hh; omega]
        exact ⟨[0], ⟨rfl, by repeat' (first | exact trivial | exact rfl | apply And.intro | exact (fun _ _ _ _ => Cell.le_refl _) | (intro i hi; rfl) | (intro i hi; exact absurd hi (Nat.not_lt_zero _))), by decide, rfl, by repeat' (first | exact trivial | exact rfl | apply And.intro | exact (fun _ _ _ _ => Cell.le_refl _) | (intro i hi; rfl) | (intro i hi; exact absurd hi (Nat.not_lt_zero _)))⟩⟩
      have h1 : ¬ (300 : Int) < ((prK L i.toNat).length : Int) := of_decide_eq_false (p := (300 : Int) < ((prK L i.toNat).length : Int)) h
      refine Need.mk (by show 0 ≤ i ∧ i < (n : Int); omega) fun _ => Need.mk (by show i.toNat < n; omega) fun _ => ?_
      refine Ife.mk (fun h => ?_) (fun h => ?_)
      · have h : (200 : Int) < ((prV L i.toNat).length : Int) := of_decide_eq_true (p := (200 : Int) < ((prV L i.toNat).length : Int)) h
        rw [no fun hh => by have hh := ltPrAt_iff.1 hh; omega]
        exact ⟨[0], ⟨rfl, by repeat' (first | exact trivial | exact rfl | apply And.intro | exact (fun _ _ _ _ => Cell.le_refl _) | (intro i hi; rfl) | (intro i hi; exact absurd hi (Nat.not_lt_zero _))), by decide, rfl, by repeat' (first | exact trivial | exact rfl | apply And.intro | exact (fun _ _ _ _ => Cell.le_refl _) | (intro i hi; rfl) | (intro i hi; exact absurd hi (Nat.not_lt_zero _)))⟩⟩
      have h2 : ¬ (200 : Int) < ((prV L i.toNat).length : Int) := of_decide_eq_false (p := (200 : Int) < ((prV L i.toNat).length : Int)) h
      refine Need.mk (by show fitStd .i64 (i + 1); unfold fitStd; omega) fun _ => ?_
      refine ⟨⟨i + 1, by omega, by omega, lix_next hi0 hP (ltPrAt_iff.2 (by omega))⟩, [0], (by show n - (i + 1).toNat < n - i.toNat; omega), ?_⟩
      refine ⟨rfl, by decide, ?_, ?_⟩ <;> repeat' (first | exact trivial | exact rfl | apply And.intro | exact (fun _ _ _ _ => Cell.le_refl _) | (intro i hi; rfl) | (intro i hi; exact absurd hi (Nat.not_lt_zero _)))
    · replace hlt : ¬ i < @Nat.cast Int instNatCastInt n := of_decide_eq_false (p := i < (n : Int)) hlt
      rw [show ltPrB L = true by unfold ltPrB; rw [all_yes hP (by omega), decide_eq_true (by omega)]; rfl]
      exact ⟨[0], ⟨rfl, by repeat' (first | exact trivial | exact rfl | apply And.intro | exact (fun _ _ _ _ => Cell.le_refl _) | (intro i hi; rfl) | (intro i hi; exact absurd hi (Nat.not_lt_zero _))), by decide, rfl, by repeat' (first | exact trivial | exact rfl | apply And.intro | exact (fun _ _ _ _ => Cell.le_refl _) | (intro i hi; rfl) | (intro i hi; exact absurd hi (Nat.not_lt_zero _)))⟩⟩

def sOwn : SpecF
  | [.c (.row 0)], [.elems ty one n get] => some (prPreR ty one n get, .c (.row 1), [.dead, .row 63 2 n (prG (prL n get))])
  | _, _ => none

set_option maxRecDepth 100000 in
set_option maxHeartbeats 8000000 in
theorem ownPrP : Fn Tryd.prog 16 [] [(46, 2)] sOwn := by
  have hC : CtsOk Tryd.prog [] := CtsOk.nil _
  refine Fn.of (E := tbPf) [] 0 [(5, [(2001, false), (0, true), (1, true), (2, true), (3, true), (4, true), (5, true), (6, true), (7, true), (8, true), (9, true), (10, true), (11, true), (12, false), (13, false), (14, true)])] tbPf_ok hC (by kernel_rfl) Tryd.func16 rfl rfl rfl (by kernel_rfl) (by kernel_rfl) 1 63 2 ?_ ?_
  · intro args h pre r h' hs
    unfold sOwn at hs
    split at hs
    · cases hs; exact ⟨rfl, rfl, Nat.le_of_ble_eq_true rfl⟩
    · cases hs
  · intro args h pre r h' hs hp
    unfold sOwn at hs
    split at hs
    rotate_left
    · cases hs
    rename_i ty one n get
    cases hs
    obtain ⟨rfl, rfl, hst, hm⟩ := hp
    refine ⟨[.elems 46 2 n (prG (prL n get))], ⟨⟨rfl, rfl, rfl, fun i hi => hst.eq hi⟩, trivial⟩, ?_⟩
    have hL : (prL n get).length = n := prL_len
    have ePR : prL n (prG (prL n get)) = prL n get := by
      have := prL_prG (prL n get)
      rwa [hL] at this
    generalize prL n get = L at hL ePR ⊢
    generalize hg0 : (List.length : List PP → Nat) = g0
    generalize hL : lft Tryd.prog _ = L
    try unfold prG
    generalize ho0 : @prK = zo0, ho1 : @prV = zo1, ho2 : @prL = zo2, ho3 : @prPreR = zo3
    generalize hA : Arith.std = A
    cbv
    subst hA hg0 hL ho0 ho1 ho2 ho3
    refine Runs.nilTmp 3 63 2 (prG L) rfl ?_
    show Runs Tryd.prog 1 (.loop _) _ _
    refine loop_ruleR (N := env (lft Tryd.prog 1) 0 .std tbPf [] [(5, [(2001, false), (0, true), (1, true), (2, true), (3, true), (4, true), (5, true), (6, true), (7, true), (8, true), (9, true), (10, true), (11, true), (12, false), (13, false), (14, true)])]) rfl tbPf_ok hC (fun c st K _ h => h) (by kernel_rfl) [] (X := LSm n)
      (S := fun x => ⟨[.c (.row 0), .any, .any, .c (.row 1), .c (.int .i64 (x.j : Int))] ++ List.replicate 21 .any, [.elems 46 2 n (prG L), .row 63 2 x.j (prG L)]⟩) (μ := fun x => n - x.j) ⟨0, Nat.zero_le _⟩ (by kernel_rfl) [0, 1] ?_ ?_
    · refine ⟨rfl, by decide, ?_, ?_⟩ <;> repeat' (first | exact trivial | exact rfl | apply And.intro | exact (fun _ _ _ _ => Cell.le_refl _) | (intro i hi; rfl) | (intro i hi; exact absurd hi (Nat.not_lt_zero _)))
    rintro ⟨j, hjn⟩
    generalize hg0 : (List.length : List PP → Nat) = g0
    generalize hL : lft Tryd.prog _ = L
    try dsimp only
    try unfold prG
    generalize ho0 : @prK = zo0, ho1 : @prV = zo1, ho2 : @prL = zo2, ho3 : @prPreR = zo3
    generalize hA : Arith.std = A
    cbv
    subst hA hg0 hL ho0 ho1 ho2 ho3
    refine Ife.mk (fun h => ?_) (fun h => ?_)
    · have h : (j : Int) < (@Nat.cast Int instNatCastInt n) := of_decide_eq_true (p := (j : Int) < (n : Int)) h
      have hj2 : j < n := Int.ofNat_lt.mp h
      refine Need.mk (by show 0 ≤ (j : Int) ∧ (j : Int) < (n : Int); omega) fun _ => Need.mk (by show (j : Int).toNat < n; omega) fun _ => Need.mk (by show 0 ≤ (j : Int) ∧ (j : Int) < (n : Int); omega) fun _ => Need.mk (by show (j : Int).toNat < n; omega) fun _ => ?_
      refine Need.mk (by show j + 1 ≤ maxLen ∧ (j + 1) * 32 ≤ 140737488355328; unfold maxLen; omega) fun _ => Need.mk (by show fitStd .i64 ((j : Int) + 1); unfold fitStd; omega) fun _ => ?_
      have hp := pr_push (L := L) (m := j)
      refine ⟨⟨j + 1, by omega⟩, [0, 3], (by show n - (j + 1) < n - j; omega), ?_⟩
      refine ⟨rfl, (by decide), ?_, ?_⟩ <;> repeat' (first | exact trivial | exact hp | exact ej | exact rfl | apply And.intro | exact (fun _ _ _ _ => Cell.le_refl _) | (intro i hi; rfl) | (intro i hi; exact absurd hi (Nat.not_lt_zero _)))
    · have h : ¬ (j : Int) < (@Nat.cast Int instNatCastInt n) := of_decide_eq_false (p := (j : Int) < (n : Int)) h
      have ej : j = n := by have : ¬ j < n := fun q => h (Int.ofNat_lt.mpr q)
                            omega
      exact ⟨[0, 1], ⟨rfl, (by repeat' (first | exact trivial | exact hp | exact ej | exact rfl | apply And.intro | exact (fun _ _ _ _ => Cell.le_refl _) | (intro i hi; rfl) | (intro i hi; exact absurd hi (Nat.not_lt_zero _)))), (by show List.Nodup [1]; decide), rfl, by repeat' (first | exact trivial | exact hp | exact ej | exact rfl | apply And.intro | exact (fun _ _ _ _ => Cell.le_refl _) | (intro i hi; rfl) | (intro i hi; exact absurd hi (Nat.not_lt_zero _)))⟩⟩

end Go.Proofs.YthomoliklfmnkaaDoor.Vx
end

section
/- Acts on a store, by the walker: Few; and the store's Prove. -/
namespace Go.Proofs.YthomoliklfmnkaaDoor.Vx
open Sha
open Go.RowKit
set_option linter.unusedVariables false
set_option linter.unusedSimpArgs false






end Go.Proofs.YthomoliklfmnkaaDoor.Vx
end
