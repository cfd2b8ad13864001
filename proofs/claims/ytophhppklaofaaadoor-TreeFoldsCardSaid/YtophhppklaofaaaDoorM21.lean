/- Trees: folds, by the walker. -/
import Derived.Test.YtophhppklaofaaaDoorM20
section
namespace Go.Proofs.YtophhppklaofaaaDoor.Vx
open Go.RowKit Sha
set_option linter.unusedVariables false
set_option linter.unusedSimpArgs false
/-- The sum above leaves that comes of one of them, and of the sums beside. -/
def foldR (W : Nat → Nat → Int) (leaf : Nat → Int) : Nat → Int → Int → (Nat → Int)
  | 0, _, _ => leaf
  | k + 1, n, i => if i < hf n then nodeF (hashB (foldR W leaf k (hf n) i)) (hashB (W k)) else nodeF (hashB (W k)) (hashB (foldR W leaf k (n - hf n) (i - hf n)))
theorem foldR_congr {W W' : Nat → Nat → Int} (leaf : Nat → Int) : ∀ (k : Nat) (n i : Int), (∀ j, j < k → W j = W' j) → foldR W leaf k n i = foldR W' leaf k n i
  | 0, _, _, _ => rfl
  | k + 1, n, i, h => by
    unfold foldR
    rw [foldR_congr leaf k (hf n) i (fun j hj => h j (by omega)), foldR_congr leaf k (n - hf n) (i - hf n) (fun j hj => h j (by omega)), h k (by omega)]
theorem foldR_range {W : Nat → Nat → Int} {leaf : Nat → Int} (hl : ∀ j, 0 ≤ leaf j ∧ leaf j < 256) : ∀ (k : Nat) (n i : Int) (j : Nat), 0 ≤ foldR W leaf k n i j ∧ foldR W leaf k n i j < 256
  | 0, _, _, j => hl j
  | k + 1, n, i, j => by
    unfold foldR
    split <;> exact sumI_range _ j
theorem hf_in (n : Int) (h0 : 0 ≤ n) (h1 : n ≤ 1073741824) : 0 ≤ hf n ∧ hf n ≤ n := by
  by_cases h : n < 2
  · rw [hf_zero (Or.inl h)]; omega
  · have := hf_lt (n := n) (by omega) h1; omega
def foldG (get : Nat → List CV) (leaf : List CV) (k : Nat) (n i : Int) : Nat → Int := foldR (fun j => hOf (get j)) (hOf leaf) k n i
def foldPre (K : Nat) (gg sz n : Nat) (get : Nat → List CV) (ty one m : Nat) (gets : Nat → List CV) (leaf : List CV) (a i : Int) : Prop := KsAt gg sz n get ∧ ty = 24 ∧ one = 32 ∧ HashesAt m gets ∧ HashC leaf ∧ m < K ∧ m ≤ 1000000 ∧ 0 ≤ a ∧ a ≤ 1073741824 ∧ 0 ≤ i ∧ i ≤ 1073741824
def sFoldN (K : Nat) : SpecF
  | [.c (.int .i64 a), .c (.int .i64 i), .agg leaf, .c (.row 1)], [.glob gg sz n get, .elems ty one m gets] => some (foldPre K gg sz n get ty one m gets leaf a i, .agg (hashC (foldG gets leaf m a i)), [.dead, .dead])
  | _, _ => none

set_option maxRecDepth 100000 in
set_option maxHeartbeats 8000000 in
theorem foldStep (K : Nat) (ih : Fn Tryd.prog 100 [0] [(24, 32)] (sFoldN K)) : Fn Tryd.prog 100 [0] [(24, 32)] (sFoldN (K + 1)) := by
  have hC : CtsOk Tryd.prog [(53, appPure sHalf), (100, appFn [0] [(24, 32)] (sFoldN K)), (56, appFn [0] [] sNode)] := CtsOk.cons (Pure.ct halfP) <| CtsOk.cons (Fn.ct ih) <| CtsOk.cons (Fn.ct nodeP) <| CtsOk.nil _
  refine Fn.of (E := tbH) [0] 0 [(5, [(2003, false), (0, true), (1, true), (2, true), (3, true), (4, true), (5, true), (7, true), (8, true), (9, true), (10, true), (6, false), (11, false), (12, false)]), (6, [(2003, false), (0, true), (1, true), (2, true), (3, true), (4, true), (5, true), (6, true), (7, true), (8, true), (9, true), (10, true), (11, true), (12, true), (13, true), (14, false), (15, false), (16, false)])] tbH_ok hC (by kernel_rfl) Tryd.func100 rfl rfl rfl (by kernel_rfl) (by kernel_rfl) 2 5 1 ?_ ?_
  · intro args h pre r h' hs
    unfold sFoldN at hs
    split at hs
    · cases hs; exact ⟨rfl, rfl, Nat.le_of_ble_eq_true rfl⟩
    · cases hs
  · intro args h pre r h' hs hp
    unfold sFoldN at hs
    split at hs
    rotate_left
    · cases hs
    rename_i a i leaf gg sz n get ty one m gets
    cases hs
    obtain ⟨hK, rfl, rfl, hst, ⟨f, rfl, hf_⟩, hlt, hm, a0, a1, i0, i1⟩ := hp
    refine ⟨[.glob 0 1 64 (fun i => [.int .u32 (kOf i)]), .elems 24 32 m (fun i => hashC (hOf (gets i)))], ⟨hK.same.1, hst.same.1, trivial⟩, ?_⟩
    clear hK
    unfold hashC
    unfold sFoldN sNode sHalf
    generalize ho0 : @hf = zo0, ho1 : @hOf = zo1, ho2 : @HashesAt = zo2, ho3 : @cutC = zo3, ho4 : @kOf = zo4, ho5 : @HashC = zo5, ho6 : @u8s = zo6, ho7 : @nodeF = zo7, ho8 : @nodePre = zo8, ho9 : @foldG = zo9, ho10 : @foldPre = zo10
    generalize hA : Arith.std = A
    cbv
    subst hA ho0 ho1 ho2 ho3 ho4 ho5 ho6 ho7 ho8 ho9 ho10
    refine Ife.mk (fun h => ?_) (fun h => ?_)
    · have h : (m : Int) = 0 := of_decide_eq_true (p := (m : Int) = 0) h
      obtain rfl : m = 0 := by omega
      show ∃ σ, LeftF _ _ _ σ _ _ (.agg (hashC (hOf (hashC f)))) _
      exact ⟨[0, 1], ⟨rfl, by repeat' (first | exact trivial | exact rfl | apply And.intro), by decide, rfl, by repeat' (first | exact trivial | exact rfl | apply And.intro)⟩⟩
    have h0 : ¬ (m : Int) = 0 := of_decide_eq_false (p := (m : Int) = 0) h
    obtain ⟨k, rfl⟩ : ∃ k, m = k + 1 := ⟨m - 1, by omega⟩
    have hh := hf_in a a0 a1
    have kk : (((k + 1 : Nat) : Int) - 1 - 0).toNat = k := by omega
    have kl : (((k + 1 : Nat) : Int) - 1).toNat = k := by omega
    have cg : ∀ n j : Int, foldG (fun j => hashC (hOf (gets (0 + j)))) (hashC f) (((k + 1 : Nat) : Int) - 1 - 0).toNat n j = foldR (fun j => hOf (gets j)) (hOf (hashC f)) k n j := fun n j => by
      rw [kk]
      unfold foldG
      refine foldR_congr _ k n j fun j hj => ?_
      show hOf (hashC (hOf (gets (0 + j)))) = hOf (gets j)
      rw [Nat.zero_add]
      exact hOf_idem (hst j (by omega))
    have c1 : HashesAt (((k + 1 : Nat) : Int) - 1 - 0).toNat (fun j => hashC (hOf (gets (0 + j)))) := hst.cut 0 _ (by omega)
    have hL : HashC (hashC f) := ⟨_, rfl, hf_⟩
    have rg : ∀ n j : Int, HashC (hashC (foldG (fun j => hashC (hOf (gets (0 + j)))) (hashC f) (((k + 1 : Nat) : Int) - 1 - 0).toNat n j)) := fun n j => by
      rw [cg]
      exact ⟨_, rfl, foldR_range (fun j => hOf_range hL j) k n j⟩
    have rk : HashC (hashC (hOf (gets (((k + 1 : Nat) : Int) - 1).toNat))) := ⟨_, rfl, fun j => hOf_range (hst _ (by omega)) j⟩
    have fl : fitStd .i64 (((k + 1 : Nat) : Int) - 1) := by unfold fitStd; omega
    have n1 : (0 : Int) ≤ 0 ∧ (0 : Int) ≤ ((k + 1 : Nat) : Int) - 1 ∧ ((k + 1 : Nat) : Int) - 1 ≤ ((k + 1 : Nat) : Int) := by omega
    have n2 : (0 : Int) ≤ ((k + 1 : Nat) : Int) - 1 ∧ ((k + 1 : Nat) : Int) - 1 < ((k + 1 : Nat) : Int) := by omega
    have n3 : (((k + 1 : Nat) : Int) - 1).toNat < k + 1 := by omega
    refine Need.mk trivial fun _ => Need.mk fl fun _ => ?_
    refine Ife.mk (fun h => ?_) (fun h => ?_)
    · have h : i < hf a := of_decide_eq_true (p := i < hf a) h
      have p1 : foldPre K 0 1 64 (fun i => [.int .u32 (kOf i)]) 24 32 (((k + 1 : Nat) : Int) - 1 - 0).toNat (fun j => hashC (hOf (gets (0 + j)))) (hashC f) (hf a) i := ⟨ksAt_self, rfl, rfl, c1, hL, by omega, by omega, by omega, by omega, i0, i1⟩
      repeat (first | refine Need.mk n1 fun _ => ?_ | refine Need.mk n2 fun _ => ?_ | refine Need.mk n3 fun _ => ?_ | refine Need.mk p1 fun _ => ?_)
      refine Need.mk ⟨ksAt_self, rg (hf a) i, rk⟩ fun _ => ?_
      show ∃ σ, LeftF _ _ _ σ (.agg (hashC (nodeF (u8s (hashC (foldG (fun j => hashC (hOf (gets (0 + j)))) (hashC f) (((k + 1 : Nat) : Int) - 1 - 0).toNat (hf a) i))) (u8s (hashC (hOf (gets (((k + 1 : Nat) : Int) - 1).toNat))))))) _ (.agg (hashC (foldG gets (hashC f) (k + 1) a i))) _
      rw [cg, kl, show foldG gets (hashC f) (k + 1) a i = nodeF (hashB (foldR (fun j => hOf (gets j)) (hOf (hashC f)) k (hf a) i)) (hashB (hOf (gets k))) by unfold foldG; rw [foldR, if_pos h], u8s_hash, u8s_hash]
      exact ⟨[0, 1], ⟨rfl, by repeat' (first | exact trivial | exact rfl | apply And.intro), by decide, rfl, by repeat' (first | exact trivial | exact rfl | apply And.intro)⟩⟩
    · have h : ¬ i < hf a := of_decide_eq_false (p := i < hf a) h
      have p1 : foldPre K 0 1 64 (fun i => [.int .u32 (kOf i)]) 24 32 (((k + 1 : Nat) : Int) - 1 - 0).toNat (fun j => hashC (hOf (gets (0 + j)))) (hashC f) (a - hf a) (i - hf a) := ⟨ksAt_self, rfl, rfl, c1, hL, by omega, by omega, by omega, by omega, by omega, by omega⟩
      have n4 : fitStd .i64 (a - hf a) := by unfold fitStd; omega
      have n5 : fitStd .i64 (i - hf a) := by unfold fitStd; omega
      repeat (first | refine Need.mk n1 fun _ => ?_ | refine Need.mk n2 fun _ => ?_ | refine Need.mk n3 fun _ => ?_ | refine Need.mk n4 fun _ => ?_ | refine Need.mk n5 fun _ => ?_ | refine Need.mk p1 fun _ => ?_)
      refine Need.mk ⟨ksAt_self, rk, rg (a - hf a) (i - hf a)⟩ fun _ => ?_
      show ∃ σ, LeftF _ _ _ σ (.agg (hashC (nodeF (u8s (hashC (hOf (gets (((k + 1 : Nat) : Int) - 1).toNat)))) (u8s (hashC (foldG (fun j => hashC (hOf (gets (0 + j)))) (hashC f) (((k + 1 : Nat) : Int) - 1 - 0).toNat (a - hf a) (i - hf a))))))) _ (.agg (hashC (foldG gets (hashC f) (k + 1) a i))) _
      rw [cg, kl, show foldG gets (hashC f) (k + 1) a i = nodeF (hashB (hOf (gets k))) (hashB (foldR (fun j => hOf (gets j)) (hOf (hashC f)) k (a - hf a) (i - hf a))) by unfold foldG; rw [foldR, if_neg h], u8s_hash, u8s_hash]
      exact ⟨[0, 1], ⟨rfl, by repeat' (first | exact trivial | exact rfl | apply And.intro), by decide, rfl, by repeat' (first | exact trivial | exact rfl | apply And.intro)⟩⟩

theorem foldAll (K : Nat) : Fn Tryd.prog 100 [0] [(24, 32)] (sFoldN K) := by
  induction K with
  | zero =>
    refine Fn.plain (by kernel_rfl) (fun args h pre res h' hs => ?_) fun args h pre res h' hs hp ρ W us rel hus => ?_
    · unfold sFoldN at hs
      split at hs
      · cases hs; exact ⟨rfl, Nat.le_refl _⟩
      · cases hs
    · unfold sFoldN at hs
      split at hs
      · cases hs; exact absurd hp.2.2.2.2.2.1 (Nat.not_lt_zero _)
      · cases hs
  | succ K ih => exact foldStep K ih
def foldPre0 (gg sz n : Nat) (get : Nat → List CV) (ty one m : Nat) (gets : Nat → List CV) (leaf : List CV) (a i : Int) : Prop := KsAt gg sz n get ∧ ty = 24 ∧ one = 32 ∧ HashesAt m gets ∧ HashC leaf ∧ m ≤ 1000000 ∧ 0 ≤ a ∧ a ≤ 1073741824 ∧ 0 ≤ i ∧ i ≤ 1073741824
def sFold0 : SpecF
  | [.c (.int .i64 a), .c (.int .i64 i), .agg leaf, .c (.row 1)], [.glob gg sz n get, .elems ty one m gets] => some (foldPre0 gg sz n get ty one m gets leaf a i, .agg (hashC (foldG gets leaf m a i)), [.dead, .dead])
  | _, _ => none

theorem fold0P : Fn Tryd.prog 100 [0] [(24, 32)] sFold0 := by
  refine Fn.plain (by kernel_rfl) (fun args h pre res h' hs => ?_) fun args h pre res h' hs hp ρ W us rel hus => ?_
  · unfold sFold0 at hs
    split at hs
    · cases hs; exact ⟨rfl, Nat.le_refl _⟩
    · cases hs
  · unfold sFold0 at hs
    split at hs
    rotate_left
    · cases hs
    rename_i a i leaf gg sz n get ty one m gets
    cases hs
    obtain ⟨h1, h2, h3, h4, h5, h6, h7⟩ := hp
    exact (foldAll (m + 1)).run _ _ _ _ _ rfl ⟨h1, h2, h3, h4, h5, Nat.lt_succ_self m, h6, h7⟩ ρ W us rel hus
def fdB (m : Nat) (a i : Int) : Bool := inN a i && decide ((m : Int) = deep a i)
def fdH (gets : Nat → List CV) (leaf : List CV) (m : Nat) (a i : Int) : Nat → Int := if fdB m a i then foldG gets leaf m a i else fun _ => 0
def fdPre (gg sz n : Nat) (get : Nat → List CV) (ty one m : Nat) (gets : Nat → List CV) (leaf : List CV) : Prop := KsAt gg sz n get ∧ ty = 24 ∧ one = 32 ∧ HashesAt m gets ∧ HashC leaf ∧ m ≤ 1000000
def sFold : SpecF
  | [.c (.int .i64 a), .c (.int .i64 i), .agg leaf, .c (.row 1)], [.glob gg sz n get, .elems ty one m gets] => some (fdPre gg sz n get ty one m gets leaf, .tup [(none, hashC (fdH gets leaf m a i)), (some (.bool (fdB m a i)), [])], [.dead, .dead])
  | _, _ => none

set_option maxRecDepth 100000 in
set_option maxHeartbeats 8000000 in
theorem fdP : Fn Tryd.prog 58 [0] [(24, 32)] sFold := by
  have hC : CtsOk Tryd.prog [(99, appPure sIn), (54, appPure sDeep), (100, appFn [0] [(24, 32)] sFold0)] := CtsOk.cons (Pure.ct inP) <| CtsOk.cons (Pure.ct deepP) <| CtsOk.cons (Fn.ct fold0P) <| CtsOk.nil _
  refine Fn.of (E := tbH) [0] 0 [] tbH_ok hC (by kernel_rfl) Tryd.func58 rfl rfl rfl (by kernel_rfl) (by kernel_rfl) 2 5 1 ?_ ?_
  · intro args h pre r h' hs
    unfold sFold at hs
    split at hs
    · cases hs; exact ⟨rfl, rfl, Nat.le_of_ble_eq_true rfl⟩
    · cases hs
  · intro args h pre r h' hs hp
    unfold sFold at hs
    split at hs
    rotate_left
    · cases hs
    rename_i a i leaf gg sz n get ty one m gets
    cases hs
    obtain ⟨hK, rfl, rfl, hst, ⟨f, rfl, hf_⟩, hm⟩ := hp
    refine ⟨[.glob 0 1 64 (fun i => [.int .u32 (kOf i)]), .elems 24 32 m (fun i => hashC (hOf (gets i)))], ⟨hK.same.1, hst.same.1, trivial⟩, ?_⟩
    clear hK
    unfold hashC
    unfold sFold0 sIn sDeep
    generalize ho0 : @hOf = zo0, ho1 : @HashesAt = zo1, ho2 : @cutC = zo2, ho3 : @kOf = zo3, ho4 : @HashC = zo4, ho5 : @foldG = zo5, ho6 : @foldPre0 = zo6, ho7 : @fdB = zo7, ho8 : @fdH = zo8, ho9 : @fdPre = zo9, ho10 : @inN = zo10, ho11 : @deep = zo11
    generalize hA : Arith.std = A
    cbv
    subst hA ho0 ho1 ho2 ho3 ho4 ho5 ho6 ho7 ho8 ho9 ho10 ho11
    have hL : HashC (hashC f) := ⟨_, rfl, hf_⟩
    refine Need.mk trivial fun _ => ?_
    refine Ife.mk (fun h => ?_) (fun h => ?_)
    · have h : inN a i = false := by
        have h6 : (!inN a i) = true := h
        simpa using h6
      have e : fdB m a i = false := by unfold fdB; rw [h]; rfl
      have e2 : fdH gets (hashC f) m a i = fun _ => 0 := by unfold fdH; rw [e]; rfl
      show ∃ σ, LeftF _ _ _ σ _ _ (.tup [(none, hashC (fdH gets (hashC f) m a i)), (some (.bool (fdB m a i)), [])]) _
      rw [e, e2]
      exact ⟨[0, 1], ⟨rfl, by repeat' (first | exact trivial | exact rfl | apply And.intro), by decide, rfl, by repeat' (first | exact trivial | exact rfl | apply And.intro)⟩⟩
    have h1 : inN a i = true := by
      have h6 : (!inN a i) = false := h
      simpa using h6
    obtain ⟨b1, b2, b3⟩ := inN_iff.1 h1
    refine Need.mk trivial fun _ => ?_
    refine Ife.mk (fun h => ?_) (fun h => ?_)
    · have h : ¬ (m : Int) = deep a i := by
        have h6 : (!decide ((m : Int) = deep a i)) = true := h
        simpa using h6
      have e : fdB m a i = false := by unfold fdB; rw [h1]; simp [h]
      have e2 : fdH gets (hashC f) m a i = fun _ => 0 := by unfold fdH; rw [e]; rfl
      show ∃ σ, LeftF _ _ _ σ _ _ (.tup [(none, hashC (fdH gets (hashC f) m a i)), (some (.bool (fdB m a i)), [])]) _
      rw [e, e2]
      exact ⟨[0, 1], ⟨rfl, by repeat' (first | exact trivial | exact rfl | apply And.intro), by decide, rfl, by repeat' (first | exact trivial | exact rfl | apply And.intro)⟩⟩
    have h : (m : Int) = deep a i := by
      have h6 : (!decide ((m : Int) = deep a i)) = false := h
      simpa using h6
    have e : fdB m a i = true := by unfold fdB; rw [h1]; simp [h]
    have c1 : HashesAt m (fun i => hashC (hOf (gets i))) := fun j hj => ⟨_, rfl, hOf_range (hst j hj)⟩
    have e3 : foldG (fun i => hashC (hOf (gets i))) (hashC f) m a i = fdH gets (hashC f) m a i := by
      unfold fdH foldG
      rw [e, if_pos rfl]
      exact foldR_congr _ m a i fun j hj => hOf_idem (hst j hj)
    refine Need.mk ⟨ksAt_self, rfl, rfl, c1, hL, hm, by omega, by omega, by omega, by omega⟩ fun _ => ?_
    show ∃ σ, LeftF _ _ _ σ (.tup [(none, hashC (foldG (fun i => hashC (hOf (gets i))) (hashC f) m a i)), (some .tt, [])]) _ (.tup [(none, hashC (fdH gets (hashC f) m a i)), (some (.bool (fdB m a i)), [])]) _
    rw [e3, e]
    exact ⟨[0, 1], ⟨rfl, by repeat' (first | exact trivial | exact rfl | apply And.intro), by decide, rfl, by repeat' (first | exact trivial | exact rfl | apply And.intro)⟩⟩

end Go.Proofs.YtophhppklaofaaaDoor.Vx
end

section
/- Lists of sums compared. -/
namespace Go.Proofs.YtophhppklaofaaaDoor.Vx
open Go.RowKit Sha
set_option linter.unusedVariables false
set_option linter.unusedSimpArgs false
def hashesEq (n : Nat) (get : Nat → List CV) (m : Nat) (get' : Nat → List CV) : Bool := decide (n = m) && (List.range n).all fun i => eqH (hOf (get i)) (hOf (get' i))
def hashesPre (ty one n : Nat) (get : Nat → List CV) (ty' one' m : Nat) (get' : Nat → List CV) : Prop := ty = 24 ∧ one = 32 ∧ HashesAt n get ∧ n ≤ 140737488355328 ∧ ty' = 24 ∧ one' = 32 ∧ HashesAt m get' ∧ m ≤ 140737488355328
structure LHx (n : Nat) (get get' : Nat → List CV) where
  i : Int
  h0 : 0 ≤ i
  h1 : i ≤ (n : Int)
  h2 : ∀ k, k < i.toNat → eqH (hOf (get k)) (hOf (get' k)) = true
theorem hashesEq_false {n m : Nat} {get get' : Nat → List CV} (h : ¬ n = m) : hashesEq n get m get' = false := by simp [hashesEq, h]
theorem hashesEq_at {n m : Nat} {get get' : Nat → List CV} {i : Nat} (hi : i < n) (h : eqH (hOf (get i)) (hOf (get' i)) = false) : hashesEq n get m get' = false := by
  rw [Bool.eq_false_iff]
  intro h2
  simp only [hashesEq, Bool.and_eq_true, List.all_eq_true, List.mem_range, decide_eq_true_iff] at h2
  rw [h2.2 i hi] at h
  cases h
theorem hashesEq_all {n : Nat} {get get' : Nat → List CV} (h : ∀ i, i < n → eqH (hOf (get i)) (hOf (get' i)) = true) : hashesEq n get n get' = true := by
  simp only [hashesEq, Bool.and_eq_true, List.all_eq_true, List.mem_range, decide_eq_true_iff]
  exact ⟨trivial, h⟩
def sHashes : SpecF
  | [.c (.row 0), .c (.row 1)], [.elems ty one n get, .elems ty' one' m get'] => some (hashesPre ty one n get ty' one' m get', .c (.bool (hashesEq n get m get')), [.dead, .dead])
  | _, _ => none

set_option maxRecDepth 100000 in
set_option maxHeartbeats 2000000 in
theorem hashesP : Fn Tryd.prog 59 [] [(24, 32), (24, 32)] sHashes := by
  have hC : CtsOk Tryd.prog [] := CtsOk.nil _
  refine Fn.of (E := tbH) [] 0 [(6, [(0, true), (1, true), (2, true), (3, true), (4, true), (5, true), (6, true), (7, true), (8, true)])] tbH_ok hC (by kernel_rfl) Tryd.func59 rfl rfl rfl (by kernel_rfl) (by kernel_rfl) 2 5 1 ?_ ?_
  · intro args h pre r h' hs
    unfold sHashes at hs
    split at hs
    · cases hs; exact ⟨rfl, rfl, Nat.le_of_ble_eq_true rfl⟩
    · cases hs
  · intro args h pre r h' hs hp
    unfold sHashes at hs
    split at hs
    rotate_left
    · cases hs
    rename_i ty one n get ty' one' m get'
    cases hs
    obtain ⟨rfl, rfl, hst, hn, rfl, rfl, hst', hm⟩ := hp
    refine ⟨[.elems 24 32 n (fun i => hashC (hOf (get i))), .elems 24 32 m (fun i => hashC (hOf (get' i)))], ⟨hst.same.1, hst'.same.1, trivial⟩, ?_⟩
    generalize hL : lft Tryd.prog _ = L
    generalize ho0 : @hOf = zo0, ho1 : @hashesEq = zo1, ho2 : @hashesPre = zo2
    generalize hA : Arith.std = A
    cbv
    subst hA hL ho0 ho1 ho2
    refine Ife.mk (fun h => ?_) (fun h => ?_)
    · have h : ¬ n = m := by
        have h6 : (!decide ((n : Int) = (m : Int))) = true := h
        have h7 : ¬ (n : Int) = (m : Int) := by simpa using h6
        omega
      rw [hashesEq_false h]
      exact ⟨[0, 1], ⟨rfl, rfl, by decide, rfl, by repeat' (first | exact trivial | exact rfl | apply And.intro)⟩⟩
    have h : n = m := by
      have h6 : (!decide ((n : Int) = (m : Int))) = false := h
      have h7 : (n : Int) = (m : Int) := by simpa using h6
      omega
    subst h
    show Runs Tryd.prog 2 (.loop _) _ _
    refine loop_ruleR (N := env (lft Tryd.prog 2) 0 .std tbH [] [(6, [(0, true), (1, true), (2, true), (3, true), (4, true), (5, true), (6, true), (7, true), (8, true)])]) rfl tbH_ok hC (fun c st K _ h => h) (by kernel_rfl) [] (X := LHx n get get')
      (S := fun x => ⟨[.c (.row 0), .c (.row 1), .any, .any, .any, .c (.int .i64 x.i)] ++ List.replicate 20 .any, [.elems 24 32 n (fun i => hashC (hOf (get i))), .elems 24 32 n (fun i => hashC (hOf (get' i)))]⟩) (μ := fun x => n - x.i.toNat) ⟨0, by omega, by omega, fun k hk => absurd hk (by show ¬ k < (0 : Int).toNat; omega)⟩ (by kernel_rfl) [0, 1] ?_ ?_
    · refine ⟨rfl, by decide, ?_, ?_⟩ <;> repeat' (first | exact trivial | exact rfl | apply And.intro)
    rintro ⟨i, hi0, hin, hall⟩
    generalize hL : lft Tryd.prog _ = L
    try dsimp only
    generalize ho0 : @hOf = zo0, ho1 : @hashesEq = zo1, ho2 : @hashesPre = zo2
    generalize hA : Arith.std = A
    cbv
    subst hA hL ho0 ho1 ho2
    replace hi0 : 0 ≤ i := hi0
    replace hin : i ≤ @Nat.cast Int instNatCastInt n := hin
    refine Ife.mk (fun hlt => ?_) (fun hlt => ?_)
    · replace hlt : i < @Nat.cast Int instNatCastInt n := of_decide_eq_true (p := i < (n : Int)) hlt
      repeat refine Need.mk (by first | exact trivial | (simp only [Arith.std, fitStd]; omega) | (simp [Arith.std, fitStd]; omega)) fun _ => ?_
      refine Ife.mk (fun h => ?_) (fun h => ?_)
      · have h : eqH (hOf (get i.toNat)) (hOf (get' i.toNat)) = false := by
          have h6 : (!eqH (hOf (get i.toNat)) (hOf (get' i.toNat))) = true := h
          simpa using h6
        rw [hashesEq_at (m := n) (show i.toNat < n by omega) h]
        exact ⟨[0, 1], ⟨rfl, rfl, by decide, rfl, by repeat' (first | exact trivial | exact rfl | apply And.intro)⟩⟩
      have h : eqH (hOf (get i.toNat)) (hOf (get' i.toNat)) = true := by
        have h6 : (!eqH (hOf (get i.toNat)) (hOf (get' i.toNat))) = false := h
        simpa using h6
      repeat refine Need.mk (by first | exact trivial | (simp only [Arith.std, fitStd]; omega) | (simp [Arith.std, fitStd]; omega)) fun _ => ?_
      refine ⟨⟨i + 1, by omega, by omega, ?h2⟩, [0, 1], (by show n - (i + 1).toNat < n - i.toNat; omega), ?st⟩
      case st => refine ⟨rfl, by decide, ?_, ?_⟩ <;> repeat' (first | exact trivial | exact rfl | apply And.intro)
      case h2 =>
        intro k hk
        by_cases hk2 : k = i.toNat
        · rw [hk2]; exact h
        · exact hall k (by omega)
    · replace hlt : ¬ i < @Nat.cast Int instNatCastInt n := of_decide_eq_false (p := i < (n : Int)) hlt
      rw [hashesEq_all (n := n) (get := get) (get' := get') fun k hk => hall k (by show k < i.toNat; omega)]
      exact ⟨[0, 1], ⟨rfl, rfl, by decide, rfl, by repeat' (first | exact trivial | exact rfl | apply And.intro)⟩⟩

end Go.Proofs.YtophhppklaofaaaDoor.Vx
end

section
/- Trees: a leaf and its way come to the top: plain laws. -/
namespace Go.Proofs.YtophhppklaofaaaDoor.Vx
open Go.RowKit Sha
set_option linter.unusedVariables false
set_option linter.unusedSimpArgs false
theorem way_one (h : Nat → Nat → Int) (lo : Nat) (i : Int) (n : Nat) (hn : ¬ (1 < n ∧ n ≤ 1073741824 ∧ 0 ≤ i ∧ i < (n : Int))) : wayR h lo n i = [] := by rw [wayR, dif_neg hn]
theorem way_lo (h : Nat → Nat → Int) (lo : Nat) (i : Int) (n : Nat) (hc : 1 < n ∧ n ≤ 1073741824 ∧ 0 ≤ i ∧ i < (n : Int)) (hi : i < hf n) : wayR h lo n i = wayR h lo (hf n).toNat i ++ [topR h (lo + (hf n).toNat) (n - (hf n).toNat)] := by rw [wayR, dif_pos hc, if_pos hi]
theorem way_hi (h : Nat → Nat → Int) (lo : Nat) (i : Int) (n : Nat) (hc : 1 < n ∧ n ≤ 1073741824 ∧ 0 ≤ i ∧ i < (n : Int)) (hi : ¬ i < hf n) : wayR h lo n i = wayR h (lo + (hf n).toNat) (n - (hf n).toNat) (i - hf n) ++ [topR h lo (hf n).toNat] := by rw [wayR, dif_pos hc, if_neg hi]
theorem top_two (h : Nat → Nat → Int) (lo n : Nat) (h2 : 2 ≤ n) (h3 : n ≤ 1073741824) : topR h lo n = nodeF (hashB (topR h lo (hf n).toNat)) (hashB (topR h (lo + (hf n).toNat) (n - (hf n).toNat))) := by rw [topR, dif_neg (by omega)]
theorem way_len (h : Nat → Nat → Int) : ∀ (n lo : Nat) (i : Int), n ≤ 1073741824 → ((wayR h lo n i).length : Int) = deep n i := by
  intro n
  induction n using Nat.strongRecOn with
  | ind n ih =>
    intro lo i hn
    by_cases hc : 1 < n ∧ n ≤ 1073741824 ∧ 0 ≤ i ∧ i < (n : Int)
    · have hh := hf_lt (n := (n : Int)) (by omega) (by omega)
      have hc' : 1 < (n : Int) ∧ (n : Int) ≤ 1073741824 ∧ 0 ≤ i ∧ i < (n : Int) := by omega
      by_cases hi : i < hf n
      · have e := ih (hf n).toNat (by omega) lo i (by omega)
        rw [show (((hf (n : Int)).toNat : Nat) : Int) = hf n by omega] at e
        rw [way_lo h lo i n hc hi, deep_lo hc' hi, List.length_append, List.length_singleton, ← e]
        omega
      · have e := ih (n - (hf n).toNat) (by omega) (lo + (hf n).toNat) (i - hf n) (by omega)
        rw [show ((n - (hf (n : Int)).toNat : Nat) : Int) = (n : Int) - hf n by omega] at e
        rw [way_hi h lo i n hc hi, deep_hi hc' hi, List.length_append, List.length_singleton, ← e]
        omega
    · rw [way_one h lo i n hc, deep_out (by omega)]
      rfl
theorem getD_lt {l : List (Nat → Int)} {x d : Nat → Int} {j : Nat} (h : j < l.length) : (l ++ [x]).getD j d = l.getD j d := by simp [List.getD, List.getElem?_append_left h]
theorem getD_end (l : List (Nat → Int)) (x d : Nat → Int) : (l ++ [x]).getD l.length d = x := by simp [List.getD]
/-- A leaf and its way come to the top of the list with that leaf. -/
theorem fold_way (h : Nat → Nat → Int) (leaf : Nat → Int) : ∀ (n lo : Nat) (i : Int), 0 ≤ i → i < (n : Int) → n ≤ 1073741824 →
    foldR (fun j => (wayR h lo n i).getD j fun _ => 0) leaf (wayR h lo n i).length n i = topR (fun j => if j = lo + i.toNat then leaf else h j) lo n := by
  intro n
  induction n using Nat.strongRecOn with
  | ind n ih =>
    intro lo i h0 h1 h2
    by_cases hn : n < 2
    · rw [way_one h lo i n (by omega), topR, dif_pos (Or.inl hn), if_neg (by omega)]
      show leaf = if lo = lo + i.toNat then leaf else h lo
      rw [if_pos (by omega)]
    · have hh := hf_lt (n := (n : Int)) (by omega) (by omega)
      have hc : 1 < n ∧ n ≤ 1073741824 ∧ 0 ≤ i ∧ i < (n : Int) := by omega
      by_cases hi : i < hf n
      · rw [way_lo h lo i n hc hi, List.length_append, List.length_singleton, top_two _ lo n (by omega) h2]
        rw [show foldR (fun j => (wayR h lo (hf n).toNat i ++ [topR h (lo + (hf n).toNat) (n - (hf n).toNat)]).getD j fun _ => 0) leaf ((wayR h lo (hf n).toNat i).length + 1) n i =
          nodeF (hashB (foldR (fun j => (wayR h lo (hf n).toNat i ++ [topR h (lo + (hf n).toNat) (n - (hf n).toNat)]).getD j fun _ => 0) leaf (wayR h lo (hf n).toNat i).length (hf n) i)) (hashB ((wayR h lo (hf n).toNat i ++ [topR h (lo + (hf n).toNat) (n - (hf n).toNat)]).getD (wayR h lo (hf n).toNat i).length fun _ => 0)) by
            rw [foldR, if_pos hi]]
        rw [getD_end, foldR_congr leaf _ _ _ (fun j hj => getD_lt hj)]
        have e := ih (hf n).toNat (by omega) lo i h0 (by omega) (by omega)
        rw [show (((hf (n : Int)).toNat : Nat) : Int) = hf n by omega] at e
        rw [e]
        congr 2
        refine topR_congr _ _ fun j hj1 hj2 => ?_
        rw [if_neg (by omega)]
      · rw [way_hi h lo i n hc hi, List.length_append, List.length_singleton, top_two _ lo n (by omega) h2]
        rw [show foldR (fun j => (wayR h (lo + (hf n).toNat) (n - (hf n).toNat) (i - hf n) ++ [topR h lo (hf n).toNat]).getD j fun _ => 0) leaf ((wayR h (lo + (hf n).toNat) (n - (hf n).toNat) (i - hf n)).length + 1) n i =
          nodeF (hashB ((wayR h (lo + (hf n).toNat) (n - (hf n).toNat) (i - hf n) ++ [topR h lo (hf n).toNat]).getD (wayR h (lo + (hf n).toNat) (n - (hf n).toNat) (i - hf n)).length fun _ => 0)) (hashB (foldR (fun j => (wayR h (lo + (hf n).toNat) (n - (hf n).toNat) (i - hf n) ++ [topR h lo (hf n).toNat]).getD j fun _ => 0) leaf (wayR h (lo + (hf n).toNat) (n - (hf n).toNat) (i - hf n)).length (n - hf n) (i - hf n))) by
            rw [foldR, if_neg hi]]
        rw [getD_end, foldR_congr leaf _ _ _ (fun j hj => getD_lt hj)]
        have e := ih (n - (hf n).toNat) (by omega) (lo + (hf n).toNat) (i - hf n) (by omega) (by omega) (by omega)
        rw [show ((n - (hf (n : Int)).toNat : Nat) : Int) = (n : Int) - hf n by omega] at e
        rw [e, show lo + (hf (n : Int)).toNat + (i - hf (n : Int)).toNat = lo + i.toNat by omega]
        congr 2
        refine topR_congr _ _ fun j hj1 hj2 => ?_
        rw [if_neg (by omega)]
/-- The way does not hang on the leaf. -/
theorem way_other (h h' : Nat → Nat → Int) : ∀ (n lo : Nat) (i : Int), (∀ j, lo ≤ j → j < lo + n → j ≠ lo + i.toNat → h j = h' j) → wayR h lo n i = wayR h' lo n i := by
  intro n
  induction n using Nat.strongRecOn with
  | ind n ih =>
    intro lo i hj
    by_cases hc : 1 < n ∧ n ≤ 1073741824 ∧ 0 ≤ i ∧ i < (n : Int)
    · have hh := hf_lt (n := (n : Int)) (by omega) (by omega)
      by_cases hi : i < hf n
      · rw [way_lo h lo i n hc hi, way_lo h' lo i n hc hi, ih (hf n).toNat (by omega) lo i (fun j a b c => hj j a (by omega) c), topR_congr (h := h) (h' := h') _ _ (fun j a b => hj j (by omega) (by omega) (by omega))]
      · rw [way_hi h lo i n hc hi, way_hi h' lo i n hc hi, ih (n - (hf n).toNat) (by omega) (lo + (hf n).toNat) (i - hf n) (fun j a b c => hj j (by omega) (by omega) (by omega)), topR_congr (h := h) (h' := h') _ _ (fun j a b => hj j (by omega) (by omega) (by omega))]
    · rw [way_one h lo i n hc, way_one h' lo i n hc]
end Go.Proofs.YtophhppklaofaaaDoor.Vx
end

section
/- The law TreeFolds, by the walker. -/
namespace Go.Proofs.YtophhppklaofaaaDoor.Vx
open Go.RowKit Sha
set_option linter.unusedVariables false
set_option linter.unusedSimpArgs false
def foldsPre (gg sz n : Nat) (get : Nat → List CV) (ty one m : Nat) (gets : Nat → List CV) (x : List CV) : Prop := KsAt gg sz n get ∧ ty = 24 ∧ one = 32 ∧ HashesAt m gets ∧ m ≤ 9223372036854775807 ∧ HashC x
theorem hashB_hOf (g : Nat → Int) : hashB (hOf (hashC g)) = hashB g := by
  unfold hashB
  refine List.map_congr_left fun j hj => ?_
  rw [hOf_at, if_pos (List.mem_range.1 hj)]
theorem foldR_congrB {W W' : Nat → Nat → Int} (leaf : Nat → Int) : ∀ (k : Nat) (n i : Int), (∀ j, j < k → hashB (W j) = hashB (W' j)) → foldR W leaf k n i = foldR W' leaf k n i
  | 0, _, _, _ => rfl
  | k + 1, n, i, h => by
    unfold foldR
    rw [foldR_congrB leaf k (hf n) i (fun j hj => h j (by omega)), foldR_congrB leaf k (n - hf n) (i - hf n) (fun j hj => h j (by omega)), h k (by omega)]
theorem way_hashes {h : Nat → Nat → Int} {m : Nat} {i : Int} (hr : ∀ j, 0 ≤ j → j < m → ∀ k, 0 ≤ h j k ∧ h j k < 256) : HashesAt (wayR h 0 m i).length (hashesG (wayR h 0 m i)) := by
  have key : ∀ (n lo : Nat) (i : Int), lo + n ≤ m → ∀ f ∈ wayR h lo n i, ∀ k, 0 ≤ f k ∧ f k < 256 := by
    intro n
    induction n using Nat.strongRecOn with
    | ind n ih =>
      intro lo i hm f hf_
      by_cases hc : 1 < n ∧ n ≤ 1073741824 ∧ 0 ≤ i ∧ i < (n : Int)
      · have hh := hf_lt (n := (n : Int)) (by omega) (by omega)
        by_cases hi : i < hf n
        · rw [way_lo h lo i n hc hi] at hf_
          rcases List.mem_append.1 hf_ with h1 | h1
          · exact ih (hf n).toNat (by omega) lo i (by omega) f h1
          · rw [List.mem_singleton.1 h1]
            exact topR_range _ _ fun j a b => hr j (by omega) (by omega)
        · rw [way_hi h lo i n hc hi] at hf_
          rcases List.mem_append.1 hf_ with h1 | h1
          · exact ih (n - (hf n).toNat) (by omega) (lo + (hf n).toNat) (i - hf n) (by omega) f h1
          · rw [List.mem_singleton.1 h1]
            exact topR_range _ _ fun j a b => hr j (by omega) (by omega)
      · rw [way_one h lo i n hc] at hf_
        cases hf_
  intro j hj
  refine ⟨_, rfl, ?_⟩
  rw [List.getD_eq_getElem?_getD, List.getElem?_eq_getElem hj]
  exact key m 0 i (by omega) _ (List.getElem_mem hj)
theorem setMany_pre : ∀ (xs pre ys : List CV), xs.length = ys.length → setMany (pre ++ ys) pre.length xs = pre ++ xs
  | [], pre, [], _ => rfl
  | x :: xs, pre, y :: ys, h => by
    have e : (pre ++ y :: ys).set pre.length x = (pre ++ [x]) ++ ys := by simp
    have ih := setMany_pre xs (pre ++ [x]) ys (by simpa using h)
    rw [setMany, e, show pre.length + 1 = (pre ++ [x]).length by simp, ih, List.append_assoc]
    rfl
  | [], _, _ :: _, h => by simp at h
  | _ :: _, _, [], h => by simp at h
theorem setMany_all (xs ys : List CV) (h : xs.length = ys.length) : setMany ys 0 xs = xs := setMany_pre xs [] ys h
theorem setMany_hash (g f : Nat → Int) : setMany (hashC g) 0 (hashC f) = hashC f := setMany_all _ _ rfl
structure FoldsFacts (m : Nat) (gets : Nat → List CV) (i : Int) (f : Nat → Int) (U : Nat → List CV) : Prop where
  q1 : eqH (fdH (hashesG (wayG (fun i => hashC (hOf (gets i))) m i)) (hashC (hOf (gets i.toNat))) (wayG (fun i => hashC (hOf (gets i))) m i).length m i) (topG (fun i => hashC (hOf (gets i))) m) = true
  q2 : eqH (fdH (hashesG (wayG (fun i => hashC (hOf (gets i))) m i)) (hashC f) (wayG (fun i => hashC (hOf (gets i))) m i).length m i) (topG U m) = true
  cU : HashesAt m U
  eWU : wayG U m i = wayG (fun i => hashC (hOf (gets i))) m i
  lW : ((wayG (fun i => hashC (hOf (gets i))) m i).length : Int) = deep m i
  lW2 : (wayG (fun i => hashC (hOf (gets i))) m i).length ≤ m
  hB : fdB (wayG (fun i => hashC (hOf (gets i))) m i).length m i = true
  cW : HashesAt (wayG (fun i => hashC (hOf (gets i))) m i).length (hashesG (wayG (fun i => hashC (hOf (gets i))) m i))
theorem upG_at (g : Nat → List CV) (i : Nat) (xs : List CV) (hl : (setMany (g i) 0 xs) = xs) (j : Nat) : upG g i 0 xs j = if j = i then xs else g j := by
  by_cases hji : j = i
  · rw [if_pos hji, hji, upG, show i.beq i = true by simp]
    exact hl
  · rw [if_neg hji, upG, show j.beq i = false by rw [Bool.eq_false_iff]; intro h; exact hji (by simpa using h)]
theorem upG_hash (gets : Nat → List CV) (i : Nat) (f : Nat → Int) (m : Nat) : ∀ j, j < m → upG (fun i => hashC (hOf (gets i))) i 0 (hashC f) j = if j = i then hashC f else hashC (hOf (gets j)) := fun j _ => by
  have e : setMany ((fun i => hashC (hOf (gets i))) i) 0 (hashC f) = hashC f := setMany_hash (hOf (gets i)) f
  exact upG_at (fun i => hashC (hOf (gets i))) i (hashC f) e j
theorem foldsFacts {m : Nat} {gets : Nat → List CV} {i : Int} {f : Nat → Int} (hst : HashesAt m gets) (hf_ : ∀ j, 0 ≤ f j ∧ f j < 256) (h0 : 0 ≤ i) (hi : i < (m : Int)) (hm : m ≤ 40) {U : Nat → List CV} (uAt : ∀ j, j < m → U j = if j = i.toNat then hashC f else hashC (hOf (gets j))) : FoldsFacts m gets i f U := by
  have hL : HashC (hashC f) := ⟨_, rfl, hf_⟩
  have cG : HashesAt m (fun i => hashC (hOf (gets i))) := fun j hj => ⟨_, rfl, hOf_range (hst j hj)⟩
  have eW : wayG (fun i => hashC (hOf (gets i))) m i = wayR (fun i => hOf (gets i)) 0 m i := by
    unfold wayG
    exact wayR_congr m 0 i fun j _ hj => hOf_idem (hst j (by omega))
  have lW : ((wayG (fun i => hashC (hOf (gets i))) m i).length : Int) = deep m i := by rw [eW]; exact way_len _ m 0 i (by omega)
  have lW2 : (wayG (fun i => hashC (hOf (gets i))) m i).length ≤ m := by rw [eW]; exact wayR_len _ m 0 i
  have hB : fdB (wayG (fun i => hashC (hOf (gets i))) m i).length m i = true := by
    unfold fdB
    rw [decide_eq_true lW, inN_iff.2 ⟨by omega, by omega, by omega⟩]
    rfl
  have cW : HashesAt (wayG (fun i => hashC (hOf (gets i))) m i).length (hashesG (wayG (fun i => hashC (hOf (gets i))) m i)) := by
    rw [eW]
    exact way_hashes (fun j a b => fun k => hOf_range (hst j (by omega)) k)
  have uH : ∀ j, j < m → hOf (U j) = if j = 0 + i.toNat then hOf (hashC f) else hOf (gets j) := fun j hj => by
    rw [uAt j hj, Nat.zero_add]
    by_cases hji : j = i.toNat
    · rw [if_pos hji, if_pos hji]
    · rw [if_neg hji, if_neg hji, hOf_idem (hst j hj)]
  have cU : HashesAt m U := fun j hj => by
    rw [uAt j hj]
    by_cases hji : j = i.toNat
    · rw [if_pos hji]; exact hL
    · rw [if_neg hji]; exact cG j hj
  have eG : topG (fun i => hashC (hOf (gets i))) m = topR (fun j => hOf (gets j)) 0 m := by
    unfold topG
    exact topR_congr m 0 fun j _ hj => hOf_idem (hst j (by omega))
  have eU : topG U m = topR (fun j => if j = 0 + i.toNat then hOf (hashC f) else hOf (gets j)) 0 m := by
    unfold topG
    exact topR_congr m 0 fun j _ hj => uH j (by omega)
  have eWU : wayG U m i = wayG (fun i => hashC (hOf (gets i))) m i := by
    rw [eW]
    unfold wayG
    refine way_other _ _ m 0 i fun j _ hj hne => ?_
    show hOf (U j) = _
    rw [uH j (by omega), if_neg hne]
  have hF : ∀ leaf : List CV, HashC leaf → fdH (hashesG (wayG (fun i => hashC (hOf (gets i))) m i)) leaf (wayG (fun i => hashC (hOf (gets i))) m i).length m i = topR (fun j => if j = 0 + i.toNat then hOf leaf else hOf (gets j)) 0 m := fun leaf hl => by
    unfold fdH
    rw [hB, if_pos rfl, eW]
    have e := fold_way (fun j => hOf (gets j)) (hOf leaf) m 0 i (by omega) (by omega) (by omega)
    rw [← e]
    unfold foldG
    refine foldR_congrB _ _ _ _ fun j hj => ?_
    exact hashB_hOf _
  refine ⟨?_, ?_, cU, eWU, lW, lW2, hB, cW⟩
  · rw [hF _ (cG i.toNat (by omega)), eG]
    have e : topR (fun j => if j = 0 + i.toNat then hOf (hashC (hOf (gets i.toNat))) else hOf (gets j)) 0 m = topR (fun j => hOf (gets j)) 0 m := topR_congr m 0 fun j _ hj => by
      by_cases hji : j = 0 + i.toNat
      · rw [if_pos hji, hOf_idem (hst i.toNat (by omega)), hji, Nat.zero_add]
      · rw [if_neg hji]
    rw [e]
    exact eqH_self _
  · rw [hF _ hL, eU]
    exact eqH_self _
def sFolds : SpecF
  | [.c (.row 1), .c (.int .i64 i), .agg x], [.glob gg sz n get, .elems ty one m gets] => some (foldsPre gg sz n get ty one m gets x, .c .tt, [.dead, .dead])
  | _, _ => none

set_option maxRecDepth 100000 in
set_option maxHeartbeats 8000000 in
theorem foldsP : Fn Tryd.prog 14 [0] [(24, 32)] sFolds := by
  have hC : CtsOk Tryd.prog [(52, appFn [0] [] sFirst6), (57, appFn [0] [(24, 32)] sWay), (58, appFn [0] [(24, 32)] sFold), (55, appFn [0] [(24, 32)] sTop), (54, appPure sDeep), (59, appFn [] [(24, 32), (24, 32)] sHashes)] := CtsOk.cons (Fn.ct first6P) <| CtsOk.cons (Fn.ct wayP) <| CtsOk.cons (Fn.ct fdP) <| CtsOk.cons (Fn.ct topP) <| CtsOk.cons (Pure.ct deepP) <| CtsOk.cons (Fn.ct hashesP) <| CtsOk.nil _
  refine Fn.of (E := tbH) [0] 0 [(10, [(0, true), (1, true), (2, true), (3, true), (4, true), (5, true), (6, true), (7, false), (8, true), (9, true), (10, true), (11, true), (12, true), (13, false), (14, true), (15, true), (16, true), (17, true), (18, true), (19, true), (20, true), (21, true), (22, false), (23, true), (24, true), (25, true), (26, true), (27, true), (29, true), (28, false), (30, false), (31, true), (32, true)])] tbH_ok hC (by kernel_rfl) Tryd.func14 rfl rfl rfl (by kernel_rfl) (by kernel_rfl) 2 5 1 ?_ ?_
  · intro args h pre r h' hs
    unfold sFolds at hs
    split at hs
    · cases hs; exact ⟨rfl, rfl, Nat.le_of_ble_eq_true rfl⟩
    · cases hs
  · intro args h pre r h' hs hp
    unfold sFolds at hs
    split at hs
    rotate_left
    · cases hs
    rename_i i x gg sz n get ty one m gets
    cases hs
    obtain ⟨hK, rfl, rfl, hst, hm, ⟨f, rfl, hf_⟩⟩ := hp
    unfold hashC
    refine ⟨[.glob 0 1 64 (fun i => [.int .u32 (kOf i)]), .elems 24 32 m (fun i => hashC (hOf (gets i)))], ⟨hK.same.1, hst.same.1, trivial⟩, ?_⟩
    clear hK
    unfold sFirst6 sTop sWay sFold sHashes sDeep
    generalize hg0 : (List.length : List (Nat → Int) → Nat) = g0
    generalize ho0 : @hOf = zo0, ho1 : @topG = zo1, ho2 : @topPre0 = zo2, ho3 : @HashesAt = zo3, ho4 : @KsAt = zo4, ho5 : @cutC = zo5, ho6 : @kOf = zo6, ho7 : @HashC = zo7, ho8 : @wayG = zo8, ho9 : @wayPre0 = zo9, ho10 : @hashesG = zo10, ho11 : @fdB = zo11, ho12 : @fdH = zo12, ho13 : @fdPre = zo13, ho14 : @deep = zo14, ho15 : @hashesEq = zo15, ho16 : @hashesPre = zo16
    generalize hA : Arith.std = A
    cbv
    subst hA hg0 ho0 ho1 ho2 ho3 ho4 ho5 ho6 ho7 ho8 ho9 ho10 ho11 ho12 ho13 ho14 ho15 ho16
    refine Need.mk ksAt_self fun _ => ?_
    refine Ife.mk (fun _ => Need.mk ksAt_self fun _ => by exact ⟨[0, 1], ⟨rfl, by repeat' (first | exact trivial | exact rfl | apply And.intro), by decide, rfl, by repeat' (first | exact trivial | exact rfl | apply And.intro)⟩⟩) (fun h1 => ?_)
    refine Ife.mk (fun _ => Need.mk ksAt_self fun _ => by exact ⟨[0, 1], ⟨rfl, by repeat' (first | exact trivial | exact rfl | apply And.intro), by decide, rfl, by repeat' (first | exact trivial | exact rfl | apply And.intro)⟩⟩) (fun h2 => ?_)
    refine Ife.mk (fun _ => Need.mk ksAt_self fun _ => by exact ⟨[0, 1], ⟨rfl, by repeat' (first | exact trivial | exact rfl | apply And.intro), by decide, rfl, by repeat' (first | exact trivial | exact rfl | apply And.intro)⟩⟩) (fun h3 => ?_)
    have h1 : ¬ (40 : Int) < (m : Int) := of_decide_eq_false (p := (40 : Int) < (m : Int)) h1
    have h2 : ¬ i < 0 := of_decide_eq_false (p := i < 0) h2
    have h3 : ¬ (m : Int) ≤ i := of_decide_eq_false (p := (m : Int) ≤ i) h3
    have hL : HashC (hashC f) := ⟨_, rfl, hf_⟩
    have cG : HashesAt m (fun i => hashC (hOf (gets i))) := fun j hj => ⟨_, rfl, hOf_range (hst j hj)⟩
    obtain ⟨q1, q2, cU, eWU, lW, lW2, hB, cW⟩ := foldsFacts (U := upG (fun i => hashC (hOf (gets i))) i.toNat 0 (hashC f)) hst hf_ (show 0 ≤ i by omega) (show i < (m : Int) by omega) (show m ≤ 40 by omega) (upG_hash gets i.toNat f m)
    have z2 : hashesPre 24 32 (wayG (upG (fun i => hashC (hOf (gets i))) i.toNat 0 (hashC f)) m i).length (hashesG (wayG (upG (fun i => hashC (hOf (gets i))) i.toNat 0 (hashC f)) m i)) 24 32 (wayG (fun i => hashC (hOf (gets i))) m i).length (hashesG (wayG (fun i => hashC (hOf (gets i))) m i)) := by
      rw [eWU]
      exact ⟨rfl, rfl, cW, Nat.le_trans lW2 (by omega), rfl, rfl, cW, Nat.le_trans lW2 (by omega)⟩
    have z3 : hashesEq (wayG (upG (fun i => hashC (hOf (gets i))) i.toNat 0 (hashC f)) m i).length (hashesG (wayG (upG (fun i => hashC (hOf (gets i))) i.toNat 0 (hashC f)) m i)) (wayG (fun i => hashC (hOf (gets i))) m i).length (hashesG (wayG (fun i => hashC (hOf (gets i))) m i)) = true := by
      rw [eWU]
      exact hashesEq_all fun _ _ => eqH_self _
    refine Need.mk ⟨ksAt_self, rfl, rfl, cG, by omega⟩ fun _ => Need.mk (by show 0 ≤ i ∧ i < (m : Int); omega) fun _ => Need.mk (by show i.toNat < m; omega) fun _ => ?_
    refine Need.mk ⟨ksAt_self, rfl, rfl, cW, cG i.toNat (by omega), Nat.le_trans lW2 (by omega)⟩ fun _ => ?_
    refine Need.mk ⟨⟨by show 0 + m ≤ maxLen; unfold maxLen; omega, by show (0 + m) * 32 ≤ 140737488355328; omega⟩, fun j hj => rfl⟩ fun _ => ?_
    refine Need.mk (by show 0 ≤ i ∧ i < (m : Int); omega) fun _ => Need.mk (by show i.toNat < m; omega) fun _ => ?_
    refine Need.mk ⟨ksAt_self, rfl, rfl, cW, hL, Nat.le_trans lW2 (by omega)⟩ fun _ => ?_
    refine Ife.mk (fun _ => ?_) (fun hb => absurd (hB.symm.trans hb) (by decide))
    refine Ife.mk (fun _ => ?_) (fun hb => absurd (hB.symm.trans hb) (by decide))
    refine Need.mk ⟨ksAt_self, rfl, rfl, cG, by omega⟩ fun _ => ?_
    refine Ife.mk (fun _ => ?_) (fun hb => absurd (q1.symm.trans hb) (by decide))
    refine Need.mk ⟨ksAt_self, rfl, rfl, cU, by omega⟩ fun _ => ?_
    refine Ife.mk (fun _ => ?_) (fun hb => absurd (q2.symm.trans hb) (by decide))
    refine Need.mk trivial fun _ => ?_
    refine Ife.mk (fun _ => ?_) (fun hb => absurd ((decide_eq_true lW).symm.trans hb) (by decide))
    refine Need.mk ⟨ksAt_self, rfl, rfl, cU, by omega⟩ fun _ => ?_
    refine Need.mk z2 fun _ => ?_
    exact ⟨[0, 1], ⟨rfl, z3, by decide, rfl, by repeat' (first | exact trivial | exact rfl | apply And.intro)⟩⟩

end Go.Proofs.YtophhppklaofaaaDoor.Vx
namespace Go.Proofs.YtophhppklaofaaaDoor
open Go.RowKit
set_option linter.unusedVariables false
theorem treeFoldsWalk (w : World) (hk : ∀ i, i < 64 → w.cell? ⟨0, i, none⟩ = some (.int .u32 (Sha.kOf i))) (a : Option Addr) (cap : Nat) (fs : List (Nat → Int)) (hs : SlIn w a 32 cap (fs.map hashV)) (hf : ∀ f ∈ fs, ∀ i, 0 ≤ f i ∧ f i < 256) (i : Int) (hi : -9223372036854775808 ≤ i ∧ i ≤ 9223372036854775807) (h : Nat → Int) (hh : ∀ i, 0 ≤ h i ∧ h i < 256) :
    Calls Tryd.prog 14 #[.slice a fs.length cap, .int .i64 i, .agg (hashV h).toArray] w fun e w' => e = .returned (.bool true) ∧ Below w.heap.size w w' := by
  obtain ⟨p, hp, g⟩ := hashes_good hs
  have hm := hs.max
  simp only [List.length_map] at hm
  rw [← hp]
  refine Calls.mono (Vx.foldsP.run [.c (.row 1), .c (.int .i64 i), .agg (Vx.hashC h)] [.glob 0 1 64 (fun i => [.int .u32 (Sha.kOf i)]), .elems 24 32 fs.length (fun i => Vx.hashC (fs.getD i fun _ => 0))] _ _ _ rfl
    ⟨Vx.ksAt_self, rfl, rfl, hashes_at hf, Nat.le_trans hm (by decide), ⟨h, rfl, hh⟩⟩ [⟨0, undef, 0⟩, p] w _ (Vx.Rel.addView (Vx.relGlob hk) 24 g) ⟨_, _, rfl, (by obtain ⟨a', cap', e, _⟩ := g.sl; simp [Vx.SV.is, Vx.CV.den, e, Vx.one] : Vx.SV.is [⟨0, undef, 0⟩, p] (.c (.row 1)) p.v), _, _, rfl, rfl, _, _, rfl, ⟨_, hashC_is h _, rfl⟩, rfl⟩) fun e W' he => ?_
  obtain ⟨u, ρ', rfl, hu, hr⟩ := he
  obtain rfl : .bool true = u := Option.some.inj hu
  exact ⟨rfl, Vx.Rel.toBelow hr⟩
end Go.Proofs.YtophhppklaofaaaDoor
end
