/- Trees: folds, by the walker. -/
import Derived.Test.YtophhppklaofaaaDoorM20
section
namespace Go.Proofs.YtophhppklaofaaaDoor.Vx
open Go.RowKit Sha
set_option linter.unusedVariables false
set_option linter.unusedSimpArgs false
/-- The sum above leaves that comes of one of them, and of the sums beside. -/
def foldR (W : Nat → Nat → Int) (leaf : Nat → Int) : Nat → Int → Int → (Nat → Int)
  | 0, _, _ => leaf
  | k + 1, n, i => if i < hf n then nodeF (hashB (foldR W leaf k (hf n) i)) (hashB (W k)) else nodeF (hashB (W k)) (hashB (foldR W leaf k (n - hf n) (i - hf n)))
theorem foldR_congr {W W' : Nat → Nat → Int} (leaf : Nat → Int) : ∀ (k : Nat) (n i : Int), (∀ j, j < k → W j = W' j) → foldR W leaf k n i = foldR W' leaf k n i
  | 0, _, _, _ => rfl
  | k + 1, n, i, h => by
    unfold foldR
    rw [foldR_congr leaf k (hf n) i (fun j hj => h j (by omega)), foldR_congr leaf k (n - hf n) (i - hf n) (fun j hj => h j (by omega)), h k (by omega)]
theorem foldR_range {W : Nat → Nat → Int} {leaf : Nat → Int} (hl : ∀ j, 0 ≤ leaf j ∧ leaf j < 256) : ∀ (k : Nat) (n i : Int) (j : Nat), 0 ≤ foldR W leaf k n i j ∧ foldR W leaf k n i j < 256
  | 0, _, _, j => hl j
  | k + 1, n, i, j => by
    unfold foldR
    split <;> exact sumI_range _ j
theorem hf_in (n : Int) (h0 : 0 ≤ n) (h1 : n ≤ 1073741824) : 0 ≤ hf n ∧ hf n ≤ n := by
  by_cases h : n < 2
  · rw [hf_zero (Or.inl h)]; omega
  · have := hf_lt (n := n) (by omega) h1; omega
def foldG (get : Nat → List CV) (leaf : List CV) (k : Nat) (n i : Int) : Nat → Int := foldR (fun j => hOf (get j)) (hOf leaf) k n i
def foldPre (K : Nat) (gg sz n : Nat) (get : Nat → List CV) (ty one m : Nat) (gets : Nat → List CV) (leaf : List CV) (a i : Int) : Prop := KsAt gg sz n get ∧ ty = 24 ∧ one = 32 ∧ HashesAt m gets ∧ HashC leaf ∧ m < K ∧ m ≤ 1000000 ∧ 0 ≤ a ∧ a ≤ 1073741824 ∧ 0 ≤ i ∧ i ≤ 1073741824
def sFoldN (K : Nat) : SpecF
  | [.c (.int .i64 a), .c (.int .i64 i), .agg leaf, .c (.row 1)], [.glob gg sz n get, .elems ty one m gets] => some (foldPre K gg sz n get ty one m gets leaf a i, .agg (hashC (foldG gets leaf m a i)), [.dead, .dead])
  | _, _ => none

set_option maxRecDepth 100000 in
set_option maxHeartbeats 8000000 in
theorem foldStep (K : Nat) (ih : Fn Tryd.prog 100 [0] [(24, 32)] (sFoldN K)) : Fn Tryd.prog 100 [0] [(24, 32)] (sFoldN (K + 1)) := by
  have hC : CtsOk Tryd.prog [(53, appPure sHalf), (100, appFn [0] [(24, 32)] (sFoldN K)), (56, appFn [0] [] sNode)] := CtsOk.cons (Pure.ct halfP) <| CtsOk.cons (Fn.ct ih) <| CtsOk.cons (Fn.ct nodeP) <| CtsOk.nil _
  refine Fn.of (E := tbH) [0] 0 [(5, [(2003, false), (0, true), (1, true), (2, true), (3, true), (4, true), (5, true), (7, true), (8, true), (9, true), (10, true), (6, false), (11, false), (12, false)]), (6, [(2003, false), (0, true), (1, true), (2, true), (3, true), (4, true), (5, true), (6, true), (7, true), (8, true), (9, true), (10, true), (11, true), (12, true), (13, true), (14, false), (15, false), (16, false)])] tbH_ok hC (by kernel_rfl) Tryd.func100 rfl rfl rfl (by kernel_rfl) (by kernel_rfl) 2 5 1 ?_ ?_
  · intro args h pre r h' hs
    unfold sFoldN at hs
    split at hs
    · cases hs; exact ⟨rfl, rfl, Nat.le_of_ble_eq_true rfl⟩
    · cases hs
  · intro args h pre r h' hs hp
    unfold sFoldN at hs
    split at hs
    rotate_left
    · cases hs
    rename_i a i leaf gg sz n get ty one m gets
    cases hs
    obtain ⟨hK, rfl, rfl, hst, ⟨f, rfl, hf_⟩, hlt, hm, a0, a1, i0, i1⟩ := hp
    refine ⟨[.glob 0 1 64 (fun i => [.int .u32 (kOf i)]), .elems 24 32 m (fun i => hashC (hOf (gets i)))], ⟨hK.same.1, hst.same.1, trivial⟩, ?_⟩
    clear hK
    unfold hashC
    unfold sFoldN sNode sHalf
    generalize ho0 : @hf = zo0, ho1 : @hOf = zo1, ho2 : @HashesAt = zo2, ho3 : @cutC = zo3, ho4 : @kOf = zo4, ho5 : @HashC = zo5, ho6 : @u8s = zo6, ho7 : @nodeF = zo7, ho8 : @nodePre = zo8, ho9 : @foldG = zo9, ho10 : @foldPre = zo10
    generalize hA : Arith.std = A
    cbv
    subst hA ho0 ho1 ho2 ho3 ho4 ho5 ho6 ho7 ho8 ho9 ho10
    refine Ife.mk (fun h => ?_) (fun h => ?_)
    · have h : (m : Int) = 0 := of_decide_eq_true (p := (m : Int) = 0) h
      obtain rfl : m = 0 := by omega
      show ∃ σ, LeftF _ _ _ σ _ _ (.agg (hashC (hOf (hashC f)))) _
      exact ⟨[0, 1], ⟨rfl, by repeat' (first | exact trivial | exact rfl | apply And.intro), by decide, rfl, by repeat' (first | exact trivial | exact rfl | apply And.intro)⟩⟩
    have h0 : ¬ (m : Int) = 0 := of_decide_eq_false (p := (m : Int) = 0) h
    obtain ⟨k, rfl⟩ : ∃ k, m = k + 1 := ⟨m - 1, by omega⟩
    have hh := hf_in a a0 a1
    have kk : (((k + 1 : Nat) : Int) - 1 - 0).toNat = k := by omega
    have kl : (((k + 1 : Nat) : Int) - 1).toNat = k := by omega
    have cg : ∀ n j : Int, foldG (fun j => hashC (hOf (gets (0 + j)))) (hashC f) (((k + 1 : Nat) : Int) - 1 - 0).toNat n j = foldR (fun j => hOf (gets j)) (hOf (hashC f)) k n j := fun n j => by
      rw [kk]
      unfold foldG
      refine foldR_congr _ k n j fun j hj => ?_
      show hOf (hashC (hOf (gets (0 + j)))) = hOf (gets j)
      rw [Nat.zero_add]
      exact hOf_idem (hst j (by omega))
    have c1 : HashesAt (((k + 1 : Nat) : Int) - 1 - 0).toNat (fun j => hashC (hOf (gets (0 + j)))) := hst.cut 0 _ (by omega)
    have hL : HashC (hashC f) := ⟨_, rfl, hf_⟩
    have rg : ∀ n j : Int, HashC (hashC (foldG (fun j => hashC (hOf (gets (0 + j)))) (hashC f) (((k + 1 : Nat) : Int) - 1 - 0).toNat n j)) := fun n j => by
      rw [cg]
      exact ⟨_, rfl, foldR_range (fun j => hOf_range hL j) k n j⟩
    have rk : HashC (hashC (hOf (gets (((k + 1 : Nat) : Int) - 1).toNat))) := ⟨_, rfl, fun j => hOf_range (hst _ (by omega)) j⟩
    have fl : fitStd .i64 (((k + 1 : Nat) : Int) - 1) := by unfold fitStd; omega
    have n1 : (0 : Int) ≤ 0 ∧ (0 : Int) ≤ ((k + 1 : Nat) : Int) - 1 ∧ ((k + 1 : Nat) : Int) - 1 ≤ ((k + 1 : Nat) : Int) := by omega
    have n2 : (0 : Int) ≤ ((k + 1 : Nat) : Int) - 1 ∧ ((k + 1 : Nat) : Int) - 1 < ((k + 1 : Nat) : Int) := by omega
    have n3 : (((k + 1 : Nat) : Int) - 1).toNat < k + 1 := by omega
    refine Need.mk trivial fun _ => Need.mk fl fun _ => ?_
    refine Ife.mk (fun h => ?_) (fun h => ?_)
    · have h : i < hf a := of_decide_eq_true (p := i < hf a) h
      have p1 : foldPre K 0 1 64 (fun i => [.int .u32 (kOf i)]) 24 32 (((k + 1 : Nat) : Int) - 1 - 0).toNat (fun j => hashC (hOf (gets (0 + j)))) (hashC f) (hf a) i := ⟨ksAt_self, rfl, rfl, c1, hL, by omega, by omega, by omega, by omega, i0, i1⟩
      repeat (first | refine Need.mk n1 fun _ => ?_ | refine Need.mk n2 fun _ => ?_ | refine Need.mk n3 fun _ => ?_ | refine Need.mk p1 fun _ => ?_)
      refine Need.mk ⟨ksAt_self, rg (hf a) i, rk⟩ fun _ => ?_
      show ∃ σ, LeftF _ _ _ σ (.agg (hashC (nodeF (u8s (hashC (foldG (fun j => hashC (hOf (gets (0 + j)))) (hashC f) (((k + 1 : Nat) : Int) - 1 - 0).toNat (hf a) i))) (u8s (hashC (hOf (gets (((k + 1 : Nat) : Int) - 1).toNat))))))) _ (.agg (hashC (foldG gets (hashC f) (k + 1) a i))) _
      rw [cg, kl, show foldG gets (hashC f) (k + 1) a i = nodeF (hashB (foldR (fun j => hOf (gets j)) (hOf (hashC f)) k (hf a) i)) (hashB (hOf (gets k))) by unfold foldG; rw [foldR, if_pos h], u8s_hash, u8s_hash]
      exact ⟨[0, 1], ⟨rfl, by repeat' (first | exact trivial | exact rfl | apply And.intro), by decide, rfl, by repeat' (first | exact trivial | exact rfl | apply And.intro)⟩⟩
    · have h : ¬ i < hf a := of_decide_eq_false (p := i < hf a) h
      have p1 : foldPre K 0 1 64 (fun i => [.int .u32 (kOf i)]) 24 32 (((k + 1 : Nat) : Int) - 1 - 0).toNat (fun j => hashC (hOf (gets (0 + j)))) (hashC f) (a - hf a) (i - hf a) := ⟨ksAt_self, rfl, rfl, c1, hL, by omega, by omega, by omega, by omega, by omega, by omega⟩
      have n4 : fitStd .i64 (a - hf a) := by unfold fitStd; omega
      have n5 : fitStd .i64 (i - hf a) := by unfold fitStd; omega
      repeat (first | refine Need.mk n1 fun _ => ?_ | refine Need.mk n2 fun _ => ?_ | refine Need.mk n3 fun _ => ?_ | refine Need.mk n4 fun _ => ?_ | refine Need.mk n5 fun _ => ?_ | refine Need.mk p1 fun _ => ?_)
      refine Need.mk ⟨ksAt_self, rk, rg (a - hf a) (i - hf a)⟩ fun _ => ?_
      show ∃ σ, LeftF _ _ _ σ (.agg (hashC (nodeF (u8s (hashC (hOf (gets (((k + 1 : Nat) : Int) - 1).toNat)))) (u8s (hashC (foldG (fun j => hashC (hOf (gets (0 + j)))) (hashC f) (((k + 1 : Nat) : Int) - 1 - 0).toNat (a - hf a) (i - hf a))))))) _ (.agg (hashC (foldG gets (hashC f) (k + 1) a i))) _
      rw [cg, kl, show foldG gets (hashC f) (k + 1) a i = nodeF (hashB (hOf (gets k))) (hashB (foldR (fun j => hOf (gets j)) (hOf (hashC f)) k (a - hf a) (i - hf a))) by unfold foldG; rw [foldR, if_neg h], u8s_hash, u8s_hash]
      exact ⟨[0, 1], ⟨rfl, by repeat' (first | exact trivial | exact rfl | apply And.intro), by decide, rfl, by repeat' (first | exact trivial | exact rfl | apply And.intro)⟩⟩

theorem foldAll (K : Nat) : Fn Tryd.prog 100 [0] [(24, 32)] (sFoldN K) := by
  induction K with
  | zero =>
    refine Fn.plain (by kernel_rfl) (fun args h pre res h' hs => ?_) fun args h pre res h' hs hp ρ W us rel hus => ?_
    · unfold sFoldN at hs
      split at hs
      · cases hs; exact ⟨rfl, Nat.le_refl _⟩
      · cases hs
    · unfold sFoldN at hs
      split at hs
      · cases hs; exact absurd hp.2.2.2.2.2.1 (Nat.not_lt_zero _)
      · cases hs
  | succ K ih => exact foldStep K ih
def foldPre0 (gg sz n : Nat) (get : Nat → List CV) (ty one m : Nat) (gets : Nat → List CV) (leaf : List CV) (a i : Int) : Prop := KsAt gg sz n get ∧ ty = 24 ∧ one = 32 ∧ HashesAt m gets ∧ HashC leaf ∧ m ≤ 1000000 ∧ 0 ≤ a ∧ a ≤ 1073741824 ∧ 0 ≤ i ∧ i ≤ 1073741824
def sFold0 : SpecF
  | [.c (.int .i64 a), .c (.int .i64 i), .agg leaf, .c (.row 1)], [.glob gg sz n get, .elems ty one m gets] => some (foldPre0 gg sz n get ty one m gets leaf a i, .agg (hashC (foldG gets leaf m a i)), [.dead, .dead])
  | _, _ => none

theorem fold0P : Fn Tryd.prog 100 [0] [(24, 32)] sFold0 := by
  refine Fn.plain (by kernel_rfl) (fun args h pre res h' hs => ?_) fun args h pre res h' hs hp ρ W us rel hus => ?_
  · unfold sFold0 at hs
    split at hs
    · cases hs; exact ⟨rfl, Nat.le_refl _⟩
    · cases hs
  · unfold sFold0 at hs
    split at hs
    rotate_left
    · cases hs
    rename_i a i leaf gg sz n get ty one m gets
    cases hs
    obtain ⟨h1, h2, h3, h4, h5, h6, h7⟩ := hp
    exact (foldAll (m + 1)).run _ _ _ _ _ rfl ⟨h1, h2, h3, h4, h5, Nat.lt_succ_self m, h6, h7⟩ ρ W us rel hus
def fdB (m : Nat) (a i : Int) : Bool := inN a i && decide ((m : Int) = deep a i)
def fdH (gets : Nat → List CV) (leaf : List CV) (m : Nat) (a i : Int) : Nat → Int := if fdB m a i then foldG gets leaf m a i else fun _ => 0
def fdPre (gg sz n : Nat) (get : Nat → List CV) (ty one m : Nat) (gets : Nat → List CV) (leaf : List CV) : Prop := KsAt gg sz n get ∧ ty = 24 ∧ one = 32 ∧ HashesAt m gets ∧ HashC leaf ∧ m ≤ 1000000
def sFold : SpecF
  | [.c (.int .i64 a), .c (.int .i64 i), .agg leaf, .c (.row 1)], [.glob gg sz n get, .elems ty one m gets] => some (fdPre gg sz n get ty one m gets leaf, .tup [(none, hashC (fdH gets leaf m a i)), (some (.bool (fdB m a i)), [])], [.dead, .dead])
  | _, _ => none

set_option maxRecDepth 100000 in
set_option maxHeartbeats 8000000 in
theorem fdP : Fn Tryd.prog 58 [0] [(24, 32)] sFold := by
  have hC : CtsOk Tryd.prog [(99, appPure sIn), (54, appPure sDeep), (100, appFn [0] [(24, 32)] sFold0)] := CtsOk.cons (Pure.ct inP) <| CtsOk.cons (Pure.ct deepP) <| CtsOk.cons (Fn.ct fold0P) <| CtsOk.nil _
  refine Fn.of (E := tbH) [0] 0 [] tbH_ok hC (by kernel_rfl) Tryd.func58 rfl rfl rfl (by kernel_rfl) (by kernel_rfl) 2 5 1 ?_ ?_
  · intro args h pre r h' hs
    unfold sFold at hs
    split at hs
    · cases hs; exact ⟨rfl, rfl, Nat.le_of_ble_eq_true rfl⟩
    · cases hs
  · intro args h pre r h' hs hp
    unfold sFold at hs
    split at hs
    rotate_left
    · cases hs
    rename_i a i leaf gg sz n get ty one m gets
    cases hs
    obtain ⟨hK, rfl, rfl, hst, ⟨f, rfl, hf_⟩, hm⟩ := hp
    refine ⟨[.glob 0 1 64 (fun i => [.int .u32 (kOf i)]), .elems 24 32 m (fun i => hashC (hOf (gets i)))], ⟨hK.same.1, hst.same.1, trivial⟩, ?_⟩
    clear hK
    unfold hashC
    unfold sFold0 sIn sDeep
    generalize ho0 : @hOf = zo0, ho1 : @HashesAt = zo1, ho2 : @cutC = zo2, ho3 : @kOf = zo3, ho4 : @HashC = zo4, ho5 : @foldG = zo5, ho6 : @foldPre0 = zo6, ho7 : @fdB = zo7, ho8 : @fdH = zo8, ho9 : @fdPre = zo9, ho10 : @inN = zo10, ho11 : @deep = zo11
    generalize hA : Arith.std = A
    cbv
    subst hA ho0 ho1 ho2 ho3 ho4 ho5 ho6 ho7 ho8 ho9 ho10 ho11
    have hL : HashC (hashC f) := ⟨_, rfl, hf_⟩
    refine Need.mk trivial fun _ => ?_
    refine Ife.mk (fun h => ?_) (fun h => ?_)
    · have h : inN a i = false := by
        have h6 : (!inN a i) = true := h
        simpa using h6
      have e : fdB m a i = false := by unfold fdB; rw [h]; rfl
      have e2 : fdH gets (hashC f) m a i = fun _ => 0 := by unfold fdH; rw [e]; rfl
      show ∃ σ, LeftF _ _ _ σ _ _ (.tup [(none, hashC (fdH gets (hashC f) m a i)), (some (.bool (fdB m a i)), [])]) _
      rw [e, e2]
      exact ⟨[0, 1], ⟨rfl, by repeat' (first | exact trivial | exact rfl | apply And.intro), by decide, rfl, by repeat' (first | exact trivial | exact rfl | apply And.intro)⟩⟩
    have h1 : inN a i = true := by
      have h6 : (!inN a i) = false := h
      simpa using h6
    obtain ⟨b1, b2, b3⟩ := inN_iff.1 h1
    refine Need.mk trivial fun _ => ?_
    refine Ife.mk (fun h => ?_) (fun h => ?_)
    · have h : ¬ (m : Int) = deep a i := by
        have h6 : (!decide ((m : Int) = deep a i)) = true := h
        simpa using h6
      have e : fdB m a i = false := by unfold fdB; rw [h1]; simp [h]
      have e2 : fdH gets (hashC f) m a i = fun _ => 0 := by unfold fdH; rw [e]; rfl
      show ∃ σ, LeftF _ _ _ σ _ _ (.tup [(none, hashC (fdH gets (hashC f) m a i)), (some (.bool (fdB m a i)), [])]) _
      rw [e, e2]
      exact ⟨[0, 1], ⟨rfl, by repeat' (first | exact trivial | exact rfl | apply And.intro), by decide, rfl, by repeat' (first | exact trivial | exact rfl | apply And.intro)⟩⟩
    have h : (m : Int) = deep a i := by
      have h6 : (!decide ((m : Int) = deep a i)) = false := h
      simpa using h6
    have e : fdB m a i = true := by unfold fdB; rw [h1]; simp [h]
    have c1 : HashesAt m (fun i => hashC (hOf (gets i))) := fun j hj => ⟨_, rfl, hOf_range (hst j hj)⟩
    have e3 : foldG (fun i => hashC (hOf (gets i))) (hashC f) m a i = fdH gets (hashC f) m a i := by
      unfold fdH foldG
      rw [e, if_pos rfl]
      exact foldR_congr _ m a i fun j hj => hOf_idem (hst j hj)
    refine Need.mk ⟨ksAt_self, rfl, rfl, c1, hL, hm, by omega, by omega, by omega, by omega⟩ fun _ => ?_
    show ∃ σ, LeftF _ _ _ σ (.tup [(none, hashC (foldG (fun i => hashC (hOf (gets i))) (hashC f) m a i)), (some .tt, [])]) _ (.tup [(none, hashC (fdH gets (hashC f) m a i)), (some (.bool (fdB m a i)), [])]) _
    rw [e3, e]
    exact ⟨[0, 1], ⟨rfl, by repeat' (first | exact trivial | exact rfl | apply And.intro), by decide, rfl, by repeat' (first | exact trivial | exact rfl | apply And.intro)⟩⟩

end Go.Proofs.YtophhppklaofaaaDoor.Vx
end

section
/- Lists of sums compared. -/
namespace Go.Proofs.YtophhppklaofaaaDoor.Vx
open Go.RowKit Sha
set_option linter.unusedVariables false
set_option linter.unusedSimpArgs false
def hashesEq (n : Nat) (get : Nat → List CV) (m : Nat) (get' : Nat → List CV) : Bool := decide (n = m) && (List.range n).all fun i => eqH (hOf (get i)) (hOf (get' i))
def hashesPre (ty one n : Nat) (get : Nat → List CV) (ty' one' m : Nat) (get' : Nat → List CV) : Prop := ty = 24 ∧ one = 32 ∧ HashesAt n get ∧ n ≤ 140737488355328 ∧ ty' = 24 ∧ one' = 32 ∧ HashesAt m get' ∧ m ≤ 140737488355328
structure LHx (n : Nat) (get get' : Nat → List CV) where
  i : Int
  h0 : 0 ≤ i
  h1 : i ≤ (n : Int)
  h2 : ∀ k, k < i.toNat → eqH (hOf (get k)) (hOf (get' k)) = true
theorem hashesEq_false {n m : Nat} {get get' : Nat → List CV} (h : ¬ n = m) : hashesEq n get m get' = false := by simp [hashesEq, h]
theorem hashesEq_at {n m : Nat} {get get' : Nat → List CV} {i : Nat} (hi : i < n) (h : eqH (hOf (get i)) (hOf (get' i)) = false) : hashesEq n get m get' = false := by
  rw [Bool.eq_false_iff]
  intro h2
  simp only [hashesEq, Bool.and_eq_true, List.all_eq_true, List.mem_range, decide_eq_true_iff] at h2
  rw [h2.2 i hi] at h
  cases h
theorem hashesEq_all {n : Nat} {get get' : Nat → List CV} (h : ∀ i, i < n → eqH (hOf (get i)) (hOf (get' i)) = true) : hashesEq n get n get' = true := by
  simp only [hashesEq, Bool.and_eq_true, List.all_eq_true, List.mem_range, decide_eq_true_iff]
  exact ⟨trivial, h⟩
def sHashes : SpecF
  | [.c (.row 0), .c (.row 1)], [.elems ty one n get, .elems ty' one' m get'] => some (hashesPre ty one n get ty' one' m get', .c (.bool (hashesEq n get m get')), [.dead, .dead])
  | _, _ => none

set_option maxRecDepth 100000 in
set_option maxHeartbeats 2000000 in
theorem hashesP : Fn Tryd.prog 59 [] [(24, 32), (24, 32)] sHashes := by
  have hC : CtsOk Tryd.prog [] := CtsOk.nil _
  refine Fn.of (E := tbH) [] 0 [(6, [(0, true), (1, true), (2, true), (3, true), (4, true), (5, true), (6, true), (7, true), (8, true)])] tbH_ok hC (by kernel_rfl) Tryd.func59 rfl rfl rfl (by kernel_rfl) (by kernel_rfl) 2 5 1 ?_ ?_
  · intro args h pre r h' hs
    unfold sHashes at hs
    split at hs
    · cases hs; exact ⟨rfl, rfl, Nat.le_of_ble_eq_true rfl⟩
    · cases hs
  · intro args h pre r h' hs hp
    unfold sHashes at hs
    split at hs
    rotate_left
    · cases hs
    rename_i ty one n get ty' one' m get'
    cases hs
    obtain ⟨rfl, rfl, hst, hn, rfl, rfl, hst', hm⟩ := hp
    refine ⟨[.elems 24 32 n (fun i => hashC (hOf (get i))), .elems 24 32 m (fun i => hashC (hOf (get' i)))], ⟨hst.same.1, hst'.same.1, trivial⟩, ?_⟩
    generalize hL : lft Tryd.prog _ = L
    generalize ho0 : @hOf = zo0, ho1 : @hashesEq = zo1, ho2 : @hashesPre = zo2
    generalize hA : Arith.std = A
    cbv
    subst hA hL ho0 ho1 ho2
    refine Ife.mk (fun h => ?_) (fun h => ?_)
    · have h : ¬ n = m := by
        have h6 : (!decide ((n : Int) = (m : Int))) = true := h
        have h7 : ¬ (n : Int) = (m : Int) := by simpa using h6
        omega
      rw [hashesEq_false h]
      exact ⟨[0, 1], ⟨rfl, rfl, by decide, rfl, by repeat' (first | exact trivial | exact rfl | apply And.intro)⟩⟩
    have h : n = m := by
      have h6 : (!decide ((n : Int) = (m : Int))) = false := h
      have h7 : (n : Int) = (m : Int) := by simpa using h6
      omega
    subst h
    show Runs Tryd.prog 2 (.loop _) _ _
    refine loop_ruleR (N := env (lft Tryd.prog 2) 0 .std tbH [] [(6, [(0, true), (1, true), (2, true), (3, true), (4, true), (5, true), (6, true), (7, true), (8, true)])]) rfl tbH_ok hC (fun c st K _ h => h) (by kernel_rfl) [] (X := LHx n get get')
      (S := fun x => ⟨[.c (.row 0), .c (.row 1), .any, .any, .any, .c (.int .i64 x.i)] ++ List.replicate 20 .any, [.elems 24 32 n (fun i => hashC (hOf (get i))), .elems 24 32 n (fun i => hashC (hOf (get' i)))]⟩) (μ := fun x => n - x.i.toNat) ⟨0, by omega, by omega, fun k hk => absurd hk (by show ¬ k < (0 : Int).toNat; omega)⟩ (by kernel_rfl) [0, 1] ?_ ?_
    · refine ⟨rfl, by decide, ?_, ?_⟩ <;> repeat' (first | exact trivial | exact rfl | apply And.intro)
    rintro ⟨i, hi0, hin, hall⟩
    generalize hL : lft Tryd.prog _ = L
    try dsimp only
    generalize ho0 : @hOf = zo0, ho1 : @hashesEq = zo1, ho2 : @hashesPre = zo2
    generalize hA : Arith.std = A
    cbv
    subst hA hL ho0 ho1 ho2
    replace hi0 : 0 ≤ i := hi0
    replace hin : i ≤ @Nat.cast Int instNatCastInt n := hin
    refine Ife.mk (fun hlt => ?_) (fun hlt => ?_)
    · replace hlt : i < @Nat.cast Int instNatCastInt n := of_decide_eq_true (p := i < (n : Int)) hlt
      repeat refine Need.mk (by first | exact trivial | (simp only [Arith.std, fitStd]; omega) | (simp [Arith.std, fitStd]; omega)) fun _ => ?_
      refine Ife.mk (fun h => ?_) (fun h => ?_)
      · have h : eqH (hOf (get i.toNat)) (hOf (get' i.toNat)) = false := by
          have h6 : (!eqH (hOf (get i.toNat)) (hOf (get' i.toNat))) = true := h
          simpa using h6
        rw [hashesEq_at (m := n) (show i.toNat < n by omega) h]
        exact ⟨[0, 1], ⟨rfl, rfl, by decide, rfl, by repeat' (first | exact trivial | exact rfl | apply And.intro)⟩⟩
      have h : eqH (hOf (get i.toNat)) (hOf (get' i.toNat)) = true := by
        have h6 : (!eqH (hOf (get i.toNat)) (hOf (get' i.toNat))) = false := h
        simpa using h6
      repeat refine Need.mk (by first | exact trivial | (simp only [Arith.std, fitStd]; omega) | (simp [Arith.std, fitStd]; omega)) fun _ => ?_
      refine ⟨⟨i + 1, by omega, by omega, ?h2⟩, [0, 1], (by show n - (i + 1).toNat < n - i.toNat; omega), ?st⟩
      case st => refine ⟨rfl, by decide, ?_, ?_⟩ <;> repeat' (first | exact trivial | exact rfl | apply And.intro)
      case h2 =>
        intro k hk
        by_cases hk2 : k = i.toNat
        · rw [hk2]; exact h
        · exact hall k (by omega)
    · replace hlt : ¬ i < @Nat.cast Int instNatCastInt n := of_decide_eq_false (p := i < (n : Int)) hlt
      rw [hashesEq_all (n := n) (get := get) (get' := get') fun k hk => hall k (by show k < i.toNat; omega)]
      exact ⟨[0, 1], ⟨rfl, rfl, by decide, rfl, by repeat' (first | exact trivial | exact rfl | apply And.intro)⟩⟩

end Go.Proofs.YtophhppklaofaaaDoor.Vx
end

section
/- Trees: a leaf and its way come to the top: plain laws. -/
namespace Go.Proofs.YtophhppklaofaaaDoor.Vx
open Go.RowKit Sha
set_option linter.unusedVariables false
set_option linter.unusedSimpArgs false
theorem way_one (h : Nat → Nat → Int) (lo : Nat) (i : Int) (n : Nat) (hn : ¬ (1 < n ∧ n ≤ 1073741824 ∧ 0 ≤ i ∧ i < (n : Int))) : wayR h lo n i = [] := by rw [wayR, dif_neg hn]
theorem way_lo (h : Nat → Nat → Int) (lo : Nat) (i : Int) (n : Nat) (hc : 1 < n ∧ n ≤ 1073741824 ∧ 0 ≤ i ∧ i < (n : Int)) (hi : i < hf n) : wayR h lo n i = wayR h lo (hf n).toNat i ++ [topR h (lo + (hf n).toNat) (n - (hf n).toNat)] := by rw [wayR, dif_pos hc, if_pos hi]
theorem way_hi (h : Nat → Nat → Int) (lo : Nat) (i : Int) (n : Nat) (hc : 1 < n ∧ n ≤ 1073741824 ∧ 0 ≤ i ∧ i < (n : Int)) (hi : ¬ i < hf n) : wayR h lo n i = wayR h (lo + (hf n).toNat) (n - (hf n).toNat) (i - hf n) ++ [topR h lo (hf n).toNat] := by rw [wayR, dif_pos hc, if_neg hi]
end Go.Proofs.YtophhppklaofaaaDoor.Vx
end

section
/- The law TreeFolds, by the walker. -/
namespace Go.Proofs.YtophhppklaofaaaDoor.Vx
open Go.RowKit Sha
set_option linter.unusedVariables false
set_option linter.unusedSimpArgs false
theorem way_hashes {h : Nat → Nat → Int} {m : Nat} {i : Int} (hr : ∀ j, 0 ≤ j → j < m → ∀ k, 0 ≤ h j k ∧ h j k < 256) : HashesAt (wayR h 0 m i).length (hashesG (wayR h 0 m i)) := by
  have key : ∀ (n lo : Nat) (i : Int), lo + n ≤ m → ∀ f ∈ wayR h lo n i, ∀ k, 0 ≤ f k ∧ f k < 256 := by
    intro n
    induction n using Nat.strongRecOn with
    | ind n ih =>
      intro lo i hm f hf_
      by_cases hc : 1 < n ∧ n ≤ 1073741824 ∧ 0 ≤ i ∧ i < (n : Int)
      · have hh := hf_lt (n := (n : Int)) (by omega) (by omega)
        by_cases hi : i < hf n
        · rw [way_lo h lo i n hc hi] at hf_
          rcases List.mem_append.1 hf_ with h1 | h1
          · exact ih (hf n).toNat (by omega) lo i (by omega) f h1
          · rw [List.mem_singleton.1 h1]
            exact topR_range _ _ fun j a b => hr j (by omega) (by omega)
        · rw [way_hi h lo i n hc hi] at hf_
          rcases List.mem_append.1 hf_ with h1 | h1
          · exact ih (n - (hf n).toNat) (by omega) (lo + (hf n).toNat) (i - hf n) (by omega) f h1
          · rw [List.mem_singleton.1 h1]
            exact topR_range _ _ fun j a b => hr j (by omega) (by omega)
      · rw [way_one h lo i n hc] at hf_
        cases hf_
  intro j hj
  refine ⟨_, rfl, ?_⟩
  rw [List.getD_eq_getElem?_getD, List.getElem?_eq_getElem hj]
  exact key m 0 i (by omega) _ (List.getElem_mem hj)


end Go.Proofs.YtophhppklaofaaaDoor.Vx
namespace Go.Proofs.YtophhppklaofaaaDoor
open Go.RowKit
set_option linter.unusedVariables false
end Go.Proofs.YtophhppklaofaaaDoor
end

section
/- Trees: leaves; the document's nodes, tops, depths, by the walker. -/
namespace Go.Proofs.YtophhppklaofaaaDoor.Vx
open Go.RowKit Sha
set_option linter.unusedVariables false
set_option linter.unusedSimpArgs false
/-- The sum of a key and its value. -/
def leafF (k v : List UInt8) : Nat → Int := sumI ([0] ++ be8 k.length ++ k ++ v)
def leafPre (gg sz n : Nat) (get : Nat → List CV) (k v : List UInt8) : Prop := KsAt gg sz n get ∧ k.length ≤ 1000000000 ∧ v.length ≤ 1000000000
def rleafPre (k v : List UInt8) : Prop := k.length ≤ 1000000000 ∧ v.length ≤ 1000000000
def rnodePre (xs ys : List CV) : Prop := HashC xs ∧ HashC ys
def sLeaf : SpecF
  | [.c (.str k), .c (.str v)], [.glob gg sz n get] => some (leafPre gg sz n get k v, .agg (hashC (leafF k v)), [.dead])
  | _, _ => none

set_option maxRecDepth 100000 in
set_option maxHeartbeats 4000000 in
theorem leafP : Fn Tryd.prog 61 [0] [] sLeaf := by
  have hC : CtsOk Tryd.prog [(84, appPure sEight), (17, appFn [0] [(9, 1)] sSum)] := CtsOk.cons (Pure.ct leightP) <| CtsOk.cons (Fn.ct sumP) <| CtsOk.nil _
  refine Fn.of (E := tbT) [0] 0 [] tbT_ok hC (by kernel_rfl) Tryd.func61 rfl rfl rfl (by kernel_rfl) (by kernel_rfl) 1 5 1 ?_ ?_
  · intro args h pre r h' hs
    unfold sLeaf at hs
    split at hs
    · cases hs; exact ⟨rfl, rfl, Nat.le_of_ble_eq_true rfl⟩
    · cases hs
  · intro args h pre r h' hs hp
    unfold sLeaf at hs
    split at hs
    rotate_left
    · cases hs
    rename_i k v gg sz n get
    cases hs
    obtain ⟨hK, hk, hv⟩ := hp
    refine ⟨_, hK.same, ?_⟩
    clear hK
    unfold sSum sEight
    generalize hg0 : (List.length : List UInt8 → Nat) = g0
    generalize ho0 : @sumPre = zo0, ho1 : @joinG = zo1, ho2 : @cutC = zo2, ho3 : @sumI = zo3, ho4 : @be8 = zo4, ho5 : @eightPre = zo5, ho6 : @leafF = zo6, ho7 : @leafPre = zo7
    generalize hA : Arith.std = A
    cbv
    subst hA hg0 ho0 ho1 ho2 ho3 ho4 ho5 ho6 ho7
    have j1 := (strs_cut [[0], be8 k.length, k, v]).2
    have l8 : (be8 k.length).length = 8 := rfl
    have f1 : [[0], be8 k.length, k, v].flatten = [0] ++ be8 k.length ++ k ++ v := by simp
    have p1 := sumPre_cut [[0], be8 k.length, k, v] (by rw [f1, List.length_append, List.length_append, List.length_append, l8]; show 1 + 8 + k.length + v.length ≤ _; omega) (by show 4 ≤ 1000; decide)
    refine Need.mk (show eightPre (k.length : Int) from ⟨by omega, by omega⟩) fun _ => Need.mk p1 fun _ => ?_
    show ∃ σ, LeftF _ _ _ σ (.agg (hashC (sumI (joinG 4 (cutC 1 ([[0], be8 k.length, k, v].map CV.str) 0))))) _ (.agg (hashC (leafF k v))) _
    rw [show joinG 4 (cutC 1 ([[0], be8 k.length, k, v].map CV.str) 0) = [0] ++ be8 k.length ++ k ++ v from j1.trans f1]
    exact ⟨[0], ⟨rfl, by repeat' (first | exact trivial | exact rfl | apply And.intro), by decide, rfl, by repeat' (first | exact trivial | exact rfl | apply And.intro)⟩⟩

def sRLeaf : List SV → Option (Prop × SV)
  | [.c (.str k), .c (.str v)] => some (rleafPre k v, .agg (hashC (leafF k v)))
  | _ => none

set_option maxRecDepth 100000 in
set_option maxHeartbeats 4000000 in
theorem rleafP : Pure Tryd.prog 62 sRLeaf := by
  have hC : CtsOk Tryd.prog [(43, appPure sREight), (19, appPure sRSum)] := CtsOk.cons (Pure.ct eightP) <| CtsOk.cons (Pure.ct rsumP) <| CtsOk.nil _
  refine Pure.of (E := tbT) (C := [(43, appPure sREight), (19, appPure sRSum)]) [] 0 [] tbT_ok hC (by kernel_rfl) Tryd.func62 rfl rfl rfl (by kernel_rfl) (by kernel_rfl) ?_ ?_
  · intro args pre r h
    unfold sRLeaf at h
    split at h
    · cases h; rfl
    · cases h
  · intro args pre r h hp
    unfold sRLeaf at h
    split at h
    rotate_left
    · cases h
    rename_i k v
    cases h
    obtain ⟨hk, hv⟩ := hp
    unfold sREight sRSum
    generalize hg0 : (List.length : List UInt8 → Nat) = g0
    generalize ho0 : @sumI = zo0, ho1 : @be8 = zo1, ho2 : @eightPre = zo2, ho3 : @rsumPre = zo3, ho4 : @leafF = zo4, ho5 : @rleafPre = zo5
    generalize hA : Arith.std = A
    cbv
    subst hA hg0 ho0 ho1 ho2 ho3 ho4 ho5
    have l8 : (be8 k.length).length = 8 := rfl
    have f0 : ([0] ++ be8 k.length).length = 9 := rfl
    have f1 : ([0] ++ be8 k.length ++ k).length = 9 + k.length := by rw [List.length_append, f0]
    have f2 : ([0] ++ be8 k.length ++ k ++ v).length = 9 + k.length + v.length := by rw [List.length_append, f1]
    refine Need.mk (show eightPre (k.length : Int) from ⟨by omega, by omega⟩) fun _ => Need.mk (by show (([(0 : UInt8)].length : Nat) : Int) + ((be8 k.length).length : Nat) ≤ 9223372036854775807; rw [l8]; decide) fun _ => Need.mk (by show ((([0] ++ be8 k.length).length : Nat) : Int) + (k.length : Nat) ≤ 9223372036854775807; rw [f0]; omega) fun _ => Need.mk (by show ((([0] ++ be8 k.length ++ k).length : Nat) : Int) + (v.length : Nat) ≤ 9223372036854775807; rw [f1]; omega) fun _ => Need.mk (by show ([0] ++ be8 k.length ++ k ++ v).length ≤ 140737488350000; rw [f2]; omega) fun _ => ?_
    repeat' (first | exact trivial | exact rfl | apply And.intro)

def sRNode : List SV → Option (Prop × SV)
  | [.agg xs, .agg ys] => some (rnodePre xs ys, .agg (hashC (nodeF (u8s xs) (u8s ys))))
  | _ => none

set_option maxRecDepth 100000 in
set_option maxHeartbeats 4000000 in
theorem rnodeP : Pure Tryd.prog 63 sRNode := by
  have hC : CtsOk Tryd.prog [(19, appPure sRSum), (22, appPure sText)] := CtsOk.cons (Pure.ct rsumP) <| CtsOk.cons (Pure.ct rtextP) <| CtsOk.nil _
  refine Pure.of (E := tbT) (C := [(19, appPure sRSum), (22, appPure sText)]) [] 0 [(1, [(2002, false), (0, true), (3, true), (1, false), (2, true), (4, false), (5, true), (6, false), (7, false)])] tbT_ok hC (by kernel_rfl) Tryd.func63 rfl rfl rfl (by kernel_rfl) (by kernel_rfl) ?_ ?_
  · intro args pre r h
    unfold sRNode at h
    split at h
    · cases h; rfl
    · cases h
  · intro args pre r h hp
    unfold sRNode at h
    split at h
    rotate_left
    · cases h
    rename_i xs ys
    cases h
    obtain ⟨⟨f, rfl, hf⟩, ⟨g, rfl, hg⟩⟩ := hp
    unfold hashC
    unfold sRSum sText
    generalize hg0 : (List.length : List UInt8 → Nat) = g0
    generalize ho0 : @hf = zo0, ho1 : @sumI = zo1, ho2 : @HashC = zo2, ho3 : @u8s = zo3, ho4 : @nodeF = zo4, ho5 : @rsumPre = zo5, ho6 : @rnodePre = zo6
    generalize hA : Arith.std = A
    cbv
    subst hA hg0 ho0 ho1 ho2 ho3 ho4 ho5 ho6
    refine Need.mk ⟨f, rfl, hf⟩ fun _ => Need.mk (by show (1 : Int) + 32 ≤ 9223372036854775807; decide) fun _ => Need.mk ⟨g, rfl, hg⟩ fun _ => Need.mk (by show (33 : Int) + 32 ≤ 9223372036854775807; decide) fun _ => Need.mk (by show 1 + 32 + 32 ≤ 140737488350000; decide) fun _ => ?_
    repeat' (first | exact trivial | exact rfl | apply And.intro)

structure LDr (n0 i0 : Int) where
  n : Int
  i : Int
  d : Int
  h0 : 0 ≤ d
  h1 : deep n0 i0 = d + deep n i
  h2 : 0 ≤ i
  h3 : i < n
  h4 : n ≤ 1073741824
def sRDeep : List SV → Option (Prop × SV)
  | [.c (.int .i64 n), .c (.int .i64 i)] => some (True, .c (.int .i64 (deep n i)))
  | _ => none

set_option maxRecDepth 100000 in
set_option maxHeartbeats 2000000 in
theorem rdeepP : Pure Tryd.prog 69 sRDeep := by
  have hC : CtsOk Tryd.prog [(66, appPure sRHalf)] := CtsOk.cons (Pure.ct rhalfP) <| CtsOk.nil _
  refine Pure.of (E := tbT) (C := [(66, appPure sRHalf)]) [] 0 [] tbT_ok hC (by kernel_rfl) Tryd.func69 rfl rfl rfl (by kernel_rfl) (by kernel_rfl) ?_ ?_
  · intro args pre r h
    unfold sRDeep at h
    split at h
    · cases h; rfl
    · cases h
  · intro args pre r h hp
    unfold sRDeep at h
    split at h
    rotate_left
    · cases h
    rename_i n i
    cases h
    have hle : deep n i ≤ 30 := deep_30 n i
    unfold sRHalf
    generalize hg0 : hf = g0
    generalize hg1 : deep = g1
    generalize hL : lft Tryd.prog _ = L
    generalize ho0 : @hf = zo0
    generalize hA : Arith.std = A
    cbv
    subst hA hg0 hg1 hL ho0
    refine Ife.mk (fun h => ?_) (fun h1 => ?_)
    · have h : i < 0 := of_decide_eq_true (p := i < 0) h
      exact (deep_out (by omega)).symm
    replace h1 : ¬ i < 0 := of_decide_eq_false (p := i < 0) h1
    refine Ife.mk (fun h => ?_) (fun h2 => ?_)
    · have h : n ≤ i := of_decide_eq_true (p := n ≤ i) h
      exact (deep_out (by omega)).symm
    replace h2 : ¬ n ≤ i := of_decide_eq_false (p := n ≤ i) h2
    refine Ife.mk (fun h => ?_) (fun h3 => ?_)
    · have h : 1073741824 < n := of_decide_eq_true (p := 1073741824 < n) h
      exact (deep_out (by omega)).symm
    replace h3 : ¬ 1073741824 < n := of_decide_eq_false (p := 1073741824 < n) h3
    show Runs Tryd.prog 0 (.loop _) _ _
    refine loop_ruleR (N := env (lft Tryd.prog 0) 0 .std tbT [(66, appPure sRHalf)] []) rfl tbT_ok hC (fun c st K _ h => h) (by kernel_rfl) [] (X := LDr n i)
      (S := fun x => ⟨[.c (.int .i64 x.n), .c (.int .i64 x.i), .any, .any, .any, .c (.int .i64 x.d)] ++ List.replicate 29 .any, []⟩) (μ := fun x => x.n.toNat) ⟨n, i, 0, by omega, by omega, by omega, by omega, by omega⟩ (by kernel_rfl) [] ?_ ?_
    · refine ⟨rfl, by decide, ?_, ?_⟩ <;> repeat' (first | exact trivial | exact rfl | apply And.intro)
    rintro ⟨m, j, d, hd0, hd, hj0, hj1, hm⟩
    unfold sRHalf
    generalize hg0 : hf = g0
    generalize hg1 : deep = g1
    generalize hL : lft Tryd.prog _ = L
    try dsimp only
    generalize ho0 : @hf = zo0
    generalize hA : Arith.std = A
    cbv
    subst hA hg0 hg1 hL ho0
    replace hd : deep n i = d + deep m j := hd
    have hdn := deep_nonneg m j
    refine Ife.mk (fun h1 => ?_) (fun h1 => ?_)
    · replace h1 : 1 < m := of_decide_eq_true (p := (1 : Int) < m) h1
      have hh := hf_lt (n := m) (by omega) (by omega)
      have hin : 1 < m ∧ m ≤ 1073741824 ∧ 0 ≤ j ∧ j < m := ⟨h1, by omega, by omega, by omega⟩
      refine Need.mk trivial fun _ => ?_
      refine Ife.mk (fun h2 => ?_) (fun h2 => ?_)
      · replace h2 : j < hf m := of_decide_eq_true (p := j < hf m) h2
        refine Need.mk (by show fitStd .i64 (d + 1); unfold fitStd; omega) fun _ => ?_
        refine ⟨⟨hf m, j, d + 1, by omega, by rw [hd, deep_lo hin h2]; omega, by omega, by omega, by omega⟩, [], (by show (hf m).toNat < m.toNat; omega), ?_⟩
        refine ⟨rfl, by decide, ?_, ?_⟩ <;> repeat' (first | exact trivial | exact rfl | apply And.intro)
      · replace h2 : ¬ j < hf m := of_decide_eq_false (p := j < hf m) h2
        refine Need.mk (by show fitStd .i64 (m - hf m); unfold fitStd; omega) fun _ => Need.mk (by show fitStd .i64 (j - hf m); unfold fitStd; omega) fun _ => Need.mk (by show fitStd .i64 (d + 1); unfold fitStd; omega) fun _ => ?_
        refine ⟨⟨m - hf m, j - hf m, d + 1, by omega, by rw [hd, deep_hi hin h2]; omega, by omega, by omega, by omega⟩, [], (by show (m - hf m).toNat < m.toNat; omega), ?_⟩
        refine ⟨rfl, by decide, ?_, ?_⟩ <;> repeat' (first | exact trivial | exact rfl | apply And.intro)
    · replace h1 : ¬ 1 < m := of_decide_eq_false (p := (1 : Int) < m) h1
      show d = deep n i
      rw [hd, deep_out (n := m) (by omega)]
      omega

def rtopPre (N : Nat) (ty one m : Nat) (gets : Nat → List CV) : Prop := ty = 24 ∧ one = 32 ∧ HashesAt m gets ∧ m < N ∧ m ≤ 1073741824
def sRTopN (N : Nat) : SpecF
  | [.c (.row 0)], [.elems ty one m gets] => some (rtopPre N ty one m gets, .agg (hashC (topG gets m)), [.dead])
  | _, _ => none

set_option maxRecDepth 100000 in
set_option maxHeartbeats 8000000 in
theorem rtopStep (N : Nat) (ih : Fn Tryd.prog 67 [] [(24, 32)] (sRTopN N)) : Fn Tryd.prog 67 [] [(24, 32)] (sRTopN (N + 1)) := by
  have hC : CtsOk Tryd.prog [(66, appPure sRHalf), (67, appFn [] [(24, 32)] (sRTopN N)), (63, appPure sRNode)] := CtsOk.cons (Pure.ct rhalfP) <| CtsOk.cons (Fn.ct ih) <| CtsOk.cons (Pure.ct rnodeP) <| CtsOk.nil _
  refine Fn.of (E := tbH) [] 0 [(6, [(2001, false), (0, true), (1, true), (2, true), (4, true), (5, true), (6, true), (3, false), (7, false), (8, false), (9, false)])] tbH_ok hC (by kernel_rfl) Tryd.func67 rfl rfl rfl (by kernel_rfl) (by kernel_rfl) 1 5 1 ?_ ?_
  · intro args h pre r h' hs
    unfold sRTopN at hs
    split at hs
    · cases hs; exact ⟨rfl, rfl, Nat.le_of_ble_eq_true rfl⟩
    · cases hs
  · intro args h pre r h' hs hp
    unfold sRTopN at hs
    split at hs
    rotate_left
    · cases hs
    rename_i ty one m gets
    cases hs
    obtain ⟨rfl, rfl, hst, hlt, hm⟩ := hp
    refine ⟨[.elems 24 32 m (fun i => hashC (hOf (gets i)))], ⟨hst.same.1, trivial⟩, ?_⟩
    unfold sRTopN sRNode sRHalf
    generalize ho0 : @hf = zo0, ho1 : @hOf = zo1, ho2 : @topG = zo2, ho3 : @cutC = zo3, ho4 : @HashC = zo4, ho5 : @u8s = zo5, ho6 : @nodeF = zo6, ho7 : @rnodePre = zo7, ho8 : @rtopPre = zo8
    generalize hA : Arith.std = A
    cbv
    subst hA ho0 ho1 ho2 ho3 ho4 ho5 ho6 ho7 ho8
    refine Ife.mk (fun h => ?_) (fun h => ?_)
    · have h : (m : Int) = 0 := of_decide_eq_true (p := (m : Int) = 0) h
      obtain rfl : m = 0 := by omega
      rw [topG_zero]
      exact ⟨[0], ⟨rfl, by repeat' (first | exact trivial | exact rfl | apply And.intro), by decide, rfl, by repeat' (first | exact trivial | exact rfl | apply And.intro)⟩⟩
    have h0 : ¬ (m : Int) = 0 := of_decide_eq_false (p := (m : Int) = 0) h
    refine Ife.mk (fun h => ?_) (fun h => ?_)
    · have h : (m : Int) = 1 := of_decide_eq_true (p := (m : Int) = 1) h
      obtain rfl : m = 1 := by omega
      rw [topG_one]
      refine Need.mk (by show (0 : Int) ≤ 0 ∧ (0 : Int) < ((1 : Nat) : Int); decide) fun _ => Need.mk (by show (0 : Int).toNat < 1; decide) fun _ => ?_
      exact ⟨[0], ⟨rfl, by repeat' (first | exact trivial | exact rfl | apply And.intro), by decide, rfl, by repeat' (first | exact trivial | exact rfl | apply And.intro)⟩⟩
    have h1 : ¬ (m : Int) = 1 := of_decide_eq_false (p := (m : Int) = 1) h
    have hh := hf_lt (n := (m : Int)) (by omega) (by omega)
    have e1 : topG (fun i => hashC (hOf (gets (0 + i)))) (hf (m : Int) - 0).toNat = topR (fun i => hOf (gets i)) 0 (hf (m : Int)).toNat := by
      rw [show (hf (m : Int) - 0).toNat = (hf (m : Int)).toNat by omega]
      exact topG_cut hst 0 _ (by omega)
    have e2 : topG (fun i => hashC (hOf (gets ((hf (m : Int)).toNat + i)))) ((m : Int) - hf (m : Int)).toNat = topR (fun i => hOf (gets i)) (hf (m : Int)).toNat (m - (hf (m : Int)).toNat) := by
      rw [show ((m : Int) - hf (m : Int)).toNat = m - (hf (m : Int)).toNat by omega]
      exact topG_cut hst _ _ (by omega)
    refine Need.mk trivial fun _ => Need.mk (by show (0 : Int) ≤ 0 ∧ 0 ≤ hf (m : Int) ∧ hf (m : Int) ≤ (m : Int); omega) fun _ => Need.mk (by show 0 ≤ hf (m : Int) ∧ hf (m : Int) ≤ (m : Int) ∧ (m : Int) ≤ (m : Int); omega) fun _ => ?_
    refine Need.mk ⟨rfl, rfl, hst.cut 0 (hf (m : Int) - 0).toNat (by omega), (by show (hf (m : Int) - 0).toNat < N; omega), (by show (hf (m : Int) - 0).toNat ≤ 1073741824; omega)⟩ fun _ => ?_
    refine Need.mk ⟨rfl, rfl, hst.cut (hf (m : Int)).toNat ((m : Int) - hf (m : Int)).toNat (by omega), (by show ((m : Int) - hf (m : Int)).toNat < N; omega), (by show ((m : Int) - hf (m : Int)).toNat ≤ 1073741824; omega)⟩ fun _ => ?_
    refine Need.mk ⟨(show HashC (hashC (topG (fun i => hashC (hOf (gets (0 + i)))) (hf (m : Int) - 0).toNat)) from by rw [e1]; exact topG_hash hst 0 _ (by omega)), (show HashC (hashC (topG (fun i => hashC (hOf (gets ((hf (m : Int)).toNat + i)))) ((m : Int) - hf (m : Int)).toNat)) from by rw [e2]; exact topG_hash hst _ _ (by omega))⟩ fun _ => ?_
    show ∃ σ, LeftF _ _ _ σ (.agg (hashC (nodeF (u8s (hashC (topG (fun i => hashC (hOf (gets (0 + i)))) (hf (m : Int) - 0).toNat))) (u8s (hashC (topG (fun i => hashC (hOf (gets ((hf (m : Int)).toNat + i)))) ((m : Int) - hf (m : Int)).toNat)))))) _ (.agg (hashC (topG gets m))) _
    rw [e1, e2, topG_two (by omega) hm, u8s_hash, u8s_hash]
    exact ⟨[0], ⟨rfl, by repeat' (first | exact trivial | exact rfl | apply And.intro), by decide, rfl, by repeat' (first | exact trivial | exact rfl | apply And.intro)⟩⟩

theorem rtopAll (N : Nat) : Fn Tryd.prog 67 [] [(24, 32)] (sRTopN N) := by
  induction N with
  | zero =>
    refine Fn.plain (by kernel_rfl) (fun args h pre res h' hs => ?_) fun args h pre res h' hs hp ρ W us rel hus => ?_
    · unfold sRTopN at hs
      split at hs
      · cases hs; exact ⟨rfl, Nat.le_refl _⟩
      · cases hs
    · unfold sRTopN at hs
      split at hs
      · cases hs; exact absurd hp.2.2.2.1 (Nat.not_lt_zero _)
      · cases hs
  | succ N ih => exact rtopStep N ih
def rtopPre0 (ty one m : Nat) (gets : Nat → List CV) : Prop := ty = 24 ∧ one = 32 ∧ HashesAt m gets ∧ m ≤ 1073741824
def sRTop : SpecF
  | [.c (.row 0)], [.elems ty one m gets] => some (rtopPre0 ty one m gets, .agg (hashC (topG gets m)), [.dead])
  | _, _ => none

theorem rtopP : Fn Tryd.prog 67 [] [(24, 32)] sRTop := by
  refine Fn.plain (by kernel_rfl) (fun args h pre res h' hs => ?_) fun args h pre res h' hs hp ρ W us rel hus => ?_
  · unfold sRTop at hs
    split at hs
    · cases hs; exact ⟨rfl, Nat.le_refl _⟩
    · cases hs
  · unfold sRTop at hs
    split at hs
    rotate_left
    · cases hs
    rename_i ty one m gets
    cases hs
    obtain ⟨h1, h2, h3, h4⟩ := hp
    exact (rtopAll (m + 1)).run _ _ _ _ _ rfl ⟨h1, h2, h3, Nat.lt_succ_self m, h4⟩ ρ W us rel hus
end Go.Proofs.YtophhppklaofaaaDoor.Vx
end

section
/- Trees: the document's ways and folds, by the walker. -/
namespace Go.Proofs.YtophhppklaofaaaDoor.Vx
open Go.RowKit Sha
set_option linter.unusedVariables false
set_option linter.unusedSimpArgs false
def rwayPre (N : Nat) (ty one m : Nat) (gets : Nat → List CV) : Prop := ty = 24 ∧ one = 32 ∧ HashesAt m gets ∧ m < N ∧ m ≤ 1000000
def sRWayN (N : Nat) : SpecF
  | [.c (.row 0), .c (.int .i64 i)], [.elems ty one m gets] => some (rwayPre N ty one m gets, .c (.row 1), [.dead, .row 24 32 (wayG gets m i).length (hashesG (wayG gets m i))])
  | _, _ => none

set_option maxRecDepth 100000 in
set_option maxHeartbeats 8000000 in
theorem rwayStep (N : Nat) (ih : Fn Tryd.prog 68 [] [(24, 32)] (sRWayN N)) : Fn Tryd.prog 68 [] [(24, 32)] (sRWayN (N + 1)) := by
  have hC : CtsOk Tryd.prog [(66, appPure sRHalf), (68, appFn [] [(24, 32)] (sRWayN N)), (67, appFn [] [(24, 32)] sRTop)] := CtsOk.cons (Pure.ct rhalfP) <| CtsOk.cons (Fn.ct ih) <| CtsOk.cons (Fn.ct rtopP) <| CtsOk.nil _
  refine Fn.of (E := tbH) [] 0 [(5, [(2001, false), (2002, false), (2003, false), (2004, false), (0, true), (1, true), (2, true), (3, true), (5, true), (6, true), (7, true), (4, false), (8, false), (9, false), (10, false), (11, true)]), (6, [(2001, false), (2002, false), (2003, false), (2004, false), (0, true), (1, true), (2, true), (3, true), (4, true), (5, true), (7, true), (8, true), (9, true), (6, false), (10, false), (11, false), (12, false), (13, true)])] tbH_ok hC (by kernel_rfl) Tryd.func68 rfl rfl rfl (by kernel_rfl) (by kernel_rfl) 1 24 32 ?_ ?_
  · intro args h pre r h' hs
    unfold sRWayN at hs
    split at hs
    · cases hs; exact ⟨rfl, rfl, Nat.le_of_ble_eq_true rfl⟩
    · cases hs
  · intro args h pre r h' hs hp
    unfold sRWayN at hs
    split at hs
    rotate_left
    · cases hs
    rename_i i ty one m gets
    cases hs
    obtain ⟨rfl, rfl, hst, hlt, hm⟩ := hp
    refine ⟨[.elems 24 32 m (fun i => hashC (hOf (gets i)))], ⟨hst.same.1, trivial⟩, ?_⟩
    unfold sRWayN sRTop sRHalf
    generalize hg0 : (List.length : List (Nat → Int) → Nat) = g0
    generalize ho0 : @hf = zo0, ho1 : @hOf = zo1, ho2 : @topG = zo2, ho3 : @HashesAt = zo3, ho4 : @cutC = zo4, ho5 : @nodeF = zo5, ho6 : @wayG = zo6, ho7 : @hashesG = zo7, ho8 : @rtopPre0 = zo8, ho9 : @inN = zo9, ho10 : @rwayPre = zo10
    generalize hA : Arith.std = A
    cbv
    subst hA hg0 ho0 ho1 ho2 ho3 ho4 ho5 ho6 ho7 ho8 ho9 ho10
    refine Ife.mk (fun h => ?_) (fun h => ?_)
    · have h : i < 0 := of_decide_eq_true (p := i < 0) h
      rw [wayG_out (by omega)]
      exact ⟨[0, 1], ⟨rfl, rfl, (by show List.Nodup [1]; decide), rfl, by repeat' (first | exact trivial | exact rfl | apply And.intro | (intro i hi; rfl) | (intro i hi; exact absurd hi (Nat.not_lt_zero _)))⟩⟩
    have h0 : ¬ i < 0 := of_decide_eq_false (p := i < 0) h
    refine Ife.mk (fun h => ?_) (fun h => ?_)
    · have h : (m : Int) ≤ i := of_decide_eq_true (p := (m : Int) ≤ i) h
      rw [wayG_out (by omega)]
      exact ⟨[0, 1], ⟨rfl, rfl, (by show List.Nodup [1]; decide), rfl, by repeat' (first | exact trivial | exact rfl | apply And.intro | (intro i hi; rfl) | (intro i hi; exact absurd hi (Nat.not_lt_zero _)))⟩⟩
    have h1 : ¬ (m : Int) ≤ i := of_decide_eq_false (p := (m : Int) ≤ i) h
    refine Ife.mk (fun h => ?_) (fun h => ?_)
    · have h : (m : Int) < 2 := of_decide_eq_true (p := (m : Int) < 2) h
      rw [wayG_out (by omega)]
      exact ⟨[0, 1], ⟨rfl, rfl, (by show List.Nodup [1]; decide), rfl, by repeat' (first | exact trivial | exact rfl | apply And.intro | (intro i hi; rfl) | (intro i hi; exact absurd hi (Nat.not_lt_zero _)))⟩⟩
    have h2 : ¬ (m : Int) < 2 := of_decide_eq_false (p := (m : Int) < 2) h
    have hh := hf_lt (n := (m : Int)) (by omega) (by omega)
    have hc : 1 < m ∧ m ≤ 1073741824 ∧ 0 ≤ i ∧ i < (m : Int) := by omega
    have k1 : (hf (m : Int) - 0).toNat = (hf (m : Int)).toNat := by omega
    have k2 : ((m : Int) - hf (m : Int)).toNat = m - (hf (m : Int)).toNat := by omega
    have e1 : topG (fun i => hashC (hOf (gets (0 + i)))) (hf (m : Int) - 0).toNat = topR (fun i => hOf (gets i)) 0 (hf (m : Int)).toNat := by rw [k1]; exact topG_cut hst 0 _ (by omega)
    have e2 : topG (fun i => hashC (hOf (gets ((hf (m : Int)).toNat + i)))) ((m : Int) - hf (m : Int)).toNat = topR (fun i => hOf (gets i)) (hf (m : Int)).toNat (m - (hf (m : Int)).toNat) := by rw [k2]; exact topG_cut hst _ _ (by omega)
    have f1 : wayG (fun i => hashC (hOf (gets (0 + i)))) (hf (m : Int) - 0).toNat i = wayR (fun i => hOf (gets i)) 0 (hf (m : Int)).toNat i := by rw [k1]; exact wayG_cut hst 0 _ i (by omega)
    have f2 : wayG (fun i => hashC (hOf (gets ((hf (m : Int)).toNat + i)))) ((m : Int) - hf (m : Int)).toNat (i - hf (m : Int)) = wayR (fun i => hOf (gets i)) (hf (m : Int)).toNat (m - (hf (m : Int)).toNat) (i - hf (m : Int)) := by rw [k2]; exact wayG_cut hst _ _ _ (by omega)
    have c1 : HashesAt (hf (m : Int) - 0).toNat (fun i => hashC (hOf (gets (0 + i)))) := hst.cut 0 _ (by omega)
    have c2 : HashesAt ((m : Int) - hf (m : Int)).toNat (fun i => hashC (hOf (gets ((hf (m : Int)).toNat + i)))) := hst.cut _ _ (by omega)
    have s1 : (0 : Int) ≤ 0 ∧ 0 ≤ hf (m : Int) ∧ hf (m : Int) ≤ (m : Int) := by omega
    have s2 : 0 ≤ hf (m : Int) ∧ hf (m : Int) ≤ (m : Int) ∧ (m : Int) ≤ (m : Int) := by omega
    have z1 := wayR_len (fun i => hOf (gets i)) (hf (m : Int)).toNat 0 i
    have z2 := wayR_len (fun i => hOf (gets i)) (m - (hf (m : Int)).toNat) (hf (m : Int)).toNat (i - hf (m : Int))
    refine Need.mk trivial fun _ => ?_
    refine Ife.mk (fun h => ?_) (fun h => ?_)
    · have h : i < hf (m : Int) := of_decide_eq_true (p := i < hf (m : Int)) h
      refine Need.mk s1 fun _ => Need.mk s2 fun _ => Need.mk ⟨rfl, rfl, c1, (by show (hf (m : Int) - 0).toNat < N; omega), (by show (hf (m : Int) - 0).toNat ≤ 1000000; omega)⟩ fun _ => Need.mk ⟨rfl, rfl, c2, (by show ((m : Int) - hf (m : Int)).toNat ≤ 1073741824; omega)⟩ fun _ => ?_
      refine Need.mk (by show (wayG (fun i => hashC (hOf (gets (0 + i)))) (hf (m : Int) - 0).toNat i).length + 1 ≤ maxLen ∧ ((wayG (fun i => hashC (hOf (gets (0 + i)))) (hf (m : Int) - 0).toNat i).length + 1) * 32 ≤ 140737488355328; rw [f1]; unfold maxLen; omega) fun _ => ?_
      rw [wayG_lo hc h, ← f1, ← e2]
      exact ⟨[0, 5], ⟨rfl, rfl, (by show List.Nodup [5]; decide), rfl, by
        repeat' (first | exact trivial | exact rfl | apply And.intro)
        · refine Eq.trans ?_ List.length_append.symm
          rfl
        · intro j hj
          exact hashesG_push _ _ j (Nat.lt_of_lt_of_eq hj List.length_append)⟩⟩
    · have h : ¬ i < hf (m : Int) := of_decide_eq_false (p := i < hf (m : Int)) h
      refine Need.mk s2 fun _ => Need.mk (by show fitStd .i64 (i - hf (m : Int)); unfold fitStd; omega) fun _ => Need.mk s1 fun _ => Need.mk ⟨rfl, rfl, c2, (by show ((m : Int) - hf (m : Int)).toNat < N; omega), (by show ((m : Int) - hf (m : Int)).toNat ≤ 1000000; omega)⟩ fun _ => Need.mk ⟨rfl, rfl, c1, (by show (hf (m : Int) - 0).toNat ≤ 1073741824; omega)⟩ fun _ => ?_
      refine Need.mk (by show (wayG (fun i => hashC (hOf (gets ((hf (m : Int)).toNat + i)))) ((m : Int) - hf (m : Int)).toNat (i - hf (m : Int))).length + 1 ≤ maxLen ∧ ((wayG (fun i => hashC (hOf (gets ((hf (m : Int)).toNat + i)))) ((m : Int) - hf (m : Int)).toNat (i - hf (m : Int))).length + 1) * 32 ≤ 140737488355328; rw [f2]; unfold maxLen; omega) fun _ => ?_
      rw [wayG_hi hc h, ← f2, ← e1]
      exact ⟨[0, 5], ⟨rfl, rfl, (by show List.Nodup [5]; decide), rfl, by
        repeat' (first | exact trivial | exact rfl | apply And.intro)
        · refine Eq.trans ?_ List.length_append.symm
          rfl
        · intro j hj
          exact hashesG_push _ _ j (Nat.lt_of_lt_of_eq hj List.length_append)⟩⟩

theorem rwayAll (N : Nat) : Fn Tryd.prog 68 [] [(24, 32)] (sRWayN N) := by
  induction N with
  | zero =>
    refine Fn.plain (by kernel_rfl) (fun args h pre res h' hs => ?_) fun args h pre res h' hs hp ρ W us rel hus => ?_
    · unfold sRWayN at hs
      split at hs
      · cases hs; exact ⟨rfl, Nat.le_of_ble_eq_true rfl⟩
      · cases hs
    · unfold sRWayN at hs
      split at hs
      · cases hs; exact absurd hp.2.2.2.1 (Nat.not_lt_zero _)
      · cases hs
  | succ N ih => exact rwayStep N ih
def rwayPre0 (ty one m : Nat) (gets : Nat → List CV) : Prop := ty = 24 ∧ one = 32 ∧ HashesAt m gets ∧ m ≤ 1000000
def sRWay : SpecF
  | [.c (.row 0), .c (.int .i64 i)], [.elems ty one m gets] => some (rwayPre0 ty one m gets, .c (.row 1), [.dead, .row 24 32 (wayG gets m i).length (hashesG (wayG gets m i))])
  | _, _ => none

theorem rwayP : Fn Tryd.prog 68 [] [(24, 32)] sRWay := by
  refine Fn.plain (by kernel_rfl) (fun args h pre res h' hs => ?_) fun args h pre res h' hs hp ρ W us rel hus => ?_
  · unfold sRWay at hs
    split at hs
    · cases hs; exact ⟨rfl, Nat.le_of_ble_eq_true rfl⟩
    · cases hs
  · unfold sRWay at hs
    split at hs
    rotate_left
    · cases hs
    rename_i i ty one m gets
    cases hs
    obtain ⟨h1, h2, h3, h4⟩ := hp
    exact (rwayAll (m + 1)).run _ _ _ _ _ rfl ⟨h1, h2, h3, Nat.lt_succ_self m, h4⟩ ρ W us rel hus
def rfdPre (K : Nat) (ty one m : Nat) (gets : Nat → List CV) (leaf : List CV) : Prop := ty = 24 ∧ one = 32 ∧ HashesAt m gets ∧ HashC leaf ∧ m < K ∧ m ≤ 1000000
def sRFdN (K : Nat) : SpecF
  | [.c (.int .i64 a), .c (.int .i64 i), .agg leaf, .c (.row 0)], [.elems ty one m gets] => some (rfdPre K ty one m gets leaf, .tup [(none, hashC (fdH gets leaf m a i)), (some (.bool (fdB m a i)), [])], [.dead])
  | _, _ => none
theorem fdB_iff {m : Nat} {a i : Int} : fdB m a i = true ↔ (a ≤ 1073741824 ∧ 0 ≤ i ∧ i < a) ∧ (m : Int) = deep a i := by
  unfold fdB
  rw [Bool.and_eq_true, decide_eq_true_iff, inN_iff]
theorem fd_out {gets : Nat → List CV} {leaf : List CV} {m : Nat} {a i : Int} (h : ¬ ((a ≤ 1073741824 ∧ 0 ≤ i ∧ i < a) ∧ (m : Int) = deep a i)) : fdB m a i = false ∧ fdH gets leaf m a i = fun _ => 0 := by
  have e : fdB m a i = false := by
    rw [Bool.eq_false_iff]
    exact fun h2 => h (fdB_iff.1 h2)
  refine ⟨e, ?_⟩
  unfold fdH
  rw [e]
  rfl
set_option maxRecDepth 100000 in
set_option maxHeartbeats 8000000 in
theorem rfdStep (K : Nat) (ih : Fn Tryd.prog 60 [] [(24, 32)] (sRFdN K)) : Fn Tryd.prog 60 [] [(24, 32)] (sRFdN (K + 1)) := by
  have hC : CtsOk Tryd.prog [(66, appPure sRHalf), (60, appFn [] [(24, 32)] (sRFdN K)), (63, appPure sRNode), (69, appPure sRDeep)] := CtsOk.cons (Pure.ct rhalfP) <| CtsOk.cons (Fn.ct ih) <| CtsOk.cons (Pure.ct rnodeP) <| CtsOk.cons (Pure.ct rdeepP) <| CtsOk.nil _
  refine Fn.of (E := tbH) [] 0 [(7, [(9999, true), (0, true), (1, true), (2, true), (3, true), (4, true), (5, true), (3006, false), (7, true), (8, true), (9, true), (10, false), (11, false), (12, true), (2999, false), (10, false), (6, false), (7, true), (8, true), (9, true), (11, false), (12, true), (2999, false)]), (8, [(2002, false), (0, true), (1, true), (2, true), (3, true), (4, true), (5, false), (6, false), (7, true)]), (9, [(9999, true), (0, true), (1, true), (2, true), (3, true), (4, true), (5, true), (6, true), (7, true), (8, true), (9, true), (3010, false), (11, true), (12, true), (13, true), (14, false), (15, false), (16, true), (2999, false), (14, false), (10, false), (11, true), (12, true), (13, true), (15, false), (16, true), (2999, false)]), (10, [(2002, false), (0, true), (1, true), (2, true), (3, true), (4, true), (5, false), (6, false), (7, true)])] tbH_ok hC (by kernel_rfl) Tryd.func60 rfl rfl rfl (by kernel_rfl) (by kernel_rfl) 1 5 1 ?_ ?_
  · intro args h pre r h' hs
    unfold sRFdN at hs
    split at hs
    · cases hs; exact ⟨rfl, rfl, Nat.le_of_ble_eq_true rfl⟩
    · cases hs
  · intro args h pre r h' hs hp
    unfold sRFdN at hs
    split at hs
    rotate_left
    · cases hs
    rename_i a i leaf ty one m gets
    cases hs
    obtain ⟨rfl, rfl, hst, ⟨f, rfl, hf_⟩, hlt, hm⟩ := hp
    refine ⟨[.elems 24 32 m (fun i => hashC (hOf (gets i)))], ⟨hst.same.1, trivial⟩, ?_⟩
    unfold hashC
    unfold sRFdN sRNode sRDeep
    generalize hg0 : appPure sRHalf = g0
    generalize ho0 : @hf = zo0, ho1 : @hOf = zo1, ho2 : @HashesAt = zo2, ho3 : @cutC = zo3, ho4 : @HashC = zo4, ho5 : @u8s = zo5, ho6 : @nodeF = zo6, ho7 : @rnodePre = zo7, ho8 : @fdB = zo8, ho9 : @fdH = zo9, ho10 : @deep = zo10, ho11 : @inN = zo11, ho12 : @foldG = zo12, ho13 : @rfdPre = zo13
    generalize hA : Arith.std = A
    cbv
    subst hA hg0 ho0 ho1 ho2 ho3 ho4 ho5 ho6 ho7 ho8 ho9 ho10 ho11 ho12 ho13
    have hL : HashC (hashC f) := ⟨_, rfl, hf_⟩
    refine Ife.mk (fun h => ?_) (fun h => ?_)
    · have h : a < 1 := of_decide_eq_true (p := a < 1) h
      have e := fd_out (gets := gets) (leaf := hashC f) (m := m) (a := a) (i := i) (by omega)
      show ∃ σ, LeftF _ _ _ σ _ _ (.tup [(none, hashC (fdH gets (hashC f) m a i)), (some (.bool (fdB m a i)), [])]) _
      rw [e.1, e.2]
      exact ⟨[0], ⟨rfl, by repeat' (first | exact trivial | exact rfl | apply And.intro), by decide, rfl, by repeat' (first | exact trivial | exact rfl | apply And.intro)⟩⟩
    have c1 : ¬ a < 1 := of_decide_eq_false (p := a < 1) h
    refine Ife.mk (fun h => ?_) (fun h => ?_)
    · have h : 1073741824 < a := of_decide_eq_true (p := 1073741824 < a) h
      have e := fd_out (gets := gets) (leaf := hashC f) (m := m) (a := a) (i := i) (by omega)
      show ∃ σ, LeftF _ _ _ σ _ _ (.tup [(none, hashC (fdH gets (hashC f) m a i)), (some (.bool (fdB m a i)), [])]) _
      rw [e.1, e.2]
      exact ⟨[0], ⟨rfl, by repeat' (first | exact trivial | exact rfl | apply And.intro), by decide, rfl, by repeat' (first | exact trivial | exact rfl | apply And.intro)⟩⟩
    have c2 : ¬ 1073741824 < a := of_decide_eq_false (p := 1073741824 < a) h
    refine Ife.mk (fun h => ?_) (fun h => ?_)
    · have h : i < 0 := of_decide_eq_true (p := i < 0) h
      have e := fd_out (gets := gets) (leaf := hashC f) (m := m) (a := a) (i := i) (by omega)
      show ∃ σ, LeftF _ _ _ σ _ _ (.tup [(none, hashC (fdH gets (hashC f) m a i)), (some (.bool (fdB m a i)), [])]) _
      rw [e.1, e.2]
      exact ⟨[0], ⟨rfl, by repeat' (first | exact trivial | exact rfl | apply And.intro), by decide, rfl, by repeat' (first | exact trivial | exact rfl | apply And.intro)⟩⟩
    have c3 : ¬ i < 0 := of_decide_eq_false (p := i < 0) h
    refine Ife.mk (fun h => ?_) (fun h => ?_)
    · have h : a ≤ i := of_decide_eq_true (p := a ≤ i) h
      have e := fd_out (gets := gets) (leaf := hashC f) (m := m) (a := a) (i := i) (by omega)
      show ∃ σ, LeftF _ _ _ σ _ _ (.tup [(none, hashC (fdH gets (hashC f) m a i)), (some (.bool (fdB m a i)), [])]) _
      rw [e.1, e.2]
      exact ⟨[0], ⟨rfl, by repeat' (first | exact trivial | exact rfl | apply And.intro), by decide, rfl, by repeat' (first | exact trivial | exact rfl | apply And.intro)⟩⟩
    have c4 : ¬ a ≤ i := of_decide_eq_false (p := a ≤ i) h
    refine Need.mk trivial fun _ => ?_
    refine Ife.mk (fun h => ?_) (fun h => ?_)
    · have h : ¬ (m : Int) = deep a i := by
        have h6 : (!decide ((m : Int) = deep a i)) = true := h
        simpa using h6
      have e := fd_out (gets := gets) (leaf := hashC f) (m := m) (a := a) (i := i) (by omega)
      show ∃ σ, LeftF _ _ _ σ _ _ (.tup [(none, hashC (fdH gets (hashC f) m a i)), (some (.bool (fdB m a i)), [])]) _
      rw [e.1, e.2]
      exact ⟨[0], ⟨rfl, by repeat' (first | exact trivial | exact rfl | apply And.intro), by decide, rfl, by repeat' (first | exact trivial | exact rfl | apply And.intro)⟩⟩
    have c5 : (m : Int) = deep a i := by
      have h6 : (!decide ((m : Int) = deep a i)) = false := h
      simpa using h6
    have eB : fdB m a i = true := fdB_iff.2 ⟨by omega, c5⟩
    refine Ife.mk (fun h => ?_) (fun h => ?_)
    · have h : a = 1 := of_decide_eq_true (p := a = 1) h
      subst h
      have h0 : m = 0 := by rw [deep_out (by omega)] at c5; omega
      subst h0
      have e2 : fdH gets (hashC f) 0 1 i = hOf (hashC f) := by unfold fdH; rw [eB]; rfl
      show ∃ σ, LeftF _ _ _ σ _ _ (.tup [(none, hashC (fdH gets (hashC f) 0 1 i)), (some (.bool (fdB 0 1 i)), [])]) _
      rw [e2, eB]
      exact ⟨[0], ⟨rfl, by repeat' (first | exact trivial | exact rfl | apply And.intro), by decide, rfl, by repeat' (first | exact trivial | exact rfl | apply And.intro)⟩⟩
    have c6 : ¬ a = 1 := of_decide_eq_false (p := a = 1) h
    unfold sRHalf
    generalize ho0 : @hf = zo0, ho1 : @hOf = zo1, ho2 : @HashesAt = zo2, ho3 : @cutC = zo3, ho4 : @HashC = zo4, ho5 : @u8s = zo5, ho6 : @nodeF = zo6, ho7 : @rnodePre = zo7, ho8 : @fdB = zo8, ho9 : @fdH = zo9, ho10 : @deep = zo10, ho11 : @inN = zo11, ho12 : @foldG = zo12, ho13 : @rfdPre = zo13
    generalize hA : Arith.std = A
    cbv
    subst hA ho0 ho1 ho2 ho3 ho4 ho5 ho6 ho7 ho8 ho9 ho10 ho11 ho12 ho13
    replace c5 : (@Nat.cast Int instNatCastInt m) = deep a i := c5
    have hin : 1 < a ∧ a ≤ 1073741824 ∧ 0 ≤ i ∧ i < a := by omega
    have hh := hf_lt (n := a) (by omega) (by omega)
    obtain ⟨k, rfl⟩ : ∃ k, m = k + 1 := by
      refine ⟨m - 1, ?_⟩
      have d1 : 1 ≤ deep a i := by
        by_cases hi : i < hf a
        · rw [deep_lo hin hi]; have := deep_nonneg (hf a) i; omega
        · rw [deep_hi hin hi]; have := deep_nonneg (a - hf a) (i - hf a); omega
      omega
    have kk : (((k + 1 : Nat) : Int) - 1 - 0).toNat = k := by omega
    have kl : (((k + 1 : Nat) : Int) - 1).toNat = k := by omega
    have cg : ∀ n j : Int, fdB k n j = true → fdH (fun j => hashC (hOf (gets (0 + j)))) (hashC f) (((k + 1 : Nat) : Int) - 1 - 0).toNat n j = foldR (fun j => hOf (gets j)) (hOf (hashC f)) k n j := fun n j hb => by
      rw [kk]
      unfold fdH
      rw [hb, if_pos rfl]
      unfold foldG
      refine foldR_congr _ k n j fun j hj => ?_
      show hOf (hashC (hOf (gets (0 + j)))) = hOf (gets j)
      rw [Nat.zero_add]
      exact hOf_idem (hst j (by omega))
    have z1 : HashesAt (((k + 1 : Nat) : Int) - 1 - 0).toNat (fun j => hashC (hOf (gets (0 + j)))) := hst.cut 0 _ (by omega)
    have rg : ∀ n j : Int, HashC (hashC (foldR (fun j => hOf (gets j)) (hOf (hashC f)) k n j)) := fun n j => ⟨_, rfl, foldR_range (fun j => hOf_range hL j) k n j⟩
    have rk : HashC (hashC (hOf (gets (((k + 1 : Nat) : Int) - 1).toNat))) := ⟨_, rfl, fun j => hOf_range (hst _ (by omega)) j⟩
    have fl : fitStd .i64 (((k + 1 : Nat) : Int) - 1) := by unfold fitStd; omega
    have n1 : (0 : Int) ≤ 0 ∧ (0 : Int) ≤ ((k + 1 : Nat) : Int) - 1 ∧ ((k + 1 : Nat) : Int) - 1 ≤ ((k + 1 : Nat) : Int) := by omega
    have n2 : (0 : Int) ≤ ((k + 1 : Nat) : Int) - 1 ∧ ((k + 1 : Nat) : Int) - 1 < ((k + 1 : Nat) : Int) := by omega
    have n3 : (((k + 1 : Nat) : Int) - 1).toNat < k + 1 := by omega
    have p1 : rfdPre K 24 32 (((k + 1 : Nat) : Int) - 1 - 0).toNat (fun j => hashC (hOf (gets (0 + j)))) (hashC f) := ⟨rfl, rfl, z1, hL, by omega, by omega⟩
    refine Need.mk trivial fun _ => Need.mk fl fun _ => ?_
    refine Ife.mk (fun h => ?_) (fun h => ?_)
    · have h : i < hf a := of_decide_eq_true (p := i < hf a) h
      have hb : fdB k (hf a) i = true := fdB_iff.2 ⟨by omega, by rw [deep_lo hin h] at c5; omega⟩
      have eF : fdH gets (hashC f) (k + 1) a i = nodeF (hashB (foldR (fun j => hOf (gets j)) (hOf (hashC f)) k (hf a) i)) (hashB (hOf (gets k))) := by
        unfold fdH; rw [eB, if_pos rfl]; unfold foldG; rw [foldR, if_pos h]
      have q1 : rnodePre (hashC (fdH (fun j => hashC (hOf (gets (0 + j)))) (hashC f) (((k + 1 : Nat) : Int) - 1 - 0).toNat (hf a) i)) (hashC (hOf (gets (((k + 1 : Nat) : Int) - 1).toNat))) := by
        rw [cg _ _ hb]; exact ⟨rg _ _, rk⟩
      repeat' (first | refine Both.mk ?_ ?_ | refine Need.mk n1 fun _ => ?_ | refine Need.mk n2 fun _ => ?_ | refine Need.mk n3 fun _ => ?_ | refine Need.mk p1 fun _ => ?_ | refine Need.mk q1 fun _ => ?_)
      all_goals
        show ∃ σ, LeftF _ _ _ σ (.tup [(none, hashC (nodeF (u8s (hashC (fdH (fun j => hashC (hOf (gets (0 + j)))) (hashC f) (((k + 1 : Nat) : Int) - 1 - 0).toNat (hf a) i))) (u8s (hashC (hOf (gets (((k + 1 : Nat) : Int) - 1).toNat)))))), (some .tt, [])]) _ (.tup [(none, hashC (fdH gets (hashC f) (k + 1) a i)), (some (.bool (fdB (k + 1) a i)), [])]) _
        rw [cg _ _ hb, kl, eF, eB, u8s_hash, u8s_hash]
        exact ⟨[0], ⟨rfl, by repeat' (first | exact trivial | exact rfl | apply And.intro), by decide, rfl, by repeat' (first | exact trivial | exact rfl | apply And.intro)⟩⟩
    · have h : ¬ i < hf a := of_decide_eq_false (p := i < hf a) h
      have hb : fdB k (a - hf a) (i - hf a) = true := fdB_iff.2 ⟨by omega, by rw [deep_hi hin h] at c5; omega⟩
      have n4 : fitStd .i64 (a - hf a) := by unfold fitStd; omega
      have n5 : fitStd .i64 (i - hf a) := by unfold fitStd; omega
      have eF : fdH gets (hashC f) (k + 1) a i = nodeF (hashB (hOf (gets k))) (hashB (foldR (fun j => hOf (gets j)) (hOf (hashC f)) k (a - hf a) (i - hf a))) := by
        unfold fdH; rw [eB, if_pos rfl]; unfold foldG; rw [foldR, if_neg h]
      have q1 : rnodePre (hashC (hOf (gets (((k + 1 : Nat) : Int) - 1).toNat))) (hashC (fdH (fun j => hashC (hOf (gets (0 + j)))) (hashC f) (((k + 1 : Nat) : Int) - 1 - 0).toNat (a - hf a) (i - hf a))) := by
        rw [cg _ _ hb]; exact ⟨rk, rg _ _⟩
      repeat' (first | refine Both.mk ?_ ?_ | refine Need.mk n1 fun _ => ?_ | refine Need.mk n2 fun _ => ?_ | refine Need.mk n3 fun _ => ?_ | refine Need.mk n4 fun _ => ?_ | refine Need.mk n5 fun _ => ?_ | refine Need.mk p1 fun _ => ?_ | refine Need.mk q1 fun _ => ?_)
      all_goals
        show ∃ σ, LeftF _ _ _ σ (.tup [(none, hashC (nodeF (u8s (hashC (hOf (gets (((k + 1 : Nat) : Int) - 1).toNat)))) (u8s (hashC (fdH (fun j => hashC (hOf (gets (0 + j)))) (hashC f) (((k + 1 : Nat) : Int) - 1 - 0).toNat (a - hf a) (i - hf a)))))), (some .tt, [])]) _ (.tup [(none, hashC (fdH gets (hashC f) (k + 1) a i)), (some (.bool (fdB (k + 1) a i)), [])]) _
        rw [cg _ _ hb, kl, eF, eB, u8s_hash, u8s_hash]
        exact ⟨[0], ⟨rfl, by repeat' (first | exact trivial | exact rfl | apply And.intro), by decide, rfl, by repeat' (first | exact trivial | exact rfl | apply And.intro)⟩⟩

theorem rfdAll (K : Nat) : Fn Tryd.prog 60 [] [(24, 32)] (sRFdN K) := by
  induction K with
  | zero =>
    refine Fn.plain (by kernel_rfl) (fun args h pre res h' hs => ?_) fun args h pre res h' hs hp ρ W us rel hus => ?_
    · unfold sRFdN at hs
      split at hs
      · cases hs; exact ⟨rfl, Nat.le_refl _⟩
      · cases hs
    · unfold sRFdN at hs
      split at hs
      · cases hs; exact absurd hp.2.2.2.2.1 (Nat.not_lt_zero _)
      · cases hs
  | succ K ih => exact rfdStep K ih
def rfdPre0 (ty one m : Nat) (gets : Nat → List CV) (leaf : List CV) : Prop := ty = 24 ∧ one = 32 ∧ HashesAt m gets ∧ HashC leaf ∧ m ≤ 1000000
def sRFd : SpecF
  | [.c (.int .i64 a), .c (.int .i64 i), .agg leaf, .c (.row 0)], [.elems ty one m gets] => some (rfdPre0 ty one m gets leaf, .tup [(none, hashC (fdH gets leaf m a i)), (some (.bool (fdB m a i)), [])], [.dead])
  | _, _ => none

theorem rfdP : Fn Tryd.prog 60 [] [(24, 32)] sRFd := by
  refine Fn.plain (by kernel_rfl) (fun args h pre res h' hs => ?_) fun args h pre res h' hs hp ρ W us rel hus => ?_
  · unfold sRFd at hs
    split at hs
    · cases hs; exact ⟨rfl, Nat.le_refl _⟩
    · cases hs
  · unfold sRFd at hs
    split at hs
    rotate_left
    · cases hs
    rename_i a i leaf ty one m gets
    cases hs
    obtain ⟨h1, h2, h3, h4, h5⟩ := hp
    exact (rfdAll (m + 1)).run _ _ _ _ _ rfl ⟨h1, h2, h3, h4, Nat.lt_succ_self m, h5⟩ ρ W us rel hus
end Go.Proofs.YtophhppklaofaaaDoor.Vx
end
