/- Trees: folds, by the walker. -/
import Derived.Test.YtophhppklaofaaaDoorVTree5
namespace Go.Proofs.YtophhppklaofaaaDoor.Vx
open Go.RowKit Sha
set_option linter.unusedVariables false
set_option linter.unusedSimpArgs false
/-- The sum above leaves that comes of one of them, and of the sums beside. -/
def foldR (W : Nat → Nat → Int) (leaf : Nat → Int) : Nat → Int → Int → (Nat → Int)
  | 0, _, _ => leaf
  | k + 1, n, i => if i < hf n then nodeF (hashB (foldR W leaf k (hf n) i)) (hashB (W k)) else nodeF (hashB (W k)) (hashB (foldR W leaf k (n - hf n) (i - hf n)))
theorem foldR_congr {W W' : Nat → Nat → Int} (leaf : Nat → Int) : ∀ (k : Nat) (n i : Int), (∀ j, j < k → W j = W' j) → foldR W leaf k n i = foldR W' leaf k n i
  | 0, _, _, _ => rfl
  | k + 1, n, i, h => by
    unfold foldR
    rw [foldR_congr leaf k (hf n) i (fun j hj => h j (by omega)), foldR_congr leaf k (n - hf n) (i - hf n) (fun j hj => h j (by omega)), h k (by omega)]
theorem foldR_range {W : Nat → Nat → Int} {leaf : Nat → Int} (hl : ∀ j, 0 ≤ leaf j ∧ leaf j < 256) : ∀ (k : Nat) (n i : Int) (j : Nat), 0 ≤ foldR W leaf k n i j ∧ foldR W leaf k n i j < 256
  | 0, _, _, j => hl j
  | k + 1, n, i, j => by
    unfold foldR
    split <;> exact sumI_range _ j
theorem hf_in (n : Int) (h0 : 0 ≤ n) (h1 : n ≤ 1073741824) : 0 ≤ hf n ∧ hf n ≤ n := by
  by_cases h : n < 2
  · rw [hf_zero (Or.inl h)]; omega
  · have := hf_lt (n := n) (by omega) h1; omega
def foldG (get : Nat → List CV) (leaf : List CV) (k : Nat) (n i : Int) : Nat → Int := foldR (fun j => hOf (get j)) (hOf leaf) k n i
def foldPre (K : Nat) (gg sz n : Nat) (get : Nat → List CV) (ty one m : Nat) (gets : Nat → List CV) (leaf : List CV) (a i : Int) : Prop := KsAt gg sz n get ∧ ty = 24 ∧ one = 32 ∧ HashesAt m gets ∧ HashC leaf ∧ m < K ∧ m ≤ 1000000 ∧ 0 ≤ a ∧ a ≤ 1073741824 ∧ 0 ≤ i ∧ i ≤ 1073741824
def sFoldN (K : Nat) : SpecF
  | [.c (.int .i64 a), .c (.int .i64 i), .agg leaf, .c (.row 1)], [.glob gg sz n get, .elems ty one m gets] => some (foldPre K gg sz n get ty one m gets leaf a i, .agg (hashC (foldG gets leaf m a i)), [.dead, .dead])
  | _, _ => none

attribute [local cbv_opaque] hf hOf HashesAt sumPre KsAt joinG cutC sumI kOf HashC u8s nodeF nodePre foldG foldPre
set_option maxRecDepth 100000 in
set_option maxHeartbeats 8000000 in
theorem foldStep (K : Nat) (ih : Fn Tryd.prog 100 [0] [(24, 32)] (sFoldN K)) : Fn Tryd.prog 100 [0] [(24, 32)] (sFoldN (K + 1)) := by
  have hC : CtsOk Tryd.prog [(53, appPure sHalf), (100, appFn [0] [(24, 32)] (sFoldN K)), (56, appFn [0] [] sNode)] := CtsOk.cons (Pure.ct halfP) <| CtsOk.cons (Fn.ct ih) <| CtsOk.cons (Fn.ct nodeP) <| CtsOk.nil _
  refine Fn.of (E := tbH) [0] 0 [(5, [(2003, false), (0, true), (1, true), (2, true), (3, true), (4, true), (5, true), (7, true), (8, true), (9, true), (10, true), (6, false), (11, false), (12, false)]), (6, [(2003, false), (0, true), (1, true), (2, true), (3, true), (4, true), (5, true), (6, true), (7, true), (8, true), (9, true), (10, true), (11, true), (12, true), (13, true), (14, false), (15, false), (16, false)])] tbH_ok hC (by kernel_rfl) Tryd.func100 rfl rfl rfl (by kernel_rfl) (by kernel_rfl) 2 5 1 ?_ ?_
  · intro args h pre r h' hs
    unfold sFoldN at hs
    split at hs
    · cases hs; exact ⟨rfl, rfl, Nat.le_of_ble_eq_true rfl⟩
    · cases hs
  · intro args h pre r h' hs hp
    unfold sFoldN at hs
    split at hs
    rotate_left
    · cases hs
    rename_i a i leaf gg sz n get ty one m gets
    cases hs
    obtain ⟨hK, rfl, rfl, hst, ⟨f, rfl, hf_⟩, hlt, hm, a0, a1, i0, i1⟩ := hp
    refine ⟨[.glob 0 1 64 (fun i => [.int .u32 (kOf i)]), .elems 24 32 m (fun i => hashC (hOf (gets i)))], ⟨hK.same.1, hst.same.1, trivial⟩, ?_⟩
    clear hK
    unfold hashC
    unfold sFoldN sNode sHalf
    generalize hA : Arith.std = A
    set_option cbv.maxSteps 3000000 in cbv
    subst hA
    refine Ife.mk (fun h => ?_) (fun h => ?_)
    · have h : (m : Int) = 0 := of_decide_eq_true (p := (m : Int) = 0) h
      obtain rfl : m = 0 := by omega
      show ∃ σ, LeftF _ _ _ σ _ _ (.agg (hashC (hOf (hashC f)))) _
      exact ⟨[0, 1], ⟨rfl, by repeat' (first | exact trivial | exact rfl | apply And.intro), by decide, rfl, by repeat' (first | exact trivial | exact rfl | apply And.intro)⟩⟩
    have h0 : ¬ (m : Int) = 0 := of_decide_eq_false (p := (m : Int) = 0) h
    obtain ⟨k, rfl⟩ : ∃ k, m = k + 1 := ⟨m - 1, by omega⟩
    have hh := hf_in a a0 a1
    have kk : (((k + 1 : Nat) : Int) - 1 - 0).toNat = k := by omega
    have kl : (((k + 1 : Nat) : Int) - 1).toNat = k := by omega
    have cg : ∀ n j : Int, foldG (fun j => hashC (hOf (gets (0 + j)))) (hashC f) (((k + 1 : Nat) : Int) - 1 - 0).toNat n j = foldR (fun j => hOf (gets j)) (hOf (hashC f)) k n j := fun n j => by
      rw [kk]
      unfold foldG
      refine foldR_congr _ k n j fun j hj => ?_
      show hOf (hashC (hOf (gets (0 + j)))) = hOf (gets j)
      rw [Nat.zero_add]
      exact hOf_idem (hst j (by omega))
    have c1 : HashesAt (((k + 1 : Nat) : Int) - 1 - 0).toNat (fun j => hashC (hOf (gets (0 + j)))) := hst.cut 0 _ (by omega)
    have hL : HashC (hashC f) := ⟨_, rfl, hf_⟩
    have rg : ∀ n j : Int, HashC (hashC (foldG (fun j => hashC (hOf (gets (0 + j)))) (hashC f) (((k + 1 : Nat) : Int) - 1 - 0).toNat n j)) := fun n j => by
      rw [cg]
      exact ⟨_, rfl, foldR_range (fun j => hOf_range hL j) k n j⟩
    have rk : HashC (hashC (hOf (gets (((k + 1 : Nat) : Int) - 1).toNat))) := ⟨_, rfl, fun j => hOf_range (hst _ (by omega)) j⟩
    have fl : fitStd .i64 (((k + 1 : Nat) : Int) - 1) := by unfold fitStd; omega
    have n1 : (0 : Int) ≤ 0 ∧ (0 : Int) ≤ ((k + 1 : Nat) : Int) - 1 ∧ ((k + 1 : Nat) : Int) - 1 ≤ ((k + 1 : Nat) : Int) := by omega
    have n2 : (0 : Int) ≤ ((k + 1 : Nat) : Int) - 1 ∧ ((k + 1 : Nat) : Int) - 1 < ((k + 1 : Nat) : Int) := by omega
    have n3 : (((k + 1 : Nat) : Int) - 1).toNat < k + 1 := by omega
    refine Need.mk trivial fun _ => Need.mk fl fun _ => ?_
    refine Ife.mk (fun h => ?_) (fun h => ?_)
    · have h : i < hf a := of_decide_eq_true (p := i < hf a) h
      have p1 : foldPre K 0 1 64 (fun i => [.int .u32 (kOf i)]) 24 32 (((k + 1 : Nat) : Int) - 1 - 0).toNat (fun j => hashC (hOf (gets (0 + j)))) (hashC f) (hf a) i := ⟨ksAt_self, rfl, rfl, c1, hL, by omega, by omega, by omega, by omega, i0, i1⟩
      repeat (first | refine Need.mk n1 fun _ => ?_ | refine Need.mk n2 fun _ => ?_ | refine Need.mk n3 fun _ => ?_ | refine Need.mk p1 fun _ => ?_)
      refine Need.mk ⟨ksAt_self, rg (hf a) i, rk⟩ fun _ => ?_
      show ∃ σ, LeftF _ _ _ σ (.agg (hashC (nodeF (u8s (hashC (foldG (fun j => hashC (hOf (gets (0 + j)))) (hashC f) (((k + 1 : Nat) : Int) - 1 - 0).toNat (hf a) i))) (u8s (hashC (hOf (gets (((k + 1 : Nat) : Int) - 1).toNat))))))) _ (.agg (hashC (foldG gets (hashC f) (k + 1) a i))) _
      rw [cg, kl, show foldG gets (hashC f) (k + 1) a i = nodeF (hashB (foldR (fun j => hOf (gets j)) (hOf (hashC f)) k (hf a) i)) (hashB (hOf (gets k))) by unfold foldG; rw [foldR, if_pos h], u8s_hash, u8s_hash]
      exact ⟨[0, 1], ⟨rfl, by repeat' (first | exact trivial | exact rfl | apply And.intro), by decide, rfl, by repeat' (first | exact trivial | exact rfl | apply And.intro)⟩⟩
    · have h : ¬ i < hf a := of_decide_eq_false (p := i < hf a) h
      have p1 : foldPre K 0 1 64 (fun i => [.int .u32 (kOf i)]) 24 32 (((k + 1 : Nat) : Int) - 1 - 0).toNat (fun j => hashC (hOf (gets (0 + j)))) (hashC f) (a - hf a) (i - hf a) := ⟨ksAt_self, rfl, rfl, c1, hL, by omega, by omega, by omega, by omega, by omega, by omega⟩
      have n4 : fitStd .i64 (a - hf a) := by unfold fitStd; omega
      have n5 : fitStd .i64 (i - hf a) := by unfold fitStd; omega
      repeat (first | refine Need.mk n1 fun _ => ?_ | refine Need.mk n2 fun _ => ?_ | refine Need.mk n3 fun _ => ?_ | refine Need.mk n4 fun _ => ?_ | refine Need.mk n5 fun _ => ?_ | refine Need.mk p1 fun _ => ?_)
      refine Need.mk ⟨ksAt_self, rk, rg (a - hf a) (i - hf a)⟩ fun _ => ?_
      show ∃ σ, LeftF _ _ _ σ (.agg (hashC (nodeF (u8s (hashC (hOf (gets (((k + 1 : Nat) : Int) - 1).toNat)))) (u8s (hashC (foldG (fun j => hashC (hOf (gets (0 + j)))) (hashC f) (((k + 1 : Nat) : Int) - 1 - 0).toNat (a - hf a) (i - hf a))))))) _ (.agg (hashC (foldG gets (hashC f) (k + 1) a i))) _
      rw [cg, kl, show foldG gets (hashC f) (k + 1) a i = nodeF (hashB (hOf (gets k))) (hashB (foldR (fun j => hOf (gets j)) (hOf (hashC f)) k (a - hf a) (i - hf a))) by unfold foldG; rw [foldR, if_neg h], u8s_hash, u8s_hash]
      exact ⟨[0, 1], ⟨rfl, by repeat' (first | exact trivial | exact rfl | apply And.intro), by decide, rfl, by repeat' (first | exact trivial | exact rfl | apply And.intro)⟩⟩

theorem foldAll (K : Nat) : Fn Tryd.prog 100 [0] [(24, 32)] (sFoldN K) := by
  induction K with
  | zero =>
    refine ⟨by kernel_rfl, fun args h pre res h' hs => ?_, fun args h pre res h' hs hp ρ W us rel hus => ?_⟩
    · unfold sFoldN at hs
      split at hs
      · cases hs; exact ⟨rfl, Nat.le_refl _⟩
      · cases hs
    · unfold sFoldN at hs
      split at hs
      · cases hs; exact absurd hp.2.2.2.2.2.1 (Nat.not_lt_zero _)
      · cases hs
  | succ K ih => exact foldStep K ih
def foldPre0 (gg sz n : Nat) (get : Nat → List CV) (ty one m : Nat) (gets : Nat → List CV) (leaf : List CV) (a i : Int) : Prop := KsAt gg sz n get ∧ ty = 24 ∧ one = 32 ∧ HashesAt m gets ∧ HashC leaf ∧ m ≤ 1000000 ∧ 0 ≤ a ∧ a ≤ 1073741824 ∧ 0 ≤ i ∧ i ≤ 1073741824
def sFold0 : SpecF
  | [.c (.int .i64 a), .c (.int .i64 i), .agg leaf, .c (.row 1)], [.glob gg sz n get, .elems ty one m gets] => some (foldPre0 gg sz n get ty one m gets leaf a i, .agg (hashC (foldG gets leaf m a i)), [.dead, .dead])
  | _, _ => none

theorem fold0P : Fn Tryd.prog 100 [0] [(24, 32)] sFold0 := by
  refine ⟨by kernel_rfl, fun args h pre res h' hs => ?_, fun args h pre res h' hs hp ρ W us rel hus => ?_⟩
  · unfold sFold0 at hs
    split at hs
    · cases hs; exact ⟨rfl, Nat.le_refl _⟩
    · cases hs
  · unfold sFold0 at hs
    split at hs
    rotate_left
    · cases hs
    rename_i a i leaf gg sz n get ty one m gets
    cases hs
    obtain ⟨h1, h2, h3, h4, h5, h6, h7⟩ := hp
    exact (foldAll (m + 1)).run _ _ _ _ _ rfl ⟨h1, h2, h3, h4, h5, Nat.lt_succ_self m, h6, h7⟩ ρ W us rel hus
def fdB (m : Nat) (a i : Int) : Bool := inN a i && decide ((m : Int) = deep a i)
def fdH (gets : Nat → List CV) (leaf : List CV) (m : Nat) (a i : Int) : Nat → Int := if fdB m a i then foldG gets leaf m a i else fun _ => 0
def fdPre (gg sz n : Nat) (get : Nat → List CV) (ty one m : Nat) (gets : Nat → List CV) (leaf : List CV) : Prop := KsAt gg sz n get ∧ ty = 24 ∧ one = 32 ∧ HashesAt m gets ∧ HashC leaf ∧ m ≤ 1000000
attribute [local cbv_opaque] foldPre0 fdB fdH fdPre inN deep
def sFold : SpecF
  | [.c (.int .i64 a), .c (.int .i64 i), .agg leaf, .c (.row 1)], [.glob gg sz n get, .elems ty one m gets] => some (fdPre gg sz n get ty one m gets leaf, .tup [(none, hashC (fdH gets leaf m a i)), (some (.bool (fdB m a i)), [])], [.dead, .dead])
  | _, _ => none

set_option maxRecDepth 100000 in
set_option maxHeartbeats 8000000 in
theorem fdP : Fn Tryd.prog 58 [0] [(24, 32)] sFold := by
  have hC : CtsOk Tryd.prog [(99, appPure sIn), (54, appPure sDeep), (100, appFn [0] [(24, 32)] sFold0)] := CtsOk.cons (Pure.ct inP) <| CtsOk.cons (Pure.ct deepP) <| CtsOk.cons (Fn.ct fold0P) <| CtsOk.nil _
  refine Fn.of (E := tbH) [0] 0 [] tbH_ok hC (by kernel_rfl) Tryd.func58 rfl rfl rfl (by kernel_rfl) (by kernel_rfl) 2 5 1 ?_ ?_
  · intro args h pre r h' hs
    unfold sFold at hs
    split at hs
    · cases hs; exact ⟨rfl, rfl, Nat.le_of_ble_eq_true rfl⟩
    · cases hs
  · intro args h pre r h' hs hp
    unfold sFold at hs
    split at hs
    rotate_left
    · cases hs
    rename_i a i leaf gg sz n get ty one m gets
    cases hs
    obtain ⟨hK, rfl, rfl, hst, ⟨f, rfl, hf_⟩, hm⟩ := hp
    refine ⟨[.glob 0 1 64 (fun i => [.int .u32 (kOf i)]), .elems 24 32 m (fun i => hashC (hOf (gets i)))], ⟨hK.same.1, hst.same.1, trivial⟩, ?_⟩
    clear hK
    unfold hashC
    unfold sFold0 sIn sDeep
    generalize hA : Arith.std = A
    set_option cbv.maxSteps 3000000 in cbv
    subst hA
    have hL : HashC (hashC f) := ⟨_, rfl, hf_⟩
    refine Need.mk trivial fun _ => ?_
    refine Ife.mk (fun h => ?_) (fun h => ?_)
    · have h : inN a i = false := by
        have h6 : (!inN a i) = true := h
        simpa using h6
      have e : fdB m a i = false := by unfold fdB; rw [h]; rfl
      have e2 : fdH gets (hashC f) m a i = fun _ => 0 := by unfold fdH; rw [e]; rfl
      show ∃ σ, LeftF _ _ _ σ _ _ (.tup [(none, hashC (fdH gets (hashC f) m a i)), (some (.bool (fdB m a i)), [])]) _
      rw [e, e2]
      exact ⟨[0, 1], ⟨rfl, by repeat' (first | exact trivial | exact rfl | apply And.intro), by decide, rfl, by repeat' (first | exact trivial | exact rfl | apply And.intro)⟩⟩
    have h1 : inN a i = true := by
      have h6 : (!inN a i) = false := h
      simpa using h6
    obtain ⟨b1, b2, b3⟩ := inN_iff.1 h1
    refine Need.mk trivial fun _ => ?_
    refine Ife.mk (fun h => ?_) (fun h => ?_)
    · have h : ¬ (m : Int) = deep a i := by
        have h6 : (!decide ((m : Int) = deep a i)) = true := h
        simpa using h6
      have e : fdB m a i = false := by unfold fdB; rw [h1]; simp [h]
      have e2 : fdH gets (hashC f) m a i = fun _ => 0 := by unfold fdH; rw [e]; rfl
      show ∃ σ, LeftF _ _ _ σ _ _ (.tup [(none, hashC (fdH gets (hashC f) m a i)), (some (.bool (fdB m a i)), [])]) _
      rw [e, e2]
      exact ⟨[0, 1], ⟨rfl, by repeat' (first | exact trivial | exact rfl | apply And.intro), by decide, rfl, by repeat' (first | exact trivial | exact rfl | apply And.intro)⟩⟩
    have h : (m : Int) = deep a i := by
      have h6 : (!decide ((m : Int) = deep a i)) = false := h
      simpa using h6
    have e : fdB m a i = true := by unfold fdB; rw [h1]; simp [h]
    have c1 : HashesAt m (fun i => hashC (hOf (gets i))) := fun j hj => ⟨_, rfl, hOf_range (hst j hj)⟩
    have e3 : foldG (fun i => hashC (hOf (gets i))) (hashC f) m a i = fdH gets (hashC f) m a i := by
      unfold fdH foldG
      rw [e, if_pos rfl]
      exact foldR_congr _ m a i fun j hj => hOf_idem (hst j hj)
    refine Need.mk ⟨ksAt_self, rfl, rfl, c1, hL, hm, by omega, by omega, by omega, by omega⟩ fun _ => ?_
    show ∃ σ, LeftF _ _ _ σ (.tup [(none, hashC (foldG (fun i => hashC (hOf (gets i))) (hashC f) m a i)), (some .tt, [])]) _ (.tup [(none, hashC (fdH gets (hashC f) m a i)), (some (.bool (fdB m a i)), [])]) _
    rw [e3, e]
    exact ⟨[0, 1], ⟨rfl, by repeat' (first | exact trivial | exact rfl | apply And.intro), by decide, rfl, by repeat' (first | exact trivial | exact rfl | apply And.intro)⟩⟩

end Go.Proofs.YtophhppklaofaaaDoor.Vx
