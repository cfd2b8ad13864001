/- Trees: tops, by the walker. -/
import Derived.Test.YtophhppklaofaaaDoorVTree2
namespace Go.Proofs.YtophhppklaofaaaDoor.Vx
open Go.RowKit Sha
set_option linter.unusedVariables false
set_option linter.unusedSimpArgs false
def tbH : Tbl where
  T :=
    (3, ⟨1, false, [.int .i64 (0)], .int .i64, 8⟩) ::
    (4, ⟨1, false, [.ff], .bool, 1⟩) ::
    (9, ⟨1, false, [.str []], .str, 16⟩) ::
    (5, ⟨1, false, [.int .u8 (0)], .int .u8, 1⟩) ::
    (93, ⟨1, false, [.int .u64 (0)], .int .u64, 8⟩) ::
    (89, ⟨1, false, [.int .u64 (0)], .int .u64, 8⟩) ::
    (44, ⟨1, false, [.val (.slice none 0 0)], .slice 5, 24⟩) ::
    (27, ⟨1, false, [.val (.slice none 0 0)], .slice 9, 24⟩) ::
    (129, ⟨8, true, [.int .u8 (0), .int .u8 (0), .int .u8 (0), .int .u8 (0), .int .u8 (0), .int .u8 (0), .int .u8 (0), .int .u8 (0)], .array 8 5, 8⟩) ::
    (36, ⟨1, false, [.int .i64 (0)], .int .i64, 8⟩) ::
    (24, ⟨32, true, [.int .u8 (0), .int .u8 (0), .int .u8 (0), .int .u8 (0), .int .u8 (0), .int .u8 (0), .int .u8 (0), .int .u8 (0), .int .u8 (0), .int .u8 (0), .int .u8 (0), .int .u8 (0), .int .u8 (0), .int .u8 (0), .int .u8 (0), .int .u8 (0), .int .u8 (0), .int .u8 (0), .int .u8 (0), .int .u8 (0), .int .u8 (0), .int .u8 (0), .int .u8 (0), .int .u8 (0), .int .u8 (0), .int .u8 (0), .int .u8 (0), .int .u8 (0), .int .u8 (0), .int .u8 (0), .int .u8 (0), .int .u8 (0)], .array 32 5, 32⟩) ::
    (71, ⟨1, false, [.val (.slice none 0 0)], .slice 24, 24⟩) ::
    []
  F :=
    (24, [0, 0, 0, 0, 0, 0, 0, 0, 0, 0, 0, 0, 0, 0, 0, 0, 0, 0, 0, 0, 0, 0, 0, 0, 0, 0, 0, 0, 0, 0, 0, 0]) ::
    []
  sym := true

theorem tbH_ok : tbH.Ok Tryd.prog where
  T :=
    TblOk.cons (by kernel_rfl) <|
    TblOk.cons (by kernel_rfl) <|
    TblOk.cons (by kernel_rfl) <|
    TblOk.cons (by kernel_rfl) <|
    TblOk.cons (by kernel_rfl) <|
    TblOk.cons (by kernel_rfl) <|
    TblOk.cons (by kernel_rfl) <|
    TblOk.cons (by kernel_rfl) <|
    TblOk.cons (by kernel_rfl) <|
    TblOk.cons (by kernel_rfl) <|
    TblOk.cons (by kernel_rfl) <|
    TblOk.cons (by kernel_rfl) <|
    TblOk.nil _
  F :=
    FlatsOk.cons (FlatOk.of (D := .array 32 5) 6 (by decide) (by kernel_rfl) (by kernel_rfl) rfl (by kernel_rfl)) <|
    FlatsOk.nil _

/-- The sum of two sums. -/
def nodeF (a b : List UInt8) : Nat → Int := sumI ([1] ++ a ++ b)
def nodePre (gg sz n : Nat) (get : Nat → List CV) (xs ys : List CV) : Prop := KsAt gg sz n get ∧ HashC xs ∧ HashC ys
def sNode : SpecF
  | [.agg xs, .agg ys], [.glob gg sz n get] => some (nodePre gg sz n get xs ys, .agg (hashC (nodeF (u8s xs) (u8s ys))), [.dead])
  | _, _ => none

attribute [local cbv_opaque] sumPre KsAt joinG cutC sumI kOf HashC u8s nodeF nodePre
set_option maxRecDepth 100000 in
set_option maxHeartbeats 4000000 in
theorem nodeP : Fn Tryd.prog 56 [0] [] sNode := by
  have hC : CtsOk Tryd.prog [(21, appPure sText), (17, appFn [0] [(9, 1)] sSum)] := CtsOk.cons (Pure.ct textP) <| CtsOk.cons (Fn.ct sumP) <| CtsOk.nil _
  refine Fn.of (E := tbH) [0] 0 [(1, [(2003, false), (0, true), (2, true), (1, false), (3, false), (4, false), (5, false), (6, false)])] tbH_ok hC (by kernel_rfl) Tryd.func56 rfl rfl rfl (by kernel_rfl) (by kernel_rfl) 1 5 1 ?_ ?_
  · intro args h pre r h' hs
    unfold sNode at hs
    split at hs
    · cases hs; exact ⟨rfl, rfl, Nat.le_of_ble_eq_true rfl⟩
    · cases hs
  · intro args h pre r h' hs hp
    unfold sNode at hs
    split at hs
    rotate_left
    · cases hs
    rename_i xs ys gg sz n get
    cases hs
    obtain ⟨hK, ⟨f, rfl, hf⟩, ⟨g, rfl, hg⟩⟩ := hp
    refine ⟨_, hK.same, ?_⟩
    clear hK
    unfold hashC
    unfold sSum sText
    generalize hA : Arith.std = A
    set_option cbv.maxSteps 2000000 in cbv
    subst hA
    have j1 := (strs_cut [[1], u8s (hashC f), u8s (hashC g)]).2
    have f1 : [[1], u8s (hashC f), u8s (hashC g)].flatten = [1] ++ u8s (hashC f) ++ u8s (hashC g) := by simp
    have p1 := sumPre_cut [[1], u8s (hashC f), u8s (hashC g)] (by rw [f1]; show ([1] ++ hashB f ++ hashB g).length ≤ _; rw [List.length_append, List.length_append, hashB_len, hashB_len]; show 1 + 32 + 32 ≤ _; decide) (by show 3 ≤ 1000; decide)
    refine Need.mk ⟨f, rfl, hf⟩ fun _ => Need.mk ⟨g, rfl, hg⟩ fun _ => Need.mk p1 fun _ => ?_
    show ∃ σ, LeftF _ _ _ σ (.agg (hashC (sumI (joinG 3 (cutC 1 ([[1], u8s (hashC f), u8s (hashC g)].map CV.str) 0))))) _ (.agg (hashC (nodeF (u8s (hashC f)) (u8s (hashC g))))) _
    rw [show joinG 3 (cutC 1 ([[1], u8s (hashC f), u8s (hashC g)].map CV.str) 0) = [1] ++ u8s (hashC f) ++ u8s (hashC g) from j1.trans f1]
    exact ⟨[0], ⟨rfl, by repeat' (first | exact trivial | exact rfl | apply And.intro), by decide, rfl, by repeat' (first | exact trivial | exact rfl | apply And.intro)⟩⟩

/-- The bytes of a sum's cells. -/
def hOf (cs : List CV) (j : Nat) : Int := match cs[j]? with
  | some (.int .u8 v) => v
  | _ => 0
theorem hOf_hash (f : Nat → Int) : hashC (hOf (hashC f)) = hashC f := rfl
/-- What stands above leaves. -/
def topR (h : Nat → Nat → Int) (lo n : Nat) : Nat → Int :=
  if hn : n < 2 ∨ 1073741824 < n then (if n = 0 then fun _ => 0 else h lo)
  else nodeF (hashB (topR h lo (hf n).toNat)) (hashB (topR h (lo + (hf n).toNat) (n - (hf n).toNat)))
termination_by n
decreasing_by
  · have := hf_lt (n := (n : Int)) (by omega) (by omega); omega
  · have := hf_lt (n := (n : Int)) (by omega) (by omega); omega
theorem topR_shift (h : Nat → Nat → Int) (a : Nat) : ∀ (n lo : Nat), topR (fun i => h (a + i)) lo n = topR h (a + lo) n := by
  intro n
  induction n using Nat.strongRecOn with
  | ind n ih =>
    intro lo
    rw [topR.eq_def (fun i => h (a + i)), topR.eq_def h]
    by_cases hn : n < 2 ∨ 1073741824 < n
    · rw [dif_pos hn, dif_pos hn]
    · rw [dif_neg hn, dif_neg hn]
      have hh := hf_lt (n := (n : Int)) (by omega) (by omega)
      rw [ih (hf n).toNat (by omega) lo, ih (n - (hf n).toNat) (by omega) (lo + (hf n).toNat), Nat.add_assoc]
theorem topR_congr {h h' : Nat → Nat → Int} : ∀ (n lo : Nat), (∀ i, lo ≤ i → i < lo + n → h i = h' i) → topR h lo n = topR h' lo n := by
  intro n
  induction n using Nat.strongRecOn with
  | ind n ih =>
    intro lo hc
    rw [topR.eq_def h, topR.eq_def h']
    by_cases hn : n < 2 ∨ 1073741824 < n
    · rw [dif_pos hn, dif_pos hn]
      by_cases h0 : n = 0
      · rw [if_pos h0, if_pos h0]
      · rw [if_neg h0, if_neg h0, hc lo (Nat.le_refl _) (by omega)]
    · rw [dif_neg hn, dif_neg hn]
      have hh := hf_lt (n := (n : Int)) (by omega) (by omega)
      rw [ih (hf n).toNat (by omega) lo (fun i h1 h2 => hc i h1 (by omega)), ih (n - (hf n).toNat) (by omega) (lo + (hf n).toNat) (fun i h1 h2 => hc i (by omega) (by omega))]
theorem topR_range {h : Nat → Nat → Int} : ∀ (n lo : Nat), (∀ i, lo ≤ i → i < lo + n → ∀ j, 0 ≤ h i j ∧ h i j < 256) → ∀ j, 0 ≤ topR h lo n j ∧ topR h lo n j < 256 := by
  intro n lo hc j
  rw [topR.eq_def h]
  by_cases hn : n < 2 ∨ 1073741824 < n
  · rw [dif_pos hn]
    by_cases h0 : n = 0
    · rw [if_pos h0]; decide
    · rw [if_neg h0]; exact hc lo (Nat.le_refl _) (by omega) j
  · rw [dif_neg hn]
    exact sumI_range _ j
theorem hOf_at (f : Nat → Int) (j : Nat) : hOf (hashC f) j = if j < 32 then f j else 0 := by
  have e : hashC f = (List.range 32).map fun i => CV.int .u8 (f i) := rfl
  unfold hOf
  rw [e, List.getElem?_map]
  by_cases h : j < 32
  · rw [List.getElem?_range h, if_pos h]; rfl
  · rw [List.getElem?_eq_none (by rw [List.length_range]; omega), if_neg h]; rfl
theorem hOf_range {cs : List CV} (h : HashC cs) (j : Nat) : 0 ≤ hOf cs j ∧ hOf cs j < 256 := by
  obtain ⟨f, rfl, hf⟩ := h
  rw [hOf_at]
  split
  · exact hf j
  · decide
theorem hOf_idem {cs : List CV} (h : HashC cs) : hOf (hashC (hOf cs)) = hOf cs := by
  obtain ⟨f, rfl, _⟩ := h
  funext j
  rw [hOf_at, hOf_at]
  split <;> rfl
def topG (get : Nat → List CV) (n : Nat) : Nat → Int := topR (fun i => hOf (get i)) 0 n
def HashesAt (n : Nat) (get : Nat → List CV) : Prop := ∀ i, i < n → HashC (get i)
theorem HashesAt.same {n : Nat} {get : Nat → List CV} {ty : Nat} (h : HashesAt n get) : hSame [.elems ty 32 n get] [.elems ty 32 n (fun i => hashC (hOf (get i)))] := by
  refine ⟨⟨rfl, rfl, rfl, fun i hi => ?_⟩, trivial⟩
  obtain ⟨f, hf, _⟩ := h i hi
  show get i = hashC (hOf (get i))
  rw [hf]
  rfl
theorem topG_cut {gets : Nat → List CV} {m : Nat} (h : HashesAt m gets) (a k : Nat) (hk : a + k ≤ m) : topG (fun i => hashC (hOf (gets (a + i)))) k = topR (fun i => hOf (gets i)) a k := by
  unfold topG
  have := topR_shift (fun i => hOf (gets i)) a k 0
  rw [Nat.add_zero] at this
  rw [← this]
  refine topR_congr k 0 fun i _ hi => ?_
  exact hOf_idem (h (a + i) (by omega))
theorem topG_two {gets : Nat → List CV} {m : Nat} (h2 : 2 ≤ m) (h3 : m ≤ 1073741824) : topG gets m = nodeF (hashB (topR (fun i => hOf (gets i)) 0 (hf m).toNat)) (hashB (topR (fun i => hOf (gets i)) (hf m).toNat (m - (hf m).toNat))) := by
  unfold topG
  rw [topR, dif_neg (by omega), Nat.zero_add]
theorem topG_zero (gets : Nat → List CV) : topG gets 0 = fun _ => 0 := by
  unfold topG
  rw [topR, dif_pos (by omega), if_pos rfl]
theorem topG_one (gets : Nat → List CV) : topG gets 1 = hOf (gets 0) := by
  unfold topG
  rw [topR, dif_pos (by omega), if_neg (by decide)]
theorem topG_hash {gets : Nat → List CV} {m : Nat} (h : HashesAt m gets) (a k : Nat) (hk : a + k ≤ m) : HashC (hashC (topR (fun i => hOf (gets i)) a k)) := ⟨_, rfl, topR_range k a fun i _ hi j => hOf_range (h i (by omega)) j⟩
theorem HashesAt.cut {gets : Nat → List CV} {m : Nat} (h : HashesAt m gets) (a k : Nat) (hk : a + k ≤ m) : HashesAt k (fun i => hashC (hOf (gets (a + i)))) := fun i hi => ⟨_, rfl, hOf_range (h (a + i) (by omega))⟩
def topPre (N : Nat) (gg sz n : Nat) (get : Nat → List CV) (ty one m : Nat) (gets : Nat → List CV) : Prop := KsAt gg sz n get ∧ ty = 24 ∧ one = 32 ∧ HashesAt m gets ∧ m < N ∧ m ≤ 1073741824
def sTopN (N : Nat) : SpecF
  | [.c (.row 1)], [.glob gg sz n get, .elems ty one m gets] => some (topPre N gg sz n get ty one m gets, .agg (hashC (topG gets m)), [.dead, .dead])
  | _, _ => none

attribute [local cbv_opaque] hf hOf topG topPre HashesAt
set_option maxRecDepth 100000 in
set_option maxHeartbeats 8000000 in
theorem topStep (N : Nat) (ih : Fn Tryd.prog 55 [0] [(24, 32)] (sTopN N)) : Fn Tryd.prog 55 [0] [(24, 32)] (sTopN (N + 1)) := by
  have hC : CtsOk Tryd.prog [(53, appPure sHalf), (55, appFn [0] [(24, 32)] (sTopN N)), (56, appFn [0] [] sNode)] := CtsOk.cons (Pure.ct halfP) <| CtsOk.cons (Fn.ct ih) <| CtsOk.cons (Fn.ct nodeP) <| CtsOk.nil _
  refine Fn.of (E := tbH) [0] 0 [(7, [(2002, false), (0, true), (1, true), (2, true), (4, true), (5, true), (6, true), (3, false), (7, false), (8, false), (9, false)])] tbH_ok hC (by kernel_rfl) Tryd.func55 rfl rfl rfl (by kernel_rfl) (by kernel_rfl) 2 5 1 ?_ ?_
  · intro args h pre r h' hs
    unfold sTopN at hs
    split at hs
    · cases hs; exact ⟨rfl, rfl, Nat.le_of_ble_eq_true rfl⟩
    · cases hs
  · intro args h pre r h' hs hp
    unfold sTopN at hs
    split at hs
    rotate_left
    · cases hs
    rename_i gg sz n get ty one m gets
    cases hs
    obtain ⟨hK, rfl, rfl, hst, hlt, hm⟩ := hp
    refine ⟨[.glob 0 1 64 (fun i => [.int .u32 (kOf i)]), .elems 24 32 m (fun i => hashC (hOf (gets i)))], ⟨hK.same.1, hst.same.1, trivial⟩, ?_⟩
    clear hK
    unfold sTopN sNode sHalf
    generalize hA : Arith.std = A
    set_option cbv.maxSteps 2000000 in cbv
    subst hA
    refine Ife.mk (fun h => ?_) (fun h => ?_)
    · have h : (m : Int) = 0 := of_decide_eq_true (p := (m : Int) = 0) h
      obtain rfl : m = 0 := by omega
      rw [topG_zero]
      exact ⟨[0, 1], ⟨rfl, by repeat' (first | exact trivial | exact rfl | apply And.intro), by decide, rfl, by repeat' (first | exact trivial | exact rfl | apply And.intro)⟩⟩
    have h0 : ¬ (m : Int) = 0 := of_decide_eq_false (p := (m : Int) = 0) h
    refine Ife.mk (fun h => ?_) (fun h => ?_)
    · have h : (m : Int) = 1 := of_decide_eq_true (p := (m : Int) = 1) h
      obtain rfl : m = 1 := by omega
      rw [topG_one]
      refine Need.mk (by show (0 : Int) ≤ 0 ∧ (0 : Int) < ((1 : Nat) : Int); decide) fun _ => Need.mk (by show (0 : Int).toNat < 1; decide) fun _ => ?_
      exact ⟨[0, 1], ⟨rfl, by repeat' (first | exact trivial | exact rfl | apply And.intro), by decide, rfl, by repeat' (first | exact trivial | exact rfl | apply And.intro)⟩⟩
    have h1 : ¬ (m : Int) = 1 := of_decide_eq_false (p := (m : Int) = 1) h
    have hh := hf_lt (n := (m : Int)) (by omega) (by omega)
    have e1 : topG (fun i => hashC (hOf (gets (0 + i)))) (hf (m : Int) - 0).toNat = topR (fun i => hOf (gets i)) 0 (hf (m : Int)).toNat := by
      rw [show (hf (m : Int) - 0).toNat = (hf (m : Int)).toNat by omega]
      exact topG_cut hst 0 _ (by omega)
    have e2 : topG (fun i => hashC (hOf (gets ((hf (m : Int)).toNat + i)))) ((m : Int) - hf (m : Int)).toNat = topR (fun i => hOf (gets i)) (hf (m : Int)).toNat (m - (hf (m : Int)).toNat) := by
      rw [show ((m : Int) - hf (m : Int)).toNat = m - (hf (m : Int)).toNat by omega]
      exact topG_cut hst _ _ (by omega)
    refine Need.mk trivial fun _ => Need.mk (by show (0 : Int) ≤ 0 ∧ 0 ≤ hf (m : Int) ∧ hf (m : Int) ≤ (m : Int); omega) fun _ => Need.mk (by show 0 ≤ hf (m : Int) ∧ hf (m : Int) ≤ (m : Int) ∧ (m : Int) ≤ (m : Int); omega) fun _ => ?_
    refine Need.mk ⟨ksAt_self, rfl, rfl, hst.cut 0 (hf (m : Int) - 0).toNat (by omega), (by show (hf (m : Int) - 0).toNat < N; omega), (by show (hf (m : Int) - 0).toNat ≤ 1073741824; omega)⟩ fun _ => ?_
    refine Need.mk ⟨ksAt_self, rfl, rfl, hst.cut (hf (m : Int)).toNat ((m : Int) - hf (m : Int)).toNat (by omega), (by show ((m : Int) - hf (m : Int)).toNat < N; omega), (by show ((m : Int) - hf (m : Int)).toNat ≤ 1073741824; omega)⟩ fun _ => ?_
    refine Need.mk ⟨ksAt_self, (show HashC (hashC (topG (fun i => hashC (hOf (gets (0 + i)))) (hf (m : Int) - 0).toNat)) from by rw [e1]; exact topG_hash hst 0 _ (by omega)), (show HashC (hashC (topG (fun i => hashC (hOf (gets ((hf (m : Int)).toNat + i)))) ((m : Int) - hf (m : Int)).toNat)) from by rw [e2]; exact topG_hash hst _ _ (by omega))⟩ fun _ => ?_
    show ∃ σ, LeftF _ _ _ σ (.agg (hashC (nodeF (u8s (hashC (topG (fun i => hashC (hOf (gets (0 + i)))) (hf (m : Int) - 0).toNat))) (u8s (hashC (topG (fun i => hashC (hOf (gets ((hf (m : Int)).toNat + i)))) ((m : Int) - hf (m : Int)).toNat)))))) _ (.agg (hashC (topG gets m))) _
    rw [e1, e2, topG_two (by omega) hm, u8s_hash, u8s_hash]
    exact ⟨[0, 1], ⟨rfl, by repeat' (first | exact trivial | exact rfl | apply And.intro), by decide, rfl, by repeat' (first | exact trivial | exact rfl | apply And.intro)⟩⟩

theorem topAll (N : Nat) : Fn Tryd.prog 55 [0] [(24, 32)] (sTopN N) := by
  induction N with
  | zero =>
    refine ⟨by kernel_rfl, fun args h pre res h' hs => ?_, fun args h pre res h' hs hp ρ W us rel hus => ?_⟩
    · unfold sTopN at hs
      split at hs
      · cases hs; exact ⟨rfl, Nat.le_refl _⟩
      · cases hs
    · unfold sTopN at hs
      split at hs
      · cases hs; exact absurd hp.2.2.2.2.1 (Nat.not_lt_zero _)
      · cases hs
  | succ N ih => exact topStep N ih
def topPre0 (gg sz n : Nat) (get : Nat → List CV) (ty one m : Nat) (gets : Nat → List CV) : Prop := KsAt gg sz n get ∧ ty = 24 ∧ one = 32 ∧ HashesAt m gets ∧ m ≤ 1073741824
def sTop : SpecF
  | [.c (.row 1)], [.glob gg sz n get, .elems ty one m gets] => some (topPre0 gg sz n get ty one m gets, .agg (hashC (topG gets m)), [.dead, .dead])
  | _, _ => none

theorem topP : Fn Tryd.prog 55 [0] [(24, 32)] sTop := by
  refine ⟨by kernel_rfl, fun args h pre res h' hs => ?_, fun args h pre res h' hs hp ρ W us rel hus => ?_⟩
  · unfold sTop at hs
    split at hs
    · cases hs; exact ⟨rfl, Nat.le_refl _⟩
    · cases hs
  · unfold sTop at hs
    split at hs
    rotate_left
    · cases hs
    rename_i gg sz n get ty one m gets
    cases hs
    obtain ⟨h1, h2, h3, h4, h5⟩ := hp
    exact (topAll (m + 1)).run _ _ _ _ _ rfl ⟨h1, h2, h3, h4, Nat.lt_succ_self m, h5⟩ ρ W us rel hus
end Go.Proofs.YtophhppklaofaaaDoor.Vx
