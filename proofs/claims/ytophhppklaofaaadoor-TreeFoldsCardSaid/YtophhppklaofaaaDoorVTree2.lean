/- Trees: roots; the law TreeDeep, by the walker. -/
import Derived.Test.YtophhppklaofaaaDoorVTree
namespace Go.Proofs.YtophhppklaofaaaDoor.Vx
open Go.RowKit Sha
set_option linter.unusedVariables false
set_option linter.unusedSimpArgs false
/-- The sum of how many leaves there are, and of what stands above them. -/
def rootF (n : Int) (t : List UInt8) (j : Nat) : Int := if n < 0 ∨ 1073741824 < n then 0 else sumI ([2] ++ be8 n ++ t) j
theorem rootF_out {n : Int} (t : List UInt8) (h : n < 0 ∨ 1073741824 < n) : rootF n t = fun _ => 0 := by funext j; unfold rootF; rw [if_pos h]
theorem rootF_in {n : Int} (t : List UInt8) (h : ¬ (n < 0 ∨ 1073741824 < n)) : rootF n t = sumI ([2] ++ be8 n ++ t) := by funext j; unfold rootF; rw [if_neg h]
def rootPre (gg sz n : Nat) (get : Nat → List CV) (xs : List CV) : Prop := KsAt gg sz n get ∧ HashC xs
def sRoot : SpecF
  | [.c (.int .i64 m), .agg xs], [.glob gg sz n get] => some (rootPre gg sz n get xs, .agg (hashC (rootF m (u8s xs))), [.dead])
  | _, _ => none

set_option maxRecDepth 100000 in
set_option maxHeartbeats 4000000 in
theorem rootP : Fn Tryd.prog 64 [0] [] sRoot := by
  have hC : CtsOk Tryd.prog [(84, appPure sEight), (21, appPure sText), (17, appFn [0] [(9, 1)] sSum)] := CtsOk.cons (Pure.ct leightP) <| CtsOk.cons (Pure.ct textP) <| CtsOk.cons (Fn.ct sumP) <| CtsOk.nil _
  refine Fn.of (E := tbT) [0] 0 [(3, [(2002, false), (0, true), (2, true), (1, false), (3, false), (4, false), (5, false), (6, false)])] tbT_ok hC (by kernel_rfl) Tryd.func64 rfl rfl rfl (by kernel_rfl) (by kernel_rfl) 1 5 1 ?_ ?_
  · intro args h pre r h' hs
    unfold sRoot at hs
    split at hs
    · cases hs; exact ⟨rfl, rfl, Nat.le_of_ble_eq_true rfl⟩
    · cases hs
  · intro args h pre r h' hs hp
    unfold sRoot at hs
    split at hs
    rotate_left
    · cases hs
    rename_i m xs gg sz n get
    cases hs
    obtain ⟨hK, ⟨f, rfl, hf⟩⟩ := hp
    refine ⟨_, hK.same, ?_⟩
    clear hK
    unfold hashC
    unfold sSum sEight sText
    generalize hg0 : sumPre = g0
    generalize hg1 : KsAt = g1
    generalize hg2 : joinG = g2
    generalize hg3 : cutC = g3
    generalize hg4 : sumI = g4
    generalize hg5 : kOf = g5
    generalize hg6 : HashC = g6
    generalize hg7 : u8s = g7
    generalize hg8 : be8 = g8
    generalize hg9 : eightPre = g9
    generalize hg10 : rootF = g10
    generalize hg11 : rootPre = g11
    generalize hg12 : (List.length : List UInt8 → Nat) = g12
    generalize hA : Arith.std = A
    set_option cbv.maxSteps 2000000 in cbv
    subst hA hg0 hg1 hg2 hg3 hg4 hg5 hg6 hg7 hg8 hg9 hg10 hg11 hg12
    refine Ife.mk (fun h => ?_) (fun h => ?_)
    · have h : m < 0 := of_decide_eq_true (p := m < 0) h
      have e := rootF_out (u8s (hashC f)) (Or.inl h : m < 0 ∨ 1073741824 < m)
      show ∃ σ, LeftF _ _ _ σ _ _ (.agg (hashC (rootF m (u8s (hashC f))))) _
      rw [e]
      exact ⟨[0], ⟨rfl, by repeat' (first | exact trivial | exact rfl | apply And.intro), by decide, rfl, by repeat' (first | exact trivial | exact rfl | apply And.intro)⟩⟩
    have h1 : ¬ m < 0 := of_decide_eq_false (p := m < 0) h
    refine Ife.mk (fun h => ?_) (fun h => ?_)
    · have h : 1073741824 < m := of_decide_eq_true (p := 1073741824 < m) h
      have e := rootF_out (u8s (hashC f)) (Or.inr h : m < 0 ∨ 1073741824 < m)
      show ∃ σ, LeftF _ _ _ σ _ _ (.agg (hashC (rootF m (u8s (hashC f))))) _
      rw [e]
      exact ⟨[0], ⟨rfl, by repeat' (first | exact trivial | exact rfl | apply And.intro), by decide, rfl, by repeat' (first | exact trivial | exact rfl | apply And.intro)⟩⟩
    have h2 : ¬ 1073741824 < m := of_decide_eq_false (p := 1073741824 < m) h
    have e := rootF_in (u8s (hashC f)) (show ¬ (m < 0 ∨ 1073741824 < m) by omega)
    have j1 := (strs_cut [[2], be8 m, u8s (hashC f)]).2
    have f1 : [[2], be8 m, u8s (hashC f)].flatten = [2] ++ be8 m ++ u8s (hashC f) := by simp
    have p1 := sumPre_cut [[2], be8 m, u8s (hashC f)] (by rw [f1]; show ([2] ++ be8 m ++ hashB f).length ≤ _; rw [List.length_append, List.length_append, hashB_len]; show 1 + 8 + 32 ≤ _; decide) (by show 3 ≤ 1000; decide)
    refine Need.mk ⟨by omega, by omega⟩ fun _ => Need.mk ⟨f, rfl, hf⟩ fun _ => Need.mk p1 fun _ => ?_
    show ∃ σ, LeftF _ _ _ σ (.agg (hashC (sumI (joinG 3 (cutC 1 ([[2], be8 m, u8s (hashC f)].map CV.str) 0))))) _ (.agg (hashC (rootF m (u8s (hashC f))))) _
    rw [e, show joinG 3 (cutC 1 ([[2], be8 m, u8s (hashC f)].map CV.str) 0) = [2] ++ be8 m ++ u8s (hashC f) from j1.trans f1]
    exact ⟨[0], ⟨rfl, by repeat' (first | exact trivial | exact rfl | apply And.intro), by decide, rfl, by repeat' (first | exact trivial | exact rfl | apply And.intro)⟩⟩

def sRRoot : List SV → Option (Prop × SV)
  | [.c (.int .i64 m), .agg xs] => some (HashC xs, .agg (hashC (rootF m (u8s xs))))
  | _ => none

set_option maxRecDepth 100000 in
set_option maxHeartbeats 4000000 in
theorem rrootP : Pure Tryd.prog 65 sRRoot := by
  have hC : CtsOk Tryd.prog [(43, appPure sREight), (19, appPure sRSum), (22, appPure sText)] := CtsOk.cons (Pure.ct eightP) <| CtsOk.cons (Pure.ct rsumP) <| CtsOk.cons (Pure.ct rtextP) <| CtsOk.nil _
  refine Pure.of (E := tbT) (C := [(43, appPure sREight), (19, appPure sRSum), (22, appPure sText)]) [] 0 [(3, [(2001, false), (0, true), (3, true), (1, false), (2, true), (4, false), (5, true), (6, false), (7, false)])] tbT_ok hC (by kernel_rfl) Tryd.func65 rfl rfl rfl (by kernel_rfl) (by kernel_rfl) ?_ ?_
  · intro args pre r h
    unfold sRRoot at h
    split at h
    · cases h; rfl
    · cases h
  · intro args pre r h hp
    unfold sRRoot at h
    split at h
    rotate_left
    · cases h
    rename_i m xs
    cases h
    obtain ⟨f, rfl, hf⟩ := hp
    unfold hashC
    unfold sREight sRSum sText
    generalize hg0 : rsumPre = g0
    generalize hg1 : sumI = g1
    generalize hg2 : HashC = g2
    generalize hg3 : u8s = g3
    generalize hg4 : be8 = g4
    generalize hg5 : eightPre = g5
    generalize hg6 : rootF = g6
    generalize hg7 : (List.length : List UInt8 → Nat) = g7
    generalize hA : Arith.std = A
    set_option cbv.maxSteps 2000000 in cbv
    subst hA hg0 hg1 hg2 hg3 hg4 hg5 hg6 hg7
    refine Ife.mk (fun h => ?_) (fun h => ?_)
    · have h : m < 0 := of_decide_eq_true (p := m < 0) h
      have e := rootF_out (u8s (hashC f)) (Or.inl h : m < 0 ∨ 1073741824 < m)
      have e2 : ∀ j, 0 = rootF m (u8s (hashC f)) j := fun j => by rw [e]
      repeat' (first | exact trivial | exact e2 _ | apply And.intro)
    have h1 : ¬ m < 0 := of_decide_eq_false (p := m < 0) h
    refine Ife.mk (fun h => ?_) (fun h => ?_)
    · have h : 1073741824 < m := of_decide_eq_true (p := 1073741824 < m) h
      have e := rootF_out (u8s (hashC f)) (Or.inr h : m < 0 ∨ 1073741824 < m)
      have e2 : ∀ j, 0 = rootF m (u8s (hashC f)) j := fun j => by rw [e]
      repeat' (first | exact trivial | exact e2 _ | apply And.intro)
    have h2 : ¬ 1073741824 < m := of_decide_eq_false (p := 1073741824 < m) h
    have e := rootF_in (u8s (hashC f)) (show ¬ (m < 0 ∨ 1073741824 < m) by omega)
    have e2 : ∀ j, sumI ([2] ++ be8 m ++ u8s (hashC f)) j = rootF m (u8s (hashC f)) j := fun j => by rw [e]
    have l8 : (be8 m).length = 8 := rfl
    have l3 : (u8s (hashC f)).length = 32 := rfl
    refine Need.mk ⟨by omega, by omega⟩ fun _ => Need.mk (by show (1 : Int) + 8 ≤ 9223372036854775807; decide) fun _ => Need.mk ⟨f, rfl, hf⟩ fun _ => Need.mk (by show (9 : Int) + 32 ≤ 9223372036854775807; decide) fun _ => Need.mk (by show ([2] ++ be8 m ++ u8s (hashC f)).length ≤ 140737488350000; rw [List.length_append, List.length_append, l8, l3]; show 1 + 8 + 32 ≤ _; decide) fun _ => ?_
    repeat' (first | exact trivial | exact e2 _ | apply And.intro)

theorem hf5 : hf 5 = 4 := hf_uniq (k := 2) (by decide) (by decide) (by decide) (by decide)
theorem hf4 : hf 4 = 2 := hf_uniq (k := 1) (by decide) (by decide) (by decide) (by decide)
theorem hf1 : hf 1 = 0 := hf_zero (Or.inl (by decide))
theorem deep54 : deep 5 4 = 1 := by
  rw [deep_hi (by decide) (by rw [hf5]; decide), hf5, deep_out (by decide)]
  rfl
theorem deep50 : deep 5 0 = 3 := by
  rw [deep_lo (by decide) (by rw [hf5]; decide), hf5, show (4 : Int) = 2 ^ 2 by decide, deep_first 2 (by decide)]
  rfl
def sFirst6 : SpecF
  | [], [.glob gg sz n get] => some (KsAt gg sz n get, .c .tt, [.dead])
  | _, _ => none

set_option maxRecDepth 100000 in
set_option maxHeartbeats 4000000 in
theorem first6P : Fn Tryd.prog 52 [0] [] sFirst6 := by
  have hC : CtsOk Tryd.prog [(53, appPure sHalf), (54, appPure sDeep), (64, appFn [0] [] sRoot), (65, appPure sRRoot)] := CtsOk.cons (Pure.ct halfP) <| CtsOk.cons (Pure.ct deepP) <| CtsOk.cons (Fn.ct rootP) <| CtsOk.cons (Pure.ct rrootP) <| CtsOk.nil _
  refine Fn.of (E := tbT) [0] 0 [] tbT_ok hC (by kernel_rfl) Tryd.func52 rfl rfl rfl (by kernel_rfl) (by kernel_rfl) 1 5 1 ?_ ?_
  · intro args h pre r h' hs
    unfold sFirst6 at hs
    split at hs
    · cases hs; exact ⟨rfl, rfl, Nat.le_of_ble_eq_true rfl⟩
    · cases hs
  · intro args h pre r h' hs hp
    unfold sFirst6 at hs
    split at hs
    rotate_left
    · cases hs
    rename_i gg sz n get
    cases hs
    refine ⟨_, hp.same, ?_⟩
    clear hp
    unfold sHalf sDeep sRoot sRRoot
    generalize hg0 : hf = g0
    generalize hg1 : deep = g1
    generalize hg2 : rootF = g2
    generalize hg3 : rootPre = g3
    generalize hg4 : HashC = g4
    generalize hg5 : u8s = g5
    generalize hg6 : KsAt = g6
    generalize hg7 : kOf = g7
    generalize hA : Arith.std = A
    set_option cbv.maxSteps 2000000 in cbv
    subst hA hg0 hg1 hg2 hg3 hg4 hg5 hg6 hg7
    have tt : ∀ {a b : Int}, a = b → decide (a = b) = true := fun h => decide_eq_true h
    refine Need.mk trivial fun _ => ?_
    refine Ife.mk (fun _ => ?_) (fun hb => absurd ((tt hf5).symm.trans hb) (by decide))
    refine Need.mk trivial fun _ => ?_
    refine Ife.mk (fun _ => ?_) (fun hb => absurd ((tt hf4).symm.trans hb) (by decide))
    refine Need.mk trivial fun _ => ?_
    refine Ife.mk (fun _ => ?_) (fun hb => absurd ((tt hf1).symm.trans hb) (by decide))
    refine Need.mk trivial fun _ => ?_
    refine Ife.mk (fun _ => ?_) (fun hb => absurd ((tt deep54).symm.trans hb) (by decide))
    refine Need.mk trivial fun _ => ?_
    refine Ife.mk (fun _ => ?_) (fun hb => absurd ((tt deep50).symm.trans hb) (by decide))
    have hz : HashC (hashC fun _ => 0) := ⟨_, rfl, fun _ => ⟨by decide, by decide⟩⟩
    refine Need.mk ⟨ksAt_self, hz⟩ fun _ => Need.mk hz fun _ => ?_
    exact ⟨[0], ⟨rfl, (show eqH (rootF 0 (u8s (hashC fun _ => 0))) (rootF 0 (u8s (hashC fun _ => 0))) = true from eqH_self _), by decide, rfl, by repeat' (first | exact trivial | exact rfl | apply And.intro)⟩⟩

def sTDeep : SpecF
  | [.c (.int .i64 m), .c (.int .i64 i)], [.glob gg sz n get] => some (KsAt gg sz n get, .c .tt, [.dead])
  | _, _ => none

set_option maxRecDepth 100000 in
set_option maxHeartbeats 4000000 in
theorem tDeepP : Fn Tryd.prog 12 [0] [] sTDeep := by
  have hC : CtsOk Tryd.prog [(52, appFn [0] [] sFirst6), (53, appPure sHalf), (54, appPure sDeep)] := CtsOk.cons (Fn.ct first6P) <| CtsOk.cons (Pure.ct halfP) <| CtsOk.cons (Pure.ct deepP) <| CtsOk.nil _
  refine Fn.of (E := tbT) [0] 0 [] tbT_ok hC (by kernel_rfl) Tryd.func12 rfl rfl rfl (by kernel_rfl) (by kernel_rfl) 1 5 1 ?_ ?_
  · intro args h pre r h' hs
    unfold sTDeep at hs
    split at hs
    · cases hs; exact ⟨rfl, rfl, Nat.le_of_ble_eq_true rfl⟩
    · cases hs
  · intro args h pre r h' hs hp
    unfold sTDeep at hs
    split at hs
    rotate_left
    · cases hs
    rename_i m i gg sz n get
    cases hs
    refine ⟨_, hp.same, ?_⟩
    clear hp
    unfold sFirst6 sHalf sDeep
    generalize hg0 : hf = g0
    generalize hg1 : deep = g1
    generalize hg2 : KsAt = g2
    generalize hg3 : kOf = g3
    generalize hA : Arith.std = A
    set_option cbv.maxSteps 2000000 in cbv
    subst hA hg0 hg1 hg2 hg3
    refine Need.mk ksAt_self fun _ => Need.mk trivial fun _ => Need.mk trivial fun _ => ?_
    have tt : ∀ {p : Prop} [Decidable p], p → decide p = true := fun h => decide_eq_true h
    refine Ife.mk (fun h => ?_) (fun h => ?_)
    · have h : m < 2 := of_decide_eq_true (p := m < 2) h
      refine Ife.mk (fun _ => ?_) (fun hb => absurd ((tt (hf_zero (Or.inl h))).symm.trans hb) (by decide))
      exact ⟨[0], ⟨rfl, (show decide (deep m i = 0) = true from tt (deep_out (by omega))), by decide, rfl, by repeat' (first | exact trivial | exact rfl | apply And.intro)⟩⟩
    have h1 : ¬ m < 2 := of_decide_eq_false (p := m < 2) h
    refine Ife.mk (fun h => ?_) (fun h => ?_)
    · have h : 1073741824 < m := of_decide_eq_true (p := 1073741824 < m) h
      refine Ife.mk (fun _ => ?_) (fun hb => absurd ((tt (hf_zero (Or.inr h))).symm.trans hb) (by decide))
      exact ⟨[0], ⟨rfl, (show decide (deep m i = 0) = true from tt (deep_out (by omega))), by decide, rfl, by repeat' (first | exact trivial | exact rfl | apply And.intro)⟩⟩
    have h2 : ¬ 1073741824 < m := of_decide_eq_false (p := 1073741824 < m) h
    obtain ⟨q1, q2, q3⟩ := hf_lt (n := m) (by omega) (by omega)
    obtain ⟨t1, t2⟩ := deep_top (n := m) (i := i) (by omega) (by omega)
    have ea : bitsStd .and .i64 (hf m) (hf m - 1) = 0 := by
      obtain ⟨k, hk, _, e, _, _⟩ := hf_pow (n := m) (by omega) (by omega)
      rw [e]
      exact and_pow k hk
    refine Ife.mk (fun hb => absurd (of_decide_eq_true (p := hf m < 1) hb) (by omega)) (fun _ => ?_)
    refine Ife.mk (fun hb => absurd (of_decide_eq_true (p := m ≤ hf m) hb) (by omega)) (fun _ => ?_)
    refine Need.mk (by show fitStd .i64 (m - hf m); unfold fitStd; omega) fun _ => ?_
    refine Ife.mk (fun hb => absurd (of_decide_eq_true (p := hf m < m - hf m) hb) (by omega)) (fun _ => ?_)
    refine Need.mk (by show fitStd .i64 (hf m - 1); unfold fitStd; omega) fun _ => ?_
    refine Ife.mk (fun hb => absurd (show (!decide (bitsStd .and .i64 (hf m) (hf m - 1) = 0)) = true from hb) (by rw [tt ea]; decide)) (fun _ => ?_)
    refine Ife.mk (fun h => ?_) (fun h => ?_)
    · have h : i < 0 := of_decide_eq_true (p := i < 0) h
      exact ⟨[0], ⟨rfl, (show decide (deep m i = 0) = true from tt (deep_out (by omega))), by decide, rfl, by repeat' (first | exact trivial | exact rfl | apply And.intro)⟩⟩
    have h3 : ¬ i < 0 := of_decide_eq_false (p := i < 0) h
    refine Ife.mk (fun h => ?_) (fun h => ?_)
    · have h : m ≤ i := of_decide_eq_true (p := m ≤ i) h
      exact ⟨[0], ⟨rfl, (show decide (deep m i = 0) = true from tt (deep_out (by omega))), by decide, rfl, by repeat' (first | exact trivial | exact rfl | apply And.intro)⟩⟩
    have h4 : ¬ m ≤ i := of_decide_eq_false (p := m ≤ i) h
    have hin : 1 < m ∧ m ≤ 1073741824 ∧ 0 ≤ i ∧ i < m := by omega
    have hd30 := deep_30 m i
    refine Ife.mk (fun h => ?_) (fun h => ?_)
    · have h : i < hf m := of_decide_eq_true (p := i < hf m) h
      have e := deep_lo hin h
      have hn := deep_nonneg (hf m) i
      refine Need.mk trivial fun _ => Need.mk (by show fitStd .i64 (1 + deep (hf m) i); unfold fitStd; omega) fun _ => ?_
      refine Ife.mk (fun _ => ?_) (fun hb => absurd ((tt e).symm.trans hb) (by decide))
      refine Need.mk trivial fun _ => ?_
      refine Ife.mk (fun _ => ?_) (fun hb => absurd ((tt t1).symm.trans hb) (by decide))
      exact ⟨[0], ⟨rfl, (show decide (deep m i ≤ 30) = true from tt hd30), by decide, rfl, by repeat' (first | exact trivial | exact rfl | apply And.intro)⟩⟩
    have h : ¬ i < hf m := of_decide_eq_false (p := i < hf m) h
    have e := deep_hi hin h
    have hn := deep_nonneg (m - hf m) (i - hf m)
    refine Need.mk (by show fitStd .i64 (m - hf m); unfold fitStd; omega) fun _ => Need.mk (by show fitStd .i64 (i - hf m); unfold fitStd; omega) fun _ => Need.mk trivial fun _ => Need.mk (by show fitStd .i64 (1 + deep (m - hf m) (i - hf m)); unfold fitStd; omega) fun _ => ?_
    refine Ife.mk (fun _ => ?_) (fun hb => absurd ((tt e).symm.trans hb) (by decide))
    refine Need.mk trivial fun _ => ?_
    refine Ife.mk (fun _ => ?_) (fun hb => absurd ((tt t1).symm.trans hb) (by decide))
    exact ⟨[0], ⟨rfl, (show decide (deep m i ≤ 30) = true from tt hd30), by decide, rfl, by repeat' (first | exact trivial | exact rfl | apply And.intro)⟩⟩

end Go.Proofs.YtophhppklaofaaaDoor.Vx
namespace Go.Proofs.YtophhppklaofaaaDoor
open Go.RowKit
theorem treeDeepWalk (w : World) (hk : ∀ i, i < 64 → w.cell? ⟨0, i, none⟩ = some (.int .u32 (Sha.kOf i))) (n : Int) (_hn : -9223372036854775808 ≤ n ∧ n ≤ 9223372036854775807) (a : Int) (_ha : -9223372036854775808 ≤ a ∧ a ≤ 9223372036854775807) :
    Calls Tryd.prog 12 #[.int .i64 n, .int .i64 a] w fun e w' => e = .returned (.bool true) ∧ Below w.heap.size w w' := by
  refine Calls.mono (Vx.tDeepP.run [.c (.int .i64 n), .c (.int .i64 a)] [.glob 0 1 64 (fun i => [.int .u32 (Sha.kOf i)])] _ _ _ rfl Vx.ksAt_self [⟨0, undef, 0⟩] w _ (Vx.relGlob hk) ⟨_, _, rfl, rfl, _, _, rfl, rfl, rfl⟩) fun e W' he => ?_
  obtain ⟨u, ρ', rfl, hu, hr⟩ := he
  obtain rfl : .bool true = u := Option.some.inj hu
  exact ⟨rfl, Vx.Rel.toBelow hr⟩
end Go.Proofs.YtophhppklaofaaaDoor
