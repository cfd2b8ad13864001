/- Trees: ways, by the walker. -/
import Derived.Test.YtophhppklaofaaaDoorVTree4
namespace Go.Proofs.YtophhppklaofaaaDoor.Vx
open Go.RowKit Sha
set_option linter.unusedVariables false
set_option linter.unusedSimpArgs false
/-- The sums beside the way from a leaf up, the lowest first. -/
def wayR (h : Nat → Nat → Int) (lo n : Nat) (i : Int) : List (Nat → Int) :=
  if hc : 1 < n ∧ n ≤ 1073741824 ∧ 0 ≤ i ∧ i < (n : Int) then
    if i < hf n then wayR h lo (hf n).toNat i ++ [topR h (lo + (hf n).toNat) (n - (hf n).toNat)]
    else wayR h (lo + (hf n).toNat) (n - (hf n).toNat) (i - hf n) ++ [topR h lo (hf n).toNat]
  else []
termination_by n
decreasing_by
  · have := hf_lt (n := (n : Int)) (by omega) (by omega); omega
  · have := hf_lt (n := (n : Int)) (by omega) (by omega); omega
theorem wayR_shift (h : Nat → Nat → Int) (a : Nat) : ∀ (n lo : Nat) (i : Int), wayR (fun i => h (a + i)) lo n i = wayR h (a + lo) n i := by
  intro n
  induction n using Nat.strongRecOn with
  | ind n ih =>
    intro lo i
    rw [wayR.eq_def (fun i => h (a + i)), wayR.eq_def h]
    by_cases hc : 1 < n ∧ n ≤ 1073741824 ∧ 0 ≤ i ∧ i < (n : Int)
    · rw [dif_pos hc, dif_pos hc]
      have hh := hf_lt (n := (n : Int)) (by omega) (by omega)
      rw [ih (hf n).toNat (by omega) lo i, ih (n - (hf n).toNat) (by omega) (lo + (hf n).toNat) (i - hf n), topR_shift, topR_shift, Nat.add_assoc]
    · rw [dif_neg hc, dif_neg hc]
theorem wayR_congr {h h' : Nat → Nat → Int} : ∀ (n lo : Nat) (i : Int), (∀ j, lo ≤ j → j < lo + n → h j = h' j) → wayR h lo n i = wayR h' lo n i := by
  intro n
  induction n using Nat.strongRecOn with
  | ind n ih =>
    intro lo i hj
    rw [wayR.eq_def h, wayR.eq_def h']
    by_cases hc : 1 < n ∧ n ≤ 1073741824 ∧ 0 ≤ i ∧ i < (n : Int)
    · rw [dif_pos hc, dif_pos hc]
      have hh := hf_lt (n := (n : Int)) (by omega) (by omega)
      rw [ih (hf n).toNat (by omega) lo i (fun j h1 h2 => hj j h1 (by omega)), ih (n - (hf n).toNat) (by omega) (lo + (hf n).toNat) (i - hf n) (fun j h1 h2 => hj j (by omega) (by omega)), topR_congr (h := h) (h' := h') (n - (hf n).toNat) (lo + (hf n).toNat) (fun j h1 h2 => hj j (by omega) (by omega)), topR_congr (h := h) (h' := h') (hf n).toNat lo (fun j h1 h2 => hj j h1 (by omega))]
    · rw [dif_neg hc, dif_neg hc]
theorem wayR_len (h : Nat → Nat → Int) : ∀ (n lo : Nat) (i : Int), (wayR h lo n i).length ≤ n := by
  intro n
  induction n using Nat.strongRecOn with
  | ind n ih =>
    intro lo i
    rw [wayR.eq_def h]
    by_cases hc : 1 < n ∧ n ≤ 1073741824 ∧ 0 ≤ i ∧ i < (n : Int)
    · rw [dif_pos hc]
      have hh := hf_lt (n := (n : Int)) (by omega) (by omega)
      have a1 := ih (hf n).toNat (by omega) lo i
      have a2 := ih (n - (hf n).toNat) (by omega) (lo + (hf n).toNat) (i - hf n)
      split <;> rw [List.length_append, List.length_singleton] <;> omega
    · rw [dif_neg hc]; exact Nat.zero_le _
def hashesG (l : List (Nat → Int)) (i : Nat) : List CV := hashC (l.getD i fun _ => 0)
def wayG (get : Nat → List CV) (n : Nat) (i : Int) : List (Nat → Int) := wayR (fun i => hOf (get i)) 0 n i
theorem hashesG_push (l : List (Nat → Int)) (f : Nat → Int) (i : Nat) (h : i < l.length + 1) : pushG l.length (hashesG l) (hashC f) i = hashesG (l ++ [f]) i := by
  rcases Nat.lt_or_ge i l.length with hi | hi
  · rw [pushG_lt hi]
    simp [hashesG, List.getD, List.getElem?_append_left hi]
  · obtain rfl : i = l.length := by omega
    rw [pushG_eq]
    simp [hashesG, List.getD]
theorem wayG_cut {gets : Nat → List CV} {m : Nat} (h : HashesAt m gets) (a k : Nat) (i : Int) (hk : a + k ≤ m) : wayG (fun i => hashC (hOf (gets (a + i)))) k i = wayR (fun i => hOf (gets i)) a k i := by
  unfold wayG
  have := wayR_shift (fun i => hOf (gets i)) a k 0 i
  rw [Nat.add_zero] at this
  rw [← this]
  refine wayR_congr k 0 i fun j _ hj => ?_
  exact hOf_idem (h (a + j) (by omega))
theorem wayG_out {gets : Nat → List CV} {m : Nat} {i : Int} (h : ¬ (1 < m ∧ m ≤ 1073741824 ∧ 0 ≤ i ∧ i < (m : Int))) : wayG gets m i = [] := by
  unfold wayG
  rw [wayR, dif_neg h]
theorem wayG_lo {gets : Nat → List CV} {m : Nat} {i : Int} (h : 1 < m ∧ m ≤ 1073741824 ∧ 0 ≤ i ∧ i < (m : Int)) (hi : i < hf m) : wayG gets m i = wayR (fun i => hOf (gets i)) 0 (hf m).toNat i ++ [topR (fun i => hOf (gets i)) (hf m).toNat (m - (hf m).toNat)] := by
  unfold wayG
  rw [wayR, dif_pos h, if_pos hi, Nat.zero_add]
theorem wayG_hi {gets : Nat → List CV} {m : Nat} {i : Int} (h : 1 < m ∧ m ≤ 1073741824 ∧ 0 ≤ i ∧ i < (m : Int)) (hi : ¬ i < hf m) : wayG gets m i = wayR (fun i => hOf (gets i)) (hf m).toNat (m - (hf m).toNat) (i - hf m) ++ [topR (fun i => hOf (gets i)) 0 (hf m).toNat] := by
  unfold wayG
  rw [wayR, dif_pos h, if_neg hi, Nat.zero_add]
def wayPre (N : Nat) (gg sz n : Nat) (get : Nat → List CV) (ty one m : Nat) (gets : Nat → List CV) : Prop := KsAt gg sz n get ∧ ty = 24 ∧ one = 32 ∧ HashesAt m gets ∧ m < N ∧ m ≤ 1000000
def sWayN (N : Nat) : SpecF
  | [.c (.row 1), .c (.int .i64 i)], [.glob gg sz n get, .elems ty one m gets] => some (wayPre N gg sz n get ty one m gets, .c (.row 2), [.dead, .dead, .row 24 32 (wayG gets m i).length (hashesG (wayG gets m i))])
  | _, _ => none

attribute [local cbv_opaque] hf hOf topG topPre0 HashesAt sumPre KsAt joinG cutC sumI kOf HashC u8s nodeF nodePre wayG wayPre hashesG pushG
set_option maxRecDepth 100000 in
set_option maxHeartbeats 8000000 in
theorem wayStep (N : Nat) (ih : Fn Tryd.prog 57 [0] [(24, 32)] (sWayN N)) : Fn Tryd.prog 57 [0] [(24, 32)] (sWayN (N + 1)) := by
  have hC : CtsOk Tryd.prog [(53, appPure sHalf), (57, appFn [0] [(24, 32)] (sWayN N)), (55, appFn [0] [(24, 32)] sTop)] := CtsOk.cons (Pure.ct halfP) <| CtsOk.cons (Fn.ct ih) <| CtsOk.cons (Fn.ct topP) <| CtsOk.nil _
  refine Fn.of (E := tbH) [0] 0 [(5, [(2002, false), (2003, false), (2004, false), (2005, false), (0, true), (1, true), (2, true), (3, true), (5, true), (6, true), (7, true), (4, false), (8, false), (9, false), (10, false), (11, true)]), (6, [(2002, false), (2003, false), (2004, false), (2005, false), (0, true), (1, true), (2, true), (3, true), (4, true), (5, true), (7, true), (8, true), (9, true), (6, false), (10, false), (11, false), (12, false), (13, true)])] tbH_ok hC (by kernel_rfl) Tryd.func57 rfl rfl rfl (by kernel_rfl) (by kernel_rfl) 2 24 32 ?_ ?_
  · intro args h pre r h' hs
    unfold sWayN at hs
    split at hs
    · cases hs; exact ⟨rfl, rfl, Nat.le_of_ble_eq_true rfl⟩
    · cases hs
  · intro args h pre r h' hs hp
    unfold sWayN at hs
    split at hs
    rotate_left
    · cases hs
    rename_i i gg sz n get ty one m gets
    cases hs
    obtain ⟨hK, rfl, rfl, hst, hlt, hm⟩ := hp
    refine ⟨[.glob 0 1 64 (fun i => [.int .u32 (kOf i)]), .elems 24 32 m (fun i => hashC (hOf (gets i)))], ⟨hK.same.1, hst.same.1, trivial⟩, ?_⟩
    clear hK
    unfold sWayN sTop sHalf
    generalize hg0 : (List.length : List (Nat → Int) → Nat) = g0
    generalize hA : Arith.std = A
    set_option cbv.maxSteps 3000000 in cbv
    subst hA hg0
    refine Ife.mk (fun h => ?_) (fun h => ?_)
    · have h : i < 0 := of_decide_eq_true (p := i < 0) h
      rw [wayG_out (by omega)]
      exact ⟨[0, 1, 2], ⟨rfl, rfl, (by show List.Nodup [2]; decide), rfl, by repeat' (first | exact trivial | exact rfl | apply And.intro | (intro i hi; rfl) | (intro i hi; exact absurd hi (Nat.not_lt_zero _)))⟩⟩
    have h0 : ¬ i < 0 := of_decide_eq_false (p := i < 0) h
    refine Ife.mk (fun h => ?_) (fun h => ?_)
    · have h : (m : Int) ≤ i := of_decide_eq_true (p := (m : Int) ≤ i) h
      rw [wayG_out (by omega)]
      exact ⟨[0, 1, 2], ⟨rfl, rfl, (by show List.Nodup [2]; decide), rfl, by repeat' (first | exact trivial | exact rfl | apply And.intro | (intro i hi; rfl) | (intro i hi; exact absurd hi (Nat.not_lt_zero _)))⟩⟩
    have h1 : ¬ (m : Int) ≤ i := of_decide_eq_false (p := (m : Int) ≤ i) h
    refine Ife.mk (fun h => ?_) (fun h => ?_)
    · have h : (m : Int) < 2 := of_decide_eq_true (p := (m : Int) < 2) h
      rw [wayG_out (by omega)]
      exact ⟨[0, 1, 2], ⟨rfl, rfl, (by show List.Nodup [2]; decide), rfl, by repeat' (first | exact trivial | exact rfl | apply And.intro | (intro i hi; rfl) | (intro i hi; exact absurd hi (Nat.not_lt_zero _)))⟩⟩
    have h2 : ¬ (m : Int) < 2 := of_decide_eq_false (p := (m : Int) < 2) h
    have hh := hf_lt (n := (m : Int)) (by omega) (by omega)
    have hc : 1 < m ∧ m ≤ 1073741824 ∧ 0 ≤ i ∧ i < (m : Int) := by omega
    have k1 : (hf (m : Int) - 0).toNat = (hf (m : Int)).toNat := by omega
    have k2 : ((m : Int) - hf (m : Int)).toNat = m - (hf (m : Int)).toNat := by omega
    have e1 : topG (fun i => hashC (hOf (gets (0 + i)))) (hf (m : Int) - 0).toNat = topR (fun i => hOf (gets i)) 0 (hf (m : Int)).toNat := by rw [k1]; exact topG_cut hst 0 _ (by omega)
    have e2 : topG (fun i => hashC (hOf (gets ((hf (m : Int)).toNat + i)))) ((m : Int) - hf (m : Int)).toNat = topR (fun i => hOf (gets i)) (hf (m : Int)).toNat (m - (hf (m : Int)).toNat) := by rw [k2]; exact topG_cut hst _ _ (by omega)
    have f1 : wayG (fun i => hashC (hOf (gets (0 + i)))) (hf (m : Int) - 0).toNat i = wayR (fun i => hOf (gets i)) 0 (hf (m : Int)).toNat i := by rw [k1]; exact wayG_cut hst 0 _ i (by omega)
    have f2 : wayG (fun i => hashC (hOf (gets ((hf (m : Int)).toNat + i)))) ((m : Int) - hf (m : Int)).toNat (i - hf (m : Int)) = wayR (fun i => hOf (gets i)) (hf (m : Int)).toNat (m - (hf (m : Int)).toNat) (i - hf (m : Int)) := by rw [k2]; exact wayG_cut hst _ _ _ (by omega)
    have c1 : HashesAt (hf (m : Int) - 0).toNat (fun i => hashC (hOf (gets (0 + i)))) := hst.cut 0 _ (by omega)
    have c2 : HashesAt ((m : Int) - hf (m : Int)).toNat (fun i => hashC (hOf (gets ((hf (m : Int)).toNat + i)))) := hst.cut _ _ (by omega)
    have s1 : (0 : Int) ≤ 0 ∧ 0 ≤ hf (m : Int) ∧ hf (m : Int) ≤ (m : Int) := by omega
    have s2 : 0 ≤ hf (m : Int) ∧ hf (m : Int) ≤ (m : Int) ∧ (m : Int) ≤ (m : Int) := by omega
    have z1 := wayR_len (fun i => hOf (gets i)) (hf (m : Int)).toNat 0 i
    have z2 := wayR_len (fun i => hOf (gets i)) (m - (hf (m : Int)).toNat) (hf (m : Int)).toNat (i - hf (m : Int))
    refine Need.mk trivial fun _ => ?_
    refine Ife.mk (fun h => ?_) (fun h => ?_)
    · have h : i < hf (m : Int) := of_decide_eq_true (p := i < hf (m : Int)) h
      refine Need.mk s1 fun _ => Need.mk s2 fun _ => Need.mk ⟨ksAt_self, rfl, rfl, c1, (by show (hf (m : Int) - 0).toNat < N; omega), (by show (hf (m : Int) - 0).toNat ≤ 1000000; omega)⟩ fun _ => Need.mk ⟨ksAt_self, rfl, rfl, c2, (by show ((m : Int) - hf (m : Int)).toNat ≤ 1073741824; omega)⟩ fun _ => ?_
      refine Need.mk (by show (wayG (fun i => hashC (hOf (gets (0 + i)))) (hf (m : Int) - 0).toNat i).length + 1 ≤ maxLen ∧ ((wayG (fun i => hashC (hOf (gets (0 + i)))) (hf (m : Int) - 0).toNat i).length + 1) * 32 ≤ 140737488355328; rw [f1]; unfold maxLen; omega) fun _ => ?_
      rw [wayG_lo hc h, ← f1, ← e2]
      exact ⟨[0, 1, 6], ⟨rfl, rfl, (by show List.Nodup [6]; decide), rfl, by
        repeat' (first | exact trivial | exact rfl | apply And.intro)
        · refine Eq.trans ?_ List.length_append.symm
          rfl
        · intro j hj
          exact hashesG_push _ _ j (Nat.lt_of_lt_of_eq hj List.length_append)⟩⟩
    · have h : ¬ i < hf (m : Int) := of_decide_eq_false (p := i < hf (m : Int)) h
      refine Need.mk s2 fun _ => Need.mk (by show fitStd .i64 (i - hf (m : Int)); unfold fitStd; omega) fun _ => Need.mk s1 fun _ => Need.mk ⟨ksAt_self, rfl, rfl, c2, (by show ((m : Int) - hf (m : Int)).toNat < N; omega), (by show ((m : Int) - hf (m : Int)).toNat ≤ 1000000; omega)⟩ fun _ => Need.mk ⟨ksAt_self, rfl, rfl, c1, (by show (hf (m : Int) - 0).toNat ≤ 1073741824; omega)⟩ fun _ => ?_
      refine Need.mk (by show (wayG (fun i => hashC (hOf (gets ((hf (m : Int)).toNat + i)))) ((m : Int) - hf (m : Int)).toNat (i - hf (m : Int))).length + 1 ≤ maxLen ∧ ((wayG (fun i => hashC (hOf (gets ((hf (m : Int)).toNat + i)))) ((m : Int) - hf (m : Int)).toNat (i - hf (m : Int))).length + 1) * 32 ≤ 140737488355328; rw [f2]; unfold maxLen; omega) fun _ => ?_
      rw [wayG_hi hc h, ← f2, ← e1]
      exact ⟨[0, 1, 6], ⟨rfl, rfl, (by show List.Nodup [6]; decide), rfl, by
        repeat' (first | exact trivial | exact rfl | apply And.intro)
        · refine Eq.trans ?_ List.length_append.symm
          rfl
        · intro j hj
          exact hashesG_push _ _ j (Nat.lt_of_lt_of_eq hj List.length_append)⟩⟩

theorem wayAll (N : Nat) : Fn Tryd.prog 57 [0] [(24, 32)] (sWayN N) := by
  induction N with
  | zero =>
    refine ⟨by kernel_rfl, fun args h pre res h' hs => ?_, fun args h pre res h' hs hp ρ W us rel hus => ?_⟩
    · unfold sWayN at hs
      split at hs
      · cases hs; exact ⟨rfl, Nat.le_of_ble_eq_true rfl⟩
      · cases hs
    · unfold sWayN at hs
      split at hs
      · cases hs; exact absurd hp.2.2.2.2.1 (Nat.not_lt_zero _)
      · cases hs
  | succ N ih => exact wayStep N ih
def wayPre0 (gg sz n : Nat) (get : Nat → List CV) (ty one m : Nat) (gets : Nat → List CV) : Prop := KsAt gg sz n get ∧ ty = 24 ∧ one = 32 ∧ HashesAt m gets ∧ m ≤ 1000000
def sWay : SpecF
  | [.c (.row 1), .c (.int .i64 i)], [.glob gg sz n get, .elems ty one m gets] => some (wayPre0 gg sz n get ty one m gets, .c (.row 2), [.dead, .dead, .row 24 32 (wayG gets m i).length (hashesG (wayG gets m i))])
  | _, _ => none

theorem wayP : Fn Tryd.prog 57 [0] [(24, 32)] sWay := by
  refine ⟨by kernel_rfl, fun args h pre res h' hs => ?_, fun args h pre res h' hs hp ρ W us rel hus => ?_⟩
  · unfold sWay at hs
    split at hs
    · cases hs; exact ⟨rfl, Nat.le_of_ble_eq_true rfl⟩
    · cases hs
  · unfold sWay at hs
    split at hs
    rotate_left
    · cases hs
    rename_i i gg sz n get ty one m gets
    cases hs
    obtain ⟨h1, h2, h3, h4, h5⟩ := hp
    exact (wayAll (m + 1)).run _ _ _ _ _ rfl ⟨h1, h2, h3, h4, Nat.lt_succ_self m, h5⟩ ρ W us rel hus
end Go.Proofs.YtophhppklaofaaaDoor.Vx
