/- What a proof shows: Value, Has, Lacks, by the walker. -/
import Derived.Test.YtbbpgicoklhheaaDoorM34
import Derived.Test.YtbbpgicoklhheaaDoorM2
import Derived.Test.YtbbpgicoklhheaaDoorM24
section
namespace Go.Proofs.YtbbpgicoklhheaaDoor.Vx
open Sha
open Go.RowKit
set_option linter.unusedVariables false
set_option linter.unusedSimpArgs false
def vlPre (gg sz0 n0 : Nat) (get0 : Nat → List CV) (root : List CV) (ty sz n : Nat) (get : Nat → Nat → Cell) : Prop := KsAt gg sz0 n0 get0 ∧ HashC root ∧ leavesPre ty sz n get
def sVal : SpecF
  | [.agg root, .agg [.int .i64 c, .row 1], .c (.str k)], [.glob gg sz0 n0 get0, .data fr ty sz n get] => some (vlPre gg sz0 n0 get0 root ty sz n get, .tup [(some (.str (valV (hOf root) c (leafL n get) k)), []), (some (.bool (valB (hOf root) c (leafL n get) k)), [])], [.dead, .dead])
  | _, _ => none

set_option maxRecDepth 100000 in
set_option maxHeartbeats 8000000 in
theorem valPrP : Fn Tryd.prog 31 [1] [(87, 204)] sVal := by
  have hC : CtsOk Tryd.prog [(32, appFn [] [(87, 204)] sMayPr), (33, appFn [1] [(87, 204)] sUndP)] := CtsOk.cons (Fn.ct mayPrP) <| CtsOk.cons (Fn.ct undPrP) <| CtsOk.nil _
  refine Fn.of (E := tbMk) [0] 0 [] tbMk_ok hC (by kernel_rfl) Tryd.func31 rfl rfl rfl (by kernel_rfl) (by kernel_rfl) 2 5 1 ?_ ?_
  · intro args h pre r h' hs
    unfold sVal at hs
    split at hs
    · cases hs; exact ⟨rfl, rfl, Nat.le_of_ble_eq_true rfl⟩
    · cases hs
  · intro args h pre r h' hs hp
    unfold sVal at hs
    split at hs
    rotate_left
    · cases hs
    rename_i root c k gg sz0 n0 get0 fr ty sz n get
    cases hs
    obtain ⟨hK, ⟨f, rfl, hf_⟩, ⟨rfl, rfl, hst, hok, hm⟩⟩ := hp
    refine ⟨[.glob 1 1 64 (fun i => [.int .u32 (kOf i)]), .data fr 87 4 n (leafG false (leafL n get))], ⟨hK.same.1, ⟨rfl, rfl, rfl, rfl, fun i j hi hj => by rw [hst i j hi hj]; exact Cell.le_refl _⟩, trivial⟩, ?_⟩
    clear hK
    have hL : (leafL n get).length = n := leafL_len
    generalize leafL n get = L at hL hok ⊢
    have q1 : leavesPre 87 4 n (fun i j => (leafG false L i j).old) := by rw [← hL]; exact leavesPre_old hok (by omega)
    have e1 : leafL n (fun i j => (leafG false L i j).old) = L := by rw [← hL]; exact leaves_old hok
    have hR : HashC (hashC f) := ⟨f, rfl, hf_⟩
    have q2 : mayL c L = true → unPre 1 1 64 (fun i => [.int .u32 (kOf i)]) (hashC f) c 87 4 n (fun i j => (leafG false L i j).old) := fun h => ⟨ksAt_self, hR, q1, by rw [e1]; exact h⟩
    generalize hV : valV (hOf (hashC f)) c L k = V
    generalize hB : valB (hOf (hashC f)) c L k = B
    generalize hU : hOf (hashC f) = F at hV hB
    unfold hashC at hU ⊢
    unfold sMayPr sUndP
    generalize hg0 : (List.length : List UInt8 → Nat) = g0
    generalize hL : lft Tryd.prog _ = L
    try unfold leafG
    generalize ho0 : @hOf = zo0, ho1 : @HashC = zo1, ho2 : @kOf = zo2, ho3 : @lK = zo3, ho4 : @lV = zo4, ho5 : @lI = zo5, ho6 : @lP = zo6, ho7 : @lN = zo7, ho8 : @pG = zo8, ho9 : @leafL = zo9, ho10 : @leavesPre = zo10, ho11 : @mayL = zo11, ho12 : @underB = zo12, ho13 : @valB = zo13, ho14 : @valV = zo14, ho15 : @unPre = zo15, ho16 : @vlPre = zo16
    generalize hA : Arith.std = A
    cbv
    subst hA hg0 hL ho0 ho1 ho2 ho3 ho4 ho5 ho6 ho7 ho8 ho9 ho10 ho11 ho12 ho13 ho14 ho15 ho16
    refine Need.mk q1 fun _ => ?_
    simp only [e1, hU]
    have fl : B = false → V = [] := fun h => by rw [← hV]; unfold valV; rw [hB, h]; rfl
    refine Ife.mk (fun h => ?_) (fun h => ?_)
    · have h : mayL c L = false := by simpa using (show (!mayL c L) = true from h)
      have hb : B = false := by rw [← hB]; unfold valB; rw [h]; rfl
      rw [fl hb, hb]
      exact ⟨[0, 1], ⟨rfl, by repeat' (first | exact trivial | exact rfl | apply And.intro | exact (fun _ _ _ _ => Cell.le_refl _) | (intro i hi; rfl) | (intro i hi; exact absurd hi (Nat.not_lt_zero _))), by decide, rfl, by repeat' (first | exact trivial | exact rfl | apply And.intro | exact (fun _ _ _ _ => Cell.le_refl _) | (intro i hi; rfl) | (intro i hi; exact absurd hi (Nat.not_lt_zero _)))⟩⟩
    have hmay : mayL c L = true := by simpa using (show (!mayL c L) = false from h)
    clear h
    refine Ife.mk (fun h => ?_) (fun h => ?_)
    · have h : ¬ (n : Int) = 1 := by simpa using (show (!decide ((n : Int) = 1)) = true from h)
      have hb : B = false := by rw [← hB]; unfold valB; rw [hmay, decide_eq_false (show ¬ L.length = 1 by omega)]; rfl
      rw [fl hb, hb]
      exact ⟨[0, 1], ⟨rfl, by repeat' (first | exact trivial | exact rfl | apply And.intro | exact (fun _ _ _ _ => Cell.le_refl _) | (intro i hi; rfl) | (intro i hi; exact absurd hi (Nat.not_lt_zero _))), by decide, rfl, by repeat' (first | exact trivial | exact rfl | apply And.intro | exact (fun _ _ _ _ => Cell.le_refl _) | (intro i hi; rfl) | (intro i hi; exact absurd hi (Nat.not_lt_zero _)))⟩⟩
    have hn : (n : Int) = 1 := by simpa using (show (!decide ((n : Int) = 1)) = false from h)
    clear h
    have hL1 : L.length = 1 := by omega
    refine Need.mk (by show (0 : Int) ≤ 0 ∧ (0 : Int) < (n : Int); omega) fun _ => Need.mk (by show (0 : Int).toNat < n; omega) fun _ => ?_
    refine Ife.mk (fun h => ?_) (fun h => ?_)
    · have h : ¬ lK L 0 = k := by simpa using (show (!decide (lK L 0 = k)) = true from h)
      have hb : B = false := by rw [← hB]; unfold valB; rw [hmay, decide_eq_true hL1, decide_eq_false h]; rfl
      rw [fl hb, hb]
      exact ⟨[0, 1], ⟨rfl, by repeat' (first | exact trivial | exact rfl | apply And.intro | exact (fun _ _ _ _ => Cell.le_refl _) | (intro i hi; rfl) | (intro i hi; exact absurd hi (Nat.not_lt_zero _))), by decide, rfl, by repeat' (first | exact trivial | exact rfl | apply And.intro | exact (fun _ _ _ _ => Cell.le_refl _) | (intro i hi; rfl) | (intro i hi; exact absurd hi (Nat.not_lt_zero _)))⟩⟩
    have hk : lK L 0 = k := by simpa using (show (!decide (lK L 0 = k)) = false from h)
    clear h
    refine Need.mk (q2 hmay) fun _ => ?_
    have hbu : B = underB F c L := by rw [← hB]; unfold valB; rw [hmay, decide_eq_true hL1, decide_eq_true hk]; rfl
    refine Ife.mk (fun h => ?_) (fun h => ?_)
    · have h : underB F c L = false := by simpa using (show (!underB F c L) = true from h)
      have hb : B = false := by rw [hbu, h]
      rw [fl hb, hb]
      exact ⟨[0, 1], ⟨rfl, by repeat' (first | exact trivial | exact rfl | apply And.intro | exact (fun _ _ _ _ => Cell.le_refl _) | (intro i hi; rfl) | (intro i hi; exact absurd hi (Nat.not_lt_zero _))), by decide, rfl, by repeat' (first | exact trivial | exact rfl | apply And.intro | exact (fun _ _ _ _ => Cell.le_refl _) | (intro i hi; rfl) | (intro i hi; exact absurd hi (Nat.not_lt_zero _)))⟩⟩
    have h : underB F c L = true := by simpa using (show (!underB F c L) = false from h)
    have hb : B = true := by rw [hbu, h]
    have hv : V = lV L 0 := by rw [← hV]; unfold valV; rw [hB, hb]; rfl
    refine Need.mk (by show (0 : Int) ≤ 0 ∧ (0 : Int) < (n : Int); omega) fun _ => Need.mk (by show (0 : Int).toNat < n; omega) fun _ => ?_
    rw [hv, hb]
    exact ⟨[0, 1], ⟨rfl, by repeat' (first | exact trivial | exact rfl | apply And.intro | exact (fun _ _ _ _ => Cell.le_refl _) | (intro i hi; rfl) | (intro i hi; exact absurd hi (Nat.not_lt_zero _))), by decide, rfl, by repeat' (first | exact trivial | exact rfl | apply And.intro | exact (fun _ _ _ _ => Cell.le_refl _) | (intro i hi; rfl) | (intro i hi; exact absurd hi (Nat.not_lt_zero _)))⟩⟩

def sHas : SpecF
  | [.agg root, .agg [.int .i64 c, .row 1], .c (.str k), .c (.str v)], [.glob gg sz0 n0 get0, .data fr ty sz n get] => some (vlPre gg sz0 n0 get0 root ty sz n get, .c (.bool ((valB (hOf root) c (leafL n get) k) && decide ((valV (hOf root) c (leafL n get) k) = v))), [.dead, .dead])
  | _, _ => none

set_option maxRecDepth 100000 in
set_option maxHeartbeats 8000000 in
theorem hasPrP : Fn Tryd.prog 19 [1] [(87, 204)] sHas := by
  have hC : CtsOk Tryd.prog [(31, appFn [1] [(87, 204)] sVal)] := CtsOk.cons (Fn.ct valPrP) <| CtsOk.nil _
  refine Fn.of (E := tbMk) [0] 0 [] tbMk_ok hC (by kernel_rfl) Tryd.func19 rfl rfl rfl (by kernel_rfl) (by kernel_rfl) 2 5 1 ?_ ?_
  · intro args h pre r h' hs
    unfold sHas at hs
    split at hs
    · cases hs; exact ⟨rfl, rfl, Nat.le_of_ble_eq_true rfl⟩
    · cases hs
  · intro args h pre r h' hs hp
    unfold sHas at hs
    split at hs
    rotate_left
    · cases hs
    rename_i root c k v gg sz0 n0 get0 fr ty sz n get
    cases hs
    obtain ⟨hK, ⟨f, rfl, hf_⟩, ⟨rfl, rfl, hst, hok, hm⟩⟩ := hp
    refine ⟨[.glob 1 1 64 (fun i => [.int .u32 (kOf i)]), .data fr 87 4 n (leafG false (leafL n get))], ⟨hK.same.1, ⟨rfl, rfl, rfl, rfl, fun i j hi hj => by rw [hst i j hi hj]; exact Cell.le_refl _⟩, trivial⟩, ?_⟩
    clear hK
    have hL : (leafL n get).length = n := leafL_len
    generalize leafL n get = L at hL hok ⊢
    have q1 : leavesPre 87 4 n (fun i j => (leafG false L i j).old) := by rw [← hL]; exact leavesPre_old hok (by omega)
    have e1 : leafL n (fun i j => (leafG false L i j).old) = L := by rw [← hL]; exact leaves_old hok
    have hR : HashC (hashC f) := ⟨f, rfl, hf_⟩
    have q2 : mayL c L = true → unPre 1 1 64 (fun i => [.int .u32 (kOf i)]) (hashC f) c 87 4 n (fun i j => (leafG false L i j).old) := fun h => ⟨ksAt_self, hR, q1, by rw [e1]; exact h⟩
    generalize hV : valV (hOf (hashC f)) c L k = V
    generalize hB : valB (hOf (hashC f)) c L k = B
    unfold hashC at hV hB ⊢
    unfold sVal
    generalize hg0 : (List.length : List UInt8 → Nat) = g0
    generalize hL : lft Tryd.prog _ = L
    try unfold leafG
    generalize ho0 : @hOf = zo0, ho1 : @HashC = zo1, ho2 : @kOf = zo2, ho3 : @lK = zo3, ho4 : @lV = zo4, ho5 : @lI = zo5, ho6 : @lP = zo6, ho7 : @lN = zo7, ho8 : @pG = zo8, ho9 : @leafL = zo9, ho10 : @leavesPre = zo10, ho11 : @mayL = zo11, ho12 : @valB = zo12, ho13 : @valV = zo13, ho14 : @unPre = zo14, ho15 : @vlPre = zo15
    generalize hA : Arith.std = A
    cbv
    subst hA hg0 hL ho0 ho1 ho2 ho3 ho4 ho5 ho6 ho7 ho8 ho9 ho10 ho11 ho12 ho13 ho14 ho15
    refine Need.mk ⟨ksAt_self, hR, q1⟩ fun _ => ?_
    simp only [e1, hV, hB]
    refine Ife.mk (fun h => ?_) (fun h => ?_)
    · have h : B = true := h
      rw [h, Bool.true_and]
      exact ⟨[0, 1], ⟨rfl, by repeat' (first | exact trivial | exact rfl | apply And.intro | exact (fun _ _ _ _ => Cell.le_refl _) | (intro i hi; rfl) | (intro i hi; exact absurd hi (Nat.not_lt_zero _))), by decide, rfl, by repeat' (first | exact trivial | exact rfl | apply And.intro | exact (fun _ _ _ _ => Cell.le_refl _) | (intro i hi; rfl) | (intro i hi; exact absurd hi (Nat.not_lt_zero _)))⟩⟩
    · have h : B = false := h
      rw [h, Bool.false_and]
      exact ⟨[0, 1], ⟨rfl, by repeat' (first | exact trivial | exact rfl | apply And.intro | exact (fun _ _ _ _ => Cell.le_refl _) | (intro i hi; rfl) | (intro i hi; exact absurd hi (Nat.not_lt_zero _))), by decide, rfl, by repeat' (first | exact trivial | exact rfl | apply And.intro | exact (fun _ _ _ _ => Cell.le_refl _) | (intro i hi; rfl) | (intro i hi; exact absurd hi (Nat.not_lt_zero _)))⟩⟩

def sLacks : SpecF
  | [.agg root, .agg [.int .i64 c, .row 1], .c (.str k)], [.glob gg sz0 n0 get0, .data fr ty sz n get] => some (vlPre gg sz0 n0 get0 root ty sz n get, .c (.bool (lackB (hOf root) c (leafL n get) k)), [.dead, .dead])
  | _, _ => none

set_option maxRecDepth 100000 in
set_option maxHeartbeats 8000000 in
theorem lacksPrP : Fn Tryd.prog 20 [1] [(87, 204)] sLacks := by
  have hC : CtsOk Tryd.prog [(32, appFn [] [(87, 204)] sMayPr), (33, appFn [1] [(87, 204)] sUndP), (34, appFn [1] [] sRoot)] := CtsOk.cons (Fn.ct mayPrP) <| CtsOk.cons (Fn.ct undPrP) <| CtsOk.cons (Fn.ct rootP) <| CtsOk.nil _
  refine Fn.of (E := tbMk) [0] 0 [(6, [(0, true), (1, true), (2, true), (3, true), (4, true), (5, true), (6, false), (7, true), (8, true), (9, true)]), (8, [(0, true), (1, true), (2, true), (3, true), (4, true), (5, true), (6, true), (7, true), (8, true), (9, true), (10, true), (11, true), (12, true), (13, true), (14, true), (15, true), (16, true), (17, true), (18, true), (19, true), (20, true), (21, true), (22, true), (23, true), (24, true), (25, true), (26, true), (27, true), (28, true), (29, true), (30, true), (31, true)]), (9, [(0, true), (1, true), (2, true), (3, true), (4, true), (5, true), (6, true), (7, true), (8, true), (9, true), (10, true), (11, true), (12, true), (13, true), (14, true), (15, true), (16, true), (17, true), (18, true), (19, true), (20, true), (21, true), (22, true), (23, true), (24, true), (25, true), (26, true)])] tbMk_ok hC (by kernel_rfl) Tryd.func20 rfl rfl rfl (by kernel_rfl) (by kernel_rfl) 2 5 1 ?_ ?_
  · intro args h pre r h' hs
    unfold sLacks at hs
    split at hs
    · cases hs; exact ⟨rfl, rfl, Nat.le_of_ble_eq_true rfl⟩
    · cases hs
  · intro args h pre r h' hs hp
    unfold sLacks at hs
    split at hs
    rotate_left
    · cases hs
    rename_i root c k gg sz0 n0 get0 fr ty sz n get
    cases hs
    obtain ⟨hK, ⟨f, rfl, hf_⟩, ⟨rfl, rfl, hst, hok, hm⟩⟩ := hp
    refine ⟨[.glob 1 1 64 (fun i => [.int .u32 (kOf i)]), .data fr 87 4 n (leafG false (leafL n get))], ⟨hK.same.1, ⟨rfl, rfl, rfl, rfl, fun i j hi hj => by rw [hst i j hi hj]; exact Cell.le_refl _⟩, trivial⟩, ?_⟩
    clear hK
    have hL : (leafL n get).length = n := leafL_len
    generalize leafL n get = L at hL hok ⊢
    have q1 : leavesPre 87 4 n (fun i j => (leafG false L i j).old) := by rw [← hL]; exact leavesPre_old hok (by omega)
    have e1 : leafL n (fun i j => (leafG false L i j).old) = L := by rw [← hL]; exact leaves_old hok
    have hR : HashC (hashC f) := ⟨f, rfl, hf_⟩
    have q2 : mayL c L = true → unPre 1 1 64 (fun i => [.int .u32 (kOf i)]) (hashC f) c 87 4 n (fun i j => (leafG false L i j).old) := fun h => ⟨ksAt_self, hR, q1, by rw [e1]; exact h⟩
    generalize hB : lackB (hOf (hashC f)) c L k = B
    generalize hU : hOf (hashC f) = F at hB
    unfold hashC at hU ⊢
    unfold sMayPr sUndP sRoot
    generalize hg0 : (List.length : List UInt8 → Nat) = g0
    generalize hL : lft Tryd.prog _ = L
    try unfold leafG
    generalize ho0 : @ltB = zo0, ho1 : @rootF = zo1, ho2 : @rootPre = zo2, ho3 : @hOf = zo3, ho4 : @HashC = zo4, ho5 : @kOf = zo5, ho6 : @u8s = zo6, ho7 : @lK = zo7, ho8 : @lV = zo8, ho9 : @lI = zo9, ho10 : @lP = zo10, ho11 : @lN = zo11, ho12 : @pG = zo12, ho13 : @leafL = zo13, ho14 : @leavesPre = zo14, ho15 : @mayL = zo15, ho16 : @underB = zo16, ho17 : @lackE = zo17, ho18 : @lackB = zo18, ho19 : @unPre = zo19, ho20 : @eqH = zo20, ho21 : @vlPre = zo21
    generalize hA : Arith.std = A
    cbv
    subst hA hg0 hL ho0 ho1 ho2 ho3 ho4 ho5 ho6 ho7 ho8 ho9 ho10 ho11 ho12 ho13 ho14 ho15 ho16 ho17 ho18 ho19 ho20 ho21
    refine Need.mk q1 fun _ => ?_
    simp only [e1, hU]
    refine Ife.mk (fun h => ?_) (fun h => ?_)
    · have h : mayL c L = false := by simpa using (show (!mayL c L) = true from h)
      have hb : B = false := by rw [← hB]; unfold lackB; rw [h]; rfl
      rw [hb]
      exact ⟨[0, 1], ⟨rfl, by repeat' (first | exact trivial | exact rfl | apply And.intro | exact (fun _ _ _ _ => Cell.le_refl _) | (intro i hi; rfl) | (intro i hi; exact absurd hi (Nat.not_lt_zero _))), by decide, rfl, by repeat' (first | exact trivial | exact rfl | apply And.intro | exact (fun _ _ _ _ => Cell.le_refl _) | (intro i hi; rfl) | (intro i hi; exact absurd hi (Nat.not_lt_zero _)))⟩⟩
    have hmay : mayL c L = true := by simpa using (show (!mayL c L) = false from h)
    clear h
    refine Need.mk (q2 hmay) fun _ => ?_
    refine Ife.mk (fun h => ?_) (fun h => ?_)
    · have h : underB F c L = false := by simpa using (show (!underB F c L) = true from h)
      have hb : B = false := by rw [← hB]; unfold lackB; rw [hmay, h]; rfl
      rw [hb]
      exact ⟨[0, 1], ⟨rfl, by repeat' (first | exact trivial | exact rfl | apply And.intro | exact (fun _ _ _ _ => Cell.le_refl _) | (intro i hi; rfl) | (intro i hi; exact absurd hi (Nat.not_lt_zero _))), by decide, rfl, by repeat' (first | exact trivial | exact rfl | apply And.intro | exact (fun _ _ _ _ => Cell.le_refl _) | (intro i hi; rfl) | (intro i hi; exact absurd hi (Nat.not_lt_zero _)))⟩⟩
    have hun : underB F c L = true := by simpa using (show (!underB F c L) = false from h)
    clear h
    have hbe : B = lackE F c L k := by rw [← hB]; unfold lackB; rw [hmay, hun]; rfl
    unfold lackE at hbe
    refine Ife.mk (fun h => ?_) (fun h => ?_)
    · have h : (@Nat.cast Int instNatCastInt n) = 0 := of_decide_eq_true (p := (n : Int) = 0) h
      rw [if_pos (by omega)] at hbe
      refine Ife.mk (fun h2 => ?_) (fun h2 => ?_)
      · have h2 : c = 0 := of_decide_eq_true (p := c = 0) h2
        refine Need.mk ⟨ksAt_self, fun _ => 0, rfl, fun _ => ⟨Int.le_refl 0, (by decide : (0 : Int) < 256)⟩⟩ fun _ => ?_
        rw [show B = eqH (hOf (hashC f)) (rootF 0 (hashB fun _ => 0)) by rw [hbe, decide_eq_true h2, Bool.true_and, ← hU]; rfl]
        exact ⟨[0, 1], ⟨rfl, by repeat' (first | exact trivial | exact rfl | apply And.intro | exact (fun _ _ _ _ => Cell.le_refl _) | (intro i hi; rfl) | (intro i hi; exact absurd hi (Nat.not_lt_zero _))), by decide, rfl, by repeat' (first | exact trivial | exact rfl | apply And.intro | exact (fun _ _ _ _ => Cell.le_refl _) | (intro i hi; rfl) | (intro i hi; exact absurd hi (Nat.not_lt_zero _)))⟩⟩
      · have h2 : ¬ c = 0 := of_decide_eq_false (p := c = 0) h2
        rw [show B = false by rw [hbe, decide_eq_false h2]; rfl]
        exact ⟨[0, 1], ⟨rfl, by repeat' (first | exact trivial | exact rfl | apply And.intro | exact (fun _ _ _ _ => Cell.le_refl _) | (intro i hi; rfl) | (intro i hi; exact absurd hi (Nat.not_lt_zero _))), by decide, rfl, by repeat' (first | exact trivial | exact rfl | apply And.intro | exact (fun _ _ _ _ => Cell.le_refl _) | (intro i hi; rfl) | (intro i hi; exact absurd hi (Nat.not_lt_zero _)))⟩⟩
    have hn0 : ¬ (n : Int) = 0 := of_decide_eq_false (p := (n : Int) = 0) h
    rw [if_neg (by omega)] at hbe
    refine Ife.mk (fun h => ?_) (fun h => ?_)
    · have h : (@Nat.cast Int instNatCastInt n) = 1 := of_decide_eq_true (p := (n : Int) = 1) h
      rw [if_pos (by omega)] at hbe
      have hL1 : L.length = 1 := by omega
      have p0 : (0 : Int) ≤ 0 ∧ (0 : Int) < (n : Int) := by omega
      have p1 : (0 : Int).toNat < n := by omega
      have hcr := (mayL_all hmay).1
      have p2 : fitStd .i64 (c - 1) := by unfold fitStd; omega
      refine Need.mk p0 fun _ => Need.mk p1 fun _ => ?_
      refine Ife.mk (fun h2 => ?_) (fun h2 => ?_)
      · have h2 : lI L 0 = 0 := of_decide_eq_true (p := lI L 0 = 0) h2
        refine Need.mk p0 fun _ => Need.mk p1 fun _ => ?_
        refine Ife.mk (fun h3 => ?_) (fun h3 => ?_)
        · have h3 : ltB k (lK L 0) = true := h3
          rw [show B = true by rw [hbe, decide_eq_true h2, h3]; rfl]
          exact ⟨[0, 1], ⟨rfl, by repeat' (first | exact trivial | exact rfl | apply And.intro | exact (fun _ _ _ _ => Cell.le_refl _) | (intro i hi; rfl) | (intro i hi; exact absurd hi (Nat.not_lt_zero _))), by decide, rfl, by repeat' (first | exact trivial | exact rfl | apply And.intro | exact (fun _ _ _ _ => Cell.le_refl _) | (intro i hi; rfl) | (intro i hi; exact absurd hi (Nat.not_lt_zero _)))⟩⟩
        · have h3 : ltB k (lK L 0) = false := h3
          refine Need.mk p0 fun _ => Need.mk p1 fun _ => Need.mk p2 fun _ => ?_
          refine Ife.mk (fun h4 => ?_) (fun h4 => ?_)
          · have h4 : lI L 0 = c - 1 := of_decide_eq_true (p := lI L 0 = c - 1) h4
            refine Need.mk p0 fun _ => Need.mk p1 fun _ => ?_
            rw [show B = ltB (lK L 0) k by rw [hbe, decide_eq_true h2, h3, decide_eq_true h4]; rfl]
            exact ⟨[0, 1], ⟨rfl, by repeat' (first | exact trivial | exact rfl | apply And.intro | exact (fun _ _ _ _ => Cell.le_refl _) | (intro i hi; rfl) | (intro i hi; exact absurd hi (Nat.not_lt_zero _))), by decide, rfl, by repeat' (first | exact trivial | exact rfl | apply And.intro | exact (fun _ _ _ _ => Cell.le_refl _) | (intro i hi; rfl) | (intro i hi; exact absurd hi (Nat.not_lt_zero _)))⟩⟩
          · have h4 : ¬ lI L 0 = c - 1 := of_decide_eq_false (p := lI L 0 = c - 1) h4
            rw [show B = false by rw [hbe, decide_eq_true h2, h3, decide_eq_false h4]; rfl]
            exact ⟨[0, 1], ⟨rfl, by repeat' (first | exact trivial | exact rfl | apply And.intro | exact (fun _ _ _ _ => Cell.le_refl _) | (intro i hi; rfl) | (intro i hi; exact absurd hi (Nat.not_lt_zero _))), by decide, rfl, by repeat' (first | exact trivial | exact rfl | apply And.intro | exact (fun _ _ _ _ => Cell.le_refl _) | (intro i hi; rfl) | (intro i hi; exact absurd hi (Nat.not_lt_zero _)))⟩⟩
      · have h2 : ¬ lI L 0 = 0 := of_decide_eq_false (p := lI L 0 = 0) h2
        refine Need.mk p0 fun _ => Need.mk p1 fun _ => Need.mk p2 fun _ => ?_
        refine Ife.mk (fun h4 => ?_) (fun h4 => ?_)
        · have h4 : lI L 0 = c - 1 := of_decide_eq_true (p := lI L 0 = c - 1) h4
          refine Need.mk p0 fun _ => Need.mk p1 fun _ => ?_
          rw [show B = ltB (lK L 0) k by rw [hbe, decide_eq_false h2, decide_eq_true h4]; rfl]
          exact ⟨[0, 1], ⟨rfl, by repeat' (first | exact trivial | exact rfl | apply And.intro | exact (fun _ _ _ _ => Cell.le_refl _) | (intro i hi; rfl) | (intro i hi; exact absurd hi (Nat.not_lt_zero _))), by decide, rfl, by repeat' (first | exact trivial | exact rfl | apply And.intro | exact (fun _ _ _ _ => Cell.le_refl _) | (intro i hi; rfl) | (intro i hi; exact absurd hi (Nat.not_lt_zero _)))⟩⟩
        · have h4 : ¬ lI L 0 = c - 1 := of_decide_eq_false (p := lI L 0 = c - 1) h4
          rw [show B = false by rw [hbe, decide_eq_false h2, decide_eq_false h4]; rfl]
          exact ⟨[0, 1], ⟨rfl, by repeat' (first | exact trivial | exact rfl | apply And.intro | exact (fun _ _ _ _ => Cell.le_refl _) | (intro i hi; rfl) | (intro i hi; exact absurd hi (Nat.not_lt_zero _))), by decide, rfl, by repeat' (first | exact trivial | exact rfl | apply And.intro | exact (fun _ _ _ _ => Cell.le_refl _) | (intro i hi; rfl) | (intro i hi; exact absurd hi (Nat.not_lt_zero _)))⟩⟩
    have hn1 : ¬ (n : Int) = 1 := of_decide_eq_false (p := (n : Int) = 1) h
    rw [if_neg (by omega)] at hbe
    have hcr := (mayL_all hmay).1
    have p0 : (0 : Int) ≤ 0 ∧ (0 : Int) < (n : Int) := by omega
    have p1 : (0 : Int).toNat < n := by omega
    have q0 : (0 : Int) ≤ 1 ∧ (1 : Int) < (n : Int) := by omega
    have q1 : (1 : Int).toNat < n := by omega
    have m0 := mayAt_iff.1 ((mayL_all hmay).2 0 (by omega))
    have m1 := mayAt_iff.1 ((mayL_all hmay).2 1 (by omega))
    refine Need.mk q0 fun _ => Need.mk q1 fun _ => Need.mk p0 fun _ => Need.mk p1 fun _ => Need.mk (by show fitStd .i64 (lI L 1 - lI L 0); unfold fitStd; omega) fun _ => ?_
    refine Ife.mk (fun h2 => ?_) (fun h2 => ?_)
    · have h2 : lI L 1 - lI L 0 = 1 := of_decide_eq_true (p := lI L 1 - lI L 0 = 1) h2
      refine Need.mk p0 fun _ => Need.mk p1 fun _ => ?_
      refine Ife.mk (fun h3 => ?_) (fun h3 => ?_)
      · have h3 : ltB (lK L 0) k = true := h3
        refine Need.mk q0 fun _ => Need.mk q1 fun _ => ?_
        rw [show B = ltB k (lK L 1) by rw [hbe, decide_eq_true h2, h3]; rfl]
        exact ⟨[0, 1], ⟨rfl, by repeat' (first | exact trivial | exact rfl | apply And.intro | exact (fun _ _ _ _ => Cell.le_refl _) | (intro i hi; rfl) | (intro i hi; exact absurd hi (Nat.not_lt_zero _))), by decide, rfl, by repeat' (first | exact trivial | exact rfl | apply And.intro | exact (fun _ _ _ _ => Cell.le_refl _) | (intro i hi; rfl) | (intro i hi; exact absurd hi (Nat.not_lt_zero _)))⟩⟩
      · have h3 : ltB (lK L 0) k = false := h3
        rw [show B = false by rw [hbe, decide_eq_true h2, h3]; rfl]
        exact ⟨[0, 1], ⟨rfl, by repeat' (first | exact trivial | exact rfl | apply And.intro | exact (fun _ _ _ _ => Cell.le_refl _) | (intro i hi; rfl) | (intro i hi; exact absurd hi (Nat.not_lt_zero _))), by decide, rfl, by repeat' (first | exact trivial | exact rfl | apply And.intro | exact (fun _ _ _ _ => Cell.le_refl _) | (intro i hi; rfl) | (intro i hi; exact absurd hi (Nat.not_lt_zero _)))⟩⟩
    · have h2 : ¬ lI L 1 - lI L 0 = 1 := of_decide_eq_false (p := lI L 1 - lI L 0 = 1) h2
      rw [show B = false by rw [hbe, decide_eq_false h2]; rfl]
      exact ⟨[0, 1], ⟨rfl, by repeat' (first | exact trivial | exact rfl | apply And.intro | exact (fun _ _ _ _ => Cell.le_refl _) | (intro i hi; rfl) | (intro i hi; exact absurd hi (Nat.not_lt_zero _))), by decide, rfl, by repeat' (first | exact trivial | exact rfl | apply And.intro | exact (fun _ _ _ _ => Cell.le_refl _) | (intro i hi; rfl) | (intro i hi; exact absurd hi (Nat.not_lt_zero _)))⟩⟩

end Go.Proofs.YtbbpgicoklhheaaDoor.Vx
end

section
/- What is kept at heights, plainly. -/
namespace Go.Proofs.YtbbpgicoklhheaaDoor.Vx
open Sha
open Go.RowKit
set_option linter.unusedVariables false
set_option linter.unusedSimpArgs false
/-- A height, a time, and what was stored then. -/
abbrev PaR := Int × Int × List PP
def pH (L : List PaR) (i : Nat) : Int := (L.getD i (0, 0, [])).1
/-- The numbers of a header: height, time, root. -/
def h34 (h t : Int) (f : Nat → Int) : List Int := [h, t, f 0, f 1, f 2, f 3, f 4, f 5, f 6, f 7, f 8, f 9, f 10, f 11, f 12, f 13, f 14, f 15, f 16, f 17, f 18, f 19, f 20, f 21, f 22, f 23, f 24, f 25, f 26, f 27, f 28, f 29, f 30, f 31]
def pNum (r : PaR) : Nat → Int := numL (h34 r.1 r.2.1 (rootL r.2.2))
def pKey (h : Int) : Value := .agg #[.int .i64 h]
def pRec (r : PaR) : MRec := ⟨pNum r, r.2.2.length, prG r.2.2⟩
def pQ (L : List PaR) : List (Value × MRec) := L.map fun r => (pKey r.1, pRec r)
def pOf (q : Value × MRec) : PaR := (q.2.num 0, q.2.num 1, prL q.2.n q.2.get)
def pL (l : List (Value × MRec)) : List PaR := l.map pOf
def mkGP (zp0 : type_of% @pH) (L : List PaR) (i : Nat) : List CV := [.int .i64 (zp0 L i)]
@[reducible] def mkG := mkGP pH
/-- A header, as cells. -/
def hd34 (f : Nat → Int) : List CV := [.int .i64 (f 0), .int .i64 (f 1), .int .u8 (f 2), .int .u8 (f 3), .int .u8 (f 4), .int .u8 (f 5), .int .u8 (f 6), .int .u8 (f 7), .int .u8 (f 8), .int .u8 (f 9), .int .u8 (f 10), .int .u8 (f 11), .int .u8 (f 12), .int .u8 (f 13), .int .u8 (f 14), .int .u8 (f 15), .int .u8 (f 16), .int .u8 (f 17), .int .u8 (f 18), .int .u8 (f 19), .int .u8 (f 20), .int .u8 (f 21), .int .u8 (f 22), .int .u8 (f 23), .int .u8 (f 24), .int .u8 (f 25), .int .u8 (f 26), .int .u8 (f 27), .int .u8 (f 28), .int .u8 (f 29), .int .u8 (f 30), .int .u8 (f 31), .int .u8 (f 32), .int .u8 (f 33)]
def pMT : MTy := ⟨[0], [.i64, .i64, .u8, .u8, .u8, .u8, .u8, .u8, .u8, .u8, .u8, .u8, .u8, .u8, .u8, .u8, .u8, .u8, .u8, .u8, .u8, .u8, .u8, .u8, .u8, .u8, .u8, .u8, .u8, .u8, .u8, .u8, .u8, .u8], 65, 44, 2⟩
theorem pL_pQ (L : List PaR) : pL (pQ L) = L := by
  unfold pL pQ
  rw [List.map_map]
  conv => rhs; rw [← List.map_id L]
  apply List.map_congr_left
  rintro ⟨h, t, S⟩ _
  show (h, t, prL S.length (prG S)) = _
  rw [prL_prG]
  rfl
theorem pQ_app (L : List PaR) (r : PaR) : pQ (L ++ [r]) = pQ L ++ [(pKey r.1, pRec r)] := by simp [pQ]
/-- Is something kept at a height? -/
def paHas (L : List PaR) (h : Int) : Bool := match L with
  | [] => false
  | r :: L => if r.1 = h then true else paHas L h
def paRec (L : List PaR) (h : Int) : PaR := match L with
  | [] => (0, 0, [])
  | r :: L => if r.1 = h then r else paRec L h
def paL (L : List PaR) (h : Int) : List PP := (paRec L h).2.2
def paNum (L : List PaR) (h : Int) : Nat → Int := if paHas L h = true then pNum (paRec L h) else fun _ => 0
theorem pKey_inj {a b : Int} : pKey a = pKey b ↔ a = b := by simp [pKey]
open Classical in
theorem mqHas_pQ (L : List PaR) (h : Int) : mqHas (pKey h) (pQ L) = paHas L h := by
  induction L with
  | nil => rfl
  | cons r L ih =>
    show (if pKey r.1 = pKey h then true else mqHas (pKey h) (pQ L)) = if r.1 = h then true else paHas L h
    rw [ih]
    by_cases e : r.1 = h
    · rw [if_pos e, if_pos (pKey_inj.2 e)]
    · rw [if_neg e, if_neg (fun k => e (pKey_inj.1 k))]
open Classical in
theorem mqRec_pQ {L : List PaR} {h : Int} (hh : paHas L h = true) : mqRec (pKey h) (pQ L) = pRec (paRec L h) := by
  induction L with
  | nil => cases hh
  | cons r L ih =>
    show (if pKey r.1 = pKey h then pRec r else mqRec (pKey h) (pQ L)) = pRec (if r.1 = h then r else paRec L h)
    by_cases e : r.1 = h
    · rw [if_pos e, if_pos (pKey_inj.2 e)]
    · rw [if_neg e, if_neg (fun k => e (pKey_inj.1 k))]
      refine ih ?_
      have hh : (if r.1 = h then true else paHas L h) = true := hh
      rwa [if_neg e] at hh
theorem mqNum_pQ {L : List PaR} {h : Int} (hh : paHas L h = true) : mqNum (pKey h) (pQ L) = paNum L h := by
  unfold mqNum paNum
  rw [mqRec_pQ hh, if_pos hh]
  rfl
theorem mqN_pQ {L : List PaR} {h : Int} (hh : paHas L h = true) : mqN (pKey h) (pQ L) = (paL L h).length := by
  unfold mqN
  rw [mqRec_pQ hh]
  rfl
theorem mqRow_pQ {L : List PaR} {h : Int} (hh : paHas L h = true) : mqRow (pKey h) (pQ L) = prG (paL L h) := by
  unfold mqRow
  rw [mqRec_pQ hh]
  rfl
theorem paL_no {L : List PaR} {h : Int} (hh : paHas L h = false) : paRec L h = (0, 0, []) := by
  induction L with
  | nil => rfl
  | cons r L ih =>
    have hh : (if r.1 = h then true else paHas L h) = false := hh
    show (if r.1 = h then r else paRec L h) = _
    by_cases e : r.1 = h
    · rw [if_pos e] at hh; cases hh
    · rw [if_neg e] at hh ⊢
      exact ih hh
theorem paHas_mem {L : List PaR} {h : Int} : paHas L h = true ↔ ∃ r ∈ L, r.1 = h := by
  induction L with
  | nil =>
    constructor
    · intro h; cases h
    · rintro ⟨_, h, _⟩; cases h
  | cons r L ih =>
    show (if r.1 = h then true else paHas L h) = true ↔ _
    by_cases e : r.1 = h
    · rw [if_pos e]; exact ⟨fun _ => ⟨r, by simp, e⟩, fun _ => rfl⟩
    · rw [if_neg e, ih]
      constructor
      · rintro ⟨q, h1, h2⟩; exact ⟨q, by simp [h1], h2⟩
      · rintro ⟨q, h1, h2⟩
        rcases List.mem_cons.1 h1 with h3 | h3
        · subst h3; exact absurd h2 e
        · exact ⟨q, h3, h2⟩
theorem paRec_mem {L : List PaR} {h : Int} (hh : paHas L h = true) : paRec L h ∈ L ∧ (paRec L h).1 = h := by
  induction L with
  | nil => cases hh
  | cons r L ih =>
    have hh : (if r.1 = h then true else paHas L h) = true := hh
    show (if r.1 = h then r else paRec L h) ∈ r :: L ∧ (if r.1 = h then r else paRec L h).1 = h
    by_cases e : r.1 = h
    · rw [if_pos e]; exact ⟨by simp, e⟩
    · rw [if_neg e] at hh ⊢
      exact ⟨by simp [(ih hh).1], (ih hh).2⟩
open Classical in
theorem mqSet_pQ {L : List PaR} {h : Int} (m : MRec) (hh : paHas L h = false) : mqSet (pKey h) m (pQ L) = pQ L ++ [(pKey h, m)] := by
  induction L with
  | nil => rfl
  | cons r L ih =>
    have hh : (if r.1 = h then true else paHas L h) = false := hh
    by_cases e : r.1 = h
    · rw [if_pos e] at hh; cases hh
    · rw [if_neg e] at hh
      show (if pKey r.1 = pKey h then _ else (pKey r.1, pRec r) :: mqSet (pKey h) m (pQ L)) = _
      rw [if_neg (fun k => e (pKey_inj.1 k)), ih hh]
      rfl
/-- What is kept: heights rise, pairs are in order. -/
structure PaS (L : List PaR) : Prop where
  up : L.Pairwise fun a b => a.1 < b.1
  pos : ∀ r ∈ L, 1 ≤ r.1 ∧ r.1 ≤ 1099511627776
  ok : ∀ r ∈ L, StS r.2.2 ∧ AllSz r.2.2 ∧ r.2.2.length ≤ 1000000
  len : L.length ≤ 1000000
def pLast (L : List PaR) : Int := if L.length = 0 then 0 else pH L (L.length - 1)
theorem pH_mem {L : List PaR} {i : Nat} (h : i < L.length) : ∃ r ∈ L, r.1 = pH L i := ⟨L[i], List.getElem_mem h, by simp [pH, List.getD, h]⟩
theorem PaS.last {L : List PaR} (hp : PaS L) : ∀ r ∈ L, r.1 ≤ pLast L := fun r hr => by
  obtain ⟨i, hi, rfl⟩ := List.getElem_of_mem hr
  have h0 : ¬ L.length = 0 := by omega
  unfold pLast
  rw [if_neg h0]
  have e : pH L (L.length - 1) = (L[L.length - 1]'(by omega)).1 := by simp [pH, List.getD, show L.length - 1 < L.length by omega]
  rw [e]
  rcases Nat.lt_or_ge i (L.length - 1) with h | h
  · have := List.pairwise_iff_getElem.1 hp.up i (L.length - 1) hi (by omega) h
    omega
  · have : i = L.length - 1 := by omega
    subst this
    exact Int.le_refl _
theorem pLast_nonneg {L : List PaR} (hp : PaS L) : 0 ≤ pLast L ∧ pLast L ≤ 1099511627776 := by
  unfold pLast
  split
  · omega
  · rename_i h0
    obtain ⟨r, h1, h2⟩ := pH_mem (L := L) (i := L.length - 1) (by omega)
    have := hp.pos r h1
    omega
theorem PaS.at {L : List PaR} (hp : PaS L) (h : Int) : StS (paL L h) ∧ AllSz (paL L h) ∧ (paL L h).length ≤ 1000000 := by
  unfold paL
  cases hb : paHas L h with
  | true => exact hp.ok _ (paRec_mem hb).1
  | false =>
    rw [paL_no hb]
    exact ⟨List.Pairwise.nil, (fun p hp => by cases hp), by decide⟩
/-- What Keep says, and what is kept then. -/
def keepE (L : List PaR) (h t : Int) : Int := if h < 1 ∨ 1099511627776 < h ∨ t < 0 ∨ 1099511627776 < t then 1 else if h ≤ pLast L then 16 else 0
def keepL (L : List PaR) (h t : Int) (S : List PP) : List PaR := if keepE L h t = 0 then L ++ [(h, t, S)] else L
theorem keepE_ok {L : List PaR} {h t : Int} (h1 : ¬ h < 1) (h2 : ¬ 1099511627776 < h) (h3 : ¬ t < 0) (h4 : ¬ 1099511627776 < t) (h5 : ¬ h ≤ pLast L) : keepE L h t = 0 := by
  unfold keepE
  rw [if_neg (by omega), if_neg h5]
theorem keepE_yes {L : List PaR} {h t : Int} (k : keepE L h t = 0) : 1 ≤ h ∧ h ≤ 1099511627776 ∧ 0 ≤ t ∧ t ≤ 1099511627776 ∧ pLast L < h := by
  unfold keepE at k
  split at k
  · cases k
  · split at k
    · cases k
    · omega
theorem PaS.new {L : List PaR} (hp : PaS L) {h : Int} (k : pLast L < h) : paHas L h = false := by
  rw [Bool.eq_false_iff]
  intro hb
  obtain ⟨r, h1, h2⟩ := paHas_mem.1 hb
  have := hp.last r h1
  omega
theorem keepL_ok {L : List PaR} {h t : Int} {S : List PP} (hp : PaS L) (hS : StS S ∧ AllSz S ∧ S.length ≤ 1000000) (hl : L.length < 1000000) : PaS (keepL L h t S) := by
  unfold keepL
  split
  · rename_i k
    obtain ⟨h1, h2, h3, h4, h5⟩ := keepE_yes k
    refine ⟨List.pairwise_append.2 ⟨hp.up, List.pairwise_singleton _ _, fun a ha b hb => ?_⟩, fun r hr => ?_, fun r hr => ?_, by simp; omega⟩
    · rw [List.mem_singleton.1 hb]
      have := hp.last a ha
      show a.1 < h
      omega
    · rcases List.mem_append.1 hr with k | k
      · exact hp.pos r k
      · rw [List.mem_singleton.1 k]; exact ⟨h1, h2⟩
    · rcases List.mem_append.1 hr with k | k
      · exact hp.ok r k
      · rw [List.mem_singleton.1 k]; exact hS
  · exact hp
theorem pas_nil : PaS [] := ⟨List.Pairwise.nil, (fun r h => by cases h), (fun r h => by cases h), by decide⟩
theorem mk_push (L : List PaR) (r : PaR) (i : Nat) (h : i < L.length + 1) : pushG L.length (mkG L) [.int .i64 r.1] i = mkG (L ++ [r]) i := by
  unfold pushG mkG mkGP pH
  by_cases hi : i < L.length
  · rw [show Nat.blt i L.length = true by simpa [Nat.blt_eq] using hi]
    simp [List.getD, List.getElem?_append_left hi]
  · rw [show Nat.blt i L.length = false by rw [Bool.eq_false_iff]; intro h2; exact hi (by simpa [Nat.blt_eq] using h2)]
    obtain rfl : i = L.length := by omega
    simp [List.getD]
/-- What a past is, in memory. -/
def paPre (t : Nat) (mt : MTy) (ml : List (Value × MRec)) (ty one n : Nat) (get : Nat → List CV) : Prop := t = 63 ∧ mt = pMT ∧ ml = pQ (pL ml) ∧ ty = 73 ∧ one = 1 ∧ n = (pL ml).length ∧ (∀ i, i < n → get i = mkG (pL ml) i) ∧ PaS (pL ml)
theorem paPre_mk {L : List PaR} (h : PaS L) : paPre 63 pMT (pQ L) 73 1 L.length (mkG L) := by
  refine ⟨rfl, rfl, ?_, rfl, rfl, ?_, fun i _ => ?_, ?_⟩ <;> rw [pL_pQ]
  exact h
end Go.Proofs.YtbbpgicoklhheaaDoor.Vx
end

section
/- Acts on a store, by the walker: Few; and the store's Prove. -/
namespace Go.Proofs.YtbbpgicoklhheaaDoor.Vx
open Sha
open Go.RowKit
set_option linter.unusedVariables false
set_option linter.unusedSimpArgs false






end Go.Proofs.YtbbpgicoklhheaaDoor.Vx
end

section
/- Stores that lie still: find, Get, Under, Prove, by the walker. -/
namespace Go.Proofs.YtbbpgicoklhheaaDoor.Vx
open Sha
open Go.RowKit
set_option linter.unusedVariables false
set_option linter.unusedSimpArgs false
/-- A store that lies still, as a cell. -/
def esLP (zp0 : type_of% @prL) : Cell → List PP
  | .es _ _ _ n g => zp0 n g
  | _ => []
@[reducible] def esL := esLP prL
def esN : Cell → Nat
  | .es _ _ _ n _ => n
  | _ => 0
def esPre (fr : Bool) (ty sz n : Nat) (c : Cell) : Prop := fr = false ∧ ty = 65 ∧ sz = 1 ∧ n = 1 ∧ ∃ m g, c = .es false 44 2 m g ∧ PrAt m g ∧ m ≤ 1000000
theorem esPre_mk {L : List PP} {n : Nat} (hm : n ≤ 1000000) : esPre false 65 1 1 (.es false 44 2 n (prG L)) := ⟨rfl, rfl, rfl, rfl, n, prG L, rfl, prAt_prG n L, hm⟩
def tbSq : Tbl where
  T :=
    (3, ⟨1, false, [.int .i64 (0)], .int .i64, 8⟩) ::
    (4, ⟨1, false, [.ff], .bool, 1⟩) ::
    (9, ⟨1, false, [.str []], .str, 16⟩) ::
    (105, ⟨1, false, [.int .u64 (0)], .int .u64, 8⟩) ::
    (44, ⟨2, true, [.str [], .str []], .struct [(0, (1, false)), (1, (1, false))], 32⟩) ::
    (41, ⟨1, false, [.val (.slice none 0 0)], .slice 44, 24⟩) ::
    (65, ⟨1, true, [.val (.slice none 0 0)], .struct [(0, (1, false))], 24⟩) ::
    (27, ⟨1, false, [.val (.pointer none)], .ptr 65, 8⟩) ::
    []
  F :=
    []

theorem tbSq_ok : tbSq.Ok Tryd.prog where
  T :=
    TblOk.cons (by kernel_rfl) <|
    TblOk.cons (by kernel_rfl) <|
    TblOk.cons (by kernel_rfl) <|
    TblOk.cons (by kernel_rfl) <|
    TblOk.cons (by kernel_rfl) <|
    TblOk.cons (by kernel_rfl) <|
    TblOk.cons (by kernel_rfl) <|
    TblOk.cons (by kernel_rfl) <|
    TblOk.nil _
  F :=
    FlatsOk.nil _

def sFindQ : SpecF
  | [.c (.eptr 0 0 1 0), .c (.str k)], [.data fr ty sz n0 get] => some (esPre fr ty sz n0 (get 0 0) ∧ StS (esL (get 0 0)), .tup [(some (.int .i64 (findI (esL (get 0 0)) k : Int)), []), (some (.bool (findB (esL (get 0 0)) k)), [])], [.data false 65 1 1 fun _ _ => .es false 44 2 (esN (get 0 0)) (prG (esL (get 0 0)))])
  | _, _ => none

set_option maxRecDepth 100000 in
set_option maxHeartbeats 8000000 in
theorem findQP : Fn Tryd.prog 21 [] [] sFindQ := by
  have hC : CtsOk Tryd.prog [(35, appFn [] [(44, 2)] sBs)] := CtsOk.cons (Fn.ct bsP) <| CtsOk.nil _
  refine Fn.of (E := tbSq) [] 0 [] tbSq_ok hC (by kernel_rfl) Tryd.func21 rfl rfl rfl (by kernel_rfl) (by kernel_rfl) 1 5 1 ?_ ?_
  · intro args h pre r h' hs
    unfold sFindQ at hs
    split at hs
    · cases hs; exact ⟨rfl, rfl, Nat.le_of_ble_eq_true rfl⟩
    · cases hs
  · intro args h pre r h' hs hp
    unfold sFindQ at hs
    split at hs
    rotate_left
    · cases hs
    rename_i k fr ty sz n0 get
    cases hs
    obtain ⟨⟨rfl, rfl, rfl, rfl, n, g, hc, hst, hm⟩, hs⟩ := hp
    rw [hc] at hs ⊢
    replace hs : StS (prL n g) := hs
    refine ⟨[.data false 65 1 1 fun _ _ => .es false 44 2 n (prG (prL n g))], ⟨⟨rfl, rfl, rfl, rfl, fun i j hi hj => ?_⟩, trivial⟩, ?_⟩
    · obtain rfl : i = 0 := by omega
      obtain rfl : j = 0 := by omega
      rw [hc]
      exact es_leq rfl fun i hi => hst.eq hi
    dsimp only [esL, esLP, esN]
    have hL : (prL n g).length = n := prL_len
    have ePR : prL n (prG (prL n g)) = prL n g := by
      have := prL_prG (prL n g)
      rwa [hL] at this
    clear hc
    generalize prL n g = L at hL hs ePR ⊢
    unfold sBs
    generalize hg0 : (List.length : List PP → Nat) = g0
    try unfold prG
    try unfold esL
    generalize ho0 : @prK = zo0, ho1 : @prV = zo1, ho2 : @prL = zo2, ho3 : @findI = zo3, ho4 : @findB = zo4, ho5 : @prPre = zo5, ho6 : @StS = zo6, ho7 : @esPre = zo7
    generalize hA : Arith.std = A
    cbv
    subst hA hg0 ho0 ho1 ho2 ho3 ho4 ho5 ho6 ho7
    try simp only [esL, esLP, esN, Cell.old]
    refine Need.mk (Nat.le_refl 1) fun _ => Need.mk ⟨⟨rfl, rfl, prAt_prG n L, hm⟩, by rw [ePR]; exact hs⟩ fun _ => ?_
    rw [ePR]
    exact ⟨[0], ⟨rfl, (by repeat' (first | exact trivial | exact rfl | apply And.intro | exact (fun _ _ _ _ => Cell.le_refl _) | (intro i hi; rfl) | (intro i hi; exact absurd hi (Nat.not_lt_zero _)))), (by first | decide | exact List.nodup_nil), rfl, by repeat' (first | exact trivial | exact rfl | apply And.intro | exact (fun _ _ _ _ => Cell.le_refl _) | (intro i hi; rfl) | (intro i hi; exact absurd hi (Nat.not_lt_zero _)))⟩⟩

def sGetQ : SpecF
  | [.c (.eptr 0 0 1 0), .c (.str k)], [.data fr ty sz n0 get] => some (esPre fr ty sz n0 (get 0 0) ∧ StS (esL (get 0 0)), .tup [(some (.str (getL (esL (get 0 0)) k)), []), (some (.bool (findB (esL (get 0 0)) k)), [])], [.data false 65 1 1 fun _ _ => .es false 44 2 (esN (get 0 0)) (prG (esL (get 0 0)))])
  | _, _ => none

set_option maxRecDepth 100000 in
set_option maxHeartbeats 8000000 in
theorem getQP : Fn Tryd.prog 29 [] [] sGetQ := by
  have hC : CtsOk Tryd.prog [(21, appFn [] [] sFindQ)] := CtsOk.cons (Fn.ct findQP) <| CtsOk.nil _
  refine Fn.of (E := tbSq) [] 0 [] tbSq_ok hC (by kernel_rfl) Tryd.func29 rfl rfl rfl (by kernel_rfl) (by kernel_rfl) 1 5 1 ?_ ?_
  · intro args h pre r h' hs
    unfold sGetQ at hs
    split at hs
    · cases hs; exact ⟨rfl, rfl, Nat.le_of_ble_eq_true rfl⟩
    · cases hs
  · intro args h pre r h' hs hp
    unfold sGetQ at hs
    split at hs
    rotate_left
    · cases hs
    rename_i k fr ty sz n0 get
    cases hs
    obtain ⟨⟨rfl, rfl, rfl, rfl, n, g, hc, hst, hm⟩, hs⟩ := hp
    rw [hc] at hs ⊢
    replace hs : StS (prL n g) := hs
    refine ⟨[.data false 65 1 1 fun _ _ => .es false 44 2 n (prG (prL n g))], ⟨⟨rfl, rfl, rfl, rfl, fun i j hi hj => ?_⟩, trivial⟩, ?_⟩
    · obtain rfl : i = 0 := by omega
      obtain rfl : j = 0 := by omega
      rw [hc]
      exact es_leq rfl fun i hi => hst.eq hi
    dsimp only [esL, esLP, esN]
    have hL : (prL n g).length = n := prL_len
    have ePR : prL n (prG (prL n g)) = prL n g := by
      have := prL_prG (prL n g)
      rwa [hL] at this
    clear hc
    generalize prL n g = L at hL hs ePR ⊢
    unfold sFindQ
    generalize hg0 : (List.length : List PP → Nat) = g0
    try unfold prG
    try unfold esL
    generalize ho0 : @prK = zo0, ho1 : @prV = zo1, ho2 : @prL = zo2, ho3 : @findI = zo3, ho4 : @findB = zo4, ho5 : @getL = zo5, ho6 : @StS = zo6, ho7 : @esPre = zo7
    generalize hA : Arith.std = A
    cbv
    subst hA hg0 ho0 ho1 ho2 ho3 ho4 ho5 ho6 ho7
    try simp only [esL, esLP, esN, Cell.old]
    refine Need.mk ⟨⟨rfl, rfl, rfl, rfl, n, prG L, rfl, prAt_prG n L, hm⟩, by show StS (prL n (prG L)); rw [ePR]; exact hs⟩ fun _ => ?_
    simp only [ePR]
    refine Ife.mk (fun h => ?_) (fun h => ?_)
    · have h : (!findB L k) = true := h
      have hb : findB L k = false := by simpa using h
      have hR1 : ([] : List UInt8) = getL L k := by unfold getL; rw [hb]; rfl
      rw [hb]
      exact ⟨[0], ⟨rfl, (by repeat' (first | exact trivial | exact hR1 | exact hR2 | exact rfl | apply And.intro | exact (fun _ _ _ _ => Cell.le_refl _) | (intro i hi; rfl) | (intro i hi; exact absurd hi (Nat.not_lt_zero _)))), (by first | decide | exact List.nodup_nil), rfl, by repeat' (first | exact trivial | exact hR1 | exact hR2 | exact rfl | apply And.intro | exact (fun _ _ _ _ => Cell.le_refl _) | (intro i hi; rfl) | (intro i hi; exact absurd hi (Nat.not_lt_zero _)))⟩⟩
    · have h : (!findB L k) = false := h
      have hb : findB L k = true := by simpa using h
      obtain ⟨h1, h2⟩ := findB_eq hb
      refine Need.mk (Nat.le_refl 1) fun _ => Need.mk (by show 0 ≤ (findI L k : Int) ∧ (findI L k : Int) < (n : Int); omega) fun _ => Need.mk (by show (findI L k : Int).toNat < n; omega) fun _ => ?_
      have hR1 : prV L (findI L k) = getL L k := by unfold getL; rw [hb]; rfl
      rw [hb]
      exact ⟨[0], ⟨rfl, (by repeat' (first | exact trivial | exact hR1 | exact hR2 | exact rfl | apply And.intro | exact (fun _ _ _ _ => Cell.le_refl _) | (intro i hi; rfl) | (intro i hi; exact absurd hi (Nat.not_lt_zero _)))), (by first | decide | exact List.nodup_nil), rfl, by repeat' (first | exact trivial | exact hR1 | exact hR2 | exact rfl | apply And.intro | exact (fun _ _ _ _ => Cell.le_refl _) | (intro i hi; rfl) | (intro i hi; exact absurd hi (Nat.not_lt_zero _)))⟩⟩



def sProveQ : SpecF
  | [.c (.eptr 1 0 1 0), .c (.str k)], [.glob gg sz0 n1 get0, .data fr ty sz n0 get] => some (KsAt gg sz0 n1 get0 ∧ esPre fr ty sz n0 (get 0 0), .agg [.int .i64 (mkC (esL (get 0 0))), .row 2], [.dead, .data false 65 1 1 fun _ _ => .es false 44 2 (esN (get 0 0)) (prG (esL (get 0 0))), .data true 87 4 (lenL (mkL (esL (get 0 0)) k)) (leafG true (mkL (esL (get 0 0)) k))])
  | _, _ => none

set_option maxRecDepth 100000 in
set_option maxHeartbeats 8000000 in
theorem proveQP : Fn Tryd.prog 30 [1] [] sProveQ := by
  have hC : CtsOk Tryd.prog [(46, appFn [1] [(44, 2)] sMake)] := CtsOk.cons (Fn.ct makeP) <| CtsOk.nil _
  refine Fn.ofZ (E := tbMk) [0] 0 [] tbMk_ok hC (by kernel_rfl) Tryd.func30 rfl rfl rfl (by kernel_rfl) (by kernel_rfl) 2 (.data true 87 4 0 fun _ _ => .pl .tt) rfl ?_ ?_
  · intro args h pre r h' hs
    unfold sProveQ at hs
    split at hs
    · cases hs; exact ⟨rfl, rfl, Nat.le_of_ble_eq_true rfl⟩
    · cases hs
  · intro args h pre r h' hs hp
    unfold sProveQ at hs
    split at hs
    rotate_left
    · cases hs
    rename_i k gg sz0 n1 get0 fr ty sz n0 get
    cases hs
    obtain ⟨hK, rfl, rfl, rfl, rfl, n, g, hc, hst, hm⟩ := hp
    rw [hc]
    refine ⟨[.glob 1 1 64 (fun i => [.int .u32 (kOf i)]), .data false 65 1 1 fun _ _ => .es false 44 2 n (prG (prL n g))], ⟨hK.same.1, ⟨rfl, rfl, rfl, rfl, fun i j hi hj => ?_⟩, trivial⟩, ?_⟩
    · obtain rfl : i = 0 := by omega
      obtain rfl : j = 0 := by omega
      rw [hc]
      exact es_leq rfl fun i hi => hst.eq hi
    dsimp only [esL, esLP, esN]
    have hL : (prL n g).length = n := prL_len
    have ePR : prL n (prG (prL n g)) = prL n g := by
      have := prL_prG (prL n g)
      rwa [hL] at this
    clear hc hK
    generalize prL n g = L at hL ePR ⊢
    unfold sMake
    generalize hg0 : (List.length : List PP → Nat) = g0
    try unfold prG
    try unfold leafG
    try unfold esL
    generalize ho0 : @prK = zo0, ho1 : @prV = zo1, ho2 : @prL = zo2, ho3 : @KsAt = zo3, ho4 : @kOf = zo4, ho5 : @lK = zo5, ho6 : @lV = zo6, ho7 : @lI = zo7, ho8 : @lP = zo8, ho9 : @lN = zo9, ho10 : @pG = zo10, ho11 : @mkL = zo11, ho12 : @mkC = zo12, ho13 : @mkPre = zo13, ho14 : @lenL = zo14, ho15 : @esPre = zo15
    generalize hA : Arith.std = A
    cbv
    subst hA hg0 ho0 ho1 ho2 ho3 ho4 ho5 ho6 ho7 ho8 ho9 ho10 ho11 ho12 ho13 ho14 ho15
    try simp only [esL, esLP, esN, Cell.old]
    refine Need.mk (Nat.le_refl 1) fun _ => Need.mk ⟨ksAt_self, rfl, rfl, prAt_prG _ L, hm⟩ fun _ => ?_
    simp only [ePR]
    exact ⟨[], [0, 1, 5], ⟨trivial, rfl, (by repeat' (first | exact trivial | exact rfl | apply And.intro | exact (fun _ _ _ _ => Cell.le_refl _) | (intro i hi; rfl) | (intro i hi; exact absurd hi (Nat.not_lt_zero _)))), (by first | decide | exact List.nodup_nil), rfl, by repeat' (first | exact trivial | exact rfl | apply And.intro | exact (fun _ _ _ _ => Cell.le_refl _) | (intro i hi; rfl) | (intro i hi; exact absurd hi (Nat.not_lt_zero _)))⟩⟩

end Go.Proofs.YtbbpgicoklhheaaDoor.Vx
end
