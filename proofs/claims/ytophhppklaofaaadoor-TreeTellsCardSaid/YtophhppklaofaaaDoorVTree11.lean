/- The law TreeTells, by the walker. -/
import Derived.Test.YtophhppklaofaaaDoorM21
namespace Go.Proofs.YtophhppklaofaaaDoor.Vx
open Go.RowKit Sha
set_option linter.unusedVariables false
set_option linter.unusedSimpArgs false
def treeTellsPre (gg sz n : Nat) (get : Nat → List CV) (ty one m : Nat) (gets : Nat → List CV) (ty' one' k : Nat) (getw : Nat → List CV) (key val : List UInt8) : Prop := KsAt gg sz n get ∧ ty = 24 ∧ one = 32 ∧ HashesAt m gets ∧ m ≤ 9223372036854775807 ∧ ty' = 24 ∧ one' = 32 ∧ HashesAt k getw ∧ k ≤ 9223372036854775807
theorem hashesEq_self {n : Nat} {get : Nat → List CV} : hashesEq n get n get = true := hashesEq_all fun _ _ => eqH_self _
theorem way_hashes' {m : Nat} {gets : Nat → List CV} {i : Int} (hst : HashesAt m gets) : HashesAt (wayG gets m i).length (hashesG (wayG gets m i)) := by
  unfold wayG
  exact way_hashes (fun j a b => fun k => hOf_range (hst j b) k)
theorem way_len' {m : Nat} {gets : Nat → List CV} {i : Int} : (wayG gets m i).length ≤ m := wayR_len _ m 0 i
def sTreeTells : SpecF
  | [.c (.row 1), .c (.int .i64 i), .c (.int .i64 a), .c (.row 2), .c (.str key), .c (.str val)], [.glob gg sz n get, .elems ty one m gets, .elems ty' one' k getw] => some (treeTellsPre gg sz n get ty one m gets ty' one' k getw key val, .c .tt, [.dead, .dead, .dead])
  | _, _ => none

set_option maxRecDepth 100000 in
set_option maxHeartbeats 16000000 in
theorem treeTellsP : Fn Tryd.prog 15 [0] [(24, 32), (24, 32)] sTreeTells := by
  have hC : CtsOk Tryd.prog [(52, appFn [0] [] sFirst6), (58, appFn [0] [(24, 32)] sFold), (60, appFn [] [(24, 32)] sRFd), (61, appFn [0] [] sLeaf), (62, appPure sRLeaf), (56, appFn [0] [] sNode), (63, appPure sRNode), (64, appFn [0] [] sRoot), (65, appPure sRRoot), (53, appPure sHalf), (66, appPure sRHalf), (55, appFn [0] [(24, 32)] sTop), (67, appFn [] [(24, 32)] sRTop), (57, appFn [0] [(24, 32)] sWay), (68, appFn [] [(24, 32)] sRWay), (59, appFn [] [(24, 32), (24, 32)] sHashes), (54, appPure sDeep), (69, appPure sRDeep)] := CtsOk.cons (Fn.ct first6P) <| CtsOk.cons (Fn.ct fdP) <| CtsOk.cons (Fn.ct rfdP) <| CtsOk.cons (Fn.ct leafP) <| CtsOk.cons (Pure.ct rleafP) <| CtsOk.cons (Fn.ct nodeP) <| CtsOk.cons (Pure.ct rnodeP) <| CtsOk.cons (Fn.ct rootP) <| CtsOk.cons (Pure.ct rrootP) <| CtsOk.cons (Pure.ct halfP) <| CtsOk.cons (Pure.ct rhalfP) <| CtsOk.cons (Fn.ct topP) <| CtsOk.cons (Fn.ct rtopP) <| CtsOk.cons (Fn.ct wayP) <| CtsOk.cons (Fn.ct rwayP) <| CtsOk.cons (Fn.ct hashesP) <| CtsOk.cons (Pure.ct deepP) <| CtsOk.cons (Pure.ct rdeepP) <| CtsOk.nil _
  refine Fn.of (E := tbH) [0] 0 [(7, [(2003, false), (2004, false), (0, true), (1, true), (2, true), (3, true), (4, true), (5, true), (6, true), (7, true), (8, true), (9, false), (10, false)]), (10, [(0, true), (1, true), (3, true), (4, true), (2, false), (5, false), (6, true), (7, true), (8, true), (9, true), (11, true), (12, true), (10, false), (13, false), (14, true), (15, true), (16, true), (17, true), (18, true), (20, true), (21, true), (19, false), (22, false), (23, true), (24, true), (25, true), (26, true), (28, true), (27, false), (29, false), (30, true), (31, true), (32, true), (33, true), (35, true), (34, false), (36, false), (37, true), (38, true), (39, true), (40, true), (41, true), (43, true), (44, true), (42, false), (45, false), (46, false), (47, true), (48, true), (49, true), (50, true), (52, true), (53, true), (51, false), (54, false), (55, true), (56, true), (57, true), (58, true), (59, true), (60, true), (61, true), (62, true), (63, true), (64, true), (65, true), (66, true), (67, true)])] tbH_ok hC (by kernel_rfl) Tryd.func15 rfl rfl rfl (by kernel_rfl) (by kernel_rfl) 3 5 1 ?_ ?_
  · intro args h pre r h' hs
    unfold sTreeTells at hs
    split at hs
    · cases hs; exact ⟨rfl, rfl, Nat.le_of_ble_eq_true rfl⟩
    · cases hs
  · intro args h pre r h' hs hp
    unfold sTreeTells at hs
    split at hs
    rotate_left
    · cases hs
    rename_i i a key val gg sz n get ty one m gets ty' one' k getw
    cases hs
    obtain ⟨hK, rfl, rfl, hst, hm, rfl, rfl, hsw, hk⟩ := hp
    refine ⟨[.glob 0 1 64 (fun i => [.int .u32 (kOf i)]), .elems 24 32 m (fun i => hashC (hOf (gets i))), .elems 24 32 k (fun i => hashC (hOf (getw i)))], ⟨hK.same.1, hst.same.1, hsw.same.1, trivial⟩, ?_⟩
    clear hK
    unfold sFirst6 sFold sRFd
    generalize hg0 : (List.length : List (Nat → Int) → Nat) = g0
    generalize ho0 : @hf = zo0, ho1 : @hOf = zo1, ho2 : @topG = zo2, ho3 : @topPre0 = zo3, ho4 : @HashesAt = zo4, ho5 : @KsAt = zo5, ho6 : @cutC = zo6, ho7 : @kOf = zo7, ho8 : @HashC = zo8, ho9 : @u8s = zo9, ho10 : @nodeF = zo10, ho11 : @nodePre = zo11, ho12 : @wayG = zo12, ho13 : @wayPre0 = zo13, ho14 : @hashesG = zo14, ho15 : @fdB = zo15, ho16 : @fdH = zo16, ho17 : @fdPre = zo17, ho18 : @deep = zo18, ho19 : @hashesEq = zo19, ho20 : @hashesPre = zo20, ho21 : @leafF = zo21, ho22 : @leafPre = zo22, ho23 : @rleafPre = zo23, ho24 : @rnodePre = zo24, ho25 : @rtopPre0 = zo25, ho26 : @rwayPre0 = zo26, ho27 : @rfdPre0 = zo27, ho28 : @rootF = zo28, ho29 : @rootPre = zo29
    generalize hs0 : @sLeaf = zs0, hs1 : @sRLeaf = zs1, hs2 : @sNode = zs2, hs3 : @sRNode = zs3, hs4 : @sRoot = zs4, hs5 : @sRRoot = zs5, hs6 : @sHalf = zs6, hs7 : @sRHalf = zs7, hs8 : @sTop = zs8, hs9 : @sRTop = zs9, hs10 : @sWay = zs10, hs11 : @sRWay = zs11, hs12 : @sHashes = zs12, hs13 : @sDeep = zs13, hs14 : @sRDeep = zs14
    generalize hA : Arith.std = A
    cbv
    subst hA hg0 ho0 ho1 ho2 ho3 ho4 ho5 ho6 ho7 ho8 ho9 ho10 ho11 ho12 ho13 ho14 ho15 ho16 ho17 ho18 ho19 ho20 ho21 ho22 ho23 ho24 ho25 ho26 ho27 ho28 ho29 hs0 hs1 hs2 hs3 hs4 hs5 hs6 hs7 hs8 hs9 hs10 hs11 hs12 hs13 hs14
    unfold sLeaf sRLeaf
    generalize hg0 : (List.length : List (Nat → Int) → Nat) = g0
    generalize ho0 : @hf = zo0, ho1 : @hOf = zo1, ho2 : @topG = zo2, ho3 : @topPre0 = zo3, ho4 : @HashesAt = zo4, ho5 : @KsAt = zo5, ho6 : @cutC = zo6, ho7 : @kOf = zo7, ho8 : @HashC = zo8, ho9 : @u8s = zo9, ho10 : @nodeF = zo10, ho11 : @nodePre = zo11, ho12 : @wayG = zo12, ho13 : @wayPre0 = zo13, ho14 : @hashesG = zo14, ho15 : @fdB = zo15, ho16 : @fdH = zo16, ho17 : @fdPre = zo17, ho18 : @deep = zo18, ho19 : @hashesEq = zo19, ho20 : @hashesPre = zo20, ho21 : @leafF = zo21, ho22 : @leafPre = zo22, ho23 : @rleafPre = zo23, ho24 : @rnodePre = zo24, ho25 : @rtopPre0 = zo25, ho26 : @rwayPre0 = zo26, ho27 : @rfdPre0 = zo27, ho28 : @rootF = zo28, ho29 : @rootPre = zo29
    generalize hs0 : @sNode = zs0, hs1 : @sRNode = zs1, hs2 : @sRoot = zs2, hs3 : @sRRoot = zs3, hs4 : @sHalf = zs4, hs5 : @sRHalf = zs5, hs6 : @sTop = zs6, hs7 : @sRTop = zs7, hs8 : @sWay = zs8, hs9 : @sRWay = zs9, hs10 : @sHashes = zs10, hs11 : @sDeep = zs11, hs12 : @sRDeep = zs12
    generalize hA : Arith.std = A
    cbv
    subst hA hg0 ho0 ho1 ho2 ho3 ho4 ho5 ho6 ho7 ho8 ho9 ho10 ho11 ho12 ho13 ho14 ho15 ho16 ho17 ho18 ho19 ho20 ho21 ho22 ho23 ho24 ho25 ho26 ho27 ho28 ho29 hs0 hs1 hs2 hs3 hs4 hs5 hs6 hs7 hs8 hs9 hs10 hs11 hs12
    unfold sNode sRNode
    generalize hg0 : (List.length : List (Nat → Int) → Nat) = g0
    generalize ho0 : @hf = zo0, ho1 : @hOf = zo1, ho2 : @topG = zo2, ho3 : @topPre0 = zo3, ho4 : @HashesAt = zo4, ho5 : @KsAt = zo5, ho6 : @cutC = zo6, ho7 : @kOf = zo7, ho8 : @HashC = zo8, ho9 : @u8s = zo9, ho10 : @nodeF = zo10, ho11 : @nodePre = zo11, ho12 : @wayG = zo12, ho13 : @wayPre0 = zo13, ho14 : @hashesG = zo14, ho15 : @fdB = zo15, ho16 : @fdH = zo16, ho17 : @fdPre = zo17, ho18 : @deep = zo18, ho19 : @hashesEq = zo19, ho20 : @hashesPre = zo20, ho21 : @leafF = zo21, ho22 : @leafPre = zo22, ho23 : @rleafPre = zo23, ho24 : @rnodePre = zo24, ho25 : @rtopPre0 = zo25, ho26 : @rwayPre0 = zo26, ho27 : @rfdPre0 = zo27, ho28 : @rootF = zo28, ho29 : @rootPre = zo29
    generalize hs0 : @sRoot = zs0, hs1 : @sRRoot = zs1, hs2 : @sHalf = zs2, hs3 : @sRHalf = zs3, hs4 : @sTop = zs4, hs5 : @sRTop = zs5, hs6 : @sWay = zs6, hs7 : @sRWay = zs7, hs8 : @sHashes = zs8, hs9 : @sDeep = zs9, hs10 : @sRDeep = zs10
    generalize hA : Arith.std = A
    cbv
    subst hA hg0 ho0 ho1 ho2 ho3 ho4 ho5 ho6 ho7 ho8 ho9 ho10 ho11 ho12 ho13 ho14 ho15 ho16 ho17 ho18 ho19 ho20 ho21 ho22 ho23 ho24 ho25 ho26 ho27 ho28 ho29 hs0 hs1 hs2 hs3 hs4 hs5 hs6 hs7 hs8 hs9 hs10
    unfold sRoot sRRoot
    generalize hg0 : (List.length : List (Nat → Int) → Nat) = g0
    generalize ho0 : @hf = zo0, ho1 : @hOf = zo1, ho2 : @topG = zo2, ho3 : @topPre0 = zo3, ho4 : @HashesAt = zo4, ho5 : @KsAt = zo5, ho6 : @cutC = zo6, ho7 : @kOf = zo7, ho8 : @HashC = zo8, ho9 : @u8s = zo9, ho10 : @nodeF = zo10, ho11 : @nodePre = zo11, ho12 : @wayG = zo12, ho13 : @wayPre0 = zo13, ho14 : @hashesG = zo14, ho15 : @fdB = zo15, ho16 : @fdH = zo16, ho17 : @fdPre = zo17, ho18 : @deep = zo18, ho19 : @hashesEq = zo19, ho20 : @hashesPre = zo20, ho21 : @leafF = zo21, ho22 : @leafPre = zo22, ho23 : @rleafPre = zo23, ho24 : @rnodePre = zo24, ho25 : @rtopPre0 = zo25, ho26 : @rwayPre0 = zo26, ho27 : @rfdPre0 = zo27, ho28 : @rootF = zo28, ho29 : @rootPre = zo29
    generalize hs0 : @sHalf = zs0, hs1 : @sRHalf = zs1, hs2 : @sTop = zs2, hs3 : @sRTop = zs3, hs4 : @sWay = zs4, hs5 : @sRWay = zs5, hs6 : @sHashes = zs6, hs7 : @sDeep = zs7, hs8 : @sRDeep = zs8
    generalize hA : Arith.std = A
    cbv
    subst hA hg0 ho0 ho1 ho2 ho3 ho4 ho5 ho6 ho7 ho8 ho9 ho10 ho11 ho12 ho13 ho14 ho15 ho16 ho17 ho18 ho19 ho20 ho21 ho22 ho23 ho24 ho25 ho26 ho27 ho28 ho29 hs0 hs1 hs2 hs3 hs4 hs5 hs6 hs7 hs8
    unfold sHalf sRHalf sTop sRTop
    generalize hg0 : (List.length : List (Nat → Int) → Nat) = g0
    generalize ho0 : @hf = zo0, ho1 : @hOf = zo1, ho2 : @topG = zo2, ho3 : @topPre0 = zo3, ho4 : @HashesAt = zo4, ho5 : @KsAt = zo5, ho6 : @cutC = zo6, ho7 : @kOf = zo7, ho8 : @HashC = zo8, ho9 : @u8s = zo9, ho10 : @nodeF = zo10, ho11 : @nodePre = zo11, ho12 : @wayG = zo12, ho13 : @wayPre0 = zo13, ho14 : @hashesG = zo14, ho15 : @fdB = zo15, ho16 : @fdH = zo16, ho17 : @fdPre = zo17, ho18 : @deep = zo18, ho19 : @hashesEq = zo19, ho20 : @hashesPre = zo20, ho21 : @leafF = zo21, ho22 : @leafPre = zo22, ho23 : @rleafPre = zo23, ho24 : @rnodePre = zo24, ho25 : @rtopPre0 = zo25, ho26 : @rwayPre0 = zo26, ho27 : @rfdPre0 = zo27, ho28 : @rootF = zo28, ho29 : @rootPre = zo29
    generalize hs0 : @sWay = zs0, hs1 : @sRWay = zs1, hs2 : @sHashes = zs2, hs3 : @sDeep = zs3, hs4 : @sRDeep = zs4
    generalize hA : Arith.std = A
    cbv
    subst hA hg0 ho0 ho1 ho2 ho3 ho4 ho5 ho6 ho7 ho8 ho9 ho10 ho11 ho12 ho13 ho14 ho15 ho16 ho17 ho18 ho19 ho20 ho21 ho22 ho23 ho24 ho25 ho26 ho27 ho28 ho29 hs0 hs1 hs2 hs3 hs4
    unfold sWay sRWay sHashes
    generalize hg0 : (List.length : List (Nat → Int) → Nat) = g0
    generalize ho0 : @hf = zo0, ho1 : @hOf = zo1, ho2 : @topG = zo2, ho3 : @topPre0 = zo3, ho4 : @HashesAt = zo4, ho5 : @KsAt = zo5, ho6 : @cutC = zo6, ho7 : @kOf = zo7, ho8 : @HashC = zo8, ho9 : @u8s = zo9, ho10 : @nodeF = zo10, ho11 : @nodePre = zo11, ho12 : @wayG = zo12, ho13 : @wayPre0 = zo13, ho14 : @hashesG = zo14, ho15 : @fdB = zo15, ho16 : @fdH = zo16, ho17 : @fdPre = zo17, ho18 : @deep = zo18, ho19 : @hashesEq = zo19, ho20 : @hashesPre = zo20, ho21 : @leafF = zo21, ho22 : @leafPre = zo22, ho23 : @rleafPre = zo23, ho24 : @rnodePre = zo24, ho25 : @rtopPre0 = zo25, ho26 : @rwayPre0 = zo26, ho27 : @rfdPre0 = zo27, ho28 : @rootF = zo28, ho29 : @rootPre = zo29
    generalize hs0 : @sDeep = zs0, hs1 : @sRDeep = zs1
    generalize hA : Arith.std = A
    cbv
    subst hA hg0 ho0 ho1 ho2 ho3 ho4 ho5 ho6 ho7 ho8 ho9 ho10 ho11 ho12 ho13 ho14 ho15 ho16 ho17 ho18 ho19 ho20 ho21 ho22 ho23 ho24 ho25 ho26 ho27 ho28 ho29 hs0 hs1
    unfold sDeep sRDeep
    generalize hg0 : (List.length : List (Nat → Int) → Nat) = g0
    generalize ho0 : @hf = zo0, ho1 : @hOf = zo1, ho2 : @topG = zo2, ho3 : @topPre0 = zo3, ho4 : @HashesAt = zo4, ho5 : @KsAt = zo5, ho6 : @cutC = zo6, ho7 : @kOf = zo7, ho8 : @HashC = zo8, ho9 : @u8s = zo9, ho10 : @nodeF = zo10, ho11 : @nodePre = zo11, ho12 : @wayG = zo12, ho13 : @wayPre0 = zo13, ho14 : @hashesG = zo14, ho15 : @fdB = zo15, ho16 : @fdH = zo16, ho17 : @fdPre = zo17, ho18 : @deep = zo18, ho19 : @hashesEq = zo19, ho20 : @hashesPre = zo20, ho21 : @leafF = zo21, ho22 : @leafPre = zo22, ho23 : @rleafPre = zo23, ho24 : @rnodePre = zo24, ho25 : @rtopPre0 = zo25, ho26 : @rwayPre0 = zo26, ho27 : @rfdPre0 = zo27, ho28 : @rootF = zo28, ho29 : @rootPre = zo29
    generalize hA : Arith.std = A
    cbv
    subst hA hg0 ho0 ho1 ho2 ho3 ho4 ho5 ho6 ho7 ho8 ho9 ho10 ho11 ho12 ho13 ho14 ho15 ho16 ho17 ho18 ho19 ho20 ho21 ho22 ho23 ho24 ho25 ho26 ho27 ho28 ho29
    refine Need.mk ksAt_self fun _ => ?_
    refine Ife.mk (fun _ => Need.mk ksAt_self fun _ => by exact ⟨[0, 1, 2], ⟨rfl, by repeat' (first | exact trivial | exact rfl | apply And.intro), by decide, rfl, by repeat' (first | exact trivial | exact rfl | apply And.intro)⟩⟩) (fun h1 => ?_)
    refine Ife.mk (fun _ => Need.mk ksAt_self fun _ => by exact ⟨[0, 1, 2], ⟨rfl, by repeat' (first | exact trivial | exact rfl | apply And.intro), by decide, rfl, by repeat' (first | exact trivial | exact rfl | apply And.intro)⟩⟩) (fun h2 => ?_)
    refine Ife.mk (fun _ => Need.mk ksAt_self fun _ => by exact ⟨[0, 1, 2], ⟨rfl, by repeat' (first | exact trivial | exact rfl | apply And.intro), by decide, rfl, by repeat' (first | exact trivial | exact rfl | apply And.intro)⟩⟩) (fun h3 => ?_)
    refine Ife.mk (fun _ => Need.mk ksAt_self fun _ => by exact ⟨[0, 1, 2], ⟨rfl, by repeat' (first | exact trivial | exact rfl | apply And.intro), by decide, rfl, by repeat' (first | exact trivial | exact rfl | apply And.intro)⟩⟩) (fun h4 => ?_)
    have h1 : ¬ (40 : Int) < (m : Int) := of_decide_eq_false (p := (40 : Int) < (m : Int)) h1
    have h2 : ¬ (40 : Int) < (k : Int) := of_decide_eq_false (p := (40 : Int) < (k : Int)) h2
    have h3 : ¬ (300 : Int) < (key.length : Int) := of_decide_eq_false (p := (300 : Int) < (key.length : Int)) h3
    have h4 : ¬ (300 : Int) < (val.length : Int) := of_decide_eq_false (p := (300 : Int) < (val.length : Int)) h4
    have cG : HashesAt m (fun i => hashC (hOf (gets i))) := fun j hj => ⟨_, rfl, hOf_range (hst j hj)⟩
    have cW : HashesAt k (fun i => hashC (hOf (getw i))) := fun j hj => ⟨_, rfl, hOf_range (hsw j hj)⟩
    have wH := way_hashes' (i := i) cG
    have wL : (wayG (fun i => hashC (hOf (gets i))) m i).length ≤ 140737488355328 := Nat.le_trans (way_len' (gets := fun i => hashC (hOf (gets i))) (m := m) (i := i)) (by omega)
    refine Ife.mk (fun h0 => ?_) (fun h0 => ?_)
    · have h0 : (0 : Int) < (m : Int) := of_decide_eq_true (p := (0 : Int) < (m : Int)) h0
      have hA : HashC (hashC (hOf (gets (0 : Int).toNat))) := cG (0 : Int).toNat (by show 0 < m; omega)
      have hB : HashC (hashC (hOf (gets ((m : Int) - 1).toNat))) := cG ((m : Int) - 1).toNat (by omega)
      refine Need.mk (by show (0 : Int) ≤ 0 ∧ (0 : Int) < (m : Int); omega) fun _ => Need.mk (by show (0 : Int).toNat < m; show 0 < m; omega) fun _ => Need.mk (by show fitStd .i64 ((m : Int) - 1); unfold fitStd; omega) fun _ => Need.mk (by show (0 : Int) ≤ (m : Int) - 1 ∧ (m : Int) - 1 < (m : Int); omega) fun _ => Need.mk (by show ((m : Int) - 1).toNat < m; omega) fun _ => ?_
      refine Need.mk ⟨ksAt_self, rfl, rfl, cW, hA, by omega⟩ fun _ => Need.mk ⟨rfl, rfl, cW, hA, by omega⟩ fun _ => ?_
      refine Need.mk ⟨ksAt_self, by omega, by omega⟩ fun _ => Need.mk ⟨by omega, by omega⟩ fun _ => ?_
      refine Ife.mk (fun _ => ?_) (fun hb => absurd ((eqH_self (leafF key val)).symm.trans hb) (by decide))
      refine Need.mk ⟨ksAt_self, hA, hB⟩ fun _ => Need.mk ⟨hA, hB⟩ fun _ => ?_
      refine Ife.mk (fun _ => ?_) (fun hb => absurd ((eqH_self (nodeF (u8s (hashC (hOf (gets (0 : Int).toNat)))) (u8s (hashC (hOf (gets ((m : Int) - 1).toNat)))))).symm.trans hb) (by decide))
      refine Need.mk ⟨ksAt_self, hA⟩ fun _ => Need.mk hA fun _ => ?_
      refine Ife.mk (fun _ => ?_) (fun hb => absurd ((eqH_self (rootF a (u8s (hashC (hOf (gets (0 : Int).toNat)))))).symm.trans hb) (by decide))
      refine Need.mk trivial fun _ => Need.mk trivial fun _ => ?_
      refine Ife.mk (fun _ => ?_) (fun hb => absurd ((decide_eq_true (rfl : hf a = hf a)).symm.trans hb) (by decide))
      refine Need.mk ⟨ksAt_self, rfl, rfl, cG, by omega⟩ fun _ => Need.mk ⟨rfl, rfl, cG, by omega⟩ fun _ => ?_
      refine Ife.mk (fun _ => ?_) (fun hb => absurd ((eqH_self (topG (fun i => hashC (hOf (gets i))) m)).symm.trans hb) (by decide))
      refine Need.mk ⟨ksAt_self, rfl, rfl, cG, by omega⟩ fun _ => Need.mk ⟨rfl, rfl, cG, by omega⟩ fun _ => Need.mk ⟨rfl, rfl, wH, wL, rfl, rfl, wH, wL⟩ fun _ => ?_
      refine Ife.mk (fun _ => ?_) (fun hb => absurd ((hashesEq_self (n := (wayG (fun i => hashC (hOf (gets i))) m i).length) (get := hashesG (wayG (fun i => hashC (hOf (gets i))) m i))).symm.trans hb) (by decide))
      refine Need.mk trivial fun _ => Need.mk trivial fun _ => ?_
      refine Ife.mk (fun _ => ?_) (fun hb => absurd ((decide_eq_true (rfl : deep a i = deep a i)).symm.trans hb) (by decide))
      refine Ife.mk (fun _ => ?_) (fun hb => absurd ((eqH_self (fdH (fun i => hashC (hOf (getw i))) (hashC (hOf (gets (0 : Int).toNat))) k a i)).symm.trans hb) (by decide))
      have qe : (fdB k a i == fdB k a i) = true := beq_self_eq_true _
      exact ⟨[0, 1, 2], ⟨rfl, qe, by decide, rfl, by repeat' (first | exact trivial | exact rfl | apply And.intro)⟩⟩
    · have hA : HashC (hashC (fun _ => 0)) := ⟨_, rfl, fun j => by omega⟩
      have hB := hA
      refine Need.mk ⟨ksAt_self, rfl, rfl, cW, hA, by omega⟩ fun _ => Need.mk ⟨rfl, rfl, cW, hA, by omega⟩ fun _ => ?_
      refine Need.mk ⟨ksAt_self, by omega, by omega⟩ fun _ => Need.mk ⟨by omega, by omega⟩ fun _ => ?_
      refine Ife.mk (fun _ => ?_) (fun hb => absurd ((eqH_self (leafF key val)).symm.trans hb) (by decide))
      refine Need.mk ⟨ksAt_self, hA, hB⟩ fun _ => Need.mk ⟨hA, hB⟩ fun _ => ?_
      refine Ife.mk (fun _ => ?_) (fun hb => absurd ((eqH_self (nodeF (u8s (hashC (fun _ => 0))) (u8s (hashC (fun _ => 0))))).symm.trans hb) (by decide))
      refine Need.mk ⟨ksAt_self, hA⟩ fun _ => Need.mk hA fun _ => ?_
      refine Ife.mk (fun _ => ?_) (fun hb => absurd ((eqH_self (rootF a (u8s (hashC (fun _ => 0))))).symm.trans hb) (by decide))
      refine Need.mk trivial fun _ => Need.mk trivial fun _ => ?_
      refine Ife.mk (fun _ => ?_) (fun hb => absurd ((decide_eq_true (rfl : hf a = hf a)).symm.trans hb) (by decide))
      refine Need.mk ⟨ksAt_self, rfl, rfl, cG, by omega⟩ fun _ => Need.mk ⟨rfl, rfl, cG, by omega⟩ fun _ => ?_
      refine Ife.mk (fun _ => ?_) (fun hb => absurd ((eqH_self (topG (fun i => hashC (hOf (gets i))) m)).symm.trans hb) (by decide))
      refine Need.mk ⟨ksAt_self, rfl, rfl, cG, by omega⟩ fun _ => Need.mk ⟨rfl, rfl, cG, by omega⟩ fun _ => Need.mk ⟨rfl, rfl, wH, wL, rfl, rfl, wH, wL⟩ fun _ => ?_
      refine Ife.mk (fun _ => ?_) (fun hb => absurd ((hashesEq_self (n := (wayG (fun i => hashC (hOf (gets i))) m i).length) (get := hashesG (wayG (fun i => hashC (hOf (gets i))) m i))).symm.trans hb) (by decide))
      refine Need.mk trivial fun _ => Need.mk trivial fun _ => ?_
      refine Ife.mk (fun _ => ?_) (fun hb => absurd ((decide_eq_true (rfl : deep a i = deep a i)).symm.trans hb) (by decide))
      refine Ife.mk (fun _ => ?_) (fun hb => absurd ((eqH_self (fdH (fun i => hashC (hOf (getw i))) (hashC (fun _ => 0)) k a i)).symm.trans hb) (by decide))
      have qe : (fdB k a i == fdB k a i) = true := beq_self_eq_true _
      exact ⟨[0, 1, 2], ⟨rfl, qe, by decide, rfl, by repeat' (first | exact trivial | exact rfl | apply And.intro)⟩⟩

end Go.Proofs.YtophhppklaofaaaDoor.Vx
namespace Go.Proofs.YtophhppklaofaaaDoor
open Go.RowKit
set_option linter.unusedVariables false
theorem strOfT (s : ByteArray) : ∃ l : List UInt8, s = ⟨l.toArray⟩ := ⟨s.data.toList, by cases s; simp⟩
theorem treeTellsWalk (w : World) (hk : ∀ i, i < 64 → w.cell? ⟨0, i, none⟩ = some (.int .u32 (Sha.kOf i))) (a : Option Addr) (cap : Nat) (fs : List (Nat → Int)) (hs : SlIn w a 32 cap (fs.map hashV)) (hf : ∀ f ∈ fs, ∀ i, 0 ≤ f i ∧ f i < 256) (i : Int) (hi : -9223372036854775808 ≤ i ∧ i ≤ 9223372036854775807) (n : Int) (hn : -9223372036854775808 ≤ n ∧ n ≤ 9223372036854775807) (a2 : Option Addr) (cap2 : Nat) (gs : List (Nat → Int)) (hs2 : SlIn w a2 32 cap2 (gs.map hashV)) (hg : ∀ f ∈ gs, ∀ i, 0 ≤ f i ∧ f i < 256) (key : ByteArray) (hkey : key.size ≤ maxLen) (val : ByteArray) (hval : val.size ≤ maxLen) :
    Calls Tryd.prog 15 #[.slice a fs.length cap, .int .i64 i, .int .i64 n, .slice a2 gs.length cap2, .string key, .string val] w fun e w' => e = .returned (.bool true) ∧ Below w.heap.size w w' := by
  obtain ⟨kl, rfl⟩ := strOfT key
  obtain ⟨vl, rfl⟩ := strOfT val
  obtain ⟨p, hp, g⟩ := hashes_good hs
  obtain ⟨p2, hp2, g2⟩ := hashes_good hs2
  have hm := hs.max
  have hm2 := hs2.max
  simp only [List.length_map] at hm hm2
  rw [← hp, ← hp2]
  refine Calls.mono (Vx.treeTellsP.run [.c (.row 1), .c (.int .i64 i), .c (.int .i64 n), .c (.row 2), .c (.str kl), .c (.str vl)] [.glob 0 1 64 (fun i => [.int .u32 (Sha.kOf i)]), .elems 24 32 fs.length (fun i => Vx.hashC (fs.getD i fun _ => 0)), .elems 24 32 gs.length (fun i => Vx.hashC (gs.getD i fun _ => 0))] _ _ _ rfl
    ⟨Vx.ksAt_self, rfl, rfl, hashes_at hf, Nat.le_trans hm (by decide), rfl, rfl, hashes_at hg, Nat.le_trans hm2 (by decide)⟩ [⟨0, undef, 0⟩, p, p2] w _ (Vx.Rel.addView (Vx.Rel.addView (Vx.relGlob hk) 24 g) 24 g2) ⟨_, _, rfl, (by obtain ⟨a', cap', e, _⟩ := g.sl; simp [Vx.SV.is, Vx.CV.den, e, Vx.one] : Vx.SV.is [⟨0, undef, 0⟩, p, p2] (.c (.row 1)) p.v), _, _, rfl, rfl, _, _, rfl, rfl, _, _, rfl, (by obtain ⟨a', cap', e, _⟩ := g2.sl; simp [Vx.SV.is, Vx.CV.den, e, Vx.one] : Vx.SV.is [⟨0, undef, 0⟩, p, p2] (.c (.row 2)) p2.v), _, _, rfl, rfl, _, _, rfl, rfl, rfl⟩) fun e W' he => ?_
  obtain ⟨u, ρ', rfl, hu, hr⟩ := he
  obtain rfl : .bool true = u := Option.some.inj hu
  exact ⟨rfl, Vx.Rel.toBelow hr⟩
end Go.Proofs.YtophhppklaofaaaDoor
